import JvmDerived
import JvmDerived.Pilot.@@N@@Statement
import JvmDerived.Pilot.@@N@@Code
set_option linter.unusedVariables false
set_option linter.unusedSimpArgs false
namespace Jvm.RoadKit
open Sem ClassFile Op Lib Jvm.Stand Jvm.Free Jvm.LawKit
section New
variable {p : Program} {l : Launch} {e : Env} {R : Room} {s : State} {m : MethodId} {args : Array Value} {below : List Frame} {meth : Method} {c : Code} {T T' : State} {locs : List Loc} {cells slots : Nat}
/-- what a body leaves: the value, and what is known of the heap and of the places written -/
def QV (w : Option Value) (P : Heap → List Loc → Prop) (v : Option Value) (h : Heap) (L : List Loc) : Prop := v = w ∧ P h L
/-- a body that writes nothing -/
def PureP (n0 : Nat) (h0 : Heap) (h : Heap) (L : List Loc) : Prop := Fr n0 L ∧ h = h0
/-- from here the body returns w and leaves P -/
def Got (p : Program) (e : Env) (below : List Frame) (s : State) (P : Heap → List Loc → Prop) (ck cs : Nat) (w : Option Value) (T : State) (g : JFrame) : Prop :=
  ∃ s₂ L, Steps p.tables e below (T.setTop g) s₂ ∧ s₂.status = .running ∧ Ended s₂ below (.returned w) ∧ P s₂.heap L ∧ FrameEnd s (.returned w) s₂ L ck cs
variable {P : Heap → List Loc → Prop} {ck cs : Nat} {w : Option Value} {g g' : JFrame}
theorem Got.step (h : ∀ t, Steps p.tables e below (T'.setTop g') t → Steps p.tables e below (T.setTop g) t) (k : Got p e below s P ck cs w T' g') : Got p e below s P ck cs w T g := by
  obtain ⟨s₂, L, h1, r⟩ := k
  exact ⟨s₂, L, h _ h1, r⟩
theorem Got.hop (h : Steps p.tables e below (T.setTop g) (T'.setTop g')) (k : Got p e below s P ck cs w T' g') : Got p e below s P ck cs w T g := Got.step (fun _ q => h.trans q) k
theorem Got.ite {q : Prop} [Decidable q] {x y : Int32} (h1 : q → Got p e below s P ck cs (some (.int x)) T g) (h2 : ¬ q → Got p e below s P ck cs (some (.int y)) T g) : Got p e below s P ck cs (some (.int (if q then x else y))) T g := by
  by_cases h : q
  · rw [if_pos h]; exact h1 h
  · rw [if_neg h]; exact h2 h
theorem Got.iteJ {q : Prop} [Decidable q] {x y : Int64} (h1 : q → Got p e below s P ck cs (some (.long x)) T g) (h2 : ¬ q → Got p e below s P ck cs (some (.long y)) T g) : Got p e below s P ck cs (some (.long (if q then x else y))) T g := by
  by_cases h : q
  · rw [if_pos h]; exact h1 h
  · rw [if_neg h]; exact h2 h
theorem Got.iteR {q : Prop} [Decidable q] {x y : Addr} (h1 : q → Got p e below s P ck cs (some (.ref x)) T g) (h2 : ¬ q → Got p e below s P ck cs (some (.ref y)) T g) : Got p e below s P ck cs (some (.ref (if q then x else y))) T g := by
  by_cases h : q
  · rw [if_pos h]; exact h1 h
  · rw [if_neg h]; exact h2 h
theorem Got.body {n : Nat} {as' : Array Value} (hg : entryFrame m as' n = g) (k : Got p e below s P ck cs w T g) :
    ∃ s₂ o, Steps p.tables e below (T.setTop (entryFrame m as' n)) s₂ ∧ s₂.status = .running ∧ Ended s₂ below o ∧ ∃ v L, o = .returned v ∧ QV w P v s₂.heap L ∧ FrameEnd s o s₂ L ck cs := by
  obtain ⟨s₂, L, h1, h2, h3, h4, h5⟩ := k
  exact ⟨s₂, _, by rw [hg]; exact h1, h2, h3, w, L, rfl, ⟨rfl, h4⟩, h5⟩
theorem Got.retN (X : Stand p l e R s m args below meth c T locs cells slots) (hx : p.tables.exec = Jvm.exec) {t : FieldType} (hret : meth.sig.returnType = some t) (ht : t = .boolean ∨ t = .byte ∨ t = .char ∨ t = .short) (hlk : meth.locks = false) {pc : Nat} {Ls : Array Slot} {z y : Int32} {rest : List Value}
    (hd : decode c.code pc = .ok (.ireturn, 1)) (hy : nar t z = y) (hP : P T.heap locs) (hc : cells ≤ ck) (hs : slots ≤ cs) : Got p e below s P ck cs (some (.int y)) T (mkF m pc Ls (.int z :: rest)) := by
  subst hy
  obtain ⟨fs, hr, hrun, hended, hW, hsame⟩ := X.leave (v := some (.int (nar t z))) (fun h => by rw [hret] at h; cases h) hlk
  exact ⟨_, locs, Jvm.RoadKit.retN X hx hret ht hd hr, hrun, hended, hP, ⟨_, rfl⟩, hW, hsame.mono hc hs⟩
theorem Got.retI (X : Stand p l e R s m args below meth c T locs cells slots) (hx : p.tables.exec = Jvm.exec) (hret : meth.sig.returnType = some .int) (hlk : meth.locks = false) {pc : Nat} {Ls : Array Slot} {z y : Int32} {rest : List Value}
    (hd : decode c.code pc = .ok (.ireturn, 1)) (hy : z = y) (hP : P T.heap locs) (hc : cells ≤ ck) (hs : slots ≤ cs) : Got p e below s P ck cs (some (.int y)) T (mkF m pc Ls (.int z :: rest)) := by
  subst hy
  obtain ⟨fs, hr, hrun, hended, hW, hsame⟩ := X.leave (v := some (.int z)) (fun h => by rw [hret] at h; cases h) hlk
  exact ⟨_, locs, retOut X hx hret rfl (Or.inl ⟨rfl, Or.inl rfl, z, rfl⟩) hd hr, hrun, hended, hP, ⟨_, rfl⟩, hW, hsame.mono hc hs⟩
theorem Got.retJ (X : Stand p l e R s m args below meth c T locs cells slots) (hx : p.tables.exec = Jvm.exec) (hret : meth.sig.returnType = some .long) (hlk : meth.locks = false) {pc : Nat} {Ls : Array Slot} {z y : Int64}
    (hd : decode c.code pc = .ok (.lreturn, 1)) (hy : z = y) (hP : P T.heap locs) (hc : cells ≤ ck) (hs : slots ≤ cs) : Got p e below s P ck cs (some (.long y)) T (mkF m pc Ls [.long z]) := by
  subst hy
  obtain ⟨fs, hr, hrun, hended, hW, hsame⟩ := X.leave (v := some (.long z)) (fun h => by rw [hret] at h; cases h) hlk
  exact ⟨_, locs, X.lreturnOut hx hret hd hr, hrun, hended, hP, ⟨_, rfl⟩, hW, hsame.mono hc hs⟩
theorem Got.retV (X : Stand p l e R s m args below meth c T locs cells slots) (hx : p.tables.exec = Jvm.exec) (hret : meth.sig.returnType = none) (hlk : meth.locks = false) {pc : Nat} {Ls : Array Slot}
    (hd : decode c.code pc = .ok (.return_, 1)) (hP : P T.heap locs) (hc : cells ≤ ck) (hs : slots ≤ cs) : Got p e below s P ck cs none T (mkF m pc Ls []) := by
  obtain ⟨fs, hr, hrun, hended, hW, hsame⟩ := X.leave (v := none) (fun _ => rfl) hlk
  exact ⟨_, locs, X.returnOut hx hret hd hr, hrun, hended, hP, ⟨_, rfl⟩, hW, hsame.mono hc hs⟩
theorem Got.retA (X : Stand p l e R s m args below meth c T locs cells slots) (hx : p.tables.exec = Jvm.exec) {t : FieldType} (hret : meth.sig.returnType = some t) (ht : t.isReference = true) (hlk : meth.locks = false) {pc : Nat} {Ls : Array Slot} {a : Addr} {rest : List Value}
    (hd : decode c.code pc = .ok (.areturn, 1)) (hn : narrow t (.ref a) = .ref a) (hP : P T.heap locs) (hc : cells ≤ ck) (hs : slots ≤ cs) : Got p e below s P ck cs (some (.ref a)) T (mkF m pc Ls (.ref a :: rest)) := by
  obtain ⟨fs, hr, hrun, hended, hW, hsame⟩ := X.leave (v := some (.ref a)) (fun h => by rw [hret] at h; cases h) hlk
  exact ⟨_, locs, retOut X hx hret hn (Or.inr (Or.inr (Or.inr (Or.inr ⟨rfl, ht, rfl⟩)))) hd hr, hrun, hended, hP, ⟨_, rfl⟩, hW, hsame.mono hc hs⟩
theorem remJ {g : JFrame} {target : State} (X : Stand p l e R s m args below meth c T locs cells slots) (hx : p.tables.exec = Jvm.exec) (hg : g.method = m) {x y : Int64} {rest : List Value} (hd : decode c.code g.pc = .ok (.lrem, 1)) (hs : g.stack = .long y :: .long x :: rest) (hy : y ≠ 0)
    (hr : Steps p.tables e below (T.setTop { g with pc := g.pc + 1, stack := .long (x % y) :: rest }) target) : Steps p.tables e below (T.setTop g) target := by
  rw [← lrem_mod x y] at hr
  exact XS.lrem X.here hx hg hd hs hy hr
theorem one_unset : One .unset := Or.inl rfl
theorem one_int (x : Int32) : One (.val (.int x)) := Or.inr ⟨_, rfl, rfl⟩
theorem one_ref (x : Addr) : One (.val (.ref x)) := Or.inr ⟨_, rfl, rfl⟩
theorem narB (x : Int32) : nar .byte x.toInt8.toInt32 = x.toInt8.toInt32 := by simp [nar]
end New
end Jvm.RoadKit
namespace Jvm.RoadKit
open Sem ClassFile Op Lib Jvm.Stand Jvm.Free Jvm.LawKit
section Wide
variable {p : Program} {l : Launch} {e : Env} {R : Room} {s : State} {m : MethodId} {args : Array Value} {below : List Frame} {meth : Method} {c : Code} {T T' : State} {locs : List Loc} {cells slots : Nat}
/-- the end of a walk that has interned a text -/
def FEW (s : State) (o : Outcome) (t : State) (L : List Loc) (k n : Nat) : Prop := (∃ v : Option Value, o = Outcome.returned v) ∧ s.Warmed39 t.vm ∧ s.Booked t.vm t.heap.size ∧ s.sameButNew ({ t with vm := s.vm } : State) L k n
def GotW (p : Program) (e : Env) (below : List Frame) (s : State) (P : Heap → List Loc → Prop) (ck cs : Nat) (w : Option Value) (T : State) (g : JFrame) : Prop :=
  ∃ s₂ L, Steps p.tables e below (T.setTop g) s₂ ∧ s₂.status = .running ∧ Ended s₂ below (.returned w) ∧ P s₂.heap L ∧ FEW s (.returned w) s₂ L ck cs
variable {P : Heap → List Loc → Prop} {ck cs : Nat} {w : Option Value} {g g' : JFrame}
theorem GotW.step (h : ∀ t, Steps p.tables e below (T'.setTop g') t → Steps p.tables e below (T.setTop g) t) (k : GotW p e below s P ck cs w T' g') : GotW p e below s P ck cs w T g := by
  obtain ⟨s₂, L, h1, r⟩ := k
  exact ⟨s₂, L, h _ h1, r⟩
theorem GotW.hop (h : Steps p.tables e below (T.setTop g) (T'.setTop g')) (k : GotW p e below s P ck cs w T' g') : GotW p e below s P ck cs w T g := GotW.step (fun _ q => h.trans q) k
theorem GotW.body {n : Nat} {as' : Array Value} (hg : entryFrame m as' n = g) (k : GotW p e below s P ck cs w T g) :
    ∃ s₂ o, Steps p.tables e below (T.setTop (entryFrame m as' n)) s₂ ∧ s₂.status = .running ∧ Ended s₂ below o ∧ ∃ v L, o = .returned v ∧ QV w P v s₂.heap L ∧ FEW s o s₂ L ck cs := by
  obtain ⟨s₂, L, h1, h2, h3, h4, h5⟩ := k
  exact ⟨s₂, _, by rw [hg]; exact h1, h2, h3, w, L, rfl, ⟨rfl, h4⟩, h5⟩
theorem GotW.retN {sL : State} {vm1 : Vm} {k1 : Nat} (hsL : sL = s.setVm vm1) (hS : s.Since vm1 k1) (hk : k1 ≤ T.heap.size) (X : Stand p l e R sL m args below meth c T locs cells slots) (hx : p.tables.exec = Jvm.exec) {t : FieldType} (hret : meth.sig.returnType = some t) (ht : t = .boolean ∨ t = .byte ∨ t = .char ∨ t = .short) (hlk : meth.locks = false) {pc : Nat} {Ls : Array Slot} {z y : Int32} {rest : List Value}
    (hd : decode c.code pc = .ok (.ireturn, 1)) (hy : nar t z = y) (hP : P T.heap locs) (hc : cells ≤ ck) (hs : slots ≤ cs) : GotW p e below s P ck cs (some (.int y)) T (mkF m pc Ls (.int z :: rest)) := by
  subst hy hsL
  obtain ⟨fs, hr, hrun, hended, hW, hsame⟩ := X.leave (v := some (.int (nar t z))) (fun h => by rw [hret] at h; cases h) hlk
  have E := hS.ended (U := T.setFrames fs) hW hk hsame
  exact ⟨_, locs, Jvm.RoadKit.retN X hx hret ht hd hr, hrun, hended, hP, ⟨_, rfl⟩, E.1, E.2.1, E.2.2.mono hc hs⟩
end Wide
end Jvm.RoadKit
namespace Jvm.Pilot.@@N@@
open Jvm Jvm.ClassFile Sem Op Lib Jvm.Free Jvm.Stand Jvm.LawKit Jvm.RoadKit Bundle Jvm.Pilot.@@N@@.Jvm.D
def ct (bs us : List Int32) (sn : Nat) : Nat → Nat → Int32
  | 0, i => if (bs.getD (sn + i) 0) = (-1 : Int32) then ((0 : Int32) - (0 : Int32)) else ((1 : Int32) - (0 : Int32))
  | k + 1, i => if (bs.getD (sn + i) 0) = (-1 : Int32) then ((0 : Int32) - (1 : Int32)) else (if (((bs.getD (sn + i) 0) &&& (255 : Int32)) - ((us.getD i 0) &&& (255 : Int32))) = 0 then ct bs us sn k (i + 1) else (((bs.getD (sn + i) 0) &&& (255 : Int32)) - ((us.getD i 0) &&& (255 : Int32))))
theorem own_i {i : Nat} (h : i < 2147483648) : (Int32.ofNat i).toInt = i := Int32.toInt_ofNat_of_lt h
theorem own_n32 {i : Nat} (h : i < 2147483648) : (Int32.ofNat i).toNatClampNeg = i := by rw [Int32.toNatClampNeg, own_i h]; rfl
theorem own_one (i : Nat) : Int32.ofNat i + (1 : Int32) = Int32.ofNat (i + 1) := (Int32.ofNat_add i 1).symm
theorem own_lt7 {n : Nat} (h : n < 7) : ¬ Int32.ofNat n < 0 ∧ Int32.ofNat n < 7 := by
  have z : (0 : Int32).toInt = 0 := rfl
  have z7 : (7 : Int32).toInt = 7 := rfl
  rw [Int32.lt_iff_toInt_lt, Int32.lt_iff_toInt_lt, own_i (by omega), z, z7]; omega
theorem own_in7 {sn i : Nat} (hsn : sn ≤ 2) (hi : i ≤ 3) : ¬ (Int32.ofNat sn + Int32.ofNat i) < 0 ∧ (Int32.ofNat sn + Int32.ofNat i) < 7 := by
  rw [← Int32.ofNat_add]; exact own_lt7 (by omega)
theorem own_getD (bs : List Int32) (n : Nat) : (bs.map Value.int).getD n (.int (0 : Int32)) = .int (bs.getD n 0) := by
  rw [List.getD_eq_getElem?_getD, List.getD_eq_getElem?_getD, List.getElem?_map]
  cases bs[n]? <;> rfl
theorem own_rd (bs : List Int32) {sn i : Nat} (h : sn + i < 7) : (bs.map Value.int).getD (Int32.ofNat sn + Int32.ofNat i).toNatClampNeg (.int (0 : Int32)) = .int (bs.getD (sn + i) 0) := by
  rw [← Int32.ofNat_add, own_n32 (by omega), own_getD]
theorem own_inu {un i : Nat} (hun : un ≤ 3) (hi : i < un) : ¬ Int32.ofNat i < 0 ∧ Int32.ofNat i < Int32.ofNat un := by
  have z : (0 : Int32).toInt = 0 := rfl
  rw [Int32.lt_iff_toInt_lt, Int32.lt_iff_toInt_lt, own_i (by omega), own_i (by omega), z]; omega
theorem own_ru (us : List Int32) {i : Nat} (h : i < 7) : (us.map Value.int).getD (Int32.ofNat i).toNatClampNeg (.int (0 : Int32)) = .int (us.getD i 0) := by
  rw [own_n32 (by omega), own_getD]
theorem own_eqn {i un : Nat} (hi : i + 0 = un) : Int32.ofNat i = Int32.ofNat un := by rw [← hi, Nat.add_zero]
theorem own_nen {i k un : Nat} (hun : un ≤ 3) (hi : i + (k + 1) = un) : ¬ Int32.ofNat i = Int32.ofNat un := fun h => by
  have q := congrArg Int32.toInt h
  rw [own_i (by omega), own_i (by omega)] at q
  omega

theorem own_wS {a0 : Array Value} {Z : State} (hw : ∀ d ∈ tables_1, d.before a0 Z = true) : ∀ a ∈ Bundle.stringAtoms, a.before a0 Z = true := fun a ha => by
  simp only [Bundle.stringAtoms, List.mem_cons, List.not_mem_nil, or_false] at ha
  rcases ha with rfl | rfl | rfl | rfl | rfl | rfl | rfl
  · exact (hw _ (List.mem_of_getElem? (i := 9) rfl))
  · exact (hw _ (List.mem_of_getElem? (i := 10) rfl))
  · exact (hw _ (List.mem_of_getElem? (i := 4) rfl))
  · exact (hw _ (List.mem_of_getElem? (i := 11) rfl))
  · exact (hw _ (List.mem_of_getElem? (i := 12) rfl))
  · exact (hw _ (List.mem_of_getElem? (i := 13) rfl))
  · exact (hw _ (List.mem_of_getElem? (i := 14) rfl))
def f1 (p0 : Int32) (p1 : Int32) (p2 : Int32)  : Int32 := (if p2 = 0 then (if (((p0.toUInt32 >>> (((8 : Int32) * p1) &&& 31).toUInt32).toInt32) &&& (255 : Int32)) = (255 : Int32) then (254 : Int32) else (((p0.toUInt32 >>> (((8 : Int32) * p1) &&& 31).toUInt32).toInt32) &&& (255 : Int32))) else (if ((((p0.toUInt32 >>> (((8 : Int32) * p1) &&& 31).toUInt32).toInt32) &&& (255 : Int32)) &&& (3 : Int32)) = 0 then (0 : Int32) else (if ((((p0.toUInt32 >>> (((8 : Int32) * p1) &&& 31).toUInt32).toInt32) &&& (255 : Int32)) &&& (3 : Int32)) = (1 : Int32) then (127 : Int32) else (if ((((p0.toUInt32 >>> (((8 : Int32) * p1) &&& 31).toUInt32).toInt32) &&& (255 : Int32)) &&& (3 : Int32)) = (2 : Int32) then (128 : Int32) else (254 : Int32)))))
theorem ef_1 (m : MethodId) (x0 : Int32) (x1 : Int32) (x2 : Int32) : entryFrame m #[(.int x0), (.int x1), (.int x2)] 5 = mkF m 0 #[.val (.int x0), .val (.int x1), .val (.int x2), .unset, .unset] [] := by first | (simp [entryFrame, mkF, argsToLocals, Value.category]; done) | rfl
theorem pn_0 : plainName "com/example/kenning/kenning/index/DecoderCompareTextPinLaw" = true := by first | (simp [plainName, overriddenIn]; done) | decide +kernel
theorem d1_0 : decode method_3_code 0 = .ok (.iload_n 0, 1) := by decide +kernel
theorem d1_1 : decode method_3_code 1 = .ok (.bipush 8, 2) := by decide +kernel
theorem d1_3 : decode method_3_code 3 = .ok (.iload_n 1, 1) := by decide +kernel
theorem d1_4 : decode method_3_code 4 = .ok (.imul, 1) := by decide +kernel
theorem d1_5 : decode method_3_code 5 = .ok (.iushr, 1) := by decide +kernel
theorem d1_6 : decode method_3_code 6 = .ok (.sipush 255, 3) := by decide +kernel
theorem d1_9 : decode method_3_code 9 = .ok (.iand, 1) := by decide +kernel
theorem d1_10 : decode method_3_code 10 = .ok (.istore_n 3, 1) := by decide +kernel
theorem d1_11 : decode method_3_code 11 = .ok (.iload_n 2, 1) := by decide +kernel
theorem d1_12 : decode method_3_code 12 = .ok (.ifCond .eq 38, 3) := by decide +kernel
theorem d1_15 : decode method_3_code 15 = .ok (.iload_n 3, 1) := by decide +kernel
theorem d1_16 : decode method_3_code 16 = .ok (.iconst 3, 1) := by decide +kernel
theorem d1_17 : decode method_3_code 17 = .ok (.iand, 1) := by decide +kernel
theorem d1_18 : decode method_3_code 18 = .ok (.istore 4, 2) := by decide +kernel
theorem d1_20 : decode method_3_code 20 = .ok (.iload 4, 2) := by decide +kernel
theorem d1_22 : decode method_3_code 22 = .ok (.ifCond .ne 5, 3) := by decide +kernel
theorem d1_25 : decode method_3_code 25 = .ok (.iconst 0, 1) := by decide +kernel
theorem d1_26 : decode method_3_code 26 = .ok (.ireturn, 1) := by decide +kernel
theorem d1_27 : decode method_3_code 27 = .ok (.iload 4, 2) := by decide +kernel
theorem d1_29 : decode method_3_code 29 = .ok (.iconst 1, 1) := by decide +kernel
theorem d1_30 : decode method_3_code 30 = .ok (.if_icmp .ne 6, 3) := by decide +kernel
theorem d1_33 : decode method_3_code 33 = .ok (.bipush 127, 2) := by decide +kernel
theorem d1_35 : decode method_3_code 35 = .ok (.ireturn, 1) := by decide +kernel
theorem d1_36 : decode method_3_code 36 = .ok (.iload 4, 2) := by decide +kernel
theorem d1_38 : decode method_3_code 38 = .ok (.iconst 2, 1) := by decide +kernel
theorem d1_39 : decode method_3_code 39 = .ok (.if_icmp .ne 7, 3) := by decide +kernel
theorem d1_42 : decode method_3_code 42 = .ok (.sipush 128, 3) := by decide +kernel
theorem d1_45 : decode method_3_code 45 = .ok (.ireturn, 1) := by decide +kernel
theorem d1_46 : decode method_3_code 46 = .ok (.sipush 254, 3) := by decide +kernel
theorem d1_49 : decode method_3_code 49 = .ok (.ireturn, 1) := by decide +kernel
theorem d1_50 : decode method_3_code 50 = .ok (.iload_n 3, 1) := by decide +kernel
theorem d1_51 : decode method_3_code 51 = .ok (.sipush 255, 3) := by decide +kernel
theorem d1_54 : decode method_3_code 54 = .ok (.if_icmp .ne 9, 3) := by decide +kernel
theorem d1_57 : decode method_3_code 57 = .ok (.sipush 254, 3) := by decide +kernel
theorem d1_60 : decode method_3_code 60 = .ok (.goto 4, 3) := by decide +kernel
theorem d1_63 : decode method_3_code 63 = .ok (.iload_n 3, 1) := by decide +kernel
theorem d1_64 : decode method_3_code 64 = .ok (.ireturn, 1) := by decide +kernel
set_option maxRecDepth 65536 in
set_option maxHeartbeats 40000000 in
theorem rm1 (l : Launch) (Z : State) (a0 : Array Value) (hw : ∀ d ∈ tables_1, d.before a0 Z = true) (ws : List Jvm.Cond) (p0 : Int32) (p1 : Int32) (p2 : Int32)  (h0 : Heap) (n0 : Nat) (Z0 : n0 ≤ h0.size)  :
    MetFree l (⟨"com/example/kenning/kenning/index/DecoderCompareTextPinLaw", "pick", "(IIZ)I"⟩ : MethodName) (head1 (Jvm.Cond.code (⟨"com/example/kenning/kenning/index/DecoderCompareTextPinLaw", "pick", "(IIZ)I"⟩ : MethodName) method_3_code 5 (some .int) :: ws) ({ frames := 0, cells := 0, slots := 0, locals := 0 } : Room)) (fun a U => a = #[(.int p0), (.int p1), (.int p2)] ∧ Z.Warmed39 U.vm ∧ U.heap = h0) (fun _ _ _ _ _ => True) (fun _ U o U' => ∃ v L, o = .returned v ∧ QV (some (.int (f1 p0 p1 p2))) (PureP n0 h0) v U'.heap L ∧ FrameEnd U o U' L ({ frames := 0, cells := 0, slots := 0, locals := 0 } : Room).cells ({ frames := 0, cells := 0, slots := 0, locals := 0 } : Room).slots) := by
  refine MetFree.of_bodySF (plainFor_of_name pn_0) hisR ?_
  intro p e s m args below meth c s₁ Bd hml0 hP hK
  obtain ⟨rfl, hZ, hh⟩ := hP
  have hx := Bd.exec
  have hby := Bd.bytes
  have hml : c.maxLocals = 5 := hml0
  have hown : s.vm.findClass "com/example/kenning/kenning/index/DecoderCompareTextPinLaw" = some m.cls := findClass_of_methodNamed Bd.named
  have hnm := (name_of_methodNamed Bd.named Bd.method).1
  have hlk : meth.locks = false := BodyLoose.notSynchronized Bd
  have X0 : Stand p l e ({ frames := 0, cells := 0, slots := 0, locals := 0 } : Room) s m #[(.int p0), (.int p1), (.int p2)] below meth c s₁ [] 0 0 := Stand.of_body Bd
  have e0 : s₁.heap = h0 := by rw [← hh, Bd.state]; rfl
  have N0 := Fr.nil n0
  refine Got.body (ef_1 m p0 p1 p2) ?_
  refine Got.step (T' := s₁) (g' := (mkF m 12 #[.val (.int p0), .val (.int p1), .val (.int p2), .val (.int (((p0.toUInt32 >>> (((8 : Int32) * p1) &&& 31).toUInt32).toInt32) &&& (255 : Int32))), .unset] [(.int p2)])) (fun tq kt => ?_) ?_
  · show Steps p.tables e below (s₁.setTop (mkF m 0 #[.val (.int p0), .val (.int p1), .val (.int p2), .unset, .unset] [])) _
    refine XS.iloadN X0.here hx rfl (hb hby d1_0) rfl ?_
    show Steps p.tables e below (s₁.setTop (mkF m 1 #[.val (.int p0), .val (.int p1), .val (.int p2), .unset, .unset] [(.int p0)])) _
    refine XS.bipush X0.here hx rfl (hb hby d1_1) ?_
    show Steps p.tables e below (s₁.setTop (mkF m 3 #[.val (.int p0), .val (.int p1), .val (.int p2), .unset, .unset] [(.int (8 : Int32)), (.int p0)])) _
    refine XS.iloadN X0.here hx rfl (hb hby d1_3) rfl ?_
    show Steps p.tables e below (s₁.setTop (mkF m 4 #[.val (.int p0), .val (.int p1), .val (.int p2), .unset, .unset] [(.int p1), (.int (8 : Int32)), (.int p0)])) _
    refine XS.imul X0.here hx rfl (hb hby d1_4) rfl ?_
    show Steps p.tables e below (s₁.setTop (mkF m 5 #[.val (.int p0), .val (.int p1), .val (.int p2), .unset, .unset] [(.int ((8 : Int32) * p1)), (.int p0)])) _
    refine XS.iushr X0.here hx rfl (hb hby d1_5) rfl ?_
    show Steps p.tables e below (s₁.setTop (mkF m 6 #[.val (.int p0), .val (.int p1), .val (.int p2), .unset, .unset] [(.int ((p0.toUInt32 >>> (((8 : Int32) * p1) &&& 31).toUInt32).toInt32))])) _
    refine XS.sipush X0.here hx rfl (hb hby d1_6) ?_
    show Steps p.tables e below (s₁.setTop (mkF m 9 #[.val (.int p0), .val (.int p1), .val (.int p2), .unset, .unset] [(.int (255 : Int32)), (.int ((p0.toUInt32 >>> (((8 : Int32) * p1) &&& 31).toUInt32).toInt32))])) _
    refine XS.iand X0.here hx rfl (hb hby d1_9) rfl ?_
    show Steps p.tables e below (s₁.setTop (mkF m 10 #[.val (.int p0), .val (.int p1), .val (.int p2), .unset, .unset] [(.int (((p0.toUInt32 >>> (((8 : Int32) * p1) &&& 31).toUInt32).toInt32) &&& (255 : Int32)))])) _
    refine XS.istoreN X0.here hx rfl (hb hby d1_10) rfl (l' := #[.val (.int p0), .val (.int p1), .val (.int p2), .val (.int (((p0.toUInt32 >>> (((8 : Int32) * p1) &&& 31).toUInt32).toInt32) &&& (255 : Int32))), .unset]) rfl ?_
    show Steps p.tables e below (s₁.setTop (mkF m 11 #[.val (.int p0), .val (.int p1), .val (.int p2), .val (.int (((p0.toUInt32 >>> (((8 : Int32) * p1) &&& 31).toUInt32).toInt32) &&& (255 : Int32))), .unset] [])) _
    refine XS.iloadN X0.here hx rfl (hb hby d1_11) rfl ?_
    exact kt
  refine Got.ite (q := (p2 = 0)) (fun hc1 => ?_) (fun hc1 => ?_)
  · refine Got.step (T' := s₁) (g' := (mkF m 54 #[.val (.int p0), .val (.int p1), .val (.int p2), .val (.int (((p0.toUInt32 >>> (((8 : Int32) * p1) &&& 31).toUInt32).toInt32) &&& (255 : Int32))), .unset] [(.int (255 : Int32)), (.int (((p0.toUInt32 >>> (((8 : Int32) * p1) &&& 31).toUInt32).toInt32) &&& (255 : Int32)))])) (fun tq kt => ?_) ?_
    · show Steps p.tables e below (s₁.setTop (mkF m 12 #[.val (.int p0), .val (.int p1), .val (.int p2), .val (.int (((p0.toUInt32 >>> (((8 : Int32) * p1) &&& 31).toUInt32).toInt32) &&& (255 : Int32))), .unset] [(.int p2)])) _
      refine XS.ifYes X0.here hx rfl (pc0 := 12) (pc' := 50) rfl (hb hby d1_12) rfl (XT.i0_eq_t hc1) (by decide) (by decide) ?_
      show Steps p.tables e below (s₁.setTop (mkF m 50 #[.val (.int p0), .val (.int p1), .val (.int p2), .val (.int (((p0.toUInt32 >>> (((8 : Int32) * p1) &&& 31).toUInt32).toInt32) &&& (255 : Int32))), .unset] [])) _
      refine XS.iloadN X0.here hx rfl (hb hby d1_50) rfl ?_
      show Steps p.tables e below (s₁.setTop (mkF m 51 #[.val (.int p0), .val (.int p1), .val (.int p2), .val (.int (((p0.toUInt32 >>> (((8 : Int32) * p1) &&& 31).toUInt32).toInt32) &&& (255 : Int32))), .unset] [(.int (((p0.toUInt32 >>> (((8 : Int32) * p1) &&& 31).toUInt32).toInt32) &&& (255 : Int32)))])) _
      refine XS.sipush X0.here hx rfl (hb hby d1_51) ?_
      exact kt
    refine Got.ite (q := ((((p0.toUInt32 >>> (((8 : Int32) * p1) &&& 31).toUInt32).toInt32) &&& (255 : Int32)) = (255 : Int32))) (fun hc2 => ?_) (fun hc2 => ?_)
    · refine Got.step (T' := s₁) (g' := (mkF m 64 #[.val (.int p0), .val (.int p1), .val (.int p2), .val (.int (((p0.toUInt32 >>> (((8 : Int32) * p1) &&& 31).toUInt32).toInt32) &&& (255 : Int32))), .unset] [(.int (254 : Int32))])) (fun tq kt => ?_) ?_
      · show Steps p.tables e below (s₁.setTop (mkF m 54 #[.val (.int p0), .val (.int p1), .val (.int p2), .val (.int (((p0.toUInt32 >>> (((8 : Int32) * p1) &&& 31).toUInt32).toInt32) &&& (255 : Int32))), .unset] [(.int (255 : Int32)), (.int (((p0.toUInt32 >>> (((8 : Int32) * p1) &&& 31).toUInt32).toInt32) &&& (255 : Int32)))])) _
        refine XS.icmpNo X0.here hx rfl (hb hby d1_54) rfl (XT.ii_ne_f hc2) ?_
        show Steps p.tables e below (s₁.setTop (mkF m 57 #[.val (.int p0), .val (.int p1), .val (.int p2), .val (.int (((p0.toUInt32 >>> (((8 : Int32) * p1) &&& 31).toUInt32).toInt32) &&& (255 : Int32))), .unset] [])) _
        refine XS.sipush X0.here hx rfl (hb hby d1_57) ?_
        show Steps p.tables e below (s₁.setTop (mkF m 60 #[.val (.int p0), .val (.int p1), .val (.int p2), .val (.int (((p0.toUInt32 >>> (((8 : Int32) * p1) &&& 31).toUInt32).toInt32) &&& (255 : Int32))), .unset] [(.int (254 : Int32))])) _
        refine XS.goto X0.here hx rfl (pc0 := 60) (pc' := 64) rfl (hb hby d1_60) (by decide) (by decide) ?_
        exact kt
      exact Got.retI (y := (254 : Int32)) X0 hx Bd.returns hlk (hb hby d1_64) rfl ⟨N0, e0⟩ (by decide) (by decide)
    · refine Got.step (T' := s₁) (g' := (mkF m 64 #[.val (.int p0), .val (.int p1), .val (.int p2), .val (.int (((p0.toUInt32 >>> (((8 : Int32) * p1) &&& 31).toUInt32).toInt32) &&& (255 : Int32))), .unset] [(.int (((p0.toUInt32 >>> (((8 : Int32) * p1) &&& 31).toUInt32).toInt32) &&& (255 : Int32)))])) (fun tq kt => ?_) ?_
      · show Steps p.tables e below (s₁.setTop (mkF m 54 #[.val (.int p0), .val (.int p1), .val (.int p2), .val (.int (((p0.toUInt32 >>> (((8 : Int32) * p1) &&& 31).toUInt32).toInt32) &&& (255 : Int32))), .unset] [(.int (255 : Int32)), (.int (((p0.toUInt32 >>> (((8 : Int32) * p1) &&& 31).toUInt32).toInt32) &&& (255 : Int32)))])) _
        refine XS.icmpYes X0.here hx rfl (pc0 := 54) (pc' := 63) rfl (hb hby d1_54) rfl (XT.ii_ne_t hc2) (by decide) (by decide) ?_
        show Steps p.tables e below (s₁.setTop (mkF m 63 #[.val (.int p0), .val (.int p1), .val (.int p2), .val (.int (((p0.toUInt32 >>> (((8 : Int32) * p1) &&& 31).toUInt32).toInt32) &&& (255 : Int32))), .unset] [])) _
        refine XS.iloadN X0.here hx rfl (hb hby d1_63) rfl ?_
        exact kt
      exact Got.retI (y := (((p0.toUInt32 >>> (((8 : Int32) * p1) &&& 31).toUInt32).toInt32) &&& (255 : Int32))) X0 hx Bd.returns hlk (hb hby d1_64) rfl ⟨N0, e0⟩ (by decide) (by decide)
  · refine Got.step (T' := s₁) (g' := (mkF m 22 #[.val (.int p0), .val (.int p1), .val (.int p2), .val (.int (((p0.toUInt32 >>> (((8 : Int32) * p1) &&& 31).toUInt32).toInt32) &&& (255 : Int32))), .val (.int ((((p0.toUInt32 >>> (((8 : Int32) * p1) &&& 31).toUInt32).toInt32) &&& (255 : Int32)) &&& (3 : Int32)))] [(.int ((((p0.toUInt32 >>> (((8 : Int32) * p1) &&& 31).toUInt32).toInt32) &&& (255 : Int32)) &&& (3 : Int32)))])) (fun tq kt => ?_) ?_
    · show Steps p.tables e below (s₁.setTop (mkF m 12 #[.val (.int p0), .val (.int p1), .val (.int p2), .val (.int (((p0.toUInt32 >>> (((8 : Int32) * p1) &&& 31).toUInt32).toInt32) &&& (255 : Int32))), .unset] [(.int p2)])) _
      refine XS.ifNo X0.here hx rfl (hb hby d1_12) rfl (XT.i0_eq_f hc1) ?_
      show Steps p.tables e below (s₁.setTop (mkF m 15 #[.val (.int p0), .val (.int p1), .val (.int p2), .val (.int (((p0.toUInt32 >>> (((8 : Int32) * p1) &&& 31).toUInt32).toInt32) &&& (255 : Int32))), .unset] [])) _
      refine XS.iloadN X0.here hx rfl (hb hby d1_15) rfl ?_
      show Steps p.tables e below (s₁.setTop (mkF m 16 #[.val (.int p0), .val (.int p1), .val (.int p2), .val (.int (((p0.toUInt32 >>> (((8 : Int32) * p1) &&& 31).toUInt32).toInt32) &&& (255 : Int32))), .unset] [(.int (((p0.toUInt32 >>> (((8 : Int32) * p1) &&& 31).toUInt32).toInt32) &&& (255 : Int32)))])) _
      refine XS.iconst X0.here hx rfl (hb hby d1_16) ?_
      show Steps p.tables e below (s₁.setTop (mkF m 17 #[.val (.int p0), .val (.int p1), .val (.int p2), .val (.int (((p0.toUInt32 >>> (((8 : Int32) * p1) &&& 31).toUInt32).toInt32) &&& (255 : Int32))), .unset] [(.int (3 : Int32)), (.int (((p0.toUInt32 >>> (((8 : Int32) * p1) &&& 31).toUInt32).toInt32) &&& (255 : Int32)))])) _
      refine XS.iand X0.here hx rfl (hb hby d1_17) rfl ?_
      show Steps p.tables e below (s₁.setTop (mkF m 18 #[.val (.int p0), .val (.int p1), .val (.int p2), .val (.int (((p0.toUInt32 >>> (((8 : Int32) * p1) &&& 31).toUInt32).toInt32) &&& (255 : Int32))), .unset] [(.int ((((p0.toUInt32 >>> (((8 : Int32) * p1) &&& 31).toUInt32).toInt32) &&& (255 : Int32)) &&& (3 : Int32)))])) _
      refine XS.istore X0.here hx rfl (hb hby d1_18) rfl (l' := #[.val (.int p0), .val (.int p1), .val (.int p2), .val (.int (((p0.toUInt32 >>> (((8 : Int32) * p1) &&& 31).toUInt32).toInt32) &&& (255 : Int32))), .val (.int ((((p0.toUInt32 >>> (((8 : Int32) * p1) &&& 31).toUInt32).toInt32) &&& (255 : Int32)) &&& (3 : Int32)))]) rfl ?_
      show Steps p.tables e below (s₁.setTop (mkF m 20 #[.val (.int p0), .val (.int p1), .val (.int p2), .val (.int (((p0.toUInt32 >>> (((8 : Int32) * p1) &&& 31).toUInt32).toInt32) &&& (255 : Int32))), .val (.int ((((p0.toUInt32 >>> (((8 : Int32) * p1) &&& 31).toUInt32).toInt32) &&& (255 : Int32)) &&& (3 : Int32)))] [])) _
      refine XS.iload X0.here hx rfl (hb hby d1_20) rfl ?_
      exact kt
    refine Got.ite (q := (((((p0.toUInt32 >>> (((8 : Int32) * p1) &&& 31).toUInt32).toInt32) &&& (255 : Int32)) &&& (3 : Int32)) = 0)) (fun hc3 => ?_) (fun hc3 => ?_)
    · refine Got.step (T' := s₁) (g' := (mkF m 26 #[.val (.int p0), .val (.int p1), .val (.int p2), .val (.int (((p0.toUInt32 >>> (((8 : Int32) * p1) &&& 31).toUInt32).toInt32) &&& (255 : Int32))), .val (.int ((((p0.toUInt32 >>> (((8 : Int32) * p1) &&& 31).toUInt32).toInt32) &&& (255 : Int32)) &&& (3 : Int32)))] [(.int (0 : Int32))])) (fun tq kt => ?_) ?_
      · show Steps p.tables e below (s₁.setTop (mkF m 22 #[.val (.int p0), .val (.int p1), .val (.int p2), .val (.int (((p0.toUInt32 >>> (((8 : Int32) * p1) &&& 31).toUInt32).toInt32) &&& (255 : Int32))), .val (.int ((((p0.toUInt32 >>> (((8 : Int32) * p1) &&& 31).toUInt32).toInt32) &&& (255 : Int32)) &&& (3 : Int32)))] [(.int ((((p0.toUInt32 >>> (((8 : Int32) * p1) &&& 31).toUInt32).toInt32) &&& (255 : Int32)) &&& (3 : Int32)))])) _
        refine XS.ifNo X0.here hx rfl (hb hby d1_22) rfl (XT.i0_ne_f hc3) ?_
        show Steps p.tables e below (s₁.setTop (mkF m 25 #[.val (.int p0), .val (.int p1), .val (.int p2), .val (.int (((p0.toUInt32 >>> (((8 : Int32) * p1) &&& 31).toUInt32).toInt32) &&& (255 : Int32))), .val (.int ((((p0.toUInt32 >>> (((8 : Int32) * p1) &&& 31).toUInt32).toInt32) &&& (255 : Int32)) &&& (3 : Int32)))] [])) _
        refine XS.iconst X0.here hx rfl (hb hby d1_25) ?_
        exact kt
      exact Got.retI (y := (0 : Int32)) X0 hx Bd.returns hlk (hb hby d1_26) rfl ⟨N0, e0⟩ (by decide) (by decide)
    · refine Got.step (T' := s₁) (g' := (mkF m 30 #[.val (.int p0), .val (.int p1), .val (.int p2), .val (.int (((p0.toUInt32 >>> (((8 : Int32) * p1) &&& 31).toUInt32).toInt32) &&& (255 : Int32))), .val (.int ((((p0.toUInt32 >>> (((8 : Int32) * p1) &&& 31).toUInt32).toInt32) &&& (255 : Int32)) &&& (3 : Int32)))] [(.int (1 : Int32)), (.int ((((p0.toUInt32 >>> (((8 : Int32) * p1) &&& 31).toUInt32).toInt32) &&& (255 : Int32)) &&& (3 : Int32)))])) (fun tq kt => ?_) ?_
      · show Steps p.tables e below (s₁.setTop (mkF m 22 #[.val (.int p0), .val (.int p1), .val (.int p2), .val (.int (((p0.toUInt32 >>> (((8 : Int32) * p1) &&& 31).toUInt32).toInt32) &&& (255 : Int32))), .val (.int ((((p0.toUInt32 >>> (((8 : Int32) * p1) &&& 31).toUInt32).toInt32) &&& (255 : Int32)) &&& (3 : Int32)))] [(.int ((((p0.toUInt32 >>> (((8 : Int32) * p1) &&& 31).toUInt32).toInt32) &&& (255 : Int32)) &&& (3 : Int32)))])) _
        refine XS.ifYes X0.here hx rfl (pc0 := 22) (pc' := 27) rfl (hb hby d1_22) rfl (XT.i0_ne_t hc3) (by decide) (by decide) ?_
        show Steps p.tables e below (s₁.setTop (mkF m 27 #[.val (.int p0), .val (.int p1), .val (.int p2), .val (.int (((p0.toUInt32 >>> (((8 : Int32) * p1) &&& 31).toUInt32).toInt32) &&& (255 : Int32))), .val (.int ((((p0.toUInt32 >>> (((8 : Int32) * p1) &&& 31).toUInt32).toInt32) &&& (255 : Int32)) &&& (3 : Int32)))] [])) _
        refine XS.iload X0.here hx rfl (hb hby d1_27) rfl ?_
        show Steps p.tables e below (s₁.setTop (mkF m 29 #[.val (.int p0), .val (.int p1), .val (.int p2), .val (.int (((p0.toUInt32 >>> (((8 : Int32) * p1) &&& 31).toUInt32).toInt32) &&& (255 : Int32))), .val (.int ((((p0.toUInt32 >>> (((8 : Int32) * p1) &&& 31).toUInt32).toInt32) &&& (255 : Int32)) &&& (3 : Int32)))] [(.int ((((p0.toUInt32 >>> (((8 : Int32) * p1) &&& 31).toUInt32).toInt32) &&& (255 : Int32)) &&& (3 : Int32)))])) _
        refine XS.iconst X0.here hx rfl (hb hby d1_29) ?_
        exact kt
      refine Got.ite (q := (((((p0.toUInt32 >>> (((8 : Int32) * p1) &&& 31).toUInt32).toInt32) &&& (255 : Int32)) &&& (3 : Int32)) = (1 : Int32))) (fun hc4 => ?_) (fun hc4 => ?_)
      · refine Got.step (T' := s₁) (g' := (mkF m 35 #[.val (.int p0), .val (.int p1), .val (.int p2), .val (.int (((p0.toUInt32 >>> (((8 : Int32) * p1) &&& 31).toUInt32).toInt32) &&& (255 : Int32))), .val (.int ((((p0.toUInt32 >>> (((8 : Int32) * p1) &&& 31).toUInt32).toInt32) &&& (255 : Int32)) &&& (3 : Int32)))] [(.int (127 : Int32))])) (fun tq kt => ?_) ?_
        · show Steps p.tables e below (s₁.setTop (mkF m 30 #[.val (.int p0), .val (.int p1), .val (.int p2), .val (.int (((p0.toUInt32 >>> (((8 : Int32) * p1) &&& 31).toUInt32).toInt32) &&& (255 : Int32))), .val (.int ((((p0.toUInt32 >>> (((8 : Int32) * p1) &&& 31).toUInt32).toInt32) &&& (255 : Int32)) &&& (3 : Int32)))] [(.int (1 : Int32)), (.int ((((p0.toUInt32 >>> (((8 : Int32) * p1) &&& 31).toUInt32).toInt32) &&& (255 : Int32)) &&& (3 : Int32)))])) _
          refine XS.icmpNo X0.here hx rfl (hb hby d1_30) rfl (XT.ii_ne_f hc4) ?_
          show Steps p.tables e below (s₁.setTop (mkF m 33 #[.val (.int p0), .val (.int p1), .val (.int p2), .val (.int (((p0.toUInt32 >>> (((8 : Int32) * p1) &&& 31).toUInt32).toInt32) &&& (255 : Int32))), .val (.int ((((p0.toUInt32 >>> (((8 : Int32) * p1) &&& 31).toUInt32).toInt32) &&& (255 : Int32)) &&& (3 : Int32)))] [])) _
          refine XS.bipush X0.here hx rfl (hb hby d1_33) ?_
          exact kt
        exact Got.retI (y := (127 : Int32)) X0 hx Bd.returns hlk (hb hby d1_35) rfl ⟨N0, e0⟩ (by decide) (by decide)
      · refine Got.step (T' := s₁) (g' := (mkF m 39 #[.val (.int p0), .val (.int p1), .val (.int p2), .val (.int (((p0.toUInt32 >>> (((8 : Int32) * p1) &&& 31).toUInt32).toInt32) &&& (255 : Int32))), .val (.int ((((p0.toUInt32 >>> (((8 : Int32) * p1) &&& 31).toUInt32).toInt32) &&& (255 : Int32)) &&& (3 : Int32)))] [(.int (2 : Int32)), (.int ((((p0.toUInt32 >>> (((8 : Int32) * p1) &&& 31).toUInt32).toInt32) &&& (255 : Int32)) &&& (3 : Int32)))])) (fun tq kt => ?_) ?_
        · show Steps p.tables e below (s₁.setTop (mkF m 30 #[.val (.int p0), .val (.int p1), .val (.int p2), .val (.int (((p0.toUInt32 >>> (((8 : Int32) * p1) &&& 31).toUInt32).toInt32) &&& (255 : Int32))), .val (.int ((((p0.toUInt32 >>> (((8 : Int32) * p1) &&& 31).toUInt32).toInt32) &&& (255 : Int32)) &&& (3 : Int32)))] [(.int (1 : Int32)), (.int ((((p0.toUInt32 >>> (((8 : Int32) * p1) &&& 31).toUInt32).toInt32) &&& (255 : Int32)) &&& (3 : Int32)))])) _
          refine XS.icmpYes X0.here hx rfl (pc0 := 30) (pc' := 36) rfl (hb hby d1_30) rfl (XT.ii_ne_t hc4) (by decide) (by decide) ?_
          show Steps p.tables e below (s₁.setTop (mkF m 36 #[.val (.int p0), .val (.int p1), .val (.int p2), .val (.int (((p0.toUInt32 >>> (((8 : Int32) * p1) &&& 31).toUInt32).toInt32) &&& (255 : Int32))), .val (.int ((((p0.toUInt32 >>> (((8 : Int32) * p1) &&& 31).toUInt32).toInt32) &&& (255 : Int32)) &&& (3 : Int32)))] [])) _
          refine XS.iload X0.here hx rfl (hb hby d1_36) rfl ?_
          show Steps p.tables e below (s₁.setTop (mkF m 38 #[.val (.int p0), .val (.int p1), .val (.int p2), .val (.int (((p0.toUInt32 >>> (((8 : Int32) * p1) &&& 31).toUInt32).toInt32) &&& (255 : Int32))), .val (.int ((((p0.toUInt32 >>> (((8 : Int32) * p1) &&& 31).toUInt32).toInt32) &&& (255 : Int32)) &&& (3 : Int32)))] [(.int ((((p0.toUInt32 >>> (((8 : Int32) * p1) &&& 31).toUInt32).toInt32) &&& (255 : Int32)) &&& (3 : Int32)))])) _
          refine XS.iconst X0.here hx rfl (hb hby d1_38) ?_
          exact kt
        refine Got.ite (q := (((((p0.toUInt32 >>> (((8 : Int32) * p1) &&& 31).toUInt32).toInt32) &&& (255 : Int32)) &&& (3 : Int32)) = (2 : Int32))) (fun hc5 => ?_) (fun hc5 => ?_)
        · refine Got.step (T' := s₁) (g' := (mkF m 45 #[.val (.int p0), .val (.int p1), .val (.int p2), .val (.int (((p0.toUInt32 >>> (((8 : Int32) * p1) &&& 31).toUInt32).toInt32) &&& (255 : Int32))), .val (.int ((((p0.toUInt32 >>> (((8 : Int32) * p1) &&& 31).toUInt32).toInt32) &&& (255 : Int32)) &&& (3 : Int32)))] [(.int (128 : Int32))])) (fun tq kt => ?_) ?_
          · show Steps p.tables e below (s₁.setTop (mkF m 39 #[.val (.int p0), .val (.int p1), .val (.int p2), .val (.int (((p0.toUInt32 >>> (((8 : Int32) * p1) &&& 31).toUInt32).toInt32) &&& (255 : Int32))), .val (.int ((((p0.toUInt32 >>> (((8 : Int32) * p1) &&& 31).toUInt32).toInt32) &&& (255 : Int32)) &&& (3 : Int32)))] [(.int (2 : Int32)), (.int ((((p0.toUInt32 >>> (((8 : Int32) * p1) &&& 31).toUInt32).toInt32) &&& (255 : Int32)) &&& (3 : Int32)))])) _
            refine XS.icmpNo X0.here hx rfl (hb hby d1_39) rfl (XT.ii_ne_f hc5) ?_
            show Steps p.tables e below (s₁.setTop (mkF m 42 #[.val (.int p0), .val (.int p1), .val (.int p2), .val (.int (((p0.toUInt32 >>> (((8 : Int32) * p1) &&& 31).toUInt32).toInt32) &&& (255 : Int32))), .val (.int ((((p0.toUInt32 >>> (((8 : Int32) * p1) &&& 31).toUInt32).toInt32) &&& (255 : Int32)) &&& (3 : Int32)))] [])) _
            refine XS.sipush X0.here hx rfl (hb hby d1_42) ?_
            exact kt
          exact Got.retI (y := (128 : Int32)) X0 hx Bd.returns hlk (hb hby d1_45) rfl ⟨N0, e0⟩ (by decide) (by decide)
        · refine Got.step (T' := s₁) (g' := (mkF m 49 #[.val (.int p0), .val (.int p1), .val (.int p2), .val (.int (((p0.toUInt32 >>> (((8 : Int32) * p1) &&& 31).toUInt32).toInt32) &&& (255 : Int32))), .val (.int ((((p0.toUInt32 >>> (((8 : Int32) * p1) &&& 31).toUInt32).toInt32) &&& (255 : Int32)) &&& (3 : Int32)))] [(.int (254 : Int32))])) (fun tq kt => ?_) ?_
          · show Steps p.tables e below (s₁.setTop (mkF m 39 #[.val (.int p0), .val (.int p1), .val (.int p2), .val (.int (((p0.toUInt32 >>> (((8 : Int32) * p1) &&& 31).toUInt32).toInt32) &&& (255 : Int32))), .val (.int ((((p0.toUInt32 >>> (((8 : Int32) * p1) &&& 31).toUInt32).toInt32) &&& (255 : Int32)) &&& (3 : Int32)))] [(.int (2 : Int32)), (.int ((((p0.toUInt32 >>> (((8 : Int32) * p1) &&& 31).toUInt32).toInt32) &&& (255 : Int32)) &&& (3 : Int32)))])) _
            refine XS.icmpYes X0.here hx rfl (pc0 := 39) (pc' := 46) rfl (hb hby d1_39) rfl (XT.ii_ne_t hc5) (by decide) (by decide) ?_
            show Steps p.tables e below (s₁.setTop (mkF m 46 #[.val (.int p0), .val (.int p1), .val (.int p2), .val (.int (((p0.toUInt32 >>> (((8 : Int32) * p1) &&& 31).toUInt32).toInt32) &&& (255 : Int32))), .val (.int ((((p0.toUInt32 >>> (((8 : Int32) * p1) &&& 31).toUInt32).toInt32) &&& (255 : Int32)) &&& (3 : Int32)))] [])) _
            refine XS.sipush X0.here hx rfl (hb hby d1_46) ?_
            exact kt
          exact Got.retI (y := (254 : Int32)) X0 hx Bd.returns hlk (hb hby d1_49) rfl ⟨N0, e0⟩ (by decide) (by decide)
def f5_39 (p0 : Int32) (p1 : Int32) (p2 : Int32) (p3 : Int32) (i39_4 : Int32) (i39_5 : Int32) (k39_0 : Int32) : Int32 := (((i39_4 * (66049 : Int32)) + (i39_5 * (257 : Int32))) + k39_0)
def f5_25 (p0 : Int32) (p1 : Int32) (p2 : Int32) (p3 : Int32) (i25_4 : Int32) (k25_0 : Int32) : Int32 := (if (2 : Int32) < p3 then (f5_39 p0 p1 p2 p3 i25_4 k25_0 (p2 + (1 : Int32))) else (f5_39 p0 p1 p2 p3 i25_4 k25_0 (0 : Int32)))
def f5_11 (p0 : Int32) (p1 : Int32) (p2 : Int32) (p3 : Int32) (k11_0 : Int32) : Int32 := (if (1 : Int32) < p3 then (f5_25 p0 p1 p2 p3 k11_0 (p1 + (1 : Int32))) else (f5_25 p0 p1 p2 p3 k11_0 (0 : Int32)))
def f5 (p0 : Int32) (p1 : Int32) (p2 : Int32) (p3 : Int32)  : Int32 := (if 0 < p3 then (f5_11 p0 p1 p2 p3 (p0 + (1 : Int32))) else (f5_11 p0 p1 p2 p3 (0 : Int32)))
theorem ef_5 (m : MethodId) (x0 : Int32) (x1 : Int32) (x2 : Int32) (x3 : Int32) : entryFrame m #[(.int x0), (.int x1), (.int x2), (.int x3)] 7 = mkF m 0 #[.val (.int x0), .val (.int x1), .val (.int x2), .val (.int x3), .unset, .unset, .unset] [] := by first | (simp [entryFrame, mkF, argsToLocals, Value.category]; done) | rfl
theorem d5_0 : decode method_4_code 0 = .ok (.iload_n 3, 1) := by decide +kernel
theorem d5_1 : decode method_4_code 1 = .ok (.ifCond .le 9, 3) := by decide +kernel
theorem d5_4 : decode method_4_code 4 = .ok (.iload_n 0, 1) := by decide +kernel
theorem d5_5 : decode method_4_code 5 = .ok (.iconst 1, 1) := by decide +kernel
theorem d5_6 : decode method_4_code 6 = .ok (.iadd, 1) := by decide +kernel
theorem d5_7 : decode method_4_code 7 = .ok (.goto 4, 3) := by decide +kernel
theorem d5_10 : decode method_4_code 10 = .ok (.iconst 0, 1) := by decide +kernel
theorem d5_11 : decode method_4_code 11 = .ok (.istore 4, 2) := by decide +kernel
theorem d5_13 : decode method_4_code 13 = .ok (.iload_n 3, 1) := by decide +kernel
theorem d5_14 : decode method_4_code 14 = .ok (.iconst 1, 1) := by decide +kernel
theorem d5_15 : decode method_4_code 15 = .ok (.if_icmp .le 9, 3) := by decide +kernel
theorem d5_18 : decode method_4_code 18 = .ok (.iload_n 1, 1) := by decide +kernel
theorem d5_19 : decode method_4_code 19 = .ok (.iconst 1, 1) := by decide +kernel
theorem d5_20 : decode method_4_code 20 = .ok (.iadd, 1) := by decide +kernel
theorem d5_21 : decode method_4_code 21 = .ok (.goto 4, 3) := by decide +kernel
theorem d5_24 : decode method_4_code 24 = .ok (.iconst 0, 1) := by decide +kernel
theorem d5_25 : decode method_4_code 25 = .ok (.istore 5, 2) := by decide +kernel
theorem d5_27 : decode method_4_code 27 = .ok (.iload_n 3, 1) := by decide +kernel
theorem d5_28 : decode method_4_code 28 = .ok (.iconst 2, 1) := by decide +kernel
theorem d5_29 : decode method_4_code 29 = .ok (.if_icmp .le 9, 3) := by decide +kernel
theorem d5_32 : decode method_4_code 32 = .ok (.iload_n 2, 1) := by decide +kernel
theorem d5_33 : decode method_4_code 33 = .ok (.iconst 1, 1) := by decide +kernel
theorem d5_34 : decode method_4_code 34 = .ok (.iadd, 1) := by decide +kernel
theorem d5_35 : decode method_4_code 35 = .ok (.goto 4, 3) := by decide +kernel
theorem d5_38 : decode method_4_code 38 = .ok (.iconst 0, 1) := by decide +kernel
theorem d5_39 : decode method_4_code 39 = .ok (.istore 6, 2) := by decide +kernel
theorem d5_41 : decode method_4_code 41 = .ok (.iload 4, 2) := by decide +kernel
theorem d5_43 : decode method_4_code 43 = .ok (.ldc 32, 2) := by decide +kernel
theorem d5_45 : decode method_4_code 45 = .ok (.imul, 1) := by decide +kernel
theorem d5_46 : decode method_4_code 46 = .ok (.iload 5, 2) := by decide +kernel
theorem d5_48 : decode method_4_code 48 = .ok (.sipush 257, 3) := by decide +kernel
theorem d5_51 : decode method_4_code 51 = .ok (.imul, 1) := by decide +kernel
theorem d5_52 : decode method_4_code 52 = .ok (.iadd, 1) := by decide +kernel
theorem d5_53 : decode method_4_code 53 = .ok (.iload 6, 2) := by decide +kernel
theorem d5_55 : decode method_4_code 55 = .ok (.iadd, 1) := by decide +kernel
theorem d5_56 : decode method_4_code 56 = .ok (.ireturn, 1) := by decide +kernel
set_option maxRecDepth 65536 in
set_option maxHeartbeats 40000000 in
theorem rm5 (l : Launch) (Z : State) (a0 : Array Value) (hw : ∀ d ∈ tables_1, d.before a0 Z = true) (ws : List Jvm.Cond) (p0 : Int32) (p1 : Int32) (p2 : Int32) (p3 : Int32)  (h0 : Heap) (n0 : Nat) (Z0 : n0 ≤ h0.size)  :
    MetFree l (⟨"com/example/kenning/kenning/index/DecoderCompareTextPinLaw", "key", "(IIII)I"⟩ : MethodName) (head1 (Jvm.Cond.code (⟨"com/example/kenning/kenning/index/DecoderCompareTextPinLaw", "key", "(IIII)I"⟩ : MethodName) method_4_code 7 (some .int) :: ws) ({ frames := 0, cells := 0, slots := 0, locals := 0 } : Room)) (fun a U => a = #[(.int p0), (.int p1), (.int p2), (.int p3)] ∧ Z.Warmed39 U.vm ∧ U.heap = h0) (fun _ _ _ _ _ => True) (fun _ U o U' => ∃ v L, o = .returned v ∧ QV (some (.int (f5 p0 p1 p2 p3))) (PureP n0 h0) v U'.heap L ∧ FrameEnd U o U' L ({ frames := 0, cells := 0, slots := 0, locals := 0 } : Room).cells ({ frames := 0, cells := 0, slots := 0, locals := 0 } : Room).slots) := by
  refine MetFree.of_bodySF (plainFor_of_name pn_0) hisR ?_
  intro p e s m args below meth c s₁ Bd hml0 hP hK
  obtain ⟨rfl, hZ, hh⟩ := hP
  have hx := Bd.exec
  have hby := Bd.bytes
  have hml : c.maxLocals = 7 := hml0
  have hown : s.vm.findClass "com/example/kenning/kenning/index/DecoderCompareTextPinLaw" = some m.cls := findClass_of_methodNamed Bd.named
  have hnm := (name_of_methodNamed Bd.named Bd.method).1
  have hlk : meth.locks = false := BodyLoose.notSynchronized Bd
  have X0 : Stand p l e ({ frames := 0, cells := 0, slots := 0, locals := 0 } : Room) s m #[(.int p0), (.int p1), (.int p2), (.int p3)] below meth c s₁ [] 0 0 := Stand.of_body Bd
  have e0 : s₁.heap = h0 := by rw [← hh, Bd.state]; rfl
  have N0 := Fr.nil n0
  refine Got.body (ef_5 m p0 p1 p2 p3) ?_
  have J39 : ∀ (T_39 : State) (L_39 : List Loc), Stand p l e ({ frames := 0, cells := 0, slots := 0, locals := 0 } : Room) s m #[(.int p0), (.int p1), (.int p2), (.int p3)] below meth c T_39 L_39 0 0 → T_39.heap = h0 → Fr n0 L_39 → ∀ (i39_4 : Int32), ∀ (i39_5 : Int32), ∀ (k39_0 : Int32), Got p e below s (PureP n0 h0) 0 0 (some (.int (f5_39 p0 p1 p2 p3 i39_4 i39_5 k39_0))) T_39 (mkF m 39 #[.val (.int p0), .val (.int p1), .val (.int p2), .val (.int p3), .val (.int i39_4), .val (.int i39_5), .unset] [(.int k39_0)]) := by
    intro T_39 L_39 X_39 e_39 N_39 i39_4 i39_5 k39_0
    refine Got.step (T' := T_39) (g' := (mkF m 56 #[.val (.int p0), .val (.int p1), .val (.int p2), .val (.int p3), .val (.int i39_4), .val (.int i39_5), .val (.int k39_0)] [(.int (((i39_4 * (66049 : Int32)) + (i39_5 * (257 : Int32))) + k39_0))])) (fun tq kt => ?_) ?_
    · show Steps p.tables e below (T_39.setTop (mkF m 39 #[.val (.int p0), .val (.int p1), .val (.int p2), .val (.int p3), .val (.int i39_4), .val (.int i39_5), .unset] [(.int k39_0)])) _
      refine XS.istore X_39.here hx rfl (hb hby d5_39) rfl (l' := #[.val (.int p0), .val (.int p1), .val (.int p2), .val (.int p3), .val (.int i39_4), .val (.int i39_5), .val (.int k39_0)]) rfl ?_
      show Steps p.tables e below (T_39.setTop (mkF m 41 #[.val (.int p0), .val (.int p1), .val (.int p2), .val (.int p3), .val (.int i39_4), .val (.int i39_5), .val (.int k39_0)] [])) _
      refine XS.iload X_39.here hx rfl (hb hby d5_41) rfl ?_
      show Steps p.tables e below (T_39.setTop (mkF m 43 #[.val (.int p0), .val (.int p1), .val (.int p2), .val (.int p3), .val (.int i39_4), .val (.int i39_5), .val (.int k39_0)] [(.int i39_4)])) _
      refine X_39.ldcI hx hown (mvT hZ (hw _ (List.mem_of_getElem? (i := 39) rfl))) rfl (hb hby d5_43) ?_
      show Steps p.tables e below (T_39.setTop (mkF m 45 #[.val (.int p0), .val (.int p1), .val (.int p2), .val (.int p3), .val (.int i39_4), .val (.int i39_5), .val (.int k39_0)] [(.int (66049 : Int32)), (.int i39_4)])) _
      refine XS.imul X_39.here hx rfl (hb hby d5_45) rfl ?_
      show Steps p.tables e below (T_39.setTop (mkF m 46 #[.val (.int p0), .val (.int p1), .val (.int p2), .val (.int p3), .val (.int i39_4), .val (.int i39_5), .val (.int k39_0)] [(.int (i39_4 * (66049 : Int32)))])) _
      refine XS.iload X_39.here hx rfl (hb hby d5_46) rfl ?_
      show Steps p.tables e below (T_39.setTop (mkF m 48 #[.val (.int p0), .val (.int p1), .val (.int p2), .val (.int p3), .val (.int i39_4), .val (.int i39_5), .val (.int k39_0)] [(.int i39_5), (.int (i39_4 * (66049 : Int32)))])) _
      refine XS.sipush X_39.here hx rfl (hb hby d5_48) ?_
      show Steps p.tables e below (T_39.setTop (mkF m 51 #[.val (.int p0), .val (.int p1), .val (.int p2), .val (.int p3), .val (.int i39_4), .val (.int i39_5), .val (.int k39_0)] [(.int (257 : Int32)), (.int i39_5), (.int (i39_4 * (66049 : Int32)))])) _
      refine XS.imul X_39.here hx rfl (hb hby d5_51) rfl ?_
      show Steps p.tables e below (T_39.setTop (mkF m 52 #[.val (.int p0), .val (.int p1), .val (.int p2), .val (.int p3), .val (.int i39_4), .val (.int i39_5), .val (.int k39_0)] [(.int (i39_5 * (257 : Int32))), (.int (i39_4 * (66049 : Int32)))])) _
      refine XS.iadd X_39.here hx rfl (hb hby d5_52) rfl ?_
      show Steps p.tables e below (T_39.setTop (mkF m 53 #[.val (.int p0), .val (.int p1), .val (.int p2), .val (.int p3), .val (.int i39_4), .val (.int i39_5), .val (.int k39_0)] [(.int ((i39_4 * (66049 : Int32)) + (i39_5 * (257 : Int32))))])) _
      refine XS.iload X_39.here hx rfl (hb hby d5_53) rfl ?_
      show Steps p.tables e below (T_39.setTop (mkF m 55 #[.val (.int p0), .val (.int p1), .val (.int p2), .val (.int p3), .val (.int i39_4), .val (.int i39_5), .val (.int k39_0)] [(.int k39_0), (.int ((i39_4 * (66049 : Int32)) + (i39_5 * (257 : Int32))))])) _
      refine XS.iadd X_39.here hx rfl (hb hby d5_55) rfl ?_
      exact kt
    exact Got.retI (y := (((i39_4 * (66049 : Int32)) + (i39_5 * (257 : Int32))) + k39_0)) X_39 hx Bd.returns hlk (hb hby d5_56) rfl ⟨N_39, e_39⟩ (by decide) (by decide)
  have J25 : ∀ (T_25 : State) (L_25 : List Loc), Stand p l e ({ frames := 0, cells := 0, slots := 0, locals := 0 } : Room) s m #[(.int p0), (.int p1), (.int p2), (.int p3)] below meth c T_25 L_25 0 0 → T_25.heap = h0 → Fr n0 L_25 → ∀ (i25_4 : Int32), ∀ (k25_0 : Int32), Got p e below s (PureP n0 h0) 0 0 (some (.int (f5_25 p0 p1 p2 p3 i25_4 k25_0))) T_25 (mkF m 25 #[.val (.int p0), .val (.int p1), .val (.int p2), .val (.int p3), .val (.int i25_4), .unset, .unset] [(.int k25_0)]) := by
    intro T_25 L_25 X_25 e_25 N_25 i25_4 k25_0
    refine Got.step (T' := T_25) (g' := (mkF m 29 #[.val (.int p0), .val (.int p1), .val (.int p2), .val (.int p3), .val (.int i25_4), .val (.int k25_0), .unset] [(.int (2 : Int32)), (.int p3)])) (fun tq kt => ?_) ?_
    · show Steps p.tables e below (T_25.setTop (mkF m 25 #[.val (.int p0), .val (.int p1), .val (.int p2), .val (.int p3), .val (.int i25_4), .unset, .unset] [(.int k25_0)])) _
      refine XS.istore X_25.here hx rfl (hb hby d5_25) rfl (l' := #[.val (.int p0), .val (.int p1), .val (.int p2), .val (.int p3), .val (.int i25_4), .val (.int k25_0), .unset]) rfl ?_
      show Steps p.tables e below (T_25.setTop (mkF m 27 #[.val (.int p0), .val (.int p1), .val (.int p2), .val (.int p3), .val (.int i25_4), .val (.int k25_0), .unset] [])) _
      refine XS.iloadN X_25.here hx rfl (hb hby d5_27) rfl ?_
      show Steps p.tables e below (T_25.setTop (mkF m 28 #[.val (.int p0), .val (.int p1), .val (.int p2), .val (.int p3), .val (.int i25_4), .val (.int k25_0), .unset] [(.int p3)])) _
      refine XS.iconst X_25.here hx rfl (hb hby d5_28) ?_
      exact kt
    refine Got.ite (q := ((2 : Int32) < p3)) (fun hc8 => ?_) (fun hc8 => ?_)
    · refine Got.step (T' := T_25) (g' := (mkF m 39 #[.val (.int p0), .val (.int p1), .val (.int p2), .val (.int p3), .val (.int i25_4), .val (.int k25_0), .unset] [(.int (p2 + (1 : Int32)))])) (fun tq kt => ?_) ?_
      · show Steps p.tables e below (T_25.setTop (mkF m 29 #[.val (.int p0), .val (.int p1), .val (.int p2), .val (.int p3), .val (.int i25_4), .val (.int k25_0), .unset] [(.int (2 : Int32)), (.int p3)])) _
        refine XS.icmpNo X_25.here hx rfl (hb hby d5_29) rfl (XT.ii_le_f hc8) ?_
        show Steps p.tables e below (T_25.setTop (mkF m 32 #[.val (.int p0), .val (.int p1), .val (.int p2), .val (.int p3), .val (.int i25_4), .val (.int k25_0), .unset] [])) _
        refine XS.iloadN X_25.here hx rfl (hb hby d5_32) rfl ?_
        show Steps p.tables e below (T_25.setTop (mkF m 33 #[.val (.int p0), .val (.int p1), .val (.int p2), .val (.int p3), .val (.int i25_4), .val (.int k25_0), .unset] [(.int p2)])) _
        refine XS.iconst X_25.here hx rfl (hb hby d5_33) ?_
        show Steps p.tables e below (T_25.setTop (mkF m 34 #[.val (.int p0), .val (.int p1), .val (.int p2), .val (.int p3), .val (.int i25_4), .val (.int k25_0), .unset] [(.int (1 : Int32)), (.int p2)])) _
        refine XS.iadd X_25.here hx rfl (hb hby d5_34) rfl ?_
        show Steps p.tables e below (T_25.setTop (mkF m 35 #[.val (.int p0), .val (.int p1), .val (.int p2), .val (.int p3), .val (.int i25_4), .val (.int k25_0), .unset] [(.int (p2 + (1 : Int32)))])) _
        refine XS.goto X_25.here hx rfl (pc0 := 35) (pc' := 39) rfl (hb hby d5_35) (by decide) (by decide) ?_
        exact kt
      exact J39 _ _ X_25 e_25 N_25 i25_4 k25_0 (p2 + (1 : Int32))
    · refine Got.step (T' := T_25) (g' := (mkF m 39 #[.val (.int p0), .val (.int p1), .val (.int p2), .val (.int p3), .val (.int i25_4), .val (.int k25_0), .unset] [(.int (0 : Int32))])) (fun tq kt => ?_) ?_
      · show Steps p.tables e below (T_25.setTop (mkF m 29 #[.val (.int p0), .val (.int p1), .val (.int p2), .val (.int p3), .val (.int i25_4), .val (.int k25_0), .unset] [(.int (2 : Int32)), (.int p3)])) _
        refine XS.icmpYes X_25.here hx rfl (pc0 := 29) (pc' := 38) rfl (hb hby d5_29) rfl (XT.ii_le_t hc8) (by decide) (by decide) ?_
        show Steps p.tables e below (T_25.setTop (mkF m 38 #[.val (.int p0), .val (.int p1), .val (.int p2), .val (.int p3), .val (.int i25_4), .val (.int k25_0), .unset] [])) _
        refine XS.iconst X_25.here hx rfl (hb hby d5_38) ?_
        exact kt
      exact J39 _ _ X_25 e_25 N_25 i25_4 k25_0 (0 : Int32)
  have J11 : ∀ (T_11 : State) (L_11 : List Loc), Stand p l e ({ frames := 0, cells := 0, slots := 0, locals := 0 } : Room) s m #[(.int p0), (.int p1), (.int p2), (.int p3)] below meth c T_11 L_11 0 0 → T_11.heap = h0 → Fr n0 L_11 → ∀ (k11_0 : Int32), Got p e below s (PureP n0 h0) 0 0 (some (.int (f5_11 p0 p1 p2 p3 k11_0))) T_11 (mkF m 11 #[.val (.int p0), .val (.int p1), .val (.int p2), .val (.int p3), .unset, .unset, .unset] [(.int k11_0)]) := by
    intro T_11 L_11 X_11 e_11 N_11 k11_0
    refine Got.step (T' := T_11) (g' := (mkF m 15 #[.val (.int p0), .val (.int p1), .val (.int p2), .val (.int p3), .val (.int k11_0), .unset, .unset] [(.int (1 : Int32)), (.int p3)])) (fun tq kt => ?_) ?_
    · show Steps p.tables e below (T_11.setTop (mkF m 11 #[.val (.int p0), .val (.int p1), .val (.int p2), .val (.int p3), .unset, .unset, .unset] [(.int k11_0)])) _
      refine XS.istore X_11.here hx rfl (hb hby d5_11) rfl (l' := #[.val (.int p0), .val (.int p1), .val (.int p2), .val (.int p3), .val (.int k11_0), .unset, .unset]) rfl ?_
      show Steps p.tables e below (T_11.setTop (mkF m 13 #[.val (.int p0), .val (.int p1), .val (.int p2), .val (.int p3), .val (.int k11_0), .unset, .unset] [])) _
      refine XS.iloadN X_11.here hx rfl (hb hby d5_13) rfl ?_
      show Steps p.tables e below (T_11.setTop (mkF m 14 #[.val (.int p0), .val (.int p1), .val (.int p2), .val (.int p3), .val (.int k11_0), .unset, .unset] [(.int p3)])) _
      refine XS.iconst X_11.here hx rfl (hb hby d5_14) ?_
      exact kt
    refine Got.ite (q := ((1 : Int32) < p3)) (fun hc7 => ?_) (fun hc7 => ?_)
    · refine Got.step (T' := T_11) (g' := (mkF m 25 #[.val (.int p0), .val (.int p1), .val (.int p2), .val (.int p3), .val (.int k11_0), .unset, .unset] [(.int (p1 + (1 : Int32)))])) (fun tq kt => ?_) ?_
      · show Steps p.tables e below (T_11.setTop (mkF m 15 #[.val (.int p0), .val (.int p1), .val (.int p2), .val (.int p3), .val (.int k11_0), .unset, .unset] [(.int (1 : Int32)), (.int p3)])) _
        refine XS.icmpNo X_11.here hx rfl (hb hby d5_15) rfl (XT.ii_le_f hc7) ?_
        show Steps p.tables e below (T_11.setTop (mkF m 18 #[.val (.int p0), .val (.int p1), .val (.int p2), .val (.int p3), .val (.int k11_0), .unset, .unset] [])) _
        refine XS.iloadN X_11.here hx rfl (hb hby d5_18) rfl ?_
        show Steps p.tables e below (T_11.setTop (mkF m 19 #[.val (.int p0), .val (.int p1), .val (.int p2), .val (.int p3), .val (.int k11_0), .unset, .unset] [(.int p1)])) _
        refine XS.iconst X_11.here hx rfl (hb hby d5_19) ?_
        show Steps p.tables e below (T_11.setTop (mkF m 20 #[.val (.int p0), .val (.int p1), .val (.int p2), .val (.int p3), .val (.int k11_0), .unset, .unset] [(.int (1 : Int32)), (.int p1)])) _
        refine XS.iadd X_11.here hx rfl (hb hby d5_20) rfl ?_
        show Steps p.tables e below (T_11.setTop (mkF m 21 #[.val (.int p0), .val (.int p1), .val (.int p2), .val (.int p3), .val (.int k11_0), .unset, .unset] [(.int (p1 + (1 : Int32)))])) _
        refine XS.goto X_11.here hx rfl (pc0 := 21) (pc' := 25) rfl (hb hby d5_21) (by decide) (by decide) ?_
        exact kt
      exact J25 _ _ X_11 e_11 N_11 k11_0 (p1 + (1 : Int32))
    · refine Got.step (T' := T_11) (g' := (mkF m 25 #[.val (.int p0), .val (.int p1), .val (.int p2), .val (.int p3), .val (.int k11_0), .unset, .unset] [(.int (0 : Int32))])) (fun tq kt => ?_) ?_
      · show Steps p.tables e below (T_11.setTop (mkF m 15 #[.val (.int p0), .val (.int p1), .val (.int p2), .val (.int p3), .val (.int k11_0), .unset, .unset] [(.int (1 : Int32)), (.int p3)])) _
        refine XS.icmpYes X_11.here hx rfl (pc0 := 15) (pc' := 24) rfl (hb hby d5_15) rfl (XT.ii_le_t hc7) (by decide) (by decide) ?_
        show Steps p.tables e below (T_11.setTop (mkF m 24 #[.val (.int p0), .val (.int p1), .val (.int p2), .val (.int p3), .val (.int k11_0), .unset, .unset] [])) _
        refine XS.iconst X_11.here hx rfl (hb hby d5_24) ?_
        exact kt
      exact J25 _ _ X_11 e_11 N_11 k11_0 (0 : Int32)
  refine Got.step (T' := s₁) (g' := (mkF m 1 #[.val (.int p0), .val (.int p1), .val (.int p2), .val (.int p3), .unset, .unset, .unset] [(.int p3)])) (fun tq kt => ?_) ?_
  · show Steps p.tables e below (s₁.setTop (mkF m 0 #[.val (.int p0), .val (.int p1), .val (.int p2), .val (.int p3), .unset, .unset, .unset] [])) _
    refine XS.iloadN X0.here hx rfl (hb hby d5_0) rfl ?_
    exact kt
  refine Got.ite (q := (0 < p3)) (fun hc6 => ?_) (fun hc6 => ?_)
  · refine Got.step (T' := s₁) (g' := (mkF m 11 #[.val (.int p0), .val (.int p1), .val (.int p2), .val (.int p3), .unset, .unset, .unset] [(.int (p0 + (1 : Int32)))])) (fun tq kt => ?_) ?_
    · show Steps p.tables e below (s₁.setTop (mkF m 1 #[.val (.int p0), .val (.int p1), .val (.int p2), .val (.int p3), .unset, .unset, .unset] [(.int p3)])) _
      refine XS.ifNo X0.here hx rfl (hb hby d5_1) rfl (XT.i0_le_f hc6) ?_
      show Steps p.tables e below (s₁.setTop (mkF m 4 #[.val (.int p0), .val (.int p1), .val (.int p2), .val (.int p3), .unset, .unset, .unset] [])) _
      refine XS.iloadN X0.here hx rfl (hb hby d5_4) rfl ?_
      show Steps p.tables e below (s₁.setTop (mkF m 5 #[.val (.int p0), .val (.int p1), .val (.int p2), .val (.int p3), .unset, .unset, .unset] [(.int p0)])) _
      refine XS.iconst X0.here hx rfl (hb hby d5_5) ?_
      show Steps p.tables e below (s₁.setTop (mkF m 6 #[.val (.int p0), .val (.int p1), .val (.int p2), .val (.int p3), .unset, .unset, .unset] [(.int (1 : Int32)), (.int p0)])) _
      refine XS.iadd X0.here hx rfl (hb hby d5_6) rfl ?_
      show Steps p.tables e below (s₁.setTop (mkF m 7 #[.val (.int p0), .val (.int p1), .val (.int p2), .val (.int p3), .unset, .unset, .unset] [(.int (p0 + (1 : Int32)))])) _
      refine XS.goto X0.here hx rfl (pc0 := 7) (pc' := 11) rfl (hb hby d5_7) (by decide) (by decide) ?_
      exact kt
    exact J11 _ _ X0 e0 N0 (p0 + (1 : Int32))
  · refine Got.step (T' := s₁) (g' := (mkF m 11 #[.val (.int p0), .val (.int p1), .val (.int p2), .val (.int p3), .unset, .unset, .unset] [(.int (0 : Int32))])) (fun tq kt => ?_) ?_
    · show Steps p.tables e below (s₁.setTop (mkF m 1 #[.val (.int p0), .val (.int p1), .val (.int p2), .val (.int p3), .unset, .unset, .unset] [(.int p3)])) _
      refine XS.ifYes X0.here hx rfl (pc0 := 1) (pc' := 10) rfl (hb hby d5_1) rfl (XT.i0_le_t hc6) (by decide) (by decide) ?_
      show Steps p.tables e below (s₁.setTop (mkF m 10 #[.val (.int p0), .val (.int p1), .val (.int p2), .val (.int p3), .unset, .unset, .unset] [])) _
      refine XS.iconst X0.here hx rfl (hb hby d5_10) ?_
      exact kt
    exact J11 _ _ X0 e0 N0 (0 : Int32)
def f6 (p0 : Int32)  : Int32 := (if p0 < 0 then (-1 : Int32) else (if 0 < p0 then (1 : Int32) else (0 : Int32)))
theorem ef_6 (m : MethodId) (x0 : Int32) : entryFrame m #[(.int x0)] 1 = mkF m 0 #[.val (.int x0)] [] := by first | (simp [entryFrame, mkF, argsToLocals, Value.category]; done) | rfl
theorem d6_0 : decode method_5_code 0 = .ok (.iload_n 0, 1) := by decide +kernel
theorem d6_1 : decode method_5_code 1 = .ok (.ifCond .ge 7, 3) := by decide +kernel
theorem d6_4 : decode method_5_code 4 = .ok (.iconst (-1), 1) := by decide +kernel
theorem d6_5 : decode method_5_code 5 = .ok (.goto 12, 3) := by decide +kernel
theorem d6_8 : decode method_5_code 8 = .ok (.iload_n 0, 1) := by decide +kernel
theorem d6_9 : decode method_5_code 9 = .ok (.ifCond .le 7, 3) := by decide +kernel
theorem d6_12 : decode method_5_code 12 = .ok (.iconst 1, 1) := by decide +kernel
theorem d6_13 : decode method_5_code 13 = .ok (.goto 4, 3) := by decide +kernel
theorem d6_16 : decode method_5_code 16 = .ok (.iconst 0, 1) := by decide +kernel
theorem d6_17 : decode method_5_code 17 = .ok (.ireturn, 1) := by decide +kernel
set_option maxRecDepth 65536 in
set_option maxHeartbeats 40000000 in
theorem rm6 (l : Launch) (Z : State) (a0 : Array Value) (hw : ∀ d ∈ tables_1, d.before a0 Z = true) (ws : List Jvm.Cond) (p0 : Int32)  (h0 : Heap) (n0 : Nat) (Z0 : n0 ≤ h0.size)  :
    MetFree l (⟨"com/example/kenning/kenning/index/DecoderCompareTextPinLaw", "sign", "(I)I"⟩ : MethodName) (head1 (Jvm.Cond.code (⟨"com/example/kenning/kenning/index/DecoderCompareTextPinLaw", "sign", "(I)I"⟩ : MethodName) method_5_code 1 (some .int) :: ws) ({ frames := 0, cells := 0, slots := 0, locals := 0 } : Room)) (fun a U => a = #[(.int p0)] ∧ Z.Warmed39 U.vm ∧ U.heap = h0) (fun _ _ _ _ _ => True) (fun _ U o U' => ∃ v L, o = .returned v ∧ QV (some (.int (f6 p0))) (PureP n0 h0) v U'.heap L ∧ FrameEnd U o U' L ({ frames := 0, cells := 0, slots := 0, locals := 0 } : Room).cells ({ frames := 0, cells := 0, slots := 0, locals := 0 } : Room).slots) := by
  refine MetFree.of_bodySF (plainFor_of_name pn_0) hisR ?_
  intro p e s m args below meth c s₁ Bd hml0 hP hK
  obtain ⟨rfl, hZ, hh⟩ := hP
  have hx := Bd.exec
  have hby := Bd.bytes
  have hml : c.maxLocals = 1 := hml0
  have hown : s.vm.findClass "com/example/kenning/kenning/index/DecoderCompareTextPinLaw" = some m.cls := findClass_of_methodNamed Bd.named
  have hnm := (name_of_methodNamed Bd.named Bd.method).1
  have hlk : meth.locks = false := BodyLoose.notSynchronized Bd
  have X0 : Stand p l e ({ frames := 0, cells := 0, slots := 0, locals := 0 } : Room) s m #[(.int p0)] below meth c s₁ [] 0 0 := Stand.of_body Bd
  have e0 : s₁.heap = h0 := by rw [← hh, Bd.state]; rfl
  have N0 := Fr.nil n0
  refine Got.body (ef_6 m p0) ?_
  refine Got.step (T' := s₁) (g' := (mkF m 1 #[.val (.int p0)] [(.int p0)])) (fun tq kt => ?_) ?_
  · show Steps p.tables e below (s₁.setTop (mkF m 0 #[.val (.int p0)] [])) _
    refine XS.iloadN X0.here hx rfl (hb hby d6_0) rfl ?_
    exact kt
  refine Got.ite (q := (p0 < 0)) (fun hc9 => ?_) (fun hc9 => ?_)
  · refine Got.step (T' := s₁) (g' := (mkF m 17 #[.val (.int p0)] [(.int (-1 : Int32))])) (fun tq kt => ?_) ?_
    · show Steps p.tables e below (s₁.setTop (mkF m 1 #[.val (.int p0)] [(.int p0)])) _
      refine XS.ifNo X0.here hx rfl (hb hby d6_1) rfl (XT.i0_ge_f hc9) ?_
      show Steps p.tables e below (s₁.setTop (mkF m 4 #[.val (.int p0)] [])) _
      refine XS.iconst X0.here hx rfl (hb hby d6_4) ?_
      show Steps p.tables e below (s₁.setTop (mkF m 5 #[.val (.int p0)] [(.int (-1 : Int32))])) _
      refine XS.goto X0.here hx rfl (pc0 := 5) (pc' := 17) rfl (hb hby d6_5) (by decide) (by decide) ?_
      exact kt
    exact Got.retI (y := (-1 : Int32)) X0 hx Bd.returns hlk (hb hby d6_17) rfl ⟨N0, e0⟩ (by decide) (by decide)
  · refine Got.step (T' := s₁) (g' := (mkF m 9 #[.val (.int p0)] [(.int p0)])) (fun tq kt => ?_) ?_
    · show Steps p.tables e below (s₁.setTop (mkF m 1 #[.val (.int p0)] [(.int p0)])) _
      refine XS.ifYes X0.here hx rfl (pc0 := 1) (pc' := 8) rfl (hb hby d6_1) rfl (XT.i0_ge_t hc9) (by decide) (by decide) ?_
      show Steps p.tables e below (s₁.setTop (mkF m 8 #[.val (.int p0)] [])) _
      refine XS.iloadN X0.here hx rfl (hb hby d6_8) rfl ?_
      exact kt
    refine Got.ite (q := (0 < p0)) (fun hc10 => ?_) (fun hc10 => ?_)
    · refine Got.step (T' := s₁) (g' := (mkF m 17 #[.val (.int p0)] [(.int (1 : Int32))])) (fun tq kt => ?_) ?_
      · show Steps p.tables e below (s₁.setTop (mkF m 9 #[.val (.int p0)] [(.int p0)])) _
        refine XS.ifNo X0.here hx rfl (hb hby d6_9) rfl (XT.i0_le_f hc10) ?_
        show Steps p.tables e below (s₁.setTop (mkF m 12 #[.val (.int p0)] [])) _
        refine XS.iconst X0.here hx rfl (hb hby d6_12) ?_
        show Steps p.tables e below (s₁.setTop (mkF m 13 #[.val (.int p0)] [(.int (1 : Int32))])) _
        refine XS.goto X0.here hx rfl (pc0 := 13) (pc' := 17) rfl (hb hby d6_13) (by decide) (by decide) ?_
        exact kt
      exact Got.retI (y := (1 : Int32)) X0 hx Bd.returns hlk (hb hby d6_17) rfl ⟨N0, e0⟩ (by decide) (by decide)
    · refine Got.step (T' := s₁) (g' := (mkF m 17 #[.val (.int p0)] [(.int (0 : Int32))])) (fun tq kt => ?_) ?_
      · show Steps p.tables e below (s₁.setTop (mkF m 9 #[.val (.int p0)] [(.int p0)])) _
        refine XS.ifYes X0.here hx rfl (pc0 := 9) (pc' := 16) rfl (hb hby d6_9) rfl (XT.i0_le_t hc10) (by decide) (by decide) ?_
        show Steps p.tables e below (s₁.setTop (mkF m 16 #[.val (.int p0)] [])) _
        refine XS.iconst X0.here hx rfl (hb hby d6_16) ?_
        exact kt
      exact Got.retI (y := (0 : Int32)) X0 hx Bd.returns hlk (hb hby d6_17) rfl ⟨N0, e0⟩ (by decide) (by decide)
theorem ef_2 (m : MethodId) (x0 : Addr) (x1 : Addr) (x2 : Addr) : entryFrame m #[(.ref x0), (.ref x1), (.ref x2)] 3 = mkF m 0 #[.val (.ref x0), .val (.ref x1), .val (.ref x2)] [] := by first | (simp [entryFrame, mkF, argsToLocals, Value.category]; done) | rfl
theorem pn_1 : plainName "com/example/kenning/kenning/index/Decoder" = true := by first | (simp [plainName, overriddenIn]; done) | decide +kernel
theorem d2_0 : decode prog_179_method_1_code 0 = .ok (.aload_n 0, 1) := by decide +kernel
theorem d2_1 : decode prog_179_method_1_code 1 = .ok (.invokespecial 1, 3) := by decide +kernel
theorem d2_4 : decode prog_179_method_1_code 4 = .ok (.aload_n 0, 1) := by decide +kernel
theorem d2_5 : decode prog_179_method_1_code 5 = .ok (.aload_n 1, 1) := by decide +kernel
theorem d2_6 : decode prog_179_method_1_code 6 = .ok (.putfield 7, 3) := by decide +kernel
theorem d2_9 : decode prog_179_method_1_code 9 = .ok (.aload_n 0, 1) := by decide +kernel
theorem d2_10 : decode prog_179_method_1_code 10 = .ok (.aload_n 1, 1) := by decide +kernel
theorem d2_11 : decode prog_179_method_1_code 11 = .ok (.arraylength, 1) := by decide +kernel
theorem d2_12 : decode prog_179_method_1_code 12 = .ok (.putfield 13, 3) := by decide +kernel
theorem d2_15 : decode prog_179_method_1_code 15 = .ok (.aload_n 0, 1) := by decide +kernel
theorem d2_16 : decode prog_179_method_1_code 16 = .ok (.aload_n 2, 1) := by decide +kernel
theorem d2_17 : decode prog_179_method_1_code 17 = .ok (.putfield 17, 3) := by decide +kernel
theorem d2_20 : decode prog_179_method_1_code 20 = .ok (.aload_n 0, 1) := by decide +kernel
theorem d2_21 : decode prog_179_method_1_code 21 = .ok (.aconst_null, 1) := by decide +kernel
theorem d2_22 : decode prog_179_method_1_code 22 = .ok (.putfield 21, 3) := by decide +kernel
theorem d2_25 : decode prog_179_method_1_code 25 = .ok (.aload_n 0, 1) := by decide +kernel
theorem d2_26 : decode prog_179_method_1_code 26 = .ok (.aload_n 0, 1) := by decide +kernel
theorem d2_27 : decode prog_179_method_1_code 27 = .ok (.getfield 13, 3) := by decide +kernel
theorem d2_30 : decode prog_179_method_1_code 30 = .ok (.putfield 25, 3) := by decide +kernel
theorem d2_33 : decode prog_179_method_1_code 33 = .ok (.return_, 1) := by decide +kernel
set_option maxRecDepth 65536 in
set_option maxHeartbeats 40000000 in
theorem rm2 (l : Launch) (Z : State) (a0 : Array Value) (hw : ∀ d ∈ tables_1, d.before a0 Z = true) (ws : List Jvm.Cond) (o0 : Addr) (o1 : Addr) (o2 : Addr) (bs : List Int32) (nn : Int32) (kc : ClassId) (h0 : Heap) (n0 : Nat) (Z0 : n0 ≤ h0.size) (gn_o0 : n0 ≤ o0) (E_o0 : Exa Z h0 o0 "com/example/kenning/kenning/index/Decoder") (F_bytes : Fld Z h0 o0 "com/example/kenning/kenning/index/Decoder" "bytes" "[B" .null) (F_limit : Fld Z h0 o0 "com/example/kenning/kenning/index/Decoder" "limit" "I" (.int (0 : Int32))) (F_source : Fld Z h0 o0 "com/example/kenning/kenning/index/Decoder" "source" "Ljava/lang/String;" .null) (F_pages : Fld Z h0 o0 "com/example/kenning/kenning/index/Decoder" "pages" "Lcom/example/kenning/kenning/index/Pages;" .null) (F_ready : Fld Z h0 o0 "com/example/kenning/kenning/index/Decoder" "ready" "I" (.int (0 : Int32))) (V1 : Arv Z h0 o1 kc .byte nn (bs.map Value.int) (.int (0 : Int32))) (hne : o1 ≠ o0) :
    MetFree l (⟨"com/example/kenning/kenning/index/Decoder", "<init>", "([BLjava/lang/String;)V"⟩ : MethodName) (head1 (Jvm.Cond.code (⟨"com/example/kenning/kenning/index/Decoder", "<init>", "([BLjava/lang/String;)V"⟩ : MethodName) prog_179_method_1_code 3 none :: ws) ({ frames := 1, cells := 0, slots := 0, locals := 12 } : Room)) (fun a U => a = #[(.ref o0), (.ref o1), (.ref o2)] ∧ Z.Warmed39 U.vm ∧ U.heap = h0) (fun _ _ _ _ _ => True) (fun _ U o U' => ∃ v L, o = .returned v ∧ QV none (fun h L => Fr n0 L ∧ Keep h0 h [o0] ∧ Exa Z h o0 "com/example/kenning/kenning/index/Decoder" ∧ Fld Z h o0 "com/example/kenning/kenning/index/Decoder" "bytes" "[B" (.ref o1)) v U'.heap L ∧ FrameEnd U o U' L ({ frames := 1, cells := 0, slots := 0, locals := 12 } : Room).cells ({ frames := 1, cells := 0, slots := 0, locals := 12 } : Room).slots) := by
  refine MetFree.of_bodySF (plainFor_of_name pn_1) hisR ?_
  intro p e s m args below meth c s₁ Bd hml0 hP hK
  obtain ⟨rfl, hZ, hh⟩ := hP
  have hx := Bd.exec
  have hby := Bd.bytes
  have hml : c.maxLocals = 3 := hml0
  have hown : s.vm.findClass "com/example/kenning/kenning/index/Decoder" = some m.cls := findClass_of_methodNamed Bd.named
  have hnm := (name_of_methodNamed Bd.named Bd.method).1
  have hlk : meth.locks = false := BodyLoose.notSynchronized Bd
  have X0 : Stand p l e ({ frames := 1, cells := 0, slots := 0, locals := 12 } : Room) s m #[(.ref o0), (.ref o1), (.ref o2)] below meth c s₁ [] 0 0 := Stand.of_body Bd
  have e0 : s₁.heap = h0 := by rw [← hh, Bd.state]; rfl
  have N0 := Fr.nil n0
  refine Got.body (ef_2 m o0 o1 o2) ?_
  have K0 := Keep.refl h0 [o0]
  refine Got.step (T' := s₁) (g' := (mkF m 1 #[.val (.ref o0), .val (.ref o1), .val (.ref o2)] [(.ref o0)])) (fun tq kt => ?_) ?_
  · show Steps p.tables e below (s₁.setTop (mkF m 0 #[.val (.ref o0), .val (.ref o1), .val (.ref o2)] [])) _
    refine XS.aloadN X0.here hx rfl (hb hby d2_0) rfl rfl ?_
    exact kt
  obtain ⟨T11, X11, e11, st11⟩ := initO X0 hx hZ hown (hw _ (List.mem_of_getElem? (i := 18) rfl)) (hw _ (List.mem_of_getElem? (i := 19) rfl)) (hw _ (List.mem_of_getElem? (i := 20) rfl)) e0 (g := (mkF m 1 #[.val (.ref o0), .val (.ref o1), .val (.ref o2)] [(.ref o0)])) rfl (by rw [hml]; rfl) rfl (hb hby d2_1) (by decide) (W := 0) (by show 2 * 0 + _ ≤ _; exact Nat.le_of_eq rfl) (by decide)
  refine Got.step st11 ?_
  show Got p e below s _ _ _ _ T11 (mkF m 4 #[.val (.ref o0), .val (.ref o1), .val (.ref o2)] [])
  refine Got.step (T' := T11) (g' := (mkF m 6 #[.val (.ref o0), .val (.ref o1), .val (.ref o2)] [(.ref o1), (.ref o0)])) (fun tq kt => ?_) ?_
  · show Steps p.tables e below (T11.setTop (mkF m 4 #[.val (.ref o0), .val (.ref o1), .val (.ref o2)] [])) _
    refine XS.aloadN X11.here hx rfl (hb hby d2_4) rfl rfl ?_
    show Steps p.tables e below (T11.setTop (mkF m 5 #[.val (.ref o0), .val (.ref o1), .val (.ref o2)] [(.ref o0)])) _
    refine XS.aloadN X11.here hx rfl (hb hby d2_5) rfl rfl ?_
    exact kt
  obtain ⟨T12, h12, X12, e12, W12, st12⟩ := putF X11 hx hZ hown (host := "") (Or.inl (hw _ (List.mem_of_getElem? (i := 21) rfl))) Via.refl e11 F_bytes E_o0 (Or.inr ⟨(hw _ (List.mem_of_getElem? (i := 22) rfl)), rfl, hnm⟩) (hw _ (List.mem_of_getElem? (i := 6) rfl)) (ty := (.array .byte)) (by decide) rfl rfl (g := (mkF m 6 #[.val (.ref o0), .val (.ref o1), .val (.ref o2)] [(.ref o1), (.ref o0)])) rfl rfl (hb hby d2_6)
  have Z0_13 : n0 ≤ h12.size := (Nat.le_trans Z0 (Keep.of_wr W12).1)
  have K0_14 : Keep h0 h12 [o0] := (K0.wr W12 (Or.inl (List.mem_of_getElem? (i := 0) rfl)))
  have E_o0_15 : Exa Z h12 o0 "com/example/kenning/kenning/index/Decoder" := (E_o0.wr W12)
  have F_bytes_16 : Fld Z h12 o0 "com/example/kenning/kenning/index/Decoder" "bytes" "[B" (.ref o1) := (F_bytes.same W12)
  have F_limit_17 : Fld Z h12 o0 "com/example/kenning/kenning/index/Decoder" "limit" "I" (.int (0 : Int32)) := (F_limit.other W12 (Or.inr (slot_ne (Or.inr (hw _ (List.mem_of_getElem? (i := 24) rfl))) (Or.inr (hw _ (List.mem_of_getElem? (i := 22) rfl))) (by decide) (t := .int) (t' := (.array .byte)) (by decide) (by decide))))
  have F_source_18 : Fld Z h12 o0 "com/example/kenning/kenning/index/Decoder" "source" "Ljava/lang/String;" .null := (F_source.other W12 (Or.inr (slot_ne (Or.inr (hw _ (List.mem_of_getElem? (i := 26) rfl))) (Or.inr (hw _ (List.mem_of_getElem? (i := 22) rfl))) (by decide) (t := (.object "java/lang/String")) (t' := (.array .byte)) (by decide) (by decide))))
  have F_pages_19 : Fld Z h12 o0 "com/example/kenning/kenning/index/Decoder" "pages" "Lcom/example/kenning/kenning/index/Pages;" .null := (F_pages.other W12 (Or.inr (slot_ne (Or.inr (hw _ (List.mem_of_getElem? (i := 28) rfl))) (Or.inr (hw _ (List.mem_of_getElem? (i := 22) rfl))) (by decide) (t := (.object "com/example/kenning/kenning/index/Pages")) (t' := (.array .byte)) (by decide) (by decide))))
  have F_ready_20 : Fld Z h12 o0 "com/example/kenning/kenning/index/Decoder" "ready" "I" (.int (0 : Int32)) := (F_ready.other W12 (Or.inr (slot_ne (Or.inl (hw _ (List.mem_of_getElem? (i := 30) rfl))) (Or.inr (hw _ (List.mem_of_getElem? (i := 22) rfl))) (by decide) (t := .int) (t' := (.array .byte)) (by decide) (by decide))))
  have V1_21 : Arv Z h12 o1 kc .byte nn (bs.map Value.int) (.int (0 : Int32)) := (V1.other W12 hne)
  have N12 := Fr.snoc X12 N0 gn_o0
  refine Got.step st12 ?_
  show Got p e below s _ _ _ _ T12 (mkF m 9 #[.val (.ref o0), .val (.ref o1), .val (.ref o2)] [])
  refine Got.step (T' := T12) (g' := (mkF m 11 #[.val (.ref o0), .val (.ref o1), .val (.ref o2)] [(.ref o1), (.ref o0)])) (fun tq kt => ?_) ?_
  · show Steps p.tables e below (T12.setTop (mkF m 9 #[.val (.ref o0), .val (.ref o1), .val (.ref o2)] [])) _
    refine XS.aloadN X12.here hx rfl (hb hby d2_9) rfl rfl ?_
    show Steps p.tables e below (T12.setTop (mkF m 10 #[.val (.ref o0), .val (.ref o1), .val (.ref o2)] [(.ref o0)])) _
    refine XS.aloadN X12.here hx rfl (hb hby d2_10) rfl rfl ?_
    exact kt
  obtain ⟨cl22, Ar22, q22, S22, M22, H22, G22⟩ := (id V1_21)
  refine Got.step (T' := T12) (fun tq kt => X12.arraylength hx (cell := cl22) (by rw [e12]; exact Ar22.1) (State.isArrayOf_alike hZ.alike Ar22.2.1) (g := (mkF m 11 #[.val (.ref o0), .val (.ref o1), .val (.ref o2)] [(.ref o1), (.ref o0)])) rfl (rest := [(.ref o0)]) rfl (hb hby d2_11) tq kt) ?_
  rw [len_of S22 M22]
  show Got p e below s _ _ _ _ T12 (mkF m 12 #[.val (.ref o0), .val (.ref o1), .val (.ref o2)] [(.int nn), (.ref o0)])
  obtain ⟨T23, h23, X23, e23, W23, st23⟩ := putF X12 hx hZ hown (host := "") (Or.inl (hw _ (List.mem_of_getElem? (i := 23) rfl))) Via.refl e12 F_limit_17 E_o0_15 (Or.inr ⟨(hw _ (List.mem_of_getElem? (i := 24) rfl)), rfl, hnm⟩) (hw _ (List.mem_of_getElem? (i := 6) rfl)) (ty := .int) (by decide) rfl rfl (g := (mkF m 12 #[.val (.ref o0), .val (.ref o1), .val (.ref o2)] [(.int nn), (.ref o0)])) rfl rfl (hb hby d2_12)
  have Z0_24 : n0 ≤ h23.size := (Nat.le_trans Z0_13 (Keep.of_wr W23).1)
  have K0_25 : Keep h0 h23 [o0] := (K0_14.wr W23 (Or.inl (List.mem_of_getElem? (i := 0) rfl)))
  have E_o0_26 : Exa Z h23 o0 "com/example/kenning/kenning/index/Decoder" := (E_o0_15.wr W23)
  have F_bytes_27 : Fld Z h23 o0 "com/example/kenning/kenning/index/Decoder" "bytes" "[B" (.ref o1) := (F_bytes_16.other W23 (Or.inr (slot_ne (Or.inr (hw _ (List.mem_of_getElem? (i := 22) rfl))) (Or.inr (hw _ (List.mem_of_getElem? (i := 24) rfl))) (by decide) (t := (.array .byte)) (t' := .int) (by decide) (by decide))))
  have F_limit_28 : Fld Z h23 o0 "com/example/kenning/kenning/index/Decoder" "limit" "I" (.int nn) := (F_limit_17.same W23)
  have F_source_29 : Fld Z h23 o0 "com/example/kenning/kenning/index/Decoder" "source" "Ljava/lang/String;" .null := (F_source_18.other W23 (Or.inr (slot_ne (Or.inr (hw _ (List.mem_of_getElem? (i := 26) rfl))) (Or.inr (hw _ (List.mem_of_getElem? (i := 24) rfl))) (by decide) (t := (.object "java/lang/String")) (t' := .int) (by decide) (by decide))))
  have F_pages_30 : Fld Z h23 o0 "com/example/kenning/kenning/index/Decoder" "pages" "Lcom/example/kenning/kenning/index/Pages;" .null := (F_pages_19.other W23 (Or.inr (slot_ne (Or.inr (hw _ (List.mem_of_getElem? (i := 28) rfl))) (Or.inr (hw _ (List.mem_of_getElem? (i := 24) rfl))) (by decide) (t := (.object "com/example/kenning/kenning/index/Pages")) (t' := .int) (by decide) (by decide))))
  have F_ready_31 : Fld Z h23 o0 "com/example/kenning/kenning/index/Decoder" "ready" "I" (.int (0 : Int32)) := (F_ready_20.other W23 (Or.inr (slot_ne (Or.inl (hw _ (List.mem_of_getElem? (i := 30) rfl))) (Or.inr (hw _ (List.mem_of_getElem? (i := 24) rfl))) (by decide) (t := .int) (t' := .int) (by decide) (by decide))))
  have V1_32 : Arv Z h23 o1 kc .byte nn (bs.map Value.int) (.int (0 : Int32)) := (V1_21.other W23 hne)
  have N23 := Fr.snoc X23 N12 gn_o0
  refine Got.step st23 ?_
  show Got p e below s _ _ _ _ T23 (mkF m 15 #[.val (.ref o0), .val (.ref o1), .val (.ref o2)] [])
  refine Got.step (T' := T23) (g' := (mkF m 17 #[.val (.ref o0), .val (.ref o1), .val (.ref o2)] [(.ref o2), (.ref o0)])) (fun tq kt => ?_) ?_
  · show Steps p.tables e below (T23.setTop (mkF m 15 #[.val (.ref o0), .val (.ref o1), .val (.ref o2)] [])) _
    refine XS.aloadN X23.here hx rfl (hb hby d2_15) rfl rfl ?_
    show Steps p.tables e below (T23.setTop (mkF m 16 #[.val (.ref o0), .val (.ref o1), .val (.ref o2)] [(.ref o0)])) _
    refine XS.aloadN X23.here hx rfl (hb hby d2_16) rfl rfl ?_
    exact kt
  obtain ⟨T33, h33, X33, e33, W33, st33⟩ := putF X23 hx hZ hown (host := "") (Or.inl (hw _ (List.mem_of_getElem? (i := 25) rfl))) Via.refl e23 F_source_29 E_o0_26 (Or.inr ⟨(hw _ (List.mem_of_getElem? (i := 26) rfl)), rfl, hnm⟩) (hw _ (List.mem_of_getElem? (i := 6) rfl)) (ty := (.object "java/lang/String")) (by decide) rfl rfl (g := (mkF m 17 #[.val (.ref o0), .val (.ref o1), .val (.ref o2)] [(.ref o2), (.ref o0)])) rfl rfl (hb hby d2_17)
  have Z0_34 : n0 ≤ h33.size := (Nat.le_trans Z0_24 (Keep.of_wr W33).1)
  have K0_35 : Keep h0 h33 [o0] := (K0_25.wr W33 (Or.inl (List.mem_of_getElem? (i := 0) rfl)))
  have E_o0_36 : Exa Z h33 o0 "com/example/kenning/kenning/index/Decoder" := (E_o0_26.wr W33)
  have F_bytes_37 : Fld Z h33 o0 "com/example/kenning/kenning/index/Decoder" "bytes" "[B" (.ref o1) := (F_bytes_27.other W33 (Or.inr (slot_ne (Or.inr (hw _ (List.mem_of_getElem? (i := 22) rfl))) (Or.inr (hw _ (List.mem_of_getElem? (i := 26) rfl))) (by decide) (t := (.array .byte)) (t' := (.object "java/lang/String")) (by decide) (by decide))))
  have F_limit_38 : Fld Z h33 o0 "com/example/kenning/kenning/index/Decoder" "limit" "I" (.int nn) := (F_limit_28.other W33 (Or.inr (slot_ne (Or.inr (hw _ (List.mem_of_getElem? (i := 24) rfl))) (Or.inr (hw _ (List.mem_of_getElem? (i := 26) rfl))) (by decide) (t := .int) (t' := (.object "java/lang/String")) (by decide) (by decide))))
  have F_source_39 : Fld Z h33 o0 "com/example/kenning/kenning/index/Decoder" "source" "Ljava/lang/String;" (.ref o2) := (F_source_29.same W33)
  have F_pages_40 : Fld Z h33 o0 "com/example/kenning/kenning/index/Decoder" "pages" "Lcom/example/kenning/kenning/index/Pages;" .null := (F_pages_30.other W33 (Or.inr (slot_ne (Or.inr (hw _ (List.mem_of_getElem? (i := 28) rfl))) (Or.inr (hw _ (List.mem_of_getElem? (i := 26) rfl))) (by decide) (t := (.object "com/example/kenning/kenning/index/Pages")) (t' := (.object "java/lang/String")) (by decide) (by decide))))
  have F_ready_41 : Fld Z h33 o0 "com/example/kenning/kenning/index/Decoder" "ready" "I" (.int (0 : Int32)) := (F_ready_31.other W33 (Or.inr (slot_ne (Or.inl (hw _ (List.mem_of_getElem? (i := 30) rfl))) (Or.inr (hw _ (List.mem_of_getElem? (i := 26) rfl))) (by decide) (t := .int) (t' := (.object "java/lang/String")) (by decide) (by decide))))
  have V1_42 : Arv Z h33 o1 kc .byte nn (bs.map Value.int) (.int (0 : Int32)) := (V1_32.other W33 hne)
  have N33 := Fr.snoc X33 N23 gn_o0
  refine Got.step st33 ?_
  show Got p e below s _ _ _ _ T33 (mkF m 20 #[.val (.ref o0), .val (.ref o1), .val (.ref o2)] [])
  refine Got.step (T' := T33) (g' := (mkF m 22 #[.val (.ref o0), .val (.ref o1), .val (.ref o2)] [.null, (.ref o0)])) (fun tq kt => ?_) ?_
  · show Steps p.tables e below (T33.setTop (mkF m 20 #[.val (.ref o0), .val (.ref o1), .val (.ref o2)] [])) _
    refine XS.aloadN X33.here hx rfl (hb hby d2_20) rfl rfl ?_
    show Steps p.tables e below (T33.setTop (mkF m 21 #[.val (.ref o0), .val (.ref o1), .val (.ref o2)] [(.ref o0)])) _
    refine XS.aconstNull X33.here hx rfl (hb hby d2_21) ?_
    exact kt
  obtain ⟨T43, h43, X43, e43, W43, st43⟩ := putF X33 hx hZ hown (host := "") (Or.inl (hw _ (List.mem_of_getElem? (i := 27) rfl))) Via.refl e33 F_pages_40 E_o0_36 (Or.inr ⟨(hw _ (List.mem_of_getElem? (i := 28) rfl)), rfl, hnm⟩) (hw _ (List.mem_of_getElem? (i := 6) rfl)) (ty := (.object "com/example/kenning/kenning/index/Pages")) (by decide) rfl rfl (g := (mkF m 22 #[.val (.ref o0), .val (.ref o1), .val (.ref o2)] [.null, (.ref o0)])) rfl rfl (hb hby d2_22)
  have Z0_44 : n0 ≤ h43.size := (Nat.le_trans Z0_34 (Keep.of_wr W43).1)
  have K0_45 : Keep h0 h43 [o0] := (K0_35.wr W43 (Or.inl (List.mem_of_getElem? (i := 0) rfl)))
  have E_o0_46 : Exa Z h43 o0 "com/example/kenning/kenning/index/Decoder" := (E_o0_36.wr W43)
  have F_bytes_47 : Fld Z h43 o0 "com/example/kenning/kenning/index/Decoder" "bytes" "[B" (.ref o1) := (F_bytes_37.other W43 (Or.inr (slot_ne (Or.inr (hw _ (List.mem_of_getElem? (i := 22) rfl))) (Or.inr (hw _ (List.mem_of_getElem? (i := 28) rfl))) (by decide) (t := (.array .byte)) (t' := (.object "com/example/kenning/kenning/index/Pages")) (by decide) (by decide))))
  have F_limit_48 : Fld Z h43 o0 "com/example/kenning/kenning/index/Decoder" "limit" "I" (.int nn) := (F_limit_38.other W43 (Or.inr (slot_ne (Or.inr (hw _ (List.mem_of_getElem? (i := 24) rfl))) (Or.inr (hw _ (List.mem_of_getElem? (i := 28) rfl))) (by decide) (t := .int) (t' := (.object "com/example/kenning/kenning/index/Pages")) (by decide) (by decide))))
  have F_source_49 : Fld Z h43 o0 "com/example/kenning/kenning/index/Decoder" "source" "Ljava/lang/String;" (.ref o2) := (F_source_39.other W43 (Or.inr (slot_ne (Or.inr (hw _ (List.mem_of_getElem? (i := 26) rfl))) (Or.inr (hw _ (List.mem_of_getElem? (i := 28) rfl))) (by decide) (t := (.object "java/lang/String")) (t' := (.object "com/example/kenning/kenning/index/Pages")) (by decide) (by decide))))
  have F_pages_50 : Fld Z h43 o0 "com/example/kenning/kenning/index/Decoder" "pages" "Lcom/example/kenning/kenning/index/Pages;" .null := (F_pages_40.same W43)
  have F_ready_51 : Fld Z h43 o0 "com/example/kenning/kenning/index/Decoder" "ready" "I" (.int (0 : Int32)) := (F_ready_41.other W43 (Or.inr (slot_ne (Or.inl (hw _ (List.mem_of_getElem? (i := 30) rfl))) (Or.inr (hw _ (List.mem_of_getElem? (i := 28) rfl))) (by decide) (t := .int) (t' := (.object "com/example/kenning/kenning/index/Pages")) (by decide) (by decide))))
  have V1_52 : Arv Z h43 o1 kc .byte nn (bs.map Value.int) (.int (0 : Int32)) := (V1_42.other W43 hne)
  have N43 := Fr.snoc X43 N33 gn_o0
  refine Got.step st43 ?_
  show Got p e below s _ _ _ _ T43 (mkF m 25 #[.val (.ref o0), .val (.ref o1), .val (.ref o2)] [])
  refine Got.step (T' := T43) (g' := (mkF m 27 #[.val (.ref o0), .val (.ref o1), .val (.ref o2)] [(.ref o0), (.ref o0)])) (fun tq kt => ?_) ?_
  · show Steps p.tables e below (T43.setTop (mkF m 25 #[.val (.ref o0), .val (.ref o1), .val (.ref o2)] [])) _
    refine XS.aloadN X43.here hx rfl (hb hby d2_25) rfl rfl ?_
    show Steps p.tables e below (T43.setTop (mkF m 26 #[.val (.ref o0), .val (.ref o1), .val (.ref o2)] [(.ref o0)])) _
    refine XS.aloadN X43.here hx rfl (hb hby d2_26) rfl rfl ?_
    exact kt
  obtain ⟨T53, X53, e53, st53⟩ := getF X43 hx hZ hown (host := "") (Or.inl (hw _ (List.mem_of_getElem? (i := 23) rfl))) Via.refl e43 F_limit_48 (g := (mkF m 27 #[.val (.ref o0), .val (.ref o1), .val (.ref o2)] [(.ref o0), (.ref o0)])) rfl rfl (hb hby d2_27)
  refine Got.step st53 ?_
  show Got p e below s _ _ _ _ T53 (mkF m 30 #[.val (.ref o0), .val (.ref o1), .val (.ref o2)] [(.int nn), (.ref o0)])
  obtain ⟨T54, h54, X54, e54, W54, st54⟩ := putF X53 hx hZ hown (host := "") (Or.inl (hw _ (List.mem_of_getElem? (i := 29) rfl))) Via.refl e53 F_ready_51 E_o0_46 (Or.inl (hw _ (List.mem_of_getElem? (i := 30) rfl))) (hw _ (List.mem_of_getElem? (i := 6) rfl)) (ty := .int) (by decide) rfl rfl (g := (mkF m 30 #[.val (.ref o0), .val (.ref o1), .val (.ref o2)] [(.int nn), (.ref o0)])) rfl rfl (hb hby d2_30)
  have Z0_55 : n0 ≤ h54.size := (Nat.le_trans Z0_44 (Keep.of_wr W54).1)
  have K0_56 : Keep h0 h54 [o0] := (K0_45.wr W54 (Or.inl (List.mem_of_getElem? (i := 0) rfl)))
  have E_o0_57 : Exa Z h54 o0 "com/example/kenning/kenning/index/Decoder" := (E_o0_46.wr W54)
  have F_bytes_58 : Fld Z h54 o0 "com/example/kenning/kenning/index/Decoder" "bytes" "[B" (.ref o1) := (F_bytes_47.other W54 (Or.inr (slot_ne (Or.inr (hw _ (List.mem_of_getElem? (i := 22) rfl))) (Or.inl (hw _ (List.mem_of_getElem? (i := 30) rfl))) (by decide) (t := (.array .byte)) (t' := .int) (by decide) (by decide))))
  have F_limit_59 : Fld Z h54 o0 "com/example/kenning/kenning/index/Decoder" "limit" "I" (.int nn) := (F_limit_48.other W54 (Or.inr (slot_ne (Or.inr (hw _ (List.mem_of_getElem? (i := 24) rfl))) (Or.inl (hw _ (List.mem_of_getElem? (i := 30) rfl))) (by decide) (t := .int) (t' := .int) (by decide) (by decide))))
  have F_source_60 : Fld Z h54 o0 "com/example/kenning/kenning/index/Decoder" "source" "Ljava/lang/String;" (.ref o2) := (F_source_49.other W54 (Or.inr (slot_ne (Or.inr (hw _ (List.mem_of_getElem? (i := 26) rfl))) (Or.inl (hw _ (List.mem_of_getElem? (i := 30) rfl))) (by decide) (t := (.object "java/lang/String")) (t' := .int) (by decide) (by decide))))
  have F_pages_61 : Fld Z h54 o0 "com/example/kenning/kenning/index/Decoder" "pages" "Lcom/example/kenning/kenning/index/Pages;" .null := (F_pages_50.other W54 (Or.inr (slot_ne (Or.inr (hw _ (List.mem_of_getElem? (i := 28) rfl))) (Or.inl (hw _ (List.mem_of_getElem? (i := 30) rfl))) (by decide) (t := (.object "com/example/kenning/kenning/index/Pages")) (t' := .int) (by decide) (by decide))))
  have F_ready_62 : Fld Z h54 o0 "com/example/kenning/kenning/index/Decoder" "ready" "I" (.int nn) := (F_ready_51.same W54)
  have V1_63 : Arv Z h54 o1 kc .byte nn (bs.map Value.int) (.int (0 : Int32)) := (V1_52.other W54 hne)
  have N54 := Fr.snoc X54 N43 gn_o0
  refine Got.step st54 ?_
  show Got p e below s _ _ _ _ T54 (mkF m 33 #[.val (.ref o0), .val (.ref o1), .val (.ref o2)] [])
  exact Got.retV X54 hx Bd.returns hlk (hb hby d2_33) ⟨N54, by rw [e54]; exact K0_56, by rw [e54]; exact E_o0_57, by rw [e54]; exact F_bytes_58⟩ (by decide) (by decide)
theorem os67 {z0 : Value} {z1 : Value} {z2 : Value} {z3 : Value} {s4 : Slot} {s5 : Slot} {v : Int32} (h : One s4) : storeLocals #[.val z0, .val z1, .val z2, .val z3, s4, s5] 4 (.int v) = some #[.val z0, .val z1, .val z2, .val z3, .val (.int v), s5] := by
  rcases h with rfl | ⟨w, rfl, hw⟩
  · rfl
  · cases w <;> first | rfl | (simp [Value.category] at hw)
theorem os69 {z0 : Value} {z1 : Value} {z2 : Value} {z3 : Value} {s4 : Slot} {s5 : Slot} {v : Int32} (h : One s4) : storeLocals #[.val z0, .val z1, .val z2, .val z3, s4, s5] 4 (.int v) = some #[.val z0, .val z1, .val z2, .val z3, .val (.int v), s5] := by
  rcases h with rfl | ⟨w, rfl, hw⟩
  · rfl
  · cases w <;> first | rfl | (simp [Value.category] at hw)
theorem os75 {z0 : Value} {z1 : Value} {z2 : Value} {z3 : Value} {s4 : Slot} {s5 : Slot} {v : Int32} (h : One s4) : storeLocals #[.val z0, .val z1, .val z2, .val z3, s4, s5] 4 (.int v) = some #[.val z0, .val z1, .val z2, .val z3, .val (.int v), s5] := by
  rcases h with rfl | ⟨w, rfl, hw⟩
  · rfl
  · cases w <;> first | rfl | (simp [Value.category] at hw)
theorem os77 {z0 : Value} {z1 : Value} {z2 : Value} {z3 : Value} {s4 : Slot} {s5 : Slot} {v : Int32} (h : One s4) : storeLocals #[.val z0, .val z1, .val z2, .val z3, s4, s5] 4 (.int v) = some #[.val z0, .val z1, .val z2, .val z3, .val (.int v), s5] := by
  rcases h with rfl | ⟨w, rfl, hw⟩
  · rfl
  · cases w <;> first | rfl | (simp [Value.category] at hw)
theorem os82 {z0 : Value} {z1 : Value} {z2 : Value} {z3 : Value} {z4 : Value} {s5 : Slot} {v : Int32} (h : One s5) : storeLocals #[.val z0, .val z1, .val z2, .val z3, .val z4, s5] 5 (.int v) = some #[.val z0, .val z1, .val z2, .val z3, .val z4, .val (.int v)] := by
  rcases h with rfl | ⟨w, rfl, hw⟩
  · rfl
  · cases w <;> first | rfl | (simp [Value.category] at hw)
theorem ef_4 (m : MethodId) (x0 : Addr) (x1 : Int32) (x2 : Addr) : entryFrame m #[(.ref x0), (.int x1), (.ref x2)] 6 = mkF m 0 #[.val (.ref x0), .val (.int x1), .val (.ref x2), .unset, .unset, .unset] [] := by first | (simp [entryFrame, mkF, argsToLocals, Value.category]; done) | rfl
theorem d4_0 : decode prog_179_method_19_code 0 = .ok (.iconst 0, 1) := by decide +kernel
theorem d4_1 : decode prog_179_method_19_code 1 = .ok (.istore_n 3, 1) := by decide +kernel
theorem d4_2 : decode prog_179_method_19_code 2 = .ok (.aload_n 0, 1) := by decide +kernel
theorem d4_3 : decode prog_179_method_19_code 3 = .ok (.getfield 7, 3) := by decide +kernel
theorem d4_6 : decode prog_179_method_19_code 6 = .ok (.iload_n 1, 1) := by decide +kernel
theorem d4_7 : decode prog_179_method_19_code 7 = .ok (.iload_n 3, 1) := by decide +kernel
theorem d4_8 : decode prog_179_method_19_code 8 = .ok (.iadd, 1) := by decide +kernel
theorem d4_9 : decode prog_179_method_19_code 9 = .ok (.baload, 1) := by decide +kernel
theorem d4_10 : decode prog_179_method_19_code 10 = .ok (.iconst (-1), 1) := by decide +kernel
theorem d4_11 : decode prog_179_method_19_code 11 = .ok (.if_icmp .ne 7, 3) := by decide +kernel
theorem d4_14 : decode prog_179_method_19_code 14 = .ok (.iconst 1, 1) := by decide +kernel
theorem d4_15 : decode prog_179_method_19_code 15 = .ok (.goto 4, 3) := by decide +kernel
theorem d4_18 : decode prog_179_method_19_code 18 = .ok (.iconst 0, 1) := by decide +kernel
theorem d4_19 : decode prog_179_method_19_code 19 = .ok (.istore 4, 2) := by decide +kernel
theorem d4_21 : decode prog_179_method_19_code 21 = .ok (.iload 4, 2) := by decide +kernel
theorem d4_23 : decode prog_179_method_19_code 23 = .ok (.ifCond .ne 9, 3) := by decide +kernel
theorem d4_26 : decode prog_179_method_19_code 26 = .ok (.iload_n 3, 1) := by decide +kernel
theorem d4_27 : decode prog_179_method_19_code 27 = .ok (.aload_n 2, 1) := by decide +kernel
theorem d4_28 : decode prog_179_method_19_code 28 = .ok (.arraylength, 1) := by decide +kernel
theorem d4_29 : decode prog_179_method_19_code 29 = .ok (.if_icmp .ne 26, 3) := by decide +kernel
theorem d4_32 : decode prog_179_method_19_code 32 = .ok (.iload 4, 2) := by decide +kernel
theorem d4_34 : decode prog_179_method_19_code 34 = .ok (.ifCond .eq 7, 3) := by decide +kernel
theorem d4_37 : decode prog_179_method_19_code 37 = .ok (.iconst 0, 1) := by decide +kernel
theorem d4_38 : decode prog_179_method_19_code 38 = .ok (.goto 4, 3) := by decide +kernel
theorem d4_41 : decode prog_179_method_19_code 41 = .ok (.iconst 1, 1) := by decide +kernel
theorem d4_42 : decode prog_179_method_19_code 42 = .ok (.iload_n 3, 1) := by decide +kernel
theorem d4_43 : decode prog_179_method_19_code 43 = .ok (.aload_n 2, 1) := by decide +kernel
theorem d4_44 : decode prog_179_method_19_code 44 = .ok (.arraylength, 1) := by decide +kernel
theorem d4_45 : decode prog_179_method_19_code 45 = .ok (.if_icmp .ne 7, 3) := by decide +kernel
theorem d4_48 : decode prog_179_method_19_code 48 = .ok (.iconst 0, 1) := by decide +kernel
theorem d4_49 : decode prog_179_method_19_code 49 = .ok (.goto 4, 3) := by decide +kernel
theorem d4_52 : decode prog_179_method_19_code 52 = .ok (.iconst 1, 1) := by decide +kernel
theorem d4_53 : decode prog_179_method_19_code 53 = .ok (.isub, 1) := by decide +kernel
theorem d4_54 : decode prog_179_method_19_code 54 = .ok (.ireturn, 1) := by decide +kernel
theorem d4_55 : decode prog_179_method_19_code 55 = .ok (.aload_n 0, 1) := by decide +kernel
theorem d4_56 : decode prog_179_method_19_code 56 = .ok (.getfield 7, 3) := by decide +kernel
theorem d4_59 : decode prog_179_method_19_code 59 = .ok (.iload_n 1, 1) := by decide +kernel
theorem d4_60 : decode prog_179_method_19_code 60 = .ok (.iload_n 3, 1) := by decide +kernel
theorem d4_61 : decode prog_179_method_19_code 61 = .ok (.iadd, 1) := by decide +kernel
theorem d4_62 : decode prog_179_method_19_code 62 = .ok (.baload, 1) := by decide +kernel
theorem d4_63 : decode prog_179_method_19_code 63 = .ok (.sipush 255, 3) := by decide +kernel
theorem d4_66 : decode prog_179_method_19_code 66 = .ok (.iand, 1) := by decide +kernel
theorem d4_67 : decode prog_179_method_19_code 67 = .ok (.aload_n 2, 1) := by decide +kernel
theorem d4_68 : decode prog_179_method_19_code 68 = .ok (.iload_n 3, 1) := by decide +kernel
theorem d4_69 : decode prog_179_method_19_code 69 = .ok (.baload, 1) := by decide +kernel
theorem d4_70 : decode prog_179_method_19_code 70 = .ok (.sipush 255, 3) := by decide +kernel
theorem d4_73 : decode prog_179_method_19_code 73 = .ok (.iand, 1) := by decide +kernel
theorem d4_74 : decode prog_179_method_19_code 74 = .ok (.isub, 1) := by decide +kernel
theorem d4_75 : decode prog_179_method_19_code 75 = .ok (.istore 5, 2) := by decide +kernel
theorem d4_77 : decode prog_179_method_19_code 77 = .ok (.iload 5, 2) := by decide +kernel
theorem d4_79 : decode prog_179_method_19_code 79 = .ok (.ifCond .eq 6, 3) := by decide +kernel
theorem d4_82 : decode prog_179_method_19_code 82 = .ok (.iload 5, 2) := by decide +kernel
theorem d4_84 : decode prog_179_method_19_code 84 = .ok (.ireturn, 1) := by decide +kernel
theorem d4_85 : decode prog_179_method_19_code 85 = .ok (.iinc 3 1, 3) := by decide +kernel
theorem d4_88 : decode prog_179_method_19_code 88 = .ok (.goto (-86), 3) := by decide +kernel
set_option maxRecDepth 65536 in
set_option maxHeartbeats 40000000 in
theorem rm4 (l : Launch) (Z : State) (a0 : Array Value) (hw : ∀ d ∈ tables_1, d.before a0 Z = true) (ws : List Jvm.Cond) (o0 : Addr) (sn : Nat) (o2 : Addr) (un : Nat) (bs us : List Int32) (o7 : Addr) (kb ku : ClassId) (h0 : Heap) (n0 : Nat) (Z0 : n0 ≤ h0.size) (F0 : Fld Z h0 o0 "com/example/kenning/kenning/index/Decoder" "bytes" "[B" (.ref o7)) (V7 : Arv Z h0 o7 kb .byte (7 : Int32) (bs.map Value.int) (.int (0 : Int32))) (V2 : Arv Z h0 o2 ku .byte (Int32.ofNat un) (us.map Value.int) (.int (0 : Int32))) (hsn : sn ≤ 2) (hun : un ≤ 3) :
    MetFree l (⟨"com/example/kenning/kenning/index/Decoder", "compareText", "(I[B)I"⟩ : MethodName) (head1 (Jvm.Cond.code (⟨"com/example/kenning/kenning/index/Decoder", "compareText", "(I[B)I"⟩ : MethodName) prog_179_method_19_code 6 (some .int) :: ws) ({ frames := 0, cells := 0, slots := 0, locals := 0 } : Room)) (fun a U => a = #[(.ref o0), (.int (Int32.ofNat sn)), (.ref o2)] ∧ Z.Warmed39 U.vm ∧ U.heap = h0) (fun _ _ _ _ _ => True) (fun _ U o U' => ∃ v L, o = .returned v ∧ QV (some (.int (ct bs us sn un 0))) (PureP n0 h0) v U'.heap L ∧ FrameEnd U o U' L ({ frames := 0, cells := 0, slots := 0, locals := 0 } : Room).cells ({ frames := 0, cells := 0, slots := 0, locals := 0 } : Room).slots) := by
  refine MetFree.of_bodySF (plainFor_of_name pn_1) hisR ?_
  intro p e s m args below meth c s₁ Bd hml0 hP hK
  obtain ⟨rfl, hZ, hh⟩ := hP
  have hx := Bd.exec
  have hby := Bd.bytes
  have hml : c.maxLocals = 6 := hml0
  have hown : s.vm.findClass "com/example/kenning/kenning/index/Decoder" = some m.cls := findClass_of_methodNamed Bd.named
  have hnm := (name_of_methodNamed Bd.named Bd.method).1
  have hlk : meth.locks = false := BodyLoose.notSynchronized Bd
  have X0 : Stand p l e ({ frames := 0, cells := 0, slots := 0, locals := 0 } : Room) s m #[(.ref o0), (.int (Int32.ofNat sn)), (.ref o2)] below meth c s₁ [] 0 0 := Stand.of_body Bd
  have e0 : s₁.heap = h0 := by rw [← hh, Bd.state]; rfl
  have N0 := Fr.nil n0
  refine Got.body (ef_4 m o0 (Int32.ofNat sn) o2) ?_
  have J : ∀ (k i : Nat), i + k = un → ∀ (T1 : State), Stand p l e ({ frames := 0, cells := 0, slots := 0, locals := 0 } : Room) s m #[(.ref o0), (.int (Int32.ofNat sn)), (.ref o2)] below meth c T1 [] 0 0 → T1.heap = h0 → ∀ (s4 : Slot), One s4 → ∀ (s5 : Slot), One s5 → Got p e below s (PureP n0 h0) 0 0 (some (.int (ct bs us sn k i))) T1 (mkF m 2 #[.val (.ref o0), .val (.int (Int32.ofNat sn)), .val (.ref o2), .val (.int (Int32.ofNat i)), s4, s5] []) := by
    intro k
    induction k with
    | zero =>
      intro i hi T1 X1 e1 s4 hs4 s5 hs5
      show Got p e below s (PureP n0 h0) 0 0 (some (.int (if (bs.getD (sn + i) 0) = (-1 : Int32) then ((0 : Int32) - (0 : Int32)) else ((1 : Int32) - (0 : Int32))))) T1 (mkF m 2 #[.val (.ref o0), .val (.int (Int32.ofNat sn)), .val (.ref o2), .val (.int (Int32.ofNat i)), s4, s5] [])
      refine Got.step (T' := T1) (g' := (mkF m 3 #[.val (.ref o0), .val (.int (Int32.ofNat sn)), .val (.ref o2), .val (.int (Int32.ofNat i)), s4, s5] [(.ref o0)])) (fun tq kt => ?_) ?_
      · show Steps p.tables e below (T1.setTop (mkF m 2 #[.val (.ref o0), .val (.int (Int32.ofNat sn)), .val (.ref o2), .val (.int (Int32.ofNat i)), s4, s5] [])) _
        refine XS.aloadN X1.here hx rfl (hb hby d4_2) rfl rfl ?_
        exact kt
      obtain ⟨T64, X64, e64, st64⟩ := getF X1 hx hZ hown (host := "") (Or.inl (hw _ (List.mem_of_getElem? (i := 21) rfl))) Via.refl e1 F0 (g := (mkF m 3 #[.val (.ref o0), .val (.int (Int32.ofNat sn)), .val (.ref o2), .val (.int (Int32.ofNat i)), s4, s5] [(.ref o0)])) rfl rfl (hb hby d4_3)
      refine Got.step st64 ?_
      show Got p e below s _ _ _ _ T64 (mkF m 6 #[.val (.ref o0), .val (.int (Int32.ofNat sn)), .val (.ref o2), .val (.int (Int32.ofNat i)), s4, s5] [(.ref o7)])
      refine Got.step (T' := T64) (g' := (mkF m 9 #[.val (.ref o0), .val (.int (Int32.ofNat sn)), .val (.ref o2), .val (.int (Int32.ofNat i)), s4, s5] [(.int ((Int32.ofNat sn) + (Int32.ofNat i))), (.ref o7)])) (fun tq kt => ?_) ?_
      · show Steps p.tables e below (T64.setTop (mkF m 6 #[.val (.ref o0), .val (.int (Int32.ofNat sn)), .val (.ref o2), .val (.int (Int32.ofNat i)), s4, s5] [(.ref o7)])) _
        refine XS.iloadN X64.here hx rfl (hb hby d4_6) rfl ?_
        show Steps p.tables e below (T64.setTop (mkF m 7 #[.val (.ref o0), .val (.int (Int32.ofNat sn)), .val (.ref o2), .val (.int (Int32.ofNat i)), s4, s5] [(.int (Int32.ofNat sn)), (.ref o7)])) _
        refine XS.iloadN X64.here hx rfl (hb hby d4_7) rfl ?_
        show Steps p.tables e below (T64.setTop (mkF m 8 #[.val (.ref o0), .val (.int (Int32.ofNat sn)), .val (.ref o2), .val (.int (Int32.ofNat i)), s4, s5] [(.int (Int32.ofNat i)), (.int (Int32.ofNat sn)), (.ref o7)])) _
        refine XS.iadd X64.here hx rfl (hb hby d4_8) rfl ?_
        exact kt
      obtain ⟨cl65, Ar65, q65, S65, M65, H65, G65⟩ := (id V7)
      have hin65 : ¬ (((Int32.ofNat sn) + (Int32.ofNat i)) < 0 ∨ cl65.slots.size ≤ (((Int32.ofNat sn) + (Int32.ofNat i))).toNatClampNeg) := inb_of S65 (own_in7 hsn (by omega))
      refine Got.step (T' := T64) (fun tq kt => X64.baloadBytes hx (j := ((Int32.ofNat sn) + (Int32.ofNat i))) (v := (.int (bs.getD (sn + i) 0))) (by rw [e64]; exact Ar65.1) (State.isArrayOf_alike hZ.alike Ar65.2.1) Ar65.2.2 hin65 (H65.at hin65 (own_rd _ (by omega))) (g := (mkF m 9 #[.val (.ref o0), .val (.int (Int32.ofNat sn)), .val (.ref o2), .val (.int (Int32.ofNat i)), s4, s5] [(.int ((Int32.ofNat sn) + (Int32.ofNat i))), (.ref o7)])) rfl rfl (hb hby d4_9) tq kt) ?_
      show Got p e below s _ _ _ _ T64 (mkF m 10 #[.val (.ref o0), .val (.int (Int32.ofNat sn)), .val (.ref o2), .val (.int (Int32.ofNat i)), s4, s5] [(.int (bs.getD (sn + i) 0))])
      refine Got.step (T' := T64) (g' := (mkF m 11 #[.val (.ref o0), .val (.int (Int32.ofNat sn)), .val (.ref o2), .val (.int (Int32.ofNat i)), s4, s5] [(.int (-1 : Int32)), (.int (bs.getD (sn + i) 0))])) (fun tq kt => ?_) ?_
      · show Steps p.tables e below (T64.setTop (mkF m 10 #[.val (.ref o0), .val (.int (Int32.ofNat sn)), .val (.ref o2), .val (.int (Int32.ofNat i)), s4, s5] [(.int (bs.getD (sn + i) 0))])) _
        refine XS.iconst X64.here hx rfl (hb hby d4_10) ?_
        exact kt
      refine Got.ite (q := ((bs.getD (sn + i) 0) = (-1 : Int32))) (fun hc66 => ?_) (fun hc66 => ?_)
      · refine Got.step (T' := T64) (g' := (mkF m 44 #[.val (.ref o0), .val (.int (Int32.ofNat sn)), .val (.ref o2), .val (.int (Int32.ofNat i)), .val (.int (1 : Int32)), s5] [(.ref o2), (.int (Int32.ofNat i)), (.int (0 : Int32))])) (fun tq kt => ?_) ?_
        · show Steps p.tables e below (T64.setTop (mkF m 11 #[.val (.ref o0), .val (.int (Int32.ofNat sn)), .val (.ref o2), .val (.int (Int32.ofNat i)), s4, s5] [(.int (-1 : Int32)), (.int (bs.getD (sn + i) 0))])) _
          refine XS.icmpNo X64.here hx rfl (hb hby d4_11) rfl (XT.ii_ne_f hc66) ?_
          show Steps p.tables e below (T64.setTop (mkF m 14 #[.val (.ref o0), .val (.int (Int32.ofNat sn)), .val (.ref o2), .val (.int (Int32.ofNat i)), s4, s5] [])) _
          refine XS.iconst X64.here hx rfl (hb hby d4_14) ?_
          show Steps p.tables e below (T64.setTop (mkF m 15 #[.val (.ref o0), .val (.int (Int32.ofNat sn)), .val (.ref o2), .val (.int (Int32.ofNat i)), s4, s5] [(.int (1 : Int32))])) _
          refine XS.goto X64.here hx rfl (pc0 := 15) (pc' := 19) rfl (hb hby d4_15) (by decide) (by decide) ?_
          show Steps p.tables e below (T64.setTop (mkF m 19 #[.val (.ref o0), .val (.int (Int32.ofNat sn)), .val (.ref o2), .val (.int (Int32.ofNat i)), s4, s5] [(.int (1 : Int32))])) _
          refine XS.istore X64.here hx rfl (hb hby d4_19) rfl (l' := #[.val (.ref o0), .val (.int (Int32.ofNat sn)), .val (.ref o2), .val (.int (Int32.ofNat i)), .val (.int (1 : Int32)), s5]) (os67 hs4) ?_
          show Steps p.tables e below (T64.setTop (mkF m 21 #[.val (.ref o0), .val (.int (Int32.ofNat sn)), .val (.ref o2), .val (.int (Int32.ofNat i)), .val (.int (1 : Int32)), s5] [])) _
          refine XS.iload X64.here hx rfl (hb hby d4_21) rfl ?_
          show Steps p.tables e below (T64.setTop (mkF m 23 #[.val (.ref o0), .val (.int (Int32.ofNat sn)), .val (.ref o2), .val (.int (Int32.ofNat i)), .val (.int (1 : Int32)), s5] [(.int (1 : Int32))])) _
          refine XS.ifYes X64.here hx rfl (pc0 := 23) (pc' := 32) rfl (hb hby d4_23) rfl (XT.i0_ne_t (by decide)) (by decide) (by decide) ?_
          show Steps p.tables e below (T64.setTop (mkF m 32 #[.val (.ref o0), .val (.int (Int32.ofNat sn)), .val (.ref o2), .val (.int (Int32.ofNat i)), .val (.int (1 : Int32)), s5] [])) _
          refine XS.iload X64.here hx rfl (hb hby d4_32) rfl ?_
          show Steps p.tables e below (T64.setTop (mkF m 34 #[.val (.ref o0), .val (.int (Int32.ofNat sn)), .val (.ref o2), .val (.int (Int32.ofNat i)), .val (.int (1 : Int32)), s5] [(.int (1 : Int32))])) _
          refine XS.ifNo X64.here hx rfl (hb hby d4_34) rfl (XT.i0_eq_f (by decide)) ?_
          show Steps p.tables e below (T64.setTop (mkF m 37 #[.val (.ref o0), .val (.int (Int32.ofNat sn)), .val (.ref o2), .val (.int (Int32.ofNat i)), .val (.int (1 : Int32)), s5] [])) _
          refine XS.iconst X64.here hx rfl (hb hby d4_37) ?_
          show Steps p.tables e below (T64.setTop (mkF m 38 #[.val (.ref o0), .val (.int (Int32.ofNat sn)), .val (.ref o2), .val (.int (Int32.ofNat i)), .val (.int (1 : Int32)), s5] [(.int (0 : Int32))])) _
          refine XS.goto X64.here hx rfl (pc0 := 38) (pc' := 42) rfl (hb hby d4_38) (by decide) (by decide) ?_
          show Steps p.tables e below (T64.setTop (mkF m 42 #[.val (.ref o0), .val (.int (Int32.ofNat sn)), .val (.ref o2), .val (.int (Int32.ofNat i)), .val (.int (1 : Int32)), s5] [(.int (0 : Int32))])) _
          refine XS.iloadN X64.here hx rfl (hb hby d4_42) rfl ?_
          show Steps p.tables e below (T64.setTop (mkF m 43 #[.val (.ref o0), .val (.int (Int32.ofNat sn)), .val (.ref o2), .val (.int (Int32.ofNat i)), .val (.int (1 : Int32)), s5] [(.int (Int32.ofNat i)), (.int (0 : Int32))])) _
          refine XS.aloadN X64.here hx rfl (hb hby d4_43) rfl rfl ?_
          exact kt
        obtain ⟨cl68, Ar68, q68, S68, M68, H68, G68⟩ := (id V2)
        refine Got.step (T' := T64) (fun tq kt => X64.arraylength hx (cell := cl68) (by rw [e64]; exact Ar68.1) (State.isArrayOf_alike hZ.alike Ar68.2.1) (g := (mkF m 44 #[.val (.ref o0), .val (.int (Int32.ofNat sn)), .val (.ref o2), .val (.int (Int32.ofNat i)), .val (.int (1 : Int32)), s5] [(.ref o2), (.int (Int32.ofNat i)), (.int (0 : Int32))])) rfl (rest := [(.int (Int32.ofNat i)), (.int (0 : Int32))]) rfl (hb hby d4_44) tq kt) ?_
        rw [len_of S68 M68]
        show Got p e below s _ _ _ _ T64 (mkF m 45 #[.val (.ref o0), .val (.int (Int32.ofNat sn)), .val (.ref o2), .val (.int (Int32.ofNat i)), .val (.int (1 : Int32)), s5] [(.int (Int32.ofNat un)), (.int (Int32.ofNat i)), (.int (0 : Int32))])
        refine Got.step (T' := T64) (g' := (mkF m 54 #[.val (.ref o0), .val (.int (Int32.ofNat sn)), .val (.ref o2), .val (.int (Int32.ofNat i)), .val (.int (1 : Int32)), s5] [(.int ((0 : Int32) - (0 : Int32)))])) (fun tq kt => ?_) ?_
        · show Steps p.tables e below (T64.setTop (mkF m 45 #[.val (.ref o0), .val (.int (Int32.ofNat sn)), .val (.ref o2), .val (.int (Int32.ofNat i)), .val (.int (1 : Int32)), s5] [(.int (Int32.ofNat un)), (.int (Int32.ofNat i)), (.int (0 : Int32))])) _
          refine XS.icmpNo X64.here hx rfl (hb hby d4_45) rfl (XT.ii_ne_f (own_eqn hi)) ?_
          show Steps p.tables e below (T64.setTop (mkF m 48 #[.val (.ref o0), .val (.int (Int32.ofNat sn)), .val (.ref o2), .val (.int (Int32.ofNat i)), .val (.int (1 : Int32)), s5] [(.int (0 : Int32))])) _
          refine XS.iconst X64.here hx rfl (hb hby d4_48) ?_
          show Steps p.tables e below (T64.setTop (mkF m 49 #[.val (.ref o0), .val (.int (Int32.ofNat sn)), .val (.ref o2), .val (.int (Int32.ofNat i)), .val (.int (1 : Int32)), s5] [(.int (0 : Int32)), (.int (0 : Int32))])) _
          refine XS.goto X64.here hx rfl (pc0 := 49) (pc' := 53) rfl (hb hby d4_49) (by decide) (by decide) ?_
          show Steps p.tables e below (T64.setTop (mkF m 53 #[.val (.ref o0), .val (.int (Int32.ofNat sn)), .val (.ref o2), .val (.int (Int32.ofNat i)), .val (.int (1 : Int32)), s5] [(.int (0 : Int32)), (.int (0 : Int32))])) _
          refine XS.isub X64.here hx rfl (hb hby d4_53) rfl ?_
          exact kt
        exact Got.retI (y := ((0 : Int32) - (0 : Int32))) X64 hx Bd.returns hlk (hb hby d4_54) rfl ⟨N0, e64⟩ (by decide) (by decide)
      · refine Got.step (T' := T64) (g' := (mkF m 28 #[.val (.ref o0), .val (.int (Int32.ofNat sn)), .val (.ref o2), .val (.int (Int32.ofNat i)), .val (.int (0 : Int32)), s5] [(.ref o2), (.int (Int32.ofNat i))])) (fun tq kt => ?_) ?_
        · show Steps p.tables e below (T64.setTop (mkF m 11 #[.val (.ref o0), .val (.int (Int32.ofNat sn)), .val (.ref o2), .val (.int (Int32.ofNat i)), s4, s5] [(.int (-1 : Int32)), (.int (bs.getD (sn + i) 0))])) _
          refine XS.icmpYes X64.here hx rfl (pc0 := 11) (pc' := 18) rfl (hb hby d4_11) rfl (XT.ii_ne_t hc66) (by decide) (by decide) ?_
          show Steps p.tables e below (T64.setTop (mkF m 18 #[.val (.ref o0), .val (.int (Int32.ofNat sn)), .val (.ref o2), .val (.int (Int32.ofNat i)), s4, s5] [])) _
          refine XS.iconst X64.here hx rfl (hb hby d4_18) ?_
          show Steps p.tables e below (T64.setTop (mkF m 19 #[.val (.ref o0), .val (.int (Int32.ofNat sn)), .val (.ref o2), .val (.int (Int32.ofNat i)), s4, s5] [(.int (0 : Int32))])) _
          refine XS.istore X64.here hx rfl (hb hby d4_19) rfl (l' := #[.val (.ref o0), .val (.int (Int32.ofNat sn)), .val (.ref o2), .val (.int (Int32.ofNat i)), .val (.int (0 : Int32)), s5]) (os69 hs4) ?_
          show Steps p.tables e below (T64.setTop (mkF m 21 #[.val (.ref o0), .val (.int (Int32.ofNat sn)), .val (.ref o2), .val (.int (Int32.ofNat i)), .val (.int (0 : Int32)), s5] [])) _
          refine XS.iload X64.here hx rfl (hb hby d4_21) rfl ?_
          show Steps p.tables e below (T64.setTop (mkF m 23 #[.val (.ref o0), .val (.int (Int32.ofNat sn)), .val (.ref o2), .val (.int (Int32.ofNat i)), .val (.int (0 : Int32)), s5] [(.int (0 : Int32))])) _
          refine XS.ifNo X64.here hx rfl (hb hby d4_23) rfl (XT.i0_ne_f (by decide)) ?_
          show Steps p.tables e below (T64.setTop (mkF m 26 #[.val (.ref o0), .val (.int (Int32.ofNat sn)), .val (.ref o2), .val (.int (Int32.ofNat i)), .val (.int (0 : Int32)), s5] [])) _
          refine XS.iloadN X64.here hx rfl (hb hby d4_26) rfl ?_
          show Steps p.tables e below (T64.setTop (mkF m 27 #[.val (.ref o0), .val (.int (Int32.ofNat sn)), .val (.ref o2), .val (.int (Int32.ofNat i)), .val (.int (0 : Int32)), s5] [(.int (Int32.ofNat i))])) _
          refine XS.aloadN X64.here hx rfl (hb hby d4_27) rfl rfl ?_
          exact kt
        obtain ⟨cl70, Ar70, q70, S70, M70, H70, G70⟩ := (id V2)
        refine Got.step (T' := T64) (fun tq kt => X64.arraylength hx (cell := cl70) (by rw [e64]; exact Ar70.1) (State.isArrayOf_alike hZ.alike Ar70.2.1) (g := (mkF m 28 #[.val (.ref o0), .val (.int (Int32.ofNat sn)), .val (.ref o2), .val (.int (Int32.ofNat i)), .val (.int (0 : Int32)), s5] [(.ref o2), (.int (Int32.ofNat i))])) rfl (rest := [(.int (Int32.ofNat i))]) rfl (hb hby d4_28) tq kt) ?_
        rw [len_of S70 M70]
        show Got p e below s _ _ _ _ T64 (mkF m 29 #[.val (.ref o0), .val (.int (Int32.ofNat sn)), .val (.ref o2), .val (.int (Int32.ofNat i)), .val (.int (0 : Int32)), s5] [(.int (Int32.ofNat un)), (.int (Int32.ofNat i))])
        refine Got.step (T' := T64) (g' := (mkF m 44 #[.val (.ref o0), .val (.int (Int32.ofNat sn)), .val (.ref o2), .val (.int (Int32.ofNat i)), .val (.int (0 : Int32)), s5] [(.ref o2), (.int (Int32.ofNat i)), (.int (1 : Int32))])) (fun tq kt => ?_) ?_
        · show Steps p.tables e below (T64.setTop (mkF m 29 #[.val (.ref o0), .val (.int (Int32.ofNat sn)), .val (.ref o2), .val (.int (Int32.ofNat i)), .val (.int (0 : Int32)), s5] [(.int (Int32.ofNat un)), (.int (Int32.ofNat i))])) _
          refine XS.icmpNo X64.here hx rfl (hb hby d4_29) rfl (XT.ii_ne_f (own_eqn hi)) ?_
          show Steps p.tables e below (T64.setTop (mkF m 32 #[.val (.ref o0), .val (.int (Int32.ofNat sn)), .val (.ref o2), .val (.int (Int32.ofNat i)), .val (.int (0 : Int32)), s5] [])) _
          refine XS.iload X64.here hx rfl (hb hby d4_32) rfl ?_
          show Steps p.tables e below (T64.setTop (mkF m 34 #[.val (.ref o0), .val (.int (Int32.ofNat sn)), .val (.ref o2), .val (.int (Int32.ofNat i)), .val (.int (0 : Int32)), s5] [(.int (0 : Int32))])) _
          refine XS.ifYes X64.here hx rfl (pc0 := 34) (pc' := 41) rfl (hb hby d4_34) rfl (XT.i0_eq_t (by decide)) (by decide) (by decide) ?_
          show Steps p.tables e below (T64.setTop (mkF m 41 #[.val (.ref o0), .val (.int (Int32.ofNat sn)), .val (.ref o2), .val (.int (Int32.ofNat i)), .val (.int (0 : Int32)), s5] [])) _
          refine XS.iconst X64.here hx rfl (hb hby d4_41) ?_
          show Steps p.tables e below (T64.setTop (mkF m 42 #[.val (.ref o0), .val (.int (Int32.ofNat sn)), .val (.ref o2), .val (.int (Int32.ofNat i)), .val (.int (0 : Int32)), s5] [(.int (1 : Int32))])) _
          refine XS.iloadN X64.here hx rfl (hb hby d4_42) rfl ?_
          show Steps p.tables e below (T64.setTop (mkF m 43 #[.val (.ref o0), .val (.int (Int32.ofNat sn)), .val (.ref o2), .val (.int (Int32.ofNat i)), .val (.int (0 : Int32)), s5] [(.int (Int32.ofNat i)), (.int (1 : Int32))])) _
          refine XS.aloadN X64.here hx rfl (hb hby d4_43) rfl rfl ?_
          exact kt
        obtain ⟨cl71, Ar71, q71, S71, M71, H71, G71⟩ := (id V2)
        refine Got.step (T' := T64) (fun tq kt => X64.arraylength hx (cell := cl71) (by rw [e64]; exact Ar71.1) (State.isArrayOf_alike hZ.alike Ar71.2.1) (g := (mkF m 44 #[.val (.ref o0), .val (.int (Int32.ofNat sn)), .val (.ref o2), .val (.int (Int32.ofNat i)), .val (.int (0 : Int32)), s5] [(.ref o2), (.int (Int32.ofNat i)), (.int (1 : Int32))])) rfl (rest := [(.int (Int32.ofNat i)), (.int (1 : Int32))]) rfl (hb hby d4_44) tq kt) ?_
        rw [len_of S71 M71]
        show Got p e below s _ _ _ _ T64 (mkF m 45 #[.val (.ref o0), .val (.int (Int32.ofNat sn)), .val (.ref o2), .val (.int (Int32.ofNat i)), .val (.int (0 : Int32)), s5] [(.int (Int32.ofNat un)), (.int (Int32.ofNat i)), (.int (1 : Int32))])
        refine Got.step (T' := T64) (g' := (mkF m 54 #[.val (.ref o0), .val (.int (Int32.ofNat sn)), .val (.ref o2), .val (.int (Int32.ofNat i)), .val (.int (0 : Int32)), s5] [(.int ((1 : Int32) - (0 : Int32)))])) (fun tq kt => ?_) ?_
        · show Steps p.tables e below (T64.setTop (mkF m 45 #[.val (.ref o0), .val (.int (Int32.ofNat sn)), .val (.ref o2), .val (.int (Int32.ofNat i)), .val (.int (0 : Int32)), s5] [(.int (Int32.ofNat un)), (.int (Int32.ofNat i)), (.int (1 : Int32))])) _
          refine XS.icmpNo X64.here hx rfl (hb hby d4_45) rfl (XT.ii_ne_f (own_eqn hi)) ?_
          show Steps p.tables e below (T64.setTop (mkF m 48 #[.val (.ref o0), .val (.int (Int32.ofNat sn)), .val (.ref o2), .val (.int (Int32.ofNat i)), .val (.int (0 : Int32)), s5] [(.int (1 : Int32))])) _
          refine XS.iconst X64.here hx rfl (hb hby d4_48) ?_
          show Steps p.tables e below (T64.setTop (mkF m 49 #[.val (.ref o0), .val (.int (Int32.ofNat sn)), .val (.ref o2), .val (.int (Int32.ofNat i)), .val (.int (0 : Int32)), s5] [(.int (0 : Int32)), (.int (1 : Int32))])) _
          refine XS.goto X64.here hx rfl (pc0 := 49) (pc' := 53) rfl (hb hby d4_49) (by decide) (by decide) ?_
          show Steps p.tables e below (T64.setTop (mkF m 53 #[.val (.ref o0), .val (.int (Int32.ofNat sn)), .val (.ref o2), .val (.int (Int32.ofNat i)), .val (.int (0 : Int32)), s5] [(.int (0 : Int32)), (.int (1 : Int32))])) _
          refine XS.isub X64.here hx rfl (hb hby d4_53) rfl ?_
          exact kt
        exact Got.retI (y := ((1 : Int32) - (0 : Int32))) X64 hx Bd.returns hlk (hb hby d4_54) rfl ⟨N0, e64⟩ (by decide) (by decide)
    | succ k ih =>
      intro i hi T1 X1 e1 s4 hs4 s5 hs5
      show Got p e below s (PureP n0 h0) 0 0 (some (.int (if (bs.getD (sn + i) 0) = (-1 : Int32) then ((0 : Int32) - (1 : Int32)) else (if (((bs.getD (sn + i) 0) &&& (255 : Int32)) - ((us.getD i 0) &&& (255 : Int32))) = 0 then ct bs us sn k (i + 1) else (((bs.getD (sn + i) 0) &&& (255 : Int32)) - ((us.getD i 0) &&& (255 : Int32))))))) T1 (mkF m 2 #[.val (.ref o0), .val (.int (Int32.ofNat sn)), .val (.ref o2), .val (.int (Int32.ofNat i)), s4, s5] [])
      refine Got.step (T' := T1) (g' := (mkF m 3 #[.val (.ref o0), .val (.int (Int32.ofNat sn)), .val (.ref o2), .val (.int (Int32.ofNat i)), s4, s5] [(.ref o0)])) (fun tq kt => ?_) ?_
      · show Steps p.tables e below (T1.setTop (mkF m 2 #[.val (.ref o0), .val (.int (Int32.ofNat sn)), .val (.ref o2), .val (.int (Int32.ofNat i)), s4, s5] [])) _
        refine XS.aloadN X1.here hx rfl (hb hby d4_2) rfl rfl ?_
        exact kt
      obtain ⟨T72, X72, e72, st72⟩ := getF X1 hx hZ hown (host := "") (Or.inl (hw _ (List.mem_of_getElem? (i := 21) rfl))) Via.refl e1 F0 (g := (mkF m 3 #[.val (.ref o0), .val (.int (Int32.ofNat sn)), .val (.ref o2), .val (.int (Int32.ofNat i)), s4, s5] [(.ref o0)])) rfl rfl (hb hby d4_3)
      refine Got.step st72 ?_
      show Got p e below s _ _ _ _ T72 (mkF m 6 #[.val (.ref o0), .val (.int (Int32.ofNat sn)), .val (.ref o2), .val (.int (Int32.ofNat i)), s4, s5] [(.ref o7)])
      refine Got.step (T' := T72) (g' := (mkF m 9 #[.val (.ref o0), .val (.int (Int32.ofNat sn)), .val (.ref o2), .val (.int (Int32.ofNat i)), s4, s5] [(.int ((Int32.ofNat sn) + (Int32.ofNat i))), (.ref o7)])) (fun tq kt => ?_) ?_
      · show Steps p.tables e below (T72.setTop (mkF m 6 #[.val (.ref o0), .val (.int (Int32.ofNat sn)), .val (.ref o2), .val (.int (Int32.ofNat i)), s4, s5] [(.ref o7)])) _
        refine XS.iloadN X72.here hx rfl (hb hby d4_6) rfl ?_
        show Steps p.tables e below (T72.setTop (mkF m 7 #[.val (.ref o0), .val (.int (Int32.ofNat sn)), .val (.ref o2), .val (.int (Int32.ofNat i)), s4, s5] [(.int (Int32.ofNat sn)), (.ref o7)])) _
        refine XS.iloadN X72.here hx rfl (hb hby d4_7) rfl ?_
        show Steps p.tables e below (T72.setTop (mkF m 8 #[.val (.ref o0), .val (.int (Int32.ofNat sn)), .val (.ref o2), .val (.int (Int32.ofNat i)), s4, s5] [(.int (Int32.ofNat i)), (.int (Int32.ofNat sn)), (.ref o7)])) _
        refine XS.iadd X72.here hx rfl (hb hby d4_8) rfl ?_
        exact kt
      obtain ⟨cl73, Ar73, q73, S73, M73, H73, G73⟩ := (id V7)
      have hin73 : ¬ (((Int32.ofNat sn) + (Int32.ofNat i)) < 0 ∨ cl73.slots.size ≤ (((Int32.ofNat sn) + (Int32.ofNat i))).toNatClampNeg) := inb_of S73 (own_in7 hsn (by omega))
      refine Got.step (T' := T72) (fun tq kt => X72.baloadBytes hx (j := ((Int32.ofNat sn) + (Int32.ofNat i))) (v := (.int (bs.getD (sn + i) 0))) (by rw [e72]; exact Ar73.1) (State.isArrayOf_alike hZ.alike Ar73.2.1) Ar73.2.2 hin73 (H73.at hin73 (own_rd _ (by omega))) (g := (mkF m 9 #[.val (.ref o0), .val (.int (Int32.ofNat sn)), .val (.ref o2), .val (.int (Int32.ofNat i)), s4, s5] [(.int ((Int32.ofNat sn) + (Int32.ofNat i))), (.ref o7)])) rfl rfl (hb hby d4_9) tq kt) ?_
      show Got p e below s _ _ _ _ T72 (mkF m 10 #[.val (.ref o0), .val (.int (Int32.ofNat sn)), .val (.ref o2), .val (.int (Int32.ofNat i)), s4, s5] [(.int (bs.getD (sn + i) 0))])
      refine Got.step (T' := T72) (g' := (mkF m 11 #[.val (.ref o0), .val (.int (Int32.ofNat sn)), .val (.ref o2), .val (.int (Int32.ofNat i)), s4, s5] [(.int (-1 : Int32)), (.int (bs.getD (sn + i) 0))])) (fun tq kt => ?_) ?_
      · show Steps p.tables e below (T72.setTop (mkF m 10 #[.val (.ref o0), .val (.int (Int32.ofNat sn)), .val (.ref o2), .val (.int (Int32.ofNat i)), s4, s5] [(.int (bs.getD (sn + i) 0))])) _
        refine XS.iconst X72.here hx rfl (hb hby d4_10) ?_
        exact kt
      refine Got.ite (q := ((bs.getD (sn + i) 0) = (-1 : Int32))) (fun hc74 => ?_) (fun hc74 => ?_)
      · refine Got.step (T' := T72) (g' := (mkF m 44 #[.val (.ref o0), .val (.int (Int32.ofNat sn)), .val (.ref o2), .val (.int (Int32.ofNat i)), .val (.int (1 : Int32)), s5] [(.ref o2), (.int (Int32.ofNat i)), (.int (0 : Int32))])) (fun tq kt => ?_) ?_
        · show Steps p.tables e below (T72.setTop (mkF m 11 #[.val (.ref o0), .val (.int (Int32.ofNat sn)), .val (.ref o2), .val (.int (Int32.ofNat i)), s4, s5] [(.int (-1 : Int32)), (.int (bs.getD (sn + i) 0))])) _
          refine XS.icmpNo X72.here hx rfl (hb hby d4_11) rfl (XT.ii_ne_f hc74) ?_
          show Steps p.tables e below (T72.setTop (mkF m 14 #[.val (.ref o0), .val (.int (Int32.ofNat sn)), .val (.ref o2), .val (.int (Int32.ofNat i)), s4, s5] [])) _
          refine XS.iconst X72.here hx rfl (hb hby d4_14) ?_
          show Steps p.tables e below (T72.setTop (mkF m 15 #[.val (.ref o0), .val (.int (Int32.ofNat sn)), .val (.ref o2), .val (.int (Int32.ofNat i)), s4, s5] [(.int (1 : Int32))])) _
          refine XS.goto X72.here hx rfl (pc0 := 15) (pc' := 19) rfl (hb hby d4_15) (by decide) (by decide) ?_
          show Steps p.tables e below (T72.setTop (mkF m 19 #[.val (.ref o0), .val (.int (Int32.ofNat sn)), .val (.ref o2), .val (.int (Int32.ofNat i)), s4, s5] [(.int (1 : Int32))])) _
          refine XS.istore X72.here hx rfl (hb hby d4_19) rfl (l' := #[.val (.ref o0), .val (.int (Int32.ofNat sn)), .val (.ref o2), .val (.int (Int32.ofNat i)), .val (.int (1 : Int32)), s5]) (os75 hs4) ?_
          show Steps p.tables e below (T72.setTop (mkF m 21 #[.val (.ref o0), .val (.int (Int32.ofNat sn)), .val (.ref o2), .val (.int (Int32.ofNat i)), .val (.int (1 : Int32)), s5] [])) _
          refine XS.iload X72.here hx rfl (hb hby d4_21) rfl ?_
          show Steps p.tables e below (T72.setTop (mkF m 23 #[.val (.ref o0), .val (.int (Int32.ofNat sn)), .val (.ref o2), .val (.int (Int32.ofNat i)), .val (.int (1 : Int32)), s5] [(.int (1 : Int32))])) _
          refine XS.ifYes X72.here hx rfl (pc0 := 23) (pc' := 32) rfl (hb hby d4_23) rfl (XT.i0_ne_t (by decide)) (by decide) (by decide) ?_
          show Steps p.tables e below (T72.setTop (mkF m 32 #[.val (.ref o0), .val (.int (Int32.ofNat sn)), .val (.ref o2), .val (.int (Int32.ofNat i)), .val (.int (1 : Int32)), s5] [])) _
          refine XS.iload X72.here hx rfl (hb hby d4_32) rfl ?_
          show Steps p.tables e below (T72.setTop (mkF m 34 #[.val (.ref o0), .val (.int (Int32.ofNat sn)), .val (.ref o2), .val (.int (Int32.ofNat i)), .val (.int (1 : Int32)), s5] [(.int (1 : Int32))])) _
          refine XS.ifNo X72.here hx rfl (hb hby d4_34) rfl (XT.i0_eq_f (by decide)) ?_
          show Steps p.tables e below (T72.setTop (mkF m 37 #[.val (.ref o0), .val (.int (Int32.ofNat sn)), .val (.ref o2), .val (.int (Int32.ofNat i)), .val (.int (1 : Int32)), s5] [])) _
          refine XS.iconst X72.here hx rfl (hb hby d4_37) ?_
          show Steps p.tables e below (T72.setTop (mkF m 38 #[.val (.ref o0), .val (.int (Int32.ofNat sn)), .val (.ref o2), .val (.int (Int32.ofNat i)), .val (.int (1 : Int32)), s5] [(.int (0 : Int32))])) _
          refine XS.goto X72.here hx rfl (pc0 := 38) (pc' := 42) rfl (hb hby d4_38) (by decide) (by decide) ?_
          show Steps p.tables e below (T72.setTop (mkF m 42 #[.val (.ref o0), .val (.int (Int32.ofNat sn)), .val (.ref o2), .val (.int (Int32.ofNat i)), .val (.int (1 : Int32)), s5] [(.int (0 : Int32))])) _
          refine XS.iloadN X72.here hx rfl (hb hby d4_42) rfl ?_
          show Steps p.tables e below (T72.setTop (mkF m 43 #[.val (.ref o0), .val (.int (Int32.ofNat sn)), .val (.ref o2), .val (.int (Int32.ofNat i)), .val (.int (1 : Int32)), s5] [(.int (Int32.ofNat i)), (.int (0 : Int32))])) _
          refine XS.aloadN X72.here hx rfl (hb hby d4_43) rfl rfl ?_
          exact kt
        obtain ⟨cl76, Ar76, q76, S76, M76, H76, G76⟩ := (id V2)
        refine Got.step (T' := T72) (fun tq kt => X72.arraylength hx (cell := cl76) (by rw [e72]; exact Ar76.1) (State.isArrayOf_alike hZ.alike Ar76.2.1) (g := (mkF m 44 #[.val (.ref o0), .val (.int (Int32.ofNat sn)), .val (.ref o2), .val (.int (Int32.ofNat i)), .val (.int (1 : Int32)), s5] [(.ref o2), (.int (Int32.ofNat i)), (.int (0 : Int32))])) rfl (rest := [(.int (Int32.ofNat i)), (.int (0 : Int32))]) rfl (hb hby d4_44) tq kt) ?_
        rw [len_of S76 M76]
        show Got p e below s _ _ _ _ T72 (mkF m 45 #[.val (.ref o0), .val (.int (Int32.ofNat sn)), .val (.ref o2), .val (.int (Int32.ofNat i)), .val (.int (1 : Int32)), s5] [(.int (Int32.ofNat un)), (.int (Int32.ofNat i)), (.int (0 : Int32))])
        refine Got.step (T' := T72) (g' := (mkF m 54 #[.val (.ref o0), .val (.int (Int32.ofNat sn)), .val (.ref o2), .val (.int (Int32.ofNat i)), .val (.int (1 : Int32)), s5] [(.int ((0 : Int32) - (1 : Int32)))])) (fun tq kt => ?_) ?_
        · show Steps p.tables e below (T72.setTop (mkF m 45 #[.val (.ref o0), .val (.int (Int32.ofNat sn)), .val (.ref o2), .val (.int (Int32.ofNat i)), .val (.int (1 : Int32)), s5] [(.int (Int32.ofNat un)), (.int (Int32.ofNat i)), (.int (0 : Int32))])) _
          refine XS.icmpYes X72.here hx rfl (pc0 := 45) (pc' := 52) rfl (hb hby d4_45) rfl (XT.ii_ne_t (own_nen hun hi)) (by decide) (by decide) ?_
          show Steps p.tables e below (T72.setTop (mkF m 52 #[.val (.ref o0), .val (.int (Int32.ofNat sn)), .val (.ref o2), .val (.int (Int32.ofNat i)), .val (.int (1 : Int32)), s5] [(.int (0 : Int32))])) _
          refine XS.iconst X72.here hx rfl (hb hby d4_52) ?_
          show Steps p.tables e below (T72.setTop (mkF m 53 #[.val (.ref o0), .val (.int (Int32.ofNat sn)), .val (.ref o2), .val (.int (Int32.ofNat i)), .val (.int (1 : Int32)), s5] [(.int (1 : Int32)), (.int (0 : Int32))])) _
          refine XS.isub X72.here hx rfl (hb hby d4_53) rfl ?_
          exact kt
        exact Got.retI (y := ((0 : Int32) - (1 : Int32))) X72 hx Bd.returns hlk (hb hby d4_54) rfl ⟨N0, e72⟩ (by decide) (by decide)
      · refine Got.step (T' := T72) (g' := (mkF m 28 #[.val (.ref o0), .val (.int (Int32.ofNat sn)), .val (.ref o2), .val (.int (Int32.ofNat i)), .val (.int (0 : Int32)), s5] [(.ref o2), (.int (Int32.ofNat i))])) (fun tq kt => ?_) ?_
        · show Steps p.tables e below (T72.setTop (mkF m 11 #[.val (.ref o0), .val (.int (Int32.ofNat sn)), .val (.ref o2), .val (.int (Int32.ofNat i)), s4, s5] [(.int (-1 : Int32)), (.int (bs.getD (sn + i) 0))])) _
          refine XS.icmpYes X72.here hx rfl (pc0 := 11) (pc' := 18) rfl (hb hby d4_11) rfl (XT.ii_ne_t hc74) (by decide) (by decide) ?_
          show Steps p.tables e below (T72.setTop (mkF m 18 #[.val (.ref o0), .val (.int (Int32.ofNat sn)), .val (.ref o2), .val (.int (Int32.ofNat i)), s4, s5] [])) _
          refine XS.iconst X72.here hx rfl (hb hby d4_18) ?_
          show Steps p.tables e below (T72.setTop (mkF m 19 #[.val (.ref o0), .val (.int (Int32.ofNat sn)), .val (.ref o2), .val (.int (Int32.ofNat i)), s4, s5] [(.int (0 : Int32))])) _
          refine XS.istore X72.here hx rfl (hb hby d4_19) rfl (l' := #[.val (.ref o0), .val (.int (Int32.ofNat sn)), .val (.ref o2), .val (.int (Int32.ofNat i)), .val (.int (0 : Int32)), s5]) (os77 hs4) ?_
          show Steps p.tables e below (T72.setTop (mkF m 21 #[.val (.ref o0), .val (.int (Int32.ofNat sn)), .val (.ref o2), .val (.int (Int32.ofNat i)), .val (.int (0 : Int32)), s5] [])) _
          refine XS.iload X72.here hx rfl (hb hby d4_21) rfl ?_
          show Steps p.tables e below (T72.setTop (mkF m 23 #[.val (.ref o0), .val (.int (Int32.ofNat sn)), .val (.ref o2), .val (.int (Int32.ofNat i)), .val (.int (0 : Int32)), s5] [(.int (0 : Int32))])) _
          refine XS.ifNo X72.here hx rfl (hb hby d4_23) rfl (XT.i0_ne_f (by decide)) ?_
          show Steps p.tables e below (T72.setTop (mkF m 26 #[.val (.ref o0), .val (.int (Int32.ofNat sn)), .val (.ref o2), .val (.int (Int32.ofNat i)), .val (.int (0 : Int32)), s5] [])) _
          refine XS.iloadN X72.here hx rfl (hb hby d4_26) rfl ?_
          show Steps p.tables e below (T72.setTop (mkF m 27 #[.val (.ref o0), .val (.int (Int32.ofNat sn)), .val (.ref o2), .val (.int (Int32.ofNat i)), .val (.int (0 : Int32)), s5] [(.int (Int32.ofNat i))])) _
          refine XS.aloadN X72.here hx rfl (hb hby d4_27) rfl rfl ?_
          exact kt
        obtain ⟨cl78, Ar78, q78, S78, M78, H78, G78⟩ := (id V2)
        refine Got.step (T' := T72) (fun tq kt => X72.arraylength hx (cell := cl78) (by rw [e72]; exact Ar78.1) (State.isArrayOf_alike hZ.alike Ar78.2.1) (g := (mkF m 28 #[.val (.ref o0), .val (.int (Int32.ofNat sn)), .val (.ref o2), .val (.int (Int32.ofNat i)), .val (.int (0 : Int32)), s5] [(.ref o2), (.int (Int32.ofNat i))])) rfl (rest := [(.int (Int32.ofNat i))]) rfl (hb hby d4_28) tq kt) ?_
        rw [len_of S78 M78]
        show Got p e below s _ _ _ _ T72 (mkF m 29 #[.val (.ref o0), .val (.int (Int32.ofNat sn)), .val (.ref o2), .val (.int (Int32.ofNat i)), .val (.int (0 : Int32)), s5] [(.int (Int32.ofNat un)), (.int (Int32.ofNat i))])
        refine Got.step (T' := T72) (g' := (mkF m 56 #[.val (.ref o0), .val (.int (Int32.ofNat sn)), .val (.ref o2), .val (.int (Int32.ofNat i)), .val (.int (0 : Int32)), s5] [(.ref o0)])) (fun tq kt => ?_) ?_
        · show Steps p.tables e below (T72.setTop (mkF m 29 #[.val (.ref o0), .val (.int (Int32.ofNat sn)), .val (.ref o2), .val (.int (Int32.ofNat i)), .val (.int (0 : Int32)), s5] [(.int (Int32.ofNat un)), (.int (Int32.ofNat i))])) _
          refine XS.icmpYes X72.here hx rfl (pc0 := 29) (pc' := 55) rfl (hb hby d4_29) rfl (XT.ii_ne_t (own_nen hun hi)) (by decide) (by decide) ?_
          show Steps p.tables e below (T72.setTop (mkF m 55 #[.val (.ref o0), .val (.int (Int32.ofNat sn)), .val (.ref o2), .val (.int (Int32.ofNat i)), .val (.int (0 : Int32)), s5] [])) _
          refine XS.aloadN X72.here hx rfl (hb hby d4_55) rfl rfl ?_
          exact kt
        obtain ⟨T79, X79, e79, st79⟩ := getF X72 hx hZ hown (host := "") (Or.inl (hw _ (List.mem_of_getElem? (i := 21) rfl))) Via.refl e72 F0 (g := (mkF m 56 #[.val (.ref o0), .val (.int (Int32.ofNat sn)), .val (.ref o2), .val (.int (Int32.ofNat i)), .val (.int (0 : Int32)), s5] [(.ref o0)])) rfl rfl (hb hby d4_56)
        refine Got.step st79 ?_
        show Got p e below s _ _ _ _ T79 (mkF m 59 #[.val (.ref o0), .val (.int (Int32.ofNat sn)), .val (.ref o2), .val (.int (Int32.ofNat i)), .val (.int (0 : Int32)), s5] [(.ref o7)])
        refine Got.step (T' := T79) (g' := (mkF m 62 #[.val (.ref o0), .val (.int (Int32.ofNat sn)), .val (.ref o2), .val (.int (Int32.ofNat i)), .val (.int (0 : Int32)), s5] [(.int ((Int32.ofNat sn) + (Int32.ofNat i))), (.ref o7)])) (fun tq kt => ?_) ?_
        · show Steps p.tables e below (T79.setTop (mkF m 59 #[.val (.ref o0), .val (.int (Int32.ofNat sn)), .val (.ref o2), .val (.int (Int32.ofNat i)), .val (.int (0 : Int32)), s5] [(.ref o7)])) _
          refine XS.iloadN X79.here hx rfl (hb hby d4_59) rfl ?_
          show Steps p.tables e below (T79.setTop (mkF m 60 #[.val (.ref o0), .val (.int (Int32.ofNat sn)), .val (.ref o2), .val (.int (Int32.ofNat i)), .val (.int (0 : Int32)), s5] [(.int (Int32.ofNat sn)), (.ref o7)])) _
          refine XS.iloadN X79.here hx rfl (hb hby d4_60) rfl ?_
          show Steps p.tables e below (T79.setTop (mkF m 61 #[.val (.ref o0), .val (.int (Int32.ofNat sn)), .val (.ref o2), .val (.int (Int32.ofNat i)), .val (.int (0 : Int32)), s5] [(.int (Int32.ofNat i)), (.int (Int32.ofNat sn)), (.ref o7)])) _
          refine XS.iadd X79.here hx rfl (hb hby d4_61) rfl ?_
          exact kt
        obtain ⟨cl80, Ar80, q80, S80, M80, H80, G80⟩ := (id V7)
        have hin80 : ¬ (((Int32.ofNat sn) + (Int32.ofNat i)) < 0 ∨ cl80.slots.size ≤ (((Int32.ofNat sn) + (Int32.ofNat i))).toNatClampNeg) := inb_of S80 (own_in7 hsn (by omega))
        refine Got.step (T' := T79) (fun tq kt => X79.baloadBytes hx (j := ((Int32.ofNat sn) + (Int32.ofNat i))) (v := (.int (bs.getD (sn + i) 0))) (by rw [e79]; exact Ar80.1) (State.isArrayOf_alike hZ.alike Ar80.2.1) Ar80.2.2 hin80 (H80.at hin80 (own_rd _ (by omega))) (g := (mkF m 62 #[.val (.ref o0), .val (.int (Int32.ofNat sn)), .val (.ref o2), .val (.int (Int32.ofNat i)), .val (.int (0 : Int32)), s5] [(.int ((Int32.ofNat sn) + (Int32.ofNat i))), (.ref o7)])) rfl rfl (hb hby d4_62) tq kt) ?_
        show Got p e below s _ _ _ _ T79 (mkF m 63 #[.val (.ref o0), .val (.int (Int32.ofNat sn)), .val (.ref o2), .val (.int (Int32.ofNat i)), .val (.int (0 : Int32)), s5] [(.int (bs.getD (sn + i) 0))])
        refine Got.step (T' := T79) (g' := (mkF m 69 #[.val (.ref o0), .val (.int (Int32.ofNat sn)), .val (.ref o2), .val (.int (Int32.ofNat i)), .val (.int (0 : Int32)), s5] [(.int (Int32.ofNat i)), (.ref o2), (.int ((bs.getD (sn + i) 0) &&& (255 : Int32)))])) (fun tq kt => ?_) ?_
        · show Steps p.tables e below (T79.setTop (mkF m 63 #[.val (.ref o0), .val (.int (Int32.ofNat sn)), .val (.ref o2), .val (.int (Int32.ofNat i)), .val (.int (0 : Int32)), s5] [(.int (bs.getD (sn + i) 0))])) _
          refine XS.sipush X79.here hx rfl (hb hby d4_63) ?_
          show Steps p.tables e below (T79.setTop (mkF m 66 #[.val (.ref o0), .val (.int (Int32.ofNat sn)), .val (.ref o2), .val (.int (Int32.ofNat i)), .val (.int (0 : Int32)), s5] [(.int (255 : Int32)), (.int (bs.getD (sn + i) 0))])) _
          refine XS.iand X79.here hx rfl (hb hby d4_66) rfl ?_
          show Steps p.tables e below (T79.setTop (mkF m 67 #[.val (.ref o0), .val (.int (Int32.ofNat sn)), .val (.ref o2), .val (.int (Int32.ofNat i)), .val (.int (0 : Int32)), s5] [(.int ((bs.getD (sn + i) 0) &&& (255 : Int32)))])) _
          refine XS.aloadN X79.here hx rfl (hb hby d4_67) rfl rfl ?_
          show Steps p.tables e below (T79.setTop (mkF m 68 #[.val (.ref o0), .val (.int (Int32.ofNat sn)), .val (.ref o2), .val (.int (Int32.ofNat i)), .val (.int (0 : Int32)), s5] [(.ref o2), (.int ((bs.getD (sn + i) 0) &&& (255 : Int32)))])) _
          refine XS.iloadN X79.here hx rfl (hb hby d4_68) rfl ?_
          exact kt
        obtain ⟨cl81, Ar81, q81, S81, M81, H81, G81⟩ := (id V2)
        have hin81 : ¬ ((Int32.ofNat i) < 0 ∨ cl81.slots.size ≤ ((Int32.ofNat i)).toNatClampNeg) := inb_of S81 (own_inu hun (by omega))
        refine Got.step (T' := T79) (fun tq kt => X79.baloadBytes hx (j := (Int32.ofNat i)) (v := (.int (us.getD i 0))) (by rw [e79]; exact Ar81.1) (State.isArrayOf_alike hZ.alike Ar81.2.1) Ar81.2.2 hin81 (H81.at hin81 (own_ru _ (by omega))) (g := (mkF m 69 #[.val (.ref o0), .val (.int (Int32.ofNat sn)), .val (.ref o2), .val (.int (Int32.ofNat i)), .val (.int (0 : Int32)), s5] [(.int (Int32.ofNat i)), (.ref o2), (.int ((bs.getD (sn + i) 0) &&& (255 : Int32)))])) rfl rfl (hb hby d4_69) tq kt) ?_
        show Got p e below s _ _ _ _ T79 (mkF m 70 #[.val (.ref o0), .val (.int (Int32.ofNat sn)), .val (.ref o2), .val (.int (Int32.ofNat i)), .val (.int (0 : Int32)), s5] [(.int (us.getD i 0)), (.int ((bs.getD (sn + i) 0) &&& (255 : Int32)))])
        refine Got.step (T' := T79) (g' := (mkF m 79 #[.val (.ref o0), .val (.int (Int32.ofNat sn)), .val (.ref o2), .val (.int (Int32.ofNat i)), .val (.int (0 : Int32)), .val (.int (((bs.getD (sn + i) 0) &&& (255 : Int32)) - ((us.getD i 0) &&& (255 : Int32))))] [(.int (((bs.getD (sn + i) 0) &&& (255 : Int32)) - ((us.getD i 0) &&& (255 : Int32))))])) (fun tq kt => ?_) ?_
        · show Steps p.tables e below (T79.setTop (mkF m 70 #[.val (.ref o0), .val (.int (Int32.ofNat sn)), .val (.ref o2), .val (.int (Int32.ofNat i)), .val (.int (0 : Int32)), s5] [(.int (us.getD i 0)), (.int ((bs.getD (sn + i) 0) &&& (255 : Int32)))])) _
          refine XS.sipush X79.here hx rfl (hb hby d4_70) ?_
          show Steps p.tables e below (T79.setTop (mkF m 73 #[.val (.ref o0), .val (.int (Int32.ofNat sn)), .val (.ref o2), .val (.int (Int32.ofNat i)), .val (.int (0 : Int32)), s5] [(.int (255 : Int32)), (.int (us.getD i 0)), (.int ((bs.getD (sn + i) 0) &&& (255 : Int32)))])) _
          refine XS.iand X79.here hx rfl (hb hby d4_73) rfl ?_
          show Steps p.tables e below (T79.setTop (mkF m 74 #[.val (.ref o0), .val (.int (Int32.ofNat sn)), .val (.ref o2), .val (.int (Int32.ofNat i)), .val (.int (0 : Int32)), s5] [(.int ((us.getD i 0) &&& (255 : Int32))), (.int ((bs.getD (sn + i) 0) &&& (255 : Int32)))])) _
          refine XS.isub X79.here hx rfl (hb hby d4_74) rfl ?_
          show Steps p.tables e below (T79.setTop (mkF m 75 #[.val (.ref o0), .val (.int (Int32.ofNat sn)), .val (.ref o2), .val (.int (Int32.ofNat i)), .val (.int (0 : Int32)), s5] [(.int (((bs.getD (sn + i) 0) &&& (255 : Int32)) - ((us.getD i 0) &&& (255 : Int32))))])) _
          refine XS.istore X79.here hx rfl (hb hby d4_75) rfl (l' := #[.val (.ref o0), .val (.int (Int32.ofNat sn)), .val (.ref o2), .val (.int (Int32.ofNat i)), .val (.int (0 : Int32)), .val (.int (((bs.getD (sn + i) 0) &&& (255 : Int32)) - ((us.getD i 0) &&& (255 : Int32))))]) (os82 hs5) ?_
          show Steps p.tables e below (T79.setTop (mkF m 77 #[.val (.ref o0), .val (.int (Int32.ofNat sn)), .val (.ref o2), .val (.int (Int32.ofNat i)), .val (.int (0 : Int32)), .val (.int (((bs.getD (sn + i) 0) &&& (255 : Int32)) - ((us.getD i 0) &&& (255 : Int32))))] [])) _
          refine XS.iload X79.here hx rfl (hb hby d4_77) rfl ?_
          exact kt
        refine Got.ite (q := ((((bs.getD (sn + i) 0) &&& (255 : Int32)) - ((us.getD i 0) &&& (255 : Int32))) = 0)) (fun hc83 => ?_) (fun hc83 => ?_)
        · refine Got.step (T' := T79) (g' := (mkF m 2 #[.val (.ref o0), .val (.int (Int32.ofNat sn)), .val (.ref o2), .val (.int ((Int32.ofNat i) + (1 : Int32))), .val (.int (0 : Int32)), .val (.int (((bs.getD (sn + i) 0) &&& (255 : Int32)) - ((us.getD i 0) &&& (255 : Int32))))] [])) (fun tq kt => ?_) ?_
          · show Steps p.tables e below (T79.setTop (mkF m 79 #[.val (.ref o0), .val (.int (Int32.ofNat sn)), .val (.ref o2), .val (.int (Int32.ofNat i)), .val (.int (0 : Int32)), .val (.int (((bs.getD (sn + i) 0) &&& (255 : Int32)) - ((us.getD i 0) &&& (255 : Int32))))] [(.int (((bs.getD (sn + i) 0) &&& (255 : Int32)) - ((us.getD i 0) &&& (255 : Int32))))])) _
            refine XS.ifYes X79.here hx rfl (pc0 := 79) (pc' := 85) rfl (hb hby d4_79) rfl (XT.i0_eq_t hc83) (by decide) (by decide) ?_
            show Steps p.tables e below (T79.setTop (mkF m 85 #[.val (.ref o0), .val (.int (Int32.ofNat sn)), .val (.ref o2), .val (.int (Int32.ofNat i)), .val (.int (0 : Int32)), .val (.int (((bs.getD (sn + i) 0) &&& (255 : Int32)) - ((us.getD i 0) &&& (255 : Int32))))] [])) _
            refine XS.iinc X79.here hx rfl (hb hby d4_85) rfl (l' := #[.val (.ref o0), .val (.int (Int32.ofNat sn)), .val (.ref o2), .val (.int ((Int32.ofNat i) + (1 : Int32))), .val (.int (0 : Int32)), .val (.int (((bs.getD (sn + i) 0) &&& (255 : Int32)) - ((us.getD i 0) &&& (255 : Int32))))]) rfl ?_
            show Steps p.tables e below (T79.setTop (mkF m 88 #[.val (.ref o0), .val (.int (Int32.ofNat sn)), .val (.ref o2), .val (.int ((Int32.ofNat i) + (1 : Int32))), .val (.int (0 : Int32)), .val (.int (((bs.getD (sn + i) 0) &&& (255 : Int32)) - ((us.getD i 0) &&& (255 : Int32))))] [])) _
            refine XS.goto X79.here hx rfl (pc0 := 88) (pc' := 2) rfl (hb hby d4_88) (by decide) (by decide) ?_
            exact kt
          rw [own_one i]
          exact ih (i + 1) (by omega) _ X79 e79 _ (one_int _) _ (one_int _)
        · refine Got.step (T' := T79) (g' := (mkF m 84 #[.val (.ref o0), .val (.int (Int32.ofNat sn)), .val (.ref o2), .val (.int (Int32.ofNat i)), .val (.int (0 : Int32)), .val (.int (((bs.getD (sn + i) 0) &&& (255 : Int32)) - ((us.getD i 0) &&& (255 : Int32))))] [(.int (((bs.getD (sn + i) 0) &&& (255 : Int32)) - ((us.getD i 0) &&& (255 : Int32))))])) (fun tq kt => ?_) ?_
          · show Steps p.tables e below (T79.setTop (mkF m 79 #[.val (.ref o0), .val (.int (Int32.ofNat sn)), .val (.ref o2), .val (.int (Int32.ofNat i)), .val (.int (0 : Int32)), .val (.int (((bs.getD (sn + i) 0) &&& (255 : Int32)) - ((us.getD i 0) &&& (255 : Int32))))] [(.int (((bs.getD (sn + i) 0) &&& (255 : Int32)) - ((us.getD i 0) &&& (255 : Int32))))])) _
            refine XS.ifNo X79.here hx rfl (hb hby d4_79) rfl (XT.i0_eq_f hc83) ?_
            show Steps p.tables e below (T79.setTop (mkF m 82 #[.val (.ref o0), .val (.int (Int32.ofNat sn)), .val (.ref o2), .val (.int (Int32.ofNat i)), .val (.int (0 : Int32)), .val (.int (((bs.getD (sn + i) 0) &&& (255 : Int32)) - ((us.getD i 0) &&& (255 : Int32))))] [])) _
            refine XS.iload X79.here hx rfl (hb hby d4_82) rfl ?_
            exact kt
          exact Got.retI (y := (((bs.getD (sn + i) 0) &&& (255 : Int32)) - ((us.getD i 0) &&& (255 : Int32)))) X79 hx Bd.returns hlk (hb hby d4_84) rfl ⟨N0, e79⟩ (by decide) (by decide)
  refine Got.step (T' := s₁) (g' := (mkF m 2 #[.val (.ref o0), .val (.int (Int32.ofNat sn)), .val (.ref o2), .val (.int (0 : Int32)), .unset, .unset] [])) (fun tq kt => ?_) ?_
  · show Steps p.tables e below (s₁.setTop (mkF m 0 #[.val (.ref o0), .val (.int (Int32.ofNat sn)), .val (.ref o2), .unset, .unset, .unset] [])) _
    refine XS.iconst X0.here hx rfl (hb hby d4_0) ?_
    show Steps p.tables e below (s₁.setTop (mkF m 1 #[.val (.ref o0), .val (.int (Int32.ofNat sn)), .val (.ref o2), .unset, .unset, .unset] [(.int (0 : Int32))])) _
    refine XS.istoreN X0.here hx rfl (hb hby d4_1) rfl (l' := #[.val (.ref o0), .val (.int (Int32.ofNat sn)), .val (.ref o2), .val (.int (0 : Int32)), .unset, .unset]) rfl ?_
    exact kt
  exact J un 0 (by omega) _ X0 e0 _ one_unset _ one_unset
theorem own_3 (x : Int32) : ∃ n : Nat, n ≤ 3 ∧ (x &&& (3 : Int32)) = Int32.ofNat n := by
  have h1 := c_mask x 3 2 (by decide) (by decide)
  refine ⟨(x &&& (3 : Int32)).toInt.toNat, by omega, ?_⟩
  rw [← Int32.toInt_inj, own_i (by omega)]; omega
theorem own_sn (p2 : Int32) : ∃ n : Nat, n ≤ 2 ∧ ((((p2.toUInt32 >>> ((4 : Int32) &&& 31).toUInt32).toInt32) &&& (3 : Int32)) % (3 : Int32)) = Int32.ofNat n := by
  generalize ((p2.toUInt32 >>> ((4 : Int32) &&& 31).toUInt32).toInt32) = x
  have h1 := c_mask x 3 2 (by decide) (by decide)
  have h2 := (c_irem (x &&& 3) 3 3 rfl).1 (by omega)
  refine ⟨((x &&& (3 : Int32)) % (3 : Int32)).toInt.toNat, by omega, ?_⟩
  rw [← Int32.toInt_inj, own_i (by omega)]; omega
theorem own_st0 {sn : Nat} (hsn : sn ≤ 2) : ¬ Int32.ofNat sn < 0 ∧ Int32.ofNat sn < 7 := own_lt7 (by omega)
theorem own_st1 {sn : Nat} (hsn : sn ≤ 2) : ¬ (Int32.ofNat sn + (1 : Int32)) < 0 ∧ (Int32.ofNat sn + (1 : Int32)) < 7 := own_in7 (i := 1) hsn (by omega)
theorem own_st2 {sn : Nat} (hsn : sn ≤ 2) : ¬ (Int32.ofNat sn + (2 : Int32)) < 0 ∧ (Int32.ofNat sn + (2 : Int32)) < 7 := own_in7 (i := 2) hsn (by omega)
theorem own_stt {sn tn : Nat} (hsn : sn ≤ 2) (htn : tn ≤ 3) : ¬ (Int32.ofNat sn + Int32.ofNat tn) < 0 ∧ (Int32.ofNat sn + Int32.ofNat tn) < 7 := own_in7 hsn htn
theorem own_hjt {sn tn : Nat} (hsn : sn ≤ 2) (htn : tn ≤ 3) : (Int32.ofNat sn + Int32.ofNat tn).toNatClampNeg = sn + tn := by rw [← Int32.ofNat_add, own_n32 (by omega)]
theorem own_hj0 {sn : Nat} (hsn : sn ≤ 2) : (Int32.ofNat sn).toNatClampNeg = sn := own_n32 (by omega)
theorem own_hj1 {sn : Nat} (hsn : sn ≤ 2) : (Int32.ofNat sn + (1 : Int32)).toNatClampNeg = sn + 1 := own_hjt (tn := 1) hsn (by omega)
theorem own_hj2 {sn : Nat} (hsn : sn ≤ 2) : (Int32.ofNat sn + (2 : Int32)).toNatClampNeg = sn + 2 := own_hjt (tn := 2) hsn (by omega)
theorem own_un0 {un : Nat} (hun : un ≤ 3) : ¬ Int32.ofNat un < 0 := (own_lt7 (by omega)).1
theorem own_un3 {un : Nat} (hun : un ≤ 3) : (Int32.ofNat un).toNatClampNeg ≤ 3 := by rw [own_n32 (by omega)]; exact hun
theorem own_pick (a i s : Int32) : 0 ≤ (f1 a i s).toInt ∧ (f1 a i s).toInt ≤ 254 := by
  unfold f1
  generalize ((a.toUInt32 >>> (((8 : Int32) * i) &&& 31).toUInt32).toInt32) = x
  have h := c_and x 255 (by decide)
  have z : (255 : Int32).toInt = 255 := rfl
  split
  · split
    · decide
    · rename_i q
      rw [← Int32.toInt_inj, z] at q
      omega
  · split
    · decide
    · split
      · decide
      · split
        · decide
        · decide
theorem own_b {t : Int32} (h : 0 ≤ t.toInt ∧ t.toInt ≤ 254) : ¬ t.toInt8.toInt32 = (-1 : Int32) ∧ (t.toInt8.toInt32 &&& (255 : Int32)) = t := by
  have e1 : t.toInt8.toInt32.toInt = t.toInt.bmod (2 ^ 8) := by rw [Int8.toInt_toInt32, Int32.toInt_toInt8]
  have e2 : t.toInt.bmod (2 ^ 8) = if t.toInt % 256 < 128 then t.toInt % 256 else t.toInt % 256 - 256 := rfl
  rw [e2] at e1
  constructor
  · intro q
    rw [q] at e1
    have z : (-1 : Int32).toInt = -1 := rfl
    split at e1 <;> omega
  · have m := c_mask t.toInt8.toInt32 255 8 (by decide) (by decide)
    rw [← Int32.toInt_inj, m]
    split at e1 <;> omega
section Ct
variable {bs us : List Int32} {sn i k : Nat} {t u : Int32}
theorem ct_end0 (h : bs.getD (sn + i) 0 = -1) : ct bs us sn 0 i = 0 := by
  show (if (bs.getD (sn + i) 0) = (-1 : Int32) then ((0 : Int32) - (0 : Int32)) else ((1 : Int32) - (0 : Int32))) = 0
  rw [if_pos h]; decide
theorem ct_end (h : bs.getD (sn + i) 0 = -1) : ct bs us sn (k + 1) i = -1 := by
  show (if (bs.getD (sn + i) 0) = (-1 : Int32) then ((0 : Int32) - (1 : Int32)) else _) = -1
  rw [if_pos h]; decide
theorem ct_last (h : bs.getD (sn + i) 0 = t.toInt8.toInt32) (ht : 0 ≤ t.toInt ∧ t.toInt ≤ 254) : ct bs us sn 0 i = 1 := by
  show (if (bs.getD (sn + i) 0) = (-1 : Int32) then ((0 : Int32) - (0 : Int32)) else ((1 : Int32) - (0 : Int32))) = 1
  rw [h, if_neg (own_b ht).1]; decide
theorem ct_go (h : bs.getD (sn + i) 0 = t.toInt8.toInt32) (g : us.getD i 0 = u.toInt8.toInt32) (ht : 0 ≤ t.toInt ∧ t.toInt ≤ 254) (hu : 0 ≤ u.toInt ∧ u.toInt ≤ 254) : ct bs us sn (k + 1) i = (if t - u = 0 then ct bs us sn k (i + 1) else t - u) := by
  show (if (bs.getD (sn + i) 0) = (-1 : Int32) then ((0 : Int32) - (1 : Int32)) else (if (((bs.getD (sn + i) 0) &&& (255 : Int32)) - ((us.getD i 0) &&& (255 : Int32))) = 0 then ct bs us sn k (i + 1) else (((bs.getD (sn + i) 0) &&& (255 : Int32)) - ((us.getD i 0) &&& (255 : Int32))))) = _
  rw [h, g, if_neg (own_b ht).1, (own_b ht).2, (own_b hu).2]
end Ct
theorem own_gs (l : List Int32) (i j : Nat) (x : Int32) (h : i < l.length) : (l.set i x).getD j 0 = if i = j then x else l.getD j 0 := by
  rw [List.getD_eq_getElem?_getD, List.getD_eq_getElem?_getD]
  by_cases e : i = j
  · subst e
    rw [if_pos rfl, List.getElem?_set_self h]; rfl
  · rw [if_neg e, List.getElem?_set_ne e]
theorem own_sgn {x y : Int32} (h1 : x.toInt < 0 ↔ y.toInt < 0) (h2 : 0 < x.toInt ↔ 0 < y.toInt) : f6 x = f6 y := by
  have z : (0 : Int32).toInt = 0 := rfl
  have h3 : x < 0 ↔ y < 0 := by rw [Int32.lt_iff_toInt_lt, Int32.lt_iff_toInt_lt, z]; exact h1
  have h4 : 0 < x ↔ 0 < y := by rw [Int32.lt_iff_toInt_lt, Int32.lt_iff_toInt_lt, z]; exact h2
  unfold f6
  by_cases a : x < 0
  · rw [if_pos a, if_pos (h3.mp a)]
  · rw [if_neg a, if_neg (fun q => a (h3.mpr q))]
    by_cases b : 0 < x
    · rw [if_pos b, if_pos (h4.mp b)]
    · rw [if_neg b, if_neg (fun q => b (h4.mpr q))]
theorem own_39 {d0 d1 d2 n a b c : Int32} (ha : 0 ≤ a.toInt ∧ a.toInt ≤ 255) (hb : 0 ≤ b.toInt ∧ b.toInt ≤ 255) (hc : 0 ≤ c.toInt ∧ c.toInt ≤ 255) : (f5_39 d0 d1 d2 n a b c).toInt = a.toInt * 66049 + b.toInt * 257 + c.toInt := by
  have z1 : (66049 : Int32).toInt = 66049 := rfl
  have z2 : (257 : Int32).toInt = 257 := rfl
  unfold f5_39
  have e1 : (a * (66049 : Int32)).toInt = a.toInt * 66049 := by rw [XT.mul32 (by unfold XT.fits32; rw [z1]; omega), z1]
  have e2 : (b * (257 : Int32)).toInt = b.toInt * 257 := by rw [XT.mul32 (by unfold XT.fits32; rw [z2]; omega), z2]
  have e3 : (a * (66049 : Int32) + b * (257 : Int32)).toInt = a.toInt * 66049 + b.toInt * 257 := by rw [XT.add32 (by unfold XT.fits32; omega), e1, e2]
  rw [XT.add32 (by unfold XT.fits32; omega), e3]
theorem own_p1 {d : Int32} (h : 0 ≤ d.toInt ∧ d.toInt ≤ 254) : (d + (1 : Int32)).toInt = d.toInt + 1 := by
  have z : (1 : Int32).toInt = 1 := rfl
  rw [XT.add32 (by unfold XT.fits32; omega), z]
theorem own_key0 {d0 d1 d2 : Int32} (h0 : 0 ≤ d0.toInt ∧ d0.toInt ≤ 254) (h1 : 0 ≤ d1.toInt ∧ d1.toInt ≤ 254) (h2 : 0 ≤ d2.toInt ∧ d2.toInt ≤ 254) : (f5 d0 d1 d2 (Int32.ofNat 0)).toInt = 0 := by
  have z : (0 : Int32).toInt = 0 := rfl
  have e0 := own_p1 h0
  have e1 := own_p1 h1
  have e2 := own_p1 h2
  unfold f5 f5_11 f5_25
  rw [if_neg (by decide), if_neg (by decide), if_neg (by decide)]
  rw [own_39 (by decide) (by decide) (by decide)]
  omega
theorem own_key1 {d0 d1 d2 : Int32} (h0 : 0 ≤ d0.toInt ∧ d0.toInt ≤ 254) (h1 : 0 ≤ d1.toInt ∧ d1.toInt ≤ 254) (h2 : 0 ≤ d2.toInt ∧ d2.toInt ≤ 254) : (f5 d0 d1 d2 (Int32.ofNat 1)).toInt = (d0.toInt + 1) * 66049 := by
  have z : (0 : Int32).toInt = 0 := rfl
  have e0 := own_p1 h0
  have e1 := own_p1 h1
  have e2 := own_p1 h2
  unfold f5 f5_11 f5_25
  rw [if_pos (by decide), if_neg (by decide), if_neg (by decide)]
  rw [own_39 (by omega) (by decide) (by decide)]
  omega
theorem own_key2 {d0 d1 d2 : Int32} (h0 : 0 ≤ d0.toInt ∧ d0.toInt ≤ 254) (h1 : 0 ≤ d1.toInt ∧ d1.toInt ≤ 254) (h2 : 0 ≤ d2.toInt ∧ d2.toInt ≤ 254) : (f5 d0 d1 d2 (Int32.ofNat 2)).toInt = (d0.toInt + 1) * 66049 + (d1.toInt + 1) * 257 := by
  have z : (0 : Int32).toInt = 0 := rfl
  have e0 := own_p1 h0
  have e1 := own_p1 h1
  have e2 := own_p1 h2
  unfold f5 f5_11 f5_25
  rw [if_pos (by decide), if_pos (by decide), if_neg (by decide)]
  rw [own_39 (by omega) (by omega) (by decide)]
  omega
theorem own_key3 {d0 d1 d2 : Int32} (h0 : 0 ≤ d0.toInt ∧ d0.toInt ≤ 254) (h1 : 0 ≤ d1.toInt ∧ d1.toInt ≤ 254) (h2 : 0 ≤ d2.toInt ∧ d2.toInt ≤ 254) : (f5 d0 d1 d2 (Int32.ofNat 3)).toInt = (d0.toInt + 1) * 66049 + (d1.toInt + 1) * 257 + (d2.toInt + 1) * 1 := by
  have z : (0 : Int32).toInt = 0 := rfl
  have e0 := own_p1 h0
  have e1 := own_p1 h1
  have e2 := own_p1 h2
  unfold f5 f5_11 f5_25
  rw [if_pos (by decide), if_pos (by decide), if_pos (by decide)]
  rw [own_39 (by omega) (by omega) (by omega)]
  omega
theorem own_bs0 {sn : Nat} {B0 y1 y2 y3 : List Int32} {t0 t1 t2 : Int32} (hsn : sn ≤ 2) (hl : B0.length = 7) (hy1 : y1 = (if 0 < (Int32.ofNat 0) then (B0.set sn (t0.toInt8.toInt32)) else B0)) (hy2 : y2 = (if (1 : Int32) < (Int32.ofNat 0) then (y1.set (sn + 1) (t1.toInt8.toInt32)) else y1)) (hy3 : y3 = (if (2 : Int32) < (Int32.ofNat 0) then (y2.set (sn + 2) (t2.toInt8.toInt32)) else y2)) : ((y3.set (sn + 0) (-1 : Int32)).getD (sn + 0) 0 = -1) := by
  rw [if_neg (by decide)] at hy1
  rw [if_neg (by decide)] at hy2
  rw [if_neg (by decide)] at hy3
  have l1 : y1.length = 7 := by rw [hy1]; exact hl
  have l2 : y2.length = 7 := by rw [hy2]; exact l1
  have l3 : y3.length = 7 := by rw [hy3]; exact l2
  exact by rw [own_gs _ _ _ _ (by omega), if_pos rfl]
theorem own_bs1 {sn : Nat} {B0 y1 y2 y3 : List Int32} {t0 t1 t2 : Int32} (hsn : sn ≤ 2) (hl : B0.length = 7) (hy1 : y1 = (if 0 < (Int32.ofNat 1) then (B0.set sn (t0.toInt8.toInt32)) else B0)) (hy2 : y2 = (if (1 : Int32) < (Int32.ofNat 1) then (y1.set (sn + 1) (t1.toInt8.toInt32)) else y1)) (hy3 : y3 = (if (2 : Int32) < (Int32.ofNat 1) then (y2.set (sn + 2) (t2.toInt8.toInt32)) else y2)) : ((y3.set (sn + 1) (-1 : Int32)).getD (sn + 0) 0 = t0.toInt8.toInt32) ∧ ((y3.set (sn + 1) (-1 : Int32)).getD (sn + 1) 0 = -1) := by
  rw [if_pos (by decide)] at hy1
  rw [if_neg (by decide)] at hy2
  rw [if_neg (by decide)] at hy3
  have l1 : y1.length = 7 := by rw [hy1]; rw [List.length_set]; exact hl
  have l2 : y2.length = 7 := by rw [hy2]; exact l1
  have l3 : y3.length = 7 := by rw [hy3]; exact l2
  exact ⟨by rw [own_gs _ _ _ _ (by omega), if_neg (by omega), hy3, hy2, hy1, own_gs _ _ _ _ (by omega), if_pos (by omega)], by rw [own_gs _ _ _ _ (by omega), if_pos rfl]⟩
theorem own_bs2 {sn : Nat} {B0 y1 y2 y3 : List Int32} {t0 t1 t2 : Int32} (hsn : sn ≤ 2) (hl : B0.length = 7) (hy1 : y1 = (if 0 < (Int32.ofNat 2) then (B0.set sn (t0.toInt8.toInt32)) else B0)) (hy2 : y2 = (if (1 : Int32) < (Int32.ofNat 2) then (y1.set (sn + 1) (t1.toInt8.toInt32)) else y1)) (hy3 : y3 = (if (2 : Int32) < (Int32.ofNat 2) then (y2.set (sn + 2) (t2.toInt8.toInt32)) else y2)) : ((y3.set (sn + 2) (-1 : Int32)).getD (sn + 0) 0 = t0.toInt8.toInt32) ∧ ((y3.set (sn + 2) (-1 : Int32)).getD (sn + 1) 0 = t1.toInt8.toInt32) ∧ ((y3.set (sn + 2) (-1 : Int32)).getD (sn + 2) 0 = -1) := by
  rw [if_pos (by decide)] at hy1
  rw [if_pos (by decide)] at hy2
  rw [if_neg (by decide)] at hy3
  have l1 : y1.length = 7 := by rw [hy1]; rw [List.length_set]; exact hl
  have l2 : y2.length = 7 := by rw [hy2]; rw [List.length_set]; exact l1
  have l3 : y3.length = 7 := by rw [hy3]; exact l2
  exact ⟨by rw [own_gs _ _ _ _ (by omega), if_neg (by omega), hy3, hy2, own_gs _ _ _ _ (by omega), if_neg (by omega), hy1, own_gs _ _ _ _ (by omega), if_pos (by omega)], by rw [own_gs _ _ _ _ (by omega), if_neg (by omega), hy3, hy2, own_gs _ _ _ _ (by omega), if_pos rfl], by rw [own_gs _ _ _ _ (by omega), if_pos rfl]⟩
theorem own_bs3 {sn : Nat} {B0 y1 y2 y3 : List Int32} {t0 t1 t2 : Int32} (hsn : sn ≤ 2) (hl : B0.length = 7) (hy1 : y1 = (if 0 < (Int32.ofNat 3) then (B0.set sn (t0.toInt8.toInt32)) else B0)) (hy2 : y2 = (if (1 : Int32) < (Int32.ofNat 3) then (y1.set (sn + 1) (t1.toInt8.toInt32)) else y1)) (hy3 : y3 = (if (2 : Int32) < (Int32.ofNat 3) then (y2.set (sn + 2) (t2.toInt8.toInt32)) else y2)) : ((y3.set (sn + 3) (-1 : Int32)).getD (sn + 0) 0 = t0.toInt8.toInt32) ∧ ((y3.set (sn + 3) (-1 : Int32)).getD (sn + 1) 0 = t1.toInt8.toInt32) ∧ ((y3.set (sn + 3) (-1 : Int32)).getD (sn + 2) 0 = t2.toInt8.toInt32) ∧ ((y3.set (sn + 3) (-1 : Int32)).getD (sn + 3) 0 = -1) := by
  rw [if_pos (by decide)] at hy1
  rw [if_pos (by decide)] at hy2
  rw [if_pos (by decide)] at hy3
  have l1 : y1.length = 7 := by rw [hy1]; rw [List.length_set]; exact hl
  have l2 : y2.length = 7 := by rw [hy2]; rw [List.length_set]; exact l1
  have l3 : y3.length = 7 := by rw [hy3]; rw [List.length_set]; exact l2
  exact ⟨by rw [own_gs _ _ _ _ (by omega), if_neg (by omega), hy3, own_gs _ _ _ _ (by omega), if_neg (by omega), hy2, own_gs _ _ _ _ (by omega), if_neg (by omega), hy1, own_gs _ _ _ _ (by omega), if_pos (by omega)], by rw [own_gs _ _ _ _ (by omega), if_neg (by omega), hy3, own_gs _ _ _ _ (by omega), if_neg (by omega), hy2, own_gs _ _ _ _ (by omega), if_pos rfl], by rw [own_gs _ _ _ _ (by omega), if_neg (by omega), hy3, own_gs _ _ _ _ (by omega), if_pos rfl], by rw [own_gs _ _ _ _ (by omega), if_pos rfl]⟩
theorem own_c00 {sn : Nat} {B0 y1 y2 y3 : List Int32} {t0 t1 t2 u0 u1 u2 v0 v1 v2 : Int32} (hsn : sn ≤ 2) (hl : B0.length = 7) (r0 : 0 ≤ t0.toInt ∧ t0.toInt ≤ 254) (r1 : 0 ≤ t1.toInt ∧ t1.toInt ≤ 254) (r2 : 0 ≤ t2.toInt ∧ t2.toInt ≤ 254) (q0 : 0 ≤ u0.toInt ∧ u0.toInt ≤ 254) (q1 : 0 ≤ u1.toInt ∧ u1.toInt ≤ 254) (q2 : 0 ≤ u2.toInt ∧ u2.toInt ≤ 254) (hy1 : y1 = (if 0 < (Int32.ofNat 0) then (B0.set sn (t0.toInt8.toInt32)) else B0)) (hy2 : y2 = (if (1 : Int32) < (Int32.ofNat 0) then (y1.set (sn + 1) (t1.toInt8.toInt32)) else y1)) (hy3 : y3 = (if (2 : Int32) < (Int32.ofNat 0) then (y2.set (sn + 2) (t2.toInt8.toInt32)) else y2)) (hv0 : v0 = (if 0 < (Int32.ofNat 0) then (u0.toInt8.toInt32) else (0 : Int32))) (hv1 : v1 = (if (1 : Int32) < (Int32.ofNat 0) then (u1.toInt8.toInt32) else (0 : Int32))) (hv2 : v2 = (if (2 : Int32) < (Int32.ofNat 0) then (u2.toInt8.toInt32) else (0 : Int32))) : (f6 (ct (y3.set (sn + 0) (-1 : Int32)) [v0, v1, v2] sn 0 0)) = (f6 ((f5 t0 t1 t2 (Int32.ofNat 0)) - (f5 u0 u1 u2 (Int32.ofNat 0)))) := by
  have b0 := own_bs0 hsn hl hy1 hy2 hy3
  have k1 := own_key0 r0 r1 r2
  have k2 := own_key0 q0 q1 q2
  have kd : ((f5 t0 t1 t2 (Int32.ofNat 0)) - (f5 u0 u1 u2 (Int32.ofNat 0))).toInt = (f5 t0 t1 t2 (Int32.ofNat 0)).toInt - (f5 u0 u1 u2 (Int32.ofNat 0)).toInt := XT.sub32 (by unfold XT.fits32; omega)
  rw [ct_end0 b0]
  have zf : (0 : Int32).toInt = 0 := rfl
  have z0 : (0 : Int32).toInt = 0 := rfl
  exact own_sgn (by omega) (by omega)
theorem own_c01 {sn : Nat} {B0 y1 y2 y3 : List Int32} {t0 t1 t2 u0 u1 u2 v0 v1 v2 : Int32} (hsn : sn ≤ 2) (hl : B0.length = 7) (r0 : 0 ≤ t0.toInt ∧ t0.toInt ≤ 254) (r1 : 0 ≤ t1.toInt ∧ t1.toInt ≤ 254) (r2 : 0 ≤ t2.toInt ∧ t2.toInt ≤ 254) (q0 : 0 ≤ u0.toInt ∧ u0.toInt ≤ 254) (q1 : 0 ≤ u1.toInt ∧ u1.toInt ≤ 254) (q2 : 0 ≤ u2.toInt ∧ u2.toInt ≤ 254) (hy1 : y1 = (if 0 < (Int32.ofNat 0) then (B0.set sn (t0.toInt8.toInt32)) else B0)) (hy2 : y2 = (if (1 : Int32) < (Int32.ofNat 0) then (y1.set (sn + 1) (t1.toInt8.toInt32)) else y1)) (hy3 : y3 = (if (2 : Int32) < (Int32.ofNat 0) then (y2.set (sn + 2) (t2.toInt8.toInt32)) else y2)) (hv0 : v0 = (if 0 < (Int32.ofNat 1) then (u0.toInt8.toInt32) else (0 : Int32))) (hv1 : v1 = (if (1 : Int32) < (Int32.ofNat 1) then (u1.toInt8.toInt32) else (0 : Int32))) (hv2 : v2 = (if (2 : Int32) < (Int32.ofNat 1) then (u2.toInt8.toInt32) else (0 : Int32))) : (f6 (ct (y3.set (sn + 0) (-1 : Int32)) [v0, v1, v2] sn 1 0)) = (f6 ((f5 t0 t1 t2 (Int32.ofNat 0)) - (f5 u0 u1 u2 (Int32.ofNat 1)))) := by
  have b0 := own_bs0 hsn hl hy1 hy2 hy3
  rw [if_pos (by decide)] at hv0
  have k1 := own_key0 r0 r1 r2
  have k2 := own_key1 q0 q1 q2
  have kd : ((f5 t0 t1 t2 (Int32.ofNat 0)) - (f5 u0 u1 u2 (Int32.ofNat 1))).toInt = (f5 t0 t1 t2 (Int32.ofNat 0)).toInt - (f5 u0 u1 u2 (Int32.ofNat 1)).toInt := XT.sub32 (by unfold XT.fits32; omega)
  rw [ct_end b0]
  have zf : (-1 : Int32).toInt = -1 := rfl
  have z0 : (0 : Int32).toInt = 0 := rfl
  exact own_sgn (by omega) (by omega)
theorem own_c02 {sn : Nat} {B0 y1 y2 y3 : List Int32} {t0 t1 t2 u0 u1 u2 v0 v1 v2 : Int32} (hsn : sn ≤ 2) (hl : B0.length = 7) (r0 : 0 ≤ t0.toInt ∧ t0.toInt ≤ 254) (r1 : 0 ≤ t1.toInt ∧ t1.toInt ≤ 254) (r2 : 0 ≤ t2.toInt ∧ t2.toInt ≤ 254) (q0 : 0 ≤ u0.toInt ∧ u0.toInt ≤ 254) (q1 : 0 ≤ u1.toInt ∧ u1.toInt ≤ 254) (q2 : 0 ≤ u2.toInt ∧ u2.toInt ≤ 254) (hy1 : y1 = (if 0 < (Int32.ofNat 0) then (B0.set sn (t0.toInt8.toInt32)) else B0)) (hy2 : y2 = (if (1 : Int32) < (Int32.ofNat 0) then (y1.set (sn + 1) (t1.toInt8.toInt32)) else y1)) (hy3 : y3 = (if (2 : Int32) < (Int32.ofNat 0) then (y2.set (sn + 2) (t2.toInt8.toInt32)) else y2)) (hv0 : v0 = (if 0 < (Int32.ofNat 2) then (u0.toInt8.toInt32) else (0 : Int32))) (hv1 : v1 = (if (1 : Int32) < (Int32.ofNat 2) then (u1.toInt8.toInt32) else (0 : Int32))) (hv2 : v2 = (if (2 : Int32) < (Int32.ofNat 2) then (u2.toInt8.toInt32) else (0 : Int32))) : (f6 (ct (y3.set (sn + 0) (-1 : Int32)) [v0, v1, v2] sn 2 0)) = (f6 ((f5 t0 t1 t2 (Int32.ofNat 0)) - (f5 u0 u1 u2 (Int32.ofNat 2)))) := by
  have b0 := own_bs0 hsn hl hy1 hy2 hy3
  rw [if_pos (by decide)] at hv0
  rw [if_pos (by decide)] at hv1
  have k1 := own_key0 r0 r1 r2
  have k2 := own_key2 q0 q1 q2
  have kd : ((f5 t0 t1 t2 (Int32.ofNat 0)) - (f5 u0 u1 u2 (Int32.ofNat 2))).toInt = (f5 t0 t1 t2 (Int32.ofNat 0)).toInt - (f5 u0 u1 u2 (Int32.ofNat 2)).toInt := XT.sub32 (by unfold XT.fits32; omega)
  rw [ct_end b0]
  have zf : (-1 : Int32).toInt = -1 := rfl
  have z0 : (0 : Int32).toInt = 0 := rfl
  exact own_sgn (by omega) (by omega)
theorem own_c03 {sn : Nat} {B0 y1 y2 y3 : List Int32} {t0 t1 t2 u0 u1 u2 v0 v1 v2 : Int32} (hsn : sn ≤ 2) (hl : B0.length = 7) (r0 : 0 ≤ t0.toInt ∧ t0.toInt ≤ 254) (r1 : 0 ≤ t1.toInt ∧ t1.toInt ≤ 254) (r2 : 0 ≤ t2.toInt ∧ t2.toInt ≤ 254) (q0 : 0 ≤ u0.toInt ∧ u0.toInt ≤ 254) (q1 : 0 ≤ u1.toInt ∧ u1.toInt ≤ 254) (q2 : 0 ≤ u2.toInt ∧ u2.toInt ≤ 254) (hy1 : y1 = (if 0 < (Int32.ofNat 0) then (B0.set sn (t0.toInt8.toInt32)) else B0)) (hy2 : y2 = (if (1 : Int32) < (Int32.ofNat 0) then (y1.set (sn + 1) (t1.toInt8.toInt32)) else y1)) (hy3 : y3 = (if (2 : Int32) < (Int32.ofNat 0) then (y2.set (sn + 2) (t2.toInt8.toInt32)) else y2)) (hv0 : v0 = (if 0 < (Int32.ofNat 3) then (u0.toInt8.toInt32) else (0 : Int32))) (hv1 : v1 = (if (1 : Int32) < (Int32.ofNat 3) then (u1.toInt8.toInt32) else (0 : Int32))) (hv2 : v2 = (if (2 : Int32) < (Int32.ofNat 3) then (u2.toInt8.toInt32) else (0 : Int32))) : (f6 (ct (y3.set (sn + 0) (-1 : Int32)) [v0, v1, v2] sn 3 0)) = (f6 ((f5 t0 t1 t2 (Int32.ofNat 0)) - (f5 u0 u1 u2 (Int32.ofNat 3)))) := by
  have b0 := own_bs0 hsn hl hy1 hy2 hy3
  rw [if_pos (by decide)] at hv0
  rw [if_pos (by decide)] at hv1
  rw [if_pos (by decide)] at hv2
  have k1 := own_key0 r0 r1 r2
  have k2 := own_key3 q0 q1 q2
  have kd : ((f5 t0 t1 t2 (Int32.ofNat 0)) - (f5 u0 u1 u2 (Int32.ofNat 3))).toInt = (f5 t0 t1 t2 (Int32.ofNat 0)).toInt - (f5 u0 u1 u2 (Int32.ofNat 3)).toInt := XT.sub32 (by unfold XT.fits32; omega)
  rw [ct_end b0]
  have zf : (-1 : Int32).toInt = -1 := rfl
  have z0 : (0 : Int32).toInt = 0 := rfl
  exact own_sgn (by omega) (by omega)
theorem own_c10 {sn : Nat} {B0 y1 y2 y3 : List Int32} {t0 t1 t2 u0 u1 u2 v0 v1 v2 : Int32} (hsn : sn ≤ 2) (hl : B0.length = 7) (r0 : 0 ≤ t0.toInt ∧ t0.toInt ≤ 254) (r1 : 0 ≤ t1.toInt ∧ t1.toInt ≤ 254) (r2 : 0 ≤ t2.toInt ∧ t2.toInt ≤ 254) (q0 : 0 ≤ u0.toInt ∧ u0.toInt ≤ 254) (q1 : 0 ≤ u1.toInt ∧ u1.toInt ≤ 254) (q2 : 0 ≤ u2.toInt ∧ u2.toInt ≤ 254) (hy1 : y1 = (if 0 < (Int32.ofNat 1) then (B0.set sn (t0.toInt8.toInt32)) else B0)) (hy2 : y2 = (if (1 : Int32) < (Int32.ofNat 1) then (y1.set (sn + 1) (t1.toInt8.toInt32)) else y1)) (hy3 : y3 = (if (2 : Int32) < (Int32.ofNat 1) then (y2.set (sn + 2) (t2.toInt8.toInt32)) else y2)) (hv0 : v0 = (if 0 < (Int32.ofNat 0) then (u0.toInt8.toInt32) else (0 : Int32))) (hv1 : v1 = (if (1 : Int32) < (Int32.ofNat 0) then (u1.toInt8.toInt32) else (0 : Int32))) (hv2 : v2 = (if (2 : Int32) < (Int32.ofNat 0) then (u2.toInt8.toInt32) else (0 : Int32))) : (f6 (ct (y3.set (sn + 1) (-1 : Int32)) [v0, v1, v2] sn 0 0)) = (f6 ((f5 t0 t1 t2 (Int32.ofNat 1)) - (f5 u0 u1 u2 (Int32.ofNat 0)))) := by
  obtain ⟨b0, b1⟩ := own_bs1 hsn hl hy1 hy2 hy3
  have k1 := own_key1 r0 r1 r2
  have k2 := own_key0 q0 q1 q2
  have kd : ((f5 t0 t1 t2 (Int32.ofNat 1)) - (f5 u0 u1 u2 (Int32.ofNat 0))).toInt = (f5 t0 t1 t2 (Int32.ofNat 1)).toInt - (f5 u0 u1 u2 (Int32.ofNat 0)).toInt := XT.sub32 (by unfold XT.fits32; omega)
  rw [ct_last b0 r0]
  have zf : (1 : Int32).toInt = 1 := rfl
  have z0 : (0 : Int32).toInt = 0 := rfl
  exact own_sgn (by omega) (by omega)
theorem own_c11 {sn : Nat} {B0 y1 y2 y3 : List Int32} {t0 t1 t2 u0 u1 u2 v0 v1 v2 : Int32} (hsn : sn ≤ 2) (hl : B0.length = 7) (r0 : 0 ≤ t0.toInt ∧ t0.toInt ≤ 254) (r1 : 0 ≤ t1.toInt ∧ t1.toInt ≤ 254) (r2 : 0 ≤ t2.toInt ∧ t2.toInt ≤ 254) (q0 : 0 ≤ u0.toInt ∧ u0.toInt ≤ 254) (q1 : 0 ≤ u1.toInt ∧ u1.toInt ≤ 254) (q2 : 0 ≤ u2.toInt ∧ u2.toInt ≤ 254) (hy1 : y1 = (if 0 < (Int32.ofNat 1) then (B0.set sn (t0.toInt8.toInt32)) else B0)) (hy2 : y2 = (if (1 : Int32) < (Int32.ofNat 1) then (y1.set (sn + 1) (t1.toInt8.toInt32)) else y1)) (hy3 : y3 = (if (2 : Int32) < (Int32.ofNat 1) then (y2.set (sn + 2) (t2.toInt8.toInt32)) else y2)) (hv0 : v0 = (if 0 < (Int32.ofNat 1) then (u0.toInt8.toInt32) else (0 : Int32))) (hv1 : v1 = (if (1 : Int32) < (Int32.ofNat 1) then (u1.toInt8.toInt32) else (0 : Int32))) (hv2 : v2 = (if (2 : Int32) < (Int32.ofNat 1) then (u2.toInt8.toInt32) else (0 : Int32))) : (f6 (ct (y3.set (sn + 1) (-1 : Int32)) [v0, v1, v2] sn 1 0)) = (f6 ((f5 t0 t1 t2 (Int32.ofNat 1)) - (f5 u0 u1 u2 (Int32.ofNat 1)))) := by
  obtain ⟨b0, b1⟩ := own_bs1 hsn hl hy1 hy2 hy3
  rw [if_pos (by decide)] at hv0
  have k1 := own_key1 r0 r1 r2
  have k2 := own_key1 q0 q1 q2
  have kd : ((f5 t0 t1 t2 (Int32.ofNat 1)) - (f5 u0 u1 u2 (Int32.ofNat 1))).toInt = (f5 t0 t1 t2 (Int32.ofNat 1)).toInt - (f5 u0 u1 u2 (Int32.ofNat 1)).toInt := XT.sub32 (by unfold XT.fits32; omega)
  have s0 : (t0 - u0).toInt = t0.toInt - u0.toInt := XT.sub32 (by unfold XT.fits32; omega)
  rw [ct_go (us := [v0, v1, v2]) b0 (u := u0) hv0 r0 q0, ct_end0 b1]
  have zf : (0 : Int32).toInt = 0 := rfl
  have z0 : (0 : Int32).toInt = 0 := rfl
  by_cases e0 : t0 - u0 = 0
  case neg => rw [if_neg e0]; rw [← Int32.toInt_inj, z0] at e0; exact own_sgn (by omega) (by omega)
  rw [if_pos e0]
  rw [← Int32.toInt_inj, z0] at e0
  exact own_sgn (by omega) (by omega)
theorem own_c12 {sn : Nat} {B0 y1 y2 y3 : List Int32} {t0 t1 t2 u0 u1 u2 v0 v1 v2 : Int32} (hsn : sn ≤ 2) (hl : B0.length = 7) (r0 : 0 ≤ t0.toInt ∧ t0.toInt ≤ 254) (r1 : 0 ≤ t1.toInt ∧ t1.toInt ≤ 254) (r2 : 0 ≤ t2.toInt ∧ t2.toInt ≤ 254) (q0 : 0 ≤ u0.toInt ∧ u0.toInt ≤ 254) (q1 : 0 ≤ u1.toInt ∧ u1.toInt ≤ 254) (q2 : 0 ≤ u2.toInt ∧ u2.toInt ≤ 254) (hy1 : y1 = (if 0 < (Int32.ofNat 1) then (B0.set sn (t0.toInt8.toInt32)) else B0)) (hy2 : y2 = (if (1 : Int32) < (Int32.ofNat 1) then (y1.set (sn + 1) (t1.toInt8.toInt32)) else y1)) (hy3 : y3 = (if (2 : Int32) < (Int32.ofNat 1) then (y2.set (sn + 2) (t2.toInt8.toInt32)) else y2)) (hv0 : v0 = (if 0 < (Int32.ofNat 2) then (u0.toInt8.toInt32) else (0 : Int32))) (hv1 : v1 = (if (1 : Int32) < (Int32.ofNat 2) then (u1.toInt8.toInt32) else (0 : Int32))) (hv2 : v2 = (if (2 : Int32) < (Int32.ofNat 2) then (u2.toInt8.toInt32) else (0 : Int32))) : (f6 (ct (y3.set (sn + 1) (-1 : Int32)) [v0, v1, v2] sn 2 0)) = (f6 ((f5 t0 t1 t2 (Int32.ofNat 1)) - (f5 u0 u1 u2 (Int32.ofNat 2)))) := by
  obtain ⟨b0, b1⟩ := own_bs1 hsn hl hy1 hy2 hy3
  rw [if_pos (by decide)] at hv0
  rw [if_pos (by decide)] at hv1
  have k1 := own_key1 r0 r1 r2
  have k2 := own_key2 q0 q1 q2
  have kd : ((f5 t0 t1 t2 (Int32.ofNat 1)) - (f5 u0 u1 u2 (Int32.ofNat 2))).toInt = (f5 t0 t1 t2 (Int32.ofNat 1)).toInt - (f5 u0 u1 u2 (Int32.ofNat 2)).toInt := XT.sub32 (by unfold XT.fits32; omega)
  have s0 : (t0 - u0).toInt = t0.toInt - u0.toInt := XT.sub32 (by unfold XT.fits32; omega)
  rw [ct_go (us := [v0, v1, v2]) b0 (u := u0) hv0 r0 q0, ct_end b1]
  have zf : (-1 : Int32).toInt = -1 := rfl
  have z0 : (0 : Int32).toInt = 0 := rfl
  by_cases e0 : t0 - u0 = 0
  case neg => rw [if_neg e0]; rw [← Int32.toInt_inj, z0] at e0; exact own_sgn (by omega) (by omega)
  rw [if_pos e0]
  rw [← Int32.toInt_inj, z0] at e0
  exact own_sgn (by omega) (by omega)
theorem own_c13 {sn : Nat} {B0 y1 y2 y3 : List Int32} {t0 t1 t2 u0 u1 u2 v0 v1 v2 : Int32} (hsn : sn ≤ 2) (hl : B0.length = 7) (r0 : 0 ≤ t0.toInt ∧ t0.toInt ≤ 254) (r1 : 0 ≤ t1.toInt ∧ t1.toInt ≤ 254) (r2 : 0 ≤ t2.toInt ∧ t2.toInt ≤ 254) (q0 : 0 ≤ u0.toInt ∧ u0.toInt ≤ 254) (q1 : 0 ≤ u1.toInt ∧ u1.toInt ≤ 254) (q2 : 0 ≤ u2.toInt ∧ u2.toInt ≤ 254) (hy1 : y1 = (if 0 < (Int32.ofNat 1) then (B0.set sn (t0.toInt8.toInt32)) else B0)) (hy2 : y2 = (if (1 : Int32) < (Int32.ofNat 1) then (y1.set (sn + 1) (t1.toInt8.toInt32)) else y1)) (hy3 : y3 = (if (2 : Int32) < (Int32.ofNat 1) then (y2.set (sn + 2) (t2.toInt8.toInt32)) else y2)) (hv0 : v0 = (if 0 < (Int32.ofNat 3) then (u0.toInt8.toInt32) else (0 : Int32))) (hv1 : v1 = (if (1 : Int32) < (Int32.ofNat 3) then (u1.toInt8.toInt32) else (0 : Int32))) (hv2 : v2 = (if (2 : Int32) < (Int32.ofNat 3) then (u2.toInt8.toInt32) else (0 : Int32))) : (f6 (ct (y3.set (sn + 1) (-1 : Int32)) [v0, v1, v2] sn 3 0)) = (f6 ((f5 t0 t1 t2 (Int32.ofNat 1)) - (f5 u0 u1 u2 (Int32.ofNat 3)))) := by
  obtain ⟨b0, b1⟩ := own_bs1 hsn hl hy1 hy2 hy3
  rw [if_pos (by decide)] at hv0
  rw [if_pos (by decide)] at hv1
  rw [if_pos (by decide)] at hv2
  have k1 := own_key1 r0 r1 r2
  have k2 := own_key3 q0 q1 q2
  have kd : ((f5 t0 t1 t2 (Int32.ofNat 1)) - (f5 u0 u1 u2 (Int32.ofNat 3))).toInt = (f5 t0 t1 t2 (Int32.ofNat 1)).toInt - (f5 u0 u1 u2 (Int32.ofNat 3)).toInt := XT.sub32 (by unfold XT.fits32; omega)
  have s0 : (t0 - u0).toInt = t0.toInt - u0.toInt := XT.sub32 (by unfold XT.fits32; omega)
  rw [ct_go (us := [v0, v1, v2]) b0 (u := u0) hv0 r0 q0, ct_end b1]
  have zf : (-1 : Int32).toInt = -1 := rfl
  have z0 : (0 : Int32).toInt = 0 := rfl
  by_cases e0 : t0 - u0 = 0
  case neg => rw [if_neg e0]; rw [← Int32.toInt_inj, z0] at e0; exact own_sgn (by omega) (by omega)
  rw [if_pos e0]
  rw [← Int32.toInt_inj, z0] at e0
  exact own_sgn (by omega) (by omega)
theorem own_c20 {sn : Nat} {B0 y1 y2 y3 : List Int32} {t0 t1 t2 u0 u1 u2 v0 v1 v2 : Int32} (hsn : sn ≤ 2) (hl : B0.length = 7) (r0 : 0 ≤ t0.toInt ∧ t0.toInt ≤ 254) (r1 : 0 ≤ t1.toInt ∧ t1.toInt ≤ 254) (r2 : 0 ≤ t2.toInt ∧ t2.toInt ≤ 254) (q0 : 0 ≤ u0.toInt ∧ u0.toInt ≤ 254) (q1 : 0 ≤ u1.toInt ∧ u1.toInt ≤ 254) (q2 : 0 ≤ u2.toInt ∧ u2.toInt ≤ 254) (hy1 : y1 = (if 0 < (Int32.ofNat 2) then (B0.set sn (t0.toInt8.toInt32)) else B0)) (hy2 : y2 = (if (1 : Int32) < (Int32.ofNat 2) then (y1.set (sn + 1) (t1.toInt8.toInt32)) else y1)) (hy3 : y3 = (if (2 : Int32) < (Int32.ofNat 2) then (y2.set (sn + 2) (t2.toInt8.toInt32)) else y2)) (hv0 : v0 = (if 0 < (Int32.ofNat 0) then (u0.toInt8.toInt32) else (0 : Int32))) (hv1 : v1 = (if (1 : Int32) < (Int32.ofNat 0) then (u1.toInt8.toInt32) else (0 : Int32))) (hv2 : v2 = (if (2 : Int32) < (Int32.ofNat 0) then (u2.toInt8.toInt32) else (0 : Int32))) : (f6 (ct (y3.set (sn + 2) (-1 : Int32)) [v0, v1, v2] sn 0 0)) = (f6 ((f5 t0 t1 t2 (Int32.ofNat 2)) - (f5 u0 u1 u2 (Int32.ofNat 0)))) := by
  obtain ⟨b0, b1, b2⟩ := own_bs2 hsn hl hy1 hy2 hy3
  have k1 := own_key2 r0 r1 r2
  have k2 := own_key0 q0 q1 q2
  have kd : ((f5 t0 t1 t2 (Int32.ofNat 2)) - (f5 u0 u1 u2 (Int32.ofNat 0))).toInt = (f5 t0 t1 t2 (Int32.ofNat 2)).toInt - (f5 u0 u1 u2 (Int32.ofNat 0)).toInt := XT.sub32 (by unfold XT.fits32; omega)
  rw [ct_last b0 r0]
  have zf : (1 : Int32).toInt = 1 := rfl
  have z0 : (0 : Int32).toInt = 0 := rfl
  exact own_sgn (by omega) (by omega)
theorem own_c21 {sn : Nat} {B0 y1 y2 y3 : List Int32} {t0 t1 t2 u0 u1 u2 v0 v1 v2 : Int32} (hsn : sn ≤ 2) (hl : B0.length = 7) (r0 : 0 ≤ t0.toInt ∧ t0.toInt ≤ 254) (r1 : 0 ≤ t1.toInt ∧ t1.toInt ≤ 254) (r2 : 0 ≤ t2.toInt ∧ t2.toInt ≤ 254) (q0 : 0 ≤ u0.toInt ∧ u0.toInt ≤ 254) (q1 : 0 ≤ u1.toInt ∧ u1.toInt ≤ 254) (q2 : 0 ≤ u2.toInt ∧ u2.toInt ≤ 254) (hy1 : y1 = (if 0 < (Int32.ofNat 2) then (B0.set sn (t0.toInt8.toInt32)) else B0)) (hy2 : y2 = (if (1 : Int32) < (Int32.ofNat 2) then (y1.set (sn + 1) (t1.toInt8.toInt32)) else y1)) (hy3 : y3 = (if (2 : Int32) < (Int32.ofNat 2) then (y2.set (sn + 2) (t2.toInt8.toInt32)) else y2)) (hv0 : v0 = (if 0 < (Int32.ofNat 1) then (u0.toInt8.toInt32) else (0 : Int32))) (hv1 : v1 = (if (1 : Int32) < (Int32.ofNat 1) then (u1.toInt8.toInt32) else (0 : Int32))) (hv2 : v2 = (if (2 : Int32) < (Int32.ofNat 1) then (u2.toInt8.toInt32) else (0 : Int32))) : (f6 (ct (y3.set (sn + 2) (-1 : Int32)) [v0, v1, v2] sn 1 0)) = (f6 ((f5 t0 t1 t2 (Int32.ofNat 2)) - (f5 u0 u1 u2 (Int32.ofNat 1)))) := by
  obtain ⟨b0, b1, b2⟩ := own_bs2 hsn hl hy1 hy2 hy3
  rw [if_pos (by decide)] at hv0
  have k1 := own_key2 r0 r1 r2
  have k2 := own_key1 q0 q1 q2
  have kd : ((f5 t0 t1 t2 (Int32.ofNat 2)) - (f5 u0 u1 u2 (Int32.ofNat 1))).toInt = (f5 t0 t1 t2 (Int32.ofNat 2)).toInt - (f5 u0 u1 u2 (Int32.ofNat 1)).toInt := XT.sub32 (by unfold XT.fits32; omega)
  have s0 : (t0 - u0).toInt = t0.toInt - u0.toInt := XT.sub32 (by unfold XT.fits32; omega)
  rw [ct_go (us := [v0, v1, v2]) b0 (u := u0) hv0 r0 q0, ct_last b1 r1]
  have zf : (1 : Int32).toInt = 1 := rfl
  have z0 : (0 : Int32).toInt = 0 := rfl
  by_cases e0 : t0 - u0 = 0
  case neg => rw [if_neg e0]; rw [← Int32.toInt_inj, z0] at e0; exact own_sgn (by omega) (by omega)
  rw [if_pos e0]
  rw [← Int32.toInt_inj, z0] at e0
  exact own_sgn (by omega) (by omega)
theorem own_c22 {sn : Nat} {B0 y1 y2 y3 : List Int32} {t0 t1 t2 u0 u1 u2 v0 v1 v2 : Int32} (hsn : sn ≤ 2) (hl : B0.length = 7) (r0 : 0 ≤ t0.toInt ∧ t0.toInt ≤ 254) (r1 : 0 ≤ t1.toInt ∧ t1.toInt ≤ 254) (r2 : 0 ≤ t2.toInt ∧ t2.toInt ≤ 254) (q0 : 0 ≤ u0.toInt ∧ u0.toInt ≤ 254) (q1 : 0 ≤ u1.toInt ∧ u1.toInt ≤ 254) (q2 : 0 ≤ u2.toInt ∧ u2.toInt ≤ 254) (hy1 : y1 = (if 0 < (Int32.ofNat 2) then (B0.set sn (t0.toInt8.toInt32)) else B0)) (hy2 : y2 = (if (1 : Int32) < (Int32.ofNat 2) then (y1.set (sn + 1) (t1.toInt8.toInt32)) else y1)) (hy3 : y3 = (if (2 : Int32) < (Int32.ofNat 2) then (y2.set (sn + 2) (t2.toInt8.toInt32)) else y2)) (hv0 : v0 = (if 0 < (Int32.ofNat 2) then (u0.toInt8.toInt32) else (0 : Int32))) (hv1 : v1 = (if (1 : Int32) < (Int32.ofNat 2) then (u1.toInt8.toInt32) else (0 : Int32))) (hv2 : v2 = (if (2 : Int32) < (Int32.ofNat 2) then (u2.toInt8.toInt32) else (0 : Int32))) : (f6 (ct (y3.set (sn + 2) (-1 : Int32)) [v0, v1, v2] sn 2 0)) = (f6 ((f5 t0 t1 t2 (Int32.ofNat 2)) - (f5 u0 u1 u2 (Int32.ofNat 2)))) := by
  obtain ⟨b0, b1, b2⟩ := own_bs2 hsn hl hy1 hy2 hy3
  rw [if_pos (by decide)] at hv0
  rw [if_pos (by decide)] at hv1
  have k1 := own_key2 r0 r1 r2
  have k2 := own_key2 q0 q1 q2
  have kd : ((f5 t0 t1 t2 (Int32.ofNat 2)) - (f5 u0 u1 u2 (Int32.ofNat 2))).toInt = (f5 t0 t1 t2 (Int32.ofNat 2)).toInt - (f5 u0 u1 u2 (Int32.ofNat 2)).toInt := XT.sub32 (by unfold XT.fits32; omega)
  have s0 : (t0 - u0).toInt = t0.toInt - u0.toInt := XT.sub32 (by unfold XT.fits32; omega)
  have s1 : (t1 - u1).toInt = t1.toInt - u1.toInt := XT.sub32 (by unfold XT.fits32; omega)
  rw [ct_go (us := [v0, v1, v2]) b0 (u := u0) hv0 r0 q0, ct_go (us := [v0, v1, v2]) b1 (u := u1) hv1 r1 q1, ct_end0 b2]
  have zf : (0 : Int32).toInt = 0 := rfl
  have z0 : (0 : Int32).toInt = 0 := rfl
  by_cases e0 : t0 - u0 = 0
  case neg => rw [if_neg e0]; rw [← Int32.toInt_inj, z0] at e0; exact own_sgn (by omega) (by omega)
  by_cases e1 : t1 - u1 = 0
  case neg => rw [if_pos e0, if_neg e1]; rw [← Int32.toInt_inj, z0] at e0 e1; exact own_sgn (by omega) (by omega)
  rw [if_pos e0, if_pos e1]
  rw [← Int32.toInt_inj, z0] at e0
  rw [← Int32.toInt_inj, z0] at e1
  exact own_sgn (by omega) (by omega)
theorem own_c23 {sn : Nat} {B0 y1 y2 y3 : List Int32} {t0 t1 t2 u0 u1 u2 v0 v1 v2 : Int32} (hsn : sn ≤ 2) (hl : B0.length = 7) (r0 : 0 ≤ t0.toInt ∧ t0.toInt ≤ 254) (r1 : 0 ≤ t1.toInt ∧ t1.toInt ≤ 254) (r2 : 0 ≤ t2.toInt ∧ t2.toInt ≤ 254) (q0 : 0 ≤ u0.toInt ∧ u0.toInt ≤ 254) (q1 : 0 ≤ u1.toInt ∧ u1.toInt ≤ 254) (q2 : 0 ≤ u2.toInt ∧ u2.toInt ≤ 254) (hy1 : y1 = (if 0 < (Int32.ofNat 2) then (B0.set sn (t0.toInt8.toInt32)) else B0)) (hy2 : y2 = (if (1 : Int32) < (Int32.ofNat 2) then (y1.set (sn + 1) (t1.toInt8.toInt32)) else y1)) (hy3 : y3 = (if (2 : Int32) < (Int32.ofNat 2) then (y2.set (sn + 2) (t2.toInt8.toInt32)) else y2)) (hv0 : v0 = (if 0 < (Int32.ofNat 3) then (u0.toInt8.toInt32) else (0 : Int32))) (hv1 : v1 = (if (1 : Int32) < (Int32.ofNat 3) then (u1.toInt8.toInt32) else (0 : Int32))) (hv2 : v2 = (if (2 : Int32) < (Int32.ofNat 3) then (u2.toInt8.toInt32) else (0 : Int32))) : (f6 (ct (y3.set (sn + 2) (-1 : Int32)) [v0, v1, v2] sn 3 0)) = (f6 ((f5 t0 t1 t2 (Int32.ofNat 2)) - (f5 u0 u1 u2 (Int32.ofNat 3)))) := by
  obtain ⟨b0, b1, b2⟩ := own_bs2 hsn hl hy1 hy2 hy3
  rw [if_pos (by decide)] at hv0
  rw [if_pos (by decide)] at hv1
  rw [if_pos (by decide)] at hv2
  have k1 := own_key2 r0 r1 r2
  have k2 := own_key3 q0 q1 q2
  have kd : ((f5 t0 t1 t2 (Int32.ofNat 2)) - (f5 u0 u1 u2 (Int32.ofNat 3))).toInt = (f5 t0 t1 t2 (Int32.ofNat 2)).toInt - (f5 u0 u1 u2 (Int32.ofNat 3)).toInt := XT.sub32 (by unfold XT.fits32; omega)
  have s0 : (t0 - u0).toInt = t0.toInt - u0.toInt := XT.sub32 (by unfold XT.fits32; omega)
  have s1 : (t1 - u1).toInt = t1.toInt - u1.toInt := XT.sub32 (by unfold XT.fits32; omega)
  rw [ct_go (us := [v0, v1, v2]) b0 (u := u0) hv0 r0 q0, ct_go (us := [v0, v1, v2]) b1 (u := u1) hv1 r1 q1, ct_end b2]
  have zf : (-1 : Int32).toInt = -1 := rfl
  have z0 : (0 : Int32).toInt = 0 := rfl
  by_cases e0 : t0 - u0 = 0
  case neg => rw [if_neg e0]; rw [← Int32.toInt_inj, z0] at e0; exact own_sgn (by omega) (by omega)
  by_cases e1 : t1 - u1 = 0
  case neg => rw [if_pos e0, if_neg e1]; rw [← Int32.toInt_inj, z0] at e0 e1; exact own_sgn (by omega) (by omega)
  rw [if_pos e0, if_pos e1]
  rw [← Int32.toInt_inj, z0] at e0
  rw [← Int32.toInt_inj, z0] at e1
  exact own_sgn (by omega) (by omega)
theorem own_c30 {sn : Nat} {B0 y1 y2 y3 : List Int32} {t0 t1 t2 u0 u1 u2 v0 v1 v2 : Int32} (hsn : sn ≤ 2) (hl : B0.length = 7) (r0 : 0 ≤ t0.toInt ∧ t0.toInt ≤ 254) (r1 : 0 ≤ t1.toInt ∧ t1.toInt ≤ 254) (r2 : 0 ≤ t2.toInt ∧ t2.toInt ≤ 254) (q0 : 0 ≤ u0.toInt ∧ u0.toInt ≤ 254) (q1 : 0 ≤ u1.toInt ∧ u1.toInt ≤ 254) (q2 : 0 ≤ u2.toInt ∧ u2.toInt ≤ 254) (hy1 : y1 = (if 0 < (Int32.ofNat 3) then (B0.set sn (t0.toInt8.toInt32)) else B0)) (hy2 : y2 = (if (1 : Int32) < (Int32.ofNat 3) then (y1.set (sn + 1) (t1.toInt8.toInt32)) else y1)) (hy3 : y3 = (if (2 : Int32) < (Int32.ofNat 3) then (y2.set (sn + 2) (t2.toInt8.toInt32)) else y2)) (hv0 : v0 = (if 0 < (Int32.ofNat 0) then (u0.toInt8.toInt32) else (0 : Int32))) (hv1 : v1 = (if (1 : Int32) < (Int32.ofNat 0) then (u1.toInt8.toInt32) else (0 : Int32))) (hv2 : v2 = (if (2 : Int32) < (Int32.ofNat 0) then (u2.toInt8.toInt32) else (0 : Int32))) : (f6 (ct (y3.set (sn + 3) (-1 : Int32)) [v0, v1, v2] sn 0 0)) = (f6 ((f5 t0 t1 t2 (Int32.ofNat 3)) - (f5 u0 u1 u2 (Int32.ofNat 0)))) := by
  obtain ⟨b0, b1, b2, b3⟩ := own_bs3 hsn hl hy1 hy2 hy3
  have k1 := own_key3 r0 r1 r2
  have k2 := own_key0 q0 q1 q2
  have kd : ((f5 t0 t1 t2 (Int32.ofNat 3)) - (f5 u0 u1 u2 (Int32.ofNat 0))).toInt = (f5 t0 t1 t2 (Int32.ofNat 3)).toInt - (f5 u0 u1 u2 (Int32.ofNat 0)).toInt := XT.sub32 (by unfold XT.fits32; omega)
  rw [ct_last b0 r0]
  have zf : (1 : Int32).toInt = 1 := rfl
  have z0 : (0 : Int32).toInt = 0 := rfl
  exact own_sgn (by omega) (by omega)
theorem own_c31 {sn : Nat} {B0 y1 y2 y3 : List Int32} {t0 t1 t2 u0 u1 u2 v0 v1 v2 : Int32} (hsn : sn ≤ 2) (hl : B0.length = 7) (r0 : 0 ≤ t0.toInt ∧ t0.toInt ≤ 254) (r1 : 0 ≤ t1.toInt ∧ t1.toInt ≤ 254) (r2 : 0 ≤ t2.toInt ∧ t2.toInt ≤ 254) (q0 : 0 ≤ u0.toInt ∧ u0.toInt ≤ 254) (q1 : 0 ≤ u1.toInt ∧ u1.toInt ≤ 254) (q2 : 0 ≤ u2.toInt ∧ u2.toInt ≤ 254) (hy1 : y1 = (if 0 < (Int32.ofNat 3) then (B0.set sn (t0.toInt8.toInt32)) else B0)) (hy2 : y2 = (if (1 : Int32) < (Int32.ofNat 3) then (y1.set (sn + 1) (t1.toInt8.toInt32)) else y1)) (hy3 : y3 = (if (2 : Int32) < (Int32.ofNat 3) then (y2.set (sn + 2) (t2.toInt8.toInt32)) else y2)) (hv0 : v0 = (if 0 < (Int32.ofNat 1) then (u0.toInt8.toInt32) else (0 : Int32))) (hv1 : v1 = (if (1 : Int32) < (Int32.ofNat 1) then (u1.toInt8.toInt32) else (0 : Int32))) (hv2 : v2 = (if (2 : Int32) < (Int32.ofNat 1) then (u2.toInt8.toInt32) else (0 : Int32))) : (f6 (ct (y3.set (sn + 3) (-1 : Int32)) [v0, v1, v2] sn 1 0)) = (f6 ((f5 t0 t1 t2 (Int32.ofNat 3)) - (f5 u0 u1 u2 (Int32.ofNat 1)))) := by
  obtain ⟨b0, b1, b2, b3⟩ := own_bs3 hsn hl hy1 hy2 hy3
  rw [if_pos (by decide)] at hv0
  have k1 := own_key3 r0 r1 r2
  have k2 := own_key1 q0 q1 q2
  have kd : ((f5 t0 t1 t2 (Int32.ofNat 3)) - (f5 u0 u1 u2 (Int32.ofNat 1))).toInt = (f5 t0 t1 t2 (Int32.ofNat 3)).toInt - (f5 u0 u1 u2 (Int32.ofNat 1)).toInt := XT.sub32 (by unfold XT.fits32; omega)
  have s0 : (t0 - u0).toInt = t0.toInt - u0.toInt := XT.sub32 (by unfold XT.fits32; omega)
  rw [ct_go (us := [v0, v1, v2]) b0 (u := u0) hv0 r0 q0, ct_last b1 r1]
  have zf : (1 : Int32).toInt = 1 := rfl
  have z0 : (0 : Int32).toInt = 0 := rfl
  by_cases e0 : t0 - u0 = 0
  case neg => rw [if_neg e0]; rw [← Int32.toInt_inj, z0] at e0; exact own_sgn (by omega) (by omega)
  rw [if_pos e0]
  rw [← Int32.toInt_inj, z0] at e0
  exact own_sgn (by omega) (by omega)
theorem own_c32 {sn : Nat} {B0 y1 y2 y3 : List Int32} {t0 t1 t2 u0 u1 u2 v0 v1 v2 : Int32} (hsn : sn ≤ 2) (hl : B0.length = 7) (r0 : 0 ≤ t0.toInt ∧ t0.toInt ≤ 254) (r1 : 0 ≤ t1.toInt ∧ t1.toInt ≤ 254) (r2 : 0 ≤ t2.toInt ∧ t2.toInt ≤ 254) (q0 : 0 ≤ u0.toInt ∧ u0.toInt ≤ 254) (q1 : 0 ≤ u1.toInt ∧ u1.toInt ≤ 254) (q2 : 0 ≤ u2.toInt ∧ u2.toInt ≤ 254) (hy1 : y1 = (if 0 < (Int32.ofNat 3) then (B0.set sn (t0.toInt8.toInt32)) else B0)) (hy2 : y2 = (if (1 : Int32) < (Int32.ofNat 3) then (y1.set (sn + 1) (t1.toInt8.toInt32)) else y1)) (hy3 : y3 = (if (2 : Int32) < (Int32.ofNat 3) then (y2.set (sn + 2) (t2.toInt8.toInt32)) else y2)) (hv0 : v0 = (if 0 < (Int32.ofNat 2) then (u0.toInt8.toInt32) else (0 : Int32))) (hv1 : v1 = (if (1 : Int32) < (Int32.ofNat 2) then (u1.toInt8.toInt32) else (0 : Int32))) (hv2 : v2 = (if (2 : Int32) < (Int32.ofNat 2) then (u2.toInt8.toInt32) else (0 : Int32))) : (f6 (ct (y3.set (sn + 3) (-1 : Int32)) [v0, v1, v2] sn 2 0)) = (f6 ((f5 t0 t1 t2 (Int32.ofNat 3)) - (f5 u0 u1 u2 (Int32.ofNat 2)))) := by
  obtain ⟨b0, b1, b2, b3⟩ := own_bs3 hsn hl hy1 hy2 hy3
  rw [if_pos (by decide)] at hv0
  rw [if_pos (by decide)] at hv1
  have k1 := own_key3 r0 r1 r2
  have k2 := own_key2 q0 q1 q2
  have kd : ((f5 t0 t1 t2 (Int32.ofNat 3)) - (f5 u0 u1 u2 (Int32.ofNat 2))).toInt = (f5 t0 t1 t2 (Int32.ofNat 3)).toInt - (f5 u0 u1 u2 (Int32.ofNat 2)).toInt := XT.sub32 (by unfold XT.fits32; omega)
  have s0 : (t0 - u0).toInt = t0.toInt - u0.toInt := XT.sub32 (by unfold XT.fits32; omega)
  have s1 : (t1 - u1).toInt = t1.toInt - u1.toInt := XT.sub32 (by unfold XT.fits32; omega)
  rw [ct_go (us := [v0, v1, v2]) b0 (u := u0) hv0 r0 q0, ct_go (us := [v0, v1, v2]) b1 (u := u1) hv1 r1 q1, ct_last b2 r2]
  have zf : (1 : Int32).toInt = 1 := rfl
  have z0 : (0 : Int32).toInt = 0 := rfl
  by_cases e0 : t0 - u0 = 0
  case neg => rw [if_neg e0]; rw [← Int32.toInt_inj, z0] at e0; exact own_sgn (by omega) (by omega)
  by_cases e1 : t1 - u1 = 0
  case neg => rw [if_pos e0, if_neg e1]; rw [← Int32.toInt_inj, z0] at e0 e1; exact own_sgn (by omega) (by omega)
  rw [if_pos e0, if_pos e1]
  rw [← Int32.toInt_inj, z0] at e0
  rw [← Int32.toInt_inj, z0] at e1
  exact own_sgn (by omega) (by omega)
theorem own_c33 {sn : Nat} {B0 y1 y2 y3 : List Int32} {t0 t1 t2 u0 u1 u2 v0 v1 v2 : Int32} (hsn : sn ≤ 2) (hl : B0.length = 7) (r0 : 0 ≤ t0.toInt ∧ t0.toInt ≤ 254) (r1 : 0 ≤ t1.toInt ∧ t1.toInt ≤ 254) (r2 : 0 ≤ t2.toInt ∧ t2.toInt ≤ 254) (q0 : 0 ≤ u0.toInt ∧ u0.toInt ≤ 254) (q1 : 0 ≤ u1.toInt ∧ u1.toInt ≤ 254) (q2 : 0 ≤ u2.toInt ∧ u2.toInt ≤ 254) (hy1 : y1 = (if 0 < (Int32.ofNat 3) then (B0.set sn (t0.toInt8.toInt32)) else B0)) (hy2 : y2 = (if (1 : Int32) < (Int32.ofNat 3) then (y1.set (sn + 1) (t1.toInt8.toInt32)) else y1)) (hy3 : y3 = (if (2 : Int32) < (Int32.ofNat 3) then (y2.set (sn + 2) (t2.toInt8.toInt32)) else y2)) (hv0 : v0 = (if 0 < (Int32.ofNat 3) then (u0.toInt8.toInt32) else (0 : Int32))) (hv1 : v1 = (if (1 : Int32) < (Int32.ofNat 3) then (u1.toInt8.toInt32) else (0 : Int32))) (hv2 : v2 = (if (2 : Int32) < (Int32.ofNat 3) then (u2.toInt8.toInt32) else (0 : Int32))) : (f6 (ct (y3.set (sn + 3) (-1 : Int32)) [v0, v1, v2] sn 3 0)) = (f6 ((f5 t0 t1 t2 (Int32.ofNat 3)) - (f5 u0 u1 u2 (Int32.ofNat 3)))) := by
  obtain ⟨b0, b1, b2, b3⟩ := own_bs3 hsn hl hy1 hy2 hy3
  rw [if_pos (by decide)] at hv0
  rw [if_pos (by decide)] at hv1
  rw [if_pos (by decide)] at hv2
  have k1 := own_key3 r0 r1 r2
  have k2 := own_key3 q0 q1 q2
  have kd : ((f5 t0 t1 t2 (Int32.ofNat 3)) - (f5 u0 u1 u2 (Int32.ofNat 3))).toInt = (f5 t0 t1 t2 (Int32.ofNat 3)).toInt - (f5 u0 u1 u2 (Int32.ofNat 3)).toInt := XT.sub32 (by unfold XT.fits32; omega)
  have s0 : (t0 - u0).toInt = t0.toInt - u0.toInt := XT.sub32 (by unfold XT.fits32; omega)
  have s1 : (t1 - u1).toInt = t1.toInt - u1.toInt := XT.sub32 (by unfold XT.fits32; omega)
  have s2 : (t2 - u2).toInt = t2.toInt - u2.toInt := XT.sub32 (by unfold XT.fits32; omega)
  rw [ct_go (us := [v0, v1, v2]) b0 (u := u0) hv0 r0 q0, ct_go (us := [v0, v1, v2]) b1 (u := u1) hv1 r1 q1, ct_go (us := [v0, v1, v2]) b2 (u := u2) hv2 r2 q2, ct_end0 b3]
  have zf : (0 : Int32).toInt = 0 := rfl
  have z0 : (0 : Int32).toInt = 0 := rfl
  by_cases e0 : t0 - u0 = 0
  case neg => rw [if_neg e0]; rw [← Int32.toInt_inj, z0] at e0; exact own_sgn (by omega) (by omega)
  by_cases e1 : t1 - u1 = 0
  case neg => rw [if_pos e0, if_neg e1]; rw [← Int32.toInt_inj, z0] at e0 e1; exact own_sgn (by omega) (by omega)
  by_cases e2 : t2 - u2 = 0
  case neg => rw [if_pos e0, if_pos e1, if_neg e2]; rw [← Int32.toInt_inj, z0] at e0 e1 e2; exact own_sgn (by omega) (by omega)
  rw [if_pos e0, if_pos e1, if_pos e2]
  rw [← Int32.toInt_inj, z0] at e0
  rw [← Int32.toInt_inj, z0] at e1
  rw [← Int32.toInt_inj, z0] at e2
  exact own_sgn (by omega) (by omega)
theorem own_fin {sn tn un : Nat} {p0 p1 sm cp : Int32} {B0 y1 y2 y3 : List Int32} {t0 t1 t2 u0 u1 u2 v0 v1 v2 : Int32} (hsn : sn ≤ 2) (htn : tn ≤ 3) (hun : un ≤ 3) (ht0 : t0 = (f1 p0 (0 : Int32) sm)) (ht1 : t1 = (f1 p0 (1 : Int32) sm)) (ht2 : t2 = (f1 p0 (2 : Int32) sm)) (hl : B0.length = 7) (hu0 : u0 = (if cp = 0 then (f1 p1 (0 : Int32) sm) else t0)) (hu1 : u1 = (if cp = 0 then (f1 p1 (1 : Int32) sm) else t1)) (hu2 : u2 = (if cp = 0 then (f1 p1 (2 : Int32) sm) else t2)) (hy1 : y1 = (if 0 < (Int32.ofNat tn) then (B0.set sn (t0.toInt8.toInt32)) else B0)) (hy2 : y2 = (if (1 : Int32) < (Int32.ofNat tn) then (y1.set (sn + 1) (t1.toInt8.toInt32)) else y1)) (hy3 : y3 = (if (2 : Int32) < (Int32.ofNat tn) then (y2.set (sn + 2) (t2.toInt8.toInt32)) else y2)) (hv0 : v0 = (if 0 < (Int32.ofNat un) then (u0.toInt8.toInt32) else (0 : Int32))) (hv1 : v1 = (if (1 : Int32) < (Int32.ofNat un) then (u1.toInt8.toInt32) else (0 : Int32))) (hv2 : v2 = (if (2 : Int32) < (Int32.ofNat un) then (u2.toInt8.toInt32) else (0 : Int32))) : (f6 (ct (y3.set (sn + tn) (-1 : Int32)) [v0, v1, v2] sn un 0)) = (f6 ((f5 t0 t1 t2 (Int32.ofNat tn)) - (f5 u0 u1 u2 (Int32.ofNat un)))) := by
  have r0 : 0 ≤ t0.toInt ∧ t0.toInt ≤ 254 := by rw [ht0]; exact own_pick _ _ _
  have r1 : 0 ≤ t1.toInt ∧ t1.toInt ≤ 254 := by rw [ht1]; exact own_pick _ _ _
  have r2 : 0 ≤ t2.toInt ∧ t2.toInt ≤ 254 := by rw [ht2]; exact own_pick _ _ _
  have q0 : 0 ≤ u0.toInt ∧ u0.toInt ≤ 254 := by
    rw [hu0]; split
    · exact own_pick _ _ _
    · exact r0
  have q1 : 0 ≤ u1.toInt ∧ u1.toInt ≤ 254 := by
    rw [hu1]; split
    · exact own_pick _ _ _
    · exact r1
  have q2 : 0 ≤ u2.toInt ∧ u2.toInt ≤ 254 := by
    rw [hu2]; split
    · exact own_pick _ _ _
    · exact r2
  match tn, htn, un, hun with
  | 0, _, 0, _ => exact own_c00 hsn hl r0 r1 r2 q0 q1 q2 hy1 hy2 hy3 hv0 hv1 hv2
  | 0, _, 1, _ => exact own_c01 hsn hl r0 r1 r2 q0 q1 q2 hy1 hy2 hy3 hv0 hv1 hv2
  | 0, _, 2, _ => exact own_c02 hsn hl r0 r1 r2 q0 q1 q2 hy1 hy2 hy3 hv0 hv1 hv2
  | 0, _, 3, _ => exact own_c03 hsn hl r0 r1 r2 q0 q1 q2 hy1 hy2 hy3 hv0 hv1 hv2
  | 1, _, 0, _ => exact own_c10 hsn hl r0 r1 r2 q0 q1 q2 hy1 hy2 hy3 hv0 hv1 hv2
  | 1, _, 1, _ => exact own_c11 hsn hl r0 r1 r2 q0 q1 q2 hy1 hy2 hy3 hv0 hv1 hv2
  | 1, _, 2, _ => exact own_c12 hsn hl r0 r1 r2 q0 q1 q2 hy1 hy2 hy3 hv0 hv1 hv2
  | 1, _, 3, _ => exact own_c13 hsn hl r0 r1 r2 q0 q1 q2 hy1 hy2 hy3 hv0 hv1 hv2
  | 2, _, 0, _ => exact own_c20 hsn hl r0 r1 r2 q0 q1 q2 hy1 hy2 hy3 hv0 hv1 hv2
  | 2, _, 1, _ => exact own_c21 hsn hl r0 r1 r2 q0 q1 q2 hy1 hy2 hy3 hv0 hv1 hv2
  | 2, _, 2, _ => exact own_c22 hsn hl r0 r1 r2 q0 q1 q2 hy1 hy2 hy3 hv0 hv1 hv2
  | 2, _, 3, _ => exact own_c23 hsn hl r0 r1 r2 q0 q1 q2 hy1 hy2 hy3 hv0 hv1 hv2
  | 3, _, 0, _ => exact own_c30 hsn hl r0 r1 r2 q0 q1 q2 hy1 hy2 hy3 hv0 hv1 hv2
  | 3, _, 1, _ => exact own_c31 hsn hl r0 r1 r2 q0 q1 q2 hy1 hy2 hy3 hv0 hv1 hv2
  | 3, _, 2, _ => exact own_c32 hsn hl r0 r1 r2 q0 q1 q2 hy1 hy2 hy3 hv0 hv1 hv2
  | 3, _, 3, _ => exact own_c33 hsn hl r0 r1 r2 q0 q1 q2 hy1 hy2 hy3 hv0 hv1 hv2

theorem pd_0 : parseMethodDescriptor "(IIZ)I" = some ⟨[.int, .int, .boolean], some .int⟩ := by decide +kernel
theorem pd_1 : parseMethodDescriptor "([BLjava/lang/String;)V" = some ⟨[(.array .byte), (.object "java/lang/String")], none⟩ := by decide +kernel
theorem pd_2 : parseMethodDescriptor "(I[B)I" = some ⟨[.int, (.array .byte)], some .int⟩ := by decide +kernel
theorem pd_3 : parseMethodDescriptor "(IIII)I" = some ⟨[.int, .int, .int, .int], some .int⟩ := by decide +kernel
theorem pd_4 : parseMethodDescriptor "(I)I" = some ⟨[.int], some .int⟩ := by decide +kernel
theorem ef_0 (m : MethodId) (x0 : Int32) (x1 : Int32) (x2 : Int32) (x3 : Int32) : entryFrame m #[(.int x0), (.int x1), (.int x2), (.int x3)] maxLocals = mkF m 0 #[.val (.int x0), .val (.int x1), .val (.int x2), .val (.int x3), .unset, .unset, .unset, .unset, .unset, .unset, .unset, .unset, .unset, .unset, .unset, .unset, .unset, .unset, .unset, .unset] [] := by first | (simp [entryFrame, mkF, argsToLocals, Value.category, maxLocals]; done) | rfl
set_option maxRecDepth 65536 in
set_option maxHeartbeats 40000000 in
theorem rm0 (l : Launch) (Z : State) (a0 : Array Value) (hw : ∀ d ∈ tables_1, d.before a0 Z = true) (ws : List Jvm.Cond) (p0 p1 p2 p3 : Int32) (h0 : Heap) (n0 : Nat) (Z0 : n0 ≤ h0.size)  :
    MetFree l x (head1 (Jvm.Cond.code x code maxLocals ret :: ws) room_1) (fun a U => a = #[(.int p0), (.int p1), (.int p2), (.int p3)] ∧ Z.Warmed39 U.vm ∧ U.heap = h0) (fun _ _ _ _ _ => True) (fun _ U o U' => ∃ v L, o = .returned v ∧ QV (some (.int (1 : Int32))) (fun _ L => Fr n0 L) v U'.heap L ∧ FEW U o U' L room_1.cells room_1.slots) := by
  refine MetFree.of_bodySF (plainFor_of_name pn_0) hisR ?_
  intro p e s m args below meth c s₁ Bd hml0 hP hK
  obtain ⟨rfl, hZ, hh⟩ := hP
  have hx := Bd.exec
  have hby := Bd.bytes
  have hml : c.maxLocals = 20 := hml0
  have hown : s.vm.findClass "com/example/kenning/kenning/index/DecoderCompareTextPinLaw" = some m.cls := findClass_of_methodNamed Bd.named
  have hnm := (name_of_methodNamed Bd.named Bd.method).1
  have hlk : meth.locks = false := BodyLoose.notSynchronized Bd
  have X0 : Stand p l e room_1 s m #[(.int p0), (.int p1), (.int p2), (.int p3)] below meth c s₁ [] 0 0 := Stand.of_body Bd
  have e0 : s₁.heap = h0 := by rw [← hh, Bd.state]; rfl
  have N0 := Fr.nil n0
  refine GotW.body (ef_0 m p0 p1 p2 p3) ?_
  refine GotW.step (T' := s₁) (g' := (mkF m 21 #[.val (.int p0), .val (.int p1), .val (.int p2), .val (.int p3), .val (.int (p2 &&& (3 : Int32))), .val (.int (((p2.toUInt32 >>> ((2 : Int32) &&& 31).toUInt32).toInt32) &&& (3 : Int32))), .val (.int ((((p2.toUInt32 >>> ((4 : Int32) &&& 31).toUInt32).toInt32) &&& (3 : Int32)) % (3 : Int32))), .unset, .unset, .unset, .unset, .unset, .unset, .unset, .unset, .unset, .unset, .unset, .unset, .unset] [])) (fun tq kt => ?_) ?_
  · show Steps p.tables e below (s₁.setTop (mkF m 0 #[.val (.int p0), .val (.int p1), .val (.int p2), .val (.int p3), .unset, .unset, .unset, .unset, .unset, .unset, .unset, .unset, .unset, .unset, .unset, .unset, .unset, .unset, .unset, .unset] [])) _
    refine XS.iloadN X0.here hx rfl (hb hby at_0) rfl ?_
    show Steps p.tables e below (s₁.setTop (mkF m 1 #[.val (.int p0), .val (.int p1), .val (.int p2), .val (.int p3), .unset, .unset, .unset, .unset, .unset, .unset, .unset, .unset, .unset, .unset, .unset, .unset, .unset, .unset, .unset, .unset] [(.int p2)])) _
    refine XS.iconst X0.here hx rfl (hb hby at_1) ?_
    show Steps p.tables e below (s₁.setTop (mkF m 2 #[.val (.int p0), .val (.int p1), .val (.int p2), .val (.int p3), .unset, .unset, .unset, .unset, .unset, .unset, .unset, .unset, .unset, .unset, .unset, .unset, .unset, .unset, .unset, .unset] [(.int (3 : Int32)), (.int p2)])) _
    refine XS.iand X0.here hx rfl (hb hby at_2) rfl ?_
    show Steps p.tables e below (s₁.setTop (mkF m 3 #[.val (.int p0), .val (.int p1), .val (.int p2), .val (.int p3), .unset, .unset, .unset, .unset, .unset, .unset, .unset, .unset, .unset, .unset, .unset, .unset, .unset, .unset, .unset, .unset] [(.int (p2 &&& (3 : Int32)))])) _
    refine XS.istore X0.here hx rfl (hb hby at_3) rfl (l' := #[.val (.int p0), .val (.int p1), .val (.int p2), .val (.int p3), .val (.int (p2 &&& (3 : Int32))), .unset, .unset, .unset, .unset, .unset, .unset, .unset, .unset, .unset, .unset, .unset, .unset, .unset, .unset, .unset]) rfl ?_
    show Steps p.tables e below (s₁.setTop (mkF m 5 #[.val (.int p0), .val (.int p1), .val (.int p2), .val (.int p3), .val (.int (p2 &&& (3 : Int32))), .unset, .unset, .unset, .unset, .unset, .unset, .unset, .unset, .unset, .unset, .unset, .unset, .unset, .unset, .unset] [])) _
    refine XS.iloadN X0.here hx rfl (hb hby at_5) rfl ?_
    show Steps p.tables e below (s₁.setTop (mkF m 6 #[.val (.int p0), .val (.int p1), .val (.int p2), .val (.int p3), .val (.int (p2 &&& (3 : Int32))), .unset, .unset, .unset, .unset, .unset, .unset, .unset, .unset, .unset, .unset, .unset, .unset, .unset, .unset, .unset] [(.int p2)])) _
    refine XS.iconst X0.here hx rfl (hb hby at_6) ?_
    show Steps p.tables e below (s₁.setTop (mkF m 7 #[.val (.int p0), .val (.int p1), .val (.int p2), .val (.int p3), .val (.int (p2 &&& (3 : Int32))), .unset, .unset, .unset, .unset, .unset, .unset, .unset, .unset, .unset, .unset, .unset, .unset, .unset, .unset, .unset] [(.int (2 : Int32)), (.int p2)])) _
    refine XS.iushr X0.here hx rfl (hb hby at_7) rfl ?_
    show Steps p.tables e below (s₁.setTop (mkF m 8 #[.val (.int p0), .val (.int p1), .val (.int p2), .val (.int p3), .val (.int (p2 &&& (3 : Int32))), .unset, .unset, .unset, .unset, .unset, .unset, .unset, .unset, .unset, .unset, .unset, .unset, .unset, .unset, .unset] [(.int ((p2.toUInt32 >>> ((2 : Int32) &&& 31).toUInt32).toInt32))])) _
    refine XS.iconst X0.here hx rfl (hb hby at_8) ?_
    show Steps p.tables e below (s₁.setTop (mkF m 9 #[.val (.int p0), .val (.int p1), .val (.int p2), .val (.int p3), .val (.int (p2 &&& (3 : Int32))), .unset, .unset, .unset, .unset, .unset, .unset, .unset, .unset, .unset, .unset, .unset, .unset, .unset, .unset, .unset] [(.int (3 : Int32)), (.int ((p2.toUInt32 >>> ((2 : Int32) &&& 31).toUInt32).toInt32))])) _
    refine XS.iand X0.here hx rfl (hb hby at_9) rfl ?_
    show Steps p.tables e below (s₁.setTop (mkF m 10 #[.val (.int p0), .val (.int p1), .val (.int p2), .val (.int p3), .val (.int (p2 &&& (3 : Int32))), .unset, .unset, .unset, .unset, .unset, .unset, .unset, .unset, .unset, .unset, .unset, .unset, .unset, .unset, .unset] [(.int (((p2.toUInt32 >>> ((2 : Int32) &&& 31).toUInt32).toInt32) &&& (3 : Int32)))])) _
    refine XS.istore X0.here hx rfl (hb hby at_10) rfl (l' := #[.val (.int p0), .val (.int p1), .val (.int p2), .val (.int p3), .val (.int (p2 &&& (3 : Int32))), .val (.int (((p2.toUInt32 >>> ((2 : Int32) &&& 31).toUInt32).toInt32) &&& (3 : Int32))), .unset, .unset, .unset, .unset, .unset, .unset, .unset, .unset, .unset, .unset, .unset, .unset, .unset, .unset]) rfl ?_
    show Steps p.tables e below (s₁.setTop (mkF m 12 #[.val (.int p0), .val (.int p1), .val (.int p2), .val (.int p3), .val (.int (p2 &&& (3 : Int32))), .val (.int (((p2.toUInt32 >>> ((2 : Int32) &&& 31).toUInt32).toInt32) &&& (3 : Int32))), .unset, .unset, .unset, .unset, .unset, .unset, .unset, .unset, .unset, .unset, .unset, .unset, .unset, .unset] [])) _
    refine XS.iloadN X0.here hx rfl (hb hby at_12) rfl ?_
    show Steps p.tables e below (s₁.setTop (mkF m 13 #[.val (.int p0), .val (.int p1), .val (.int p2), .val (.int p3), .val (.int (p2 &&& (3 : Int32))), .val (.int (((p2.toUInt32 >>> ((2 : Int32) &&& 31).toUInt32).toInt32) &&& (3 : Int32))), .unset, .unset, .unset, .unset, .unset, .unset, .unset, .unset, .unset, .unset, .unset, .unset, .unset, .unset] [(.int p2)])) _
    refine XS.iconst X0.here hx rfl (hb hby at_13) ?_
    show Steps p.tables e below (s₁.setTop (mkF m 14 #[.val (.int p0), .val (.int p1), .val (.int p2), .val (.int p3), .val (.int (p2 &&& (3 : Int32))), .val (.int (((p2.toUInt32 >>> ((2 : Int32) &&& 31).toUInt32).toInt32) &&& (3 : Int32))), .unset, .unset, .unset, .unset, .unset, .unset, .unset, .unset, .unset, .unset, .unset, .unset, .unset, .unset] [(.int (4 : Int32)), (.int p2)])) _
    refine XS.iushr X0.here hx rfl (hb hby at_14) rfl ?_
    show Steps p.tables e below (s₁.setTop (mkF m 15 #[.val (.int p0), .val (.int p1), .val (.int p2), .val (.int p3), .val (.int (p2 &&& (3 : Int32))), .val (.int (((p2.toUInt32 >>> ((2 : Int32) &&& 31).toUInt32).toInt32) &&& (3 : Int32))), .unset, .unset, .unset, .unset, .unset, .unset, .unset, .unset, .unset, .unset, .unset, .unset, .unset, .unset] [(.int ((p2.toUInt32 >>> ((4 : Int32) &&& 31).toUInt32).toInt32))])) _
    refine XS.iconst X0.here hx rfl (hb hby at_15) ?_
    show Steps p.tables e below (s₁.setTop (mkF m 16 #[.val (.int p0), .val (.int p1), .val (.int p2), .val (.int p3), .val (.int (p2 &&& (3 : Int32))), .val (.int (((p2.toUInt32 >>> ((2 : Int32) &&& 31).toUInt32).toInt32) &&& (3 : Int32))), .unset, .unset, .unset, .unset, .unset, .unset, .unset, .unset, .unset, .unset, .unset, .unset, .unset, .unset] [(.int (3 : Int32)), (.int ((p2.toUInt32 >>> ((4 : Int32) &&& 31).toUInt32).toInt32))])) _
    refine XS.iand X0.here hx rfl (hb hby at_16) rfl ?_
    show Steps p.tables e below (s₁.setTop (mkF m 17 #[.val (.int p0), .val (.int p1), .val (.int p2), .val (.int p3), .val (.int (p2 &&& (3 : Int32))), .val (.int (((p2.toUInt32 >>> ((2 : Int32) &&& 31).toUInt32).toInt32) &&& (3 : Int32))), .unset, .unset, .unset, .unset, .unset, .unset, .unset, .unset, .unset, .unset, .unset, .unset, .unset, .unset] [(.int (((p2.toUInt32 >>> ((4 : Int32) &&& 31).toUInt32).toInt32) &&& (3 : Int32)))])) _
    refine XS.iconst X0.here hx rfl (hb hby at_17) ?_
    show Steps p.tables e below (s₁.setTop (mkF m 18 #[.val (.int p0), .val (.int p1), .val (.int p2), .val (.int p3), .val (.int (p2 &&& (3 : Int32))), .val (.int (((p2.toUInt32 >>> ((2 : Int32) &&& 31).toUInt32).toInt32) &&& (3 : Int32))), .unset, .unset, .unset, .unset, .unset, .unset, .unset, .unset, .unset, .unset, .unset, .unset, .unset, .unset] [(.int (3 : Int32)), (.int (((p2.toUInt32 >>> ((4 : Int32) &&& 31).toUInt32).toInt32) &&& (3 : Int32)))])) _
    refine iremM X0 hx rfl (hb hby at_18) rfl (by decide) ?_
    show Steps p.tables e below (s₁.setTop (mkF m 19 #[.val (.int p0), .val (.int p1), .val (.int p2), .val (.int p3), .val (.int (p2 &&& (3 : Int32))), .val (.int (((p2.toUInt32 >>> ((2 : Int32) &&& 31).toUInt32).toInt32) &&& (3 : Int32))), .unset, .unset, .unset, .unset, .unset, .unset, .unset, .unset, .unset, .unset, .unset, .unset, .unset, .unset] [(.int ((((p2.toUInt32 >>> ((4 : Int32) &&& 31).toUInt32).toInt32) &&& (3 : Int32)) % (3 : Int32)))])) _
    refine XS.istore X0.here hx rfl (hb hby at_19) rfl (l' := #[.val (.int p0), .val (.int p1), .val (.int p2), .val (.int p3), .val (.int (p2 &&& (3 : Int32))), .val (.int (((p2.toUInt32 >>> ((2 : Int32) &&& 31).toUInt32).toInt32) &&& (3 : Int32))), .val (.int ((((p2.toUInt32 >>> ((4 : Int32) &&& 31).toUInt32).toInt32) &&& (3 : Int32)) % (3 : Int32))), .unset, .unset, .unset, .unset, .unset, .unset, .unset, .unset, .unset, .unset, .unset, .unset, .unset]) rfl ?_
    exact kt
  obtain ⟨sn, hsn, esn⟩ := own_sn p2
  rw [esn]
  show GotW p e below s _ _ _ _ s₁ (mkF m 21 #[.val (.int p0), .val (.int p1), .val (.int p2), .val (.int p3), .val (.int (p2 &&& (3 : Int32))), .val (.int (((p2.toUInt32 >>> ((2 : Int32) &&& 31).toUInt32).toInt32) &&& (3 : Int32))), .val (.int (Int32.ofNat sn)), .unset, .unset, .unset, .unset, .unset, .unset, .unset, .unset, .unset, .unset, .unset, .unset, .unset] [])
  obtain ⟨tn, htn, etn⟩ := own_3 p2
  rw [etn]
  show GotW p e below s _ _ _ _ s₁ (mkF m 21 #[.val (.int p0), .val (.int p1), .val (.int p2), .val (.int p3), .val (.int (Int32.ofNat tn)), .val (.int (((p2.toUInt32 >>> ((2 : Int32) &&& 31).toUInt32).toInt32) &&& (3 : Int32))), .val (.int (Int32.ofNat sn)), .unset, .unset, .unset, .unset, .unset, .unset, .unset, .unset, .unset, .unset, .unset, .unset, .unset] [])
  obtain ⟨un, hun, eun⟩ := own_3 ((p2.toUInt32 >>> ((2 : Int32) &&& 31).toUInt32).toInt32)
  rw [eun]
  show GotW p e below s _ _ _ _ s₁ (mkF m 21 #[.val (.int p0), .val (.int p1), .val (.int p2), .val (.int p3), .val (.int (Int32.ofNat tn)), .val (.int (Int32.ofNat un)), .val (.int (Int32.ofNat sn)), .unset, .unset, .unset, .unset, .unset, .unset, .unset, .unset, .unset, .unset, .unset, .unset, .unset] [])
  refine GotW.step (T' := s₁) (g' := (mkF m 27 #[.val (.int p0), .val (.int p1), .val (.int p2), .val (.int p3), .val (.int (Int32.ofNat tn)), .val (.int (Int32.ofNat un)), .val (.int (Int32.ofNat sn)), .unset, .unset, .unset, .unset, .unset, .unset, .unset, .unset, .unset, .unset, .unset, .unset, .unset] [(.int (((p2.toUInt32 >>> ((6 : Int32) &&& 31).toUInt32).toInt32) &&& (1 : Int32)))])) (fun tq kt => ?_) ?_
  · show Steps p.tables e below (s₁.setTop (mkF m 21 #[.val (.int p0), .val (.int p1), .val (.int p2), .val (.int p3), .val (.int (Int32.ofNat tn)), .val (.int (Int32.ofNat un)), .val (.int (Int32.ofNat sn)), .unset, .unset, .unset, .unset, .unset, .unset, .unset, .unset, .unset, .unset, .unset, .unset, .unset] [])) _
    refine XS.iloadN X0.here hx rfl (hb hby at_21) rfl ?_
    show Steps p.tables e below (s₁.setTop (mkF m 22 #[.val (.int p0), .val (.int p1), .val (.int p2), .val (.int p3), .val (.int (Int32.ofNat tn)), .val (.int (Int32.ofNat un)), .val (.int (Int32.ofNat sn)), .unset, .unset, .unset, .unset, .unset, .unset, .unset, .unset, .unset, .unset, .unset, .unset, .unset] [(.int p2)])) _
    refine XS.bipush X0.here hx rfl (hb hby at_22) ?_
    show Steps p.tables e below (s₁.setTop (mkF m 24 #[.val (.int p0), .val (.int p1), .val (.int p2), .val (.int p3), .val (.int (Int32.ofNat tn)), .val (.int (Int32.ofNat un)), .val (.int (Int32.ofNat sn)), .unset, .unset, .unset, .unset, .unset, .unset, .unset, .unset, .unset, .unset, .unset, .unset, .unset] [(.int (6 : Int32)), (.int p2)])) _
    refine XS.iushr X0.here hx rfl (hb hby at_24) rfl ?_
    show Steps p.tables e below (s₁.setTop (mkF m 25 #[.val (.int p0), .val (.int p1), .val (.int p2), .val (.int p3), .val (.int (Int32.ofNat tn)), .val (.int (Int32.ofNat un)), .val (.int (Int32.ofNat sn)), .unset, .unset, .unset, .unset, .unset, .unset, .unset, .unset, .unset, .unset, .unset, .unset, .unset] [(.int ((p2.toUInt32 >>> ((6 : Int32) &&& 31).toUInt32).toInt32))])) _
    refine XS.iconst X0.here hx rfl (hb hby at_25) ?_
    show Steps p.tables e below (s₁.setTop (mkF m 26 #[.val (.int p0), .val (.int p1), .val (.int p2), .val (.int p3), .val (.int (Int32.ofNat tn)), .val (.int (Int32.ofNat un)), .val (.int (Int32.ofNat sn)), .unset, .unset, .unset, .unset, .unset, .unset, .unset, .unset, .unset, .unset, .unset, .unset, .unset] [(.int (1 : Int32)), (.int ((p2.toUInt32 >>> ((6 : Int32) &&& 31).toUInt32).toInt32))])) _
    refine XS.iand X0.here hx rfl (hb hby at_26) rfl ?_
    exact kt
  have J84 : ∀ (k84_0 : Int32), k84_0 = (if (((p2.toUInt32 >>> ((6 : Int32) &&& 31).toUInt32).toInt32) &&& (1 : Int32)) = 0 then (0 : Int32) else (1 : Int32)) → GotW p e below s (fun _ L => Fr n0 L) room_1.cells room_1.slots (some (.int (1 : Int32))) s₁ (mkF m 35 #[.val (.int p0), .val (.int p1), .val (.int p2), .val (.int p3), .val (.int (Int32.ofNat tn)), .val (.int (Int32.ofNat un)), .val (.int (Int32.ofNat sn)), .unset, .unset, .unset, .unset, .unset, .unset, .unset, .unset, .unset, .unset, .unset, .unset, .unset] [(.int k84_0)]) := by
    intro k84_0 hk84_0
    refine GotW.step (T' := s₁) (g' := (mkF m 43 #[.val (.int p0), .val (.int p1), .val (.int p2), .val (.int p3), .val (.int (Int32.ofNat tn)), .val (.int (Int32.ofNat un)), .val (.int (Int32.ofNat sn)), .val (.int k84_0), .unset, .unset, .unset, .unset, .unset, .unset, .unset, .unset, .unset, .unset, .unset, .unset] [(.int (((p2.toUInt32 >>> ((7 : Int32) &&& 31).toUInt32).toInt32) &&& (1 : Int32)))])) (fun tq kt => ?_) ?_
    · show Steps p.tables e below (s₁.setTop (mkF m 35 #[.val (.int p0), .val (.int p1), .val (.int p2), .val (.int p3), .val (.int (Int32.ofNat tn)), .val (.int (Int32.ofNat un)), .val (.int (Int32.ofNat sn)), .unset, .unset, .unset, .unset, .unset, .unset, .unset, .unset, .unset, .unset, .unset, .unset, .unset] [(.int k84_0)])) _
      refine XS.istore X0.here hx rfl (hb hby at_35) rfl (l' := #[.val (.int p0), .val (.int p1), .val (.int p2), .val (.int p3), .val (.int (Int32.ofNat tn)), .val (.int (Int32.ofNat un)), .val (.int (Int32.ofNat sn)), .val (.int k84_0), .unset, .unset, .unset, .unset, .unset, .unset, .unset, .unset, .unset, .unset, .unset, .unset]) rfl ?_
      show Steps p.tables e below (s₁.setTop (mkF m 37 #[.val (.int p0), .val (.int p1), .val (.int p2), .val (.int p3), .val (.int (Int32.ofNat tn)), .val (.int (Int32.ofNat un)), .val (.int (Int32.ofNat sn)), .val (.int k84_0), .unset, .unset, .unset, .unset, .unset, .unset, .unset, .unset, .unset, .unset, .unset, .unset] [])) _
      refine XS.iloadN X0.here hx rfl (hb hby at_37) rfl ?_
      show Steps p.tables e below (s₁.setTop (mkF m 38 #[.val (.int p0), .val (.int p1), .val (.int p2), .val (.int p3), .val (.int (Int32.ofNat tn)), .val (.int (Int32.ofNat un)), .val (.int (Int32.ofNat sn)), .val (.int k84_0), .unset, .unset, .unset, .unset, .unset, .unset, .unset, .unset, .unset, .unset, .unset, .unset] [(.int p2)])) _
      refine XS.bipush X0.here hx rfl (hb hby at_38) ?_
      show Steps p.tables e below (s₁.setTop (mkF m 40 #[.val (.int p0), .val (.int p1), .val (.int p2), .val (.int p3), .val (.int (Int32.ofNat tn)), .val (.int (Int32.ofNat un)), .val (.int (Int32.ofNat sn)), .val (.int k84_0), .unset, .unset, .unset, .unset, .unset, .unset, .unset, .unset, .unset, .unset, .unset, .unset] [(.int (7 : Int32)), (.int p2)])) _
      refine XS.iushr X0.here hx rfl (hb hby at_40) rfl ?_
      show Steps p.tables e below (s₁.setTop (mkF m 41 #[.val (.int p0), .val (.int p1), .val (.int p2), .val (.int p3), .val (.int (Int32.ofNat tn)), .val (.int (Int32.ofNat un)), .val (.int (Int32.ofNat sn)), .val (.int k84_0), .unset, .unset, .unset, .unset, .unset, .unset, .unset, .unset, .unset, .unset, .unset, .unset] [(.int ((p2.toUInt32 >>> ((7 : Int32) &&& 31).toUInt32).toInt32))])) _
      refine XS.iconst X0.here hx rfl (hb hby at_41) ?_
      show Steps p.tables e below (s₁.setTop (mkF m 42 #[.val (.int p0), .val (.int p1), .val (.int p2), .val (.int p3), .val (.int (Int32.ofNat tn)), .val (.int (Int32.ofNat un)), .val (.int (Int32.ofNat sn)), .val (.int k84_0), .unset, .unset, .unset, .unset, .unset, .unset, .unset, .unset, .unset, .unset, .unset, .unset] [(.int (1 : Int32)), (.int ((p2.toUInt32 >>> ((7 : Int32) &&& 31).toUInt32).toInt32))])) _
      refine XS.iand X0.here hx rfl (hb hby at_42) rfl ?_
      exact kt
    have J86 : ∀ (k86_0 : Int32), k86_0 = (if (((p2.toUInt32 >>> ((7 : Int32) &&& 31).toUInt32).toInt32) &&& (1 : Int32)) = 0 then (0 : Int32) else (1 : Int32)) → GotW p e below s (fun _ L => Fr n0 L) room_1.cells room_1.slots (some (.int (1 : Int32))) s₁ (mkF m 51 #[.val (.int p0), .val (.int p1), .val (.int p2), .val (.int p3), .val (.int (Int32.ofNat tn)), .val (.int (Int32.ofNat un)), .val (.int (Int32.ofNat sn)), .val (.int k84_0), .unset, .unset, .unset, .unset, .unset, .unset, .unset, .unset, .unset, .unset, .unset, .unset] [(.int k86_0)]) := by
      intro k86_0 hk86_0
      refine GotW.step (T' := s₁) (g' := (mkF m 57 #[.val (.int p0), .val (.int p1), .val (.int p2), .val (.int p3), .val (.int (Int32.ofNat tn)), .val (.int (Int32.ofNat un)), .val (.int (Int32.ofNat sn)), .val (.int k84_0), .val (.int k86_0), .unset, .unset, .unset, .unset, .unset, .unset, .unset, .unset, .unset, .unset, .unset] [(.int k84_0), (.int (0 : Int32)), (.int p0)])) (fun tq kt => ?_) ?_
      · show Steps p.tables e below (s₁.setTop (mkF m 51 #[.val (.int p0), .val (.int p1), .val (.int p2), .val (.int p3), .val (.int (Int32.ofNat tn)), .val (.int (Int32.ofNat un)), .val (.int (Int32.ofNat sn)), .val (.int k84_0), .unset, .unset, .unset, .unset, .unset, .unset, .unset, .unset, .unset, .unset, .unset, .unset] [(.int k86_0)])) _
        refine XS.istore X0.here hx rfl (hb hby at_51) rfl (l' := #[.val (.int p0), .val (.int p1), .val (.int p2), .val (.int p3), .val (.int (Int32.ofNat tn)), .val (.int (Int32.ofNat un)), .val (.int (Int32.ofNat sn)), .val (.int k84_0), .val (.int k86_0), .unset, .unset, .unset, .unset, .unset, .unset, .unset, .unset, .unset, .unset, .unset]) rfl ?_
        show Steps p.tables e below (s₁.setTop (mkF m 53 #[.val (.int p0), .val (.int p1), .val (.int p2), .val (.int p3), .val (.int (Int32.ofNat tn)), .val (.int (Int32.ofNat un)), .val (.int (Int32.ofNat sn)), .val (.int k84_0), .val (.int k86_0), .unset, .unset, .unset, .unset, .unset, .unset, .unset, .unset, .unset, .unset, .unset] [])) _
        refine XS.iloadN X0.here hx rfl (hb hby at_53) rfl ?_
        show Steps p.tables e below (s₁.setTop (mkF m 54 #[.val (.int p0), .val (.int p1), .val (.int p2), .val (.int p3), .val (.int (Int32.ofNat tn)), .val (.int (Int32.ofNat un)), .val (.int (Int32.ofNat sn)), .val (.int k84_0), .val (.int k86_0), .unset, .unset, .unset, .unset, .unset, .unset, .unset, .unset, .unset, .unset, .unset] [(.int p0)])) _
        refine XS.iconst X0.here hx rfl (hb hby at_54) ?_
        show Steps p.tables e below (s₁.setTop (mkF m 55 #[.val (.int p0), .val (.int p1), .val (.int p2), .val (.int p3), .val (.int (Int32.ofNat tn)), .val (.int (Int32.ofNat un)), .val (.int (Int32.ofNat sn)), .val (.int k84_0), .val (.int k86_0), .unset, .unset, .unset, .unset, .unset, .unset, .unset, .unset, .unset, .unset, .unset] [(.int (0 : Int32)), (.int p0)])) _
        refine XS.iload X0.here hx rfl (hb hby at_55) rfl ?_
        exact kt
      obtain ⟨_, _, ⟨T88, L88, k88, n88⟩, -, X88, ⟨Lc88, hQ88, l88, y88, z88⟩, st88⟩ := Jvm.LawKit.callS X0 hx (y := (⟨"com/example/kenning/kenning/index/DecoderCompareTextPinLaw", "pick", "(IIZ)I"⟩ : MethodName)) hown (mvT hZ (hw _ (List.mem_of_getElem? (i := 0) rfl))) (mvT hZ (hw _ (List.mem_of_getElem? (i := 1) rfl))) (mvT hZ (hw _ (List.mem_of_getElem? (i := 2) rfl))) (mvT hZ (hw _ (List.mem_of_getElem? (i := 3) rfl))) (by decide) (backOf (W := 0) (rm1 l Z a0 hw [] p0 (0 : Int32) k84_0 h0 n0 Z0) hZ (hw _ (List.mem_of_getElem? (i := 3) rfl)) (hw _ (List.mem_of_getElem? (i := 2) rfl)) (by decide) (by decide)) (g := (mkF m 57 #[.val (.int p0), .val (.int p1), .val (.int p2), .val (.int p3), .val (.int (Int32.ofNat tn)), .val (.int (Int32.ofNat un)), .val (.int (Int32.ofNat sn)), .val (.int k84_0), .val (.int k86_0), .unset, .unset, .unset, .unset, .unset, .unset, .unset, .unset, .unset, .unset, .unset] [(.int k84_0), (.int (0 : Int32)), (.int p0)])) rfl (by rw [hml]; rfl) (argsL := [(.int p0), (.int (0 : Int32)), (.int k84_0)]) (rest := []) (lenOf pd_0 rfl) rfl (by show 2 * 0 + _ ≤ _; exact Nat.le_of_eq rfl) (hb hby at_57) (fun _ _ => ⟨rfl, e0, (by decide : 0 + 0 ≤ _), (by decide : 0 + 0 ≤ _)⟩)
      dsimp only [Pt.U, Pt.locs, Pt.cells, Pt.slots] at X88 l88 y88 z88 st88 hQ88
      subst y88 z88
      obtain ⟨rfl, Nq88, e88⟩ := hQ88
      have N88 : Fr n0 L88 := by rw [l88]; exact Fr.app N0 Nq88
      refine GotW.step st88 ?_
      show GotW p e below s _ _ _ _ T88 (mkF m 60 #[.val (.int p0), .val (.int p1), .val (.int p2), .val (.int p3), .val (.int (Int32.ofNat tn)), .val (.int (Int32.ofNat un)), .val (.int (Int32.ofNat sn)), .val (.int k84_0), .val (.int k86_0), .unset, .unset, .unset, .unset, .unset, .unset, .unset, .unset, .unset, .unset, .unset] [(.int (f1 p0 (0 : Int32) k84_0))])
      refine GotW.step (T' := T88) (g' := (mkF m 66 #[.val (.int p0), .val (.int p1), .val (.int p2), .val (.int p3), .val (.int (Int32.ofNat tn)), .val (.int (Int32.ofNat un)), .val (.int (Int32.ofNat sn)), .val (.int k84_0), .val (.int k86_0), .val (.int (f1 p0 (0 : Int32) k84_0)), .unset, .unset, .unset, .unset, .unset, .unset, .unset, .unset, .unset, .unset] [(.int k84_0), (.int (1 : Int32)), (.int p0)])) (fun tq kt => ?_) ?_
      · show Steps p.tables e below (T88.setTop (mkF m 60 #[.val (.int p0), .val (.int p1), .val (.int p2), .val (.int p3), .val (.int (Int32.ofNat tn)), .val (.int (Int32.ofNat un)), .val (.int (Int32.ofNat sn)), .val (.int k84_0), .val (.int k86_0), .unset, .unset, .unset, .unset, .unset, .unset, .unset, .unset, .unset, .unset, .unset] [(.int (f1 p0 (0 : Int32) k84_0))])) _
        refine XS.istore X88.here hx rfl (hb hby at_60) rfl (l' := #[.val (.int p0), .val (.int p1), .val (.int p2), .val (.int p3), .val (.int (Int32.ofNat tn)), .val (.int (Int32.ofNat un)), .val (.int (Int32.ofNat sn)), .val (.int k84_0), .val (.int k86_0), .val (.int (f1 p0 (0 : Int32) k84_0)), .unset, .unset, .unset, .unset, .unset, .unset, .unset, .unset, .unset, .unset]) rfl ?_
        show Steps p.tables e below (T88.setTop (mkF m 62 #[.val (.int p0), .val (.int p1), .val (.int p2), .val (.int p3), .val (.int (Int32.ofNat tn)), .val (.int (Int32.ofNat un)), .val (.int (Int32.ofNat sn)), .val (.int k84_0), .val (.int k86_0), .val (.int (f1 p0 (0 : Int32) k84_0)), .unset, .unset, .unset, .unset, .unset, .unset, .unset, .unset, .unset, .unset] [])) _
        refine XS.iloadN X88.here hx rfl (hb hby at_62) rfl ?_
        show Steps p.tables e below (T88.setTop (mkF m 63 #[.val (.int p0), .val (.int p1), .val (.int p2), .val (.int p3), .val (.int (Int32.ofNat tn)), .val (.int (Int32.ofNat un)), .val (.int (Int32.ofNat sn)), .val (.int k84_0), .val (.int k86_0), .val (.int (f1 p0 (0 : Int32) k84_0)), .unset, .unset, .unset, .unset, .unset, .unset, .unset, .unset, .unset, .unset] [(.int p0)])) _
        refine XS.iconst X88.here hx rfl (hb hby at_63) ?_
        show Steps p.tables e below (T88.setTop (mkF m 64 #[.val (.int p0), .val (.int p1), .val (.int p2), .val (.int p3), .val (.int (Int32.ofNat tn)), .val (.int (Int32.ofNat un)), .val (.int (Int32.ofNat sn)), .val (.int k84_0), .val (.int k86_0), .val (.int (f1 p0 (0 : Int32) k84_0)), .unset, .unset, .unset, .unset, .unset, .unset, .unset, .unset, .unset, .unset] [(.int (1 : Int32)), (.int p0)])) _
        refine XS.iload X88.here hx rfl (hb hby at_64) rfl ?_
        exact kt
      obtain ⟨_, _, ⟨T89, L89, k89, n89⟩, -, X89, ⟨Lc89, hQ89, l89, y89, z89⟩, st89⟩ := Jvm.LawKit.callS X88 hx (y := (⟨"com/example/kenning/kenning/index/DecoderCompareTextPinLaw", "pick", "(IIZ)I"⟩ : MethodName)) hown (mvT hZ (hw _ (List.mem_of_getElem? (i := 0) rfl))) (mvT hZ (hw _ (List.mem_of_getElem? (i := 1) rfl))) (mvT hZ (hw _ (List.mem_of_getElem? (i := 2) rfl))) (mvT hZ (hw _ (List.mem_of_getElem? (i := 3) rfl))) (by decide) (backOf (W := 0) (rm1 l Z a0 hw [] p0 (1 : Int32) k84_0 h0 n0 Z0) hZ (hw _ (List.mem_of_getElem? (i := 3) rfl)) (hw _ (List.mem_of_getElem? (i := 2) rfl)) (by decide) (by decide)) (g := (mkF m 66 #[.val (.int p0), .val (.int p1), .val (.int p2), .val (.int p3), .val (.int (Int32.ofNat tn)), .val (.int (Int32.ofNat un)), .val (.int (Int32.ofNat sn)), .val (.int k84_0), .val (.int k86_0), .val (.int (f1 p0 (0 : Int32) k84_0)), .unset, .unset, .unset, .unset, .unset, .unset, .unset, .unset, .unset, .unset] [(.int k84_0), (.int (1 : Int32)), (.int p0)])) rfl (by rw [hml]; rfl) (argsL := [(.int p0), (.int (1 : Int32)), (.int k84_0)]) (rest := []) (lenOf pd_0 rfl) rfl (by show 2 * 0 + _ ≤ _; exact Nat.le_of_eq rfl) (hb hby at_66) (fun _ _ => ⟨rfl, e88, (by decide : 0 + 0 ≤ _), (by decide : 0 + 0 ≤ _)⟩)
      dsimp only [Pt.U, Pt.locs, Pt.cells, Pt.slots] at X89 l89 y89 z89 st89 hQ89
      subst y89 z89
      obtain ⟨rfl, Nq89, e89⟩ := hQ89
      have N89 : Fr n0 L89 := by rw [l89]; exact Fr.app N88 Nq89
      refine GotW.step st89 ?_
      show GotW p e below s _ _ _ _ T89 (mkF m 69 #[.val (.int p0), .val (.int p1), .val (.int p2), .val (.int p3), .val (.int (Int32.ofNat tn)), .val (.int (Int32.ofNat un)), .val (.int (Int32.ofNat sn)), .val (.int k84_0), .val (.int k86_0), .val (.int (f1 p0 (0 : Int32) k84_0)), .unset, .unset, .unset, .unset, .unset, .unset, .unset, .unset, .unset, .unset] [(.int (f1 p0 (1 : Int32) k84_0))])
      refine GotW.step (T' := T89) (g' := (mkF m 75 #[.val (.int p0), .val (.int p1), .val (.int p2), .val (.int p3), .val (.int (Int32.ofNat tn)), .val (.int (Int32.ofNat un)), .val (.int (Int32.ofNat sn)), .val (.int k84_0), .val (.int k86_0), .val (.int (f1 p0 (0 : Int32) k84_0)), .val (.int (f1 p0 (1 : Int32) k84_0)), .unset, .unset, .unset, .unset, .unset, .unset, .unset, .unset, .unset] [(.int k84_0), (.int (2 : Int32)), (.int p0)])) (fun tq kt => ?_) ?_
      · show Steps p.tables e below (T89.setTop (mkF m 69 #[.val (.int p0), .val (.int p1), .val (.int p2), .val (.int p3), .val (.int (Int32.ofNat tn)), .val (.int (Int32.ofNat un)), .val (.int (Int32.ofNat sn)), .val (.int k84_0), .val (.int k86_0), .val (.int (f1 p0 (0 : Int32) k84_0)), .unset, .unset, .unset, .unset, .unset, .unset, .unset, .unset, .unset, .unset] [(.int (f1 p0 (1 : Int32) k84_0))])) _
        refine XS.istore X89.here hx rfl (hb hby at_69) rfl (l' := #[.val (.int p0), .val (.int p1), .val (.int p2), .val (.int p3), .val (.int (Int32.ofNat tn)), .val (.int (Int32.ofNat un)), .val (.int (Int32.ofNat sn)), .val (.int k84_0), .val (.int k86_0), .val (.int (f1 p0 (0 : Int32) k84_0)), .val (.int (f1 p0 (1 : Int32) k84_0)), .unset, .unset, .unset, .unset, .unset, .unset, .unset, .unset, .unset]) rfl ?_
        show Steps p.tables e below (T89.setTop (mkF m 71 #[.val (.int p0), .val (.int p1), .val (.int p2), .val (.int p3), .val (.int (Int32.ofNat tn)), .val (.int (Int32.ofNat un)), .val (.int (Int32.ofNat sn)), .val (.int k84_0), .val (.int k86_0), .val (.int (f1 p0 (0 : Int32) k84_0)), .val (.int (f1 p0 (1 : Int32) k84_0)), .unset, .unset, .unset, .unset, .unset, .unset, .unset, .unset, .unset] [])) _
        refine XS.iloadN X89.here hx rfl (hb hby at_71) rfl ?_
        show Steps p.tables e below (T89.setTop (mkF m 72 #[.val (.int p0), .val (.int p1), .val (.int p2), .val (.int p3), .val (.int (Int32.ofNat tn)), .val (.int (Int32.ofNat un)), .val (.int (Int32.ofNat sn)), .val (.int k84_0), .val (.int k86_0), .val (.int (f1 p0 (0 : Int32) k84_0)), .val (.int (f1 p0 (1 : Int32) k84_0)), .unset, .unset, .unset, .unset, .unset, .unset, .unset, .unset, .unset] [(.int p0)])) _
        refine XS.iconst X89.here hx rfl (hb hby at_72) ?_
        show Steps p.tables e below (T89.setTop (mkF m 73 #[.val (.int p0), .val (.int p1), .val (.int p2), .val (.int p3), .val (.int (Int32.ofNat tn)), .val (.int (Int32.ofNat un)), .val (.int (Int32.ofNat sn)), .val (.int k84_0), .val (.int k86_0), .val (.int (f1 p0 (0 : Int32) k84_0)), .val (.int (f1 p0 (1 : Int32) k84_0)), .unset, .unset, .unset, .unset, .unset, .unset, .unset, .unset, .unset] [(.int (2 : Int32)), (.int p0)])) _
        refine XS.iload X89.here hx rfl (hb hby at_73) rfl ?_
        exact kt
      obtain ⟨_, _, ⟨T90, L90, k90, n90⟩, -, X90, ⟨Lc90, hQ90, l90, y90, z90⟩, st90⟩ := Jvm.LawKit.callS X89 hx (y := (⟨"com/example/kenning/kenning/index/DecoderCompareTextPinLaw", "pick", "(IIZ)I"⟩ : MethodName)) hown (mvT hZ (hw _ (List.mem_of_getElem? (i := 0) rfl))) (mvT hZ (hw _ (List.mem_of_getElem? (i := 1) rfl))) (mvT hZ (hw _ (List.mem_of_getElem? (i := 2) rfl))) (mvT hZ (hw _ (List.mem_of_getElem? (i := 3) rfl))) (by decide) (backOf (W := 0) (rm1 l Z a0 hw [] p0 (2 : Int32) k84_0 h0 n0 Z0) hZ (hw _ (List.mem_of_getElem? (i := 3) rfl)) (hw _ (List.mem_of_getElem? (i := 2) rfl)) (by decide) (by decide)) (g := (mkF m 75 #[.val (.int p0), .val (.int p1), .val (.int p2), .val (.int p3), .val (.int (Int32.ofNat tn)), .val (.int (Int32.ofNat un)), .val (.int (Int32.ofNat sn)), .val (.int k84_0), .val (.int k86_0), .val (.int (f1 p0 (0 : Int32) k84_0)), .val (.int (f1 p0 (1 : Int32) k84_0)), .unset, .unset, .unset, .unset, .unset, .unset, .unset, .unset, .unset] [(.int k84_0), (.int (2 : Int32)), (.int p0)])) rfl (by rw [hml]; rfl) (argsL := [(.int p0), (.int (2 : Int32)), (.int k84_0)]) (rest := []) (lenOf pd_0 rfl) rfl (by show 2 * 0 + _ ≤ _; exact Nat.le_of_eq rfl) (hb hby at_75) (fun _ _ => ⟨rfl, e89, (by decide : 0 + 0 ≤ _), (by decide : 0 + 0 ≤ _)⟩)
      dsimp only [Pt.U, Pt.locs, Pt.cells, Pt.slots] at X90 l90 y90 z90 st90 hQ90
      subst y90 z90
      obtain ⟨rfl, Nq90, e90⟩ := hQ90
      have N90 : Fr n0 L90 := by rw [l90]; exact Fr.app N89 Nq90
      refine GotW.step st90 ?_
      show GotW p e below s _ _ _ _ T90 (mkF m 78 #[.val (.int p0), .val (.int p1), .val (.int p2), .val (.int p3), .val (.int (Int32.ofNat tn)), .val (.int (Int32.ofNat un)), .val (.int (Int32.ofNat sn)), .val (.int k84_0), .val (.int k86_0), .val (.int (f1 p0 (0 : Int32) k84_0)), .val (.int (f1 p0 (1 : Int32) k84_0)), .unset, .unset, .unset, .unset, .unset, .unset, .unset, .unset, .unset] [(.int (f1 p0 (2 : Int32) k84_0))])
      refine GotW.step (T' := T90) (g' := (mkF m 80 #[.val (.int p0), .val (.int p1), .val (.int p2), .val (.int p3), .val (.int (Int32.ofNat tn)), .val (.int (Int32.ofNat un)), .val (.int (Int32.ofNat sn)), .val (.int k84_0), .val (.int k86_0), .val (.int (f1 p0 (0 : Int32) k84_0)), .val (.int (f1 p0 (1 : Int32) k84_0)), .val (.int (f1 p0 (2 : Int32) k84_0)), .unset, .unset, .unset, .unset, .unset, .unset, .unset, .unset] [])) (fun tq kt => ?_) ?_
      · show Steps p.tables e below (T90.setTop (mkF m 78 #[.val (.int p0), .val (.int p1), .val (.int p2), .val (.int p3), .val (.int (Int32.ofNat tn)), .val (.int (Int32.ofNat un)), .val (.int (Int32.ofNat sn)), .val (.int k84_0), .val (.int k86_0), .val (.int (f1 p0 (0 : Int32) k84_0)), .val (.int (f1 p0 (1 : Int32) k84_0)), .unset, .unset, .unset, .unset, .unset, .unset, .unset, .unset, .unset] [(.int (f1 p0 (2 : Int32) k84_0))])) _
        refine XS.istore X90.here hx rfl (hb hby at_78) rfl (l' := #[.val (.int p0), .val (.int p1), .val (.int p2), .val (.int p3), .val (.int (Int32.ofNat tn)), .val (.int (Int32.ofNat un)), .val (.int (Int32.ofNat sn)), .val (.int k84_0), .val (.int k86_0), .val (.int (f1 p0 (0 : Int32) k84_0)), .val (.int (f1 p0 (1 : Int32) k84_0)), .val (.int (f1 p0 (2 : Int32) k84_0)), .unset, .unset, .unset, .unset, .unset, .unset, .unset, .unset]) rfl ?_
        exact kt
      obtain ⟨t0, ht0⟩ : ∃ v : Int32, v = (f1 p0 (0 : Int32) k84_0) := ⟨_, rfl⟩
      rw [← ht0]
      show GotW p e below s _ _ _ _ T90 (mkF m 80 #[.val (.int p0), .val (.int p1), .val (.int p2), .val (.int p3), .val (.int (Int32.ofNat tn)), .val (.int (Int32.ofNat un)), .val (.int (Int32.ofNat sn)), .val (.int k84_0), .val (.int k86_0), .val (.int t0), .val (.int (f1 p0 (1 : Int32) k84_0)), .val (.int (f1 p0 (2 : Int32) k84_0)), .unset, .unset, .unset, .unset, .unset, .unset, .unset, .unset] [])
      obtain ⟨t1, ht1⟩ : ∃ v : Int32, v = (f1 p0 (1 : Int32) k84_0) := ⟨_, rfl⟩
      rw [← ht1]
      show GotW p e below s _ _ _ _ T90 (mkF m 80 #[.val (.int p0), .val (.int p1), .val (.int p2), .val (.int p3), .val (.int (Int32.ofNat tn)), .val (.int (Int32.ofNat un)), .val (.int (Int32.ofNat sn)), .val (.int k84_0), .val (.int k86_0), .val (.int t0), .val (.int t1), .val (.int (f1 p0 (2 : Int32) k84_0)), .unset, .unset, .unset, .unset, .unset, .unset, .unset, .unset] [])
      obtain ⟨t2, ht2⟩ : ∃ v : Int32, v = (f1 p0 (2 : Int32) k84_0) := ⟨_, rfl⟩
      rw [← ht2]
      show GotW p e below s _ _ _ _ T90 (mkF m 80 #[.val (.int p0), .val (.int p1), .val (.int p2), .val (.int p3), .val (.int (Int32.ofNat tn)), .val (.int (Int32.ofNat un)), .val (.int (Int32.ofNat sn)), .val (.int k84_0), .val (.int k86_0), .val (.int t0), .val (.int t1), .val (.int t2), .unset, .unset, .unset, .unset, .unset, .unset, .unset, .unset] [])
      refine GotW.step (T' := T90) (g' := (mkF m 82 #[.val (.int p0), .val (.int p1), .val (.int p2), .val (.int p3), .val (.int (Int32.ofNat tn)), .val (.int (Int32.ofNat un)), .val (.int (Int32.ofNat sn)), .val (.int k84_0), .val (.int k86_0), .val (.int t0), .val (.int t1), .val (.int t2), .unset, .unset, .unset, .unset, .unset, .unset, .unset, .unset] [(.int k86_0)])) (fun tq kt => ?_) ?_
      · show Steps p.tables e below (T90.setTop (mkF m 80 #[.val (.int p0), .val (.int p1), .val (.int p2), .val (.int p3), .val (.int (Int32.ofNat tn)), .val (.int (Int32.ofNat un)), .val (.int (Int32.ofNat sn)), .val (.int k84_0), .val (.int k86_0), .val (.int t0), .val (.int t1), .val (.int t2), .unset, .unset, .unset, .unset, .unset, .unset, .unset, .unset] [])) _
        refine XS.iload X90.here hx rfl (hb hby at_80) rfl ?_
        exact kt
      have J91 : ∀ (T91 : State) (h91 : Heap) (L91 : List Loc), Stand p l e room_1 s m #[(.int p0), (.int p1), (.int p2), (.int p3)] below meth c T91 L91 0 0 → T91.heap = h91 → Fr n0 L91 → ∀ (k91_0 : Int32), k91_0 = (if k86_0 = 0 then (f1 p1 (0 : Int32) k84_0) else t0) → n0 ≤ h91.size → GotW p e below s (fun _ L => Fr n0 L) room_1.cells room_1.slots (some (.int (1 : Int32))) T91 (mkF m 97 #[.val (.int p0), .val (.int p1), .val (.int p2), .val (.int p3), .val (.int (Int32.ofNat tn)), .val (.int (Int32.ofNat un)), .val (.int (Int32.ofNat sn)), .val (.int k84_0), .val (.int k86_0), .val (.int t0), .val (.int t1), .val (.int t2), .unset, .unset, .unset, .unset, .unset, .unset, .unset, .unset] [(.int k91_0)]) := by
        intro T91 h91 L91 X91 e91 N91 k91_0 hk91_0 Z0_94
        refine GotW.step (T' := T91) (g' := (mkF m 101 #[.val (.int p0), .val (.int p1), .val (.int p2), .val (.int p3), .val (.int (Int32.ofNat tn)), .val (.int (Int32.ofNat un)), .val (.int (Int32.ofNat sn)), .val (.int k84_0), .val (.int k86_0), .val (.int t0), .val (.int t1), .val (.int t2), .val (.int k91_0), .unset, .unset, .unset, .unset, .unset, .unset, .unset] [(.int k86_0)])) (fun tq kt => ?_) ?_
        · show Steps p.tables e below (T91.setTop (mkF m 97 #[.val (.int p0), .val (.int p1), .val (.int p2), .val (.int p3), .val (.int (Int32.ofNat tn)), .val (.int (Int32.ofNat un)), .val (.int (Int32.ofNat sn)), .val (.int k84_0), .val (.int k86_0), .val (.int t0), .val (.int t1), .val (.int t2), .unset, .unset, .unset, .unset, .unset, .unset, .unset, .unset] [(.int k91_0)])) _
          refine XS.istore X91.here hx rfl (hb hby at_97) rfl (l' := #[.val (.int p0), .val (.int p1), .val (.int p2), .val (.int p3), .val (.int (Int32.ofNat tn)), .val (.int (Int32.ofNat un)), .val (.int (Int32.ofNat sn)), .val (.int k84_0), .val (.int k86_0), .val (.int t0), .val (.int t1), .val (.int t2), .val (.int k91_0), .unset, .unset, .unset, .unset, .unset, .unset, .unset]) rfl ?_
          show Steps p.tables e below (T91.setTop (mkF m 99 #[.val (.int p0), .val (.int p1), .val (.int p2), .val (.int p3), .val (.int (Int32.ofNat tn)), .val (.int (Int32.ofNat un)), .val (.int (Int32.ofNat sn)), .val (.int k84_0), .val (.int k86_0), .val (.int t0), .val (.int t1), .val (.int t2), .val (.int k91_0), .unset, .unset, .unset, .unset, .unset, .unset, .unset] [])) _
          refine XS.iload X91.here hx rfl (hb hby at_99) rfl ?_
          exact kt
        have J95 : ∀ (T95 : State) (h95 : Heap) (L95 : List Loc), Stand p l e room_1 s m #[(.int p0), (.int p1), (.int p2), (.int p3)] below meth c T95 L95 0 0 → T95.heap = h95 → Fr n0 L95 → ∀ (k95_0 : Int32), k95_0 = (if k86_0 = 0 then (f1 p1 (1 : Int32) k84_0) else t1) → n0 ≤ h95.size → GotW p e below s (fun _ L => Fr n0 L) room_1.cells room_1.slots (some (.int (1 : Int32))) T95 (mkF m 116 #[.val (.int p0), .val (.int p1), .val (.int p2), .val (.int p3), .val (.int (Int32.ofNat tn)), .val (.int (Int32.ofNat un)), .val (.int (Int32.ofNat sn)), .val (.int k84_0), .val (.int k86_0), .val (.int t0), .val (.int t1), .val (.int t2), .val (.int k91_0), .unset, .unset, .unset, .unset, .unset, .unset, .unset] [(.int k95_0)]) := by
          intro T95 h95 L95 X95 e95 N95 k95_0 hk95_0 Z0_98
          refine GotW.step (T' := T95) (g' := (mkF m 120 #[.val (.int p0), .val (.int p1), .val (.int p2), .val (.int p3), .val (.int (Int32.ofNat tn)), .val (.int (Int32.ofNat un)), .val (.int (Int32.ofNat sn)), .val (.int k84_0), .val (.int k86_0), .val (.int t0), .val (.int t1), .val (.int t2), .val (.int k91_0), .val (.int k95_0), .unset, .unset, .unset, .unset, .unset, .unset] [(.int k86_0)])) (fun tq kt => ?_) ?_
          · show Steps p.tables e below (T95.setTop (mkF m 116 #[.val (.int p0), .val (.int p1), .val (.int p2), .val (.int p3), .val (.int (Int32.ofNat tn)), .val (.int (Int32.ofNat un)), .val (.int (Int32.ofNat sn)), .val (.int k84_0), .val (.int k86_0), .val (.int t0), .val (.int t1), .val (.int t2), .val (.int k91_0), .unset, .unset, .unset, .unset, .unset, .unset, .unset] [(.int k95_0)])) _
            refine XS.istore X95.here hx rfl (hb hby at_116) rfl (l' := #[.val (.int p0), .val (.int p1), .val (.int p2), .val (.int p3), .val (.int (Int32.ofNat tn)), .val (.int (Int32.ofNat un)), .val (.int (Int32.ofNat sn)), .val (.int k84_0), .val (.int k86_0), .val (.int t0), .val (.int t1), .val (.int t2), .val (.int k91_0), .val (.int k95_0), .unset, .unset, .unset, .unset, .unset, .unset]) rfl ?_
            show Steps p.tables e below (T95.setTop (mkF m 118 #[.val (.int p0), .val (.int p1), .val (.int p2), .val (.int p3), .val (.int (Int32.ofNat tn)), .val (.int (Int32.ofNat un)), .val (.int (Int32.ofNat sn)), .val (.int k84_0), .val (.int k86_0), .val (.int t0), .val (.int t1), .val (.int t2), .val (.int k91_0), .val (.int k95_0), .unset, .unset, .unset, .unset, .unset, .unset] [])) _
            refine XS.iload X95.here hx rfl (hb hby at_118) rfl ?_
            exact kt
          have J99 : ∀ (T99 : State) (h99 : Heap) (L99 : List Loc), Stand p l e room_1 s m #[(.int p0), (.int p1), (.int p2), (.int p3)] below meth c T99 L99 0 0 → T99.heap = h99 → Fr n0 L99 → ∀ (k99_0 : Int32), k99_0 = (if k86_0 = 0 then (f1 p1 (2 : Int32) k84_0) else t2) → n0 ≤ h99.size → GotW p e below s (fun _ L => Fr n0 L) room_1.cells room_1.slots (some (.int (1 : Int32))) T99 (mkF m 135 #[.val (.int p0), .val (.int p1), .val (.int p2), .val (.int p3), .val (.int (Int32.ofNat tn)), .val (.int (Int32.ofNat un)), .val (.int (Int32.ofNat sn)), .val (.int k84_0), .val (.int k86_0), .val (.int t0), .val (.int t1), .val (.int t2), .val (.int k91_0), .val (.int k95_0), .unset, .unset, .unset, .unset, .unset, .unset] [(.int k99_0)]) := by
            intro T99 h99 L99 X99 e99 N99 k99_0 hk99_0 Z0_102
            refine GotW.step (T' := T99) (g' := (mkF m 139 #[.val (.int p0), .val (.int p1), .val (.int p2), .val (.int p3), .val (.int (Int32.ofNat tn)), .val (.int (Int32.ofNat un)), .val (.int (Int32.ofNat sn)), .val (.int k84_0), .val (.int k86_0), .val (.int t0), .val (.int t1), .val (.int t2), .val (.int k91_0), .val (.int k95_0), .val (.int k99_0), .unset, .unset, .unset, .unset, .unset] [(.int (7 : Int32))])) (fun tq kt => ?_) ?_
            · show Steps p.tables e below (T99.setTop (mkF m 135 #[.val (.int p0), .val (.int p1), .val (.int p2), .val (.int p3), .val (.int (Int32.ofNat tn)), .val (.int (Int32.ofNat un)), .val (.int (Int32.ofNat sn)), .val (.int k84_0), .val (.int k86_0), .val (.int t0), .val (.int t1), .val (.int t2), .val (.int k91_0), .val (.int k95_0), .unset, .unset, .unset, .unset, .unset, .unset] [(.int k99_0)])) _
              refine XS.istore X99.here hx rfl (hb hby at_135) rfl (l' := #[.val (.int p0), .val (.int p1), .val (.int p2), .val (.int p3), .val (.int (Int32.ofNat tn)), .val (.int (Int32.ofNat un)), .val (.int (Int32.ofNat sn)), .val (.int k84_0), .val (.int k86_0), .val (.int t0), .val (.int t1), .val (.int t2), .val (.int k91_0), .val (.int k95_0), .val (.int k99_0), .unset, .unset, .unset, .unset, .unset]) rfl ?_
              show Steps p.tables e below (T99.setTop (mkF m 137 #[.val (.int p0), .val (.int p1), .val (.int p2), .val (.int p3), .val (.int (Int32.ofNat tn)), .val (.int (Int32.ofNat un)), .val (.int (Int32.ofNat sn)), .val (.int k84_0), .val (.int k86_0), .val (.int t0), .val (.int t1), .val (.int t2), .val (.int k91_0), .val (.int k95_0), .val (.int k99_0), .unset, .unset, .unset, .unset, .unset] [])) _
              refine XS.bipush X99.here hx rfl (hb hby at_137) ?_
              exact kt
            obtain ⟨T103, h103, k103, X103, e103, E103, A103, st103⟩ := newP X99 hx hZ (hw _ (List.mem_of_getElem? (i := 4) rfl)) e99 (g := (mkF m 139 #[.val (.int p0), .val (.int p1), .val (.int p2), .val (.int p3), .val (.int (Int32.ofNat tn)), .val (.int (Int32.ofNat un)), .val (.int (Int32.ofNat sn)), .val (.int k84_0), .val (.int k86_0), .val (.int t0), .val (.int t1), .val (.int t2), .val (.int k91_0), .val (.int k95_0), .val (.int k99_0), .unset, .unset, .unset, .unset, .unset] [(.int (7 : Int32))])) rfl (hb hby at_139) rfl (by decide) (cap := 7) (by decide) (by decide) (by decide) (by decide)
            obtain ⟨b103, g103⟩ : ∃ z, z = h99.size := ⟨_, rfl⟩
            rw [← g103] at A103 st103
            have gn_b103 : n0 ≤ b103 := by rw [g103]; exact Z0_102
            have Z0_104 : n0 ≤ h103.size := (Nat.le_trans Z0_102 E103.1)
            have V103 : Arv Z h103 b103 k103 .byte (7 : Int32) [(.int (0 : Int32)), (.int (0 : Int32)), (.int (0 : Int32)), (.int (0 : Int32)), (.int (0 : Int32)), (.int (0 : Int32)), (.int (0 : Int32))] (.int (0 : Int32)) := (Arv.new A103 (by decide)).pad (pad_rep [] (.int (0 : Int32)) 7)
            refine GotW.step st103 ?_
            show GotW p e below s _ _ _ _ T103 (mkF m 141 #[.val (.int p0), .val (.int p1), .val (.int p2), .val (.int p3), .val (.int (Int32.ofNat tn)), .val (.int (Int32.ofNat un)), .val (.int (Int32.ofNat sn)), .val (.int k84_0), .val (.int k86_0), .val (.int t0), .val (.int t1), .val (.int t2), .val (.int k91_0), .val (.int k95_0), .val (.int k99_0), .unset, .unset, .unset, .unset, .unset] [(.ref b103)])
            refine GotW.step (T' := T103) (g' := (mkF m 148 #[.val (.int p0), .val (.int p1), .val (.int p2), .val (.int p3), .val (.int (Int32.ofNat tn)), .val (.int (Int32.ofNat un)), .val (.int (Int32.ofNat sn)), .val (.int k84_0), .val (.int k86_0), .val (.int t0), .val (.int t1), .val (.int t2), .val (.int k91_0), .val (.int k95_0), .val (.int k99_0), .val (.ref b103), .unset, .unset, .unset, .unset] [(.int (p3.toInt8.toInt32)), (.int (0 : Int32)), (.ref b103)])) (fun tq kt => ?_) ?_
            · show Steps p.tables e below (T103.setTop (mkF m 141 #[.val (.int p0), .val (.int p1), .val (.int p2), .val (.int p3), .val (.int (Int32.ofNat tn)), .val (.int (Int32.ofNat un)), .val (.int (Int32.ofNat sn)), .val (.int k84_0), .val (.int k86_0), .val (.int t0), .val (.int t1), .val (.int t2), .val (.int k91_0), .val (.int k95_0), .val (.int k99_0), .unset, .unset, .unset, .unset, .unset] [(.ref b103)])) _
              refine XS.astore X103.here hx rfl (hb hby at_141) rfl rfl (l' := #[.val (.int p0), .val (.int p1), .val (.int p2), .val (.int p3), .val (.int (Int32.ofNat tn)), .val (.int (Int32.ofNat un)), .val (.int (Int32.ofNat sn)), .val (.int k84_0), .val (.int k86_0), .val (.int t0), .val (.int t1), .val (.int t2), .val (.int k91_0), .val (.int k95_0), .val (.int k99_0), .val (.ref b103), .unset, .unset, .unset, .unset]) rfl ?_
              show Steps p.tables e below (T103.setTop (mkF m 143 #[.val (.int p0), .val (.int p1), .val (.int p2), .val (.int p3), .val (.int (Int32.ofNat tn)), .val (.int (Int32.ofNat un)), .val (.int (Int32.ofNat sn)), .val (.int k84_0), .val (.int k86_0), .val (.int t0), .val (.int t1), .val (.int t2), .val (.int k91_0), .val (.int k95_0), .val (.int k99_0), .val (.ref b103), .unset, .unset, .unset, .unset] [])) _
              refine XS.aload X103.here hx rfl (hb hby at_143) rfl rfl ?_
              show Steps p.tables e below (T103.setTop (mkF m 145 #[.val (.int p0), .val (.int p1), .val (.int p2), .val (.int p3), .val (.int (Int32.ofNat tn)), .val (.int (Int32.ofNat un)), .val (.int (Int32.ofNat sn)), .val (.int k84_0), .val (.int k86_0), .val (.int t0), .val (.int t1), .val (.int t2), .val (.int k91_0), .val (.int k95_0), .val (.int k99_0), .val (.ref b103), .unset, .unset, .unset, .unset] [(.ref b103)])) _
              refine XS.iconst X103.here hx rfl (hb hby at_145) ?_
              show Steps p.tables e below (T103.setTop (mkF m 146 #[.val (.int p0), .val (.int p1), .val (.int p2), .val (.int p3), .val (.int (Int32.ofNat tn)), .val (.int (Int32.ofNat un)), .val (.int (Int32.ofNat sn)), .val (.int k84_0), .val (.int k86_0), .val (.int t0), .val (.int t1), .val (.int t2), .val (.int k91_0), .val (.int k95_0), .val (.int k99_0), .val (.ref b103), .unset, .unset, .unset, .unset] [(.int (0 : Int32)), (.ref b103)])) _
              refine XS.iloadN X103.here hx rfl (hb hby at_146) rfl ?_
              show Steps p.tables e below (T103.setTop (mkF m 147 #[.val (.int p0), .val (.int p1), .val (.int p2), .val (.int p3), .val (.int (Int32.ofNat tn)), .val (.int (Int32.ofNat un)), .val (.int (Int32.ofNat sn)), .val (.int k84_0), .val (.int k86_0), .val (.int t0), .val (.int t1), .val (.int t2), .val (.int k91_0), .val (.int k95_0), .val (.int k99_0), .val (.ref b103), .unset, .unset, .unset, .unset] [(.int p3), (.int (0 : Int32)), (.ref b103)])) _
              refine XS.i2b X103.here hx rfl (hb hby at_147) rfl ?_
              exact kt
            obtain ⟨cl105, Ar105, q105, S105, M105, H105, G105⟩ := (id V103)
            have hin105 : ¬ ((0 : Int32) < 0 ∨ cl105.slots.size ≤ ((0 : Int32)).toNatClampNeg) := inb_of S105 ⟨by decide, by decide⟩
            obtain ⟨T105, h105, X105, e105, W105, st105⟩ := stB X103 hx hZ e103 Ar105 (j := (0 : Int32)) hin105 (g := (mkF m 148 #[.val (.int p0), .val (.int p1), .val (.int p2), .val (.int p3), .val (.int (Int32.ofNat tn)), .val (.int (Int32.ofNat un)), .val (.int (Int32.ofNat sn)), .val (.int k84_0), .val (.int k86_0), .val (.int t0), .val (.int t1), .val (.int t2), .val (.int k91_0), .val (.int k95_0), .val (.int k99_0), .val (.ref b103), .unset, .unset, .unset, .unset] [(.int (p3.toInt8.toInt32)), (.int (0 : Int32)), (.ref b103)])) rfl rfl (hb hby at_148)
            rw [narB] at W105
            have Z0_106 : n0 ≤ h105.size := (Nat.le_trans Z0_104 (Keep.of_wr W105).1)
            have V105 : Arv Z h105 b103 k103 .byte (7 : Int32) [(.int (p3.toInt8.toInt32)), (.int (0 : Int32)), (.int (0 : Int32)), (.int (0 : Int32)), (.int (0 : Int32)), (.int (0 : Int32)), (.int (0 : Int32))] (.int (0 : Int32)) := Arv.set Ar105 q105 S105 M105 H105 G105 (fits_nar_byte _) W105 0 rfl (Nat.le_of_ble_eq_true rfl)
            have N105 := Fr.snoc X105 N99 gn_b103
            refine GotW.step st105 ?_
            show GotW p e below s _ _ _ _ T105 (mkF m 149 #[.val (.int p0), .val (.int p1), .val (.int p2), .val (.int p3), .val (.int (Int32.ofNat tn)), .val (.int (Int32.ofNat un)), .val (.int (Int32.ofNat sn)), .val (.int k84_0), .val (.int k86_0), .val (.int t0), .val (.int t1), .val (.int t2), .val (.int k91_0), .val (.int k95_0), .val (.int k99_0), .val (.ref b103), .unset, .unset, .unset, .unset] [])
            refine GotW.step (T' := T105) (g' := (mkF m 157 #[.val (.int p0), .val (.int p1), .val (.int p2), .val (.int p3), .val (.int (Int32.ofNat tn)), .val (.int (Int32.ofNat un)), .val (.int (Int32.ofNat sn)), .val (.int k84_0), .val (.int k86_0), .val (.int t0), .val (.int t1), .val (.int t2), .val (.int k91_0), .val (.int k95_0), .val (.int k99_0), .val (.ref b103), .unset, .unset, .unset, .unset] [(.int (((p3.toUInt32 >>> ((8 : Int32) &&& 31).toUInt32).toInt32).toInt8.toInt32)), (.int (1 : Int32)), (.ref b103)])) (fun tq kt => ?_) ?_
            · show Steps p.tables e below (T105.setTop (mkF m 149 #[.val (.int p0), .val (.int p1), .val (.int p2), .val (.int p3), .val (.int (Int32.ofNat tn)), .val (.int (Int32.ofNat un)), .val (.int (Int32.ofNat sn)), .val (.int k84_0), .val (.int k86_0), .val (.int t0), .val (.int t1), .val (.int t2), .val (.int k91_0), .val (.int k95_0), .val (.int k99_0), .val (.ref b103), .unset, .unset, .unset, .unset] [])) _
              refine XS.aload X105.here hx rfl (hb hby at_149) rfl rfl ?_
              show Steps p.tables e below (T105.setTop (mkF m 151 #[.val (.int p0), .val (.int p1), .val (.int p2), .val (.int p3), .val (.int (Int32.ofNat tn)), .val (.int (Int32.ofNat un)), .val (.int (Int32.ofNat sn)), .val (.int k84_0), .val (.int k86_0), .val (.int t0), .val (.int t1), .val (.int t2), .val (.int k91_0), .val (.int k95_0), .val (.int k99_0), .val (.ref b103), .unset, .unset, .unset, .unset] [(.ref b103)])) _
              refine XS.iconst X105.here hx rfl (hb hby at_151) ?_
              show Steps p.tables e below (T105.setTop (mkF m 152 #[.val (.int p0), .val (.int p1), .val (.int p2), .val (.int p3), .val (.int (Int32.ofNat tn)), .val (.int (Int32.ofNat un)), .val (.int (Int32.ofNat sn)), .val (.int k84_0), .val (.int k86_0), .val (.int t0), .val (.int t1), .val (.int t2), .val (.int k91_0), .val (.int k95_0), .val (.int k99_0), .val (.ref b103), .unset, .unset, .unset, .unset] [(.int (1 : Int32)), (.ref b103)])) _
              refine XS.iloadN X105.here hx rfl (hb hby at_152) rfl ?_
              show Steps p.tables e below (T105.setTop (mkF m 153 #[.val (.int p0), .val (.int p1), .val (.int p2), .val (.int p3), .val (.int (Int32.ofNat tn)), .val (.int (Int32.ofNat un)), .val (.int (Int32.ofNat sn)), .val (.int k84_0), .val (.int k86_0), .val (.int t0), .val (.int t1), .val (.int t2), .val (.int k91_0), .val (.int k95_0), .val (.int k99_0), .val (.ref b103), .unset, .unset, .unset, .unset] [(.int p3), (.int (1 : Int32)), (.ref b103)])) _
              refine XS.bipush X105.here hx rfl (hb hby at_153) ?_
              show Steps p.tables e below (T105.setTop (mkF m 155 #[.val (.int p0), .val (.int p1), .val (.int p2), .val (.int p3), .val (.int (Int32.ofNat tn)), .val (.int (Int32.ofNat un)), .val (.int (Int32.ofNat sn)), .val (.int k84_0), .val (.int k86_0), .val (.int t0), .val (.int t1), .val (.int t2), .val (.int k91_0), .val (.int k95_0), .val (.int k99_0), .val (.ref b103), .unset, .unset, .unset, .unset] [(.int (8 : Int32)), (.int p3), (.int (1 : Int32)), (.ref b103)])) _
              refine XS.iushr X105.here hx rfl (hb hby at_155) rfl ?_
              show Steps p.tables e below (T105.setTop (mkF m 156 #[.val (.int p0), .val (.int p1), .val (.int p2), .val (.int p3), .val (.int (Int32.ofNat tn)), .val (.int (Int32.ofNat un)), .val (.int (Int32.ofNat sn)), .val (.int k84_0), .val (.int k86_0), .val (.int t0), .val (.int t1), .val (.int t2), .val (.int k91_0), .val (.int k95_0), .val (.int k99_0), .val (.ref b103), .unset, .unset, .unset, .unset] [(.int ((p3.toUInt32 >>> ((8 : Int32) &&& 31).toUInt32).toInt32)), (.int (1 : Int32)), (.ref b103)])) _
              refine XS.i2b X105.here hx rfl (hb hby at_156) rfl ?_
              exact kt
            obtain ⟨cl107, Ar107, q107, S107, M107, H107, G107⟩ := (id V105)
            have hin107 : ¬ ((1 : Int32) < 0 ∨ cl107.slots.size ≤ ((1 : Int32)).toNatClampNeg) := inb_of S107 ⟨by decide, by decide⟩
            obtain ⟨T107, h107, X107, e107, W107, st107⟩ := stB X105 hx hZ e105 Ar107 (j := (1 : Int32)) hin107 (g := (mkF m 157 #[.val (.int p0), .val (.int p1), .val (.int p2), .val (.int p3), .val (.int (Int32.ofNat tn)), .val (.int (Int32.ofNat un)), .val (.int (Int32.ofNat sn)), .val (.int k84_0), .val (.int k86_0), .val (.int t0), .val (.int t1), .val (.int t2), .val (.int k91_0), .val (.int k95_0), .val (.int k99_0), .val (.ref b103), .unset, .unset, .unset, .unset] [(.int (((p3.toUInt32 >>> ((8 : Int32) &&& 31).toUInt32).toInt32).toInt8.toInt32)), (.int (1 : Int32)), (.ref b103)])) rfl rfl (hb hby at_157)
            rw [narB] at W107
            have Z0_108 : n0 ≤ h107.size := (Nat.le_trans Z0_106 (Keep.of_wr W107).1)
            have V107 : Arv Z h107 b103 k103 .byte (7 : Int32) [(.int (p3.toInt8.toInt32)), (.int (((p3.toUInt32 >>> ((8 : Int32) &&& 31).toUInt32).toInt32).toInt8.toInt32)), (.int (0 : Int32)), (.int (0 : Int32)), (.int (0 : Int32)), (.int (0 : Int32)), (.int (0 : Int32))] (.int (0 : Int32)) := Arv.set Ar107 q107 S107 M107 H107 G107 (fits_nar_byte _) W107 1 rfl (Nat.le_of_ble_eq_true rfl)
            have N107 := Fr.snoc X107 N105 gn_b103
            refine GotW.step st107 ?_
            show GotW p e below s _ _ _ _ T107 (mkF m 158 #[.val (.int p0), .val (.int p1), .val (.int p2), .val (.int p3), .val (.int (Int32.ofNat tn)), .val (.int (Int32.ofNat un)), .val (.int (Int32.ofNat sn)), .val (.int k84_0), .val (.int k86_0), .val (.int t0), .val (.int t1), .val (.int t2), .val (.int k91_0), .val (.int k95_0), .val (.int k99_0), .val (.ref b103), .unset, .unset, .unset, .unset] [])
            refine GotW.step (T' := T107) (g' := (mkF m 166 #[.val (.int p0), .val (.int p1), .val (.int p2), .val (.int p3), .val (.int (Int32.ofNat tn)), .val (.int (Int32.ofNat un)), .val (.int (Int32.ofNat sn)), .val (.int k84_0), .val (.int k86_0), .val (.int t0), .val (.int t1), .val (.int t2), .val (.int k91_0), .val (.int k95_0), .val (.int k99_0), .val (.ref b103), .unset, .unset, .unset, .unset] [(.int (((p3.toUInt32 >>> ((16 : Int32) &&& 31).toUInt32).toInt32).toInt8.toInt32)), (.int (2 : Int32)), (.ref b103)])) (fun tq kt => ?_) ?_
            · show Steps p.tables e below (T107.setTop (mkF m 158 #[.val (.int p0), .val (.int p1), .val (.int p2), .val (.int p3), .val (.int (Int32.ofNat tn)), .val (.int (Int32.ofNat un)), .val (.int (Int32.ofNat sn)), .val (.int k84_0), .val (.int k86_0), .val (.int t0), .val (.int t1), .val (.int t2), .val (.int k91_0), .val (.int k95_0), .val (.int k99_0), .val (.ref b103), .unset, .unset, .unset, .unset] [])) _
              refine XS.aload X107.here hx rfl (hb hby at_158) rfl rfl ?_
              show Steps p.tables e below (T107.setTop (mkF m 160 #[.val (.int p0), .val (.int p1), .val (.int p2), .val (.int p3), .val (.int (Int32.ofNat tn)), .val (.int (Int32.ofNat un)), .val (.int (Int32.ofNat sn)), .val (.int k84_0), .val (.int k86_0), .val (.int t0), .val (.int t1), .val (.int t2), .val (.int k91_0), .val (.int k95_0), .val (.int k99_0), .val (.ref b103), .unset, .unset, .unset, .unset] [(.ref b103)])) _
              refine XS.iconst X107.here hx rfl (hb hby at_160) ?_
              show Steps p.tables e below (T107.setTop (mkF m 161 #[.val (.int p0), .val (.int p1), .val (.int p2), .val (.int p3), .val (.int (Int32.ofNat tn)), .val (.int (Int32.ofNat un)), .val (.int (Int32.ofNat sn)), .val (.int k84_0), .val (.int k86_0), .val (.int t0), .val (.int t1), .val (.int t2), .val (.int k91_0), .val (.int k95_0), .val (.int k99_0), .val (.ref b103), .unset, .unset, .unset, .unset] [(.int (2 : Int32)), (.ref b103)])) _
              refine XS.iloadN X107.here hx rfl (hb hby at_161) rfl ?_
              show Steps p.tables e below (T107.setTop (mkF m 162 #[.val (.int p0), .val (.int p1), .val (.int p2), .val (.int p3), .val (.int (Int32.ofNat tn)), .val (.int (Int32.ofNat un)), .val (.int (Int32.ofNat sn)), .val (.int k84_0), .val (.int k86_0), .val (.int t0), .val (.int t1), .val (.int t2), .val (.int k91_0), .val (.int k95_0), .val (.int k99_0), .val (.ref b103), .unset, .unset, .unset, .unset] [(.int p3), (.int (2 : Int32)), (.ref b103)])) _
              refine XS.bipush X107.here hx rfl (hb hby at_162) ?_
              show Steps p.tables e below (T107.setTop (mkF m 164 #[.val (.int p0), .val (.int p1), .val (.int p2), .val (.int p3), .val (.int (Int32.ofNat tn)), .val (.int (Int32.ofNat un)), .val (.int (Int32.ofNat sn)), .val (.int k84_0), .val (.int k86_0), .val (.int t0), .val (.int t1), .val (.int t2), .val (.int k91_0), .val (.int k95_0), .val (.int k99_0), .val (.ref b103), .unset, .unset, .unset, .unset] [(.int (16 : Int32)), (.int p3), (.int (2 : Int32)), (.ref b103)])) _
              refine XS.iushr X107.here hx rfl (hb hby at_164) rfl ?_
              show Steps p.tables e below (T107.setTop (mkF m 165 #[.val (.int p0), .val (.int p1), .val (.int p2), .val (.int p3), .val (.int (Int32.ofNat tn)), .val (.int (Int32.ofNat un)), .val (.int (Int32.ofNat sn)), .val (.int k84_0), .val (.int k86_0), .val (.int t0), .val (.int t1), .val (.int t2), .val (.int k91_0), .val (.int k95_0), .val (.int k99_0), .val (.ref b103), .unset, .unset, .unset, .unset] [(.int ((p3.toUInt32 >>> ((16 : Int32) &&& 31).toUInt32).toInt32)), (.int (2 : Int32)), (.ref b103)])) _
              refine XS.i2b X107.here hx rfl (hb hby at_165) rfl ?_
              exact kt
            obtain ⟨cl109, Ar109, q109, S109, M109, H109, G109⟩ := (id V107)
            have hin109 : ¬ ((2 : Int32) < 0 ∨ cl109.slots.size ≤ ((2 : Int32)).toNatClampNeg) := inb_of S109 ⟨by decide, by decide⟩
            obtain ⟨T109, h109, X109, e109, W109, st109⟩ := stB X107 hx hZ e107 Ar109 (j := (2 : Int32)) hin109 (g := (mkF m 166 #[.val (.int p0), .val (.int p1), .val (.int p2), .val (.int p3), .val (.int (Int32.ofNat tn)), .val (.int (Int32.ofNat un)), .val (.int (Int32.ofNat sn)), .val (.int k84_0), .val (.int k86_0), .val (.int t0), .val (.int t1), .val (.int t2), .val (.int k91_0), .val (.int k95_0), .val (.int k99_0), .val (.ref b103), .unset, .unset, .unset, .unset] [(.int (((p3.toUInt32 >>> ((16 : Int32) &&& 31).toUInt32).toInt32).toInt8.toInt32)), (.int (2 : Int32)), (.ref b103)])) rfl rfl (hb hby at_166)
            rw [narB] at W109
            have Z0_110 : n0 ≤ h109.size := (Nat.le_trans Z0_108 (Keep.of_wr W109).1)
            have V109 : Arv Z h109 b103 k103 .byte (7 : Int32) [(.int (p3.toInt8.toInt32)), (.int (((p3.toUInt32 >>> ((8 : Int32) &&& 31).toUInt32).toInt32).toInt8.toInt32)), (.int (((p3.toUInt32 >>> ((16 : Int32) &&& 31).toUInt32).toInt32).toInt8.toInt32)), (.int (0 : Int32)), (.int (0 : Int32)), (.int (0 : Int32)), (.int (0 : Int32))] (.int (0 : Int32)) := Arv.set Ar109 q109 S109 M109 H109 G109 (fits_nar_byte _) W109 2 rfl (Nat.le_of_ble_eq_true rfl)
            have N109 := Fr.snoc X109 N107 gn_b103
            refine GotW.step st109 ?_
            show GotW p e below s _ _ _ _ T109 (mkF m 167 #[.val (.int p0), .val (.int p1), .val (.int p2), .val (.int p3), .val (.int (Int32.ofNat tn)), .val (.int (Int32.ofNat un)), .val (.int (Int32.ofNat sn)), .val (.int k84_0), .val (.int k86_0), .val (.int t0), .val (.int t1), .val (.int t2), .val (.int k91_0), .val (.int k95_0), .val (.int k99_0), .val (.ref b103), .unset, .unset, .unset, .unset] [])
            refine GotW.step (T' := T109) (g' := (mkF m 175 #[.val (.int p0), .val (.int p1), .val (.int p2), .val (.int p3), .val (.int (Int32.ofNat tn)), .val (.int (Int32.ofNat un)), .val (.int (Int32.ofNat sn)), .val (.int k84_0), .val (.int k86_0), .val (.int t0), .val (.int t1), .val (.int t2), .val (.int k91_0), .val (.int k95_0), .val (.int k99_0), .val (.ref b103), .unset, .unset, .unset, .unset] [(.int (((p3.toUInt32 >>> ((24 : Int32) &&& 31).toUInt32).toInt32).toInt8.toInt32)), (.int (3 : Int32)), (.ref b103)])) (fun tq kt => ?_) ?_
            · show Steps p.tables e below (T109.setTop (mkF m 167 #[.val (.int p0), .val (.int p1), .val (.int p2), .val (.int p3), .val (.int (Int32.ofNat tn)), .val (.int (Int32.ofNat un)), .val (.int (Int32.ofNat sn)), .val (.int k84_0), .val (.int k86_0), .val (.int t0), .val (.int t1), .val (.int t2), .val (.int k91_0), .val (.int k95_0), .val (.int k99_0), .val (.ref b103), .unset, .unset, .unset, .unset] [])) _
              refine XS.aload X109.here hx rfl (hb hby at_167) rfl rfl ?_
              show Steps p.tables e below (T109.setTop (mkF m 169 #[.val (.int p0), .val (.int p1), .val (.int p2), .val (.int p3), .val (.int (Int32.ofNat tn)), .val (.int (Int32.ofNat un)), .val (.int (Int32.ofNat sn)), .val (.int k84_0), .val (.int k86_0), .val (.int t0), .val (.int t1), .val (.int t2), .val (.int k91_0), .val (.int k95_0), .val (.int k99_0), .val (.ref b103), .unset, .unset, .unset, .unset] [(.ref b103)])) _
              refine XS.iconst X109.here hx rfl (hb hby at_169) ?_
              show Steps p.tables e below (T109.setTop (mkF m 170 #[.val (.int p0), .val (.int p1), .val (.int p2), .val (.int p3), .val (.int (Int32.ofNat tn)), .val (.int (Int32.ofNat un)), .val (.int (Int32.ofNat sn)), .val (.int k84_0), .val (.int k86_0), .val (.int t0), .val (.int t1), .val (.int t2), .val (.int k91_0), .val (.int k95_0), .val (.int k99_0), .val (.ref b103), .unset, .unset, .unset, .unset] [(.int (3 : Int32)), (.ref b103)])) _
              refine XS.iloadN X109.here hx rfl (hb hby at_170) rfl ?_
              show Steps p.tables e below (T109.setTop (mkF m 171 #[.val (.int p0), .val (.int p1), .val (.int p2), .val (.int p3), .val (.int (Int32.ofNat tn)), .val (.int (Int32.ofNat un)), .val (.int (Int32.ofNat sn)), .val (.int k84_0), .val (.int k86_0), .val (.int t0), .val (.int t1), .val (.int t2), .val (.int k91_0), .val (.int k95_0), .val (.int k99_0), .val (.ref b103), .unset, .unset, .unset, .unset] [(.int p3), (.int (3 : Int32)), (.ref b103)])) _
              refine XS.bipush X109.here hx rfl (hb hby at_171) ?_
              show Steps p.tables e below (T109.setTop (mkF m 173 #[.val (.int p0), .val (.int p1), .val (.int p2), .val (.int p3), .val (.int (Int32.ofNat tn)), .val (.int (Int32.ofNat un)), .val (.int (Int32.ofNat sn)), .val (.int k84_0), .val (.int k86_0), .val (.int t0), .val (.int t1), .val (.int t2), .val (.int k91_0), .val (.int k95_0), .val (.int k99_0), .val (.ref b103), .unset, .unset, .unset, .unset] [(.int (24 : Int32)), (.int p3), (.int (3 : Int32)), (.ref b103)])) _
              refine XS.iushr X109.here hx rfl (hb hby at_173) rfl ?_
              show Steps p.tables e below (T109.setTop (mkF m 174 #[.val (.int p0), .val (.int p1), .val (.int p2), .val (.int p3), .val (.int (Int32.ofNat tn)), .val (.int (Int32.ofNat un)), .val (.int (Int32.ofNat sn)), .val (.int k84_0), .val (.int k86_0), .val (.int t0), .val (.int t1), .val (.int t2), .val (.int k91_0), .val (.int k95_0), .val (.int k99_0), .val (.ref b103), .unset, .unset, .unset, .unset] [(.int ((p3.toUInt32 >>> ((24 : Int32) &&& 31).toUInt32).toInt32)), (.int (3 : Int32)), (.ref b103)])) _
              refine XS.i2b X109.here hx rfl (hb hby at_174) rfl ?_
              exact kt
            obtain ⟨cl111, Ar111, q111, S111, M111, H111, G111⟩ := (id V109)
            have hin111 : ¬ ((3 : Int32) < 0 ∨ cl111.slots.size ≤ ((3 : Int32)).toNatClampNeg) := inb_of S111 ⟨by decide, by decide⟩
            obtain ⟨T111, h111, X111, e111, W111, st111⟩ := stB X109 hx hZ e109 Ar111 (j := (3 : Int32)) hin111 (g := (mkF m 175 #[.val (.int p0), .val (.int p1), .val (.int p2), .val (.int p3), .val (.int (Int32.ofNat tn)), .val (.int (Int32.ofNat un)), .val (.int (Int32.ofNat sn)), .val (.int k84_0), .val (.int k86_0), .val (.int t0), .val (.int t1), .val (.int t2), .val (.int k91_0), .val (.int k95_0), .val (.int k99_0), .val (.ref b103), .unset, .unset, .unset, .unset] [(.int (((p3.toUInt32 >>> ((24 : Int32) &&& 31).toUInt32).toInt32).toInt8.toInt32)), (.int (3 : Int32)), (.ref b103)])) rfl rfl (hb hby at_175)
            rw [narB] at W111
            have Z0_112 : n0 ≤ h111.size := (Nat.le_trans Z0_110 (Keep.of_wr W111).1)
            have V111 : Arv Z h111 b103 k103 .byte (7 : Int32) [(.int (p3.toInt8.toInt32)), (.int (((p3.toUInt32 >>> ((8 : Int32) &&& 31).toUInt32).toInt32).toInt8.toInt32)), (.int (((p3.toUInt32 >>> ((16 : Int32) &&& 31).toUInt32).toInt32).toInt8.toInt32)), (.int (((p3.toUInt32 >>> ((24 : Int32) &&& 31).toUInt32).toInt32).toInt8.toInt32)), (.int (0 : Int32)), (.int (0 : Int32)), (.int (0 : Int32))] (.int (0 : Int32)) := Arv.set Ar111 q111 S111 M111 H111 G111 (fits_nar_byte _) W111 3 rfl (Nat.le_of_ble_eq_true rfl)
            have N111 := Fr.snoc X111 N109 gn_b103
            refine GotW.step st111 ?_
            show GotW p e below s _ _ _ _ T111 (mkF m 176 #[.val (.int p0), .val (.int p1), .val (.int p2), .val (.int p3), .val (.int (Int32.ofNat tn)), .val (.int (Int32.ofNat un)), .val (.int (Int32.ofNat sn)), .val (.int k84_0), .val (.int k86_0), .val (.int t0), .val (.int t1), .val (.int t2), .val (.int k91_0), .val (.int k95_0), .val (.int k99_0), .val (.ref b103), .unset, .unset, .unset, .unset] [])
            refine GotW.step (T' := T111) (g' := (mkF m 183 #[.val (.int p0), .val (.int p1), .val (.int p2), .val (.int p3), .val (.int (Int32.ofNat tn)), .val (.int (Int32.ofNat un)), .val (.int (Int32.ofNat sn)), .val (.int k84_0), .val (.int k86_0), .val (.int t0), .val (.int t1), .val (.int t2), .val (.int k91_0), .val (.int k95_0), .val (.int k99_0), .val (.ref b103), .unset, .unset, .unset, .unset] [(.int (((p3.toUInt32 >>> ((4 : Int32) &&& 31).toUInt32).toInt32).toInt8.toInt32)), (.int (4 : Int32)), (.ref b103)])) (fun tq kt => ?_) ?_
            · show Steps p.tables e below (T111.setTop (mkF m 176 #[.val (.int p0), .val (.int p1), .val (.int p2), .val (.int p3), .val (.int (Int32.ofNat tn)), .val (.int (Int32.ofNat un)), .val (.int (Int32.ofNat sn)), .val (.int k84_0), .val (.int k86_0), .val (.int t0), .val (.int t1), .val (.int t2), .val (.int k91_0), .val (.int k95_0), .val (.int k99_0), .val (.ref b103), .unset, .unset, .unset, .unset] [])) _
              refine XS.aload X111.here hx rfl (hb hby at_176) rfl rfl ?_
              show Steps p.tables e below (T111.setTop (mkF m 178 #[.val (.int p0), .val (.int p1), .val (.int p2), .val (.int p3), .val (.int (Int32.ofNat tn)), .val (.int (Int32.ofNat un)), .val (.int (Int32.ofNat sn)), .val (.int k84_0), .val (.int k86_0), .val (.int t0), .val (.int t1), .val (.int t2), .val (.int k91_0), .val (.int k95_0), .val (.int k99_0), .val (.ref b103), .unset, .unset, .unset, .unset] [(.ref b103)])) _
              refine XS.iconst X111.here hx rfl (hb hby at_178) ?_
              show Steps p.tables e below (T111.setTop (mkF m 179 #[.val (.int p0), .val (.int p1), .val (.int p2), .val (.int p3), .val (.int (Int32.ofNat tn)), .val (.int (Int32.ofNat un)), .val (.int (Int32.ofNat sn)), .val (.int k84_0), .val (.int k86_0), .val (.int t0), .val (.int t1), .val (.int t2), .val (.int k91_0), .val (.int k95_0), .val (.int k99_0), .val (.ref b103), .unset, .unset, .unset, .unset] [(.int (4 : Int32)), (.ref b103)])) _
              refine XS.iloadN X111.here hx rfl (hb hby at_179) rfl ?_
              show Steps p.tables e below (T111.setTop (mkF m 180 #[.val (.int p0), .val (.int p1), .val (.int p2), .val (.int p3), .val (.int (Int32.ofNat tn)), .val (.int (Int32.ofNat un)), .val (.int (Int32.ofNat sn)), .val (.int k84_0), .val (.int k86_0), .val (.int t0), .val (.int t1), .val (.int t2), .val (.int k91_0), .val (.int k95_0), .val (.int k99_0), .val (.ref b103), .unset, .unset, .unset, .unset] [(.int p3), (.int (4 : Int32)), (.ref b103)])) _
              refine XS.iconst X111.here hx rfl (hb hby at_180) ?_
              show Steps p.tables e below (T111.setTop (mkF m 181 #[.val (.int p0), .val (.int p1), .val (.int p2), .val (.int p3), .val (.int (Int32.ofNat tn)), .val (.int (Int32.ofNat un)), .val (.int (Int32.ofNat sn)), .val (.int k84_0), .val (.int k86_0), .val (.int t0), .val (.int t1), .val (.int t2), .val (.int k91_0), .val (.int k95_0), .val (.int k99_0), .val (.ref b103), .unset, .unset, .unset, .unset] [(.int (4 : Int32)), (.int p3), (.int (4 : Int32)), (.ref b103)])) _
              refine XS.iushr X111.here hx rfl (hb hby at_181) rfl ?_
              show Steps p.tables e below (T111.setTop (mkF m 182 #[.val (.int p0), .val (.int p1), .val (.int p2), .val (.int p3), .val (.int (Int32.ofNat tn)), .val (.int (Int32.ofNat un)), .val (.int (Int32.ofNat sn)), .val (.int k84_0), .val (.int k86_0), .val (.int t0), .val (.int t1), .val (.int t2), .val (.int k91_0), .val (.int k95_0), .val (.int k99_0), .val (.ref b103), .unset, .unset, .unset, .unset] [(.int ((p3.toUInt32 >>> ((4 : Int32) &&& 31).toUInt32).toInt32)), (.int (4 : Int32)), (.ref b103)])) _
              refine XS.i2b X111.here hx rfl (hb hby at_182) rfl ?_
              exact kt
            obtain ⟨cl113, Ar113, q113, S113, M113, H113, G113⟩ := (id V111)
            have hin113 : ¬ ((4 : Int32) < 0 ∨ cl113.slots.size ≤ ((4 : Int32)).toNatClampNeg) := inb_of S113 ⟨by decide, by decide⟩
            obtain ⟨T113, h113, X113, e113, W113, st113⟩ := stB X111 hx hZ e111 Ar113 (j := (4 : Int32)) hin113 (g := (mkF m 183 #[.val (.int p0), .val (.int p1), .val (.int p2), .val (.int p3), .val (.int (Int32.ofNat tn)), .val (.int (Int32.ofNat un)), .val (.int (Int32.ofNat sn)), .val (.int k84_0), .val (.int k86_0), .val (.int t0), .val (.int t1), .val (.int t2), .val (.int k91_0), .val (.int k95_0), .val (.int k99_0), .val (.ref b103), .unset, .unset, .unset, .unset] [(.int (((p3.toUInt32 >>> ((4 : Int32) &&& 31).toUInt32).toInt32).toInt8.toInt32)), (.int (4 : Int32)), (.ref b103)])) rfl rfl (hb hby at_183)
            rw [narB] at W113
            have Z0_114 : n0 ≤ h113.size := (Nat.le_trans Z0_112 (Keep.of_wr W113).1)
            have V113 : Arv Z h113 b103 k103 .byte (7 : Int32) [(.int (p3.toInt8.toInt32)), (.int (((p3.toUInt32 >>> ((8 : Int32) &&& 31).toUInt32).toInt32).toInt8.toInt32)), (.int (((p3.toUInt32 >>> ((16 : Int32) &&& 31).toUInt32).toInt32).toInt8.toInt32)), (.int (((p3.toUInt32 >>> ((24 : Int32) &&& 31).toUInt32).toInt32).toInt8.toInt32)), (.int (((p3.toUInt32 >>> ((4 : Int32) &&& 31).toUInt32).toInt32).toInt8.toInt32)), (.int (0 : Int32)), (.int (0 : Int32))] (.int (0 : Int32)) := Arv.set Ar113 q113 S113 M113 H113 G113 (fits_nar_byte _) W113 4 rfl (Nat.le_of_ble_eq_true rfl)
            have N113 := Fr.snoc X113 N111 gn_b103
            refine GotW.step st113 ?_
            show GotW p e below s _ _ _ _ T113 (mkF m 184 #[.val (.int p0), .val (.int p1), .val (.int p2), .val (.int p3), .val (.int (Int32.ofNat tn)), .val (.int (Int32.ofNat un)), .val (.int (Int32.ofNat sn)), .val (.int k84_0), .val (.int k86_0), .val (.int t0), .val (.int t1), .val (.int t2), .val (.int k91_0), .val (.int k95_0), .val (.int k99_0), .val (.ref b103), .unset, .unset, .unset, .unset] [])
            refine GotW.step (T' := T113) (g' := (mkF m 192 #[.val (.int p0), .val (.int p1), .val (.int p2), .val (.int p3), .val (.int (Int32.ofNat tn)), .val (.int (Int32.ofNat un)), .val (.int (Int32.ofNat sn)), .val (.int k84_0), .val (.int k86_0), .val (.int t0), .val (.int t1), .val (.int t2), .val (.int k91_0), .val (.int k95_0), .val (.int k99_0), .val (.ref b103), .unset, .unset, .unset, .unset] [(.int (((p3.toUInt32 >>> ((12 : Int32) &&& 31).toUInt32).toInt32).toInt8.toInt32)), (.int (5 : Int32)), (.ref b103)])) (fun tq kt => ?_) ?_
            · show Steps p.tables e below (T113.setTop (mkF m 184 #[.val (.int p0), .val (.int p1), .val (.int p2), .val (.int p3), .val (.int (Int32.ofNat tn)), .val (.int (Int32.ofNat un)), .val (.int (Int32.ofNat sn)), .val (.int k84_0), .val (.int k86_0), .val (.int t0), .val (.int t1), .val (.int t2), .val (.int k91_0), .val (.int k95_0), .val (.int k99_0), .val (.ref b103), .unset, .unset, .unset, .unset] [])) _
              refine XS.aload X113.here hx rfl (hb hby at_184) rfl rfl ?_
              show Steps p.tables e below (T113.setTop (mkF m 186 #[.val (.int p0), .val (.int p1), .val (.int p2), .val (.int p3), .val (.int (Int32.ofNat tn)), .val (.int (Int32.ofNat un)), .val (.int (Int32.ofNat sn)), .val (.int k84_0), .val (.int k86_0), .val (.int t0), .val (.int t1), .val (.int t2), .val (.int k91_0), .val (.int k95_0), .val (.int k99_0), .val (.ref b103), .unset, .unset, .unset, .unset] [(.ref b103)])) _
              refine XS.iconst X113.here hx rfl (hb hby at_186) ?_
              show Steps p.tables e below (T113.setTop (mkF m 187 #[.val (.int p0), .val (.int p1), .val (.int p2), .val (.int p3), .val (.int (Int32.ofNat tn)), .val (.int (Int32.ofNat un)), .val (.int (Int32.ofNat sn)), .val (.int k84_0), .val (.int k86_0), .val (.int t0), .val (.int t1), .val (.int t2), .val (.int k91_0), .val (.int k95_0), .val (.int k99_0), .val (.ref b103), .unset, .unset, .unset, .unset] [(.int (5 : Int32)), (.ref b103)])) _
              refine XS.iloadN X113.here hx rfl (hb hby at_187) rfl ?_
              show Steps p.tables e below (T113.setTop (mkF m 188 #[.val (.int p0), .val (.int p1), .val (.int p2), .val (.int p3), .val (.int (Int32.ofNat tn)), .val (.int (Int32.ofNat un)), .val (.int (Int32.ofNat sn)), .val (.int k84_0), .val (.int k86_0), .val (.int t0), .val (.int t1), .val (.int t2), .val (.int k91_0), .val (.int k95_0), .val (.int k99_0), .val (.ref b103), .unset, .unset, .unset, .unset] [(.int p3), (.int (5 : Int32)), (.ref b103)])) _
              refine XS.bipush X113.here hx rfl (hb hby at_188) ?_
              show Steps p.tables e below (T113.setTop (mkF m 190 #[.val (.int p0), .val (.int p1), .val (.int p2), .val (.int p3), .val (.int (Int32.ofNat tn)), .val (.int (Int32.ofNat un)), .val (.int (Int32.ofNat sn)), .val (.int k84_0), .val (.int k86_0), .val (.int t0), .val (.int t1), .val (.int t2), .val (.int k91_0), .val (.int k95_0), .val (.int k99_0), .val (.ref b103), .unset, .unset, .unset, .unset] [(.int (12 : Int32)), (.int p3), (.int (5 : Int32)), (.ref b103)])) _
              refine XS.iushr X113.here hx rfl (hb hby at_190) rfl ?_
              show Steps p.tables e below (T113.setTop (mkF m 191 #[.val (.int p0), .val (.int p1), .val (.int p2), .val (.int p3), .val (.int (Int32.ofNat tn)), .val (.int (Int32.ofNat un)), .val (.int (Int32.ofNat sn)), .val (.int k84_0), .val (.int k86_0), .val (.int t0), .val (.int t1), .val (.int t2), .val (.int k91_0), .val (.int k95_0), .val (.int k99_0), .val (.ref b103), .unset, .unset, .unset, .unset] [(.int ((p3.toUInt32 >>> ((12 : Int32) &&& 31).toUInt32).toInt32)), (.int (5 : Int32)), (.ref b103)])) _
              refine XS.i2b X113.here hx rfl (hb hby at_191) rfl ?_
              exact kt
            obtain ⟨cl115, Ar115, q115, S115, M115, H115, G115⟩ := (id V113)
            have hin115 : ¬ ((5 : Int32) < 0 ∨ cl115.slots.size ≤ ((5 : Int32)).toNatClampNeg) := inb_of S115 ⟨by decide, by decide⟩
            obtain ⟨T115, h115, X115, e115, W115, st115⟩ := stB X113 hx hZ e113 Ar115 (j := (5 : Int32)) hin115 (g := (mkF m 192 #[.val (.int p0), .val (.int p1), .val (.int p2), .val (.int p3), .val (.int (Int32.ofNat tn)), .val (.int (Int32.ofNat un)), .val (.int (Int32.ofNat sn)), .val (.int k84_0), .val (.int k86_0), .val (.int t0), .val (.int t1), .val (.int t2), .val (.int k91_0), .val (.int k95_0), .val (.int k99_0), .val (.ref b103), .unset, .unset, .unset, .unset] [(.int (((p3.toUInt32 >>> ((12 : Int32) &&& 31).toUInt32).toInt32).toInt8.toInt32)), (.int (5 : Int32)), (.ref b103)])) rfl rfl (hb hby at_192)
            rw [narB] at W115
            have Z0_116 : n0 ≤ h115.size := (Nat.le_trans Z0_114 (Keep.of_wr W115).1)
            have V115 : Arv Z h115 b103 k103 .byte (7 : Int32) [(.int (p3.toInt8.toInt32)), (.int (((p3.toUInt32 >>> ((8 : Int32) &&& 31).toUInt32).toInt32).toInt8.toInt32)), (.int (((p3.toUInt32 >>> ((16 : Int32) &&& 31).toUInt32).toInt32).toInt8.toInt32)), (.int (((p3.toUInt32 >>> ((24 : Int32) &&& 31).toUInt32).toInt32).toInt8.toInt32)), (.int (((p3.toUInt32 >>> ((4 : Int32) &&& 31).toUInt32).toInt32).toInt8.toInt32)), (.int (((p3.toUInt32 >>> ((12 : Int32) &&& 31).toUInt32).toInt32).toInt8.toInt32)), (.int (0 : Int32))] (.int (0 : Int32)) := Arv.set Ar115 q115 S115 M115 H115 G115 (fits_nar_byte _) W115 5 rfl (Nat.le_of_ble_eq_true rfl)
            have N115 := Fr.snoc X115 N113 gn_b103
            refine GotW.step st115 ?_
            show GotW p e below s _ _ _ _ T115 (mkF m 193 #[.val (.int p0), .val (.int p1), .val (.int p2), .val (.int p3), .val (.int (Int32.ofNat tn)), .val (.int (Int32.ofNat un)), .val (.int (Int32.ofNat sn)), .val (.int k84_0), .val (.int k86_0), .val (.int t0), .val (.int t1), .val (.int t2), .val (.int k91_0), .val (.int k95_0), .val (.int k99_0), .val (.ref b103), .unset, .unset, .unset, .unset] [])
            refine GotW.step (T' := T115) (g' := (mkF m 202 #[.val (.int p0), .val (.int p1), .val (.int p2), .val (.int p3), .val (.int (Int32.ofNat tn)), .val (.int (Int32.ofNat un)), .val (.int (Int32.ofNat sn)), .val (.int k84_0), .val (.int k86_0), .val (.int t0), .val (.int t1), .val (.int t2), .val (.int k91_0), .val (.int k95_0), .val (.int k99_0), .val (.ref b103), .unset, .unset, .unset, .unset] [(.int (((p3.toUInt32 >>> ((20 : Int32) &&& 31).toUInt32).toInt32).toInt8.toInt32)), (.int (6 : Int32)), (.ref b103)])) (fun tq kt => ?_) ?_
            · show Steps p.tables e below (T115.setTop (mkF m 193 #[.val (.int p0), .val (.int p1), .val (.int p2), .val (.int p3), .val (.int (Int32.ofNat tn)), .val (.int (Int32.ofNat un)), .val (.int (Int32.ofNat sn)), .val (.int k84_0), .val (.int k86_0), .val (.int t0), .val (.int t1), .val (.int t2), .val (.int k91_0), .val (.int k95_0), .val (.int k99_0), .val (.ref b103), .unset, .unset, .unset, .unset] [])) _
              refine XS.aload X115.here hx rfl (hb hby at_193) rfl rfl ?_
              show Steps p.tables e below (T115.setTop (mkF m 195 #[.val (.int p0), .val (.int p1), .val (.int p2), .val (.int p3), .val (.int (Int32.ofNat tn)), .val (.int (Int32.ofNat un)), .val (.int (Int32.ofNat sn)), .val (.int k84_0), .val (.int k86_0), .val (.int t0), .val (.int t1), .val (.int t2), .val (.int k91_0), .val (.int k95_0), .val (.int k99_0), .val (.ref b103), .unset, .unset, .unset, .unset] [(.ref b103)])) _
              refine XS.bipush X115.here hx rfl (hb hby at_195) ?_
              show Steps p.tables e below (T115.setTop (mkF m 197 #[.val (.int p0), .val (.int p1), .val (.int p2), .val (.int p3), .val (.int (Int32.ofNat tn)), .val (.int (Int32.ofNat un)), .val (.int (Int32.ofNat sn)), .val (.int k84_0), .val (.int k86_0), .val (.int t0), .val (.int t1), .val (.int t2), .val (.int k91_0), .val (.int k95_0), .val (.int k99_0), .val (.ref b103), .unset, .unset, .unset, .unset] [(.int (6 : Int32)), (.ref b103)])) _
              refine XS.iloadN X115.here hx rfl (hb hby at_197) rfl ?_
              show Steps p.tables e below (T115.setTop (mkF m 198 #[.val (.int p0), .val (.int p1), .val (.int p2), .val (.int p3), .val (.int (Int32.ofNat tn)), .val (.int (Int32.ofNat un)), .val (.int (Int32.ofNat sn)), .val (.int k84_0), .val (.int k86_0), .val (.int t0), .val (.int t1), .val (.int t2), .val (.int k91_0), .val (.int k95_0), .val (.int k99_0), .val (.ref b103), .unset, .unset, .unset, .unset] [(.int p3), (.int (6 : Int32)), (.ref b103)])) _
              refine XS.bipush X115.here hx rfl (hb hby at_198) ?_
              show Steps p.tables e below (T115.setTop (mkF m 200 #[.val (.int p0), .val (.int p1), .val (.int p2), .val (.int p3), .val (.int (Int32.ofNat tn)), .val (.int (Int32.ofNat un)), .val (.int (Int32.ofNat sn)), .val (.int k84_0), .val (.int k86_0), .val (.int t0), .val (.int t1), .val (.int t2), .val (.int k91_0), .val (.int k95_0), .val (.int k99_0), .val (.ref b103), .unset, .unset, .unset, .unset] [(.int (20 : Int32)), (.int p3), (.int (6 : Int32)), (.ref b103)])) _
              refine XS.iushr X115.here hx rfl (hb hby at_200) rfl ?_
              show Steps p.tables e below (T115.setTop (mkF m 201 #[.val (.int p0), .val (.int p1), .val (.int p2), .val (.int p3), .val (.int (Int32.ofNat tn)), .val (.int (Int32.ofNat un)), .val (.int (Int32.ofNat sn)), .val (.int k84_0), .val (.int k86_0), .val (.int t0), .val (.int t1), .val (.int t2), .val (.int k91_0), .val (.int k95_0), .val (.int k99_0), .val (.ref b103), .unset, .unset, .unset, .unset] [(.int ((p3.toUInt32 >>> ((20 : Int32) &&& 31).toUInt32).toInt32)), (.int (6 : Int32)), (.ref b103)])) _
              refine XS.i2b X115.here hx rfl (hb hby at_201) rfl ?_
              exact kt
            obtain ⟨cl117, Ar117, q117, S117, M117, H117, G117⟩ := (id V115)
            have hin117 : ¬ ((6 : Int32) < 0 ∨ cl117.slots.size ≤ ((6 : Int32)).toNatClampNeg) := inb_of S117 ⟨by decide, by decide⟩
            obtain ⟨T117, h117, X117, e117, W117, st117⟩ := stB X115 hx hZ e115 Ar117 (j := (6 : Int32)) hin117 (g := (mkF m 202 #[.val (.int p0), .val (.int p1), .val (.int p2), .val (.int p3), .val (.int (Int32.ofNat tn)), .val (.int (Int32.ofNat un)), .val (.int (Int32.ofNat sn)), .val (.int k84_0), .val (.int k86_0), .val (.int t0), .val (.int t1), .val (.int t2), .val (.int k91_0), .val (.int k95_0), .val (.int k99_0), .val (.ref b103), .unset, .unset, .unset, .unset] [(.int (((p3.toUInt32 >>> ((20 : Int32) &&& 31).toUInt32).toInt32).toInt8.toInt32)), (.int (6 : Int32)), (.ref b103)])) rfl rfl (hb hby at_202)
            rw [narB] at W117
            have Z0_118 : n0 ≤ h117.size := (Nat.le_trans Z0_116 (Keep.of_wr W117).1)
            have V117 : Arv Z h117 b103 k103 .byte (7 : Int32) [(.int (p3.toInt8.toInt32)), (.int (((p3.toUInt32 >>> ((8 : Int32) &&& 31).toUInt32).toInt32).toInt8.toInt32)), (.int (((p3.toUInt32 >>> ((16 : Int32) &&& 31).toUInt32).toInt32).toInt8.toInt32)), (.int (((p3.toUInt32 >>> ((24 : Int32) &&& 31).toUInt32).toInt32).toInt8.toInt32)), (.int (((p3.toUInt32 >>> ((4 : Int32) &&& 31).toUInt32).toInt32).toInt8.toInt32)), (.int (((p3.toUInt32 >>> ((12 : Int32) &&& 31).toUInt32).toInt32).toInt8.toInt32)), (.int (((p3.toUInt32 >>> ((20 : Int32) &&& 31).toUInt32).toInt32).toInt8.toInt32))] (.int (0 : Int32)) := Arv.set Ar117 q117 S117 M117 H117 G117 (fits_nar_byte _) W117 6 rfl (Nat.le_of_ble_eq_true rfl)
            have N117 := Fr.snoc X117 N115 gn_b103
            refine GotW.step st117 ?_
            show GotW p e below s _ _ _ _ T117 (mkF m 203 #[.val (.int p0), .val (.int p1), .val (.int p2), .val (.int p3), .val (.int (Int32.ofNat tn)), .val (.int (Int32.ofNat un)), .val (.int (Int32.ofNat sn)), .val (.int k84_0), .val (.int k86_0), .val (.int t0), .val (.int t1), .val (.int t2), .val (.int k91_0), .val (.int k95_0), .val (.int k99_0), .val (.ref b103), .unset, .unset, .unset, .unset] [])
            obtain ⟨B0, hB0⟩ : ∃ v : List Int32, v = [(p3.toInt8.toInt32), (((p3.toUInt32 >>> ((8 : Int32) &&& 31).toUInt32).toInt32).toInt8.toInt32), (((p3.toUInt32 >>> ((16 : Int32) &&& 31).toUInt32).toInt32).toInt8.toInt32), (((p3.toUInt32 >>> ((24 : Int32) &&& 31).toUInt32).toInt32).toInt8.toInt32), (((p3.toUInt32 >>> ((4 : Int32) &&& 31).toUInt32).toInt32).toInt8.toInt32), (((p3.toUInt32 >>> ((12 : Int32) &&& 31).toUInt32).toInt32).toInt8.toInt32), (((p3.toUInt32 >>> ((20 : Int32) &&& 31).toUInt32).toInt32).toInt8.toInt32)] := ⟨_, rfl⟩
            have hl0 : B0.length = 7 := by rw [hB0]; rfl
            have VB0 : Arv Z h117 b103 k103 .byte (7 : Int32) (B0.map Value.int) (.int (0 : Int32)) := by rw [hB0]; exact V117
            refine GotW.step (T' := T117) (g' := (mkF m 205 #[.val (.int p0), .val (.int p1), .val (.int p2), .val (.int p3), .val (.int (Int32.ofNat tn)), .val (.int (Int32.ofNat un)), .val (.int (Int32.ofNat sn)), .val (.int k84_0), .val (.int k86_0), .val (.int t0), .val (.int t1), .val (.int t2), .val (.int k91_0), .val (.int k95_0), .val (.int k99_0), .val (.ref b103), .unset, .unset, .unset, .unset] [(.int (Int32.ofNat tn))])) (fun tq kt => ?_) ?_
            · show Steps p.tables e below (T117.setTop (mkF m 203 #[.val (.int p0), .val (.int p1), .val (.int p2), .val (.int p3), .val (.int (Int32.ofNat tn)), .val (.int (Int32.ofNat un)), .val (.int (Int32.ofNat sn)), .val (.int k84_0), .val (.int k86_0), .val (.int t0), .val (.int t1), .val (.int t2), .val (.int k91_0), .val (.int k95_0), .val (.int k99_0), .val (.ref b103), .unset, .unset, .unset, .unset] [])) _
              refine XS.iload X117.here hx rfl (hb hby at_203) rfl ?_
              exact kt
            have J119 : ∀ (T119 : State) (h119 : Heap) (L119 : List Loc), Stand p l e room_1 s m #[(.int p0), (.int p1), (.int p2), (.int p3)] below meth c T119 L119 1 7 → T119.heap = h119 → Fr n0 L119 → ∀ (y119_b103 : List Int32), y119_b103 = (if 0 < (Int32.ofNat tn) then (B0.set sn (t0.toInt8.toInt32)) else B0) → n0 ≤ h119.size → Arv Z h119 b103 k103 .byte (7 : Int32) (y119_b103.map Value.int) (.int (0 : Int32)) → GotW p e below s (fun _ L => Fr n0 L) room_1.cells room_1.slots (some (.int (1 : Int32))) T119 (mkF m 216 #[.val (.int p0), .val (.int p1), .val (.int p2), .val (.int p3), .val (.int (Int32.ofNat tn)), .val (.int (Int32.ofNat un)), .val (.int (Int32.ofNat sn)), .val (.int k84_0), .val (.int k86_0), .val (.int t0), .val (.int t1), .val (.int t2), .val (.int k91_0), .val (.int k95_0), .val (.int k99_0), .val (.ref b103), .unset, .unset, .unset, .unset] []) := by
              intro T119 h119 L119 X119 e119 N119 y119_b103 hy119_b103 Z0_123 V121_124
              have hl1 : y119_b103.length = 7 := by
                rw [hy119_b103]; split <;> first | exact hl0 | (rw [List.length_set]; exact hl0)
              refine GotW.step (T' := T119) (g' := (mkF m 219 #[.val (.int p0), .val (.int p1), .val (.int p2), .val (.int p3), .val (.int (Int32.ofNat tn)), .val (.int (Int32.ofNat un)), .val (.int (Int32.ofNat sn)), .val (.int k84_0), .val (.int k86_0), .val (.int t0), .val (.int t1), .val (.int t2), .val (.int k91_0), .val (.int k95_0), .val (.int k99_0), .val (.ref b103), .unset, .unset, .unset, .unset] [(.int (1 : Int32)), (.int (Int32.ofNat tn))])) (fun tq kt => ?_) ?_
              · show Steps p.tables e below (T119.setTop (mkF m 216 #[.val (.int p0), .val (.int p1), .val (.int p2), .val (.int p3), .val (.int (Int32.ofNat tn)), .val (.int (Int32.ofNat un)), .val (.int (Int32.ofNat sn)), .val (.int k84_0), .val (.int k86_0), .val (.int t0), .val (.int t1), .val (.int t2), .val (.int k91_0), .val (.int k95_0), .val (.int k99_0), .val (.ref b103), .unset, .unset, .unset, .unset] [])) _
                refine XS.iload X119.here hx rfl (hb hby at_216) rfl ?_
                show Steps p.tables e below (T119.setTop (mkF m 218 #[.val (.int p0), .val (.int p1), .val (.int p2), .val (.int p3), .val (.int (Int32.ofNat tn)), .val (.int (Int32.ofNat un)), .val (.int (Int32.ofNat sn)), .val (.int k84_0), .val (.int k86_0), .val (.int t0), .val (.int t1), .val (.int t2), .val (.int k91_0), .val (.int k95_0), .val (.int k99_0), .val (.ref b103), .unset, .unset, .unset, .unset] [(.int (Int32.ofNat tn))])) _
                refine XS.iconst X119.here hx rfl (hb hby at_218) ?_
                exact kt
              have J125 : ∀ (T125 : State) (h125 : Heap) (L125 : List Loc), Stand p l e room_1 s m #[(.int p0), (.int p1), (.int p2), (.int p3)] below meth c T125 L125 1 7 → T125.heap = h125 → Fr n0 L125 → ∀ (y125_b103 : List Int32), y125_b103 = (if (1 : Int32) < (Int32.ofNat tn) then (y119_b103.set (sn + 1) (t1.toInt8.toInt32)) else y119_b103) → n0 ≤ h125.size → Arv Z h125 b103 k103 .byte (7 : Int32) (y125_b103.map Value.int) (.int (0 : Int32)) → GotW p e below s (fun _ L => Fr n0 L) room_1.cells room_1.slots (some (.int (1 : Int32))) T125 (mkF m 232 #[.val (.int p0), .val (.int p1), .val (.int p2), .val (.int p3), .val (.int (Int32.ofNat tn)), .val (.int (Int32.ofNat un)), .val (.int (Int32.ofNat sn)), .val (.int k84_0), .val (.int k86_0), .val (.int t0), .val (.int t1), .val (.int t2), .val (.int k91_0), .val (.int k95_0), .val (.int k99_0), .val (.ref b103), .unset, .unset, .unset, .unset] []) := by
                intro T125 h125 L125 X125 e125 N125 y125_b103 hy125_b103 Z0_129 V127_130
                have hl2 : y125_b103.length = 7 := by
                  rw [hy125_b103]; split <;> first | exact hl1 | (rw [List.length_set]; exact hl1)
                refine GotW.step (T' := T125) (g' := (mkF m 235 #[.val (.int p0), .val (.int p1), .val (.int p2), .val (.int p3), .val (.int (Int32.ofNat tn)), .val (.int (Int32.ofNat un)), .val (.int (Int32.ofNat sn)), .val (.int k84_0), .val (.int k86_0), .val (.int t0), .val (.int t1), .val (.int t2), .val (.int k91_0), .val (.int k95_0), .val (.int k99_0), .val (.ref b103), .unset, .unset, .unset, .unset] [(.int (2 : Int32)), (.int (Int32.ofNat tn))])) (fun tq kt => ?_) ?_
                · show Steps p.tables e below (T125.setTop (mkF m 232 #[.val (.int p0), .val (.int p1), .val (.int p2), .val (.int p3), .val (.int (Int32.ofNat tn)), .val (.int (Int32.ofNat un)), .val (.int (Int32.ofNat sn)), .val (.int k84_0), .val (.int k86_0), .val (.int t0), .val (.int t1), .val (.int t2), .val (.int k91_0), .val (.int k95_0), .val (.int k99_0), .val (.ref b103), .unset, .unset, .unset, .unset] [])) _
                  refine XS.iload X125.here hx rfl (hb hby at_232) rfl ?_
                  show Steps p.tables e below (T125.setTop (mkF m 234 #[.val (.int p0), .val (.int p1), .val (.int p2), .val (.int p3), .val (.int (Int32.ofNat tn)), .val (.int (Int32.ofNat un)), .val (.int (Int32.ofNat sn)), .val (.int k84_0), .val (.int k86_0), .val (.int t0), .val (.int t1), .val (.int t2), .val (.int k91_0), .val (.int k95_0), .val (.int k99_0), .val (.ref b103), .unset, .unset, .unset, .unset] [(.int (Int32.ofNat tn))])) _
                  refine XS.iconst X125.here hx rfl (hb hby at_234) ?_
                  exact kt
                have J131 : ∀ (T131 : State) (h131 : Heap) (L131 : List Loc), Stand p l e room_1 s m #[(.int p0), (.int p1), (.int p2), (.int p3)] below meth c T131 L131 1 7 → T131.heap = h131 → Fr n0 L131 → ∀ (y131_b103 : List Int32), y131_b103 = (if (2 : Int32) < (Int32.ofNat tn) then (y125_b103.set (sn + 2) (t2.toInt8.toInt32)) else y125_b103) → n0 ≤ h131.size → Arv Z h131 b103 k103 .byte (7 : Int32) (y131_b103.map Value.int) (.int (0 : Int32)) → GotW p e below s (fun _ L => Fr n0 L) room_1.cells room_1.slots (some (.int (1 : Int32))) T131 (mkF m 248 #[.val (.int p0), .val (.int p1), .val (.int p2), .val (.int p3), .val (.int (Int32.ofNat tn)), .val (.int (Int32.ofNat un)), .val (.int (Int32.ofNat sn)), .val (.int k84_0), .val (.int k86_0), .val (.int t0), .val (.int t1), .val (.int t2), .val (.int k91_0), .val (.int k95_0), .val (.int k99_0), .val (.ref b103), .unset, .unset, .unset, .unset] []) := by
                  intro T131 h131 L131 X131 e131 N131 y131_b103 hy131_b103 Z0_135 V133_136
                  have hl3 : y131_b103.length = 7 := by
                    rw [hy131_b103]; split <;> first | exact hl2 | (rw [List.length_set]; exact hl2)
                  refine GotW.step (T' := T131) (g' := (mkF m 256 #[.val (.int p0), .val (.int p1), .val (.int p2), .val (.int p3), .val (.int (Int32.ofNat tn)), .val (.int (Int32.ofNat un)), .val (.int (Int32.ofNat sn)), .val (.int k84_0), .val (.int k86_0), .val (.int t0), .val (.int t1), .val (.int t2), .val (.int k91_0), .val (.int k95_0), .val (.int k99_0), .val (.ref b103), .unset, .unset, .unset, .unset] [(.int (-1 : Int32)), (.int ((Int32.ofNat sn) + (Int32.ofNat tn))), (.ref b103)])) (fun tq kt => ?_) ?_
                  · show Steps p.tables e below (T131.setTop (mkF m 248 #[.val (.int p0), .val (.int p1), .val (.int p2), .val (.int p3), .val (.int (Int32.ofNat tn)), .val (.int (Int32.ofNat un)), .val (.int (Int32.ofNat sn)), .val (.int k84_0), .val (.int k86_0), .val (.int t0), .val (.int t1), .val (.int t2), .val (.int k91_0), .val (.int k95_0), .val (.int k99_0), .val (.ref b103), .unset, .unset, .unset, .unset] [])) _
                    refine XS.aload X131.here hx rfl (hb hby at_248) rfl rfl ?_
                    show Steps p.tables e below (T131.setTop (mkF m 250 #[.val (.int p0), .val (.int p1), .val (.int p2), .val (.int p3), .val (.int (Int32.ofNat tn)), .val (.int (Int32.ofNat un)), .val (.int (Int32.ofNat sn)), .val (.int k84_0), .val (.int k86_0), .val (.int t0), .val (.int t1), .val (.int t2), .val (.int k91_0), .val (.int k95_0), .val (.int k99_0), .val (.ref b103), .unset, .unset, .unset, .unset] [(.ref b103)])) _
                    refine XS.iload X131.here hx rfl (hb hby at_250) rfl ?_
                    show Steps p.tables e below (T131.setTop (mkF m 252 #[.val (.int p0), .val (.int p1), .val (.int p2), .val (.int p3), .val (.int (Int32.ofNat tn)), .val (.int (Int32.ofNat un)), .val (.int (Int32.ofNat sn)), .val (.int k84_0), .val (.int k86_0), .val (.int t0), .val (.int t1), .val (.int t2), .val (.int k91_0), .val (.int k95_0), .val (.int k99_0), .val (.ref b103), .unset, .unset, .unset, .unset] [(.int (Int32.ofNat sn)), (.ref b103)])) _
                    refine XS.iload X131.here hx rfl (hb hby at_252) rfl ?_
                    show Steps p.tables e below (T131.setTop (mkF m 254 #[.val (.int p0), .val (.int p1), .val (.int p2), .val (.int p3), .val (.int (Int32.ofNat tn)), .val (.int (Int32.ofNat un)), .val (.int (Int32.ofNat sn)), .val (.int k84_0), .val (.int k86_0), .val (.int t0), .val (.int t1), .val (.int t2), .val (.int k91_0), .val (.int k95_0), .val (.int k99_0), .val (.ref b103), .unset, .unset, .unset, .unset] [(.int (Int32.ofNat tn)), (.int (Int32.ofNat sn)), (.ref b103)])) _
                    refine XS.iadd X131.here hx rfl (hb hby at_254) rfl ?_
                    show Steps p.tables e below (T131.setTop (mkF m 255 #[.val (.int p0), .val (.int p1), .val (.int p2), .val (.int p3), .val (.int (Int32.ofNat tn)), .val (.int (Int32.ofNat un)), .val (.int (Int32.ofNat sn)), .val (.int k84_0), .val (.int k86_0), .val (.int t0), .val (.int t1), .val (.int t2), .val (.int k91_0), .val (.int k95_0), .val (.int k99_0), .val (.ref b103), .unset, .unset, .unset, .unset] [(.int ((Int32.ofNat sn) + (Int32.ofNat tn))), (.ref b103)])) _
                    refine XS.iconst X131.here hx rfl (hb hby at_255) ?_
                    exact kt
                  obtain ⟨cl137, Ar137, q137, S137, M137, H137, G137⟩ := (id V133_136)
                  have hin137 : ¬ (((Int32.ofNat sn) + (Int32.ofNat tn)) < 0 ∨ cl137.slots.size ≤ (((Int32.ofNat sn) + (Int32.ofNat tn))).toNatClampNeg) := inb_of S137 (own_stt hsn htn)
                  obtain ⟨T137, h137, X137, e137, W137, st137⟩ := stB X131 hx hZ e131 Ar137 (j := ((Int32.ofNat sn) + (Int32.ofNat tn))) hin137 (g := (mkF m 256 #[.val (.int p0), .val (.int p1), .val (.int p2), .val (.int p3), .val (.int (Int32.ofNat tn)), .val (.int (Int32.ofNat un)), .val (.int (Int32.ofNat sn)), .val (.int k84_0), .val (.int k86_0), .val (.int t0), .val (.int t1), .val (.int t2), .val (.int k91_0), .val (.int k95_0), .val (.int k99_0), .val (.ref b103), .unset, .unset, .unset, .unset] [(.int (-1 : Int32)), (.int ((Int32.ofNat sn) + (Int32.ofNat tn))), (.ref b103)])) rfl rfl (hb hby at_256)
                  have Z0_138 : n0 ≤ h137.size := (Nat.le_trans Z0_135 (Keep.of_wr W137).1)
                  have V137 : Arv Z h137 b103 k103 .byte (7 : Int32) ((y131_b103.set (sn + tn) (-1 : Int32)).map Value.int) (.int (0 : Int32)) := by rw [List.map_set]; exact Arv.set Ar137 q137 S137 M137 H137 G137 (by decide) W137 (sn + tn) (own_hjt hsn htn) (by rw [List.length_map, hl3]; omega)
                  have N137 := Fr.snoc X137 N131 gn_b103
                  refine GotW.step st137 ?_
                  show GotW p e below s _ _ _ _ T137 (mkF m 257 #[.val (.int p0), .val (.int p1), .val (.int p2), .val (.int p3), .val (.int (Int32.ofNat tn)), .val (.int (Int32.ofNat un)), .val (.int (Int32.ofNat sn)), .val (.int k84_0), .val (.int k86_0), .val (.int t0), .val (.int t1), .val (.int t2), .val (.int k91_0), .val (.int k95_0), .val (.int k99_0), .val (.ref b103), .unset, .unset, .unset, .unset] [])
                  refine GotW.step (T' := T137) (g' := (mkF m 259 #[.val (.int p0), .val (.int p1), .val (.int p2), .val (.int p3), .val (.int (Int32.ofNat tn)), .val (.int (Int32.ofNat un)), .val (.int (Int32.ofNat sn)), .val (.int k84_0), .val (.int k86_0), .val (.int t0), .val (.int t1), .val (.int t2), .val (.int k91_0), .val (.int k95_0), .val (.int k99_0), .val (.ref b103), .unset, .unset, .unset, .unset] [(.int (Int32.ofNat un))])) (fun tq kt => ?_) ?_
                  · show Steps p.tables e below (T137.setTop (mkF m 257 #[.val (.int p0), .val (.int p1), .val (.int p2), .val (.int p3), .val (.int (Int32.ofNat tn)), .val (.int (Int32.ofNat un)), .val (.int (Int32.ofNat sn)), .val (.int k84_0), .val (.int k86_0), .val (.int t0), .val (.int t1), .val (.int t2), .val (.int k91_0), .val (.int k95_0), .val (.int k99_0), .val (.ref b103), .unset, .unset, .unset, .unset] [])) _
                    refine XS.iload X137.here hx rfl (hb hby at_257) rfl ?_
                    exact kt
                  obtain ⟨T139, h139, k139, X139, e139, E139, A139, st139⟩ := newP X137 hx hZ (hw _ (List.mem_of_getElem? (i := 4) rfl)) e137 (g := (mkF m 259 #[.val (.int p0), .val (.int p1), .val (.int p2), .val (.int p3), .val (.int (Int32.ofNat tn)), .val (.int (Int32.ofNat un)), .val (.int (Int32.ofNat sn)), .val (.int k84_0), .val (.int k86_0), .val (.int t0), .val (.int t1), .val (.int t2), .val (.int k91_0), .val (.int k95_0), .val (.int k99_0), .val (.ref b103), .unset, .unset, .unset, .unset] [(.int (Int32.ofNat un))])) rfl (hb hby at_259) rfl (own_un0 hun) (cap := 3) (own_un3 hun) (by decide) (by decide) (by decide)
                  obtain ⟨b139, g139⟩ : ∃ z, z = h137.size := ⟨_, rfl⟩
                  rw [← g139] at A139 st139
                  have ne_b103_b139 : b103 ≠ b139 := by rw [g139]; exact Nat.ne_of_lt V137.lt
                  have gn_b139 : n0 ≤ b139 := by rw [g139]; exact Z0_138
                  have Z0_140 : n0 ≤ h139.size := (Nat.le_trans Z0_138 E139.1)
                  have V137_141 : Arv Z h139 b103 k103 .byte (7 : Int32) ((y131_b103.set (sn + tn) (-1 : Int32)).map Value.int) (.int (0 : Int32)) := (V137.ext E139)
                  have V139 : Arv Z h139 b139 k139 .byte (Int32.ofNat un) [(.int (0 : Int32)), (.int (0 : Int32)), (.int (0 : Int32))] (.int (0 : Int32)) := (Arv.new A139 (own_un0 hun)).pad (pad_rep [] (.int (0 : Int32)) 3)
                  refine GotW.step st139 ?_
                  show GotW p e below s _ _ _ _ T139 (mkF m 261 #[.val (.int p0), .val (.int p1), .val (.int p2), .val (.int p3), .val (.int (Int32.ofNat tn)), .val (.int (Int32.ofNat un)), .val (.int (Int32.ofNat sn)), .val (.int k84_0), .val (.int k86_0), .val (.int t0), .val (.int t1), .val (.int t2), .val (.int k91_0), .val (.int k95_0), .val (.int k99_0), .val (.ref b103), .unset, .unset, .unset, .unset] [(.ref b139)])
                  refine GotW.step (T' := T139) (g' := (mkF m 265 #[.val (.int p0), .val (.int p1), .val (.int p2), .val (.int p3), .val (.int (Int32.ofNat tn)), .val (.int (Int32.ofNat un)), .val (.int (Int32.ofNat sn)), .val (.int k84_0), .val (.int k86_0), .val (.int t0), .val (.int t1), .val (.int t2), .val (.int k91_0), .val (.int k95_0), .val (.int k99_0), .val (.ref b103), .val (.ref b139), .unset, .unset, .unset] [(.int (Int32.ofNat un))])) (fun tq kt => ?_) ?_
                  · show Steps p.tables e below (T139.setTop (mkF m 261 #[.val (.int p0), .val (.int p1), .val (.int p2), .val (.int p3), .val (.int (Int32.ofNat tn)), .val (.int (Int32.ofNat un)), .val (.int (Int32.ofNat sn)), .val (.int k84_0), .val (.int k86_0), .val (.int t0), .val (.int t1), .val (.int t2), .val (.int k91_0), .val (.int k95_0), .val (.int k99_0), .val (.ref b103), .unset, .unset, .unset, .unset] [(.ref b139)])) _
                    refine XS.astore X139.here hx rfl (hb hby at_261) rfl rfl (l' := #[.val (.int p0), .val (.int p1), .val (.int p2), .val (.int p3), .val (.int (Int32.ofNat tn)), .val (.int (Int32.ofNat un)), .val (.int (Int32.ofNat sn)), .val (.int k84_0), .val (.int k86_0), .val (.int t0), .val (.int t1), .val (.int t2), .val (.int k91_0), .val (.int k95_0), .val (.int k99_0), .val (.ref b103), .val (.ref b139), .unset, .unset, .unset]) rfl ?_
                    show Steps p.tables e below (T139.setTop (mkF m 263 #[.val (.int p0), .val (.int p1), .val (.int p2), .val (.int p3), .val (.int (Int32.ofNat tn)), .val (.int (Int32.ofNat un)), .val (.int (Int32.ofNat sn)), .val (.int k84_0), .val (.int k86_0), .val (.int t0), .val (.int t1), .val (.int t2), .val (.int k91_0), .val (.int k95_0), .val (.int k99_0), .val (.ref b103), .val (.ref b139), .unset, .unset, .unset] [])) _
                    refine XS.iload X139.here hx rfl (hb hby at_263) rfl ?_
                    exact kt
                  have J142 : ∀ (T142 : State) (h142 : Heap) (L142 : List Loc), Stand p l e room_1 s m #[(.int p0), (.int p1), (.int p2), (.int p3)] below meth c T142 L142 2 10 → T142.heap = h142 → Fr n0 L142 → ∀ (y142_b139_0 : Int32), y142_b139_0 = (if 0 < (Int32.ofNat un) then (k91_0.toInt8.toInt32) else (0 : Int32)) → n0 ≤ h142.size → Arv Z h142 b103 k103 .byte (7 : Int32) ((y131_b103.set (sn + tn) (-1 : Int32)).map Value.int) (.int (0 : Int32)) → Arv Z h142 b139 k139 .byte (Int32.ofNat un) [(.int y142_b139_0), (.int (0 : Int32)), (.int (0 : Int32))] (.int (0 : Int32)) → GotW p e below s (fun _ L => Fr n0 L) room_1.cells room_1.slots (some (.int (1 : Int32))) T142 (mkF m 275 #[.val (.int p0), .val (.int p1), .val (.int p2), .val (.int p3), .val (.int (Int32.ofNat tn)), .val (.int (Int32.ofNat un)), .val (.int (Int32.ofNat sn)), .val (.int k84_0), .val (.int k86_0), .val (.int t0), .val (.int t1), .val (.int t2), .val (.int k91_0), .val (.int k95_0), .val (.int k99_0), .val (.ref b103), .val (.ref b139), .unset, .unset, .unset] []) := by
                    intro T142 h142 L142 X142 e142 N142 y142_b139_0 hy142_b139_0 Z0_147 V137_148 V144_149
                    refine GotW.step (T' := T142) (g' := (mkF m 278 #[.val (.int p0), .val (.int p1), .val (.int p2), .val (.int p3), .val (.int (Int32.ofNat tn)), .val (.int (Int32.ofNat un)), .val (.int (Int32.ofNat sn)), .val (.int k84_0), .val (.int k86_0), .val (.int t0), .val (.int t1), .val (.int t2), .val (.int k91_0), .val (.int k95_0), .val (.int k99_0), .val (.ref b103), .val (.ref b139), .unset, .unset, .unset] [(.int (1 : Int32)), (.int (Int32.ofNat un))])) (fun tq kt => ?_) ?_
                    · show Steps p.tables e below (T142.setTop (mkF m 275 #[.val (.int p0), .val (.int p1), .val (.int p2), .val (.int p3), .val (.int (Int32.ofNat tn)), .val (.int (Int32.ofNat un)), .val (.int (Int32.ofNat sn)), .val (.int k84_0), .val (.int k86_0), .val (.int t0), .val (.int t1), .val (.int t2), .val (.int k91_0), .val (.int k95_0), .val (.int k99_0), .val (.ref b103), .val (.ref b139), .unset, .unset, .unset] [])) _
                      refine XS.iload X142.here hx rfl (hb hby at_275) rfl ?_
                      show Steps p.tables e below (T142.setTop (mkF m 277 #[.val (.int p0), .val (.int p1), .val (.int p2), .val (.int p3), .val (.int (Int32.ofNat tn)), .val (.int (Int32.ofNat un)), .val (.int (Int32.ofNat sn)), .val (.int k84_0), .val (.int k86_0), .val (.int t0), .val (.int t1), .val (.int t2), .val (.int k91_0), .val (.int k95_0), .val (.int k99_0), .val (.ref b103), .val (.ref b139), .unset, .unset, .unset] [(.int (Int32.ofNat un))])) _
                      refine XS.iconst X142.here hx rfl (hb hby at_277) ?_
                      exact kt
                    have J150 : ∀ (T150 : State) (h150 : Heap) (L150 : List Loc), Stand p l e room_1 s m #[(.int p0), (.int p1), (.int p2), (.int p3)] below meth c T150 L150 2 10 → T150.heap = h150 → Fr n0 L150 → ∀ (y150_b139_1 : Int32), y150_b139_1 = (if (1 : Int32) < (Int32.ofNat un) then (k95_0.toInt8.toInt32) else (0 : Int32)) → n0 ≤ h150.size → Arv Z h150 b103 k103 .byte (7 : Int32) ((y131_b103.set (sn + tn) (-1 : Int32)).map Value.int) (.int (0 : Int32)) → Arv Z h150 b139 k139 .byte (Int32.ofNat un) [(.int y142_b139_0), (.int y150_b139_1), (.int (0 : Int32))] (.int (0 : Int32)) → GotW p e below s (fun _ L => Fr n0 L) room_1.cells room_1.slots (some (.int (1 : Int32))) T150 (mkF m 288 #[.val (.int p0), .val (.int p1), .val (.int p2), .val (.int p3), .val (.int (Int32.ofNat tn)), .val (.int (Int32.ofNat un)), .val (.int (Int32.ofNat sn)), .val (.int k84_0), .val (.int k86_0), .val (.int t0), .val (.int t1), .val (.int t2), .val (.int k91_0), .val (.int k95_0), .val (.int k99_0), .val (.ref b103), .val (.ref b139), .unset, .unset, .unset] []) := by
                      intro T150 h150 L150 X150 e150 N150 y150_b139_1 hy150_b139_1 Z0_155 V137_156 V152_157
                      refine GotW.step (T' := T150) (g' := (mkF m 291 #[.val (.int p0), .val (.int p1), .val (.int p2), .val (.int p3), .val (.int (Int32.ofNat tn)), .val (.int (Int32.ofNat un)), .val (.int (Int32.ofNat sn)), .val (.int k84_0), .val (.int k86_0), .val (.int t0), .val (.int t1), .val (.int t2), .val (.int k91_0), .val (.int k95_0), .val (.int k99_0), .val (.ref b103), .val (.ref b139), .unset, .unset, .unset] [(.int (2 : Int32)), (.int (Int32.ofNat un))])) (fun tq kt => ?_) ?_
                      · show Steps p.tables e below (T150.setTop (mkF m 288 #[.val (.int p0), .val (.int p1), .val (.int p2), .val (.int p3), .val (.int (Int32.ofNat tn)), .val (.int (Int32.ofNat un)), .val (.int (Int32.ofNat sn)), .val (.int k84_0), .val (.int k86_0), .val (.int t0), .val (.int t1), .val (.int t2), .val (.int k91_0), .val (.int k95_0), .val (.int k99_0), .val (.ref b103), .val (.ref b139), .unset, .unset, .unset] [])) _
                        refine XS.iload X150.here hx rfl (hb hby at_288) rfl ?_
                        show Steps p.tables e below (T150.setTop (mkF m 290 #[.val (.int p0), .val (.int p1), .val (.int p2), .val (.int p3), .val (.int (Int32.ofNat tn)), .val (.int (Int32.ofNat un)), .val (.int (Int32.ofNat sn)), .val (.int k84_0), .val (.int k86_0), .val (.int t0), .val (.int t1), .val (.int t2), .val (.int k91_0), .val (.int k95_0), .val (.int k99_0), .val (.ref b103), .val (.ref b139), .unset, .unset, .unset] [(.int (Int32.ofNat un))])) _
                        refine XS.iconst X150.here hx rfl (hb hby at_290) ?_
                        exact kt
                      have J158 : ∀ (T158 : State) (h158 : Heap) (L158 : List Loc), Stand p l e room_1 s m #[(.int p0), (.int p1), (.int p2), (.int p3)] below meth c T158 L158 2 10 → T158.heap = h158 → Fr n0 L158 → ∀ (y158_b139_2 : Int32), y158_b139_2 = (if (2 : Int32) < (Int32.ofNat un) then (k99_0.toInt8.toInt32) else (0 : Int32)) → n0 ≤ h158.size → Arv Z h158 b103 k103 .byte (7 : Int32) ((y131_b103.set (sn + tn) (-1 : Int32)).map Value.int) (.int (0 : Int32)) → Arv Z h158 b139 k139 .byte (Int32.ofNat un) [(.int y142_b139_0), (.int y150_b139_1), (.int y158_b139_2)] (.int (0 : Int32)) → GotW p e below s (fun _ L => Fr n0 L) room_1.cells room_1.slots (some (.int (1 : Int32))) T158 (mkF m 301 #[.val (.int p0), .val (.int p1), .val (.int p2), .val (.int p3), .val (.int (Int32.ofNat tn)), .val (.int (Int32.ofNat un)), .val (.int (Int32.ofNat sn)), .val (.int k84_0), .val (.int k86_0), .val (.int t0), .val (.int t1), .val (.int t2), .val (.int k91_0), .val (.int k95_0), .val (.int k99_0), .val (.ref b103), .val (.ref b139), .unset, .unset, .unset] []) := by
                        intro T158 h158 L158 X158 e158 N158 y158_b139_2 hy158_b139_2 Z0_163 V137_164 V160_165
                        obtain ⟨T166, h166, X166, e166, E166, A166, D166, -, st166⟩ := newO X158 hx hZ hown (hw _ (List.mem_of_getElem? (i := 5) rfl)) (hw _ (List.mem_of_getElem? (i := 6) rfl)) (hw _ (List.mem_of_getElem? (i := 7) rfl)) e158 (g := (mkF m 301 #[.val (.int p0), .val (.int p1), .val (.int p2), .val (.int p3), .val (.int (Int32.ofNat tn)), .val (.int (Int32.ofNat un)), .val (.int (Int32.ofNat sn)), .val (.int k84_0), .val (.int k86_0), .val (.int t0), .val (.int t1), .val (.int t2), .val (.int k91_0), .val (.int k95_0), .val (.int k99_0), .val (.ref b103), .val (.ref b139), .unset, .unset, .unset] [])) rfl (hb hby at_301) (by decide) (by decide)
                        obtain ⟨b166, g166⟩ : ∃ z, z = h158.size := ⟨_, rfl⟩
                        rw [← g166] at A166 D166 st166
                        have ne_b103_b166 : b103 ≠ b166 := by rw [g166]; exact Nat.ne_of_lt V137_164.lt
                        have ne_b139_b166 : b139 ≠ b166 := by rw [g166]; exact Nat.ne_of_lt V160_165.lt
                        have gn_b166 : n0 ≤ b166 := by rw [g166]; exact Z0_163
                        have Z0_167 : n0 ≤ h166.size := (Nat.le_trans Z0_163 E166.1)
                        have V137_168 : Arv Z h166 b103 k103 .byte (7 : Int32) ((y131_b103.set (sn + tn) (-1 : Int32)).map Value.int) (.int (0 : Int32)) := (V137_164.ext E166)
                        have V160_169 : Arv Z h166 b139 k139 .byte (Int32.ofNat un) [(.int y142_b139_0), (.int y150_b139_1), (.int y158_b139_2)] (.int (0 : Int32)) := (V160_165.ext E166)
                        have F166_bytes : Fld Z h166 b166 "com/example/kenning/kenning/index/Decoder" "bytes" "[B" .null := D166 (Or.inr (hw _ (List.mem_of_getElem? (i := 22) rfl))) (ty := (.array .byte)) (by decide)
                        have F166_limit : Fld Z h166 b166 "com/example/kenning/kenning/index/Decoder" "limit" "I" (.int (0 : Int32)) := D166 (Or.inr (hw _ (List.mem_of_getElem? (i := 24) rfl))) (ty := .int) (by decide)
                        have F166_source : Fld Z h166 b166 "com/example/kenning/kenning/index/Decoder" "source" "Ljava/lang/String;" .null := D166 (Or.inr (hw _ (List.mem_of_getElem? (i := 26) rfl))) (ty := (.object "java/lang/String")) (by decide)
                        have F166_pages : Fld Z h166 b166 "com/example/kenning/kenning/index/Decoder" "pages" "Lcom/example/kenning/kenning/index/Pages;" .null := D166 (Or.inr (hw _ (List.mem_of_getElem? (i := 28) rfl))) (ty := (.object "com/example/kenning/kenning/index/Pages")) (by decide)
                        have F166_ready : Fld Z h166 b166 "com/example/kenning/kenning/index/Decoder" "ready" "I" (.int (0 : Int32)) := D166 (Or.inl (hw _ (List.mem_of_getElem? (i := 30) rfl))) (ty := .int) (by decide)
                        refine GotW.step st166 ?_
                        show GotW p e below s _ _ _ _ T166 (mkF m 304 #[.val (.int p0), .val (.int p1), .val (.int p2), .val (.int p3), .val (.int (Int32.ofNat tn)), .val (.int (Int32.ofNat un)), .val (.int (Int32.ofNat sn)), .val (.int k84_0), .val (.int k86_0), .val (.int t0), .val (.int t1), .val (.int t2), .val (.int k91_0), .val (.int k95_0), .val (.int k99_0), .val (.ref b103), .val (.ref b139), .unset, .unset, .unset] [(.ref b166)])
                        refine GotW.step (T' := T166) (g' := (mkF m 307 #[.val (.int p0), .val (.int p1), .val (.int p2), .val (.int p3), .val (.int (Int32.ofNat tn)), .val (.int (Int32.ofNat un)), .val (.int (Int32.ofNat sn)), .val (.int k84_0), .val (.int k86_0), .val (.int t0), .val (.int t1), .val (.int t2), .val (.int k91_0), .val (.int k95_0), .val (.int k99_0), .val (.ref b103), .val (.ref b139), .unset, .unset, .unset] [(.ref b103), (.ref b166), (.ref b166)])) (fun tq kt => ?_) ?_
                        · show Steps p.tables e below (T166.setTop (mkF m 304 #[.val (.int p0), .val (.int p1), .val (.int p2), .val (.int p3), .val (.int (Int32.ofNat tn)), .val (.int (Int32.ofNat un)), .val (.int (Int32.ofNat sn)), .val (.int k84_0), .val (.int k86_0), .val (.int t0), .val (.int t1), .val (.int t2), .val (.int k91_0), .val (.int k95_0), .val (.int k99_0), .val (.ref b103), .val (.ref b139), .unset, .unset, .unset] [(.ref b166)])) _
                          refine XS.dup X166.here hx rfl (hb hby at_304) rfl rfl ?_
                          show Steps p.tables e below (T166.setTop (mkF m 305 #[.val (.int p0), .val (.int p1), .val (.int p2), .val (.int p3), .val (.int (Int32.ofNat tn)), .val (.int (Int32.ofNat un)), .val (.int (Int32.ofNat sn)), .val (.int k84_0), .val (.int k86_0), .val (.int t0), .val (.int t1), .val (.int t2), .val (.int k91_0), .val (.int k95_0), .val (.int k99_0), .val (.ref b103), .val (.ref b139), .unset, .unset, .unset] [(.ref b166), (.ref b166)])) _
                          refine XS.aload X166.here hx rfl (hb hby at_305) rfl rfl ?_
                          exact kt
                        obtain ⟨as170, T170, h170, kk170, X170, e170, E170, hS170, hk170, hZ170, hown170, st170⟩ := ldcS (s := s) (vm0 := s.vm) X166 hx hZ hown (hw _ (List.mem_of_getElem? (i := 8) rfl)) (own_wS hw) e166 ((State.WarmedH.refl s).since 0) (Nat.zero_le _) (g := (mkF m 307 #[.val (.int p0), .val (.int p1), .val (.int p2), .val (.int p3), .val (.int (Int32.ofNat tn)), .val (.int (Int32.ofNat un)), .val (.int (Int32.ofNat sn)), .val (.int k84_0), .val (.int k86_0), .val (.int t0), .val (.int t1), .val (.int t2), .val (.int k91_0), .val (.int k95_0), .val (.int k99_0), .val (.ref b103), .val (.ref b139), .unset, .unset, .unset] [(.ref b103), (.ref b166), (.ref b166)])) rfl (hb hby at_307) (n := 4) (by decide) (by decide) (by decide) (by decide)
                        obtain ⟨sL, hsL⟩ : ∃ z, z = s.setVm T170.vm := ⟨_, rfl⟩
                        rw [← hsL] at X170 hZ170 hown170
                        have hZ := hZ170
                        have hown := hown170
                        have hS := hS170
                        have Z0_171 : n0 ≤ h170.size := (Nat.le_trans Z0_167 E170.1)
                        have V137_172 : Arv Z h170 b103 k103 .byte (7 : Int32) ((y131_b103.set (sn + tn) (-1 : Int32)).map Value.int) (.int (0 : Int32)) := (V137_168.ext E170)
                        have V160_173 : Arv Z h170 b139 k139 .byte (Int32.ofNat un) [(.int y142_b139_0), (.int y150_b139_1), (.int y158_b139_2)] (.int (0 : Int32)) := (V160_169.ext E170)
                        have A166_174 : Exa Z h170 b166 "com/example/kenning/kenning/index/Decoder" := (A166.ext E170)
                        have F166_bytes_175 : Fld Z h170 b166 "com/example/kenning/kenning/index/Decoder" "bytes" "[B" .null := (F166_bytes.ext E170)
                        have F166_limit_176 : Fld Z h170 b166 "com/example/kenning/kenning/index/Decoder" "limit" "I" (.int (0 : Int32)) := (F166_limit.ext E170)
                        have F166_source_177 : Fld Z h170 b166 "com/example/kenning/kenning/index/Decoder" "source" "Ljava/lang/String;" .null := (F166_source.ext E170)
                        have F166_pages_178 : Fld Z h170 b166 "com/example/kenning/kenning/index/Decoder" "pages" "Lcom/example/kenning/kenning/index/Pages;" .null := (F166_pages.ext E170)
                        have F166_ready_179 : Fld Z h170 b166 "com/example/kenning/kenning/index/Decoder" "ready" "I" (.int (0 : Int32)) := (F166_ready.ext E170)
                        refine GotW.step st170 ?_
                        show GotW p e below s _ _ _ _ T170 (mkF m 309 #[.val (.int p0), .val (.int p1), .val (.int p2), .val (.int p3), .val (.int (Int32.ofNat tn)), .val (.int (Int32.ofNat un)), .val (.int (Int32.ofNat sn)), .val (.int k84_0), .val (.int k86_0), .val (.int t0), .val (.int t1), .val (.int t2), .val (.int k91_0), .val (.int k95_0), .val (.int k99_0), .val (.ref b103), .val (.ref b139), .unset, .unset, .unset] [(.ref as170), (.ref b103), (.ref b166), (.ref b166)])
                        obtain ⟨_, _, ⟨T180, L180, k180, n180⟩, -, X180, ⟨Lc180, hQ180, l180, y180, z180⟩, st180⟩ := X170.specialBack hx (y := (⟨"com/example/kenning/kenning/index/Decoder", "<init>", "([BLjava/lang/String;)V"⟩ : MethodName)) rfl hown (mvT hZ (hw _ (List.mem_of_getElem? (i := 15) rfl))) (mvT hZ (hw _ (List.mem_of_getElem? (i := 16) rfl))) (mvT hZ (hw _ (List.mem_of_getElem? (i := 17) rfl))) (by decide) (backOf (W := 1) (rm2 l Z a0 hw [] b166 b103 as170 (y131_b103.set (sn + tn) (-1 : Int32)) (7 : Int32) k103 h170 n0 Z0_171 gn_b166 A166_174 F166_bytes_175 F166_limit_176 F166_source_177 F166_pages_178 F166_ready_179 V137_172 ne_b103_b166) hZ (hw _ (List.mem_of_getElem? (i := 17) rfl)) (hw _ (List.mem_of_getElem? (i := 7) rfl)) (by decide) (by decide)) (g := (mkF m 309 #[.val (.int p0), .val (.int p1), .val (.int p2), .val (.int p3), .val (.int (Int32.ofNat tn)), .val (.int (Int32.ofNat un)), .val (.int (Int32.ofNat sn)), .val (.int k84_0), .val (.int k86_0), .val (.int t0), .val (.int t1), .val (.int t2), .val (.int k91_0), .val (.int k95_0), .val (.int k99_0), .val (.ref b103), .val (.ref b139), .unset, .unset, .unset] [(.ref as170), (.ref b103), (.ref b166), (.ref b166)])) rfl (by rw [hml]; rfl) (Steps.refl _) (a := b166) (argsL := [(.ref b103), (.ref as170)]) (rest := [(.ref b166)]) (lenOf pd_1 rfl) rfl (by show 2 * 0 + _ ≤ _; exact Nat.le_of_eq rfl) (hb hby at_309) (fun _ _ => ⟨rfl, e170, (by decide : 5 + 0 ≤ _), (by decide : 24 + 0 ≤ _)⟩)
                        dsimp only [Pt.U, Pt.locs, Pt.cells, Pt.slots] at X180 l180 y180 z180 st180 hQ180
                        subst y180 z180
                        obtain ⟨h180, e180⟩ : ∃ z, T180.heap = z := ⟨_, rfl⟩
                        rw [e180] at hQ180
                        obtain ⟨rfl, Nq180, K180, E180, G180_bytes⟩ := hQ180
                        have N180 : Fr n0 L180 := by rw [l180]; exact Fr.app N158 Nq180
                        have Z0_181 : n0 ≤ h180.size := (Nat.le_trans Z0_171 K180.1)
                        have V137_182 : Arv Z h180 b103 k103 .byte (7 : Int32) ((y131_b103.set (sn + tn) (-1 : Int32)).map Value.int) (.int (0 : Int32)) := (V137_172.keep K180 (ninS ne_b103_b166 nin0))
                        have V160_183 : Arv Z h180 b139 k139 .byte (Int32.ofNat un) [(.int y142_b139_0), (.int y150_b139_1), (.int y158_b139_2)] (.int (0 : Int32)) := (V160_173.keep K180 (ninS ne_b139_b166 nin0))
                        have A166_184 : Exa Z h180 b166 "com/example/kenning/kenning/index/Decoder" := (A166_174.keep K180)
                        have hk170_185 : kk170 ≤ h180.size := (Nat.le_trans hk170 K180.1)
                        refine GotW.hop st180 ?_
                        show GotW p e below s _ _ _ _ T180 (mkF m 312 #[.val (.int p0), .val (.int p1), .val (.int p2), .val (.int p3), .val (.int (Int32.ofNat tn)), .val (.int (Int32.ofNat un)), .val (.int (Int32.ofNat sn)), .val (.int k84_0), .val (.int k86_0), .val (.int t0), .val (.int t1), .val (.int t2), .val (.int k91_0), .val (.int k95_0), .val (.int k99_0), .val (.ref b103), .val (.ref b139), .unset, .unset, .unset] [(.ref b166)])
                        refine GotW.step (T' := T180) (g' := (mkF m 320 #[.val (.int p0), .val (.int p1), .val (.int p2), .val (.int p3), .val (.int (Int32.ofNat tn)), .val (.int (Int32.ofNat un)), .val (.int (Int32.ofNat sn)), .val (.int k84_0), .val (.int k86_0), .val (.int t0), .val (.int t1), .val (.int t2), .val (.int k91_0), .val (.int k95_0), .val (.int k99_0), .val (.ref b103), .val (.ref b139), .val (.ref b166), .unset, .unset] [(.ref b139), (.int (Int32.ofNat sn)), (.ref b166)])) (fun tq kt => ?_) ?_
                        · show Steps p.tables e below (T180.setTop (mkF m 312 #[.val (.int p0), .val (.int p1), .val (.int p2), .val (.int p3), .val (.int (Int32.ofNat tn)), .val (.int (Int32.ofNat un)), .val (.int (Int32.ofNat sn)), .val (.int k84_0), .val (.int k86_0), .val (.int t0), .val (.int t1), .val (.int t2), .val (.int k91_0), .val (.int k95_0), .val (.int k99_0), .val (.ref b103), .val (.ref b139), .unset, .unset, .unset] [(.ref b166)])) _
                          refine XS.astore X180.here hx rfl (hb hby at_312) rfl rfl (l' := #[.val (.int p0), .val (.int p1), .val (.int p2), .val (.int p3), .val (.int (Int32.ofNat tn)), .val (.int (Int32.ofNat un)), .val (.int (Int32.ofNat sn)), .val (.int k84_0), .val (.int k86_0), .val (.int t0), .val (.int t1), .val (.int t2), .val (.int k91_0), .val (.int k95_0), .val (.int k99_0), .val (.ref b103), .val (.ref b139), .val (.ref b166), .unset, .unset]) rfl ?_
                          show Steps p.tables e below (T180.setTop (mkF m 314 #[.val (.int p0), .val (.int p1), .val (.int p2), .val (.int p3), .val (.int (Int32.ofNat tn)), .val (.int (Int32.ofNat un)), .val (.int (Int32.ofNat sn)), .val (.int k84_0), .val (.int k86_0), .val (.int t0), .val (.int t1), .val (.int t2), .val (.int k91_0), .val (.int k95_0), .val (.int k99_0), .val (.ref b103), .val (.ref b139), .val (.ref b166), .unset, .unset] [])) _
                          refine XS.aload X180.here hx rfl (hb hby at_314) rfl rfl ?_
                          show Steps p.tables e below (T180.setTop (mkF m 316 #[.val (.int p0), .val (.int p1), .val (.int p2), .val (.int p3), .val (.int (Int32.ofNat tn)), .val (.int (Int32.ofNat un)), .val (.int (Int32.ofNat sn)), .val (.int k84_0), .val (.int k86_0), .val (.int t0), .val (.int t1), .val (.int t2), .val (.int k91_0), .val (.int k95_0), .val (.int k99_0), .val (.ref b103), .val (.ref b139), .val (.ref b166), .unset, .unset] [(.ref b166)])) _
                          refine XS.iload X180.here hx rfl (hb hby at_316) rfl ?_
                          show Steps p.tables e below (T180.setTop (mkF m 318 #[.val (.int p0), .val (.int p1), .val (.int p2), .val (.int p3), .val (.int (Int32.ofNat tn)), .val (.int (Int32.ofNat un)), .val (.int (Int32.ofNat sn)), .val (.int k84_0), .val (.int k86_0), .val (.int t0), .val (.int t1), .val (.int t2), .val (.int k91_0), .val (.int k95_0), .val (.int k99_0), .val (.ref b103), .val (.ref b139), .val (.ref b166), .unset, .unset] [(.int (Int32.ofNat sn)), (.ref b166)])) _
                          refine XS.aload X180.here hx rfl (hb hby at_318) rfl rfl ?_
                          exact kt
                        obtain ⟨cq186, kq186, qa186, qb186, qc186⟩ := isOf hZ e180 A166_184
                        obtain ⟨_, _, ⟨T186, L186, k186, n186⟩, -, X186, ⟨Lc186, hQ186, l186, y186, z186⟩, st186⟩ := X180.virtualBack hx (y := (⟨"com/example/kenning/kenning/index/Decoder", "compareText", "(I[B)I"⟩ : MethodName)) (z := (⟨"com/example/kenning/kenning/index/Decoder", "compareText", "(I[B)I"⟩ : MethodName)) hown (mvT hZ (hw _ (List.mem_of_getElem? (i := 31) rfl))) (mvT hZ (hw _ (List.mem_of_getElem? (i := 32) rfl))) (notFace_of_selects (args := #[]) (mvT hZ (hw _ (List.mem_of_getElem? (i := 34) rfl)))) (mvT hZ (hw _ (List.mem_of_getElem? (i := 34) rfl))) (mvT hZ (hw _ (List.mem_of_getElem? (i := 33) rfl))) (by decide) (backOf (W := 0) (rm4 l Z a0 hw [] b166 sn b139 un (y131_b103.set (sn + tn) (-1 : Int32)) [y142_b139_0, y150_b139_1, y158_b139_2] b103 k103 k139 h180 n0 Z0_181 G180_bytes V137_182 V160_183 hsn hun) hZ (hw _ (List.mem_of_getElem? (i := 35) rfl)) (hw _ (List.mem_of_getElem? (i := 7) rfl)) (by decide) (by decide)) qa186 qc186 (g := (mkF m 320 #[.val (.int p0), .val (.int p1), .val (.int p2), .val (.int p3), .val (.int (Int32.ofNat tn)), .val (.int (Int32.ofNat un)), .val (.int (Int32.ofNat sn)), .val (.int k84_0), .val (.int k86_0), .val (.int t0), .val (.int t1), .val (.int t2), .val (.int k91_0), .val (.int k95_0), .val (.int k99_0), .val (.ref b103), .val (.ref b139), .val (.ref b166), .unset, .unset] [(.ref b139), (.int (Int32.ofNat sn)), (.ref b166)])) rfl (by rw [hml]; rfl) (Steps.refl _) (argsL := [(.int (Int32.ofNat sn)), (.ref b139)]) (rest := []) (lenOf pd_2 rfl) rfl (by show 2 * 0 + _ ≤ _; exact Nat.le_of_eq rfl) (hb hby at_320) (fun _ _ => ⟨rfl, e180, (by decide : 5 + 0 ≤ _), (by decide : 24 + 0 ≤ _)⟩)
                        dsimp only [Pt.U, Pt.locs, Pt.cells, Pt.slots] at X186 l186 y186 z186 st186 hQ186
                        subst y186 z186
                        obtain ⟨rfl, Nq186, e186⟩ := hQ186
                        have N186 : Fr n0 L186 := by rw [l186]; exact Fr.app N180 Nq186
                        refine GotW.hop st186 ?_
                        show GotW p e below s _ _ _ _ T186 (mkF m 323 #[.val (.int p0), .val (.int p1), .val (.int p2), .val (.int p3), .val (.int (Int32.ofNat tn)), .val (.int (Int32.ofNat un)), .val (.int (Int32.ofNat sn)), .val (.int k84_0), .val (.int k86_0), .val (.int t0), .val (.int t1), .val (.int t2), .val (.int k91_0), .val (.int k95_0), .val (.int k99_0), .val (.ref b103), .val (.ref b139), .val (.ref b166), .unset, .unset] [(.int (ct (y131_b103.set (sn + tn) (-1 : Int32)) [y142_b139_0, y150_b139_1, y158_b139_2] sn un 0))])
                        refine GotW.step (T' := T186) (g' := (mkF m 333 #[.val (.int p0), .val (.int p1), .val (.int p2), .val (.int p3), .val (.int (Int32.ofNat tn)), .val (.int (Int32.ofNat un)), .val (.int (Int32.ofNat sn)), .val (.int k84_0), .val (.int k86_0), .val (.int t0), .val (.int t1), .val (.int t2), .val (.int k91_0), .val (.int k95_0), .val (.int k99_0), .val (.ref b103), .val (.ref b139), .val (.ref b166), .val (.int (ct (y131_b103.set (sn + tn) (-1 : Int32)) [y142_b139_0, y150_b139_1, y158_b139_2] sn un 0)), .unset] [(.int (Int32.ofNat tn)), (.int t2), (.int t1), (.int t0)])) (fun tq kt => ?_) ?_
                        · show Steps p.tables e below (T186.setTop (mkF m 323 #[.val (.int p0), .val (.int p1), .val (.int p2), .val (.int p3), .val (.int (Int32.ofNat tn)), .val (.int (Int32.ofNat un)), .val (.int (Int32.ofNat sn)), .val (.int k84_0), .val (.int k86_0), .val (.int t0), .val (.int t1), .val (.int t2), .val (.int k91_0), .val (.int k95_0), .val (.int k99_0), .val (.ref b103), .val (.ref b139), .val (.ref b166), .unset, .unset] [(.int (ct (y131_b103.set (sn + tn) (-1 : Int32)) [y142_b139_0, y150_b139_1, y158_b139_2] sn un 0))])) _
                          refine XS.istore X186.here hx rfl (hb hby at_323) rfl (l' := #[.val (.int p0), .val (.int p1), .val (.int p2), .val (.int p3), .val (.int (Int32.ofNat tn)), .val (.int (Int32.ofNat un)), .val (.int (Int32.ofNat sn)), .val (.int k84_0), .val (.int k86_0), .val (.int t0), .val (.int t1), .val (.int t2), .val (.int k91_0), .val (.int k95_0), .val (.int k99_0), .val (.ref b103), .val (.ref b139), .val (.ref b166), .val (.int (ct (y131_b103.set (sn + tn) (-1 : Int32)) [y142_b139_0, y150_b139_1, y158_b139_2] sn un 0)), .unset]) rfl ?_
                          show Steps p.tables e below (T186.setTop (mkF m 325 #[.val (.int p0), .val (.int p1), .val (.int p2), .val (.int p3), .val (.int (Int32.ofNat tn)), .val (.int (Int32.ofNat un)), .val (.int (Int32.ofNat sn)), .val (.int k84_0), .val (.int k86_0), .val (.int t0), .val (.int t1), .val (.int t2), .val (.int k91_0), .val (.int k95_0), .val (.int k99_0), .val (.ref b103), .val (.ref b139), .val (.ref b166), .val (.int (ct (y131_b103.set (sn + tn) (-1 : Int32)) [y142_b139_0, y150_b139_1, y158_b139_2] sn un 0)), .unset] [])) _
                          refine XS.iload X186.here hx rfl (hb hby at_325) rfl ?_
                          show Steps p.tables e below (T186.setTop (mkF m 327 #[.val (.int p0), .val (.int p1), .val (.int p2), .val (.int p3), .val (.int (Int32.ofNat tn)), .val (.int (Int32.ofNat un)), .val (.int (Int32.ofNat sn)), .val (.int k84_0), .val (.int k86_0), .val (.int t0), .val (.int t1), .val (.int t2), .val (.int k91_0), .val (.int k95_0), .val (.int k99_0), .val (.ref b103), .val (.ref b139), .val (.ref b166), .val (.int (ct (y131_b103.set (sn + tn) (-1 : Int32)) [y142_b139_0, y150_b139_1, y158_b139_2] sn un 0)), .unset] [(.int t0)])) _
                          refine XS.iload X186.here hx rfl (hb hby at_327) rfl ?_
                          show Steps p.tables e below (T186.setTop (mkF m 329 #[.val (.int p0), .val (.int p1), .val (.int p2), .val (.int p3), .val (.int (Int32.ofNat tn)), .val (.int (Int32.ofNat un)), .val (.int (Int32.ofNat sn)), .val (.int k84_0), .val (.int k86_0), .val (.int t0), .val (.int t1), .val (.int t2), .val (.int k91_0), .val (.int k95_0), .val (.int k99_0), .val (.ref b103), .val (.ref b139), .val (.ref b166), .val (.int (ct (y131_b103.set (sn + tn) (-1 : Int32)) [y142_b139_0, y150_b139_1, y158_b139_2] sn un 0)), .unset] [(.int t1), (.int t0)])) _
                          refine XS.iload X186.here hx rfl (hb hby at_329) rfl ?_
                          show Steps p.tables e below (T186.setTop (mkF m 331 #[.val (.int p0), .val (.int p1), .val (.int p2), .val (.int p3), .val (.int (Int32.ofNat tn)), .val (.int (Int32.ofNat un)), .val (.int (Int32.ofNat sn)), .val (.int k84_0), .val (.int k86_0), .val (.int t0), .val (.int t1), .val (.int t2), .val (.int k91_0), .val (.int k95_0), .val (.int k99_0), .val (.ref b103), .val (.ref b139), .val (.ref b166), .val (.int (ct (y131_b103.set (sn + tn) (-1 : Int32)) [y142_b139_0, y150_b139_1, y158_b139_2] sn un 0)), .unset] [(.int t2), (.int t1), (.int t0)])) _
                          refine XS.iload X186.here hx rfl (hb hby at_331) rfl ?_
                          exact kt
                        obtain ⟨_, _, ⟨T187, L187, k187, n187⟩, -, X187, ⟨Lc187, hQ187, l187, y187, z187⟩, st187⟩ := Jvm.LawKit.callS X186 hx (y := (⟨"com/example/kenning/kenning/index/DecoderCompareTextPinLaw", "key", "(IIII)I"⟩ : MethodName)) hown (mvT hZ (hw _ (List.mem_of_getElem? (i := 36) rfl))) (mvT hZ (hw _ (List.mem_of_getElem? (i := 37) rfl))) (mvT hZ (hw _ (List.mem_of_getElem? (i := 2) rfl))) (mvT hZ (hw _ (List.mem_of_getElem? (i := 38) rfl))) (by decide) (backOf (W := 0) (rm5 l Z a0 hw [] t0 t1 t2 (Int32.ofNat tn) h180 n0 Z0_181) hZ (hw _ (List.mem_of_getElem? (i := 38) rfl)) (hw _ (List.mem_of_getElem? (i := 2) rfl)) (by decide) (by decide)) (g := (mkF m 333 #[.val (.int p0), .val (.int p1), .val (.int p2), .val (.int p3), .val (.int (Int32.ofNat tn)), .val (.int (Int32.ofNat un)), .val (.int (Int32.ofNat sn)), .val (.int k84_0), .val (.int k86_0), .val (.int t0), .val (.int t1), .val (.int t2), .val (.int k91_0), .val (.int k95_0), .val (.int k99_0), .val (.ref b103), .val (.ref b139), .val (.ref b166), .val (.int (ct (y131_b103.set (sn + tn) (-1 : Int32)) [y142_b139_0, y150_b139_1, y158_b139_2] sn un 0)), .unset] [(.int (Int32.ofNat tn)), (.int t2), (.int t1), (.int t0)])) rfl (by rw [hml]; rfl) (argsL := [(.int t0), (.int t1), (.int t2), (.int (Int32.ofNat tn))]) (rest := []) (lenOf pd_3 rfl) rfl (by show 2 * 0 + _ ≤ _; exact Nat.le_of_eq rfl) (hb hby at_333) (fun _ _ => ⟨rfl, e186, (by decide : 5 + 0 ≤ _), (by decide : 24 + 0 ≤ _)⟩)
                        dsimp only [Pt.U, Pt.locs, Pt.cells, Pt.slots] at X187 l187 y187 z187 st187 hQ187
                        subst y187 z187
                        obtain ⟨rfl, Nq187, e187⟩ := hQ187
                        have N187 : Fr n0 L187 := by rw [l187]; exact Fr.app N186 Nq187
                        refine GotW.step st187 ?_
                        show GotW p e below s _ _ _ _ T187 (mkF m 336 #[.val (.int p0), .val (.int p1), .val (.int p2), .val (.int p3), .val (.int (Int32.ofNat tn)), .val (.int (Int32.ofNat un)), .val (.int (Int32.ofNat sn)), .val (.int k84_0), .val (.int k86_0), .val (.int t0), .val (.int t1), .val (.int t2), .val (.int k91_0), .val (.int k95_0), .val (.int k99_0), .val (.ref b103), .val (.ref b139), .val (.ref b166), .val (.int (ct (y131_b103.set (sn + tn) (-1 : Int32)) [y142_b139_0, y150_b139_1, y158_b139_2] sn un 0)), .unset] [(.int (f5 t0 t1 t2 (Int32.ofNat tn)))])
                        refine GotW.step (T' := T187) (g' := (mkF m 344 #[.val (.int p0), .val (.int p1), .val (.int p2), .val (.int p3), .val (.int (Int32.ofNat tn)), .val (.int (Int32.ofNat un)), .val (.int (Int32.ofNat sn)), .val (.int k84_0), .val (.int k86_0), .val (.int t0), .val (.int t1), .val (.int t2), .val (.int k91_0), .val (.int k95_0), .val (.int k99_0), .val (.ref b103), .val (.ref b139), .val (.ref b166), .val (.int (ct (y131_b103.set (sn + tn) (-1 : Int32)) [y142_b139_0, y150_b139_1, y158_b139_2] sn un 0)), .unset] [(.int (Int32.ofNat un)), (.int k99_0), (.int k95_0), (.int k91_0), (.int (f5 t0 t1 t2 (Int32.ofNat tn)))])) (fun tq kt => ?_) ?_
                        · show Steps p.tables e below (T187.setTop (mkF m 336 #[.val (.int p0), .val (.int p1), .val (.int p2), .val (.int p3), .val (.int (Int32.ofNat tn)), .val (.int (Int32.ofNat un)), .val (.int (Int32.ofNat sn)), .val (.int k84_0), .val (.int k86_0), .val (.int t0), .val (.int t1), .val (.int t2), .val (.int k91_0), .val (.int k95_0), .val (.int k99_0), .val (.ref b103), .val (.ref b139), .val (.ref b166), .val (.int (ct (y131_b103.set (sn + tn) (-1 : Int32)) [y142_b139_0, y150_b139_1, y158_b139_2] sn un 0)), .unset] [(.int (f5 t0 t1 t2 (Int32.ofNat tn)))])) _
                          refine XS.iload X187.here hx rfl (hb hby at_336) rfl ?_
                          show Steps p.tables e below (T187.setTop (mkF m 338 #[.val (.int p0), .val (.int p1), .val (.int p2), .val (.int p3), .val (.int (Int32.ofNat tn)), .val (.int (Int32.ofNat un)), .val (.int (Int32.ofNat sn)), .val (.int k84_0), .val (.int k86_0), .val (.int t0), .val (.int t1), .val (.int t2), .val (.int k91_0), .val (.int k95_0), .val (.int k99_0), .val (.ref b103), .val (.ref b139), .val (.ref b166), .val (.int (ct (y131_b103.set (sn + tn) (-1 : Int32)) [y142_b139_0, y150_b139_1, y158_b139_2] sn un 0)), .unset] [(.int k91_0), (.int (f5 t0 t1 t2 (Int32.ofNat tn)))])) _
                          refine XS.iload X187.here hx rfl (hb hby at_338) rfl ?_
                          show Steps p.tables e below (T187.setTop (mkF m 340 #[.val (.int p0), .val (.int p1), .val (.int p2), .val (.int p3), .val (.int (Int32.ofNat tn)), .val (.int (Int32.ofNat un)), .val (.int (Int32.ofNat sn)), .val (.int k84_0), .val (.int k86_0), .val (.int t0), .val (.int t1), .val (.int t2), .val (.int k91_0), .val (.int k95_0), .val (.int k99_0), .val (.ref b103), .val (.ref b139), .val (.ref b166), .val (.int (ct (y131_b103.set (sn + tn) (-1 : Int32)) [y142_b139_0, y150_b139_1, y158_b139_2] sn un 0)), .unset] [(.int k95_0), (.int k91_0), (.int (f5 t0 t1 t2 (Int32.ofNat tn)))])) _
                          refine XS.iload X187.here hx rfl (hb hby at_340) rfl ?_
                          show Steps p.tables e below (T187.setTop (mkF m 342 #[.val (.int p0), .val (.int p1), .val (.int p2), .val (.int p3), .val (.int (Int32.ofNat tn)), .val (.int (Int32.ofNat un)), .val (.int (Int32.ofNat sn)), .val (.int k84_0), .val (.int k86_0), .val (.int t0), .val (.int t1), .val (.int t2), .val (.int k91_0), .val (.int k95_0), .val (.int k99_0), .val (.ref b103), .val (.ref b139), .val (.ref b166), .val (.int (ct (y131_b103.set (sn + tn) (-1 : Int32)) [y142_b139_0, y150_b139_1, y158_b139_2] sn un 0)), .unset] [(.int k99_0), (.int k95_0), (.int k91_0), (.int (f5 t0 t1 t2 (Int32.ofNat tn)))])) _
                          refine XS.iload X187.here hx rfl (hb hby at_342) rfl ?_
                          exact kt
                        obtain ⟨_, _, ⟨T188, L188, k188, n188⟩, -, X188, ⟨Lc188, hQ188, l188, y188, z188⟩, st188⟩ := Jvm.LawKit.callS X187 hx (y := (⟨"com/example/kenning/kenning/index/DecoderCompareTextPinLaw", "key", "(IIII)I"⟩ : MethodName)) hown (mvT hZ (hw _ (List.mem_of_getElem? (i := 36) rfl))) (mvT hZ (hw _ (List.mem_of_getElem? (i := 37) rfl))) (mvT hZ (hw _ (List.mem_of_getElem? (i := 2) rfl))) (mvT hZ (hw _ (List.mem_of_getElem? (i := 38) rfl))) (by decide) (backOf (W := 1) (rm5 l Z a0 hw [] k91_0 k95_0 k99_0 (Int32.ofNat un) h180 n0 Z0_181) hZ (hw _ (List.mem_of_getElem? (i := 38) rfl)) (hw _ (List.mem_of_getElem? (i := 2) rfl)) (by decide) (by decide)) (g := (mkF m 344 #[.val (.int p0), .val (.int p1), .val (.int p2), .val (.int p3), .val (.int (Int32.ofNat tn)), .val (.int (Int32.ofNat un)), .val (.int (Int32.ofNat sn)), .val (.int k84_0), .val (.int k86_0), .val (.int t0), .val (.int t1), .val (.int t2), .val (.int k91_0), .val (.int k95_0), .val (.int k99_0), .val (.ref b103), .val (.ref b139), .val (.ref b166), .val (.int (ct (y131_b103.set (sn + tn) (-1 : Int32)) [y142_b139_0, y150_b139_1, y158_b139_2] sn un 0)), .unset] [(.int (Int32.ofNat un)), (.int k99_0), (.int k95_0), (.int k91_0), (.int (f5 t0 t1 t2 (Int32.ofNat tn)))])) rfl (by rw [hml]; rfl) (argsL := [(.int k91_0), (.int k95_0), (.int k99_0), (.int (Int32.ofNat un))]) (rest := [(.int (f5 t0 t1 t2 (Int32.ofNat tn)))]) (lenOf pd_3 rfl) rfl (by show 2 * 0 + _ ≤ _; exact Nat.le_of_eq rfl) (hb hby at_344) (fun _ _ => ⟨rfl, e187, (by decide : 5 + 0 ≤ _), (by decide : 24 + 0 ≤ _)⟩)
                        dsimp only [Pt.U, Pt.locs, Pt.cells, Pt.slots] at X188 l188 y188 z188 st188 hQ188
                        subst y188 z188
                        obtain ⟨rfl, Nq188, e188⟩ := hQ188
                        have N188 : Fr n0 L188 := by rw [l188]; exact Fr.app N187 Nq188
                        refine GotW.step st188 ?_
                        show GotW p e below s _ _ _ _ T188 (mkF m 347 #[.val (.int p0), .val (.int p1), .val (.int p2), .val (.int p3), .val (.int (Int32.ofNat tn)), .val (.int (Int32.ofNat un)), .val (.int (Int32.ofNat sn)), .val (.int k84_0), .val (.int k86_0), .val (.int t0), .val (.int t1), .val (.int t2), .val (.int k91_0), .val (.int k95_0), .val (.int k99_0), .val (.ref b103), .val (.ref b139), .val (.ref b166), .val (.int (ct (y131_b103.set (sn + tn) (-1 : Int32)) [y142_b139_0, y150_b139_1, y158_b139_2] sn un 0)), .unset] [(.int (f5 k91_0 k95_0 k99_0 (Int32.ofNat un))), (.int (f5 t0 t1 t2 (Int32.ofNat tn)))])
                        refine GotW.step (T' := T188) (g' := (mkF m 352 #[.val (.int p0), .val (.int p1), .val (.int p2), .val (.int p3), .val (.int (Int32.ofNat tn)), .val (.int (Int32.ofNat un)), .val (.int (Int32.ofNat sn)), .val (.int k84_0), .val (.int k86_0), .val (.int t0), .val (.int t1), .val (.int t2), .val (.int k91_0), .val (.int k95_0), .val (.int k99_0), .val (.ref b103), .val (.ref b139), .val (.ref b166), .val (.int (ct (y131_b103.set (sn + tn) (-1 : Int32)) [y142_b139_0, y150_b139_1, y158_b139_2] sn un 0)), .val (.int ((f5 t0 t1 t2 (Int32.ofNat tn)) - (f5 k91_0 k95_0 k99_0 (Int32.ofNat un))))] [(.int (ct (y131_b103.set (sn + tn) (-1 : Int32)) [y142_b139_0, y150_b139_1, y158_b139_2] sn un 0))])) (fun tq kt => ?_) ?_
                        · show Steps p.tables e below (T188.setTop (mkF m 347 #[.val (.int p0), .val (.int p1), .val (.int p2), .val (.int p3), .val (.int (Int32.ofNat tn)), .val (.int (Int32.ofNat un)), .val (.int (Int32.ofNat sn)), .val (.int k84_0), .val (.int k86_0), .val (.int t0), .val (.int t1), .val (.int t2), .val (.int k91_0), .val (.int k95_0), .val (.int k99_0), .val (.ref b103), .val (.ref b139), .val (.ref b166), .val (.int (ct (y131_b103.set (sn + tn) (-1 : Int32)) [y142_b139_0, y150_b139_1, y158_b139_2] sn un 0)), .unset] [(.int (f5 k91_0 k95_0 k99_0 (Int32.ofNat un))), (.int (f5 t0 t1 t2 (Int32.ofNat tn)))])) _
                          refine XS.isub X188.here hx rfl (hb hby at_347) rfl ?_
                          show Steps p.tables e below (T188.setTop (mkF m 348 #[.val (.int p0), .val (.int p1), .val (.int p2), .val (.int p3), .val (.int (Int32.ofNat tn)), .val (.int (Int32.ofNat un)), .val (.int (Int32.ofNat sn)), .val (.int k84_0), .val (.int k86_0), .val (.int t0), .val (.int t1), .val (.int t2), .val (.int k91_0), .val (.int k95_0), .val (.int k99_0), .val (.ref b103), .val (.ref b139), .val (.ref b166), .val (.int (ct (y131_b103.set (sn + tn) (-1 : Int32)) [y142_b139_0, y150_b139_1, y158_b139_2] sn un 0)), .unset] [(.int ((f5 t0 t1 t2 (Int32.ofNat tn)) - (f5 k91_0 k95_0 k99_0 (Int32.ofNat un))))])) _
                          refine XS.istore X188.here hx rfl (hb hby at_348) rfl (l' := #[.val (.int p0), .val (.int p1), .val (.int p2), .val (.int p3), .val (.int (Int32.ofNat tn)), .val (.int (Int32.ofNat un)), .val (.int (Int32.ofNat sn)), .val (.int k84_0), .val (.int k86_0), .val (.int t0), .val (.int t1), .val (.int t2), .val (.int k91_0), .val (.int k95_0), .val (.int k99_0), .val (.ref b103), .val (.ref b139), .val (.ref b166), .val (.int (ct (y131_b103.set (sn + tn) (-1 : Int32)) [y142_b139_0, y150_b139_1, y158_b139_2] sn un 0)), .val (.int ((f5 t0 t1 t2 (Int32.ofNat tn)) - (f5 k91_0 k95_0 k99_0 (Int32.ofNat un))))]) rfl ?_
                          show Steps p.tables e below (T188.setTop (mkF m 350 #[.val (.int p0), .val (.int p1), .val (.int p2), .val (.int p3), .val (.int (Int32.ofNat tn)), .val (.int (Int32.ofNat un)), .val (.int (Int32.ofNat sn)), .val (.int k84_0), .val (.int k86_0), .val (.int t0), .val (.int t1), .val (.int t2), .val (.int k91_0), .val (.int k95_0), .val (.int k99_0), .val (.ref b103), .val (.ref b139), .val (.ref b166), .val (.int (ct (y131_b103.set (sn + tn) (-1 : Int32)) [y142_b139_0, y150_b139_1, y158_b139_2] sn un 0)), .val (.int ((f5 t0 t1 t2 (Int32.ofNat tn)) - (f5 k91_0 k95_0 k99_0 (Int32.ofNat un))))] [])) _
                          refine XS.iload X188.here hx rfl (hb hby at_350) rfl ?_
                          exact kt
                        obtain ⟨_, _, ⟨T189, L189, k189, n189⟩, -, X189, ⟨Lc189, hQ189, l189, y189, z189⟩, st189⟩ := Jvm.LawKit.callS X188 hx (y := (⟨"com/example/kenning/kenning/index/DecoderCompareTextPinLaw", "sign", "(I)I"⟩ : MethodName)) hown (mvT hZ (hw _ (List.mem_of_getElem? (i := 40) rfl))) (mvT hZ (hw _ (List.mem_of_getElem? (i := 41) rfl))) (mvT hZ (hw _ (List.mem_of_getElem? (i := 2) rfl))) (mvT hZ (hw _ (List.mem_of_getElem? (i := 42) rfl))) (by decide) (backOf (W := 0) (rm6 l Z a0 hw [] (ct (y131_b103.set (sn + tn) (-1 : Int32)) [y142_b139_0, y150_b139_1, y158_b139_2] sn un 0) h180 n0 Z0_181) hZ (hw _ (List.mem_of_getElem? (i := 42) rfl)) (hw _ (List.mem_of_getElem? (i := 2) rfl)) (by decide) (by decide)) (g := (mkF m 352 #[.val (.int p0), .val (.int p1), .val (.int p2), .val (.int p3), .val (.int (Int32.ofNat tn)), .val (.int (Int32.ofNat un)), .val (.int (Int32.ofNat sn)), .val (.int k84_0), .val (.int k86_0), .val (.int t0), .val (.int t1), .val (.int t2), .val (.int k91_0), .val (.int k95_0), .val (.int k99_0), .val (.ref b103), .val (.ref b139), .val (.ref b166), .val (.int (ct (y131_b103.set (sn + tn) (-1 : Int32)) [y142_b139_0, y150_b139_1, y158_b139_2] sn un 0)), .val (.int ((f5 t0 t1 t2 (Int32.ofNat tn)) - (f5 k91_0 k95_0 k99_0 (Int32.ofNat un))))] [(.int (ct (y131_b103.set (sn + tn) (-1 : Int32)) [y142_b139_0, y150_b139_1, y158_b139_2] sn un 0))])) rfl (by rw [hml]; rfl) (argsL := [(.int (ct (y131_b103.set (sn + tn) (-1 : Int32)) [y142_b139_0, y150_b139_1, y158_b139_2] sn un 0))]) (rest := []) (lenOf pd_4 rfl) rfl (by show 2 * 0 + _ ≤ _; exact Nat.le_of_eq rfl) (hb hby at_352) (fun _ _ => ⟨rfl, e188, (by decide : 5 + 0 ≤ _), (by decide : 24 + 0 ≤ _)⟩)
                        dsimp only [Pt.U, Pt.locs, Pt.cells, Pt.slots] at X189 l189 y189 z189 st189 hQ189
                        subst y189 z189
                        obtain ⟨rfl, Nq189, e189⟩ := hQ189
                        have N189 : Fr n0 L189 := by rw [l189]; exact Fr.app N188 Nq189
                        refine GotW.step st189 ?_
                        show GotW p e below s _ _ _ _ T189 (mkF m 355 #[.val (.int p0), .val (.int p1), .val (.int p2), .val (.int p3), .val (.int (Int32.ofNat tn)), .val (.int (Int32.ofNat un)), .val (.int (Int32.ofNat sn)), .val (.int k84_0), .val (.int k86_0), .val (.int t0), .val (.int t1), .val (.int t2), .val (.int k91_0), .val (.int k95_0), .val (.int k99_0), .val (.ref b103), .val (.ref b139), .val (.ref b166), .val (.int (ct (y131_b103.set (sn + tn) (-1 : Int32)) [y142_b139_0, y150_b139_1, y158_b139_2] sn un 0)), .val (.int ((f5 t0 t1 t2 (Int32.ofNat tn)) - (f5 k91_0 k95_0 k99_0 (Int32.ofNat un))))] [(.int (f6 (ct (y131_b103.set (sn + tn) (-1 : Int32)) [y142_b139_0, y150_b139_1, y158_b139_2] sn un 0)))])
                        refine GotW.step (T' := T189) (g' := (mkF m 357 #[.val (.int p0), .val (.int p1), .val (.int p2), .val (.int p3), .val (.int (Int32.ofNat tn)), .val (.int (Int32.ofNat un)), .val (.int (Int32.ofNat sn)), .val (.int k84_0), .val (.int k86_0), .val (.int t0), .val (.int t1), .val (.int t2), .val (.int k91_0), .val (.int k95_0), .val (.int k99_0), .val (.ref b103), .val (.ref b139), .val (.ref b166), .val (.int (ct (y131_b103.set (sn + tn) (-1 : Int32)) [y142_b139_0, y150_b139_1, y158_b139_2] sn un 0)), .val (.int ((f5 t0 t1 t2 (Int32.ofNat tn)) - (f5 k91_0 k95_0 k99_0 (Int32.ofNat un))))] [(.int ((f5 t0 t1 t2 (Int32.ofNat tn)) - (f5 k91_0 k95_0 k99_0 (Int32.ofNat un)))), (.int (f6 (ct (y131_b103.set (sn + tn) (-1 : Int32)) [y142_b139_0, y150_b139_1, y158_b139_2] sn un 0)))])) (fun tq kt => ?_) ?_
                        · show Steps p.tables e below (T189.setTop (mkF m 355 #[.val (.int p0), .val (.int p1), .val (.int p2), .val (.int p3), .val (.int (Int32.ofNat tn)), .val (.int (Int32.ofNat un)), .val (.int (Int32.ofNat sn)), .val (.int k84_0), .val (.int k86_0), .val (.int t0), .val (.int t1), .val (.int t2), .val (.int k91_0), .val (.int k95_0), .val (.int k99_0), .val (.ref b103), .val (.ref b139), .val (.ref b166), .val (.int (ct (y131_b103.set (sn + tn) (-1 : Int32)) [y142_b139_0, y150_b139_1, y158_b139_2] sn un 0)), .val (.int ((f5 t0 t1 t2 (Int32.ofNat tn)) - (f5 k91_0 k95_0 k99_0 (Int32.ofNat un))))] [(.int (f6 (ct (y131_b103.set (sn + tn) (-1 : Int32)) [y142_b139_0, y150_b139_1, y158_b139_2] sn un 0)))])) _
                          refine XS.iload X189.here hx rfl (hb hby at_355) rfl ?_
                          exact kt
                        obtain ⟨_, _, ⟨T190, L190, k190, n190⟩, -, X190, ⟨Lc190, hQ190, l190, y190, z190⟩, st190⟩ := Jvm.LawKit.callS X189 hx (y := (⟨"com/example/kenning/kenning/index/DecoderCompareTextPinLaw", "sign", "(I)I"⟩ : MethodName)) hown (mvT hZ (hw _ (List.mem_of_getElem? (i := 40) rfl))) (mvT hZ (hw _ (List.mem_of_getElem? (i := 41) rfl))) (mvT hZ (hw _ (List.mem_of_getElem? (i := 2) rfl))) (mvT hZ (hw _ (List.mem_of_getElem? (i := 42) rfl))) (by decide) (backOf (W := 1) (rm6 l Z a0 hw [] ((f5 t0 t1 t2 (Int32.ofNat tn)) - (f5 k91_0 k95_0 k99_0 (Int32.ofNat un))) h180 n0 Z0_181) hZ (hw _ (List.mem_of_getElem? (i := 42) rfl)) (hw _ (List.mem_of_getElem? (i := 2) rfl)) (by decide) (by decide)) (g := (mkF m 357 #[.val (.int p0), .val (.int p1), .val (.int p2), .val (.int p3), .val (.int (Int32.ofNat tn)), .val (.int (Int32.ofNat un)), .val (.int (Int32.ofNat sn)), .val (.int k84_0), .val (.int k86_0), .val (.int t0), .val (.int t1), .val (.int t2), .val (.int k91_0), .val (.int k95_0), .val (.int k99_0), .val (.ref b103), .val (.ref b139), .val (.ref b166), .val (.int (ct (y131_b103.set (sn + tn) (-1 : Int32)) [y142_b139_0, y150_b139_1, y158_b139_2] sn un 0)), .val (.int ((f5 t0 t1 t2 (Int32.ofNat tn)) - (f5 k91_0 k95_0 k99_0 (Int32.ofNat un))))] [(.int ((f5 t0 t1 t2 (Int32.ofNat tn)) - (f5 k91_0 k95_0 k99_0 (Int32.ofNat un)))), (.int (f6 (ct (y131_b103.set (sn + tn) (-1 : Int32)) [y142_b139_0, y150_b139_1, y158_b139_2] sn un 0)))])) rfl (by rw [hml]; rfl) (argsL := [(.int ((f5 t0 t1 t2 (Int32.ofNat tn)) - (f5 k91_0 k95_0 k99_0 (Int32.ofNat un))))]) (rest := [(.int (f6 (ct (y131_b103.set (sn + tn) (-1 : Int32)) [y142_b139_0, y150_b139_1, y158_b139_2] sn un 0)))]) (lenOf pd_4 rfl) rfl (by show 2 * 0 + _ ≤ _; exact Nat.le_of_eq rfl) (hb hby at_357) (fun _ _ => ⟨rfl, e189, (by decide : 5 + 0 ≤ _), (by decide : 24 + 0 ≤ _)⟩)
                        dsimp only [Pt.U, Pt.locs, Pt.cells, Pt.slots] at X190 l190 y190 z190 st190 hQ190
                        subst y190 z190
                        obtain ⟨rfl, Nq190, e190⟩ := hQ190
                        have N190 : Fr n0 L190 := by rw [l190]; exact Fr.app N189 Nq190
                        refine GotW.step st190 ?_
                        show GotW p e below s _ _ _ _ T190 (mkF m 360 #[.val (.int p0), .val (.int p1), .val (.int p2), .val (.int p3), .val (.int (Int32.ofNat tn)), .val (.int (Int32.ofNat un)), .val (.int (Int32.ofNat sn)), .val (.int k84_0), .val (.int k86_0), .val (.int t0), .val (.int t1), .val (.int t2), .val (.int k91_0), .val (.int k95_0), .val (.int k99_0), .val (.ref b103), .val (.ref b139), .val (.ref b166), .val (.int (ct (y131_b103.set (sn + tn) (-1 : Int32)) [y142_b139_0, y150_b139_1, y158_b139_2] sn un 0)), .val (.int ((f5 t0 t1 t2 (Int32.ofNat tn)) - (f5 k91_0 k95_0 k99_0 (Int32.ofNat un))))] [(.int (f6 ((f5 t0 t1 t2 (Int32.ofNat tn)) - (f5 k91_0 k95_0 k99_0 (Int32.ofNat un))))), (.int (f6 (ct (y131_b103.set (sn + tn) (-1 : Int32)) [y142_b139_0, y150_b139_1, y158_b139_2] sn un 0)))])
                        refine GotW.step (T' := T190) (g' := (mkF m 368 #[.val (.int p0), .val (.int p1), .val (.int p2), .val (.int p3), .val (.int (Int32.ofNat tn)), .val (.int (Int32.ofNat un)), .val (.int (Int32.ofNat sn)), .val (.int k84_0), .val (.int k86_0), .val (.int t0), .val (.int t1), .val (.int t2), .val (.int k91_0), .val (.int k95_0), .val (.int k99_0), .val (.ref b103), .val (.ref b139), .val (.ref b166), .val (.int (ct (y131_b103.set (sn + tn) (-1 : Int32)) [y142_b139_0, y150_b139_1, y158_b139_2] sn un 0)), .val (.int ((f5 t0 t1 t2 (Int32.ofNat tn)) - (f5 k91_0 k95_0 k99_0 (Int32.ofNat un))))] [(.int (1 : Int32))])) (fun tq kt => ?_) ?_
                        · show Steps p.tables e below (T190.setTop (mkF m 360 #[.val (.int p0), .val (.int p1), .val (.int p2), .val (.int p3), .val (.int (Int32.ofNat tn)), .val (.int (Int32.ofNat un)), .val (.int (Int32.ofNat sn)), .val (.int k84_0), .val (.int k86_0), .val (.int t0), .val (.int t1), .val (.int t2), .val (.int k91_0), .val (.int k95_0), .val (.int k99_0), .val (.ref b103), .val (.ref b139), .val (.ref b166), .val (.int (ct (y131_b103.set (sn + tn) (-1 : Int32)) [y142_b139_0, y150_b139_1, y158_b139_2] sn un 0)), .val (.int ((f5 t0 t1 t2 (Int32.ofNat tn)) - (f5 k91_0 k95_0 k99_0 (Int32.ofNat un))))] [(.int (f6 ((f5 t0 t1 t2 (Int32.ofNat tn)) - (f5 k91_0 k95_0 k99_0 (Int32.ofNat un))))), (.int (f6 (ct (y131_b103.set (sn + tn) (-1 : Int32)) [y142_b139_0, y150_b139_1, y158_b139_2] sn un 0)))])) _
                          refine XS.icmpNo X190.here hx rfl (hb hby at_360) rfl (XT.ii_ne_f (own_fin hsn htn hun ht0 ht1 ht2 hl0 hk91_0 hk95_0 hk99_0 hy119_b103 hy125_b103 hy131_b103 hy142_b139_0 hy150_b139_1 hy158_b139_2)) ?_
                          show Steps p.tables e below (T190.setTop (mkF m 363 #[.val (.int p0), .val (.int p1), .val (.int p2), .val (.int p3), .val (.int (Int32.ofNat tn)), .val (.int (Int32.ofNat un)), .val (.int (Int32.ofNat sn)), .val (.int k84_0), .val (.int k86_0), .val (.int t0), .val (.int t1), .val (.int t2), .val (.int k91_0), .val (.int k95_0), .val (.int k99_0), .val (.ref b103), .val (.ref b139), .val (.ref b166), .val (.int (ct (y131_b103.set (sn + tn) (-1 : Int32)) [y142_b139_0, y150_b139_1, y158_b139_2] sn un 0)), .val (.int ((f5 t0 t1 t2 (Int32.ofNat tn)) - (f5 k91_0 k95_0 k99_0 (Int32.ofNat un))))] [])) _
                          refine XS.iconst X190.here hx rfl (hb hby at_363) ?_
                          show Steps p.tables e below (T190.setTop (mkF m 364 #[.val (.int p0), .val (.int p1), .val (.int p2), .val (.int p3), .val (.int (Int32.ofNat tn)), .val (.int (Int32.ofNat un)), .val (.int (Int32.ofNat sn)), .val (.int k84_0), .val (.int k86_0), .val (.int t0), .val (.int t1), .val (.int t2), .val (.int k91_0), .val (.int k95_0), .val (.int k99_0), .val (.ref b103), .val (.ref b139), .val (.ref b166), .val (.int (ct (y131_b103.set (sn + tn) (-1 : Int32)) [y142_b139_0, y150_b139_1, y158_b139_2] sn un 0)), .val (.int ((f5 t0 t1 t2 (Int32.ofNat tn)) - (f5 k91_0 k95_0 k99_0 (Int32.ofNat un))))] [(.int (1 : Int32))])) _
                          refine XS.goto X190.here hx rfl (pc0 := 364) (pc' := 368) rfl (hb hby at_364) (by decide) (by decide) ?_
                          exact kt
                        exact GotW.retN (y := (1 : Int32)) (t := .boolean) hsL hS (by rw [e190]; exact hk170_185) X190 hx Bd.returns (by simp) hlk (hb hby at_368) (by decide) N190 (by decide) (by decide)
                      by_cases hc159 : ((2 : Int32) < (Int32.ofNat un))
                      · refine GotW.step (T' := T150) (g' := (mkF m 300 #[.val (.int p0), .val (.int p1), .val (.int p2), .val (.int p3), .val (.int (Int32.ofNat tn)), .val (.int (Int32.ofNat un)), .val (.int (Int32.ofNat sn)), .val (.int k84_0), .val (.int k86_0), .val (.int t0), .val (.int t1), .val (.int t2), .val (.int k91_0), .val (.int k95_0), .val (.int k99_0), .val (.ref b103), .val (.ref b139), .unset, .unset, .unset] [(.int (k99_0.toInt8.toInt32)), (.int (2 : Int32)), (.ref b139)])) (fun tq kt => ?_) ?_
                        · show Steps p.tables e below (T150.setTop (mkF m 291 #[.val (.int p0), .val (.int p1), .val (.int p2), .val (.int p3), .val (.int (Int32.ofNat tn)), .val (.int (Int32.ofNat un)), .val (.int (Int32.ofNat sn)), .val (.int k84_0), .val (.int k86_0), .val (.int t0), .val (.int t1), .val (.int t2), .val (.int k91_0), .val (.int k95_0), .val (.int k99_0), .val (.ref b103), .val (.ref b139), .unset, .unset, .unset] [(.int (2 : Int32)), (.int (Int32.ofNat un))])) _
                          refine XS.icmpNo X150.here hx rfl (hb hby at_291) rfl (XT.ii_le_f hc159) ?_
                          show Steps p.tables e below (T150.setTop (mkF m 294 #[.val (.int p0), .val (.int p1), .val (.int p2), .val (.int p3), .val (.int (Int32.ofNat tn)), .val (.int (Int32.ofNat un)), .val (.int (Int32.ofNat sn)), .val (.int k84_0), .val (.int k86_0), .val (.int t0), .val (.int t1), .val (.int t2), .val (.int k91_0), .val (.int k95_0), .val (.int k99_0), .val (.ref b103), .val (.ref b139), .unset, .unset, .unset] [])) _
                          refine XS.aload X150.here hx rfl (hb hby at_294) rfl rfl ?_
                          show Steps p.tables e below (T150.setTop (mkF m 296 #[.val (.int p0), .val (.int p1), .val (.int p2), .val (.int p3), .val (.int (Int32.ofNat tn)), .val (.int (Int32.ofNat un)), .val (.int (Int32.ofNat sn)), .val (.int k84_0), .val (.int k86_0), .val (.int t0), .val (.int t1), .val (.int t2), .val (.int k91_0), .val (.int k95_0), .val (.int k99_0), .val (.ref b103), .val (.ref b139), .unset, .unset, .unset] [(.ref b139)])) _
                          refine XS.iconst X150.here hx rfl (hb hby at_296) ?_
                          show Steps p.tables e below (T150.setTop (mkF m 297 #[.val (.int p0), .val (.int p1), .val (.int p2), .val (.int p3), .val (.int (Int32.ofNat tn)), .val (.int (Int32.ofNat un)), .val (.int (Int32.ofNat sn)), .val (.int k84_0), .val (.int k86_0), .val (.int t0), .val (.int t1), .val (.int t2), .val (.int k91_0), .val (.int k95_0), .val (.int k99_0), .val (.ref b103), .val (.ref b139), .unset, .unset, .unset] [(.int (2 : Int32)), (.ref b139)])) _
                          refine XS.iload X150.here hx rfl (hb hby at_297) rfl ?_
                          show Steps p.tables e below (T150.setTop (mkF m 299 #[.val (.int p0), .val (.int p1), .val (.int p2), .val (.int p3), .val (.int (Int32.ofNat tn)), .val (.int (Int32.ofNat un)), .val (.int (Int32.ofNat sn)), .val (.int k84_0), .val (.int k86_0), .val (.int t0), .val (.int t1), .val (.int t2), .val (.int k91_0), .val (.int k95_0), .val (.int k99_0), .val (.ref b103), .val (.ref b139), .unset, .unset, .unset] [(.int k99_0), (.int (2 : Int32)), (.ref b139)])) _
                          refine XS.i2b X150.here hx rfl (hb hby at_299) rfl ?_
                          exact kt
                        obtain ⟨cl160, Ar160, q160, S160, M160, H160, G160⟩ := (id V152_157)
                        have hin160 : ¬ ((2 : Int32) < 0 ∨ cl160.slots.size ≤ ((2 : Int32)).toNatClampNeg) := inb_of S160 ⟨by decide, hc159⟩
                        obtain ⟨T160, h160, X160, e160, W160, st160⟩ := stB X150 hx hZ e150 Ar160 (j := (2 : Int32)) hin160 (g := (mkF m 300 #[.val (.int p0), .val (.int p1), .val (.int p2), .val (.int p3), .val (.int (Int32.ofNat tn)), .val (.int (Int32.ofNat un)), .val (.int (Int32.ofNat sn)), .val (.int k84_0), .val (.int k86_0), .val (.int t0), .val (.int t1), .val (.int t2), .val (.int k91_0), .val (.int k95_0), .val (.int k99_0), .val (.ref b103), .val (.ref b139), .unset, .unset, .unset] [(.int (k99_0.toInt8.toInt32)), (.int (2 : Int32)), (.ref b139)])) rfl rfl (hb hby at_300)
                        rw [narB] at W160
                        have Z0_161 : n0 ≤ h160.size := (Nat.le_trans Z0_155 (Keep.of_wr W160).1)
                        have V137_162 : Arv Z h160 b103 k103 .byte (7 : Int32) ((y131_b103.set (sn + tn) (-1 : Int32)).map Value.int) (.int (0 : Int32)) := (V137_156.other W160 ne_b103_b139)
                        have V160 : Arv Z h160 b139 k139 .byte (Int32.ofNat un) [(.int y142_b139_0), (.int y150_b139_1), (.int (k99_0.toInt8.toInt32))] (.int (0 : Int32)) := Arv.set Ar160 q160 S160 M160 H160 G160 (fits_nar_byte _) W160 2 rfl (Nat.le_of_ble_eq_true rfl)
                        have N160 := Fr.snoc X160 N150 gn_b139
                        refine GotW.step st160 ?_
                        show GotW p e below s _ _ _ _ T160 (mkF m 301 #[.val (.int p0), .val (.int p1), .val (.int p2), .val (.int p3), .val (.int (Int32.ofNat tn)), .val (.int (Int32.ofNat un)), .val (.int (Int32.ofNat sn)), .val (.int k84_0), .val (.int k86_0), .val (.int t0), .val (.int t1), .val (.int t2), .val (.int k91_0), .val (.int k95_0), .val (.int k99_0), .val (.ref b103), .val (.ref b139), .unset, .unset, .unset] [])
                        exact J158 _ _ _ (X160.more (by decide) (by decide)) e160 N160 (k99_0.toInt8.toInt32) (if_pos hc159).symm Z0_161 V137_162 V160
                      · refine GotW.step (T' := T150) (g' := (mkF m 301 #[.val (.int p0), .val (.int p1), .val (.int p2), .val (.int p3), .val (.int (Int32.ofNat tn)), .val (.int (Int32.ofNat un)), .val (.int (Int32.ofNat sn)), .val (.int k84_0), .val (.int k86_0), .val (.int t0), .val (.int t1), .val (.int t2), .val (.int k91_0), .val (.int k95_0), .val (.int k99_0), .val (.ref b103), .val (.ref b139), .unset, .unset, .unset] [])) (fun tq kt => ?_) ?_
                        · show Steps p.tables e below (T150.setTop (mkF m 291 #[.val (.int p0), .val (.int p1), .val (.int p2), .val (.int p3), .val (.int (Int32.ofNat tn)), .val (.int (Int32.ofNat un)), .val (.int (Int32.ofNat sn)), .val (.int k84_0), .val (.int k86_0), .val (.int t0), .val (.int t1), .val (.int t2), .val (.int k91_0), .val (.int k95_0), .val (.int k99_0), .val (.ref b103), .val (.ref b139), .unset, .unset, .unset] [(.int (2 : Int32)), (.int (Int32.ofNat un))])) _
                          refine XS.icmpYes X150.here hx rfl (pc0 := 291) (pc' := 301) rfl (hb hby at_291) rfl (XT.ii_le_t hc159) (by decide) (by decide) ?_
                          exact kt
                        exact J158 _ _ _ (X150.more (by decide) (by decide)) e150 N150 (0 : Int32) (if_neg hc159).symm Z0_155 V137_156 V152_157
                    by_cases hc151 : ((1 : Int32) < (Int32.ofNat un))
                    · refine GotW.step (T' := T142) (g' := (mkF m 287 #[.val (.int p0), .val (.int p1), .val (.int p2), .val (.int p3), .val (.int (Int32.ofNat tn)), .val (.int (Int32.ofNat un)), .val (.int (Int32.ofNat sn)), .val (.int k84_0), .val (.int k86_0), .val (.int t0), .val (.int t1), .val (.int t2), .val (.int k91_0), .val (.int k95_0), .val (.int k99_0), .val (.ref b103), .val (.ref b139), .unset, .unset, .unset] [(.int (k95_0.toInt8.toInt32)), (.int (1 : Int32)), (.ref b139)])) (fun tq kt => ?_) ?_
                      · show Steps p.tables e below (T142.setTop (mkF m 278 #[.val (.int p0), .val (.int p1), .val (.int p2), .val (.int p3), .val (.int (Int32.ofNat tn)), .val (.int (Int32.ofNat un)), .val (.int (Int32.ofNat sn)), .val (.int k84_0), .val (.int k86_0), .val (.int t0), .val (.int t1), .val (.int t2), .val (.int k91_0), .val (.int k95_0), .val (.int k99_0), .val (.ref b103), .val (.ref b139), .unset, .unset, .unset] [(.int (1 : Int32)), (.int (Int32.ofNat un))])) _
                        refine XS.icmpNo X142.here hx rfl (hb hby at_278) rfl (XT.ii_le_f hc151) ?_
                        show Steps p.tables e below (T142.setTop (mkF m 281 #[.val (.int p0), .val (.int p1), .val (.int p2), .val (.int p3), .val (.int (Int32.ofNat tn)), .val (.int (Int32.ofNat un)), .val (.int (Int32.ofNat sn)), .val (.int k84_0), .val (.int k86_0), .val (.int t0), .val (.int t1), .val (.int t2), .val (.int k91_0), .val (.int k95_0), .val (.int k99_0), .val (.ref b103), .val (.ref b139), .unset, .unset, .unset] [])) _
                        refine XS.aload X142.here hx rfl (hb hby at_281) rfl rfl ?_
                        show Steps p.tables e below (T142.setTop (mkF m 283 #[.val (.int p0), .val (.int p1), .val (.int p2), .val (.int p3), .val (.int (Int32.ofNat tn)), .val (.int (Int32.ofNat un)), .val (.int (Int32.ofNat sn)), .val (.int k84_0), .val (.int k86_0), .val (.int t0), .val (.int t1), .val (.int t2), .val (.int k91_0), .val (.int k95_0), .val (.int k99_0), .val (.ref b103), .val (.ref b139), .unset, .unset, .unset] [(.ref b139)])) _
                        refine XS.iconst X142.here hx rfl (hb hby at_283) ?_
                        show Steps p.tables e below (T142.setTop (mkF m 284 #[.val (.int p0), .val (.int p1), .val (.int p2), .val (.int p3), .val (.int (Int32.ofNat tn)), .val (.int (Int32.ofNat un)), .val (.int (Int32.ofNat sn)), .val (.int k84_0), .val (.int k86_0), .val (.int t0), .val (.int t1), .val (.int t2), .val (.int k91_0), .val (.int k95_0), .val (.int k99_0), .val (.ref b103), .val (.ref b139), .unset, .unset, .unset] [(.int (1 : Int32)), (.ref b139)])) _
                        refine XS.iload X142.here hx rfl (hb hby at_284) rfl ?_
                        show Steps p.tables e below (T142.setTop (mkF m 286 #[.val (.int p0), .val (.int p1), .val (.int p2), .val (.int p3), .val (.int (Int32.ofNat tn)), .val (.int (Int32.ofNat un)), .val (.int (Int32.ofNat sn)), .val (.int k84_0), .val (.int k86_0), .val (.int t0), .val (.int t1), .val (.int t2), .val (.int k91_0), .val (.int k95_0), .val (.int k99_0), .val (.ref b103), .val (.ref b139), .unset, .unset, .unset] [(.int k95_0), (.int (1 : Int32)), (.ref b139)])) _
                        refine XS.i2b X142.here hx rfl (hb hby at_286) rfl ?_
                        exact kt
                      obtain ⟨cl152, Ar152, q152, S152, M152, H152, G152⟩ := (id V144_149)
                      have hin152 : ¬ ((1 : Int32) < 0 ∨ cl152.slots.size ≤ ((1 : Int32)).toNatClampNeg) := inb_of S152 ⟨by decide, hc151⟩
                      obtain ⟨T152, h152, X152, e152, W152, st152⟩ := stB X142 hx hZ e142 Ar152 (j := (1 : Int32)) hin152 (g := (mkF m 287 #[.val (.int p0), .val (.int p1), .val (.int p2), .val (.int p3), .val (.int (Int32.ofNat tn)), .val (.int (Int32.ofNat un)), .val (.int (Int32.ofNat sn)), .val (.int k84_0), .val (.int k86_0), .val (.int t0), .val (.int t1), .val (.int t2), .val (.int k91_0), .val (.int k95_0), .val (.int k99_0), .val (.ref b103), .val (.ref b139), .unset, .unset, .unset] [(.int (k95_0.toInt8.toInt32)), (.int (1 : Int32)), (.ref b139)])) rfl rfl (hb hby at_287)
                      rw [narB] at W152
                      have Z0_153 : n0 ≤ h152.size := (Nat.le_trans Z0_147 (Keep.of_wr W152).1)
                      have V137_154 : Arv Z h152 b103 k103 .byte (7 : Int32) ((y131_b103.set (sn + tn) (-1 : Int32)).map Value.int) (.int (0 : Int32)) := (V137_148.other W152 ne_b103_b139)
                      have V152 : Arv Z h152 b139 k139 .byte (Int32.ofNat un) [(.int y142_b139_0), (.int (k95_0.toInt8.toInt32)), (.int (0 : Int32))] (.int (0 : Int32)) := Arv.set Ar152 q152 S152 M152 H152 G152 (fits_nar_byte _) W152 1 rfl (Nat.le_of_ble_eq_true rfl)
                      have N152 := Fr.snoc X152 N142 gn_b139
                      refine GotW.step st152 ?_
                      show GotW p e below s _ _ _ _ T152 (mkF m 288 #[.val (.int p0), .val (.int p1), .val (.int p2), .val (.int p3), .val (.int (Int32.ofNat tn)), .val (.int (Int32.ofNat un)), .val (.int (Int32.ofNat sn)), .val (.int k84_0), .val (.int k86_0), .val (.int t0), .val (.int t1), .val (.int t2), .val (.int k91_0), .val (.int k95_0), .val (.int k99_0), .val (.ref b103), .val (.ref b139), .unset, .unset, .unset] [])
                      exact J150 _ _ _ X152 e152 N152 (k95_0.toInt8.toInt32) (if_pos hc151).symm Z0_153 V137_154 V152
                    · refine GotW.step (T' := T142) (g' := (mkF m 288 #[.val (.int p0), .val (.int p1), .val (.int p2), .val (.int p3), .val (.int (Int32.ofNat tn)), .val (.int (Int32.ofNat un)), .val (.int (Int32.ofNat sn)), .val (.int k84_0), .val (.int k86_0), .val (.int t0), .val (.int t1), .val (.int t2), .val (.int k91_0), .val (.int k95_0), .val (.int k99_0), .val (.ref b103), .val (.ref b139), .unset, .unset, .unset] [])) (fun tq kt => ?_) ?_
                      · show Steps p.tables e below (T142.setTop (mkF m 278 #[.val (.int p0), .val (.int p1), .val (.int p2), .val (.int p3), .val (.int (Int32.ofNat tn)), .val (.int (Int32.ofNat un)), .val (.int (Int32.ofNat sn)), .val (.int k84_0), .val (.int k86_0), .val (.int t0), .val (.int t1), .val (.int t2), .val (.int k91_0), .val (.int k95_0), .val (.int k99_0), .val (.ref b103), .val (.ref b139), .unset, .unset, .unset] [(.int (1 : Int32)), (.int (Int32.ofNat un))])) _
                        refine XS.icmpYes X142.here hx rfl (pc0 := 278) (pc' := 288) rfl (hb hby at_278) rfl (XT.ii_le_t hc151) (by decide) (by decide) ?_
                        exact kt
                      exact J150 _ _ _ X142 e142 N142 (0 : Int32) (if_neg hc151).symm Z0_147 V137_148 V144_149
                  by_cases hc143 : (0 < (Int32.ofNat un))
                  · refine GotW.step (T' := T139) (g' := (mkF m 274 #[.val (.int p0), .val (.int p1), .val (.int p2), .val (.int p3), .val (.int (Int32.ofNat tn)), .val (.int (Int32.ofNat un)), .val (.int (Int32.ofNat sn)), .val (.int k84_0), .val (.int k86_0), .val (.int t0), .val (.int t1), .val (.int t2), .val (.int k91_0), .val (.int k95_0), .val (.int k99_0), .val (.ref b103), .val (.ref b139), .unset, .unset, .unset] [(.int (k91_0.toInt8.toInt32)), (.int (0 : Int32)), (.ref b139)])) (fun tq kt => ?_) ?_
                    · show Steps p.tables e below (T139.setTop (mkF m 265 #[.val (.int p0), .val (.int p1), .val (.int p2), .val (.int p3), .val (.int (Int32.ofNat tn)), .val (.int (Int32.ofNat un)), .val (.int (Int32.ofNat sn)), .val (.int k84_0), .val (.int k86_0), .val (.int t0), .val (.int t1), .val (.int t2), .val (.int k91_0), .val (.int k95_0), .val (.int k99_0), .val (.ref b103), .val (.ref b139), .unset, .unset, .unset] [(.int (Int32.ofNat un))])) _
                      refine XS.ifNo X139.here hx rfl (hb hby at_265) rfl (XT.i0_le_f hc143) ?_
                      show Steps p.tables e below (T139.setTop (mkF m 268 #[.val (.int p0), .val (.int p1), .val (.int p2), .val (.int p3), .val (.int (Int32.ofNat tn)), .val (.int (Int32.ofNat un)), .val (.int (Int32.ofNat sn)), .val (.int k84_0), .val (.int k86_0), .val (.int t0), .val (.int t1), .val (.int t2), .val (.int k91_0), .val (.int k95_0), .val (.int k99_0), .val (.ref b103), .val (.ref b139), .unset, .unset, .unset] [])) _
                      refine XS.aload X139.here hx rfl (hb hby at_268) rfl rfl ?_
                      show Steps p.tables e below (T139.setTop (mkF m 270 #[.val (.int p0), .val (.int p1), .val (.int p2), .val (.int p3), .val (.int (Int32.ofNat tn)), .val (.int (Int32.ofNat un)), .val (.int (Int32.ofNat sn)), .val (.int k84_0), .val (.int k86_0), .val (.int t0), .val (.int t1), .val (.int t2), .val (.int k91_0), .val (.int k95_0), .val (.int k99_0), .val (.ref b103), .val (.ref b139), .unset, .unset, .unset] [(.ref b139)])) _
                      refine XS.iconst X139.here hx rfl (hb hby at_270) ?_
                      show Steps p.tables e below (T139.setTop (mkF m 271 #[.val (.int p0), .val (.int p1), .val (.int p2), .val (.int p3), .val (.int (Int32.ofNat tn)), .val (.int (Int32.ofNat un)), .val (.int (Int32.ofNat sn)), .val (.int k84_0), .val (.int k86_0), .val (.int t0), .val (.int t1), .val (.int t2), .val (.int k91_0), .val (.int k95_0), .val (.int k99_0), .val (.ref b103), .val (.ref b139), .unset, .unset, .unset] [(.int (0 : Int32)), (.ref b139)])) _
                      refine XS.iload X139.here hx rfl (hb hby at_271) rfl ?_
                      show Steps p.tables e below (T139.setTop (mkF m 273 #[.val (.int p0), .val (.int p1), .val (.int p2), .val (.int p3), .val (.int (Int32.ofNat tn)), .val (.int (Int32.ofNat un)), .val (.int (Int32.ofNat sn)), .val (.int k84_0), .val (.int k86_0), .val (.int t0), .val (.int t1), .val (.int t2), .val (.int k91_0), .val (.int k95_0), .val (.int k99_0), .val (.ref b103), .val (.ref b139), .unset, .unset, .unset] [(.int k91_0), (.int (0 : Int32)), (.ref b139)])) _
                      refine XS.i2b X139.here hx rfl (hb hby at_273) rfl ?_
                      exact kt
                    obtain ⟨cl144, Ar144, q144, S144, M144, H144, G144⟩ := (id V139)
                    have hin144 : ¬ ((0 : Int32) < 0 ∨ cl144.slots.size ≤ ((0 : Int32)).toNatClampNeg) := inb_of S144 ⟨by decide, hc143⟩
                    obtain ⟨T144, h144, X144, e144, W144, st144⟩ := stB X139 hx hZ e139 Ar144 (j := (0 : Int32)) hin144 (g := (mkF m 274 #[.val (.int p0), .val (.int p1), .val (.int p2), .val (.int p3), .val (.int (Int32.ofNat tn)), .val (.int (Int32.ofNat un)), .val (.int (Int32.ofNat sn)), .val (.int k84_0), .val (.int k86_0), .val (.int t0), .val (.int t1), .val (.int t2), .val (.int k91_0), .val (.int k95_0), .val (.int k99_0), .val (.ref b103), .val (.ref b139), .unset, .unset, .unset] [(.int (k91_0.toInt8.toInt32)), (.int (0 : Int32)), (.ref b139)])) rfl rfl (hb hby at_274)
                    rw [narB] at W144
                    have Z0_145 : n0 ≤ h144.size := (Nat.le_trans Z0_140 (Keep.of_wr W144).1)
                    have V137_146 : Arv Z h144 b103 k103 .byte (7 : Int32) ((y131_b103.set (sn + tn) (-1 : Int32)).map Value.int) (.int (0 : Int32)) := (V137_141.other W144 ne_b103_b139)
                    have V144 : Arv Z h144 b139 k139 .byte (Int32.ofNat un) [(.int (k91_0.toInt8.toInt32)), (.int (0 : Int32)), (.int (0 : Int32))] (.int (0 : Int32)) := Arv.set Ar144 q144 S144 M144 H144 G144 (fits_nar_byte _) W144 0 rfl (Nat.le_of_ble_eq_true rfl)
                    have N144 := Fr.snoc X144 N137 gn_b139
                    refine GotW.step st144 ?_
                    show GotW p e below s _ _ _ _ T144 (mkF m 275 #[.val (.int p0), .val (.int p1), .val (.int p2), .val (.int p3), .val (.int (Int32.ofNat tn)), .val (.int (Int32.ofNat un)), .val (.int (Int32.ofNat sn)), .val (.int k84_0), .val (.int k86_0), .val (.int t0), .val (.int t1), .val (.int t2), .val (.int k91_0), .val (.int k95_0), .val (.int k99_0), .val (.ref b103), .val (.ref b139), .unset, .unset, .unset] [])
                    exact J142 _ _ _ X144 e144 N144 (k91_0.toInt8.toInt32) (if_pos hc143).symm Z0_145 V137_146 V144
                  · refine GotW.step (T' := T139) (g' := (mkF m 275 #[.val (.int p0), .val (.int p1), .val (.int p2), .val (.int p3), .val (.int (Int32.ofNat tn)), .val (.int (Int32.ofNat un)), .val (.int (Int32.ofNat sn)), .val (.int k84_0), .val (.int k86_0), .val (.int t0), .val (.int t1), .val (.int t2), .val (.int k91_0), .val (.int k95_0), .val (.int k99_0), .val (.ref b103), .val (.ref b139), .unset, .unset, .unset] [])) (fun tq kt => ?_) ?_
                    · show Steps p.tables e below (T139.setTop (mkF m 265 #[.val (.int p0), .val (.int p1), .val (.int p2), .val (.int p3), .val (.int (Int32.ofNat tn)), .val (.int (Int32.ofNat un)), .val (.int (Int32.ofNat sn)), .val (.int k84_0), .val (.int k86_0), .val (.int t0), .val (.int t1), .val (.int t2), .val (.int k91_0), .val (.int k95_0), .val (.int k99_0), .val (.ref b103), .val (.ref b139), .unset, .unset, .unset] [(.int (Int32.ofNat un))])) _
                      refine XS.ifYes X139.here hx rfl (pc0 := 265) (pc' := 275) rfl (hb hby at_265) rfl (XT.i0_le_t hc143) (by decide) (by decide) ?_
                      exact kt
                    exact J142 _ _ _ X139 e139 N137 (0 : Int32) (if_neg hc143).symm Z0_140 V137_141 V139
                by_cases hc132 : ((2 : Int32) < (Int32.ofNat tn))
                · refine GotW.step (T' := T125) (g' := (mkF m 247 #[.val (.int p0), .val (.int p1), .val (.int p2), .val (.int p3), .val (.int (Int32.ofNat tn)), .val (.int (Int32.ofNat un)), .val (.int (Int32.ofNat sn)), .val (.int k84_0), .val (.int k86_0), .val (.int t0), .val (.int t1), .val (.int t2), .val (.int k91_0), .val (.int k95_0), .val (.int k99_0), .val (.ref b103), .unset, .unset, .unset, .unset] [(.int (t2.toInt8.toInt32)), (.int ((Int32.ofNat sn) + (2 : Int32))), (.ref b103)])) (fun tq kt => ?_) ?_
                  · show Steps p.tables e below (T125.setTop (mkF m 235 #[.val (.int p0), .val (.int p1), .val (.int p2), .val (.int p3), .val (.int (Int32.ofNat tn)), .val (.int (Int32.ofNat un)), .val (.int (Int32.ofNat sn)), .val (.int k84_0), .val (.int k86_0), .val (.int t0), .val (.int t1), .val (.int t2), .val (.int k91_0), .val (.int k95_0), .val (.int k99_0), .val (.ref b103), .unset, .unset, .unset, .unset] [(.int (2 : Int32)), (.int (Int32.ofNat tn))])) _
                    refine XS.icmpNo X125.here hx rfl (hb hby at_235) rfl (XT.ii_le_f hc132) ?_
                    show Steps p.tables e below (T125.setTop (mkF m 238 #[.val (.int p0), .val (.int p1), .val (.int p2), .val (.int p3), .val (.int (Int32.ofNat tn)), .val (.int (Int32.ofNat un)), .val (.int (Int32.ofNat sn)), .val (.int k84_0), .val (.int k86_0), .val (.int t0), .val (.int t1), .val (.int t2), .val (.int k91_0), .val (.int k95_0), .val (.int k99_0), .val (.ref b103), .unset, .unset, .unset, .unset] [])) _
                    refine XS.aload X125.here hx rfl (hb hby at_238) rfl rfl ?_
                    show Steps p.tables e below (T125.setTop (mkF m 240 #[.val (.int p0), .val (.int p1), .val (.int p2), .val (.int p3), .val (.int (Int32.ofNat tn)), .val (.int (Int32.ofNat un)), .val (.int (Int32.ofNat sn)), .val (.int k84_0), .val (.int k86_0), .val (.int t0), .val (.int t1), .val (.int t2), .val (.int k91_0), .val (.int k95_0), .val (.int k99_0), .val (.ref b103), .unset, .unset, .unset, .unset] [(.ref b103)])) _
                    refine XS.iload X125.here hx rfl (hb hby at_240) rfl ?_
                    show Steps p.tables e below (T125.setTop (mkF m 242 #[.val (.int p0), .val (.int p1), .val (.int p2), .val (.int p3), .val (.int (Int32.ofNat tn)), .val (.int (Int32.ofNat un)), .val (.int (Int32.ofNat sn)), .val (.int k84_0), .val (.int k86_0), .val (.int t0), .val (.int t1), .val (.int t2), .val (.int k91_0), .val (.int k95_0), .val (.int k99_0), .val (.ref b103), .unset, .unset, .unset, .unset] [(.int (Int32.ofNat sn)), (.ref b103)])) _
                    refine XS.iconst X125.here hx rfl (hb hby at_242) ?_
                    show Steps p.tables e below (T125.setTop (mkF m 243 #[.val (.int p0), .val (.int p1), .val (.int p2), .val (.int p3), .val (.int (Int32.ofNat tn)), .val (.int (Int32.ofNat un)), .val (.int (Int32.ofNat sn)), .val (.int k84_0), .val (.int k86_0), .val (.int t0), .val (.int t1), .val (.int t2), .val (.int k91_0), .val (.int k95_0), .val (.int k99_0), .val (.ref b103), .unset, .unset, .unset, .unset] [(.int (2 : Int32)), (.int (Int32.ofNat sn)), (.ref b103)])) _
                    refine XS.iadd X125.here hx rfl (hb hby at_243) rfl ?_
                    show Steps p.tables e below (T125.setTop (mkF m 244 #[.val (.int p0), .val (.int p1), .val (.int p2), .val (.int p3), .val (.int (Int32.ofNat tn)), .val (.int (Int32.ofNat un)), .val (.int (Int32.ofNat sn)), .val (.int k84_0), .val (.int k86_0), .val (.int t0), .val (.int t1), .val (.int t2), .val (.int k91_0), .val (.int k95_0), .val (.int k99_0), .val (.ref b103), .unset, .unset, .unset, .unset] [(.int ((Int32.ofNat sn) + (2 : Int32))), (.ref b103)])) _
                    refine XS.iload X125.here hx rfl (hb hby at_244) rfl ?_
                    show Steps p.tables e below (T125.setTop (mkF m 246 #[.val (.int p0), .val (.int p1), .val (.int p2), .val (.int p3), .val (.int (Int32.ofNat tn)), .val (.int (Int32.ofNat un)), .val (.int (Int32.ofNat sn)), .val (.int k84_0), .val (.int k86_0), .val (.int t0), .val (.int t1), .val (.int t2), .val (.int k91_0), .val (.int k95_0), .val (.int k99_0), .val (.ref b103), .unset, .unset, .unset, .unset] [(.int t2), (.int ((Int32.ofNat sn) + (2 : Int32))), (.ref b103)])) _
                    refine XS.i2b X125.here hx rfl (hb hby at_246) rfl ?_
                    exact kt
                  obtain ⟨cl133, Ar133, q133, S133, M133, H133, G133⟩ := (id V127_130)
                  have hin133 : ¬ (((Int32.ofNat sn) + (2 : Int32)) < 0 ∨ cl133.slots.size ≤ (((Int32.ofNat sn) + (2 : Int32))).toNatClampNeg) := inb_of S133 (own_st2 hsn )
                  obtain ⟨T133, h133, X133, e133, W133, st133⟩ := stB X125 hx hZ e125 Ar133 (j := ((Int32.ofNat sn) + (2 : Int32))) hin133 (g := (mkF m 247 #[.val (.int p0), .val (.int p1), .val (.int p2), .val (.int p3), .val (.int (Int32.ofNat tn)), .val (.int (Int32.ofNat un)), .val (.int (Int32.ofNat sn)), .val (.int k84_0), .val (.int k86_0), .val (.int t0), .val (.int t1), .val (.int t2), .val (.int k91_0), .val (.int k95_0), .val (.int k99_0), .val (.ref b103), .unset, .unset, .unset, .unset] [(.int (t2.toInt8.toInt32)), (.int ((Int32.ofNat sn) + (2 : Int32))), (.ref b103)])) rfl rfl (hb hby at_247)
                  rw [narB] at W133
                  have Z0_134 : n0 ≤ h133.size := (Nat.le_trans Z0_129 (Keep.of_wr W133).1)
                  have V133 : Arv Z h133 b103 k103 .byte (7 : Int32) ((y125_b103.set (sn + 2) (t2.toInt8.toInt32)).map Value.int) (.int (0 : Int32)) := by rw [List.map_set]; exact Arv.set Ar133 q133 S133 M133 H133 G133 (fits_nar_byte _) W133 (sn + 2) (own_hj2 hsn) (by rw [List.length_map, hl2]; omega)
                  have N133 := Fr.snoc X133 N125 gn_b103
                  refine GotW.step st133 ?_
                  show GotW p e below s _ _ _ _ T133 (mkF m 248 #[.val (.int p0), .val (.int p1), .val (.int p2), .val (.int p3), .val (.int (Int32.ofNat tn)), .val (.int (Int32.ofNat un)), .val (.int (Int32.ofNat sn)), .val (.int k84_0), .val (.int k86_0), .val (.int t0), .val (.int t1), .val (.int t2), .val (.int k91_0), .val (.int k95_0), .val (.int k99_0), .val (.ref b103), .unset, .unset, .unset, .unset] [])
                  exact J131 _ _ _ (X133.more (by decide) (by decide)) e133 N133 (y125_b103.set (sn + 2) (t2.toInt8.toInt32)) (if_pos hc132).symm Z0_134 V133
                · refine GotW.step (T' := T125) (g' := (mkF m 248 #[.val (.int p0), .val (.int p1), .val (.int p2), .val (.int p3), .val (.int (Int32.ofNat tn)), .val (.int (Int32.ofNat un)), .val (.int (Int32.ofNat sn)), .val (.int k84_0), .val (.int k86_0), .val (.int t0), .val (.int t1), .val (.int t2), .val (.int k91_0), .val (.int k95_0), .val (.int k99_0), .val (.ref b103), .unset, .unset, .unset, .unset] [])) (fun tq kt => ?_) ?_
                  · show Steps p.tables e below (T125.setTop (mkF m 235 #[.val (.int p0), .val (.int p1), .val (.int p2), .val (.int p3), .val (.int (Int32.ofNat tn)), .val (.int (Int32.ofNat un)), .val (.int (Int32.ofNat sn)), .val (.int k84_0), .val (.int k86_0), .val (.int t0), .val (.int t1), .val (.int t2), .val (.int k91_0), .val (.int k95_0), .val (.int k99_0), .val (.ref b103), .unset, .unset, .unset, .unset] [(.int (2 : Int32)), (.int (Int32.ofNat tn))])) _
                    refine XS.icmpYes X125.here hx rfl (pc0 := 235) (pc' := 248) rfl (hb hby at_235) rfl (XT.ii_le_t hc132) (by decide) (by decide) ?_
                    exact kt
                  exact J131 _ _ _ (X125.more (by decide) (by decide)) e125 N125 y125_b103 (if_neg hc132).symm Z0_129 V127_130
              by_cases hc126 : ((1 : Int32) < (Int32.ofNat tn))
              · refine GotW.step (T' := T119) (g' := (mkF m 231 #[.val (.int p0), .val (.int p1), .val (.int p2), .val (.int p3), .val (.int (Int32.ofNat tn)), .val (.int (Int32.ofNat un)), .val (.int (Int32.ofNat sn)), .val (.int k84_0), .val (.int k86_0), .val (.int t0), .val (.int t1), .val (.int t2), .val (.int k91_0), .val (.int k95_0), .val (.int k99_0), .val (.ref b103), .unset, .unset, .unset, .unset] [(.int (t1.toInt8.toInt32)), (.int ((Int32.ofNat sn) + (1 : Int32))), (.ref b103)])) (fun tq kt => ?_) ?_
                · show Steps p.tables e below (T119.setTop (mkF m 219 #[.val (.int p0), .val (.int p1), .val (.int p2), .val (.int p3), .val (.int (Int32.ofNat tn)), .val (.int (Int32.ofNat un)), .val (.int (Int32.ofNat sn)), .val (.int k84_0), .val (.int k86_0), .val (.int t0), .val (.int t1), .val (.int t2), .val (.int k91_0), .val (.int k95_0), .val (.int k99_0), .val (.ref b103), .unset, .unset, .unset, .unset] [(.int (1 : Int32)), (.int (Int32.ofNat tn))])) _
                  refine XS.icmpNo X119.here hx rfl (hb hby at_219) rfl (XT.ii_le_f hc126) ?_
                  show Steps p.tables e below (T119.setTop (mkF m 222 #[.val (.int p0), .val (.int p1), .val (.int p2), .val (.int p3), .val (.int (Int32.ofNat tn)), .val (.int (Int32.ofNat un)), .val (.int (Int32.ofNat sn)), .val (.int k84_0), .val (.int k86_0), .val (.int t0), .val (.int t1), .val (.int t2), .val (.int k91_0), .val (.int k95_0), .val (.int k99_0), .val (.ref b103), .unset, .unset, .unset, .unset] [])) _
                  refine XS.aload X119.here hx rfl (hb hby at_222) rfl rfl ?_
                  show Steps p.tables e below (T119.setTop (mkF m 224 #[.val (.int p0), .val (.int p1), .val (.int p2), .val (.int p3), .val (.int (Int32.ofNat tn)), .val (.int (Int32.ofNat un)), .val (.int (Int32.ofNat sn)), .val (.int k84_0), .val (.int k86_0), .val (.int t0), .val (.int t1), .val (.int t2), .val (.int k91_0), .val (.int k95_0), .val (.int k99_0), .val (.ref b103), .unset, .unset, .unset, .unset] [(.ref b103)])) _
                  refine XS.iload X119.here hx rfl (hb hby at_224) rfl ?_
                  show Steps p.tables e below (T119.setTop (mkF m 226 #[.val (.int p0), .val (.int p1), .val (.int p2), .val (.int p3), .val (.int (Int32.ofNat tn)), .val (.int (Int32.ofNat un)), .val (.int (Int32.ofNat sn)), .val (.int k84_0), .val (.int k86_0), .val (.int t0), .val (.int t1), .val (.int t2), .val (.int k91_0), .val (.int k95_0), .val (.int k99_0), .val (.ref b103), .unset, .unset, .unset, .unset] [(.int (Int32.ofNat sn)), (.ref b103)])) _
                  refine XS.iconst X119.here hx rfl (hb hby at_226) ?_
                  show Steps p.tables e below (T119.setTop (mkF m 227 #[.val (.int p0), .val (.int p1), .val (.int p2), .val (.int p3), .val (.int (Int32.ofNat tn)), .val (.int (Int32.ofNat un)), .val (.int (Int32.ofNat sn)), .val (.int k84_0), .val (.int k86_0), .val (.int t0), .val (.int t1), .val (.int t2), .val (.int k91_0), .val (.int k95_0), .val (.int k99_0), .val (.ref b103), .unset, .unset, .unset, .unset] [(.int (1 : Int32)), (.int (Int32.ofNat sn)), (.ref b103)])) _
                  refine XS.iadd X119.here hx rfl (hb hby at_227) rfl ?_
                  show Steps p.tables e below (T119.setTop (mkF m 228 #[.val (.int p0), .val (.int p1), .val (.int p2), .val (.int p3), .val (.int (Int32.ofNat tn)), .val (.int (Int32.ofNat un)), .val (.int (Int32.ofNat sn)), .val (.int k84_0), .val (.int k86_0), .val (.int t0), .val (.int t1), .val (.int t2), .val (.int k91_0), .val (.int k95_0), .val (.int k99_0), .val (.ref b103), .unset, .unset, .unset, .unset] [(.int ((Int32.ofNat sn) + (1 : Int32))), (.ref b103)])) _
                  refine XS.iload X119.here hx rfl (hb hby at_228) rfl ?_
                  show Steps p.tables e below (T119.setTop (mkF m 230 #[.val (.int p0), .val (.int p1), .val (.int p2), .val (.int p3), .val (.int (Int32.ofNat tn)), .val (.int (Int32.ofNat un)), .val (.int (Int32.ofNat sn)), .val (.int k84_0), .val (.int k86_0), .val (.int t0), .val (.int t1), .val (.int t2), .val (.int k91_0), .val (.int k95_0), .val (.int k99_0), .val (.ref b103), .unset, .unset, .unset, .unset] [(.int t1), (.int ((Int32.ofNat sn) + (1 : Int32))), (.ref b103)])) _
                  refine XS.i2b X119.here hx rfl (hb hby at_230) rfl ?_
                  exact kt
                obtain ⟨cl127, Ar127, q127, S127, M127, H127, G127⟩ := (id V121_124)
                have hin127 : ¬ (((Int32.ofNat sn) + (1 : Int32)) < 0 ∨ cl127.slots.size ≤ (((Int32.ofNat sn) + (1 : Int32))).toNatClampNeg) := inb_of S127 (own_st1 hsn )
                obtain ⟨T127, h127, X127, e127, W127, st127⟩ := stB X119 hx hZ e119 Ar127 (j := ((Int32.ofNat sn) + (1 : Int32))) hin127 (g := (mkF m 231 #[.val (.int p0), .val (.int p1), .val (.int p2), .val (.int p3), .val (.int (Int32.ofNat tn)), .val (.int (Int32.ofNat un)), .val (.int (Int32.ofNat sn)), .val (.int k84_0), .val (.int k86_0), .val (.int t0), .val (.int t1), .val (.int t2), .val (.int k91_0), .val (.int k95_0), .val (.int k99_0), .val (.ref b103), .unset, .unset, .unset, .unset] [(.int (t1.toInt8.toInt32)), (.int ((Int32.ofNat sn) + (1 : Int32))), (.ref b103)])) rfl rfl (hb hby at_231)
                rw [narB] at W127
                have Z0_128 : n0 ≤ h127.size := (Nat.le_trans Z0_123 (Keep.of_wr W127).1)
                have V127 : Arv Z h127 b103 k103 .byte (7 : Int32) ((y119_b103.set (sn + 1) (t1.toInt8.toInt32)).map Value.int) (.int (0 : Int32)) := by rw [List.map_set]; exact Arv.set Ar127 q127 S127 M127 H127 G127 (fits_nar_byte _) W127 (sn + 1) (own_hj1 hsn) (by rw [List.length_map, hl1]; omega)
                have N127 := Fr.snoc X127 N119 gn_b103
                refine GotW.step st127 ?_
                show GotW p e below s _ _ _ _ T127 (mkF m 232 #[.val (.int p0), .val (.int p1), .val (.int p2), .val (.int p3), .val (.int (Int32.ofNat tn)), .val (.int (Int32.ofNat un)), .val (.int (Int32.ofNat sn)), .val (.int k84_0), .val (.int k86_0), .val (.int t0), .val (.int t1), .val (.int t2), .val (.int k91_0), .val (.int k95_0), .val (.int k99_0), .val (.ref b103), .unset, .unset, .unset, .unset] [])
                exact J125 _ _ _ X127 e127 N127 (y119_b103.set (sn + 1) (t1.toInt8.toInt32)) (if_pos hc126).symm Z0_128 V127
              · refine GotW.step (T' := T119) (g' := (mkF m 232 #[.val (.int p0), .val (.int p1), .val (.int p2), .val (.int p3), .val (.int (Int32.ofNat tn)), .val (.int (Int32.ofNat un)), .val (.int (Int32.ofNat sn)), .val (.int k84_0), .val (.int k86_0), .val (.int t0), .val (.int t1), .val (.int t2), .val (.int k91_0), .val (.int k95_0), .val (.int k99_0), .val (.ref b103), .unset, .unset, .unset, .unset] [])) (fun tq kt => ?_) ?_
                · show Steps p.tables e below (T119.setTop (mkF m 219 #[.val (.int p0), .val (.int p1), .val (.int p2), .val (.int p3), .val (.int (Int32.ofNat tn)), .val (.int (Int32.ofNat un)), .val (.int (Int32.ofNat sn)), .val (.int k84_0), .val (.int k86_0), .val (.int t0), .val (.int t1), .val (.int t2), .val (.int k91_0), .val (.int k95_0), .val (.int k99_0), .val (.ref b103), .unset, .unset, .unset, .unset] [(.int (1 : Int32)), (.int (Int32.ofNat tn))])) _
                  refine XS.icmpYes X119.here hx rfl (pc0 := 219) (pc' := 232) rfl (hb hby at_219) rfl (XT.ii_le_t hc126) (by decide) (by decide) ?_
                  exact kt
                exact J125 _ _ _ X119 e119 N119 y119_b103 (if_neg hc126).symm Z0_123 V121_124
            by_cases hc120 : (0 < (Int32.ofNat tn))
            · refine GotW.step (T' := T117) (g' := (mkF m 215 #[.val (.int p0), .val (.int p1), .val (.int p2), .val (.int p3), .val (.int (Int32.ofNat tn)), .val (.int (Int32.ofNat un)), .val (.int (Int32.ofNat sn)), .val (.int k84_0), .val (.int k86_0), .val (.int t0), .val (.int t1), .val (.int t2), .val (.int k91_0), .val (.int k95_0), .val (.int k99_0), .val (.ref b103), .unset, .unset, .unset, .unset] [(.int (t0.toInt8.toInt32)), (.int (Int32.ofNat sn)), (.ref b103)])) (fun tq kt => ?_) ?_
              · show Steps p.tables e below (T117.setTop (mkF m 205 #[.val (.int p0), .val (.int p1), .val (.int p2), .val (.int p3), .val (.int (Int32.ofNat tn)), .val (.int (Int32.ofNat un)), .val (.int (Int32.ofNat sn)), .val (.int k84_0), .val (.int k86_0), .val (.int t0), .val (.int t1), .val (.int t2), .val (.int k91_0), .val (.int k95_0), .val (.int k99_0), .val (.ref b103), .unset, .unset, .unset, .unset] [(.int (Int32.ofNat tn))])) _
                refine XS.ifNo X117.here hx rfl (hb hby at_205) rfl (XT.i0_le_f hc120) ?_
                show Steps p.tables e below (T117.setTop (mkF m 208 #[.val (.int p0), .val (.int p1), .val (.int p2), .val (.int p3), .val (.int (Int32.ofNat tn)), .val (.int (Int32.ofNat un)), .val (.int (Int32.ofNat sn)), .val (.int k84_0), .val (.int k86_0), .val (.int t0), .val (.int t1), .val (.int t2), .val (.int k91_0), .val (.int k95_0), .val (.int k99_0), .val (.ref b103), .unset, .unset, .unset, .unset] [])) _
                refine XS.aload X117.here hx rfl (hb hby at_208) rfl rfl ?_
                show Steps p.tables e below (T117.setTop (mkF m 210 #[.val (.int p0), .val (.int p1), .val (.int p2), .val (.int p3), .val (.int (Int32.ofNat tn)), .val (.int (Int32.ofNat un)), .val (.int (Int32.ofNat sn)), .val (.int k84_0), .val (.int k86_0), .val (.int t0), .val (.int t1), .val (.int t2), .val (.int k91_0), .val (.int k95_0), .val (.int k99_0), .val (.ref b103), .unset, .unset, .unset, .unset] [(.ref b103)])) _
                refine XS.iload X117.here hx rfl (hb hby at_210) rfl ?_
                show Steps p.tables e below (T117.setTop (mkF m 212 #[.val (.int p0), .val (.int p1), .val (.int p2), .val (.int p3), .val (.int (Int32.ofNat tn)), .val (.int (Int32.ofNat un)), .val (.int (Int32.ofNat sn)), .val (.int k84_0), .val (.int k86_0), .val (.int t0), .val (.int t1), .val (.int t2), .val (.int k91_0), .val (.int k95_0), .val (.int k99_0), .val (.ref b103), .unset, .unset, .unset, .unset] [(.int (Int32.ofNat sn)), (.ref b103)])) _
                refine XS.iload X117.here hx rfl (hb hby at_212) rfl ?_
                show Steps p.tables e below (T117.setTop (mkF m 214 #[.val (.int p0), .val (.int p1), .val (.int p2), .val (.int p3), .val (.int (Int32.ofNat tn)), .val (.int (Int32.ofNat un)), .val (.int (Int32.ofNat sn)), .val (.int k84_0), .val (.int k86_0), .val (.int t0), .val (.int t1), .val (.int t2), .val (.int k91_0), .val (.int k95_0), .val (.int k99_0), .val (.ref b103), .unset, .unset, .unset, .unset] [(.int t0), (.int (Int32.ofNat sn)), (.ref b103)])) _
                refine XS.i2b X117.here hx rfl (hb hby at_214) rfl ?_
                exact kt
              obtain ⟨cl121, Ar121, q121, S121, M121, H121, G121⟩ := (id VB0)
              have hin121 : ¬ ((Int32.ofNat sn) < 0 ∨ cl121.slots.size ≤ ((Int32.ofNat sn)).toNatClampNeg) := inb_of S121 (own_st0 hsn )
              obtain ⟨T121, h121, X121, e121, W121, st121⟩ := stB X117 hx hZ e117 Ar121 (j := (Int32.ofNat sn)) hin121 (g := (mkF m 215 #[.val (.int p0), .val (.int p1), .val (.int p2), .val (.int p3), .val (.int (Int32.ofNat tn)), .val (.int (Int32.ofNat un)), .val (.int (Int32.ofNat sn)), .val (.int k84_0), .val (.int k86_0), .val (.int t0), .val (.int t1), .val (.int t2), .val (.int k91_0), .val (.int k95_0), .val (.int k99_0), .val (.ref b103), .unset, .unset, .unset, .unset] [(.int (t0.toInt8.toInt32)), (.int (Int32.ofNat sn)), (.ref b103)])) rfl rfl (hb hby at_215)
              rw [narB] at W121
              have Z0_122 : n0 ≤ h121.size := (Nat.le_trans Z0_118 (Keep.of_wr W121).1)
              have V121 : Arv Z h121 b103 k103 .byte (7 : Int32) ((B0.set sn (t0.toInt8.toInt32)).map Value.int) (.int (0 : Int32)) := by rw [List.map_set]; exact Arv.set Ar121 q121 S121 M121 H121 G121 (fits_nar_byte _) W121 sn (own_hj0 hsn) (by rw [List.length_map, hl0]; omega)
              have N121 := Fr.snoc X121 N117 gn_b103
              refine GotW.step st121 ?_
              show GotW p e below s _ _ _ _ T121 (mkF m 216 #[.val (.int p0), .val (.int p1), .val (.int p2), .val (.int p3), .val (.int (Int32.ofNat tn)), .val (.int (Int32.ofNat un)), .val (.int (Int32.ofNat sn)), .val (.int k84_0), .val (.int k86_0), .val (.int t0), .val (.int t1), .val (.int t2), .val (.int k91_0), .val (.int k95_0), .val (.int k99_0), .val (.ref b103), .unset, .unset, .unset, .unset] [])
              exact J119 _ _ _ X121 e121 N121 (B0.set sn (t0.toInt8.toInt32)) (if_pos hc120).symm Z0_122 V121
            · refine GotW.step (T' := T117) (g' := (mkF m 216 #[.val (.int p0), .val (.int p1), .val (.int p2), .val (.int p3), .val (.int (Int32.ofNat tn)), .val (.int (Int32.ofNat un)), .val (.int (Int32.ofNat sn)), .val (.int k84_0), .val (.int k86_0), .val (.int t0), .val (.int t1), .val (.int t2), .val (.int k91_0), .val (.int k95_0), .val (.int k99_0), .val (.ref b103), .unset, .unset, .unset, .unset] [])) (fun tq kt => ?_) ?_
              · show Steps p.tables e below (T117.setTop (mkF m 205 #[.val (.int p0), .val (.int p1), .val (.int p2), .val (.int p3), .val (.int (Int32.ofNat tn)), .val (.int (Int32.ofNat un)), .val (.int (Int32.ofNat sn)), .val (.int k84_0), .val (.int k86_0), .val (.int t0), .val (.int t1), .val (.int t2), .val (.int k91_0), .val (.int k95_0), .val (.int k99_0), .val (.ref b103), .unset, .unset, .unset, .unset] [(.int (Int32.ofNat tn))])) _
                refine XS.ifYes X117.here hx rfl (pc0 := 205) (pc' := 216) rfl (hb hby at_205) rfl (XT.i0_le_t hc120) (by decide) (by decide) ?_
                exact kt
              exact J119 _ _ _ X117 e117 N117 B0 (if_neg hc120).symm Z0_118 VB0
          by_cases hc100 : (k86_0 = 0)
          · refine GotW.step (T' := T95) (g' := (mkF m 132 #[.val (.int p0), .val (.int p1), .val (.int p2), .val (.int p3), .val (.int (Int32.ofNat tn)), .val (.int (Int32.ofNat un)), .val (.int (Int32.ofNat sn)), .val (.int k84_0), .val (.int k86_0), .val (.int t0), .val (.int t1), .val (.int t2), .val (.int k91_0), .val (.int k95_0), .unset, .unset, .unset, .unset, .unset, .unset] [(.int k84_0), (.int (2 : Int32)), (.int p1)])) (fun tq kt => ?_) ?_
            · show Steps p.tables e below (T95.setTop (mkF m 120 #[.val (.int p0), .val (.int p1), .val (.int p2), .val (.int p3), .val (.int (Int32.ofNat tn)), .val (.int (Int32.ofNat un)), .val (.int (Int32.ofNat sn)), .val (.int k84_0), .val (.int k86_0), .val (.int t0), .val (.int t1), .val (.int t2), .val (.int k91_0), .val (.int k95_0), .unset, .unset, .unset, .unset, .unset, .unset] [(.int k86_0)])) _
              refine XS.ifYes X95.here hx rfl (pc0 := 120) (pc' := 128) rfl (hb hby at_120) rfl (XT.i0_eq_t hc100) (by decide) (by decide) ?_
              show Steps p.tables e below (T95.setTop (mkF m 128 #[.val (.int p0), .val (.int p1), .val (.int p2), .val (.int p3), .val (.int (Int32.ofNat tn)), .val (.int (Int32.ofNat un)), .val (.int (Int32.ofNat sn)), .val (.int k84_0), .val (.int k86_0), .val (.int t0), .val (.int t1), .val (.int t2), .val (.int k91_0), .val (.int k95_0), .unset, .unset, .unset, .unset, .unset, .unset] [])) _
              refine XS.iloadN X95.here hx rfl (hb hby at_128) rfl ?_
              show Steps p.tables e below (T95.setTop (mkF m 129 #[.val (.int p0), .val (.int p1), .val (.int p2), .val (.int p3), .val (.int (Int32.ofNat tn)), .val (.int (Int32.ofNat un)), .val (.int (Int32.ofNat sn)), .val (.int k84_0), .val (.int k86_0), .val (.int t0), .val (.int t1), .val (.int t2), .val (.int k91_0), .val (.int k95_0), .unset, .unset, .unset, .unset, .unset, .unset] [(.int p1)])) _
              refine XS.iconst X95.here hx rfl (hb hby at_129) ?_
              show Steps p.tables e below (T95.setTop (mkF m 130 #[.val (.int p0), .val (.int p1), .val (.int p2), .val (.int p3), .val (.int (Int32.ofNat tn)), .val (.int (Int32.ofNat un)), .val (.int (Int32.ofNat sn)), .val (.int k84_0), .val (.int k86_0), .val (.int t0), .val (.int t1), .val (.int t2), .val (.int k91_0), .val (.int k95_0), .unset, .unset, .unset, .unset, .unset, .unset] [(.int (2 : Int32)), (.int p1)])) _
              refine XS.iload X95.here hx rfl (hb hby at_130) rfl ?_
              exact kt
            obtain ⟨_, _, ⟨T101, L101, k101, n101⟩, -, X101, ⟨Lc101, hQ101, l101, y101, z101⟩, st101⟩ := Jvm.LawKit.callS X95 hx (y := (⟨"com/example/kenning/kenning/index/DecoderCompareTextPinLaw", "pick", "(IIZ)I"⟩ : MethodName)) hown (mvT hZ (hw _ (List.mem_of_getElem? (i := 0) rfl))) (mvT hZ (hw _ (List.mem_of_getElem? (i := 1) rfl))) (mvT hZ (hw _ (List.mem_of_getElem? (i := 2) rfl))) (mvT hZ (hw _ (List.mem_of_getElem? (i := 3) rfl))) (by decide) (backOf (W := 0) (rm1 l Z a0 hw [] p1 (2 : Int32) k84_0 h95 n0 Z0_98) hZ (hw _ (List.mem_of_getElem? (i := 3) rfl)) (hw _ (List.mem_of_getElem? (i := 2) rfl)) (by decide) (by decide)) (g := (mkF m 132 #[.val (.int p0), .val (.int p1), .val (.int p2), .val (.int p3), .val (.int (Int32.ofNat tn)), .val (.int (Int32.ofNat un)), .val (.int (Int32.ofNat sn)), .val (.int k84_0), .val (.int k86_0), .val (.int t0), .val (.int t1), .val (.int t2), .val (.int k91_0), .val (.int k95_0), .unset, .unset, .unset, .unset, .unset, .unset] [(.int k84_0), (.int (2 : Int32)), (.int p1)])) rfl (by rw [hml]; rfl) (argsL := [(.int p1), (.int (2 : Int32)), (.int k84_0)]) (rest := []) (lenOf pd_0 rfl) rfl (by show 2 * 0 + _ ≤ _; exact Nat.le_of_eq rfl) (hb hby at_132) (fun _ _ => ⟨rfl, e95, (by decide : 0 + 0 ≤ _), (by decide : 0 + 0 ≤ _)⟩)
            dsimp only [Pt.U, Pt.locs, Pt.cells, Pt.slots] at X101 l101 y101 z101 st101 hQ101
            subst y101 z101
            obtain ⟨rfl, Nq101, e101⟩ := hQ101
            have N101 : Fr n0 L101 := by rw [l101]; exact Fr.app N95 Nq101
            refine GotW.step st101 ?_
            show GotW p e below s _ _ _ _ T101 (mkF m 135 #[.val (.int p0), .val (.int p1), .val (.int p2), .val (.int p3), .val (.int (Int32.ofNat tn)), .val (.int (Int32.ofNat un)), .val (.int (Int32.ofNat sn)), .val (.int k84_0), .val (.int k86_0), .val (.int t0), .val (.int t1), .val (.int t2), .val (.int k91_0), .val (.int k95_0), .unset, .unset, .unset, .unset, .unset, .unset] [(.int (f1 p1 (2 : Int32) k84_0))])
            exact J99 _ _ _ (X101.more (by decide) (by decide)) e101 N101 (f1 p1 (2 : Int32) k84_0) (if_pos hc100).symm Z0_98
          · refine GotW.step (T' := T95) (g' := (mkF m 135 #[.val (.int p0), .val (.int p1), .val (.int p2), .val (.int p3), .val (.int (Int32.ofNat tn)), .val (.int (Int32.ofNat un)), .val (.int (Int32.ofNat sn)), .val (.int k84_0), .val (.int k86_0), .val (.int t0), .val (.int t1), .val (.int t2), .val (.int k91_0), .val (.int k95_0), .unset, .unset, .unset, .unset, .unset, .unset] [(.int t2)])) (fun tq kt => ?_) ?_
            · show Steps p.tables e below (T95.setTop (mkF m 120 #[.val (.int p0), .val (.int p1), .val (.int p2), .val (.int p3), .val (.int (Int32.ofNat tn)), .val (.int (Int32.ofNat un)), .val (.int (Int32.ofNat sn)), .val (.int k84_0), .val (.int k86_0), .val (.int t0), .val (.int t1), .val (.int t2), .val (.int k91_0), .val (.int k95_0), .unset, .unset, .unset, .unset, .unset, .unset] [(.int k86_0)])) _
              refine XS.ifNo X95.here hx rfl (hb hby at_120) rfl (XT.i0_eq_f hc100) ?_
              show Steps p.tables e below (T95.setTop (mkF m 123 #[.val (.int p0), .val (.int p1), .val (.int p2), .val (.int p3), .val (.int (Int32.ofNat tn)), .val (.int (Int32.ofNat un)), .val (.int (Int32.ofNat sn)), .val (.int k84_0), .val (.int k86_0), .val (.int t0), .val (.int t1), .val (.int t2), .val (.int k91_0), .val (.int k95_0), .unset, .unset, .unset, .unset, .unset, .unset] [])) _
              refine XS.iload X95.here hx rfl (hb hby at_123) rfl ?_
              show Steps p.tables e below (T95.setTop (mkF m 125 #[.val (.int p0), .val (.int p1), .val (.int p2), .val (.int p3), .val (.int (Int32.ofNat tn)), .val (.int (Int32.ofNat un)), .val (.int (Int32.ofNat sn)), .val (.int k84_0), .val (.int k86_0), .val (.int t0), .val (.int t1), .val (.int t2), .val (.int k91_0), .val (.int k95_0), .unset, .unset, .unset, .unset, .unset, .unset] [(.int t2)])) _
              refine XS.goto X95.here hx rfl (pc0 := 125) (pc' := 135) rfl (hb hby at_125) (by decide) (by decide) ?_
              exact kt
            exact J99 _ _ _ (X95.more (by decide) (by decide)) e95 N95 t2 (if_neg hc100).symm Z0_98
        by_cases hc96 : (k86_0 = 0)
        · refine GotW.step (T' := T91) (g' := (mkF m 113 #[.val (.int p0), .val (.int p1), .val (.int p2), .val (.int p3), .val (.int (Int32.ofNat tn)), .val (.int (Int32.ofNat un)), .val (.int (Int32.ofNat sn)), .val (.int k84_0), .val (.int k86_0), .val (.int t0), .val (.int t1), .val (.int t2), .val (.int k91_0), .unset, .unset, .unset, .unset, .unset, .unset, .unset] [(.int k84_0), (.int (1 : Int32)), (.int p1)])) (fun tq kt => ?_) ?_
          · show Steps p.tables e below (T91.setTop (mkF m 101 #[.val (.int p0), .val (.int p1), .val (.int p2), .val (.int p3), .val (.int (Int32.ofNat tn)), .val (.int (Int32.ofNat un)), .val (.int (Int32.ofNat sn)), .val (.int k84_0), .val (.int k86_0), .val (.int t0), .val (.int t1), .val (.int t2), .val (.int k91_0), .unset, .unset, .unset, .unset, .unset, .unset, .unset] [(.int k86_0)])) _
            refine XS.ifYes X91.here hx rfl (pc0 := 101) (pc' := 109) rfl (hb hby at_101) rfl (XT.i0_eq_t hc96) (by decide) (by decide) ?_
            show Steps p.tables e below (T91.setTop (mkF m 109 #[.val (.int p0), .val (.int p1), .val (.int p2), .val (.int p3), .val (.int (Int32.ofNat tn)), .val (.int (Int32.ofNat un)), .val (.int (Int32.ofNat sn)), .val (.int k84_0), .val (.int k86_0), .val (.int t0), .val (.int t1), .val (.int t2), .val (.int k91_0), .unset, .unset, .unset, .unset, .unset, .unset, .unset] [])) _
            refine XS.iloadN X91.here hx rfl (hb hby at_109) rfl ?_
            show Steps p.tables e below (T91.setTop (mkF m 110 #[.val (.int p0), .val (.int p1), .val (.int p2), .val (.int p3), .val (.int (Int32.ofNat tn)), .val (.int (Int32.ofNat un)), .val (.int (Int32.ofNat sn)), .val (.int k84_0), .val (.int k86_0), .val (.int t0), .val (.int t1), .val (.int t2), .val (.int k91_0), .unset, .unset, .unset, .unset, .unset, .unset, .unset] [(.int p1)])) _
            refine XS.iconst X91.here hx rfl (hb hby at_110) ?_
            show Steps p.tables e below (T91.setTop (mkF m 111 #[.val (.int p0), .val (.int p1), .val (.int p2), .val (.int p3), .val (.int (Int32.ofNat tn)), .val (.int (Int32.ofNat un)), .val (.int (Int32.ofNat sn)), .val (.int k84_0), .val (.int k86_0), .val (.int t0), .val (.int t1), .val (.int t2), .val (.int k91_0), .unset, .unset, .unset, .unset, .unset, .unset, .unset] [(.int (1 : Int32)), (.int p1)])) _
            refine XS.iload X91.here hx rfl (hb hby at_111) rfl ?_
            exact kt
          obtain ⟨_, _, ⟨T97, L97, k97, n97⟩, -, X97, ⟨Lc97, hQ97, l97, y97, z97⟩, st97⟩ := Jvm.LawKit.callS X91 hx (y := (⟨"com/example/kenning/kenning/index/DecoderCompareTextPinLaw", "pick", "(IIZ)I"⟩ : MethodName)) hown (mvT hZ (hw _ (List.mem_of_getElem? (i := 0) rfl))) (mvT hZ (hw _ (List.mem_of_getElem? (i := 1) rfl))) (mvT hZ (hw _ (List.mem_of_getElem? (i := 2) rfl))) (mvT hZ (hw _ (List.mem_of_getElem? (i := 3) rfl))) (by decide) (backOf (W := 0) (rm1 l Z a0 hw [] p1 (1 : Int32) k84_0 h91 n0 Z0_94) hZ (hw _ (List.mem_of_getElem? (i := 3) rfl)) (hw _ (List.mem_of_getElem? (i := 2) rfl)) (by decide) (by decide)) (g := (mkF m 113 #[.val (.int p0), .val (.int p1), .val (.int p2), .val (.int p3), .val (.int (Int32.ofNat tn)), .val (.int (Int32.ofNat un)), .val (.int (Int32.ofNat sn)), .val (.int k84_0), .val (.int k86_0), .val (.int t0), .val (.int t1), .val (.int t2), .val (.int k91_0), .unset, .unset, .unset, .unset, .unset, .unset, .unset] [(.int k84_0), (.int (1 : Int32)), (.int p1)])) rfl (by rw [hml]; rfl) (argsL := [(.int p1), (.int (1 : Int32)), (.int k84_0)]) (rest := []) (lenOf pd_0 rfl) rfl (by show 2 * 0 + _ ≤ _; exact Nat.le_of_eq rfl) (hb hby at_113) (fun _ _ => ⟨rfl, e91, (by decide : 0 + 0 ≤ _), (by decide : 0 + 0 ≤ _)⟩)
          dsimp only [Pt.U, Pt.locs, Pt.cells, Pt.slots] at X97 l97 y97 z97 st97 hQ97
          subst y97 z97
          obtain ⟨rfl, Nq97, e97⟩ := hQ97
          have N97 : Fr n0 L97 := by rw [l97]; exact Fr.app N91 Nq97
          refine GotW.step st97 ?_
          show GotW p e below s _ _ _ _ T97 (mkF m 116 #[.val (.int p0), .val (.int p1), .val (.int p2), .val (.int p3), .val (.int (Int32.ofNat tn)), .val (.int (Int32.ofNat un)), .val (.int (Int32.ofNat sn)), .val (.int k84_0), .val (.int k86_0), .val (.int t0), .val (.int t1), .val (.int t2), .val (.int k91_0), .unset, .unset, .unset, .unset, .unset, .unset, .unset] [(.int (f1 p1 (1 : Int32) k84_0))])
          exact J95 _ _ _ X97 e97 N97 (f1 p1 (1 : Int32) k84_0) (if_pos hc96).symm Z0_94
        · refine GotW.step (T' := T91) (g' := (mkF m 116 #[.val (.int p0), .val (.int p1), .val (.int p2), .val (.int p3), .val (.int (Int32.ofNat tn)), .val (.int (Int32.ofNat un)), .val (.int (Int32.ofNat sn)), .val (.int k84_0), .val (.int k86_0), .val (.int t0), .val (.int t1), .val (.int t2), .val (.int k91_0), .unset, .unset, .unset, .unset, .unset, .unset, .unset] [(.int t1)])) (fun tq kt => ?_) ?_
          · show Steps p.tables e below (T91.setTop (mkF m 101 #[.val (.int p0), .val (.int p1), .val (.int p2), .val (.int p3), .val (.int (Int32.ofNat tn)), .val (.int (Int32.ofNat un)), .val (.int (Int32.ofNat sn)), .val (.int k84_0), .val (.int k86_0), .val (.int t0), .val (.int t1), .val (.int t2), .val (.int k91_0), .unset, .unset, .unset, .unset, .unset, .unset, .unset] [(.int k86_0)])) _
            refine XS.ifNo X91.here hx rfl (hb hby at_101) rfl (XT.i0_eq_f hc96) ?_
            show Steps p.tables e below (T91.setTop (mkF m 104 #[.val (.int p0), .val (.int p1), .val (.int p2), .val (.int p3), .val (.int (Int32.ofNat tn)), .val (.int (Int32.ofNat un)), .val (.int (Int32.ofNat sn)), .val (.int k84_0), .val (.int k86_0), .val (.int t0), .val (.int t1), .val (.int t2), .val (.int k91_0), .unset, .unset, .unset, .unset, .unset, .unset, .unset] [])) _
            refine XS.iload X91.here hx rfl (hb hby at_104) rfl ?_
            show Steps p.tables e below (T91.setTop (mkF m 106 #[.val (.int p0), .val (.int p1), .val (.int p2), .val (.int p3), .val (.int (Int32.ofNat tn)), .val (.int (Int32.ofNat un)), .val (.int (Int32.ofNat sn)), .val (.int k84_0), .val (.int k86_0), .val (.int t0), .val (.int t1), .val (.int t2), .val (.int k91_0), .unset, .unset, .unset, .unset, .unset, .unset, .unset] [(.int t1)])) _
            refine XS.goto X91.here hx rfl (pc0 := 106) (pc' := 116) rfl (hb hby at_106) (by decide) (by decide) ?_
            exact kt
          exact J95 _ _ _ X91 e91 N91 t1 (if_neg hc96).symm Z0_94
      by_cases hc92 : (k86_0 = 0)
      · refine GotW.step (T' := T90) (g' := (mkF m 94 #[.val (.int p0), .val (.int p1), .val (.int p2), .val (.int p3), .val (.int (Int32.ofNat tn)), .val (.int (Int32.ofNat un)), .val (.int (Int32.ofNat sn)), .val (.int k84_0), .val (.int k86_0), .val (.int t0), .val (.int t1), .val (.int t2), .unset, .unset, .unset, .unset, .unset, .unset, .unset, .unset] [(.int k84_0), (.int (0 : Int32)), (.int p1)])) (fun tq kt => ?_) ?_
        · show Steps p.tables e below (T90.setTop (mkF m 82 #[.val (.int p0), .val (.int p1), .val (.int p2), .val (.int p3), .val (.int (Int32.ofNat tn)), .val (.int (Int32.ofNat un)), .val (.int (Int32.ofNat sn)), .val (.int k84_0), .val (.int k86_0), .val (.int t0), .val (.int t1), .val (.int t2), .unset, .unset, .unset, .unset, .unset, .unset, .unset, .unset] [(.int k86_0)])) _
          refine XS.ifYes X90.here hx rfl (pc0 := 82) (pc' := 90) rfl (hb hby at_82) rfl (XT.i0_eq_t hc92) (by decide) (by decide) ?_
          show Steps p.tables e below (T90.setTop (mkF m 90 #[.val (.int p0), .val (.int p1), .val (.int p2), .val (.int p3), .val (.int (Int32.ofNat tn)), .val (.int (Int32.ofNat un)), .val (.int (Int32.ofNat sn)), .val (.int k84_0), .val (.int k86_0), .val (.int t0), .val (.int t1), .val (.int t2), .unset, .unset, .unset, .unset, .unset, .unset, .unset, .unset] [])) _
          refine XS.iloadN X90.here hx rfl (hb hby at_90) rfl ?_
          show Steps p.tables e below (T90.setTop (mkF m 91 #[.val (.int p0), .val (.int p1), .val (.int p2), .val (.int p3), .val (.int (Int32.ofNat tn)), .val (.int (Int32.ofNat un)), .val (.int (Int32.ofNat sn)), .val (.int k84_0), .val (.int k86_0), .val (.int t0), .val (.int t1), .val (.int t2), .unset, .unset, .unset, .unset, .unset, .unset, .unset, .unset] [(.int p1)])) _
          refine XS.iconst X90.here hx rfl (hb hby at_91) ?_
          show Steps p.tables e below (T90.setTop (mkF m 92 #[.val (.int p0), .val (.int p1), .val (.int p2), .val (.int p3), .val (.int (Int32.ofNat tn)), .val (.int (Int32.ofNat un)), .val (.int (Int32.ofNat sn)), .val (.int k84_0), .val (.int k86_0), .val (.int t0), .val (.int t1), .val (.int t2), .unset, .unset, .unset, .unset, .unset, .unset, .unset, .unset] [(.int (0 : Int32)), (.int p1)])) _
          refine XS.iload X90.here hx rfl (hb hby at_92) rfl ?_
          exact kt
        obtain ⟨_, _, ⟨T93, L93, k93, n93⟩, -, X93, ⟨Lc93, hQ93, l93, y93, z93⟩, st93⟩ := Jvm.LawKit.callS X90 hx (y := (⟨"com/example/kenning/kenning/index/DecoderCompareTextPinLaw", "pick", "(IIZ)I"⟩ : MethodName)) hown (mvT hZ (hw _ (List.mem_of_getElem? (i := 0) rfl))) (mvT hZ (hw _ (List.mem_of_getElem? (i := 1) rfl))) (mvT hZ (hw _ (List.mem_of_getElem? (i := 2) rfl))) (mvT hZ (hw _ (List.mem_of_getElem? (i := 3) rfl))) (by decide) (backOf (W := 0) (rm1 l Z a0 hw [] p1 (0 : Int32) k84_0 h0 n0 Z0) hZ (hw _ (List.mem_of_getElem? (i := 3) rfl)) (hw _ (List.mem_of_getElem? (i := 2) rfl)) (by decide) (by decide)) (g := (mkF m 94 #[.val (.int p0), .val (.int p1), .val (.int p2), .val (.int p3), .val (.int (Int32.ofNat tn)), .val (.int (Int32.ofNat un)), .val (.int (Int32.ofNat sn)), .val (.int k84_0), .val (.int k86_0), .val (.int t0), .val (.int t1), .val (.int t2), .unset, .unset, .unset, .unset, .unset, .unset, .unset, .unset] [(.int k84_0), (.int (0 : Int32)), (.int p1)])) rfl (by rw [hml]; rfl) (argsL := [(.int p1), (.int (0 : Int32)), (.int k84_0)]) (rest := []) (lenOf pd_0 rfl) rfl (by show 2 * 0 + _ ≤ _; exact Nat.le_of_eq rfl) (hb hby at_94) (fun _ _ => ⟨rfl, e90, (by decide : 0 + 0 ≤ _), (by decide : 0 + 0 ≤ _)⟩)
        dsimp only [Pt.U, Pt.locs, Pt.cells, Pt.slots] at X93 l93 y93 z93 st93 hQ93
        subst y93 z93
        obtain ⟨rfl, Nq93, e93⟩ := hQ93
        have N93 : Fr n0 L93 := by rw [l93]; exact Fr.app N90 Nq93
        refine GotW.step st93 ?_
        show GotW p e below s _ _ _ _ T93 (mkF m 97 #[.val (.int p0), .val (.int p1), .val (.int p2), .val (.int p3), .val (.int (Int32.ofNat tn)), .val (.int (Int32.ofNat un)), .val (.int (Int32.ofNat sn)), .val (.int k84_0), .val (.int k86_0), .val (.int t0), .val (.int t1), .val (.int t2), .unset, .unset, .unset, .unset, .unset, .unset, .unset, .unset] [(.int (f1 p1 (0 : Int32) k84_0))])
        exact J91 _ _ _ X93 e93 N93 (f1 p1 (0 : Int32) k84_0) (if_pos hc92).symm Z0
      · refine GotW.step (T' := T90) (g' := (mkF m 97 #[.val (.int p0), .val (.int p1), .val (.int p2), .val (.int p3), .val (.int (Int32.ofNat tn)), .val (.int (Int32.ofNat un)), .val (.int (Int32.ofNat sn)), .val (.int k84_0), .val (.int k86_0), .val (.int t0), .val (.int t1), .val (.int t2), .unset, .unset, .unset, .unset, .unset, .unset, .unset, .unset] [(.int t0)])) (fun tq kt => ?_) ?_
        · show Steps p.tables e below (T90.setTop (mkF m 82 #[.val (.int p0), .val (.int p1), .val (.int p2), .val (.int p3), .val (.int (Int32.ofNat tn)), .val (.int (Int32.ofNat un)), .val (.int (Int32.ofNat sn)), .val (.int k84_0), .val (.int k86_0), .val (.int t0), .val (.int t1), .val (.int t2), .unset, .unset, .unset, .unset, .unset, .unset, .unset, .unset] [(.int k86_0)])) _
          refine XS.ifNo X90.here hx rfl (hb hby at_82) rfl (XT.i0_eq_f hc92) ?_
          show Steps p.tables e below (T90.setTop (mkF m 85 #[.val (.int p0), .val (.int p1), .val (.int p2), .val (.int p3), .val (.int (Int32.ofNat tn)), .val (.int (Int32.ofNat un)), .val (.int (Int32.ofNat sn)), .val (.int k84_0), .val (.int k86_0), .val (.int t0), .val (.int t1), .val (.int t2), .unset, .unset, .unset, .unset, .unset, .unset, .unset, .unset] [])) _
          refine XS.iload X90.here hx rfl (hb hby at_85) rfl ?_
          show Steps p.tables e below (T90.setTop (mkF m 87 #[.val (.int p0), .val (.int p1), .val (.int p2), .val (.int p3), .val (.int (Int32.ofNat tn)), .val (.int (Int32.ofNat un)), .val (.int (Int32.ofNat sn)), .val (.int k84_0), .val (.int k86_0), .val (.int t0), .val (.int t1), .val (.int t2), .unset, .unset, .unset, .unset, .unset, .unset, .unset, .unset] [(.int t0)])) _
          refine XS.goto X90.here hx rfl (pc0 := 87) (pc' := 97) rfl (hb hby at_87) (by decide) (by decide) ?_
          exact kt
        exact J91 _ _ _ X90 e90 N90 t0 (if_neg hc92).symm Z0
    by_cases hc87 : ((((p2.toUInt32 >>> ((7 : Int32) &&& 31).toUInt32).toInt32) &&& (1 : Int32)) = 0)
    · refine GotW.step (T' := s₁) (g' := (mkF m 51 #[.val (.int p0), .val (.int p1), .val (.int p2), .val (.int p3), .val (.int (Int32.ofNat tn)), .val (.int (Int32.ofNat un)), .val (.int (Int32.ofNat sn)), .val (.int k84_0), .unset, .unset, .unset, .unset, .unset, .unset, .unset, .unset, .unset, .unset, .unset, .unset] [(.int (0 : Int32))])) (fun tq kt => ?_) ?_
      · show Steps p.tables e below (s₁.setTop (mkF m 43 #[.val (.int p0), .val (.int p1), .val (.int p2), .val (.int p3), .val (.int (Int32.ofNat tn)), .val (.int (Int32.ofNat un)), .val (.int (Int32.ofNat sn)), .val (.int k84_0), .unset, .unset, .unset, .unset, .unset, .unset, .unset, .unset, .unset, .unset, .unset, .unset] [(.int (((p2.toUInt32 >>> ((7 : Int32) &&& 31).toUInt32).toInt32) &&& (1 : Int32)))])) _
        refine XS.ifYes X0.here hx rfl (pc0 := 43) (pc' := 50) rfl (hb hby at_43) rfl (XT.i0_eq_t hc87) (by decide) (by decide) ?_
        show Steps p.tables e below (s₁.setTop (mkF m 50 #[.val (.int p0), .val (.int p1), .val (.int p2), .val (.int p3), .val (.int (Int32.ofNat tn)), .val (.int (Int32.ofNat un)), .val (.int (Int32.ofNat sn)), .val (.int k84_0), .unset, .unset, .unset, .unset, .unset, .unset, .unset, .unset, .unset, .unset, .unset, .unset] [])) _
        refine XS.iconst X0.here hx rfl (hb hby at_50) ?_
        exact kt
      exact J86 (0 : Int32) (if_pos hc87).symm
    · refine GotW.step (T' := s₁) (g' := (mkF m 51 #[.val (.int p0), .val (.int p1), .val (.int p2), .val (.int p3), .val (.int (Int32.ofNat tn)), .val (.int (Int32.ofNat un)), .val (.int (Int32.ofNat sn)), .val (.int k84_0), .unset, .unset, .unset, .unset, .unset, .unset, .unset, .unset, .unset, .unset, .unset, .unset] [(.int (1 : Int32))])) (fun tq kt => ?_) ?_
      · show Steps p.tables e below (s₁.setTop (mkF m 43 #[.val (.int p0), .val (.int p1), .val (.int p2), .val (.int p3), .val (.int (Int32.ofNat tn)), .val (.int (Int32.ofNat un)), .val (.int (Int32.ofNat sn)), .val (.int k84_0), .unset, .unset, .unset, .unset, .unset, .unset, .unset, .unset, .unset, .unset, .unset, .unset] [(.int (((p2.toUInt32 >>> ((7 : Int32) &&& 31).toUInt32).toInt32) &&& (1 : Int32)))])) _
        refine XS.ifNo X0.here hx rfl (hb hby at_43) rfl (XT.i0_eq_f hc87) ?_
        show Steps p.tables e below (s₁.setTop (mkF m 46 #[.val (.int p0), .val (.int p1), .val (.int p2), .val (.int p3), .val (.int (Int32.ofNat tn)), .val (.int (Int32.ofNat un)), .val (.int (Int32.ofNat sn)), .val (.int k84_0), .unset, .unset, .unset, .unset, .unset, .unset, .unset, .unset, .unset, .unset, .unset, .unset] [])) _
        refine XS.iconst X0.here hx rfl (hb hby at_46) ?_
        show Steps p.tables e below (s₁.setTop (mkF m 47 #[.val (.int p0), .val (.int p1), .val (.int p2), .val (.int p3), .val (.int (Int32.ofNat tn)), .val (.int (Int32.ofNat un)), .val (.int (Int32.ofNat sn)), .val (.int k84_0), .unset, .unset, .unset, .unset, .unset, .unset, .unset, .unset, .unset, .unset, .unset, .unset] [(.int (1 : Int32))])) _
        refine XS.goto X0.here hx rfl (pc0 := 47) (pc' := 51) rfl (hb hby at_47) (by decide) (by decide) ?_
        exact kt
      exact J86 (1 : Int32) (if_neg hc87).symm
  by_cases hc85 : ((((p2.toUInt32 >>> ((6 : Int32) &&& 31).toUInt32).toInt32) &&& (1 : Int32)) = 0)
  · refine GotW.step (T' := s₁) (g' := (mkF m 35 #[.val (.int p0), .val (.int p1), .val (.int p2), .val (.int p3), .val (.int (Int32.ofNat tn)), .val (.int (Int32.ofNat un)), .val (.int (Int32.ofNat sn)), .unset, .unset, .unset, .unset, .unset, .unset, .unset, .unset, .unset, .unset, .unset, .unset, .unset] [(.int (0 : Int32))])) (fun tq kt => ?_) ?_
    · show Steps p.tables e below (s₁.setTop (mkF m 27 #[.val (.int p0), .val (.int p1), .val (.int p2), .val (.int p3), .val (.int (Int32.ofNat tn)), .val (.int (Int32.ofNat un)), .val (.int (Int32.ofNat sn)), .unset, .unset, .unset, .unset, .unset, .unset, .unset, .unset, .unset, .unset, .unset, .unset, .unset] [(.int (((p2.toUInt32 >>> ((6 : Int32) &&& 31).toUInt32).toInt32) &&& (1 : Int32)))])) _
      refine XS.ifYes X0.here hx rfl (pc0 := 27) (pc' := 34) rfl (hb hby at_27) rfl (XT.i0_eq_t hc85) (by decide) (by decide) ?_
      show Steps p.tables e below (s₁.setTop (mkF m 34 #[.val (.int p0), .val (.int p1), .val (.int p2), .val (.int p3), .val (.int (Int32.ofNat tn)), .val (.int (Int32.ofNat un)), .val (.int (Int32.ofNat sn)), .unset, .unset, .unset, .unset, .unset, .unset, .unset, .unset, .unset, .unset, .unset, .unset, .unset] [])) _
      refine XS.iconst X0.here hx rfl (hb hby at_34) ?_
      exact kt
    exact J84 (0 : Int32) (if_pos hc85).symm
  · refine GotW.step (T' := s₁) (g' := (mkF m 35 #[.val (.int p0), .val (.int p1), .val (.int p2), .val (.int p3), .val (.int (Int32.ofNat tn)), .val (.int (Int32.ofNat un)), .val (.int (Int32.ofNat sn)), .unset, .unset, .unset, .unset, .unset, .unset, .unset, .unset, .unset, .unset, .unset, .unset, .unset] [(.int (1 : Int32))])) (fun tq kt => ?_) ?_
    · show Steps p.tables e below (s₁.setTop (mkF m 27 #[.val (.int p0), .val (.int p1), .val (.int p2), .val (.int p3), .val (.int (Int32.ofNat tn)), .val (.int (Int32.ofNat un)), .val (.int (Int32.ofNat sn)), .unset, .unset, .unset, .unset, .unset, .unset, .unset, .unset, .unset, .unset, .unset, .unset, .unset] [(.int (((p2.toUInt32 >>> ((6 : Int32) &&& 31).toUInt32).toInt32) &&& (1 : Int32)))])) _
      refine XS.ifNo X0.here hx rfl (hb hby at_27) rfl (XT.i0_eq_f hc85) ?_
      show Steps p.tables e below (s₁.setTop (mkF m 30 #[.val (.int p0), .val (.int p1), .val (.int p2), .val (.int p3), .val (.int (Int32.ofNat tn)), .val (.int (Int32.ofNat un)), .val (.int (Int32.ofNat sn)), .unset, .unset, .unset, .unset, .unset, .unset, .unset, .unset, .unset, .unset, .unset, .unset, .unset] [])) _
      refine XS.iconst X0.here hx rfl (hb hby at_30) ?_
      show Steps p.tables e below (s₁.setTop (mkF m 31 #[.val (.int p0), .val (.int p1), .val (.int p2), .val (.int p3), .val (.int (Int32.ofNat tn)), .val (.int (Int32.ofNat un)), .val (.int (Int32.ofNat sn)), .unset, .unset, .unset, .unset, .unset, .unset, .unset, .unset, .unset, .unset, .unset, .unset, .unset] [(.int (1 : Int32))])) _
      refine XS.goto X0.here hx rfl (pc0 := 31) (pc' := 35) rfl (hb hby at_31) (by decide) (by decide) ?_
      exact kt
    exact J84 (1 : Int32) (if_neg hc85).symm
set_option maxRecDepth 65536 in
set_option maxHeartbeats 40000000 in
theorem comes_1 {Post : Tables → Env → Array Value → State → Outcome → State → Prop} (hpost : ∀ tb e args s v u, (limb_1_1.after args s (.returned v) u = true ∧ limb_1_2.after args s (.returned v) u = true ∧ True) → FEW s (.returned v) u (Jvm.fieldLocs frame_1_writes args s ++ Jvm.arrayLocs frame_1_arrays args s ++ Jvm.staticLocs frame_1_statics s) 16 1152 → Post tb e args s (.returned v) u) :
    ArmFor flags0 classFile x code maxLocals ret World_1 tables_1 room_1 Calls_1 rest_1 Pre_1 Post := by
  intro l hfl _ _ p e ha hc hk s m args below hf hA hF happ hP
  obtain ⟨hcalls, hrest, hpre⟩ := hP
  obtain ⟨-, -, -, hnamed, -, -, -, hat⟩ := (Spec.applies_iff hf).mp happ
  obtain ⟨hg, hn⟩ := and_e (Cond.before_iff.mp (show (Jvm.Cond.and given_1 narrow_1).before args s = true from hpre))
  obtain ⟨h1, g0⟩ := and_e hg
  obtain ⟨c0, g1⟩ := and_e g0
  obtain ⟨c1, g2⟩ := and_e g1
  obtain ⟨c2, g3⟩ := and_e g2
  obtain ⟨w0, w1, w2, w3, rfl⟩ : ∃ w0 w1 w2 w3 : Value, args = #[w0, w1, w2, w3] := by
    have hs : args.size = 4 := by simpa [Cond.value, given_1] using h1
    obtain ⟨L⟩ := args
    match L, hs with
    | [w0, w1, w2, w3], _ => exact ⟨w0, w1, w2, w3, rfl⟩
  have hw := fun d (hd : d ∈ tables_1) => atoms_spec (ws := Jvm.Cond.code x code maxLocals ret :: tables_1) hat d (List.mem_cons_of_mem _ hd)
  obtain ⟨i0, e0⟩ := is_v c0
  obtain rfl : w0 = (.int i0) := Option.some.inj e0
  obtain ⟨i1, e1⟩ := is_v c1
  obtain rfl : w1 = (.int i1) := Option.some.inj e1
  obtain ⟨i2, e2⟩ := is_v c2
  obtain rfl : w2 = (.int i2) := Option.some.inj e2
  obtain ⟨i3, e3⟩ := is_v g3
  obtain rfl : w3 = (.int i3) := Option.some.inj e3
  obtain ⟨n, o, h1, h2, h3, vq, L, rfl, ⟨hv, N⟩, hq⟩ := rm0 l s _ hw tables_1 i0 i1 i2 i3  s.heap s.heap.size (Nat.le_refl _)  p e ha hc hk s m _ below hf ((Spec.applies_iff_loose hf).mp happ).1 ⟨rfl, State.Warmed39.refl s, rfl⟩ trivial
  subst hv
  refine ⟨n, _, h1, h2, h3, hpost _ _ _ _ _ _ ⟨Cond.after_iff.mpr rfl, Cond.after_iff.mpr (eq_i res_at (Term.int_eval (1)) rfl), trivial⟩ ⟨hq.1, hq.2.1, hq.2.2.1, (hq.2.2.2.sift fun y hy => Or.inr (N y hy)).mono (by decide) (by decide)⟩⟩
theorem main_1_1 : Claimed_1_1 := comes_1 fun _ _ _ _ _ _ h hF => ⟨h.1, hF.1, hF.2.1, hF.2.2.1, hF.2.2.2⟩
theorem main_1_2 : Claimed_1_2 := comes_1 fun _ _ _ _ _ _ h hF => ⟨h.2.1, hF.1, hF.2.1, hF.2.2.1, hF.2.2.2⟩
end Jvm.Pilot.@@N@@
namespace Jvm.Pilot.@@N@@
open Jvm Jvm.ClassFile Sem Op Lib Jvm.Free Jvm.Stand Jvm.Pilot.@@N@@.Jvm.D
/-! MADE BY PROGRAM (witnessworld.py) out of the Statement's table words and the real class files: 14 classes; the members and pool entries that the words name. The judged class is class 1, her method 1. -/
namespace start1
open Jvm.ClassFile
def u (s : String) : CpInfo := .utf8 (stringToUtf16 s)
/-- a pool by its gaps: so many unusable entries, then the entry; so many at the end -/
def gap : Nat → List CpInfo → List CpInfo
  | 0, r => r
  | n + 1, r => .unusable :: gap n r
def poolList (es : List (Nat × CpInfo)) (last : Nat) : List CpInfo := es.foldr (fun e r => gap e.1 (e.2 :: r)) (gap last [])
def pool (es : List (Nat × CpInfo)) (last : Nat) : Array CpInfo := ⟨poolList es last⟩
def fileOf (pool : Array CpInfo) (this : Nat) (attrs : Array Attribute := #[]) (ms : Array MethodInfo := #[]) (fl : Nat := 33) (sup : Nat := 0) (ifs : Array Nat := #[]) (fds : Array FieldInfo := #[]) : ClassFile where
  minorVersion := 0
  majorVersion := 65
  constantPool := pool
  accessFlags := fl
  thisClass := this
  superClass := sup
  interfaces := ifs
  fields := fds
  methods := ms
  attributes := attrs
def plain (name : String) (sup : Option ClassId) : Class where
  name := name
  kind := .ordinary
  loader := none
  accessFlags := 33
  super := sup
  interfaces := #[]
  cf := none
  fields := #[]
  methods := #[]
  instanceTypes := #[]
  staticTypes := #[]
  resolved := #[]
  callSites := []
  init := .initialized
  statics := none
  mirror := none

def pool0 : Array CpInfo := pool [(5, u "<init>"), (0, u "()V"), (1, .class_ 10), (1, u "java/lang/Object")] 113

def k0c0 : Code := { maxStack := 0, maxLocals := 1, code := object_method_1_code, exceptionTable := #[], attributes := #[] }
def k0m0 : Method := { name := "<init>", desc := "()V", sig := { parameters := [], returnType := none }, accessFlags := 1, code := some k0c0 }
/-- java/lang/Object -/
def k0 : Class := { plain "java/lang/Object" none with
  accessFlags := 33
  interfaces := #[]
  cf := some (fileOf pool0 8 #[] #[{ accessFlags := 1, nameIndex := 5, descriptorIndex := 6, attributes := #[] }] 33 0 #[] #[])
  fields := #[]
  methods := #[k0m0]
  instanceTypes := #[]
  staticTypes := #[]
  resolved := Array.replicate 124 none
  statics := none }

def pool1 : Array CpInfo := pool [(2, .class_ 4), (1, u "java/lang/Object"), (0, u "<init>"), (0, u "()V"), (0, .methodref 8 9), (0, .class_ 10), (0, .nameAndType 11 12), (0, u "com/example/kenning/kenning/index/DecoderCompareTextPinLaw"), (0, u "pick"), (0, u "(IIZ)I"), (0, .class_ 14), (0, u "com/example/kenning/kenning/index/Decoder"), (0, .string 16), (0, u "t"), (0, .methodref 13 18), (0, .nameAndType 5 19), (0, u "([BLjava/lang/String;)V"), (0, .methodref 13 21), (0, .nameAndType 22 23), (0, u "compareText"), (0, u "(I[B)I"), (0, .methodref 8 25), (0, .nameAndType 26 27), (0, u "key"), (0, u "(IIII)I"), (0, .methodref 8 29), (0, .nameAndType 30 31), (0, u "sign"), (0, u "(I)I"), (0, .integer 66049), (2, u "law"), (0, u "(IIII)Z")] 5

def k1m0 : Method := { name := "<init>", desc := "()V", sig := { parameters := [], returnType := none }, accessFlags := 2, code := none }
def k1c1 : Code := { maxStack := 5, maxLocals := 20, code := code, exceptionTable := #[], attributes := #[] }
def k1m1 : Method := { name := "law", desc := "(IIII)Z", sig := { parameters := [.int, .int, .int, .int], returnType := some .boolean }, accessFlags := 9, code := some k1c1 }
def k1c2 : Code := { maxStack := 3, maxLocals := 5, code := method_3_code, exceptionTable := #[], attributes := #[] }
def k1m2 : Method := { name := "pick", desc := "(IIZ)I", sig := { parameters := [.int, .int, .boolean], returnType := some .int }, accessFlags := 10, code := some k1c2 }
def k1c3 : Code := { maxStack := 3, maxLocals := 7, code := method_4_code, exceptionTable := #[], attributes := #[] }
def k1m3 : Method := { name := "key", desc := "(IIII)I", sig := { parameters := [.int, .int, .int, .int], returnType := some .int }, accessFlags := 10, code := some k1c3 }
def k1c4 : Code := { maxStack := 1, maxLocals := 1, code := method_5_code, exceptionTable := #[], attributes := #[] }
def k1m4 : Method := { name := "sign", desc := "(I)I", sig := { parameters := [.int], returnType := some .int }, accessFlags := 10, code := some k1c4 }
/-- com/example/kenning/kenning/index/DecoderCompareTextPinLaw -/
def k1 : Class := { plain "com/example/kenning/kenning/index/DecoderCompareTextPinLaw" (some 0) with
  accessFlags := 49
  interfaces := #[]
  cf := some (fileOf pool1 8 #[] #[{ accessFlags := 2, nameIndex := 5, descriptorIndex := 6, attributes := #[] }, { accessFlags := 9, nameIndex := 35, descriptorIndex := 36, attributes := #[] }, { accessFlags := 10, nameIndex := 11, descriptorIndex := 12, attributes := #[] }, { accessFlags := 10, nameIndex := 26, descriptorIndex := 27, attributes := #[] }, { accessFlags := 10, nameIndex := 30, descriptorIndex := 31, attributes := #[] }] 49 2 #[] #[])
  fields := #[]
  methods := #[k1m0, k1m1, k1m2, k1m3, k1m4]
  instanceTypes := #[]
  staticTypes := #[]
  resolved := Array.replicate 42 none
  statics := none }

def pool2 : Array CpInfo := pool [(1, .methodref 2 3), (0, .class_ 4), (0, .nameAndType 5 6), (0, u "java/lang/Object"), (0, u "<init>"), (0, u "()V"), (0, .fieldref 8 9), (0, .class_ 10), (0, .nameAndType 11 12), (0, u "com/example/kenning/kenning/index/Decoder"), (0, u "bytes"), (0, u "[B"), (0, .fieldref 8 14), (0, .nameAndType 15 16), (0, u "limit"), (0, u "I"), (0, .fieldref 8 18), (0, .nameAndType 19 20), (0, u "source"), (0, u "Ljava/lang/String;"), (0, .fieldref 8 22), (0, .nameAndType 23 24), (0, u "pages"), (0, u "Lcom/example/kenning/kenning/index/Pages;"), (0, .fieldref 8 26), (0, .nameAndType 27 16), (0, u "ready"), (8, u "position"), (10, u "([BLjava/lang/String;)V"), (103, u "compareText"), (0, u "(I[B)I"), (47, u "ENDS_EARLY"), (1, u "TOO_LARGE"), (0, u "SHARES_TOO_MUCH"), (0, u "FOLLOWS_END"), (0, u "MOST_PER_COMPRESSED_BYTE")] 54

def k2c0 : Code := { maxStack := 2, maxLocals := 3, code := prog_179_method_1_code, exceptionTable := #[], attributes := #[] }
def k2m0 : Method := { name := "<init>", desc := "([BLjava/lang/String;)V", sig := { parameters := [(.array .byte), (.object "java/lang/String")], returnType := none }, accessFlags := 0, code := some k2c0 }
def k2c1 : Code := { maxStack := 3, maxLocals := 6, code := prog_179_method_19_code, exceptionTable := #[], attributes := #[] }
def k2m1 : Method := { name := "compareText", desc := "(I[B)I", sig := { parameters := [.int, (.array .byte)], returnType := some .int }, accessFlags := 0, code := some k2c1 }
/-- com/example/kenning/kenning/index/Decoder -/
def k2 : Class := { plain "com/example/kenning/kenning/index/Decoder" (some 0) with
  accessFlags := 48
  interfaces := #[]
  cf := some (fileOf pool2 8 #[] #[{ accessFlags := 0, nameIndex := 5, descriptorIndex := 47, attributes := #[] }, { accessFlags := 0, nameIndex := 151, descriptorIndex := 152, attributes := #[] }] 48 2 #[] #[{ accessFlags := 24, nameIndex := 200, descriptorIndex := 20, attributes := #[] }, { accessFlags := 24, nameIndex := 202, descriptorIndex := 20, attributes := #[] }, { accessFlags := 24, nameIndex := 203, descriptorIndex := 20, attributes := #[] }, { accessFlags := 24, nameIndex := 204, descriptorIndex := 20, attributes := #[] }, { accessFlags := 26, nameIndex := 205, descriptorIndex := 16, attributes := #[] }, { accessFlags := 18, nameIndex := 11, descriptorIndex := 12, attributes := #[] }, { accessFlags := 18, nameIndex := 15, descriptorIndex := 16, attributes := #[] }, { accessFlags := 18, nameIndex := 19, descriptorIndex := 20, attributes := #[] }, { accessFlags := 18, nameIndex := 23, descriptorIndex := 24, attributes := #[] }, { accessFlags := 2, nameIndex := 27, descriptorIndex := 16, attributes := #[] }, { accessFlags := 2, nameIndex := 36, descriptorIndex := 16, attributes := #[] }])
  fields := #[{ name := "ENDS_EARLY", type := (.object "java/lang/String"), accessFlags := 24, slot := 0, constantValue := 0 }, { name := "TOO_LARGE", type := (.object "java/lang/String"), accessFlags := 24, slot := 1, constantValue := 0 }, { name := "SHARES_TOO_MUCH", type := (.object "java/lang/String"), accessFlags := 24, slot := 2, constantValue := 0 }, { name := "FOLLOWS_END", type := (.object "java/lang/String"), accessFlags := 24, slot := 3, constantValue := 0 }, { name := "MOST_PER_COMPRESSED_BYTE", type := .int, accessFlags := 26, slot := 4, constantValue := 0 }, { name := "bytes", type := (.array .byte), accessFlags := 18, slot := 0, constantValue := 0 }, { name := "limit", type := .int, accessFlags := 18, slot := 1, constantValue := 0 }, { name := "source", type := (.object "java/lang/String"), accessFlags := 18, slot := 2, constantValue := 0 }, { name := "pages", type := (.object "com/example/kenning/kenning/index/Pages"), accessFlags := 18, slot := 3, constantValue := 0 }, { name := "ready", type := .int, accessFlags := 2, slot := 4, constantValue := 0 }, { name := "position", type := .int, accessFlags := 2, slot := 5, constantValue := 0 }]
  methods := #[k2m0, k2m1]
  instanceTypes := #[(.array .byte), .int, (.object "java/lang/String"), (.object "com/example/kenning/kenning/index/Pages"), .int, .int]
  staticTypes := #[(.object "java/lang/String"), (.object "java/lang/String"), (.object "java/lang/String"), (.object "java/lang/String"), .int]
  resolved := Array.replicate 260 none
  statics := none }

def pool3 : Array CpInfo := pool [(1, .class_ 2), (0, u "java/io/Serializable"), (0, .class_ 4), (0, u "java/lang/Object")] 2

/-- java/io/Serializable -/
def k3 : Class := { plain "java/io/Serializable" (some 0) with
  accessFlags := 1537
  interfaces := #[]
  cf := some (fileOf pool3 1 #[] #[] 1537 3 #[] #[])
  fields := #[]
  methods := #[]
  instanceTypes := #[]
  staticTypes := #[]
  resolved := Array.replicate 7 none
  statics := none }

def pool4 : Array CpInfo := pool [(1, .class_ 2), (0, u "java/lang/Comparable"), (0, .class_ 4), (0, u "java/lang/Object")] 7

/-- java/lang/Comparable -/
def k4 : Class := { plain "java/lang/Comparable" (some 0) with
  accessFlags := 1537
  interfaces := #[]
  cf := some (fileOf pool4 1 #[] #[] 1537 3 #[] #[])
  fields := #[]
  methods := #[]
  instanceTypes := #[]
  staticTypes := #[]
  resolved := Array.replicate 12 none
  statics := none }

def pool5 : Array CpInfo := pool [(2, .class_ 4), (1, u "java/lang/CharSequence"), (42, .class_ 48), (0, u "java/lang/CharSequence$1CodePointIterator"), (10, .class_ 60), (0, u "java/lang/CharSequence$1CharIterator"), (5, .class_ 67), (0, u "java/lang/Object")] 63

/-- java/lang/CharSequence -/
def k5 : Class := { plain "java/lang/CharSequence" (some 0) with
  accessFlags := 1537
  interfaces := #[]
  cf := some (fileOf pool5 2 #[.nestMembers #[47, 59]] #[] 1537 66 #[] #[])
  fields := #[]
  methods := #[]
  instanceTypes := #[]
  staticTypes := #[]
  resolved := Array.replicate 131 none
  statics := none }

def pool6 : Array CpInfo := pool [(1, .class_ 2), (0, u "java/lang/constant/Constable"), (0, .class_ 4), (0, u "java/lang/Object")] 6

/-- java/lang/constant/Constable -/
def k6 : Class := { plain "java/lang/constant/Constable" (some 0) with
  accessFlags := 1537
  interfaces := #[]
  cf := some (fileOf pool6 1 #[] #[] 1537 3 #[] #[])
  fields := #[]
  methods := #[]
  instanceTypes := #[]
  staticTypes := #[]
  resolved := Array.replicate 11 none
  statics := none }

def pool7 : Array CpInfo := pool [(1, .class_ 2), (0, u "java/lang/constant/ConstantDesc"), (0, .class_ 4), (0, u "java/lang/Object")] 32

/-- java/lang/constant/ConstantDesc -/
def k7 : Class := { plain "java/lang/constant/ConstantDesc" (some 0) with
  accessFlags := 1537
  interfaces := #[]
  cf := some (fileOf pool7 1 #[] #[] 1537 3 #[] #[])
  fields := #[]
  methods := #[]
  instanceTypes := #[]
  staticTypes := #[]
  resolved := Array.replicate 37 none
  statics := none }

def pool8 : Array CpInfo := pool [(2, .class_ 4), (1, u "java/lang/Object"), (0, u "<init>"), (0, u "()V"), (3, .class_ 12), (1, u "java/lang/String"), (0, u "value"), (0, u "[B"), (2, u "coder"), (0, u "B"), (2, u "hash"), (0, u "I"), (2, u "hashIsZero"), (0, u "Z"), (13, u "COMPACT_STRINGS"), (534, .class_ 576), (0, u "java/lang/CharSequence"), (22, u "CASE_INSENSITIVE_ORDER"), (0, u "Ljava/util/Comparator;"), (500, u "serialPersistentFields"), (0, u "[Ljava/io/ObjectStreamField;"), (0, .class_ 1104), (0, u "java/lang/String$CaseInsensitiveComparator"), (1, .class_ 1107), (0, u "java/io/Serializable"), (0, .class_ 1109), (0, u "java/lang/Comparable"), (0, .class_ 1111), (0, u "java/lang/constant/Constable"), (0, .class_ 1113), (0, u "java/lang/constant/ConstantDesc"), (2, u "serialVersionUID"), (0, u "J"), (3, u "REPL"), (0, u "C"), (2, u "LATIN1"), (1, u "UTF16")] 323

def k8m0 : Method := { name := "<init>", desc := "()V", sig := { parameters := [], returnType := none }, accessFlags := 1, code := none }
/-- java/lang/String -/
def k8 : Class := { plain "java/lang/String" (some 0) with
  accessFlags := 49
  interfaces := #[3, 4, 5, 6, 7]
  cf := some (fileOf pool8 10 #[.nestMembers #[1103]] #[{ accessFlags := 1, nameIndex := 5, descriptorIndex := 6, attributes := #[] }] 49 2 #[1106, 1108, 575, 1110, 1112] #[{ accessFlags := 18, nameIndex := 13, descriptorIndex := 14, attributes := #[] }, { accessFlags := 18, nameIndex := 17, descriptorIndex := 18, attributes := #[] }, { accessFlags := 2, nameIndex := 21, descriptorIndex := 22, attributes := #[] }, { accessFlags := 2, nameIndex := 25, descriptorIndex := 26, attributes := #[] }, { accessFlags := 26, nameIndex := 1116, descriptorIndex := 1117, attributes := #[] }, { accessFlags := 24, nameIndex := 40, descriptorIndex := 26, attributes := #[] }, { accessFlags := 26, nameIndex := 1101, descriptorIndex := 1102, attributes := #[] }, { accessFlags := 26, nameIndex := 1121, descriptorIndex := 1122, attributes := #[] }, { accessFlags := 25, nameIndex := 599, descriptorIndex := 600, attributes := #[] }, { accessFlags := 24, nameIndex := 1125, descriptorIndex := 18, attributes := #[] }, { accessFlags := 24, nameIndex := 1127, descriptorIndex := 18, attributes := #[] }])
  fields := #[{ name := "value", type := (.array .byte), accessFlags := 18, slot := 0, constantValue := 0 }, { name := "coder", type := .byte, accessFlags := 18, slot := 1, constantValue := 0 }, { name := "hash", type := .int, accessFlags := 2, slot := 2, constantValue := 0 }, { name := "hashIsZero", type := .boolean, accessFlags := 2, slot := 3, constantValue := 0 }, { name := "serialVersionUID", type := .long, accessFlags := 26, slot := 0, constantValue := 0 }, { name := "COMPACT_STRINGS", type := .boolean, accessFlags := 24, slot := 1, constantValue := 0 }, { name := "serialPersistentFields", type := (.array (.object "java/io/ObjectStreamField")), accessFlags := 26, slot := 2, constantValue := 0 }, { name := "REPL", type := .char, accessFlags := 26, slot := 3, constantValue := 0 }, { name := "CASE_INSENSITIVE_ORDER", type := (.object "java/util/Comparator"), accessFlags := 25, slot := 4, constantValue := 0 }, { name := "LATIN1", type := .byte, accessFlags := 24, slot := 5, constantValue := 0 }, { name := "UTF16", type := .byte, accessFlags := 24, slot := 6, constantValue := 0 }]
  methods := #[k8m0]
  instanceTypes := #[(.array .byte), .byte, .int, .boolean]
  staticTypes := #[.long, .boolean, (.array (.object "java/io/ObjectStreamField")), .char, (.object "java/util/Comparator"), .byte, .byte]
  resolved := Array.replicate 1451 none
  statics := none }

def pool9 : Array CpInfo := pool [(1, u "java/lang/Cloneable"), (0, .class_ 1), (0, u "java/lang/Object"), (0, .class_ 3)] 3

/-- java/lang/Cloneable -/
def k9 : Class := { plain "java/lang/Cloneable" (some 0) with
  accessFlags := 1537
  interfaces := #[]
  cf := some (fileOf pool9 2 #[] #[] 1537 4 #[] #[])
  fields := #[]
  methods := #[]
  instanceTypes := #[]
  staticTypes := #[]
  resolved := Array.replicate 8 none
  statics := none }

/-- the primitive byte -/
def k10 : Class := { plain "byte" none with kind := .primitive 'B', accessFlags := 0x411 }
/-- [B -/
def k11 : Class := { plain "[B" (some 0) with kind := .array 10 .byte, interfaces := #[9, 3], accessFlags := 1041 }

/-- the primitive int -/
def k12 : Class := { plain "int" none with kind := .primitive 'I', accessFlags := 0x411 }
/-- [I -/
def k13 : Class := { plain "[I" (some 0) with kind := .array 12 .int, interfaces := #[9, 3], accessFlags := 1041 }

def heap : Heap := #[]
def classes : Array Class := #[k0, k1, k2, k3, k4, k5, k6, k7, k8, k9, k10, k11, k12, k13]
def interned : List (Array UInt16 × Addr) := []
def slotsUsed : Nat := 0
def theMethod : MethodId := ⟨1, 1⟩
def args0 : Array Value := #[.int 5, .int 3, .int 41, .int 9]
def aboutOver (below : List Frame) : State where
  vm := { classes := classes, interned := interned.toArray }
  heap := heap
  slotsUsed := slotsUsed
  threads := #[{ frames := .invoking theMethod args0 :: below }]
def below0 : List Frame := [.native { method := ⟨0, 0⟩, args := #[] }]
def about1 : State := aboutOver below0
def p0 : Program := .bare "" "" ""
def e0 : Env := launch0.env 0 0 0
theorem w_frames : about1.frames = Frame.invoking theMethod args0 :: below0 := rfl
set_option maxRecDepth 65536 in
theorem w_args : argsFit about1.vm theMethod args0 = true := by decide +kernel
set_option maxRecDepth 65536 in
theorem w_heap : heapFits about1 = true := by decide +kernel
set_option maxRecDepth 65536 in
theorem w_runnable : about1.curStatus? = some .runnable := by decide +kernel
set_option maxRecDepth 65536 in
theorem w_alone : about1.alone = true := by decide +kernel
set_option maxRecDepth 65536 in
theorem w_named : about1.methodNamed? x = some theMethod := by decide +kernel
set_option maxRecDepth 65536 in
theorem w_hears : about1.hears theMethod below0 = true := by decide +kernel
set_option maxRecDepth 65536 in
theorem w_ripe : about1.ripe theMethod args0 below0 = true := by decide +kernel
theorem w_running : about1.status = .running := rfl
set_option maxRecDepth 65536 in
theorem w_room : about1.hasRoom e0.platform room_1 = true :=
  launch0.hasRoom_least _ room_1 (by decide +kernel) (by decide +kernel) (by decide +kernel) (by decide +kernel) (by decide +kernel) (by decide +kernel)
theorem allAtoms_all (ts : List Jvm.Cond) (a : Array Jvm.Value) (st : Jvm.State) : (allAtoms ts).before a st = ts.all (fun c => c.before a st) := by
  induction ts with
  | nil => rfl
  | cons c t ih =>
    show (Jvm.Cond.and c (allAtoms t)).before a st = _
    rw [Jvm.Cond.before_and, ih, List.all_cons]
def words1 : List Jvm.Cond := Jvm.Cond.code x code maxLocals ret :: tables_1
/-- a 'code' word, met by the world's own term for the bytes: nothing is compared byte by byte -/
theorem code_word {y : MethodName} {bytes : ByteArray} {mx : Nat} {rt : Option FieldType} {a : Array Value} {s : State} {m : MethodId} {meth : Method} {c : Code} (h1 : s.methodNamed? y = some m) (h2 : s.vm.method? m = some meth) (h3 : meth.code = some c) (h4 : c.code = bytes)
    (h5 : (c.maxLocals == mx && c.exceptionTable.isEmpty && decide (c.maxStack ≤ mostOperands) && decide (meth.sig.returnType = rt) && !meth.locks && decide (parseMethodDescriptor y.desc = some meth.sig)) = true) : (Jvm.Cond.code y bytes mx rt).before a s = true := by
  simp only [Bool.and_eq_true, beq_iff_eq, Bool.not_eq_true', decide_eq_true_eq] at h5
  obtain ⟨⟨⟨⟨⟨g1, g2⟩, g3⟩, g4⟩, g5⟩, g6⟩ := h5
  simp [Cond.before, Cond.holds, Cond.value, h1, h2, h3, h4, g1, g2, g3, g4, g5, g6]
def isCode : Jvm.Cond → Bool
  | .code _ _ _ _ => true
  | _ => false
theorem all_split {L : List Jvm.Cond} {P : Jvm.Cond → Bool} (h1 : L.all (fun c => isCode c || P c) = true) (h2 : ∀ c ∈ L.filter isCode, P c = true) : L.all P = true := by
  refine List.all_eq_true.mpr fun c hc => ?_
  have h := List.all_eq_true.mp h1 c hc
  rcases Bool.eq_false_or_eq_true (isCode c) with hi | hi
  · exact h2 c (List.mem_filter.mpr ⟨hc, hi⟩)
  · simpa [hi] using h
set_option maxRecDepth 65536 in
theorem w_c0 : (Jvm.Cond.code x code maxLocals ret).before args0 about1 = true := code_word (m := ⟨1, 1⟩) (meth := k1m1) (c := k1c1) (by decide +kernel) rfl rfl rfl (by decide +kernel)
set_option maxRecDepth 65536 in
theorem w_c1 : (Jvm.Cond.code ({ cls := "com/example/kenning/kenning/index/DecoderCompareTextPinLaw", name := "pick", desc := "(IIZ)I" } : Jvm.MethodName) method_3_code (5 : Nat) (Option.some Jvm.ClassFile.FieldType.int)).before args0 about1 = true := code_word (m := ⟨1, 2⟩) (meth := k1m2) (c := k1c2) (by decide +kernel) rfl rfl rfl (by decide +kernel)
set_option maxRecDepth 65536 in
theorem w_c2 : (Jvm.Cond.code ({ cls := "com/example/kenning/kenning/index/Decoder", name := "<init>", desc := "([BLjava/lang/String;)V" } : Jvm.MethodName) prog_179_method_1_code (3 : Nat) (Option.none : Option Jvm.ClassFile.FieldType)).before args0 about1 = true := code_word (m := ⟨2, 0⟩) (meth := k2m0) (c := k2c0) (by decide +kernel) rfl rfl rfl (by decide +kernel)
set_option maxRecDepth 65536 in
theorem w_c3 : (Jvm.Cond.code ({ cls := "java/lang/Object", name := "<init>", desc := "()V" } : Jvm.MethodName) object_method_1_code (1 : Nat) (Option.none : Option Jvm.ClassFile.FieldType)).before args0 about1 = true := code_word (m := ⟨0, 0⟩) (meth := k0m0) (c := k0c0) (by decide +kernel) rfl rfl rfl (by decide +kernel)
set_option maxRecDepth 65536 in
theorem w_c4 : (Jvm.Cond.code ({ cls := "com/example/kenning/kenning/index/Decoder", name := "compareText", desc := "(I[B)I" } : Jvm.MethodName) prog_179_method_19_code (6 : Nat) (Option.some Jvm.ClassFile.FieldType.int)).before args0 about1 = true := code_word (m := ⟨2, 1⟩) (meth := k2m1) (c := k2c1) (by decide +kernel) rfl rfl rfl (by decide +kernel)
set_option maxRecDepth 65536 in
theorem w_c5 : (Jvm.Cond.code ({ cls := "com/example/kenning/kenning/index/DecoderCompareTextPinLaw", name := "key", desc := "(IIII)I" } : Jvm.MethodName) method_4_code (7 : Nat) (Option.some Jvm.ClassFile.FieldType.int)).before args0 about1 = true := code_word (m := ⟨1, 3⟩) (meth := k1m3) (c := k1c3) (by decide +kernel) rfl rfl rfl (by decide +kernel)
set_option maxRecDepth 65536 in
theorem w_c6 : (Jvm.Cond.code ({ cls := "com/example/kenning/kenning/index/DecoderCompareTextPinLaw", name := "sign", desc := "(I)I" } : Jvm.MethodName) method_5_code (1 : Nat) (Option.some Jvm.ClassFile.FieldType.int)).before args0 about1 = true := code_word (m := ⟨1, 4⟩) (meth := k1m4) (c := k1c4) (by decide +kernel) rfl rfl rfl (by decide +kernel)
def codes1 : List Jvm.Cond := [Jvm.Cond.code x code maxLocals ret, Jvm.Cond.code ({ cls := "com/example/kenning/kenning/index/DecoderCompareTextPinLaw", name := "pick", desc := "(IIZ)I" } : Jvm.MethodName) method_3_code (5 : Nat) (Option.some Jvm.ClassFile.FieldType.int), Jvm.Cond.code ({ cls := "com/example/kenning/kenning/index/Decoder", name := "<init>", desc := "([BLjava/lang/String;)V" } : Jvm.MethodName) prog_179_method_1_code (3 : Nat) (Option.none : Option Jvm.ClassFile.FieldType), Jvm.Cond.code ({ cls := "java/lang/Object", name := "<init>", desc := "()V" } : Jvm.MethodName) object_method_1_code (1 : Nat) (Option.none : Option Jvm.ClassFile.FieldType), Jvm.Cond.code ({ cls := "com/example/kenning/kenning/index/Decoder", name := "compareText", desc := "(I[B)I" } : Jvm.MethodName) prog_179_method_19_code (6 : Nat) (Option.some Jvm.ClassFile.FieldType.int), Jvm.Cond.code ({ cls := "com/example/kenning/kenning/index/DecoderCompareTextPinLaw", name := "key", desc := "(IIII)I" } : Jvm.MethodName) method_4_code (7 : Nat) (Option.some Jvm.ClassFile.FieldType.int), Jvm.Cond.code ({ cls := "com/example/kenning/kenning/index/DecoderCompareTextPinLaw", name := "sign", desc := "(I)I" } : Jvm.MethodName) method_5_code (1 : Nat) (Option.some Jvm.ClassFile.FieldType.int)]
set_option maxRecDepth 65536 in
theorem codes_eq : words1.filter isCode = codes1 := rfl
theorem w_codes : ∀ c ∈ words1.filter isCode, c.before args0 about1 = true := by
  rw [codes_eq]
  intro c hc
  simp only [codes1, List.mem_cons, List.not_mem_nil, or_false] at hc
  rcases hc with rfl | rfl | rfl | rfl | rfl | rfl | rfl
  · exact w_c0
  · exact w_c1
  · exact w_c2
  · exact w_c3
  · exact w_c4
  · exact w_c5
  · exact w_c6
set_option maxRecDepth 65536 in
theorem w_t1 : (words1.take 24).all (fun c => isCode c || c.before args0 about1) = true := by decide +kernel
set_option maxRecDepth 65536 in
theorem w_t2 : (words1.drop 24).all (fun c => isCode c || c.before args0 about1) = true := by decide +kernel
theorem w_tables : (allAtoms (Jvm.Cond.code x code maxLocals ret :: tables_1)).before args0 about1 = true := by
  rw [allAtoms_all]
  show words1.all (fun c => c.before args0 about1) = true
  refine all_split ?_ w_codes
  rw [← List.take_append_drop 24 words1, List.all_append, w_t1, w_t2]
  rfl
set_option maxRecDepth 65536 in
theorem w_case : (Jvm.Cond.and given_1 narrow_1).before args0 about1 = true := by decide +kernel
theorem w_applies : (headSpec (Jvm.Cond.code x code maxLocals ret :: tables_1) room_1).applies x e0.platform about1 = true :=
  (Spec.applies_iff w_frames).mpr ⟨w_running, w_runnable, w_alone, w_named, w_hears, w_ripe, w_room, w_tables⟩
theorem atStart : AtStart classFile x code maxLocals ret World_1 tables_1 room_1 Calls_1 rest_1 Pre_1 launch0 p0 e0 about1 theMethod args0 below0 :=
  ⟨lists_1, trivial, launch0.admits_env _ _ _, launch0.least_env, fairChoices_fair.cas, fairChoices_fair.clock, w_frames, w_args, w_heap, w_applies, trivial, trivial, w_case⟩
end start1
theorem witness_1 : WitnessClaimed_1 := ⟨start1.p0, start1.e0, start1.about1, start1.theMethod, start1.args0, start1.below0, start1.atStart⟩
end Jvm.Pilot.@@N@@
