import JvmDerived
import JvmDerived.Pilot.@@N@@Statement
import JvmDerived.Pilot.@@N@@Code
set_option linter.unusedVariables false
set_option linter.unusedSimpArgs false
namespace Jvm.RoadKit
open Sem ClassFile Op Lib Jvm.Stand Jvm.Free Jvm.LawKit
section New
variable {p : Program} {l : Launch} {e : Env} {R : Room} {s : State} {m : MethodId} {args : Array Value} {below : List Frame} {meth : Method} {c : Code} {T T' : State} {locs : List Loc} {cells slots : Nat}
/-- what a body leaves: the value, and what is known of the heap and of the places written -/
def QV (w : Option Value) (P : Heap → List Loc → Prop) (v : Option Value) (h : Heap) (L : List Loc) : Prop := v = w ∧ P h L
/-- a body that writes nothing -/
def PureP (n0 : Nat) (h0 : Heap) (h : Heap) (L : List Loc) : Prop := Fr n0 L ∧ h = h0
/-- from here the body returns w and leaves P -/
def Got (p : Program) (e : Env) (below : List Frame) (s : State) (P : Heap → List Loc → Prop) (ck cs : Nat) (w : Option Value) (T : State) (g : JFrame) : Prop :=
  ∃ s₂ L, Steps p.tables e below (T.setTop g) s₂ ∧ s₂.status = .running ∧ Ended s₂ below (.returned w) ∧ P s₂.heap L ∧ FrameEnd s (.returned w) s₂ L ck cs
variable {P : Heap → List Loc → Prop} {ck cs : Nat} {w : Option Value} {g g' : JFrame}
theorem Got.step (h : ∀ t, Steps p.tables e below (T'.setTop g') t → Steps p.tables e below (T.setTop g) t) (k : Got p e below s P ck cs w T' g') : Got p e below s P ck cs w T g := by
  obtain ⟨s₂, L, h1, r⟩ := k
  exact ⟨s₂, L, h _ h1, r⟩
theorem Got.hop (h : Steps p.tables e below (T.setTop g) (T'.setTop g')) (k : Got p e below s P ck cs w T' g') : Got p e below s P ck cs w T g := Got.step (fun _ q => h.trans q) k
theorem Got.ite {q : Prop} [Decidable q] {x y : Int32} (h1 : q → Got p e below s P ck cs (some (.int x)) T g) (h2 : ¬ q → Got p e below s P ck cs (some (.int y)) T g) : Got p e below s P ck cs (some (.int (if q then x else y))) T g := by
  by_cases h : q
  · rw [if_pos h]; exact h1 h
  · rw [if_neg h]; exact h2 h
theorem Got.iteJ {q : Prop} [Decidable q] {x y : Int64} (h1 : q → Got p e below s P ck cs (some (.long x)) T g) (h2 : ¬ q → Got p e below s P ck cs (some (.long y)) T g) : Got p e below s P ck cs (some (.long (if q then x else y))) T g := by
  by_cases h : q
  · rw [if_pos h]; exact h1 h
  · rw [if_neg h]; exact h2 h
theorem Got.iteR {q : Prop} [Decidable q] {x y : Addr} (h1 : q → Got p e below s P ck cs (some (.ref x)) T g) (h2 : ¬ q → Got p e below s P ck cs (some (.ref y)) T g) : Got p e below s P ck cs (some (.ref (if q then x else y))) T g := by
  by_cases h : q
  · rw [if_pos h]; exact h1 h
  · rw [if_neg h]; exact h2 h
theorem Got.body {n : Nat} {as' : Array Value} (hg : entryFrame m as' n = g) (k : Got p e below s P ck cs w T g) :
    ∃ s₂ o, Steps p.tables e below (T.setTop (entryFrame m as' n)) s₂ ∧ s₂.status = .running ∧ Ended s₂ below o ∧ ∃ v L, o = .returned v ∧ QV w P v s₂.heap L ∧ FrameEnd s o s₂ L ck cs := by
  obtain ⟨s₂, L, h1, h2, h3, h4, h5⟩ := k
  exact ⟨s₂, _, by rw [hg]; exact h1, h2, h3, w, L, rfl, ⟨rfl, h4⟩, h5⟩
theorem Got.retN (X : Stand p l e R s m args below meth c T locs cells slots) (hx : p.tables.exec = Jvm.exec) {t : FieldType} (hret : meth.sig.returnType = some t) (ht : t = .boolean ∨ t = .byte ∨ t = .char ∨ t = .short) (hlk : meth.locks = false) {pc : Nat} {Ls : Array Slot} {z y : Int32} {rest : List Value}
    (hd : decode c.code pc = .ok (.ireturn, 1)) (hy : nar t z = y) (hP : P T.heap locs) (hc : cells ≤ ck) (hs : slots ≤ cs) : Got p e below s P ck cs (some (.int y)) T (mkF m pc Ls (.int z :: rest)) := by
  subst hy
  obtain ⟨fs, hr, hrun, hended, hW, hsame⟩ := X.leave (v := some (.int (nar t z))) (fun h => by rw [hret] at h; cases h) hlk
  exact ⟨_, locs, Jvm.RoadKit.retN X hx hret ht hd hr, hrun, hended, hP, ⟨_, rfl⟩, hW, hsame.mono hc hs⟩
theorem Got.retI (X : Stand p l e R s m args below meth c T locs cells slots) (hx : p.tables.exec = Jvm.exec) (hret : meth.sig.returnType = some .int) (hlk : meth.locks = false) {pc : Nat} {Ls : Array Slot} {z y : Int32} {rest : List Value}
    (hd : decode c.code pc = .ok (.ireturn, 1)) (hy : z = y) (hP : P T.heap locs) (hc : cells ≤ ck) (hs : slots ≤ cs) : Got p e below s P ck cs (some (.int y)) T (mkF m pc Ls (.int z :: rest)) := by
  subst hy
  obtain ⟨fs, hr, hrun, hended, hW, hsame⟩ := X.leave (v := some (.int z)) (fun h => by rw [hret] at h; cases h) hlk
  exact ⟨_, locs, retOut X hx hret rfl (Or.inl ⟨rfl, Or.inl rfl, z, rfl⟩) hd hr, hrun, hended, hP, ⟨_, rfl⟩, hW, hsame.mono hc hs⟩
theorem Got.retJ (X : Stand p l e R s m args below meth c T locs cells slots) (hx : p.tables.exec = Jvm.exec) (hret : meth.sig.returnType = some .long) (hlk : meth.locks = false) {pc : Nat} {Ls : Array Slot} {z y : Int64}
    (hd : decode c.code pc = .ok (.lreturn, 1)) (hy : z = y) (hP : P T.heap locs) (hc : cells ≤ ck) (hs : slots ≤ cs) : Got p e below s P ck cs (some (.long y)) T (mkF m pc Ls [.long z]) := by
  subst hy
  obtain ⟨fs, hr, hrun, hended, hW, hsame⟩ := X.leave (v := some (.long z)) (fun h => by rw [hret] at h; cases h) hlk
  exact ⟨_, locs, X.lreturnOut hx hret hd hr, hrun, hended, hP, ⟨_, rfl⟩, hW, hsame.mono hc hs⟩
theorem Got.retV (X : Stand p l e R s m args below meth c T locs cells slots) (hx : p.tables.exec = Jvm.exec) (hret : meth.sig.returnType = none) (hlk : meth.locks = false) {pc : Nat} {Ls : Array Slot}
    (hd : decode c.code pc = .ok (.return_, 1)) (hP : P T.heap locs) (hc : cells ≤ ck) (hs : slots ≤ cs) : Got p e below s P ck cs none T (mkF m pc Ls []) := by
  obtain ⟨fs, hr, hrun, hended, hW, hsame⟩ := X.leave (v := none) (fun _ => rfl) hlk
  exact ⟨_, locs, X.returnOut hx hret hd hr, hrun, hended, hP, ⟨_, rfl⟩, hW, hsame.mono hc hs⟩
theorem Got.retA (X : Stand p l e R s m args below meth c T locs cells slots) (hx : p.tables.exec = Jvm.exec) {t : FieldType} (hret : meth.sig.returnType = some t) (ht : t.isReference = true) (hlk : meth.locks = false) {pc : Nat} {Ls : Array Slot} {a : Addr} {rest : List Value}
    (hd : decode c.code pc = .ok (.areturn, 1)) (hn : narrow t (.ref a) = .ref a) (hP : P T.heap locs) (hc : cells ≤ ck) (hs : slots ≤ cs) : Got p e below s P ck cs (some (.ref a)) T (mkF m pc Ls (.ref a :: rest)) := by
  obtain ⟨fs, hr, hrun, hended, hW, hsame⟩ := X.leave (v := some (.ref a)) (fun h => by rw [hret] at h; cases h) hlk
  exact ⟨_, locs, retOut X hx hret hn (Or.inr (Or.inr (Or.inr (Or.inr ⟨rfl, ht, rfl⟩)))) hd hr, hrun, hended, hP, ⟨_, rfl⟩, hW, hsame.mono hc hs⟩
theorem remJ {g : JFrame} {target : State} (X : Stand p l e R s m args below meth c T locs cells slots) (hx : p.tables.exec = Jvm.exec) (hg : g.method = m) {x y : Int64} {rest : List Value} (hd : decode c.code g.pc = .ok (.lrem, 1)) (hs : g.stack = .long y :: .long x :: rest) (hy : y ≠ 0)
    (hr : Steps p.tables e below (T.setTop { g with pc := g.pc + 1, stack := .long (x % y) :: rest }) target) : Steps p.tables e below (T.setTop g) target := by
  rw [← lrem_mod x y] at hr
  exact XS.lrem X.here hx hg hd hs hy hr
theorem narB (x : Int32) : nar .byte x.toInt8.toInt32 = x.toInt8.toInt32 := by simp [nar]
end New
end Jvm.RoadKit
namespace Jvm.Pilot.@@N@@
open Jvm Jvm.ClassFile Sem Op Lib Jvm.Free Jvm.Stand Jvm.LawKit Jvm.RoadKit Bundle Jvm.Pilot.@@N@@.Jvm.D
theorem one_unset : One .unset := Or.inl rfl
theorem one_val (x : Int32) : One (.val (.int x)) := Or.inr ⟨_, rfl, rfl⟩
def asc : List Int32 → Int32
  | [] => 1
  | b :: t => if b < 0 then 0 else asc t
theorem own_i {i : Nat} (h : i < 2147483648) : (Int32.ofNat i).toInt = i := Int32.toInt_ofNat_of_lt h
theorem own_n32 {i : Nat} (h : i < 2147483648) : (Int32.ofNat i).toNatClampNeg = i := by rw [Int32.toNatClampNeg, own_i h]; rfl
theorem own_one (i : Nat) : Int32.ofNat i + (1 : Int32) = Int32.ofNat (i + 1) := (Int32.ofNat_add i 1).symm
theorem own_lt {bs : List Int32} {n : Int32} {i : Nat} (hn : n = Int32.ofNat bs.length ∧ bs.length < 2147483648) (h : i < bs.length) : Int32.ofNat i < n := by
  rw [hn.1, Int32.lt_iff_toInt_lt, own_i hn.2, own_i (by have := hn.2; omega)]; omega
theorem own_ge {bs : List Int32} {n : Int32} {i : Nat} (hn : n = Int32.ofNat bs.length ∧ bs.length < 2147483648) (h : i + 0 = bs.length) : ¬ Int32.ofNat i < n := by
  rw [hn.1, Int32.lt_iff_toInt_lt, own_i hn.2, own_i (by have := hn.2; omega)]; omega
theorem own_in {bs : List Int32} {n : Int32} {i : Nat} {cl : Cell} (hn : n = Int32.ofNat bs.length ∧ bs.length < 2147483648) (h : i < bs.length) (S : cl.slots.size = n.toNatClampNeg) : ¬ (Int32.ofNat i < 0 ∨ cl.slots.size ≤ (Int32.ofNat i).toNatClampNeg) := by
  have z : (0 : Int32).toInt = 0 := rfl
  have b := hn.2
  rw [S, hn.1, own_n32 b, own_n32 (by omega), Int32.lt_iff_toInt_lt, own_i (by omega), z]; omega
theorem own_at {bs : List Int32} {n : Int32} {i : Nat} (hn : n = Int32.ofNat bs.length ∧ bs.length < 2147483648) (h : i < bs.length) : (bs.map Value.int).getD (Int32.ofNat i).toNatClampNeg (.int (0 : Int32)) = .int bs[i] := by
  have b := hn.2
  rw [own_n32 (by omega)]
  simp [List.getD_eq_getElem?_getD, h]

theorem ef_1_0 (m : MethodId) (x0 : Int32) (x1 : Int32) (x2 : Int32) (x3 : Int32) (x4 : Int32) : entryFrame m #[(.int x0), (.int x1), (.int x2), (.int x3), (.int x4)] 5 = mkF m 0 #[.val (.int x0), .val (.int x1), .val (.int x2), .val (.int x3), .val (.int x4)] [] := by first | (simp [entryFrame, mkF, argsToLocals, Value.category]; done) | rfl
theorem pn_0 : plainName "com/example/cytobridge/cytobridge/profile/CharacterSetIsAsciiPinLaw" = true := by first | (simp [plainName, overriddenIn]; done) | decide +kernel
theorem d1_0 : decode method_2_code 0 = .ok (.iload_n 0, 1) := by decide +kernel
theorem d1_1 : decode method_2_code 1 = .ok (.ifCond .ne 7, 3) := by decide +kernel
theorem d1_4 : decode method_2_code 4 = .ok (.iconst 0, 1) := by decide +kernel
theorem d1_5 : decode method_2_code 5 = .ok (.newarray .byte, 2) := by decide +kernel
theorem d1_7 : decode method_2_code 7 = .ok (.areturn, 1) := by decide +kernel
set_option maxRecDepth 65536 in
set_option maxHeartbeats 40000000 in
theorem rm1_0 (l : Launch) (Z : State) (a0 : Array Value) (hw : ∀ d ∈ tables_1, d.before a0 Z = true) (ws : List Jvm.Cond) (p0 : Int32) (p1 : Int32) (p2 : Int32) (p3 : Int32) (p4 : Int32) (h0 : Heap) (n0 : Nat) (Z0 : n0 ≤ h0.size) (hp : p0 = 0) (hb1 : nar .byte p1 = p1) (hf1 : fits .byte (.int p1) = true) (hb2 : nar .byte p2 = p2) (hf2 : fits .byte (.int p2) = true) (hb3 : nar .byte p3 = p3) (hf3 : fits .byte (.int p3) = true) (hb4 : nar .byte p4 = p4) (hf4 : fits .byte (.int p4) = true) :
    MetFree l (⟨"com/example/cytobridge/cytobridge/profile/CharacterSetIsAsciiPinLaw", "build", "(IBBBB)[B"⟩ : MethodName) (head1 (Jvm.Cond.code (⟨"com/example/cytobridge/cytobridge/profile/CharacterSetIsAsciiPinLaw", "build", "(IBBBB)[B"⟩ : MethodName) method_2_code 5 (some (.array .byte)) :: ws) ({ frames := 0, cells := 1, slots := 0, locals := 0 } : Room)) (fun a U => a = #[(.int p0), (.int p1), (.int p2), (.int p3), (.int p4)] ∧ Z.Warmed39 U.vm ∧ U.heap = h0) (fun _ _ _ _ _ => True) (fun _ U o U' => ∃ v L, o = .returned v ∧ QV (some (.ref h0.size)) (fun h L => Fr n0 L ∧ Keep h0 h [] ∧ (∃ k : ClassId, Arv Z h h0.size k .byte (0 : Int32) [] (.int (0 : Int32)))) v U'.heap L ∧ FrameEnd U o U' L ({ frames := 0, cells := 1, slots := 0, locals := 0 } : Room).cells ({ frames := 0, cells := 1, slots := 0, locals := 0 } : Room).slots) := by
  refine MetFree.of_bodySF (plainFor_of_name pn_0) hisR ?_
  intro p e s m args below meth c s₁ Bd hml0 hP hK
  obtain ⟨rfl, hZ, hh⟩ := hP
  have hx := Bd.exec
  have hby := Bd.bytes
  have hml : c.maxLocals = 5 := hml0
  have hown : s.vm.findClass "com/example/cytobridge/cytobridge/profile/CharacterSetIsAsciiPinLaw" = some m.cls := findClass_of_methodNamed Bd.named
  have hnm := (name_of_methodNamed Bd.named Bd.method).1
  have hlk : meth.locks = false := BodyLoose.notSynchronized Bd
  have X0 : Stand p l e ({ frames := 0, cells := 1, slots := 0, locals := 0 } : Room) s m #[(.int p0), (.int p1), (.int p2), (.int p3), (.int p4)] below meth c s₁ [] 0 0 := Stand.of_body Bd
  have e0 : s₁.heap = h0 := by rw [← hh, Bd.state]; rfl
  have N0 := Fr.nil n0
  refine Got.body (ef_1_0 m p0 p1 p2 p3 p4) ?_
  have K0 := Keep.refl h0 []
  refine Got.step (T' := s₁) (g' := (mkF m 5 #[.val (.int p0), .val (.int p1), .val (.int p2), .val (.int p3), .val (.int p4)] [(.int (0 : Int32))])) (fun tq kt => ?_) ?_
  · show Steps p.tables e below (s₁.setTop (mkF m 0 #[.val (.int p0), .val (.int p1), .val (.int p2), .val (.int p3), .val (.int p4)] [])) _
    refine XS.iloadN X0.here hx rfl (hb hby d1_0) rfl ?_
    show Steps p.tables e below (s₁.setTop (mkF m 1 #[.val (.int p0), .val (.int p1), .val (.int p2), .val (.int p3), .val (.int p4)] [(.int p0)])) _
    refine XS.ifNo X0.here hx rfl (hb hby d1_1) rfl (XT.i0_ne_f hp) ?_
    show Steps p.tables e below (s₁.setTop (mkF m 4 #[.val (.int p0), .val (.int p1), .val (.int p2), .val (.int p3), .val (.int p4)] [])) _
    refine XS.iconst X0.here hx rfl (hb hby d1_4) ?_
    exact kt
  obtain ⟨T1, h1, k1, X1, e1, E1, A1, st1⟩ := newP X0 hx hZ (hw _ (List.mem_of_getElem? (i := 5) rfl)) e0 (g := (mkF m 5 #[.val (.int p0), .val (.int p1), .val (.int p2), .val (.int p3), .val (.int p4)] [(.int (0 : Int32))])) rfl (hb hby d1_5) rfl (by decide) (cap := 0) (by decide) (by decide) (by decide) (by decide)
  obtain ⟨b1, g1⟩ : ∃ z, z = h0.size := ⟨_, rfl⟩
  rw [← g1] at A1 st1
  have gn_b1 : n0 ≤ b1 := by rw [g1]; exact Z0
  have sz_b1 : h0.size ≤ b1 := by rw [g1]; exact K0.1
  have Z0_2 : n0 ≤ h1.size := (Nat.le_trans Z0 E1.1)
  have K0_3 : Keep h0 h1 [] := (K0.ext E1)
  have V1 : Arv Z h1 b1 k1 .byte (0 : Int32) [] (.int (0 : Int32)) := (Arv.new A1 (by decide)).pad (pad_rep [] (.int (0 : Int32)) 0)
  refine Got.step st1 ?_
  show Got p e below s _ _ _ _ T1 (mkF m 7 #[.val (.int p0), .val (.int p1), .val (.int p2), .val (.int p3), .val (.int p4)] [(.ref b1)])
  rw [← g1]
  exact Got.retA X1 hx Bd.returns rfl hlk (hb hby d1_7) rfl ⟨N0, by rw [e1]; exact K0_3, ⟨k1, by rw [e1]; exact V1⟩⟩ (by decide) (by decide)
theorem ef_1_1 (m : MethodId) (x0 : Int32) (x1 : Int32) (x2 : Int32) (x3 : Int32) (x4 : Int32) : entryFrame m #[(.int x0), (.int x1), (.int x2), (.int x3), (.int x4)] 5 = mkF m 0 #[.val (.int x0), .val (.int x1), .val (.int x2), .val (.int x3), .val (.int x4)] [] := by first | (simp [entryFrame, mkF, argsToLocals, Value.category]; done) | rfl
theorem d1_8 : decode method_2_code 8 = .ok (.iload_n 0, 1) := by decide +kernel
theorem d1_9 : decode method_2_code 9 = .ok (.iconst 1, 1) := by decide +kernel
theorem d1_10 : decode method_2_code 10 = .ok (.if_icmp .ne 11, 3) := by decide +kernel
theorem d1_13 : decode method_2_code 13 = .ok (.iconst 1, 1) := by decide +kernel
theorem d1_14 : decode method_2_code 14 = .ok (.newarray .byte, 2) := by decide +kernel
theorem d1_16 : decode method_2_code 16 = .ok (.dup, 1) := by decide +kernel
theorem d1_17 : decode method_2_code 17 = .ok (.iconst 0, 1) := by decide +kernel
theorem d1_18 : decode method_2_code 18 = .ok (.iload_n 1, 1) := by decide +kernel
theorem d1_19 : decode method_2_code 19 = .ok (.bastore, 1) := by decide +kernel
theorem d1_20 : decode method_2_code 20 = .ok (.areturn, 1) := by decide +kernel
set_option maxRecDepth 65536 in
set_option maxHeartbeats 40000000 in
theorem rm1_1 (l : Launch) (Z : State) (a0 : Array Value) (hw : ∀ d ∈ tables_1, d.before a0 Z = true) (ws : List Jvm.Cond) (p0 : Int32) (p1 : Int32) (p2 : Int32) (p3 : Int32) (p4 : Int32) (h0 : Heap) (n0 : Nat) (Z0 : n0 ≤ h0.size) (hp : p0 = (1 : Int32)) (hb1 : nar .byte p1 = p1) (hf1 : fits .byte (.int p1) = true) (hb2 : nar .byte p2 = p2) (hf2 : fits .byte (.int p2) = true) (hb3 : nar .byte p3 = p3) (hf3 : fits .byte (.int p3) = true) (hb4 : nar .byte p4 = p4) (hf4 : fits .byte (.int p4) = true) :
    MetFree l (⟨"com/example/cytobridge/cytobridge/profile/CharacterSetIsAsciiPinLaw", "build", "(IBBBB)[B"⟩ : MethodName) (head1 (Jvm.Cond.code (⟨"com/example/cytobridge/cytobridge/profile/CharacterSetIsAsciiPinLaw", "build", "(IBBBB)[B"⟩ : MethodName) method_2_code 5 (some (.array .byte)) :: ws) ({ frames := 0, cells := 1, slots := 1, locals := 0 } : Room)) (fun a U => a = #[(.int p0), (.int p1), (.int p2), (.int p3), (.int p4)] ∧ Z.Warmed39 U.vm ∧ U.heap = h0) (fun _ _ _ _ _ => True) (fun _ U o U' => ∃ v L, o = .returned v ∧ QV (some (.ref h0.size)) (fun h L => Fr n0 L ∧ Keep h0 h [] ∧ (∃ k : ClassId, Arv Z h h0.size k .byte (1 : Int32) [(.int p1)] (.int (0 : Int32)))) v U'.heap L ∧ FrameEnd U o U' L ({ frames := 0, cells := 1, slots := 1, locals := 0 } : Room).cells ({ frames := 0, cells := 1, slots := 1, locals := 0 } : Room).slots) := by
  refine MetFree.of_bodySF (plainFor_of_name pn_0) hisR ?_
  intro p e s m args below meth c s₁ Bd hml0 hP hK
  obtain ⟨rfl, hZ, hh⟩ := hP
  have hx := Bd.exec
  have hby := Bd.bytes
  have hml : c.maxLocals = 5 := hml0
  have hown : s.vm.findClass "com/example/cytobridge/cytobridge/profile/CharacterSetIsAsciiPinLaw" = some m.cls := findClass_of_methodNamed Bd.named
  have hnm := (name_of_methodNamed Bd.named Bd.method).1
  have hlk : meth.locks = false := BodyLoose.notSynchronized Bd
  have X0 : Stand p l e ({ frames := 0, cells := 1, slots := 1, locals := 0 } : Room) s m #[(.int p0), (.int p1), (.int p2), (.int p3), (.int p4)] below meth c s₁ [] 0 0 := Stand.of_body Bd
  have e0 : s₁.heap = h0 := by rw [← hh, Bd.state]; rfl
  have N0 := Fr.nil n0
  refine Got.body (ef_1_1 m p0 p1 p2 p3 p4) ?_
  have K0 := Keep.refl h0 []
  refine Got.step (T' := s₁) (g' := (mkF m 14 #[.val (.int p0), .val (.int p1), .val (.int p2), .val (.int p3), .val (.int p4)] [(.int (1 : Int32))])) (fun tq kt => ?_) ?_
  · show Steps p.tables e below (s₁.setTop (mkF m 0 #[.val (.int p0), .val (.int p1), .val (.int p2), .val (.int p3), .val (.int p4)] [])) _
    refine XS.iloadN X0.here hx rfl (hb hby d1_0) rfl ?_
    show Steps p.tables e below (s₁.setTop (mkF m 1 #[.val (.int p0), .val (.int p1), .val (.int p2), .val (.int p3), .val (.int p4)] [(.int p0)])) _
    refine XS.ifYes X0.here hx rfl (pc0 := 1) (pc' := 8) rfl (hb hby d1_1) rfl (XT.i0_ne_t (by rw [hp]; decide)) (by decide) (by decide) ?_
    show Steps p.tables e below (s₁.setTop (mkF m 8 #[.val (.int p0), .val (.int p1), .val (.int p2), .val (.int p3), .val (.int p4)] [])) _
    refine XS.iloadN X0.here hx rfl (hb hby d1_8) rfl ?_
    show Steps p.tables e below (s₁.setTop (mkF m 9 #[.val (.int p0), .val (.int p1), .val (.int p2), .val (.int p3), .val (.int p4)] [(.int p0)])) _
    refine XS.iconst X0.here hx rfl (hb hby d1_9) ?_
    show Steps p.tables e below (s₁.setTop (mkF m 10 #[.val (.int p0), .val (.int p1), .val (.int p2), .val (.int p3), .val (.int p4)] [(.int (1 : Int32)), (.int p0)])) _
    refine XS.icmpNo X0.here hx rfl (hb hby d1_10) rfl (XT.ii_ne_f hp) ?_
    show Steps p.tables e below (s₁.setTop (mkF m 13 #[.val (.int p0), .val (.int p1), .val (.int p2), .val (.int p3), .val (.int p4)] [])) _
    refine XS.iconst X0.here hx rfl (hb hby d1_13) ?_
    exact kt
  obtain ⟨T4, h4, k4, X4, e4, E4, A4, st4⟩ := newP X0 hx hZ (hw _ (List.mem_of_getElem? (i := 5) rfl)) e0 (g := (mkF m 14 #[.val (.int p0), .val (.int p1), .val (.int p2), .val (.int p3), .val (.int p4)] [(.int (1 : Int32))])) rfl (hb hby d1_14) rfl (by decide) (cap := 1) (by decide) (by decide) (by decide) (by decide)
  obtain ⟨b4, g4⟩ : ∃ z, z = h0.size := ⟨_, rfl⟩
  rw [← g4] at A4 st4
  have gn_b4 : n0 ≤ b4 := by rw [g4]; exact Z0
  have sz_b4 : h0.size ≤ b4 := by rw [g4]; exact K0.1
  have Z0_5 : n0 ≤ h4.size := (Nat.le_trans Z0 E4.1)
  have K0_6 : Keep h0 h4 [] := (K0.ext E4)
  have V4 : Arv Z h4 b4 k4 .byte (1 : Int32) [(.int (0 : Int32))] (.int (0 : Int32)) := (Arv.new A4 (by decide)).pad (pad_rep [] (.int (0 : Int32)) 1)
  refine Got.step st4 ?_
  show Got p e below s _ _ _ _ T4 (mkF m 16 #[.val (.int p0), .val (.int p1), .val (.int p2), .val (.int p3), .val (.int p4)] [(.ref b4)])
  refine Got.step (T' := T4) (g' := (mkF m 19 #[.val (.int p0), .val (.int p1), .val (.int p2), .val (.int p3), .val (.int p4)] [(.int p1), (.int (0 : Int32)), (.ref b4), (.ref b4)])) (fun tq kt => ?_) ?_
  · show Steps p.tables e below (T4.setTop (mkF m 16 #[.val (.int p0), .val (.int p1), .val (.int p2), .val (.int p3), .val (.int p4)] [(.ref b4)])) _
    refine XS.dup X4.here hx rfl (hb hby d1_16) rfl rfl ?_
    show Steps p.tables e below (T4.setTop (mkF m 17 #[.val (.int p0), .val (.int p1), .val (.int p2), .val (.int p3), .val (.int p4)] [(.ref b4), (.ref b4)])) _
    refine XS.iconst X4.here hx rfl (hb hby d1_17) ?_
    show Steps p.tables e below (T4.setTop (mkF m 18 #[.val (.int p0), .val (.int p1), .val (.int p2), .val (.int p3), .val (.int p4)] [(.int (0 : Int32)), (.ref b4), (.ref b4)])) _
    refine XS.iloadN X4.here hx rfl (hb hby d1_18) rfl ?_
    exact kt
  obtain ⟨cl7, Ar7, q7, S7, M7, H7, G7⟩ := (id V4)
  have hin7 : ¬ ((0 : Int32) < 0 ∨ cl7.slots.size ≤ ((0 : Int32)).toNatClampNeg) := inb_of S7 ⟨by decide, by decide⟩
  obtain ⟨T7, h7, X7, e7, W7, st7⟩ := stB X4 hx hZ e4 Ar7 (j := (0 : Int32)) hin7 (g := (mkF m 19 #[.val (.int p0), .val (.int p1), .val (.int p2), .val (.int p3), .val (.int p4)] [(.int p1), (.int (0 : Int32)), (.ref b4), (.ref b4)])) rfl rfl (hb hby d1_19)
  rw [hb1] at W7
  have Z0_8 : n0 ≤ h7.size := (Nat.le_trans Z0_5 (Keep.of_wr W7).1)
  have K0_9 : Keep h0 h7 [] := (K0_6.wr W7 (Or.inr sz_b4))
  have V7 : Arv Z h7 b4 k4 .byte (1 : Int32) [(.int p1)] (.int (0 : Int32)) := Arv.set Ar7 q7 S7 M7 H7 G7 hf1 W7 0 rfl (Nat.le_of_ble_eq_true rfl)
  have N7 := Fr.snoc X7 N0 gn_b4
  refine Got.step st7 ?_
  show Got p e below s _ _ _ _ T7 (mkF m 20 #[.val (.int p0), .val (.int p1), .val (.int p2), .val (.int p3), .val (.int p4)] [(.ref b4)])
  rw [← g4]
  exact Got.retA X7 hx Bd.returns rfl hlk (hb hby d1_20) rfl ⟨N7, by rw [e7]; exact K0_9, ⟨k4, by rw [e7]; exact V7⟩⟩ (by decide) (by decide)
theorem ef_1_2 (m : MethodId) (x0 : Int32) (x1 : Int32) (x2 : Int32) (x3 : Int32) (x4 : Int32) : entryFrame m #[(.int x0), (.int x1), (.int x2), (.int x3), (.int x4)] 5 = mkF m 0 #[.val (.int x0), .val (.int x1), .val (.int x2), .val (.int x3), .val (.int x4)] [] := by first | (simp [entryFrame, mkF, argsToLocals, Value.category]; done) | rfl
theorem d1_21 : decode method_2_code 21 = .ok (.iload_n 0, 1) := by decide +kernel
theorem d1_22 : decode method_2_code 22 = .ok (.iconst 2, 1) := by decide +kernel
theorem d1_23 : decode method_2_code 23 = .ok (.if_icmp .ne 15, 3) := by decide +kernel
theorem d1_26 : decode method_2_code 26 = .ok (.iconst 2, 1) := by decide +kernel
theorem d1_27 : decode method_2_code 27 = .ok (.newarray .byte, 2) := by decide +kernel
theorem d1_29 : decode method_2_code 29 = .ok (.dup, 1) := by decide +kernel
theorem d1_30 : decode method_2_code 30 = .ok (.iconst 0, 1) := by decide +kernel
theorem d1_31 : decode method_2_code 31 = .ok (.iload_n 1, 1) := by decide +kernel
theorem d1_32 : decode method_2_code 32 = .ok (.bastore, 1) := by decide +kernel
theorem d1_33 : decode method_2_code 33 = .ok (.dup, 1) := by decide +kernel
theorem d1_34 : decode method_2_code 34 = .ok (.iconst 1, 1) := by decide +kernel
theorem d1_35 : decode method_2_code 35 = .ok (.iload_n 2, 1) := by decide +kernel
theorem d1_36 : decode method_2_code 36 = .ok (.bastore, 1) := by decide +kernel
theorem d1_37 : decode method_2_code 37 = .ok (.areturn, 1) := by decide +kernel
set_option maxRecDepth 65536 in
set_option maxHeartbeats 40000000 in
theorem rm1_2 (l : Launch) (Z : State) (a0 : Array Value) (hw : ∀ d ∈ tables_1, d.before a0 Z = true) (ws : List Jvm.Cond) (p0 : Int32) (p1 : Int32) (p2 : Int32) (p3 : Int32) (p4 : Int32) (h0 : Heap) (n0 : Nat) (Z0 : n0 ≤ h0.size) (hp : p0 = (2 : Int32)) (hb1 : nar .byte p1 = p1) (hf1 : fits .byte (.int p1) = true) (hb2 : nar .byte p2 = p2) (hf2 : fits .byte (.int p2) = true) (hb3 : nar .byte p3 = p3) (hf3 : fits .byte (.int p3) = true) (hb4 : nar .byte p4 = p4) (hf4 : fits .byte (.int p4) = true) :
    MetFree l (⟨"com/example/cytobridge/cytobridge/profile/CharacterSetIsAsciiPinLaw", "build", "(IBBBB)[B"⟩ : MethodName) (head1 (Jvm.Cond.code (⟨"com/example/cytobridge/cytobridge/profile/CharacterSetIsAsciiPinLaw", "build", "(IBBBB)[B"⟩ : MethodName) method_2_code 5 (some (.array .byte)) :: ws) ({ frames := 0, cells := 1, slots := 2, locals := 0 } : Room)) (fun a U => a = #[(.int p0), (.int p1), (.int p2), (.int p3), (.int p4)] ∧ Z.Warmed39 U.vm ∧ U.heap = h0) (fun _ _ _ _ _ => True) (fun _ U o U' => ∃ v L, o = .returned v ∧ QV (some (.ref h0.size)) (fun h L => Fr n0 L ∧ Keep h0 h [] ∧ (∃ k : ClassId, Arv Z h h0.size k .byte (2 : Int32) [(.int p1), (.int p2)] (.int (0 : Int32)))) v U'.heap L ∧ FrameEnd U o U' L ({ frames := 0, cells := 1, slots := 2, locals := 0 } : Room).cells ({ frames := 0, cells := 1, slots := 2, locals := 0 } : Room).slots) := by
  refine MetFree.of_bodySF (plainFor_of_name pn_0) hisR ?_
  intro p e s m args below meth c s₁ Bd hml0 hP hK
  obtain ⟨rfl, hZ, hh⟩ := hP
  have hx := Bd.exec
  have hby := Bd.bytes
  have hml : c.maxLocals = 5 := hml0
  have hown : s.vm.findClass "com/example/cytobridge/cytobridge/profile/CharacterSetIsAsciiPinLaw" = some m.cls := findClass_of_methodNamed Bd.named
  have hnm := (name_of_methodNamed Bd.named Bd.method).1
  have hlk : meth.locks = false := BodyLoose.notSynchronized Bd
  have X0 : Stand p l e ({ frames := 0, cells := 1, slots := 2, locals := 0 } : Room) s m #[(.int p0), (.int p1), (.int p2), (.int p3), (.int p4)] below meth c s₁ [] 0 0 := Stand.of_body Bd
  have e0 : s₁.heap = h0 := by rw [← hh, Bd.state]; rfl
  have N0 := Fr.nil n0
  refine Got.body (ef_1_2 m p0 p1 p2 p3 p4) ?_
  have K0 := Keep.refl h0 []
  refine Got.step (T' := s₁) (g' := (mkF m 27 #[.val (.int p0), .val (.int p1), .val (.int p2), .val (.int p3), .val (.int p4)] [(.int (2 : Int32))])) (fun tq kt => ?_) ?_
  · show Steps p.tables e below (s₁.setTop (mkF m 0 #[.val (.int p0), .val (.int p1), .val (.int p2), .val (.int p3), .val (.int p4)] [])) _
    refine XS.iloadN X0.here hx rfl (hb hby d1_0) rfl ?_
    show Steps p.tables e below (s₁.setTop (mkF m 1 #[.val (.int p0), .val (.int p1), .val (.int p2), .val (.int p3), .val (.int p4)] [(.int p0)])) _
    refine XS.ifYes X0.here hx rfl (pc0 := 1) (pc' := 8) rfl (hb hby d1_1) rfl (XT.i0_ne_t (by rw [hp]; decide)) (by decide) (by decide) ?_
    show Steps p.tables e below (s₁.setTop (mkF m 8 #[.val (.int p0), .val (.int p1), .val (.int p2), .val (.int p3), .val (.int p4)] [])) _
    refine XS.iloadN X0.here hx rfl (hb hby d1_8) rfl ?_
    show Steps p.tables e below (s₁.setTop (mkF m 9 #[.val (.int p0), .val (.int p1), .val (.int p2), .val (.int p3), .val (.int p4)] [(.int p0)])) _
    refine XS.iconst X0.here hx rfl (hb hby d1_9) ?_
    show Steps p.tables e below (s₁.setTop (mkF m 10 #[.val (.int p0), .val (.int p1), .val (.int p2), .val (.int p3), .val (.int p4)] [(.int (1 : Int32)), (.int p0)])) _
    refine XS.icmpYes X0.here hx rfl (pc0 := 10) (pc' := 21) rfl (hb hby d1_10) rfl (XT.ii_ne_t (by rw [hp]; decide)) (by decide) (by decide) ?_
    show Steps p.tables e below (s₁.setTop (mkF m 21 #[.val (.int p0), .val (.int p1), .val (.int p2), .val (.int p3), .val (.int p4)] [])) _
    refine XS.iloadN X0.here hx rfl (hb hby d1_21) rfl ?_
    show Steps p.tables e below (s₁.setTop (mkF m 22 #[.val (.int p0), .val (.int p1), .val (.int p2), .val (.int p3), .val (.int p4)] [(.int p0)])) _
    refine XS.iconst X0.here hx rfl (hb hby d1_22) ?_
    show Steps p.tables e below (s₁.setTop (mkF m 23 #[.val (.int p0), .val (.int p1), .val (.int p2), .val (.int p3), .val (.int p4)] [(.int (2 : Int32)), (.int p0)])) _
    refine XS.icmpNo X0.here hx rfl (hb hby d1_23) rfl (XT.ii_ne_f hp) ?_
    show Steps p.tables e below (s₁.setTop (mkF m 26 #[.val (.int p0), .val (.int p1), .val (.int p2), .val (.int p3), .val (.int p4)] [])) _
    refine XS.iconst X0.here hx rfl (hb hby d1_26) ?_
    exact kt
  obtain ⟨T10, h10, k10, X10, e10, E10, A10, st10⟩ := newP X0 hx hZ (hw _ (List.mem_of_getElem? (i := 5) rfl)) e0 (g := (mkF m 27 #[.val (.int p0), .val (.int p1), .val (.int p2), .val (.int p3), .val (.int p4)] [(.int (2 : Int32))])) rfl (hb hby d1_27) rfl (by decide) (cap := 2) (by decide) (by decide) (by decide) (by decide)
  obtain ⟨b10, g10⟩ : ∃ z, z = h0.size := ⟨_, rfl⟩
  rw [← g10] at A10 st10
  have gn_b10 : n0 ≤ b10 := by rw [g10]; exact Z0
  have sz_b10 : h0.size ≤ b10 := by rw [g10]; exact K0.1
  have Z0_11 : n0 ≤ h10.size := (Nat.le_trans Z0 E10.1)
  have K0_12 : Keep h0 h10 [] := (K0.ext E10)
  have V10 : Arv Z h10 b10 k10 .byte (2 : Int32) [(.int (0 : Int32)), (.int (0 : Int32))] (.int (0 : Int32)) := (Arv.new A10 (by decide)).pad (pad_rep [] (.int (0 : Int32)) 2)
  refine Got.step st10 ?_
  show Got p e below s _ _ _ _ T10 (mkF m 29 #[.val (.int p0), .val (.int p1), .val (.int p2), .val (.int p3), .val (.int p4)] [(.ref b10)])
  refine Got.step (T' := T10) (g' := (mkF m 32 #[.val (.int p0), .val (.int p1), .val (.int p2), .val (.int p3), .val (.int p4)] [(.int p1), (.int (0 : Int32)), (.ref b10), (.ref b10)])) (fun tq kt => ?_) ?_
  · show Steps p.tables e below (T10.setTop (mkF m 29 #[.val (.int p0), .val (.int p1), .val (.int p2), .val (.int p3), .val (.int p4)] [(.ref b10)])) _
    refine XS.dup X10.here hx rfl (hb hby d1_29) rfl rfl ?_
    show Steps p.tables e below (T10.setTop (mkF m 30 #[.val (.int p0), .val (.int p1), .val (.int p2), .val (.int p3), .val (.int p4)] [(.ref b10), (.ref b10)])) _
    refine XS.iconst X10.here hx rfl (hb hby d1_30) ?_
    show Steps p.tables e below (T10.setTop (mkF m 31 #[.val (.int p0), .val (.int p1), .val (.int p2), .val (.int p3), .val (.int p4)] [(.int (0 : Int32)), (.ref b10), (.ref b10)])) _
    refine XS.iloadN X10.here hx rfl (hb hby d1_31) rfl ?_
    exact kt
  obtain ⟨cl13, Ar13, q13, S13, M13, H13, G13⟩ := (id V10)
  have hin13 : ¬ ((0 : Int32) < 0 ∨ cl13.slots.size ≤ ((0 : Int32)).toNatClampNeg) := inb_of S13 ⟨by decide, by decide⟩
  obtain ⟨T13, h13, X13, e13, W13, st13⟩ := stB X10 hx hZ e10 Ar13 (j := (0 : Int32)) hin13 (g := (mkF m 32 #[.val (.int p0), .val (.int p1), .val (.int p2), .val (.int p3), .val (.int p4)] [(.int p1), (.int (0 : Int32)), (.ref b10), (.ref b10)])) rfl rfl (hb hby d1_32)
  rw [hb1] at W13
  have Z0_14 : n0 ≤ h13.size := (Nat.le_trans Z0_11 (Keep.of_wr W13).1)
  have K0_15 : Keep h0 h13 [] := (K0_12.wr W13 (Or.inr sz_b10))
  have V13 : Arv Z h13 b10 k10 .byte (2 : Int32) [(.int p1), (.int (0 : Int32))] (.int (0 : Int32)) := Arv.set Ar13 q13 S13 M13 H13 G13 hf1 W13 0 rfl (Nat.le_of_ble_eq_true rfl)
  have N13 := Fr.snoc X13 N0 gn_b10
  refine Got.step st13 ?_
  show Got p e below s _ _ _ _ T13 (mkF m 33 #[.val (.int p0), .val (.int p1), .val (.int p2), .val (.int p3), .val (.int p4)] [(.ref b10)])
  refine Got.step (T' := T13) (g' := (mkF m 36 #[.val (.int p0), .val (.int p1), .val (.int p2), .val (.int p3), .val (.int p4)] [(.int p2), (.int (1 : Int32)), (.ref b10), (.ref b10)])) (fun tq kt => ?_) ?_
  · show Steps p.tables e below (T13.setTop (mkF m 33 #[.val (.int p0), .val (.int p1), .val (.int p2), .val (.int p3), .val (.int p4)] [(.ref b10)])) _
    refine XS.dup X13.here hx rfl (hb hby d1_33) rfl rfl ?_
    show Steps p.tables e below (T13.setTop (mkF m 34 #[.val (.int p0), .val (.int p1), .val (.int p2), .val (.int p3), .val (.int p4)] [(.ref b10), (.ref b10)])) _
    refine XS.iconst X13.here hx rfl (hb hby d1_34) ?_
    show Steps p.tables e below (T13.setTop (mkF m 35 #[.val (.int p0), .val (.int p1), .val (.int p2), .val (.int p3), .val (.int p4)] [(.int (1 : Int32)), (.ref b10), (.ref b10)])) _
    refine XS.iloadN X13.here hx rfl (hb hby d1_35) rfl ?_
    exact kt
  obtain ⟨cl16, Ar16, q16, S16, M16, H16, G16⟩ := (id V13)
  have hin16 : ¬ ((1 : Int32) < 0 ∨ cl16.slots.size ≤ ((1 : Int32)).toNatClampNeg) := inb_of S16 ⟨by decide, by decide⟩
  obtain ⟨T16, h16, X16, e16, W16, st16⟩ := stB X13 hx hZ e13 Ar16 (j := (1 : Int32)) hin16 (g := (mkF m 36 #[.val (.int p0), .val (.int p1), .val (.int p2), .val (.int p3), .val (.int p4)] [(.int p2), (.int (1 : Int32)), (.ref b10), (.ref b10)])) rfl rfl (hb hby d1_36)
  rw [hb2] at W16
  have Z0_17 : n0 ≤ h16.size := (Nat.le_trans Z0_14 (Keep.of_wr W16).1)
  have K0_18 : Keep h0 h16 [] := (K0_15.wr W16 (Or.inr sz_b10))
  have V16 : Arv Z h16 b10 k10 .byte (2 : Int32) [(.int p1), (.int p2)] (.int (0 : Int32)) := Arv.set Ar16 q16 S16 M16 H16 G16 hf2 W16 1 rfl (Nat.le_of_ble_eq_true rfl)
  have N16 := Fr.snoc X16 N13 gn_b10
  refine Got.step st16 ?_
  show Got p e below s _ _ _ _ T16 (mkF m 37 #[.val (.int p0), .val (.int p1), .val (.int p2), .val (.int p3), .val (.int p4)] [(.ref b10)])
  rw [← g10]
  exact Got.retA X16 hx Bd.returns rfl hlk (hb hby d1_37) rfl ⟨N16, by rw [e16]; exact K0_18, ⟨k10, by rw [e16]; exact V16⟩⟩ (by decide) (by decide)
theorem ef_1_3 (m : MethodId) (x0 : Int32) (x1 : Int32) (x2 : Int32) (x3 : Int32) (x4 : Int32) : entryFrame m #[(.int x0), (.int x1), (.int x2), (.int x3), (.int x4)] 5 = mkF m 0 #[.val (.int x0), .val (.int x1), .val (.int x2), .val (.int x3), .val (.int x4)] [] := by first | (simp [entryFrame, mkF, argsToLocals, Value.category]; done) | rfl
theorem d1_38 : decode method_2_code 38 = .ok (.iload_n 0, 1) := by decide +kernel
theorem d1_39 : decode method_2_code 39 = .ok (.iconst 3, 1) := by decide +kernel
theorem d1_40 : decode method_2_code 40 = .ok (.if_icmp .ne 19, 3) := by decide +kernel
theorem d1_43 : decode method_2_code 43 = .ok (.iconst 3, 1) := by decide +kernel
theorem d1_44 : decode method_2_code 44 = .ok (.newarray .byte, 2) := by decide +kernel
theorem d1_46 : decode method_2_code 46 = .ok (.dup, 1) := by decide +kernel
theorem d1_47 : decode method_2_code 47 = .ok (.iconst 0, 1) := by decide +kernel
theorem d1_48 : decode method_2_code 48 = .ok (.iload_n 1, 1) := by decide +kernel
theorem d1_49 : decode method_2_code 49 = .ok (.bastore, 1) := by decide +kernel
theorem d1_50 : decode method_2_code 50 = .ok (.dup, 1) := by decide +kernel
theorem d1_51 : decode method_2_code 51 = .ok (.iconst 1, 1) := by decide +kernel
theorem d1_52 : decode method_2_code 52 = .ok (.iload_n 2, 1) := by decide +kernel
theorem d1_53 : decode method_2_code 53 = .ok (.bastore, 1) := by decide +kernel
theorem d1_54 : decode method_2_code 54 = .ok (.dup, 1) := by decide +kernel
theorem d1_55 : decode method_2_code 55 = .ok (.iconst 2, 1) := by decide +kernel
theorem d1_56 : decode method_2_code 56 = .ok (.iload_n 3, 1) := by decide +kernel
theorem d1_57 : decode method_2_code 57 = .ok (.bastore, 1) := by decide +kernel
theorem d1_58 : decode method_2_code 58 = .ok (.areturn, 1) := by decide +kernel
set_option maxRecDepth 65536 in
set_option maxHeartbeats 40000000 in
theorem rm1_3 (l : Launch) (Z : State) (a0 : Array Value) (hw : ∀ d ∈ tables_1, d.before a0 Z = true) (ws : List Jvm.Cond) (p0 : Int32) (p1 : Int32) (p2 : Int32) (p3 : Int32) (p4 : Int32) (h0 : Heap) (n0 : Nat) (Z0 : n0 ≤ h0.size) (hp : p0 = (3 : Int32)) (hb1 : nar .byte p1 = p1) (hf1 : fits .byte (.int p1) = true) (hb2 : nar .byte p2 = p2) (hf2 : fits .byte (.int p2) = true) (hb3 : nar .byte p3 = p3) (hf3 : fits .byte (.int p3) = true) (hb4 : nar .byte p4 = p4) (hf4 : fits .byte (.int p4) = true) :
    MetFree l (⟨"com/example/cytobridge/cytobridge/profile/CharacterSetIsAsciiPinLaw", "build", "(IBBBB)[B"⟩ : MethodName) (head1 (Jvm.Cond.code (⟨"com/example/cytobridge/cytobridge/profile/CharacterSetIsAsciiPinLaw", "build", "(IBBBB)[B"⟩ : MethodName) method_2_code 5 (some (.array .byte)) :: ws) ({ frames := 0, cells := 1, slots := 3, locals := 0 } : Room)) (fun a U => a = #[(.int p0), (.int p1), (.int p2), (.int p3), (.int p4)] ∧ Z.Warmed39 U.vm ∧ U.heap = h0) (fun _ _ _ _ _ => True) (fun _ U o U' => ∃ v L, o = .returned v ∧ QV (some (.ref h0.size)) (fun h L => Fr n0 L ∧ Keep h0 h [] ∧ (∃ k : ClassId, Arv Z h h0.size k .byte (3 : Int32) [(.int p1), (.int p2), (.int p3)] (.int (0 : Int32)))) v U'.heap L ∧ FrameEnd U o U' L ({ frames := 0, cells := 1, slots := 3, locals := 0 } : Room).cells ({ frames := 0, cells := 1, slots := 3, locals := 0 } : Room).slots) := by
  refine MetFree.of_bodySF (plainFor_of_name pn_0) hisR ?_
  intro p e s m args below meth c s₁ Bd hml0 hP hK
  obtain ⟨rfl, hZ, hh⟩ := hP
  have hx := Bd.exec
  have hby := Bd.bytes
  have hml : c.maxLocals = 5 := hml0
  have hown : s.vm.findClass "com/example/cytobridge/cytobridge/profile/CharacterSetIsAsciiPinLaw" = some m.cls := findClass_of_methodNamed Bd.named
  have hnm := (name_of_methodNamed Bd.named Bd.method).1
  have hlk : meth.locks = false := BodyLoose.notSynchronized Bd
  have X0 : Stand p l e ({ frames := 0, cells := 1, slots := 3, locals := 0 } : Room) s m #[(.int p0), (.int p1), (.int p2), (.int p3), (.int p4)] below meth c s₁ [] 0 0 := Stand.of_body Bd
  have e0 : s₁.heap = h0 := by rw [← hh, Bd.state]; rfl
  have N0 := Fr.nil n0
  refine Got.body (ef_1_3 m p0 p1 p2 p3 p4) ?_
  have K0 := Keep.refl h0 []
  refine Got.step (T' := s₁) (g' := (mkF m 44 #[.val (.int p0), .val (.int p1), .val (.int p2), .val (.int p3), .val (.int p4)] [(.int (3 : Int32))])) (fun tq kt => ?_) ?_
  · show Steps p.tables e below (s₁.setTop (mkF m 0 #[.val (.int p0), .val (.int p1), .val (.int p2), .val (.int p3), .val (.int p4)] [])) _
    refine XS.iloadN X0.here hx rfl (hb hby d1_0) rfl ?_
    show Steps p.tables e below (s₁.setTop (mkF m 1 #[.val (.int p0), .val (.int p1), .val (.int p2), .val (.int p3), .val (.int p4)] [(.int p0)])) _
    refine XS.ifYes X0.here hx rfl (pc0 := 1) (pc' := 8) rfl (hb hby d1_1) rfl (XT.i0_ne_t (by rw [hp]; decide)) (by decide) (by decide) ?_
    show Steps p.tables e below (s₁.setTop (mkF m 8 #[.val (.int p0), .val (.int p1), .val (.int p2), .val (.int p3), .val (.int p4)] [])) _
    refine XS.iloadN X0.here hx rfl (hb hby d1_8) rfl ?_
    show Steps p.tables e below (s₁.setTop (mkF m 9 #[.val (.int p0), .val (.int p1), .val (.int p2), .val (.int p3), .val (.int p4)] [(.int p0)])) _
    refine XS.iconst X0.here hx rfl (hb hby d1_9) ?_
    show Steps p.tables e below (s₁.setTop (mkF m 10 #[.val (.int p0), .val (.int p1), .val (.int p2), .val (.int p3), .val (.int p4)] [(.int (1 : Int32)), (.int p0)])) _
    refine XS.icmpYes X0.here hx rfl (pc0 := 10) (pc' := 21) rfl (hb hby d1_10) rfl (XT.ii_ne_t (by rw [hp]; decide)) (by decide) (by decide) ?_
    show Steps p.tables e below (s₁.setTop (mkF m 21 #[.val (.int p0), .val (.int p1), .val (.int p2), .val (.int p3), .val (.int p4)] [])) _
    refine XS.iloadN X0.here hx rfl (hb hby d1_21) rfl ?_
    show Steps p.tables e below (s₁.setTop (mkF m 22 #[.val (.int p0), .val (.int p1), .val (.int p2), .val (.int p3), .val (.int p4)] [(.int p0)])) _
    refine XS.iconst X0.here hx rfl (hb hby d1_22) ?_
    show Steps p.tables e below (s₁.setTop (mkF m 23 #[.val (.int p0), .val (.int p1), .val (.int p2), .val (.int p3), .val (.int p4)] [(.int (2 : Int32)), (.int p0)])) _
    refine XS.icmpYes X0.here hx rfl (pc0 := 23) (pc' := 38) rfl (hb hby d1_23) rfl (XT.ii_ne_t (by rw [hp]; decide)) (by decide) (by decide) ?_
    show Steps p.tables e below (s₁.setTop (mkF m 38 #[.val (.int p0), .val (.int p1), .val (.int p2), .val (.int p3), .val (.int p4)] [])) _
    refine XS.iloadN X0.here hx rfl (hb hby d1_38) rfl ?_
    show Steps p.tables e below (s₁.setTop (mkF m 39 #[.val (.int p0), .val (.int p1), .val (.int p2), .val (.int p3), .val (.int p4)] [(.int p0)])) _
    refine XS.iconst X0.here hx rfl (hb hby d1_39) ?_
    show Steps p.tables e below (s₁.setTop (mkF m 40 #[.val (.int p0), .val (.int p1), .val (.int p2), .val (.int p3), .val (.int p4)] [(.int (3 : Int32)), (.int p0)])) _
    refine XS.icmpNo X0.here hx rfl (hb hby d1_40) rfl (XT.ii_ne_f hp) ?_
    show Steps p.tables e below (s₁.setTop (mkF m 43 #[.val (.int p0), .val (.int p1), .val (.int p2), .val (.int p3), .val (.int p4)] [])) _
    refine XS.iconst X0.here hx rfl (hb hby d1_43) ?_
    exact kt
  obtain ⟨T19, h19, k19, X19, e19, E19, A19, st19⟩ := newP X0 hx hZ (hw _ (List.mem_of_getElem? (i := 5) rfl)) e0 (g := (mkF m 44 #[.val (.int p0), .val (.int p1), .val (.int p2), .val (.int p3), .val (.int p4)] [(.int (3 : Int32))])) rfl (hb hby d1_44) rfl (by decide) (cap := 3) (by decide) (by decide) (by decide) (by decide)
  obtain ⟨b19, g19⟩ : ∃ z, z = h0.size := ⟨_, rfl⟩
  rw [← g19] at A19 st19
  have gn_b19 : n0 ≤ b19 := by rw [g19]; exact Z0
  have sz_b19 : h0.size ≤ b19 := by rw [g19]; exact K0.1
  have Z0_20 : n0 ≤ h19.size := (Nat.le_trans Z0 E19.1)
  have K0_21 : Keep h0 h19 [] := (K0.ext E19)
  have V19 : Arv Z h19 b19 k19 .byte (3 : Int32) [(.int (0 : Int32)), (.int (0 : Int32)), (.int (0 : Int32))] (.int (0 : Int32)) := (Arv.new A19 (by decide)).pad (pad_rep [] (.int (0 : Int32)) 3)
  refine Got.step st19 ?_
  show Got p e below s _ _ _ _ T19 (mkF m 46 #[.val (.int p0), .val (.int p1), .val (.int p2), .val (.int p3), .val (.int p4)] [(.ref b19)])
  refine Got.step (T' := T19) (g' := (mkF m 49 #[.val (.int p0), .val (.int p1), .val (.int p2), .val (.int p3), .val (.int p4)] [(.int p1), (.int (0 : Int32)), (.ref b19), (.ref b19)])) (fun tq kt => ?_) ?_
  · show Steps p.tables e below (T19.setTop (mkF m 46 #[.val (.int p0), .val (.int p1), .val (.int p2), .val (.int p3), .val (.int p4)] [(.ref b19)])) _
    refine XS.dup X19.here hx rfl (hb hby d1_46) rfl rfl ?_
    show Steps p.tables e below (T19.setTop (mkF m 47 #[.val (.int p0), .val (.int p1), .val (.int p2), .val (.int p3), .val (.int p4)] [(.ref b19), (.ref b19)])) _
    refine XS.iconst X19.here hx rfl (hb hby d1_47) ?_
    show Steps p.tables e below (T19.setTop (mkF m 48 #[.val (.int p0), .val (.int p1), .val (.int p2), .val (.int p3), .val (.int p4)] [(.int (0 : Int32)), (.ref b19), (.ref b19)])) _
    refine XS.iloadN X19.here hx rfl (hb hby d1_48) rfl ?_
    exact kt
  obtain ⟨cl22, Ar22, q22, S22, M22, H22, G22⟩ := (id V19)
  have hin22 : ¬ ((0 : Int32) < 0 ∨ cl22.slots.size ≤ ((0 : Int32)).toNatClampNeg) := inb_of S22 ⟨by decide, by decide⟩
  obtain ⟨T22, h22, X22, e22, W22, st22⟩ := stB X19 hx hZ e19 Ar22 (j := (0 : Int32)) hin22 (g := (mkF m 49 #[.val (.int p0), .val (.int p1), .val (.int p2), .val (.int p3), .val (.int p4)] [(.int p1), (.int (0 : Int32)), (.ref b19), (.ref b19)])) rfl rfl (hb hby d1_49)
  rw [hb1] at W22
  have Z0_23 : n0 ≤ h22.size := (Nat.le_trans Z0_20 (Keep.of_wr W22).1)
  have K0_24 : Keep h0 h22 [] := (K0_21.wr W22 (Or.inr sz_b19))
  have V22 : Arv Z h22 b19 k19 .byte (3 : Int32) [(.int p1), (.int (0 : Int32)), (.int (0 : Int32))] (.int (0 : Int32)) := Arv.set Ar22 q22 S22 M22 H22 G22 hf1 W22 0 rfl (Nat.le_of_ble_eq_true rfl)
  have N22 := Fr.snoc X22 N0 gn_b19
  refine Got.step st22 ?_
  show Got p e below s _ _ _ _ T22 (mkF m 50 #[.val (.int p0), .val (.int p1), .val (.int p2), .val (.int p3), .val (.int p4)] [(.ref b19)])
  refine Got.step (T' := T22) (g' := (mkF m 53 #[.val (.int p0), .val (.int p1), .val (.int p2), .val (.int p3), .val (.int p4)] [(.int p2), (.int (1 : Int32)), (.ref b19), (.ref b19)])) (fun tq kt => ?_) ?_
  · show Steps p.tables e below (T22.setTop (mkF m 50 #[.val (.int p0), .val (.int p1), .val (.int p2), .val (.int p3), .val (.int p4)] [(.ref b19)])) _
    refine XS.dup X22.here hx rfl (hb hby d1_50) rfl rfl ?_
    show Steps p.tables e below (T22.setTop (mkF m 51 #[.val (.int p0), .val (.int p1), .val (.int p2), .val (.int p3), .val (.int p4)] [(.ref b19), (.ref b19)])) _
    refine XS.iconst X22.here hx rfl (hb hby d1_51) ?_
    show Steps p.tables e below (T22.setTop (mkF m 52 #[.val (.int p0), .val (.int p1), .val (.int p2), .val (.int p3), .val (.int p4)] [(.int (1 : Int32)), (.ref b19), (.ref b19)])) _
    refine XS.iloadN X22.here hx rfl (hb hby d1_52) rfl ?_
    exact kt
  obtain ⟨cl25, Ar25, q25, S25, M25, H25, G25⟩ := (id V22)
  have hin25 : ¬ ((1 : Int32) < 0 ∨ cl25.slots.size ≤ ((1 : Int32)).toNatClampNeg) := inb_of S25 ⟨by decide, by decide⟩
  obtain ⟨T25, h25, X25, e25, W25, st25⟩ := stB X22 hx hZ e22 Ar25 (j := (1 : Int32)) hin25 (g := (mkF m 53 #[.val (.int p0), .val (.int p1), .val (.int p2), .val (.int p3), .val (.int p4)] [(.int p2), (.int (1 : Int32)), (.ref b19), (.ref b19)])) rfl rfl (hb hby d1_53)
  rw [hb2] at W25
  have Z0_26 : n0 ≤ h25.size := (Nat.le_trans Z0_23 (Keep.of_wr W25).1)
  have K0_27 : Keep h0 h25 [] := (K0_24.wr W25 (Or.inr sz_b19))
  have V25 : Arv Z h25 b19 k19 .byte (3 : Int32) [(.int p1), (.int p2), (.int (0 : Int32))] (.int (0 : Int32)) := Arv.set Ar25 q25 S25 M25 H25 G25 hf2 W25 1 rfl (Nat.le_of_ble_eq_true rfl)
  have N25 := Fr.snoc X25 N22 gn_b19
  refine Got.step st25 ?_
  show Got p e below s _ _ _ _ T25 (mkF m 54 #[.val (.int p0), .val (.int p1), .val (.int p2), .val (.int p3), .val (.int p4)] [(.ref b19)])
  refine Got.step (T' := T25) (g' := (mkF m 57 #[.val (.int p0), .val (.int p1), .val (.int p2), .val (.int p3), .val (.int p4)] [(.int p3), (.int (2 : Int32)), (.ref b19), (.ref b19)])) (fun tq kt => ?_) ?_
  · show Steps p.tables e below (T25.setTop (mkF m 54 #[.val (.int p0), .val (.int p1), .val (.int p2), .val (.int p3), .val (.int p4)] [(.ref b19)])) _
    refine XS.dup X25.here hx rfl (hb hby d1_54) rfl rfl ?_
    show Steps p.tables e below (T25.setTop (mkF m 55 #[.val (.int p0), .val (.int p1), .val (.int p2), .val (.int p3), .val (.int p4)] [(.ref b19), (.ref b19)])) _
    refine XS.iconst X25.here hx rfl (hb hby d1_55) ?_
    show Steps p.tables e below (T25.setTop (mkF m 56 #[.val (.int p0), .val (.int p1), .val (.int p2), .val (.int p3), .val (.int p4)] [(.int (2 : Int32)), (.ref b19), (.ref b19)])) _
    refine XS.iloadN X25.here hx rfl (hb hby d1_56) rfl ?_
    exact kt
  obtain ⟨cl28, Ar28, q28, S28, M28, H28, G28⟩ := (id V25)
  have hin28 : ¬ ((2 : Int32) < 0 ∨ cl28.slots.size ≤ ((2 : Int32)).toNatClampNeg) := inb_of S28 ⟨by decide, by decide⟩
  obtain ⟨T28, h28, X28, e28, W28, st28⟩ := stB X25 hx hZ e25 Ar28 (j := (2 : Int32)) hin28 (g := (mkF m 57 #[.val (.int p0), .val (.int p1), .val (.int p2), .val (.int p3), .val (.int p4)] [(.int p3), (.int (2 : Int32)), (.ref b19), (.ref b19)])) rfl rfl (hb hby d1_57)
  rw [hb3] at W28
  have Z0_29 : n0 ≤ h28.size := (Nat.le_trans Z0_26 (Keep.of_wr W28).1)
  have K0_30 : Keep h0 h28 [] := (K0_27.wr W28 (Or.inr sz_b19))
  have V28 : Arv Z h28 b19 k19 .byte (3 : Int32) [(.int p1), (.int p2), (.int p3)] (.int (0 : Int32)) := Arv.set Ar28 q28 S28 M28 H28 G28 hf3 W28 2 rfl (Nat.le_of_ble_eq_true rfl)
  have N28 := Fr.snoc X28 N25 gn_b19
  refine Got.step st28 ?_
  show Got p e below s _ _ _ _ T28 (mkF m 58 #[.val (.int p0), .val (.int p1), .val (.int p2), .val (.int p3), .val (.int p4)] [(.ref b19)])
  rw [← g19]
  exact Got.retA X28 hx Bd.returns rfl hlk (hb hby d1_58) rfl ⟨N28, by rw [e28]; exact K0_30, ⟨k19, by rw [e28]; exact V28⟩⟩ (by decide) (by decide)
theorem ef_1_4 (m : MethodId) (x0 : Int32) (x1 : Int32) (x2 : Int32) (x3 : Int32) (x4 : Int32) : entryFrame m #[(.int x0), (.int x1), (.int x2), (.int x3), (.int x4)] 5 = mkF m 0 #[.val (.int x0), .val (.int x1), .val (.int x2), .val (.int x3), .val (.int x4)] [] := by first | (simp [entryFrame, mkF, argsToLocals, Value.category]; done) | rfl
theorem d1_59 : decode method_2_code 59 = .ok (.iconst 4, 1) := by decide +kernel
theorem d1_60 : decode method_2_code 60 = .ok (.newarray .byte, 2) := by decide +kernel
theorem d1_62 : decode method_2_code 62 = .ok (.dup, 1) := by decide +kernel
theorem d1_63 : decode method_2_code 63 = .ok (.iconst 0, 1) := by decide +kernel
theorem d1_64 : decode method_2_code 64 = .ok (.iload_n 1, 1) := by decide +kernel
theorem d1_65 : decode method_2_code 65 = .ok (.bastore, 1) := by decide +kernel
theorem d1_66 : decode method_2_code 66 = .ok (.dup, 1) := by decide +kernel
theorem d1_67 : decode method_2_code 67 = .ok (.iconst 1, 1) := by decide +kernel
theorem d1_68 : decode method_2_code 68 = .ok (.iload_n 2, 1) := by decide +kernel
theorem d1_69 : decode method_2_code 69 = .ok (.bastore, 1) := by decide +kernel
theorem d1_70 : decode method_2_code 70 = .ok (.dup, 1) := by decide +kernel
theorem d1_71 : decode method_2_code 71 = .ok (.iconst 2, 1) := by decide +kernel
theorem d1_72 : decode method_2_code 72 = .ok (.iload_n 3, 1) := by decide +kernel
theorem d1_73 : decode method_2_code 73 = .ok (.bastore, 1) := by decide +kernel
theorem d1_74 : decode method_2_code 74 = .ok (.dup, 1) := by decide +kernel
theorem d1_75 : decode method_2_code 75 = .ok (.iconst 3, 1) := by decide +kernel
theorem d1_76 : decode method_2_code 76 = .ok (.iload 4, 2) := by decide +kernel
theorem d1_78 : decode method_2_code 78 = .ok (.bastore, 1) := by decide +kernel
theorem d1_79 : decode method_2_code 79 = .ok (.areturn, 1) := by decide +kernel
set_option maxRecDepth 65536 in
set_option maxHeartbeats 40000000 in
theorem rm1_4 (l : Launch) (Z : State) (a0 : Array Value) (hw : ∀ d ∈ tables_1, d.before a0 Z = true) (ws : List Jvm.Cond) (p0 : Int32) (p1 : Int32) (p2 : Int32) (p3 : Int32) (p4 : Int32) (h0 : Heap) (n0 : Nat) (Z0 : n0 ≤ h0.size) (hp : p0 = (4 : Int32)) (hb1 : nar .byte p1 = p1) (hf1 : fits .byte (.int p1) = true) (hb2 : nar .byte p2 = p2) (hf2 : fits .byte (.int p2) = true) (hb3 : nar .byte p3 = p3) (hf3 : fits .byte (.int p3) = true) (hb4 : nar .byte p4 = p4) (hf4 : fits .byte (.int p4) = true) :
    MetFree l (⟨"com/example/cytobridge/cytobridge/profile/CharacterSetIsAsciiPinLaw", "build", "(IBBBB)[B"⟩ : MethodName) (head1 (Jvm.Cond.code (⟨"com/example/cytobridge/cytobridge/profile/CharacterSetIsAsciiPinLaw", "build", "(IBBBB)[B"⟩ : MethodName) method_2_code 5 (some (.array .byte)) :: ws) ({ frames := 0, cells := 1, slots := 4, locals := 0 } : Room)) (fun a U => a = #[(.int p0), (.int p1), (.int p2), (.int p3), (.int p4)] ∧ Z.Warmed39 U.vm ∧ U.heap = h0) (fun _ _ _ _ _ => True) (fun _ U o U' => ∃ v L, o = .returned v ∧ QV (some (.ref h0.size)) (fun h L => Fr n0 L ∧ Keep h0 h [] ∧ (∃ k : ClassId, Arv Z h h0.size k .byte (4 : Int32) [(.int p1), (.int p2), (.int p3), (.int p4)] (.int (0 : Int32)))) v U'.heap L ∧ FrameEnd U o U' L ({ frames := 0, cells := 1, slots := 4, locals := 0 } : Room).cells ({ frames := 0, cells := 1, slots := 4, locals := 0 } : Room).slots) := by
  refine MetFree.of_bodySF (plainFor_of_name pn_0) hisR ?_
  intro p e s m args below meth c s₁ Bd hml0 hP hK
  obtain ⟨rfl, hZ, hh⟩ := hP
  have hx := Bd.exec
  have hby := Bd.bytes
  have hml : c.maxLocals = 5 := hml0
  have hown : s.vm.findClass "com/example/cytobridge/cytobridge/profile/CharacterSetIsAsciiPinLaw" = some m.cls := findClass_of_methodNamed Bd.named
  have hnm := (name_of_methodNamed Bd.named Bd.method).1
  have hlk : meth.locks = false := BodyLoose.notSynchronized Bd
  have X0 : Stand p l e ({ frames := 0, cells := 1, slots := 4, locals := 0 } : Room) s m #[(.int p0), (.int p1), (.int p2), (.int p3), (.int p4)] below meth c s₁ [] 0 0 := Stand.of_body Bd
  have e0 : s₁.heap = h0 := by rw [← hh, Bd.state]; rfl
  have N0 := Fr.nil n0
  refine Got.body (ef_1_4 m p0 p1 p2 p3 p4) ?_
  have K0 := Keep.refl h0 []
  refine Got.step (T' := s₁) (g' := (mkF m 60 #[.val (.int p0), .val (.int p1), .val (.int p2), .val (.int p3), .val (.int p4)] [(.int (4 : Int32))])) (fun tq kt => ?_) ?_
  · show Steps p.tables e below (s₁.setTop (mkF m 0 #[.val (.int p0), .val (.int p1), .val (.int p2), .val (.int p3), .val (.int p4)] [])) _
    refine XS.iloadN X0.here hx rfl (hb hby d1_0) rfl ?_
    show Steps p.tables e below (s₁.setTop (mkF m 1 #[.val (.int p0), .val (.int p1), .val (.int p2), .val (.int p3), .val (.int p4)] [(.int p0)])) _
    refine XS.ifYes X0.here hx rfl (pc0 := 1) (pc' := 8) rfl (hb hby d1_1) rfl (XT.i0_ne_t (by rw [hp]; decide)) (by decide) (by decide) ?_
    show Steps p.tables e below (s₁.setTop (mkF m 8 #[.val (.int p0), .val (.int p1), .val (.int p2), .val (.int p3), .val (.int p4)] [])) _
    refine XS.iloadN X0.here hx rfl (hb hby d1_8) rfl ?_
    show Steps p.tables e below (s₁.setTop (mkF m 9 #[.val (.int p0), .val (.int p1), .val (.int p2), .val (.int p3), .val (.int p4)] [(.int p0)])) _
    refine XS.iconst X0.here hx rfl (hb hby d1_9) ?_
    show Steps p.tables e below (s₁.setTop (mkF m 10 #[.val (.int p0), .val (.int p1), .val (.int p2), .val (.int p3), .val (.int p4)] [(.int (1 : Int32)), (.int p0)])) _
    refine XS.icmpYes X0.here hx rfl (pc0 := 10) (pc' := 21) rfl (hb hby d1_10) rfl (XT.ii_ne_t (by rw [hp]; decide)) (by decide) (by decide) ?_
    show Steps p.tables e below (s₁.setTop (mkF m 21 #[.val (.int p0), .val (.int p1), .val (.int p2), .val (.int p3), .val (.int p4)] [])) _
    refine XS.iloadN X0.here hx rfl (hb hby d1_21) rfl ?_
    show Steps p.tables e below (s₁.setTop (mkF m 22 #[.val (.int p0), .val (.int p1), .val (.int p2), .val (.int p3), .val (.int p4)] [(.int p0)])) _
    refine XS.iconst X0.here hx rfl (hb hby d1_22) ?_
    show Steps p.tables e below (s₁.setTop (mkF m 23 #[.val (.int p0), .val (.int p1), .val (.int p2), .val (.int p3), .val (.int p4)] [(.int (2 : Int32)), (.int p0)])) _
    refine XS.icmpYes X0.here hx rfl (pc0 := 23) (pc' := 38) rfl (hb hby d1_23) rfl (XT.ii_ne_t (by rw [hp]; decide)) (by decide) (by decide) ?_
    show Steps p.tables e below (s₁.setTop (mkF m 38 #[.val (.int p0), .val (.int p1), .val (.int p2), .val (.int p3), .val (.int p4)] [])) _
    refine XS.iloadN X0.here hx rfl (hb hby d1_38) rfl ?_
    show Steps p.tables e below (s₁.setTop (mkF m 39 #[.val (.int p0), .val (.int p1), .val (.int p2), .val (.int p3), .val (.int p4)] [(.int p0)])) _
    refine XS.iconst X0.here hx rfl (hb hby d1_39) ?_
    show Steps p.tables e below (s₁.setTop (mkF m 40 #[.val (.int p0), .val (.int p1), .val (.int p2), .val (.int p3), .val (.int p4)] [(.int (3 : Int32)), (.int p0)])) _
    refine XS.icmpYes X0.here hx rfl (pc0 := 40) (pc' := 59) rfl (hb hby d1_40) rfl (XT.ii_ne_t (by rw [hp]; decide)) (by decide) (by decide) ?_
    show Steps p.tables e below (s₁.setTop (mkF m 59 #[.val (.int p0), .val (.int p1), .val (.int p2), .val (.int p3), .val (.int p4)] [])) _
    refine XS.iconst X0.here hx rfl (hb hby d1_59) ?_
    exact kt
  obtain ⟨T31, h31, k31, X31, e31, E31, A31, st31⟩ := newP X0 hx hZ (hw _ (List.mem_of_getElem? (i := 5) rfl)) e0 (g := (mkF m 60 #[.val (.int p0), .val (.int p1), .val (.int p2), .val (.int p3), .val (.int p4)] [(.int (4 : Int32))])) rfl (hb hby d1_60) rfl (by decide) (cap := 4) (by decide) (by decide) (by decide) (by decide)
  obtain ⟨b31, g31⟩ : ∃ z, z = h0.size := ⟨_, rfl⟩
  rw [← g31] at A31 st31
  have gn_b31 : n0 ≤ b31 := by rw [g31]; exact Z0
  have sz_b31 : h0.size ≤ b31 := by rw [g31]; exact K0.1
  have Z0_32 : n0 ≤ h31.size := (Nat.le_trans Z0 E31.1)
  have K0_33 : Keep h0 h31 [] := (K0.ext E31)
  have V31 : Arv Z h31 b31 k31 .byte (4 : Int32) [(.int (0 : Int32)), (.int (0 : Int32)), (.int (0 : Int32)), (.int (0 : Int32))] (.int (0 : Int32)) := (Arv.new A31 (by decide)).pad (pad_rep [] (.int (0 : Int32)) 4)
  refine Got.step st31 ?_
  show Got p e below s _ _ _ _ T31 (mkF m 62 #[.val (.int p0), .val (.int p1), .val (.int p2), .val (.int p3), .val (.int p4)] [(.ref b31)])
  refine Got.step (T' := T31) (g' := (mkF m 65 #[.val (.int p0), .val (.int p1), .val (.int p2), .val (.int p3), .val (.int p4)] [(.int p1), (.int (0 : Int32)), (.ref b31), (.ref b31)])) (fun tq kt => ?_) ?_
  · show Steps p.tables e below (T31.setTop (mkF m 62 #[.val (.int p0), .val (.int p1), .val (.int p2), .val (.int p3), .val (.int p4)] [(.ref b31)])) _
    refine XS.dup X31.here hx rfl (hb hby d1_62) rfl rfl ?_
    show Steps p.tables e below (T31.setTop (mkF m 63 #[.val (.int p0), .val (.int p1), .val (.int p2), .val (.int p3), .val (.int p4)] [(.ref b31), (.ref b31)])) _
    refine XS.iconst X31.here hx rfl (hb hby d1_63) ?_
    show Steps p.tables e below (T31.setTop (mkF m 64 #[.val (.int p0), .val (.int p1), .val (.int p2), .val (.int p3), .val (.int p4)] [(.int (0 : Int32)), (.ref b31), (.ref b31)])) _
    refine XS.iloadN X31.here hx rfl (hb hby d1_64) rfl ?_
    exact kt
  obtain ⟨cl34, Ar34, q34, S34, M34, H34, G34⟩ := (id V31)
  have hin34 : ¬ ((0 : Int32) < 0 ∨ cl34.slots.size ≤ ((0 : Int32)).toNatClampNeg) := inb_of S34 ⟨by decide, by decide⟩
  obtain ⟨T34, h34, X34, e34, W34, st34⟩ := stB X31 hx hZ e31 Ar34 (j := (0 : Int32)) hin34 (g := (mkF m 65 #[.val (.int p0), .val (.int p1), .val (.int p2), .val (.int p3), .val (.int p4)] [(.int p1), (.int (0 : Int32)), (.ref b31), (.ref b31)])) rfl rfl (hb hby d1_65)
  rw [hb1] at W34
  have Z0_35 : n0 ≤ h34.size := (Nat.le_trans Z0_32 (Keep.of_wr W34).1)
  have K0_36 : Keep h0 h34 [] := (K0_33.wr W34 (Or.inr sz_b31))
  have V34 : Arv Z h34 b31 k31 .byte (4 : Int32) [(.int p1), (.int (0 : Int32)), (.int (0 : Int32)), (.int (0 : Int32))] (.int (0 : Int32)) := Arv.set Ar34 q34 S34 M34 H34 G34 hf1 W34 0 rfl (Nat.le_of_ble_eq_true rfl)
  have N34 := Fr.snoc X34 N0 gn_b31
  refine Got.step st34 ?_
  show Got p e below s _ _ _ _ T34 (mkF m 66 #[.val (.int p0), .val (.int p1), .val (.int p2), .val (.int p3), .val (.int p4)] [(.ref b31)])
  refine Got.step (T' := T34) (g' := (mkF m 69 #[.val (.int p0), .val (.int p1), .val (.int p2), .val (.int p3), .val (.int p4)] [(.int p2), (.int (1 : Int32)), (.ref b31), (.ref b31)])) (fun tq kt => ?_) ?_
  · show Steps p.tables e below (T34.setTop (mkF m 66 #[.val (.int p0), .val (.int p1), .val (.int p2), .val (.int p3), .val (.int p4)] [(.ref b31)])) _
    refine XS.dup X34.here hx rfl (hb hby d1_66) rfl rfl ?_
    show Steps p.tables e below (T34.setTop (mkF m 67 #[.val (.int p0), .val (.int p1), .val (.int p2), .val (.int p3), .val (.int p4)] [(.ref b31), (.ref b31)])) _
    refine XS.iconst X34.here hx rfl (hb hby d1_67) ?_
    show Steps p.tables e below (T34.setTop (mkF m 68 #[.val (.int p0), .val (.int p1), .val (.int p2), .val (.int p3), .val (.int p4)] [(.int (1 : Int32)), (.ref b31), (.ref b31)])) _
    refine XS.iloadN X34.here hx rfl (hb hby d1_68) rfl ?_
    exact kt
  obtain ⟨cl37, Ar37, q37, S37, M37, H37, G37⟩ := (id V34)
  have hin37 : ¬ ((1 : Int32) < 0 ∨ cl37.slots.size ≤ ((1 : Int32)).toNatClampNeg) := inb_of S37 ⟨by decide, by decide⟩
  obtain ⟨T37, h37, X37, e37, W37, st37⟩ := stB X34 hx hZ e34 Ar37 (j := (1 : Int32)) hin37 (g := (mkF m 69 #[.val (.int p0), .val (.int p1), .val (.int p2), .val (.int p3), .val (.int p4)] [(.int p2), (.int (1 : Int32)), (.ref b31), (.ref b31)])) rfl rfl (hb hby d1_69)
  rw [hb2] at W37
  have Z0_38 : n0 ≤ h37.size := (Nat.le_trans Z0_35 (Keep.of_wr W37).1)
  have K0_39 : Keep h0 h37 [] := (K0_36.wr W37 (Or.inr sz_b31))
  have V37 : Arv Z h37 b31 k31 .byte (4 : Int32) [(.int p1), (.int p2), (.int (0 : Int32)), (.int (0 : Int32))] (.int (0 : Int32)) := Arv.set Ar37 q37 S37 M37 H37 G37 hf2 W37 1 rfl (Nat.le_of_ble_eq_true rfl)
  have N37 := Fr.snoc X37 N34 gn_b31
  refine Got.step st37 ?_
  show Got p e below s _ _ _ _ T37 (mkF m 70 #[.val (.int p0), .val (.int p1), .val (.int p2), .val (.int p3), .val (.int p4)] [(.ref b31)])
  refine Got.step (T' := T37) (g' := (mkF m 73 #[.val (.int p0), .val (.int p1), .val (.int p2), .val (.int p3), .val (.int p4)] [(.int p3), (.int (2 : Int32)), (.ref b31), (.ref b31)])) (fun tq kt => ?_) ?_
  · show Steps p.tables e below (T37.setTop (mkF m 70 #[.val (.int p0), .val (.int p1), .val (.int p2), .val (.int p3), .val (.int p4)] [(.ref b31)])) _
    refine XS.dup X37.here hx rfl (hb hby d1_70) rfl rfl ?_
    show Steps p.tables e below (T37.setTop (mkF m 71 #[.val (.int p0), .val (.int p1), .val (.int p2), .val (.int p3), .val (.int p4)] [(.ref b31), (.ref b31)])) _
    refine XS.iconst X37.here hx rfl (hb hby d1_71) ?_
    show Steps p.tables e below (T37.setTop (mkF m 72 #[.val (.int p0), .val (.int p1), .val (.int p2), .val (.int p3), .val (.int p4)] [(.int (2 : Int32)), (.ref b31), (.ref b31)])) _
    refine XS.iloadN X37.here hx rfl (hb hby d1_72) rfl ?_
    exact kt
  obtain ⟨cl40, Ar40, q40, S40, M40, H40, G40⟩ := (id V37)
  have hin40 : ¬ ((2 : Int32) < 0 ∨ cl40.slots.size ≤ ((2 : Int32)).toNatClampNeg) := inb_of S40 ⟨by decide, by decide⟩
  obtain ⟨T40, h40, X40, e40, W40, st40⟩ := stB X37 hx hZ e37 Ar40 (j := (2 : Int32)) hin40 (g := (mkF m 73 #[.val (.int p0), .val (.int p1), .val (.int p2), .val (.int p3), .val (.int p4)] [(.int p3), (.int (2 : Int32)), (.ref b31), (.ref b31)])) rfl rfl (hb hby d1_73)
  rw [hb3] at W40
  have Z0_41 : n0 ≤ h40.size := (Nat.le_trans Z0_38 (Keep.of_wr W40).1)
  have K0_42 : Keep h0 h40 [] := (K0_39.wr W40 (Or.inr sz_b31))
  have V40 : Arv Z h40 b31 k31 .byte (4 : Int32) [(.int p1), (.int p2), (.int p3), (.int (0 : Int32))] (.int (0 : Int32)) := Arv.set Ar40 q40 S40 M40 H40 G40 hf3 W40 2 rfl (Nat.le_of_ble_eq_true rfl)
  have N40 := Fr.snoc X40 N37 gn_b31
  refine Got.step st40 ?_
  show Got p e below s _ _ _ _ T40 (mkF m 74 #[.val (.int p0), .val (.int p1), .val (.int p2), .val (.int p3), .val (.int p4)] [(.ref b31)])
  refine Got.step (T' := T40) (g' := (mkF m 78 #[.val (.int p0), .val (.int p1), .val (.int p2), .val (.int p3), .val (.int p4)] [(.int p4), (.int (3 : Int32)), (.ref b31), (.ref b31)])) (fun tq kt => ?_) ?_
  · show Steps p.tables e below (T40.setTop (mkF m 74 #[.val (.int p0), .val (.int p1), .val (.int p2), .val (.int p3), .val (.int p4)] [(.ref b31)])) _
    refine XS.dup X40.here hx rfl (hb hby d1_74) rfl rfl ?_
    show Steps p.tables e below (T40.setTop (mkF m 75 #[.val (.int p0), .val (.int p1), .val (.int p2), .val (.int p3), .val (.int p4)] [(.ref b31), (.ref b31)])) _
    refine XS.iconst X40.here hx rfl (hb hby d1_75) ?_
    show Steps p.tables e below (T40.setTop (mkF m 76 #[.val (.int p0), .val (.int p1), .val (.int p2), .val (.int p3), .val (.int p4)] [(.int (3 : Int32)), (.ref b31), (.ref b31)])) _
    refine XS.iload X40.here hx rfl (hb hby d1_76) rfl ?_
    exact kt
  obtain ⟨cl43, Ar43, q43, S43, M43, H43, G43⟩ := (id V40)
  have hin43 : ¬ ((3 : Int32) < 0 ∨ cl43.slots.size ≤ ((3 : Int32)).toNatClampNeg) := inb_of S43 ⟨by decide, by decide⟩
  obtain ⟨T43, h43, X43, e43, W43, st43⟩ := stB X40 hx hZ e40 Ar43 (j := (3 : Int32)) hin43 (g := (mkF m 78 #[.val (.int p0), .val (.int p1), .val (.int p2), .val (.int p3), .val (.int p4)] [(.int p4), (.int (3 : Int32)), (.ref b31), (.ref b31)])) rfl rfl (hb hby d1_78)
  rw [hb4] at W43
  have Z0_44 : n0 ≤ h43.size := (Nat.le_trans Z0_41 (Keep.of_wr W43).1)
  have K0_45 : Keep h0 h43 [] := (K0_42.wr W43 (Or.inr sz_b31))
  have V43 : Arv Z h43 b31 k31 .byte (4 : Int32) [(.int p1), (.int p2), (.int p3), (.int p4)] (.int (0 : Int32)) := Arv.set Ar43 q43 S43 M43 H43 G43 hf4 W43 3 rfl (Nat.le_of_ble_eq_true rfl)
  have N43 := Fr.snoc X43 N40 gn_b31
  refine Got.step st43 ?_
  show Got p e below s _ _ _ _ T43 (mkF m 79 #[.val (.int p0), .val (.int p1), .val (.int p2), .val (.int p3), .val (.int p4)] [(.ref b31)])
  rw [← g31]
  exact Got.retA X43 hx Bd.returns rfl hlk (hb hby d1_79) rfl ⟨N43, by rw [e43]; exact K0_45, ⟨k31, by rw [e43]; exact V43⟩⟩ (by decide) (by decide)
theorem os48 {z0 : Value} {z1 : Value} {z2 : Value} {z3 : Value} {s4 : Slot} {v : Int32} (h : One s4) : storeLocals #[.val z0, .val z1, .val z2, .val z3, s4] 4 (.int v) = some #[.val z0, .val z1, .val z2, .val z3, .val (.int v)] := by
  rcases h with rfl | ⟨w, rfl, hw⟩
  · rfl
  · cases w <;> first | rfl | (simp [Value.category] at hw)
theorem ef_2 (m : MethodId) (x0 : Addr) : entryFrame m #[(.ref x0)] 5 = mkF m 0 #[.val (.ref x0), .unset, .unset, .unset, .unset] [] := by first | (simp [entryFrame, mkF, argsToLocals, Value.category]; done) | rfl
theorem pn_1 : plainName "com/example/cytobridge/cytobridge/profile/CharacterSet" = true := by first | (simp [plainName, overriddenIn]; done) | decide +kernel
theorem d2_0 : decode prog_32_method_7_code 0 = .ok (.aload_n 0, 1) := by decide +kernel
theorem d2_1 : decode prog_32_method_7_code 1 = .ok (.astore_n 1, 1) := by decide +kernel
theorem d2_2 : decode prog_32_method_7_code 2 = .ok (.aload_n 1, 1) := by decide +kernel
theorem d2_3 : decode prog_32_method_7_code 3 = .ok (.arraylength, 1) := by decide +kernel
theorem d2_4 : decode prog_32_method_7_code 4 = .ok (.istore_n 2, 1) := by decide +kernel
theorem d2_5 : decode prog_32_method_7_code 5 = .ok (.iconst 0, 1) := by decide +kernel
theorem d2_6 : decode prog_32_method_7_code 6 = .ok (.istore_n 3, 1) := by decide +kernel
theorem d2_7 : decode prog_32_method_7_code 7 = .ok (.iload_n 3, 1) := by decide +kernel
theorem d2_8 : decode prog_32_method_7_code 8 = .ok (.iload_n 2, 1) := by decide +kernel
theorem d2_9 : decode prog_32_method_7_code 9 = .ok (.if_icmp .ge 21, 3) := by decide +kernel
theorem d2_12 : decode prog_32_method_7_code 12 = .ok (.aload_n 1, 1) := by decide +kernel
theorem d2_13 : decode prog_32_method_7_code 13 = .ok (.iload_n 3, 1) := by decide +kernel
theorem d2_14 : decode prog_32_method_7_code 14 = .ok (.baload, 1) := by decide +kernel
theorem d2_15 : decode prog_32_method_7_code 15 = .ok (.istore 4, 2) := by decide +kernel
theorem d2_17 : decode prog_32_method_7_code 17 = .ok (.iload 4, 2) := by decide +kernel
theorem d2_19 : decode prog_32_method_7_code 19 = .ok (.ifCond .ge 5, 3) := by decide +kernel
theorem d2_22 : decode prog_32_method_7_code 22 = .ok (.iconst 0, 1) := by decide +kernel
theorem d2_23 : decode prog_32_method_7_code 23 = .ok (.ireturn, 1) := by decide +kernel
theorem d2_24 : decode prog_32_method_7_code 24 = .ok (.iinc 3 1, 3) := by decide +kernel
theorem d2_27 : decode prog_32_method_7_code 27 = .ok (.goto (-20), 3) := by decide +kernel
theorem d2_30 : decode prog_32_method_7_code 30 = .ok (.iconst 1, 1) := by decide +kernel
theorem d2_31 : decode prog_32_method_7_code 31 = .ok (.ireturn, 1) := by decide +kernel
set_option maxRecDepth 65536 in
set_option maxHeartbeats 40000000 in
theorem rm2 (l : Launch) (Z : State) (a0 : Array Value) (hw : ∀ d ∈ tables_1, d.before a0 Z = true) (ws : List Jvm.Cond) (o0 : Addr) (bs : List Int32) (n : Int32) (kc : ClassId) (h0 : Heap) (n0 : Nat) (Z0 : n0 ≤ h0.size) (V0 : Arv Z h0 o0 kc .byte n (bs.map Value.int) (.int (0 : Int32))) (hn : n = Int32.ofNat bs.length ∧ bs.length < 2147483648) :
    MetFree l (⟨"com/example/cytobridge/cytobridge/profile/CharacterSet", "isAscii", "([B)Z"⟩ : MethodName) (head1 (Jvm.Cond.code (⟨"com/example/cytobridge/cytobridge/profile/CharacterSet", "isAscii", "([B)Z"⟩ : MethodName) prog_32_method_7_code 5 (some .boolean) :: ws) ({ frames := 0, cells := 0, slots := 0, locals := 0 } : Room)) (fun a U => a = #[(.ref o0)] ∧ Z.Warmed39 U.vm ∧ U.heap = h0) (fun _ _ _ _ _ => True) (fun _ U o U' => ∃ v L, o = .returned v ∧ QV (some (.int (asc bs))) (PureP n0 h0) v U'.heap L ∧ FrameEnd U o U' L ({ frames := 0, cells := 0, slots := 0, locals := 0 } : Room).cells ({ frames := 0, cells := 0, slots := 0, locals := 0 } : Room).slots) := by
  refine MetFree.of_bodySF (plainFor_of_name pn_1) hisR ?_
  intro p e s m args below meth c s₁ Bd hml0 hP hK
  obtain ⟨rfl, hZ, hh⟩ := hP
  have hx := Bd.exec
  have hby := Bd.bytes
  have hml : c.maxLocals = 5 := hml0
  have hown : s.vm.findClass "com/example/cytobridge/cytobridge/profile/CharacterSet" = some m.cls := findClass_of_methodNamed Bd.named
  have hnm := (name_of_methodNamed Bd.named Bd.method).1
  have hlk : meth.locks = false := BodyLoose.notSynchronized Bd
  have X0 : Stand p l e ({ frames := 0, cells := 0, slots := 0, locals := 0 } : Room) s m #[(.ref o0)] below meth c s₁ [] 0 0 := Stand.of_body Bd
  have e0 : s₁.heap = h0 := by rw [← hh, Bd.state]; rfl
  have N0 := Fr.nil n0
  refine Got.body (ef_2 m o0) ?_
  have J : ∀ (k i : Nat), i + k = bs.length → ∀ (s4 : Slot), One s4 → Got p e below s (PureP n0 h0) 0 0 (some (.int (asc (bs.drop i)))) s₁ (mkF m 7 #[.val (.ref o0), .val (.ref o0), .val (.int n), .val (.int (Int32.ofNat i)), s4] []) := by
    intro k
    induction k with
    | zero =>
      intro i hi s4 hs4
      have hd : bs.drop i = [] := List.drop_eq_nil_of_le (by omega)
      rw [hd]
      refine Got.step (T' := s₁) (g' := (mkF m 31 #[.val (.ref o0), .val (.ref o0), .val (.int n), .val (.int (Int32.ofNat i)), s4] [(.int (1 : Int32))])) (fun tq kt => ?_) ?_
      · show Steps p.tables e below (s₁.setTop (mkF m 7 #[.val (.ref o0), .val (.ref o0), .val (.int n), .val (.int (Int32.ofNat i)), s4] [])) _
        refine XS.iloadN X0.here hx rfl (hb hby d2_7) rfl ?_
        show Steps p.tables e below (s₁.setTop (mkF m 8 #[.val (.ref o0), .val (.ref o0), .val (.int n), .val (.int (Int32.ofNat i)), s4] [(.int (Int32.ofNat i))])) _
        refine XS.iloadN X0.here hx rfl (hb hby d2_8) rfl ?_
        show Steps p.tables e below (s₁.setTop (mkF m 9 #[.val (.ref o0), .val (.ref o0), .val (.int n), .val (.int (Int32.ofNat i)), s4] [(.int n), (.int (Int32.ofNat i))])) _
        refine XS.icmpYes X0.here hx rfl (pc0 := 9) (pc' := 30) rfl (hb hby d2_9) rfl (XT.ii_ge_t (own_ge hn hi)) (by decide) (by decide) ?_
        show Steps p.tables e below (s₁.setTop (mkF m 30 #[.val (.ref o0), .val (.ref o0), .val (.int n), .val (.int (Int32.ofNat i)), s4] [])) _
        refine XS.iconst X0.here hx rfl (hb hby d2_30) ?_
        exact kt
      exact Got.retN (y := (1 : Int32)) (t := .boolean) X0 hx Bd.returns (by simp) hlk (hb hby d2_31) (by decide) ⟨N0, e0⟩ (by decide) (by decide)
    | succ k ih =>
      intro i hi s4 hs4
      have hlt : i < bs.length := by omega
      have hd : bs.drop i = bs[i] :: bs.drop (i + 1) := List.drop_eq_getElem_cons hlt
      rw [hd]
      show Got p e below s (PureP n0 h0) 0 0 (some (.int (if bs[i] < 0 then (0 : Int32) else asc (bs.drop (i + 1))))) s₁ (mkF m 7 #[.val (.ref o0), .val (.ref o0), .val (.int n), .val (.int (Int32.ofNat i)), s4] [])
      refine Got.step (T' := s₁) (g' := (mkF m 14 #[.val (.ref o0), .val (.ref o0), .val (.int n), .val (.int (Int32.ofNat i)), s4] [(.int (Int32.ofNat i)), (.ref o0)])) (fun tq kt => ?_) ?_
      · show Steps p.tables e below (s₁.setTop (mkF m 7 #[.val (.ref o0), .val (.ref o0), .val (.int n), .val (.int (Int32.ofNat i)), s4] [])) _
        refine XS.iloadN X0.here hx rfl (hb hby d2_7) rfl ?_
        show Steps p.tables e below (s₁.setTop (mkF m 8 #[.val (.ref o0), .val (.ref o0), .val (.int n), .val (.int (Int32.ofNat i)), s4] [(.int (Int32.ofNat i))])) _
        refine XS.iloadN X0.here hx rfl (hb hby d2_8) rfl ?_
        show Steps p.tables e below (s₁.setTop (mkF m 9 #[.val (.ref o0), .val (.ref o0), .val (.int n), .val (.int (Int32.ofNat i)), s4] [(.int n), (.int (Int32.ofNat i))])) _
        refine XS.icmpNo X0.here hx rfl (hb hby d2_9) rfl (XT.ii_ge_f (own_lt hn hlt)) ?_
        show Steps p.tables e below (s₁.setTop (mkF m 12 #[.val (.ref o0), .val (.ref o0), .val (.int n), .val (.int (Int32.ofNat i)), s4] [])) _
        refine XS.aloadN X0.here hx rfl (hb hby d2_12) rfl rfl ?_
        show Steps p.tables e below (s₁.setTop (mkF m 13 #[.val (.ref o0), .val (.ref o0), .val (.int n), .val (.int (Int32.ofNat i)), s4] [(.ref o0)])) _
        refine XS.iloadN X0.here hx rfl (hb hby d2_13) rfl ?_
        exact kt
      obtain ⟨cl47, Ar47, q47, S47, M47, H47, G47⟩ := (id V0)
      have hin47 : ¬ ((Int32.ofNat i) < 0 ∨ cl47.slots.size ≤ ((Int32.ofNat i)).toNatClampNeg) := own_in hn hlt S47
      refine Got.step (T' := s₁) (fun tq kt => X0.baloadBytes hx (j := (Int32.ofNat i)) (v := (.int bs[i])) (by rw [e0]; exact Ar47.1) (State.isArrayOf_alike hZ.alike Ar47.2.1) Ar47.2.2 hin47 (H47.at hin47 (own_at hn hlt)) (g := (mkF m 14 #[.val (.ref o0), .val (.ref o0), .val (.int n), .val (.int (Int32.ofNat i)), s4] [(.int (Int32.ofNat i)), (.ref o0)])) rfl rfl (hb hby d2_14) tq kt) ?_
      show Got p e below s _ _ _ _ s₁ (mkF m 15 #[.val (.ref o0), .val (.ref o0), .val (.int n), .val (.int (Int32.ofNat i)), s4] [(.int bs[i])])
      refine Got.step (T' := s₁) (g' := (mkF m 19 #[.val (.ref o0), .val (.ref o0), .val (.int n), .val (.int (Int32.ofNat i)), .val (.int bs[i])] [(.int bs[i])])) (fun tq kt => ?_) ?_
      · show Steps p.tables e below (s₁.setTop (mkF m 15 #[.val (.ref o0), .val (.ref o0), .val (.int n), .val (.int (Int32.ofNat i)), s4] [(.int bs[i])])) _
        refine XS.istore X0.here hx rfl (hb hby d2_15) rfl (l' := #[.val (.ref o0), .val (.ref o0), .val (.int n), .val (.int (Int32.ofNat i)), .val (.int bs[i])]) (os48 hs4) ?_
        show Steps p.tables e below (s₁.setTop (mkF m 17 #[.val (.ref o0), .val (.ref o0), .val (.int n), .val (.int (Int32.ofNat i)), .val (.int bs[i])] [])) _
        refine XS.iload X0.here hx rfl (hb hby d2_17) rfl ?_
        exact kt
      refine Got.ite (q := (bs[i] < 0)) (fun hc49 => ?_) (fun hc49 => ?_)
      · refine Got.step (T' := s₁) (g' := (mkF m 23 #[.val (.ref o0), .val (.ref o0), .val (.int n), .val (.int (Int32.ofNat i)), .val (.int bs[i])] [(.int (0 : Int32))])) (fun tq kt => ?_) ?_
        · show Steps p.tables e below (s₁.setTop (mkF m 19 #[.val (.ref o0), .val (.ref o0), .val (.int n), .val (.int (Int32.ofNat i)), .val (.int bs[i])] [(.int bs[i])])) _
          refine XS.ifNo X0.here hx rfl (hb hby d2_19) rfl (XT.i0_ge_f hc49) ?_
          show Steps p.tables e below (s₁.setTop (mkF m 22 #[.val (.ref o0), .val (.ref o0), .val (.int n), .val (.int (Int32.ofNat i)), .val (.int bs[i])] [])) _
          refine XS.iconst X0.here hx rfl (hb hby d2_22) ?_
          exact kt
        exact Got.retN (y := (0 : Int32)) (t := .boolean) X0 hx Bd.returns (by simp) hlk (hb hby d2_23) (by decide) ⟨N0, e0⟩ (by decide) (by decide)
      · refine Got.step (T' := s₁) (g' := (mkF m 7 #[.val (.ref o0), .val (.ref o0), .val (.int n), .val (.int ((Int32.ofNat i) + (1 : Int32))), .val (.int bs[i])] [])) (fun tq kt => ?_) ?_
        · show Steps p.tables e below (s₁.setTop (mkF m 19 #[.val (.ref o0), .val (.ref o0), .val (.int n), .val (.int (Int32.ofNat i)), .val (.int bs[i])] [(.int bs[i])])) _
          refine XS.ifYes X0.here hx rfl (pc0 := 19) (pc' := 24) rfl (hb hby d2_19) rfl (XT.i0_ge_t hc49) (by decide) (by decide) ?_
          show Steps p.tables e below (s₁.setTop (mkF m 24 #[.val (.ref o0), .val (.ref o0), .val (.int n), .val (.int (Int32.ofNat i)), .val (.int bs[i])] [])) _
          refine XS.iinc X0.here hx rfl (hb hby d2_24) rfl (l' := #[.val (.ref o0), .val (.ref o0), .val (.int n), .val (.int ((Int32.ofNat i) + (1 : Int32))), .val (.int bs[i])]) rfl ?_
          show Steps p.tables e below (s₁.setTop (mkF m 27 #[.val (.ref o0), .val (.ref o0), .val (.int n), .val (.int ((Int32.ofNat i) + (1 : Int32))), .val (.int bs[i])] [])) _
          refine XS.goto X0.here hx rfl (pc0 := 27) (pc' := 7) rfl (hb hby d2_27) (by decide) (by decide) ?_
          exact kt
        rw [own_one i]
        exact ih (i + 1) (by omega) _ (one_val _)
  refine Got.step (T' := s₁) (g' := (mkF m 3 #[.val (.ref o0), .val (.ref o0), .unset, .unset, .unset] [(.ref o0)])) (fun tq kt => ?_) ?_
  · show Steps p.tables e below (s₁.setTop (mkF m 0 #[.val (.ref o0), .unset, .unset, .unset, .unset] [])) _
    refine XS.aloadN X0.here hx rfl (hb hby d2_0) rfl rfl ?_
    show Steps p.tables e below (s₁.setTop (mkF m 1 #[.val (.ref o0), .unset, .unset, .unset, .unset] [(.ref o0)])) _
    refine XS.astoreN X0.here hx rfl (hb hby d2_1) rfl rfl (l' := #[.val (.ref o0), .val (.ref o0), .unset, .unset, .unset]) rfl ?_
    show Steps p.tables e below (s₁.setTop (mkF m 2 #[.val (.ref o0), .val (.ref o0), .unset, .unset, .unset] [])) _
    refine XS.aloadN X0.here hx rfl (hb hby d2_2) rfl rfl ?_
    exact kt
  obtain ⟨cl46, Ar46, q46, S46, M46, H46, G46⟩ := (id V0)
  refine Got.step (T' := s₁) (fun tq kt => X0.arraylength hx (cell := cl46) (by rw [e0]; exact Ar46.1) (State.isArrayOf_alike hZ.alike Ar46.2.1) (g := (mkF m 3 #[.val (.ref o0), .val (.ref o0), .unset, .unset, .unset] [(.ref o0)])) rfl (rest := []) rfl (hb hby d2_3) tq kt) ?_
  rw [len_of S46 M46]
  show Got p e below s _ _ _ _ s₁ (mkF m 4 #[.val (.ref o0), .val (.ref o0), .unset, .unset, .unset] [(.int n)])
  refine Got.step (T' := s₁) (g' := (mkF m 7 #[.val (.ref o0), .val (.ref o0), .val (.int n), .val (.int (0 : Int32)), .unset] [])) (fun tq kt => ?_) ?_
  · show Steps p.tables e below (s₁.setTop (mkF m 4 #[.val (.ref o0), .val (.ref o0), .unset, .unset, .unset] [(.int n)])) _
    refine XS.istoreN X0.here hx rfl (hb hby d2_4) rfl (l' := #[.val (.ref o0), .val (.ref o0), .val (.int n), .unset, .unset]) rfl ?_
    show Steps p.tables e below (s₁.setTop (mkF m 5 #[.val (.ref o0), .val (.ref o0), .val (.int n), .unset, .unset] [])) _
    refine XS.iconst X0.here hx rfl (hb hby d2_5) ?_
    show Steps p.tables e below (s₁.setTop (mkF m 6 #[.val (.ref o0), .val (.ref o0), .val (.int n), .unset, .unset] [(.int (0 : Int32))])) _
    refine XS.istoreN X0.here hx rfl (hb hby d2_6) rfl (l' := #[.val (.ref o0), .val (.ref o0), .val (.int n), .val (.int (0 : Int32)), .unset]) rfl ?_
    exact kt
  exact J bs.length 0 (by omega) .unset one_unset
theorem own_idx (k d : Int32) (n : Int) (hd : d.toInt = n) (hn : 0 < n) : ¬ ((k &&& (2147483647 : Int32)) % d) < 0 ∧ ((k &&& (2147483647 : Int32)) % d) < d := by
  have h1 := c_mask k 2147483647 31 (by decide) (by decide)
  have h2 := (c_irem (k &&& 2147483647) d n hd).1 (by omega)
  have h3 := Int.emod_nonneg (k &&& 2147483647).toInt (b := n) (by omega)
  have h4 := Int.emod_lt_of_pos (k &&& 2147483647).toInt hn
  have z : (0 : Int32).toInt = 0 := rfl
  rw [Int32.lt_iff_toInt_lt, Int32.lt_iff_toInt_lt, h2, hd, z]
  omega
theorem own_len (p : Int32) : ((p &&& (2147483647 : Int32)) % (5 : Int32)) = 0 ∨ ((p &&& (2147483647 : Int32)) % (5 : Int32)) = (1 : Int32) ∨ ((p &&& (2147483647 : Int32)) % (5 : Int32)) = (2 : Int32) ∨ ((p &&& (2147483647 : Int32)) % (5 : Int32)) = (3 : Int32) ∨ ((p &&& (2147483647 : Int32)) % (5 : Int32)) = (4 : Int32) := by
  have h := own_idx p 5 5 rfl (by decide)
  generalize ((p &&& (2147483647 : Int32)) % (5 : Int32)) = x at h ⊢
  rw [Int32.lt_iff_toInt_lt, Int32.lt_iff_toInt_lt] at h
  have z0 : (0 : Int32).toInt = 0 := rfl
  have z1 : (1 : Int32).toInt = 1 := rfl
  have z2 : (2 : Int32).toInt = 2 := rfl
  have z3 : (3 : Int32).toInt = 3 := rfl
  have z4 : (4 : Int32).toInt = 4 := rfl
  have z5 : (5 : Int32).toInt = 5 := rfl
  rw [← Int32.toInt_inj, ← Int32.toInt_inj, ← Int32.toInt_inj, ← Int32.toInt_inj, ← Int32.toInt_inj]
  omega
theorem own_bit (p : Int32) : p.toInt8.toInt32 < 0 ↔ ¬ (p &&& (128 : Int32)) = 0 := by
  have z : (0 : Int32).toInt = 0 := rfl
  have e1 : p.toInt8.toInt32.toInt = p.toInt.bmod (2 ^ 8) := by rw [Int8.toInt_toInt32, Int32.toInt_toInt8]
  have e2 : p.toInt.bmod (2 ^ 8) = if p.toInt % 256 < 128 then p.toInt % 256 else p.toInt % 256 - 256 := rfl
  have e3 : (p &&& (128 : Int32)) = 0 ↔ p.toBitVec.toNat / 128 % 2 = 0 := by
    rw [← Int32.toBitVec_inj, ← BitVec.toNat_inj, Int32.toBitVec_and, BitVec.toNat_and]
    show p.toBitVec.toNat &&& 128 = 0 ↔ _
    have h1 : (p.toBitVec.toNat &&& 128) / 2 ^ 7 = p.toBitVec.toNat / 2 ^ 7 &&& 128 / 2 ^ 7 := Nat.and_div_two_pow
    have h2 : (p.toBitVec.toNat &&& 128) % 2 ^ 7 = (p.toBitVec.toNat % 2 ^ 7) &&& (128 % 2 ^ 7) := Nat.and_mod_two_pow
    rw [show 128 / 2 ^ 7 = 1 from rfl, Nat.and_one_is_mod] at h1
    rw [show 128 % 2 ^ 7 = 0 from rfl, Nat.and_zero] at h2
    omega
  have e4 : p.toInt % 256 = ((p.toBitVec.toNat % 256 : Nat) : Int) := by
    have : p.toInt = p.toBitVec.toInt := rfl
    rw [this, BitVec.toInt_eq_toNat_cond]
    split <;> omega
  rw [Int32.lt_iff_toInt_lt, e1, e2, e3, e4, z]
  split <;> omega
theorem own_b {p k : Int32} (hk : k = (if (p &&& (128 : Int32)) = 0 then (1 : Int32) else (0 : Int32))) : (k = 0 ↔ p.toInt8.toInt32 < 0) := by
  rw [own_bit, hk]
  by_cases h : (p &&& (128 : Int32)) = 0
  · rw [if_pos h]; exact ⟨fun x => absurd x (by decide), fun x => absurd h x⟩
  · rw [if_neg h]; exact ⟨fun _ => h, fun _ => rfl⟩
theorem own_c {p k : Int32} {x y : Int32} (hk : k = (if (p &&& (128 : Int32)) = 0 then (1 : Int32) else (0 : Int32))) (h : x = y) : (if p.toInt8.toInt32 < 0 then 0 else x) = (if k = 0 then 0 else y) := by
  subst h
  by_cases q : k = 0
  · rw [if_pos q, if_pos ((own_b hk).mp q)]
  · rw [if_neg q, if_neg (fun z => q ((own_b hk).mpr z))]
section Fin
variable (p0 p1 p2 p3 : Int32) {a b c d k n : Int32}
theorem own_fin0 {m : Int32} (hl : n = m) (ha : a = (if (p0 &&& (128 : Int32)) = 0 then (1 : Int32) else (0 : Int32))) (hb : b = (if (p1 &&& (128 : Int32)) = 0 then (1 : Int32) else (0 : Int32))) (hc : c = (if (p2 &&& (128 : Int32)) = 0 then (1 : Int32) else (0 : Int32))) (hd : d = (if (p3 &&& (128 : Int32)) = 0 then (1 : Int32) else (0 : Int32))) : asc [] = 1 := rfl
theorem own_fin1 {m : Int32} (hl : n = m) (ha : a = (if (p0 &&& (128 : Int32)) = 0 then (1 : Int32) else (0 : Int32))) (hb : b = (if (p1 &&& (128 : Int32)) = 0 then (1 : Int32) else (0 : Int32))) (hc : c = (if (p2 &&& (128 : Int32)) = 0 then (1 : Int32) else (0 : Int32))) (hd : d = (if (p3 &&& (128 : Int32)) = 0 then (1 : Int32) else (0 : Int32))) (hk : k = (if a = 0 then (0 : Int32) else (1 : Int32))) : asc [(p0.toInt8.toInt32)] = k := hk ▸ own_c ha rfl
theorem own_fin2 {m : Int32} (hl : n = m) (ha : a = (if (p0 &&& (128 : Int32)) = 0 then (1 : Int32) else (0 : Int32))) (hb : b = (if (p1 &&& (128 : Int32)) = 0 then (1 : Int32) else (0 : Int32))) (hc : c = (if (p2 &&& (128 : Int32)) = 0 then (1 : Int32) else (0 : Int32))) (hd : d = (if (p3 &&& (128 : Int32)) = 0 then (1 : Int32) else (0 : Int32))) (hk : k = (if a = 0 then (0 : Int32) else (if b = 0 then (0 : Int32) else (1 : Int32)))) : asc [(p0.toInt8.toInt32), (p1.toInt8.toInt32)] = k := hk ▸ own_c ha (own_c hb rfl)
theorem own_fin3 {m : Int32} (hl : n = m) (ha : a = (if (p0 &&& (128 : Int32)) = 0 then (1 : Int32) else (0 : Int32))) (hb : b = (if (p1 &&& (128 : Int32)) = 0 then (1 : Int32) else (0 : Int32))) (hc : c = (if (p2 &&& (128 : Int32)) = 0 then (1 : Int32) else (0 : Int32))) (hd : d = (if (p3 &&& (128 : Int32)) = 0 then (1 : Int32) else (0 : Int32))) (hk : k = (if a = 0 then (0 : Int32) else (if b = 0 then (0 : Int32) else (if c = 0 then (0 : Int32) else (1 : Int32))))) : asc [(p0.toInt8.toInt32), (p1.toInt8.toInt32), (p2.toInt8.toInt32)] = k := hk ▸ own_c ha (own_c hb (own_c hc rfl))
theorem own_fin4 {m : Int32} (hl : n = m) (ha : a = (if (p0 &&& (128 : Int32)) = 0 then (1 : Int32) else (0 : Int32))) (hb : b = (if (p1 &&& (128 : Int32)) = 0 then (1 : Int32) else (0 : Int32))) (hc : c = (if (p2 &&& (128 : Int32)) = 0 then (1 : Int32) else (0 : Int32))) (hd : d = (if (p3 &&& (128 : Int32)) = 0 then (1 : Int32) else (0 : Int32))) (hk : k = (if a = 0 then (0 : Int32) else (if b = 0 then (0 : Int32) else (if c = 0 then (0 : Int32) else (if d = 0 then (0 : Int32) else (1 : Int32)))))) : asc [(p0.toInt8.toInt32), (p1.toInt8.toInt32), (p2.toInt8.toInt32), (p3.toInt8.toInt32)] = k := hk ▸ own_c ha (own_c hb (own_c hc (own_c hd rfl)))
end Fin

theorem pd_0 : parseMethodDescriptor "(IBBBB)[B" = some ⟨[.int, .byte, .byte, .byte, .byte], some (.array .byte)⟩ := by decide +kernel
theorem pd_1 : parseMethodDescriptor "([B)Z" = some ⟨[(.array .byte)], some .boolean⟩ := by decide +kernel
theorem ef_0 (m : MethodId) (x0 : Int32) (x1 : Int32) (x2 : Int32) (x3 : Int32) (x4 : Int32) : entryFrame m #[(.int x0), (.int x1), (.int x2), (.int x3), (.int x4)] maxLocals = mkF m 0 #[.val (.int x0), .val (.int x1), .val (.int x2), .val (.int x3), .val (.int x4), .unset, .unset, .unset, .unset, .unset, .unset, .unset, .unset, .unset, .unset, .unset, .unset] [] := by first | (simp [entryFrame, mkF, argsToLocals, Value.category, maxLocals]; done) | rfl
set_option maxRecDepth 65536 in
set_option maxHeartbeats 40000000 in
theorem rm0 (l : Launch) (Z : State) (a0 : Array Value) (hw : ∀ d ∈ tables_1, d.before a0 Z = true) (ws : List Jvm.Cond) (p0 p1 p2 p3 p4 : Int32) (h0 : Heap) (n0 : Nat) (Z0 : n0 ≤ h0.size)  :
    MetFree l x (head1 (Jvm.Cond.code x code maxLocals ret :: ws) room_1) (fun a U => a = #[(.int p0), (.int p1), (.int p2), (.int p3), (.int p4)] ∧ Z.Warmed39 U.vm ∧ U.heap = h0) (fun _ _ _ _ _ => True) (fun _ U o U' => ∃ v L, o = .returned v ∧ QV (some (.int (1 : Int32))) (fun _ L => Fr n0 L) v U'.heap L ∧ FrameEnd U o U' L room_1.cells room_1.slots) := by
  refine MetFree.of_bodySF (plainFor_of_name pn_0) hisR ?_
  intro p e s m args below meth c s₁ Bd hml0 hP hK
  obtain ⟨rfl, hZ, hh⟩ := hP
  have hx := Bd.exec
  have hby := Bd.bytes
  have hml : c.maxLocals = 17 := hml0
  have hown : s.vm.findClass "com/example/cytobridge/cytobridge/profile/CharacterSetIsAsciiPinLaw" = some m.cls := findClass_of_methodNamed Bd.named
  have hnm := (name_of_methodNamed Bd.named Bd.method).1
  have hlk : meth.locks = false := BodyLoose.notSynchronized Bd
  have X0 : Stand p l e room_1 s m #[(.int p0), (.int p1), (.int p2), (.int p3), (.int p4)] below meth c s₁ [] 0 0 := Stand.of_body Bd
  have e0 : s₁.heap = h0 := by rw [← hh, Bd.state]; rfl
  have N0 := Fr.nil n0
  refine Got.body (ef_0 m p0 p1 p2 p3 p4) ?_
  refine Got.step (T' := s₁) (g' := (mkF m 35 #[.val (.int p0), .val (.int p1), .val (.int p2), .val (.int p3), .val (.int p4), .val (.int ((p4 &&& (2147483647 : Int32)) % (5 : Int32))), .val (.int (p0.toInt8.toInt32)), .val (.int (p1.toInt8.toInt32)), .val (.int (p2.toInt8.toInt32)), .val (.int (p3.toInt8.toInt32)), .unset, .unset, .unset, .unset, .unset, .unset, .unset] [(.int (p3.toInt8.toInt32)), (.int (p2.toInt8.toInt32)), (.int (p1.toInt8.toInt32)), (.int (p0.toInt8.toInt32)), (.int ((p4 &&& (2147483647 : Int32)) % (5 : Int32)))])) (fun tq kt => ?_) ?_
  · show Steps p.tables e below (s₁.setTop (mkF m 0 #[.val (.int p0), .val (.int p1), .val (.int p2), .val (.int p3), .val (.int p4), .unset, .unset, .unset, .unset, .unset, .unset, .unset, .unset, .unset, .unset, .unset, .unset] [])) _
    refine XS.iload X0.here hx rfl (hb hby at_0) rfl ?_
    show Steps p.tables e below (s₁.setTop (mkF m 2 #[.val (.int p0), .val (.int p1), .val (.int p2), .val (.int p3), .val (.int p4), .unset, .unset, .unset, .unset, .unset, .unset, .unset, .unset, .unset, .unset, .unset, .unset] [(.int p4)])) _
    refine X0.ldcI hx hown (mvT hZ (hw _ (List.mem_of_getElem? (i := 0) rfl))) rfl (hb hby at_2) ?_
    show Steps p.tables e below (s₁.setTop (mkF m 4 #[.val (.int p0), .val (.int p1), .val (.int p2), .val (.int p3), .val (.int p4), .unset, .unset, .unset, .unset, .unset, .unset, .unset, .unset, .unset, .unset, .unset, .unset] [(.int (2147483647 : Int32)), (.int p4)])) _
    refine XS.iand X0.here hx rfl (hb hby at_4) rfl ?_
    show Steps p.tables e below (s₁.setTop (mkF m 5 #[.val (.int p0), .val (.int p1), .val (.int p2), .val (.int p3), .val (.int p4), .unset, .unset, .unset, .unset, .unset, .unset, .unset, .unset, .unset, .unset, .unset, .unset] [(.int (p4 &&& (2147483647 : Int32)))])) _
    refine XS.iconst X0.here hx rfl (hb hby at_5) ?_
    show Steps p.tables e below (s₁.setTop (mkF m 6 #[.val (.int p0), .val (.int p1), .val (.int p2), .val (.int p3), .val (.int p4), .unset, .unset, .unset, .unset, .unset, .unset, .unset, .unset, .unset, .unset, .unset, .unset] [(.int (5 : Int32)), (.int (p4 &&& (2147483647 : Int32)))])) _
    refine iremM X0 hx rfl (hb hby at_6) rfl (by decide) ?_
    show Steps p.tables e below (s₁.setTop (mkF m 7 #[.val (.int p0), .val (.int p1), .val (.int p2), .val (.int p3), .val (.int p4), .unset, .unset, .unset, .unset, .unset, .unset, .unset, .unset, .unset, .unset, .unset, .unset] [(.int ((p4 &&& (2147483647 : Int32)) % (5 : Int32)))])) _
    refine XS.istore X0.here hx rfl (hb hby at_7) rfl (l' := #[.val (.int p0), .val (.int p1), .val (.int p2), .val (.int p3), .val (.int p4), .val (.int ((p4 &&& (2147483647 : Int32)) % (5 : Int32))), .unset, .unset, .unset, .unset, .unset, .unset, .unset, .unset, .unset, .unset, .unset]) rfl ?_
    show Steps p.tables e below (s₁.setTop (mkF m 9 #[.val (.int p0), .val (.int p1), .val (.int p2), .val (.int p3), .val (.int p4), .val (.int ((p4 &&& (2147483647 : Int32)) % (5 : Int32))), .unset, .unset, .unset, .unset, .unset, .unset, .unset, .unset, .unset, .unset, .unset] [])) _
    refine XS.iloadN X0.here hx rfl (hb hby at_9) rfl ?_
    show Steps p.tables e below (s₁.setTop (mkF m 10 #[.val (.int p0), .val (.int p1), .val (.int p2), .val (.int p3), .val (.int p4), .val (.int ((p4 &&& (2147483647 : Int32)) % (5 : Int32))), .unset, .unset, .unset, .unset, .unset, .unset, .unset, .unset, .unset, .unset, .unset] [(.int p0)])) _
    refine XS.i2b X0.here hx rfl (hb hby at_10) rfl ?_
    show Steps p.tables e below (s₁.setTop (mkF m 11 #[.val (.int p0), .val (.int p1), .val (.int p2), .val (.int p3), .val (.int p4), .val (.int ((p4 &&& (2147483647 : Int32)) % (5 : Int32))), .unset, .unset, .unset, .unset, .unset, .unset, .unset, .unset, .unset, .unset, .unset] [(.int (p0.toInt8.toInt32))])) _
    refine XS.istore X0.here hx rfl (hb hby at_11) rfl (l' := #[.val (.int p0), .val (.int p1), .val (.int p2), .val (.int p3), .val (.int p4), .val (.int ((p4 &&& (2147483647 : Int32)) % (5 : Int32))), .val (.int (p0.toInt8.toInt32)), .unset, .unset, .unset, .unset, .unset, .unset, .unset, .unset, .unset, .unset]) rfl ?_
    show Steps p.tables e below (s₁.setTop (mkF m 13 #[.val (.int p0), .val (.int p1), .val (.int p2), .val (.int p3), .val (.int p4), .val (.int ((p4 &&& (2147483647 : Int32)) % (5 : Int32))), .val (.int (p0.toInt8.toInt32)), .unset, .unset, .unset, .unset, .unset, .unset, .unset, .unset, .unset, .unset] [])) _
    refine XS.iloadN X0.here hx rfl (hb hby at_13) rfl ?_
    show Steps p.tables e below (s₁.setTop (mkF m 14 #[.val (.int p0), .val (.int p1), .val (.int p2), .val (.int p3), .val (.int p4), .val (.int ((p4 &&& (2147483647 : Int32)) % (5 : Int32))), .val (.int (p0.toInt8.toInt32)), .unset, .unset, .unset, .unset, .unset, .unset, .unset, .unset, .unset, .unset] [(.int p1)])) _
    refine XS.i2b X0.here hx rfl (hb hby at_14) rfl ?_
    show Steps p.tables e below (s₁.setTop (mkF m 15 #[.val (.int p0), .val (.int p1), .val (.int p2), .val (.int p3), .val (.int p4), .val (.int ((p4 &&& (2147483647 : Int32)) % (5 : Int32))), .val (.int (p0.toInt8.toInt32)), .unset, .unset, .unset, .unset, .unset, .unset, .unset, .unset, .unset, .unset] [(.int (p1.toInt8.toInt32))])) _
    refine XS.istore X0.here hx rfl (hb hby at_15) rfl (l' := #[.val (.int p0), .val (.int p1), .val (.int p2), .val (.int p3), .val (.int p4), .val (.int ((p4 &&& (2147483647 : Int32)) % (5 : Int32))), .val (.int (p0.toInt8.toInt32)), .val (.int (p1.toInt8.toInt32)), .unset, .unset, .unset, .unset, .unset, .unset, .unset, .unset, .unset]) rfl ?_
    show Steps p.tables e below (s₁.setTop (mkF m 17 #[.val (.int p0), .val (.int p1), .val (.int p2), .val (.int p3), .val (.int p4), .val (.int ((p4 &&& (2147483647 : Int32)) % (5 : Int32))), .val (.int (p0.toInt8.toInt32)), .val (.int (p1.toInt8.toInt32)), .unset, .unset, .unset, .unset, .unset, .unset, .unset, .unset, .unset] [])) _
    refine XS.iloadN X0.here hx rfl (hb hby at_17) rfl ?_
    show Steps p.tables e below (s₁.setTop (mkF m 18 #[.val (.int p0), .val (.int p1), .val (.int p2), .val (.int p3), .val (.int p4), .val (.int ((p4 &&& (2147483647 : Int32)) % (5 : Int32))), .val (.int (p0.toInt8.toInt32)), .val (.int (p1.toInt8.toInt32)), .unset, .unset, .unset, .unset, .unset, .unset, .unset, .unset, .unset] [(.int p2)])) _
    refine XS.i2b X0.here hx rfl (hb hby at_18) rfl ?_
    show Steps p.tables e below (s₁.setTop (mkF m 19 #[.val (.int p0), .val (.int p1), .val (.int p2), .val (.int p3), .val (.int p4), .val (.int ((p4 &&& (2147483647 : Int32)) % (5 : Int32))), .val (.int (p0.toInt8.toInt32)), .val (.int (p1.toInt8.toInt32)), .unset, .unset, .unset, .unset, .unset, .unset, .unset, .unset, .unset] [(.int (p2.toInt8.toInt32))])) _
    refine XS.istore X0.here hx rfl (hb hby at_19) rfl (l' := #[.val (.int p0), .val (.int p1), .val (.int p2), .val (.int p3), .val (.int p4), .val (.int ((p4 &&& (2147483647 : Int32)) % (5 : Int32))), .val (.int (p0.toInt8.toInt32)), .val (.int (p1.toInt8.toInt32)), .val (.int (p2.toInt8.toInt32)), .unset, .unset, .unset, .unset, .unset, .unset, .unset, .unset]) rfl ?_
    show Steps p.tables e below (s₁.setTop (mkF m 21 #[.val (.int p0), .val (.int p1), .val (.int p2), .val (.int p3), .val (.int p4), .val (.int ((p4 &&& (2147483647 : Int32)) % (5 : Int32))), .val (.int (p0.toInt8.toInt32)), .val (.int (p1.toInt8.toInt32)), .val (.int (p2.toInt8.toInt32)), .unset, .unset, .unset, .unset, .unset, .unset, .unset, .unset] [])) _
    refine XS.iloadN X0.here hx rfl (hb hby at_21) rfl ?_
    show Steps p.tables e below (s₁.setTop (mkF m 22 #[.val (.int p0), .val (.int p1), .val (.int p2), .val (.int p3), .val (.int p4), .val (.int ((p4 &&& (2147483647 : Int32)) % (5 : Int32))), .val (.int (p0.toInt8.toInt32)), .val (.int (p1.toInt8.toInt32)), .val (.int (p2.toInt8.toInt32)), .unset, .unset, .unset, .unset, .unset, .unset, .unset, .unset] [(.int p3)])) _
    refine XS.i2b X0.here hx rfl (hb hby at_22) rfl ?_
    show Steps p.tables e below (s₁.setTop (mkF m 23 #[.val (.int p0), .val (.int p1), .val (.int p2), .val (.int p3), .val (.int p4), .val (.int ((p4 &&& (2147483647 : Int32)) % (5 : Int32))), .val (.int (p0.toInt8.toInt32)), .val (.int (p1.toInt8.toInt32)), .val (.int (p2.toInt8.toInt32)), .unset, .unset, .unset, .unset, .unset, .unset, .unset, .unset] [(.int (p3.toInt8.toInt32))])) _
    refine XS.istore X0.here hx rfl (hb hby at_23) rfl (l' := #[.val (.int p0), .val (.int p1), .val (.int p2), .val (.int p3), .val (.int p4), .val (.int ((p4 &&& (2147483647 : Int32)) % (5 : Int32))), .val (.int (p0.toInt8.toInt32)), .val (.int (p1.toInt8.toInt32)), .val (.int (p2.toInt8.toInt32)), .val (.int (p3.toInt8.toInt32)), .unset, .unset, .unset, .unset, .unset, .unset, .unset]) rfl ?_
    show Steps p.tables e below (s₁.setTop (mkF m 25 #[.val (.int p0), .val (.int p1), .val (.int p2), .val (.int p3), .val (.int p4), .val (.int ((p4 &&& (2147483647 : Int32)) % (5 : Int32))), .val (.int (p0.toInt8.toInt32)), .val (.int (p1.toInt8.toInt32)), .val (.int (p2.toInt8.toInt32)), .val (.int (p3.toInt8.toInt32)), .unset, .unset, .unset, .unset, .unset, .unset, .unset] [])) _
    refine XS.iload X0.here hx rfl (hb hby at_25) rfl ?_
    show Steps p.tables e below (s₁.setTop (mkF m 27 #[.val (.int p0), .val (.int p1), .val (.int p2), .val (.int p3), .val (.int p4), .val (.int ((p4 &&& (2147483647 : Int32)) % (5 : Int32))), .val (.int (p0.toInt8.toInt32)), .val (.int (p1.toInt8.toInt32)), .val (.int (p2.toInt8.toInt32)), .val (.int (p3.toInt8.toInt32)), .unset, .unset, .unset, .unset, .unset, .unset, .unset] [(.int ((p4 &&& (2147483647 : Int32)) % (5 : Int32)))])) _
    refine XS.iload X0.here hx rfl (hb hby at_27) rfl ?_
    show Steps p.tables e below (s₁.setTop (mkF m 29 #[.val (.int p0), .val (.int p1), .val (.int p2), .val (.int p3), .val (.int p4), .val (.int ((p4 &&& (2147483647 : Int32)) % (5 : Int32))), .val (.int (p0.toInt8.toInt32)), .val (.int (p1.toInt8.toInt32)), .val (.int (p2.toInt8.toInt32)), .val (.int (p3.toInt8.toInt32)), .unset, .unset, .unset, .unset, .unset, .unset, .unset] [(.int (p0.toInt8.toInt32)), (.int ((p4 &&& (2147483647 : Int32)) % (5 : Int32)))])) _
    refine XS.iload X0.here hx rfl (hb hby at_29) rfl ?_
    show Steps p.tables e below (s₁.setTop (mkF m 31 #[.val (.int p0), .val (.int p1), .val (.int p2), .val (.int p3), .val (.int p4), .val (.int ((p4 &&& (2147483647 : Int32)) % (5 : Int32))), .val (.int (p0.toInt8.toInt32)), .val (.int (p1.toInt8.toInt32)), .val (.int (p2.toInt8.toInt32)), .val (.int (p3.toInt8.toInt32)), .unset, .unset, .unset, .unset, .unset, .unset, .unset] [(.int (p1.toInt8.toInt32)), (.int (p0.toInt8.toInt32)), (.int ((p4 &&& (2147483647 : Int32)) % (5 : Int32)))])) _
    refine XS.iload X0.here hx rfl (hb hby at_31) rfl ?_
    show Steps p.tables e below (s₁.setTop (mkF m 33 #[.val (.int p0), .val (.int p1), .val (.int p2), .val (.int p3), .val (.int p4), .val (.int ((p4 &&& (2147483647 : Int32)) % (5 : Int32))), .val (.int (p0.toInt8.toInt32)), .val (.int (p1.toInt8.toInt32)), .val (.int (p2.toInt8.toInt32)), .val (.int (p3.toInt8.toInt32)), .unset, .unset, .unset, .unset, .unset, .unset, .unset] [(.int (p2.toInt8.toInt32)), (.int (p1.toInt8.toInt32)), (.int (p0.toInt8.toInt32)), (.int ((p4 &&& (2147483647 : Int32)) % (5 : Int32)))])) _
    refine XS.iload X0.here hx rfl (hb hby at_33) rfl ?_
    exact kt
  rcases own_len p4 with hlen | hlen | hlen | hlen | hlen
  · obtain ⟨_, _, ⟨T50, L50, k50, n50⟩, -, X50, ⟨Lc50, hQ50, l50, y50, z50⟩, st50⟩ := Jvm.LawKit.callS X0 hx (y := (⟨"com/example/cytobridge/cytobridge/profile/CharacterSetIsAsciiPinLaw", "build", "(IBBBB)[B"⟩ : MethodName)) hown (mvT hZ (hw _ (List.mem_of_getElem? (i := 1) rfl))) (mvT hZ (hw _ (List.mem_of_getElem? (i := 2) rfl))) (mvT hZ (hw _ (List.mem_of_getElem? (i := 3) rfl))) (mvT hZ (hw _ (List.mem_of_getElem? (i := 4) rfl))) (by decide) (backOf (W := 0) (rm1_0 l Z a0 hw [] ((p4 &&& (2147483647 : Int32)) % (5 : Int32)) (p0.toInt8.toInt32) (p1.toInt8.toInt32) (p2.toInt8.toInt32) (p3.toInt8.toInt32) h0 n0 Z0 hlen (narB _) (fits_nar_byte _) (narB _) (fits_nar_byte _) (narB _) (fits_nar_byte _) (narB _) (fits_nar_byte _)) hZ (hw _ (List.mem_of_getElem? (i := 4) rfl)) (hw _ (List.mem_of_getElem? (i := 3) rfl)) (by decide) (by decide)) (g := (mkF m 35 #[.val (.int p0), .val (.int p1), .val (.int p2), .val (.int p3), .val (.int p4), .val (.int ((p4 &&& (2147483647 : Int32)) % (5 : Int32))), .val (.int (p0.toInt8.toInt32)), .val (.int (p1.toInt8.toInt32)), .val (.int (p2.toInt8.toInt32)), .val (.int (p3.toInt8.toInt32)), .unset, .unset, .unset, .unset, .unset, .unset, .unset] [(.int (p3.toInt8.toInt32)), (.int (p2.toInt8.toInt32)), (.int (p1.toInt8.toInt32)), (.int (p0.toInt8.toInt32)), (.int ((p4 &&& (2147483647 : Int32)) % (5 : Int32)))])) rfl (by rw [hml]; rfl) (argsL := [(.int ((p4 &&& (2147483647 : Int32)) % (5 : Int32))), (.int (p0.toInt8.toInt32)), (.int (p1.toInt8.toInt32)), (.int (p2.toInt8.toInt32)), (.int (p3.toInt8.toInt32))]) (rest := []) (lenOf pd_0 rfl) rfl (by show 2 * 0 + _ ≤ _; exact Nat.le_of_eq rfl) (hb hby at_35) (fun _ _ => ⟨rfl, e0, (by decide : 0 + 1 ≤ _), (by decide : 0 + 0 ≤ _)⟩)
    dsimp only [Pt.U, Pt.locs, Pt.cells, Pt.slots] at X50 l50 y50 z50 st50 hQ50
    subst l50 y50 z50
    obtain ⟨b50, g50⟩ : ∃ z, z = h0.size := ⟨_, rfl⟩
    rw [← g50] at hQ50
    obtain ⟨h50, e50⟩ : ∃ z, T50.heap = z := ⟨_, rfl⟩
    rw [e50] at hQ50
    obtain ⟨rfl, Nq50, K50, ⟨ka50, B50_0⟩⟩ := hQ50
    have N50 := Fr.app N0 Nq50
    have gn_b50 : n0 ≤ b50 := by rw [g50]; exact Z0
    have Z0_51 : n0 ≤ h50.size := (Nat.le_trans Z0 K50.1)
    refine Got.step st50 ?_
    show Got p e below s _ _ _ _ T50 (mkF m 38 #[.val (.int p0), .val (.int p1), .val (.int p2), .val (.int p3), .val (.int p4), .val (.int ((p4 &&& (2147483647 : Int32)) % (5 : Int32))), .val (.int (p0.toInt8.toInt32)), .val (.int (p1.toInt8.toInt32)), .val (.int (p2.toInt8.toInt32)), .val (.int (p3.toInt8.toInt32)), .unset, .unset, .unset, .unset, .unset, .unset, .unset] [(.ref b50)])
    refine Got.step (T' := T50) (g' := (mkF m 45 #[.val (.int p0), .val (.int p1), .val (.int p2), .val (.int p3), .val (.int p4), .val (.int ((p4 &&& (2147483647 : Int32)) % (5 : Int32))), .val (.int (p0.toInt8.toInt32)), .val (.int (p1.toInt8.toInt32)), .val (.int (p2.toInt8.toInt32)), .val (.int (p3.toInt8.toInt32)), .val (.ref b50), .unset, .unset, .unset, .unset, .unset, .unset] [(.int (p0 &&& (128 : Int32)))])) (fun tq kt => ?_) ?_
    · show Steps p.tables e below (T50.setTop (mkF m 38 #[.val (.int p0), .val (.int p1), .val (.int p2), .val (.int p3), .val (.int p4), .val (.int ((p4 &&& (2147483647 : Int32)) % (5 : Int32))), .val (.int (p0.toInt8.toInt32)), .val (.int (p1.toInt8.toInt32)), .val (.int (p2.toInt8.toInt32)), .val (.int (p3.toInt8.toInt32)), .unset, .unset, .unset, .unset, .unset, .unset, .unset] [(.ref b50)])) _
      refine XS.astore X50.here hx rfl (hb hby at_38) rfl rfl (l' := #[.val (.int p0), .val (.int p1), .val (.int p2), .val (.int p3), .val (.int p4), .val (.int ((p4 &&& (2147483647 : Int32)) % (5 : Int32))), .val (.int (p0.toInt8.toInt32)), .val (.int (p1.toInt8.toInt32)), .val (.int (p2.toInt8.toInt32)), .val (.int (p3.toInt8.toInt32)), .val (.ref b50), .unset, .unset, .unset, .unset, .unset, .unset]) rfl ?_
      show Steps p.tables e below (T50.setTop (mkF m 40 #[.val (.int p0), .val (.int p1), .val (.int p2), .val (.int p3), .val (.int p4), .val (.int ((p4 &&& (2147483647 : Int32)) % (5 : Int32))), .val (.int (p0.toInt8.toInt32)), .val (.int (p1.toInt8.toInt32)), .val (.int (p2.toInt8.toInt32)), .val (.int (p3.toInt8.toInt32)), .val (.ref b50), .unset, .unset, .unset, .unset, .unset, .unset] [])) _
      refine XS.iloadN X50.here hx rfl (hb hby at_40) rfl ?_
      show Steps p.tables e below (T50.setTop (mkF m 41 #[.val (.int p0), .val (.int p1), .val (.int p2), .val (.int p3), .val (.int p4), .val (.int ((p4 &&& (2147483647 : Int32)) % (5 : Int32))), .val (.int (p0.toInt8.toInt32)), .val (.int (p1.toInt8.toInt32)), .val (.int (p2.toInt8.toInt32)), .val (.int (p3.toInt8.toInt32)), .val (.ref b50), .unset, .unset, .unset, .unset, .unset, .unset] [(.int p0)])) _
      refine XS.sipush X50.here hx rfl (hb hby at_41) ?_
      show Steps p.tables e below (T50.setTop (mkF m 44 #[.val (.int p0), .val (.int p1), .val (.int p2), .val (.int p3), .val (.int p4), .val (.int ((p4 &&& (2147483647 : Int32)) % (5 : Int32))), .val (.int (p0.toInt8.toInt32)), .val (.int (p1.toInt8.toInt32)), .val (.int (p2.toInt8.toInt32)), .val (.int (p3.toInt8.toInt32)), .val (.ref b50), .unset, .unset, .unset, .unset, .unset, .unset] [(.int (128 : Int32)), (.int p0)])) _
      refine XS.iand X50.here hx rfl (hb hby at_44) rfl ?_
      exact kt
    have J52 : ∀ (k52_0 : Int32), k52_0 = (if (p0 &&& (128 : Int32)) = 0 then (1 : Int32) else (0 : Int32)) → Got p e below s (fun _ L => Fr n0 L) room_1.cells room_1.slots (some (.int (1 : Int32))) T50 (mkF m 53 #[.val (.int p0), .val (.int p1), .val (.int p2), .val (.int p3), .val (.int p4), .val (.int ((p4 &&& (2147483647 : Int32)) % (5 : Int32))), .val (.int (p0.toInt8.toInt32)), .val (.int (p1.toInt8.toInt32)), .val (.int (p2.toInt8.toInt32)), .val (.int (p3.toInt8.toInt32)), .val (.ref b50), .unset, .unset, .unset, .unset, .unset, .unset] [(.int k52_0)]) := by
      intro k52_0 hk52_0
      refine Got.step (T' := T50) (g' := (mkF m 60 #[.val (.int p0), .val (.int p1), .val (.int p2), .val (.int p3), .val (.int p4), .val (.int ((p4 &&& (2147483647 : Int32)) % (5 : Int32))), .val (.int (p0.toInt8.toInt32)), .val (.int (p1.toInt8.toInt32)), .val (.int (p2.toInt8.toInt32)), .val (.int (p3.toInt8.toInt32)), .val (.ref b50), .val (.int k52_0), .unset, .unset, .unset, .unset, .unset] [(.int (p1 &&& (128 : Int32)))])) (fun tq kt => ?_) ?_
      · show Steps p.tables e below (T50.setTop (mkF m 53 #[.val (.int p0), .val (.int p1), .val (.int p2), .val (.int p3), .val (.int p4), .val (.int ((p4 &&& (2147483647 : Int32)) % (5 : Int32))), .val (.int (p0.toInt8.toInt32)), .val (.int (p1.toInt8.toInt32)), .val (.int (p2.toInt8.toInt32)), .val (.int (p3.toInt8.toInt32)), .val (.ref b50), .unset, .unset, .unset, .unset, .unset, .unset] [(.int k52_0)])) _
        refine XS.istore X50.here hx rfl (hb hby at_53) rfl (l' := #[.val (.int p0), .val (.int p1), .val (.int p2), .val (.int p3), .val (.int p4), .val (.int ((p4 &&& (2147483647 : Int32)) % (5 : Int32))), .val (.int (p0.toInt8.toInt32)), .val (.int (p1.toInt8.toInt32)), .val (.int (p2.toInt8.toInt32)), .val (.int (p3.toInt8.toInt32)), .val (.ref b50), .val (.int k52_0), .unset, .unset, .unset, .unset, .unset]) rfl ?_
        show Steps p.tables e below (T50.setTop (mkF m 55 #[.val (.int p0), .val (.int p1), .val (.int p2), .val (.int p3), .val (.int p4), .val (.int ((p4 &&& (2147483647 : Int32)) % (5 : Int32))), .val (.int (p0.toInt8.toInt32)), .val (.int (p1.toInt8.toInt32)), .val (.int (p2.toInt8.toInt32)), .val (.int (p3.toInt8.toInt32)), .val (.ref b50), .val (.int k52_0), .unset, .unset, .unset, .unset, .unset] [])) _
        refine XS.iloadN X50.here hx rfl (hb hby at_55) rfl ?_
        show Steps p.tables e below (T50.setTop (mkF m 56 #[.val (.int p0), .val (.int p1), .val (.int p2), .val (.int p3), .val (.int p4), .val (.int ((p4 &&& (2147483647 : Int32)) % (5 : Int32))), .val (.int (p0.toInt8.toInt32)), .val (.int (p1.toInt8.toInt32)), .val (.int (p2.toInt8.toInt32)), .val (.int (p3.toInt8.toInt32)), .val (.ref b50), .val (.int k52_0), .unset, .unset, .unset, .unset, .unset] [(.int p1)])) _
        refine XS.sipush X50.here hx rfl (hb hby at_56) ?_
        show Steps p.tables e below (T50.setTop (mkF m 59 #[.val (.int p0), .val (.int p1), .val (.int p2), .val (.int p3), .val (.int p4), .val (.int ((p4 &&& (2147483647 : Int32)) % (5 : Int32))), .val (.int (p0.toInt8.toInt32)), .val (.int (p1.toInt8.toInt32)), .val (.int (p2.toInt8.toInt32)), .val (.int (p3.toInt8.toInt32)), .val (.ref b50), .val (.int k52_0), .unset, .unset, .unset, .unset, .unset] [(.int (128 : Int32)), (.int p1)])) _
        refine XS.iand X50.here hx rfl (hb hby at_59) rfl ?_
        exact kt
      have J54 : ∀ (k54_0 : Int32), k54_0 = (if (p1 &&& (128 : Int32)) = 0 then (1 : Int32) else (0 : Int32)) → Got p e below s (fun _ L => Fr n0 L) room_1.cells room_1.slots (some (.int (1 : Int32))) T50 (mkF m 68 #[.val (.int p0), .val (.int p1), .val (.int p2), .val (.int p3), .val (.int p4), .val (.int ((p4 &&& (2147483647 : Int32)) % (5 : Int32))), .val (.int (p0.toInt8.toInt32)), .val (.int (p1.toInt8.toInt32)), .val (.int (p2.toInt8.toInt32)), .val (.int (p3.toInt8.toInt32)), .val (.ref b50), .val (.int k52_0), .unset, .unset, .unset, .unset, .unset] [(.int k54_0)]) := by
        intro k54_0 hk54_0
        refine Got.step (T' := T50) (g' := (mkF m 75 #[.val (.int p0), .val (.int p1), .val (.int p2), .val (.int p3), .val (.int p4), .val (.int ((p4 &&& (2147483647 : Int32)) % (5 : Int32))), .val (.int (p0.toInt8.toInt32)), .val (.int (p1.toInt8.toInt32)), .val (.int (p2.toInt8.toInt32)), .val (.int (p3.toInt8.toInt32)), .val (.ref b50), .val (.int k52_0), .val (.int k54_0), .unset, .unset, .unset, .unset] [(.int (p2 &&& (128 : Int32)))])) (fun tq kt => ?_) ?_
        · show Steps p.tables e below (T50.setTop (mkF m 68 #[.val (.int p0), .val (.int p1), .val (.int p2), .val (.int p3), .val (.int p4), .val (.int ((p4 &&& (2147483647 : Int32)) % (5 : Int32))), .val (.int (p0.toInt8.toInt32)), .val (.int (p1.toInt8.toInt32)), .val (.int (p2.toInt8.toInt32)), .val (.int (p3.toInt8.toInt32)), .val (.ref b50), .val (.int k52_0), .unset, .unset, .unset, .unset, .unset] [(.int k54_0)])) _
          refine XS.istore X50.here hx rfl (hb hby at_68) rfl (l' := #[.val (.int p0), .val (.int p1), .val (.int p2), .val (.int p3), .val (.int p4), .val (.int ((p4 &&& (2147483647 : Int32)) % (5 : Int32))), .val (.int (p0.toInt8.toInt32)), .val (.int (p1.toInt8.toInt32)), .val (.int (p2.toInt8.toInt32)), .val (.int (p3.toInt8.toInt32)), .val (.ref b50), .val (.int k52_0), .val (.int k54_0), .unset, .unset, .unset, .unset]) rfl ?_
          show Steps p.tables e below (T50.setTop (mkF m 70 #[.val (.int p0), .val (.int p1), .val (.int p2), .val (.int p3), .val (.int p4), .val (.int ((p4 &&& (2147483647 : Int32)) % (5 : Int32))), .val (.int (p0.toInt8.toInt32)), .val (.int (p1.toInt8.toInt32)), .val (.int (p2.toInt8.toInt32)), .val (.int (p3.toInt8.toInt32)), .val (.ref b50), .val (.int k52_0), .val (.int k54_0), .unset, .unset, .unset, .unset] [])) _
          refine XS.iloadN X50.here hx rfl (hb hby at_70) rfl ?_
          show Steps p.tables e below (T50.setTop (mkF m 71 #[.val (.int p0), .val (.int p1), .val (.int p2), .val (.int p3), .val (.int p4), .val (.int ((p4 &&& (2147483647 : Int32)) % (5 : Int32))), .val (.int (p0.toInt8.toInt32)), .val (.int (p1.toInt8.toInt32)), .val (.int (p2.toInt8.toInt32)), .val (.int (p3.toInt8.toInt32)), .val (.ref b50), .val (.int k52_0), .val (.int k54_0), .unset, .unset, .unset, .unset] [(.int p2)])) _
          refine XS.sipush X50.here hx rfl (hb hby at_71) ?_
          show Steps p.tables e below (T50.setTop (mkF m 74 #[.val (.int p0), .val (.int p1), .val (.int p2), .val (.int p3), .val (.int p4), .val (.int ((p4 &&& (2147483647 : Int32)) % (5 : Int32))), .val (.int (p0.toInt8.toInt32)), .val (.int (p1.toInt8.toInt32)), .val (.int (p2.toInt8.toInt32)), .val (.int (p3.toInt8.toInt32)), .val (.ref b50), .val (.int k52_0), .val (.int k54_0), .unset, .unset, .unset, .unset] [(.int (128 : Int32)), (.int p2)])) _
          refine XS.iand X50.here hx rfl (hb hby at_74) rfl ?_
          exact kt
        have J56 : ∀ (k56_0 : Int32), k56_0 = (if (p2 &&& (128 : Int32)) = 0 then (1 : Int32) else (0 : Int32)) → Got p e below s (fun _ L => Fr n0 L) room_1.cells room_1.slots (some (.int (1 : Int32))) T50 (mkF m 83 #[.val (.int p0), .val (.int p1), .val (.int p2), .val (.int p3), .val (.int p4), .val (.int ((p4 &&& (2147483647 : Int32)) % (5 : Int32))), .val (.int (p0.toInt8.toInt32)), .val (.int (p1.toInt8.toInt32)), .val (.int (p2.toInt8.toInt32)), .val (.int (p3.toInt8.toInt32)), .val (.ref b50), .val (.int k52_0), .val (.int k54_0), .unset, .unset, .unset, .unset] [(.int k56_0)]) := by
          intro k56_0 hk56_0
          refine Got.step (T' := T50) (g' := (mkF m 90 #[.val (.int p0), .val (.int p1), .val (.int p2), .val (.int p3), .val (.int p4), .val (.int ((p4 &&& (2147483647 : Int32)) % (5 : Int32))), .val (.int (p0.toInt8.toInt32)), .val (.int (p1.toInt8.toInt32)), .val (.int (p2.toInt8.toInt32)), .val (.int (p3.toInt8.toInt32)), .val (.ref b50), .val (.int k52_0), .val (.int k54_0), .val (.int k56_0), .unset, .unset, .unset] [(.int (p3 &&& (128 : Int32)))])) (fun tq kt => ?_) ?_
          · show Steps p.tables e below (T50.setTop (mkF m 83 #[.val (.int p0), .val (.int p1), .val (.int p2), .val (.int p3), .val (.int p4), .val (.int ((p4 &&& (2147483647 : Int32)) % (5 : Int32))), .val (.int (p0.toInt8.toInt32)), .val (.int (p1.toInt8.toInt32)), .val (.int (p2.toInt8.toInt32)), .val (.int (p3.toInt8.toInt32)), .val (.ref b50), .val (.int k52_0), .val (.int k54_0), .unset, .unset, .unset, .unset] [(.int k56_0)])) _
            refine XS.istore X50.here hx rfl (hb hby at_83) rfl (l' := #[.val (.int p0), .val (.int p1), .val (.int p2), .val (.int p3), .val (.int p4), .val (.int ((p4 &&& (2147483647 : Int32)) % (5 : Int32))), .val (.int (p0.toInt8.toInt32)), .val (.int (p1.toInt8.toInt32)), .val (.int (p2.toInt8.toInt32)), .val (.int (p3.toInt8.toInt32)), .val (.ref b50), .val (.int k52_0), .val (.int k54_0), .val (.int k56_0), .unset, .unset, .unset]) rfl ?_
            show Steps p.tables e below (T50.setTop (mkF m 85 #[.val (.int p0), .val (.int p1), .val (.int p2), .val (.int p3), .val (.int p4), .val (.int ((p4 &&& (2147483647 : Int32)) % (5 : Int32))), .val (.int (p0.toInt8.toInt32)), .val (.int (p1.toInt8.toInt32)), .val (.int (p2.toInt8.toInt32)), .val (.int (p3.toInt8.toInt32)), .val (.ref b50), .val (.int k52_0), .val (.int k54_0), .val (.int k56_0), .unset, .unset, .unset] [])) _
            refine XS.iloadN X50.here hx rfl (hb hby at_85) rfl ?_
            show Steps p.tables e below (T50.setTop (mkF m 86 #[.val (.int p0), .val (.int p1), .val (.int p2), .val (.int p3), .val (.int p4), .val (.int ((p4 &&& (2147483647 : Int32)) % (5 : Int32))), .val (.int (p0.toInt8.toInt32)), .val (.int (p1.toInt8.toInt32)), .val (.int (p2.toInt8.toInt32)), .val (.int (p3.toInt8.toInt32)), .val (.ref b50), .val (.int k52_0), .val (.int k54_0), .val (.int k56_0), .unset, .unset, .unset] [(.int p3)])) _
            refine XS.sipush X50.here hx rfl (hb hby at_86) ?_
            show Steps p.tables e below (T50.setTop (mkF m 89 #[.val (.int p0), .val (.int p1), .val (.int p2), .val (.int p3), .val (.int p4), .val (.int ((p4 &&& (2147483647 : Int32)) % (5 : Int32))), .val (.int (p0.toInt8.toInt32)), .val (.int (p1.toInt8.toInt32)), .val (.int (p2.toInt8.toInt32)), .val (.int (p3.toInt8.toInt32)), .val (.ref b50), .val (.int k52_0), .val (.int k54_0), .val (.int k56_0), .unset, .unset, .unset] [(.int (128 : Int32)), (.int p3)])) _
            refine XS.iand X50.here hx rfl (hb hby at_89) rfl ?_
            exact kt
          have J58 : ∀ (k58_0 : Int32), k58_0 = (if (p3 &&& (128 : Int32)) = 0 then (1 : Int32) else (0 : Int32)) → Got p e below s (fun _ L => Fr n0 L) room_1.cells room_1.slots (some (.int (1 : Int32))) T50 (mkF m 98 #[.val (.int p0), .val (.int p1), .val (.int p2), .val (.int p3), .val (.int p4), .val (.int ((p4 &&& (2147483647 : Int32)) % (5 : Int32))), .val (.int (p0.toInt8.toInt32)), .val (.int (p1.toInt8.toInt32)), .val (.int (p2.toInt8.toInt32)), .val (.int (p3.toInt8.toInt32)), .val (.ref b50), .val (.int k52_0), .val (.int k54_0), .val (.int k56_0), .unset, .unset, .unset] [(.int k58_0)]) := by
            intro k58_0 hk58_0
            refine Got.step (T' := T50) (g' := (mkF m 153 #[.val (.int p0), .val (.int p1), .val (.int p2), .val (.int p3), .val (.int p4), .val (.int ((p4 &&& (2147483647 : Int32)) % (5 : Int32))), .val (.int (p0.toInt8.toInt32)), .val (.int (p1.toInt8.toInt32)), .val (.int (p2.toInt8.toInt32)), .val (.int (p3.toInt8.toInt32)), .val (.ref b50), .val (.int k52_0), .val (.int k54_0), .val (.int k56_0), .val (.int k58_0), .val (.int (1 : Int32)), .unset] [(.ref b50)])) (fun tq kt => ?_) ?_
            · show Steps p.tables e below (T50.setTop (mkF m 98 #[.val (.int p0), .val (.int p1), .val (.int p2), .val (.int p3), .val (.int p4), .val (.int ((p4 &&& (2147483647 : Int32)) % (5 : Int32))), .val (.int (p0.toInt8.toInt32)), .val (.int (p1.toInt8.toInt32)), .val (.int (p2.toInt8.toInt32)), .val (.int (p3.toInt8.toInt32)), .val (.ref b50), .val (.int k52_0), .val (.int k54_0), .val (.int k56_0), .unset, .unset, .unset] [(.int k58_0)])) _
              refine XS.istore X50.here hx rfl (hb hby at_98) rfl (l' := #[.val (.int p0), .val (.int p1), .val (.int p2), .val (.int p3), .val (.int p4), .val (.int ((p4 &&& (2147483647 : Int32)) % (5 : Int32))), .val (.int (p0.toInt8.toInt32)), .val (.int (p1.toInt8.toInt32)), .val (.int (p2.toInt8.toInt32)), .val (.int (p3.toInt8.toInt32)), .val (.ref b50), .val (.int k52_0), .val (.int k54_0), .val (.int k56_0), .val (.int k58_0), .unset, .unset]) rfl ?_
              show Steps p.tables e below (T50.setTop (mkF m 100 #[.val (.int p0), .val (.int p1), .val (.int p2), .val (.int p3), .val (.int p4), .val (.int ((p4 &&& (2147483647 : Int32)) % (5 : Int32))), .val (.int (p0.toInt8.toInt32)), .val (.int (p1.toInt8.toInt32)), .val (.int (p2.toInt8.toInt32)), .val (.int (p3.toInt8.toInt32)), .val (.ref b50), .val (.int k52_0), .val (.int k54_0), .val (.int k56_0), .val (.int k58_0), .unset, .unset] [])) _
              refine XS.iload X50.here hx rfl (hb hby at_100) rfl ?_
              show Steps p.tables e below (T50.setTop (mkF m 102 #[.val (.int p0), .val (.int p1), .val (.int p2), .val (.int p3), .val (.int p4), .val (.int ((p4 &&& (2147483647 : Int32)) % (5 : Int32))), .val (.int (p0.toInt8.toInt32)), .val (.int (p1.toInt8.toInt32)), .val (.int (p2.toInt8.toInt32)), .val (.int (p3.toInt8.toInt32)), .val (.ref b50), .val (.int k52_0), .val (.int k54_0), .val (.int k56_0), .val (.int k58_0), .unset, .unset] [(.int ((p4 &&& (2147483647 : Int32)) % (5 : Int32)))])) _
              refine XS.iconst X50.here hx rfl (hb hby at_102) ?_
              show Steps p.tables e below (T50.setTop (mkF m 103 #[.val (.int p0), .val (.int p1), .val (.int p2), .val (.int p3), .val (.int p4), .val (.int ((p4 &&& (2147483647 : Int32)) % (5 : Int32))), .val (.int (p0.toInt8.toInt32)), .val (.int (p1.toInt8.toInt32)), .val (.int (p2.toInt8.toInt32)), .val (.int (p3.toInt8.toInt32)), .val (.ref b50), .val (.int k52_0), .val (.int k54_0), .val (.int k56_0), .val (.int k58_0), .unset, .unset] [(.int (1 : Int32)), (.int ((p4 &&& (2147483647 : Int32)) % (5 : Int32)))])) _
              refine XS.icmpYes X50.here hx rfl (pc0 := 103) (pc' := 111) rfl (hb hby at_103) rfl (XT.ii_lt_t (by rw [hlen]; decide)) (by decide) (by decide) ?_
              show Steps p.tables e below (T50.setTop (mkF m 111 #[.val (.int p0), .val (.int p1), .val (.int p2), .val (.int p3), .val (.int p4), .val (.int ((p4 &&& (2147483647 : Int32)) % (5 : Int32))), .val (.int (p0.toInt8.toInt32)), .val (.int (p1.toInt8.toInt32)), .val (.int (p2.toInt8.toInt32)), .val (.int (p3.toInt8.toInt32)), .val (.ref b50), .val (.int k52_0), .val (.int k54_0), .val (.int k56_0), .val (.int k58_0), .unset, .unset] [])) _
              refine XS.iload X50.here hx rfl (hb hby at_111) rfl ?_
              show Steps p.tables e below (T50.setTop (mkF m 113 #[.val (.int p0), .val (.int p1), .val (.int p2), .val (.int p3), .val (.int p4), .val (.int ((p4 &&& (2147483647 : Int32)) % (5 : Int32))), .val (.int (p0.toInt8.toInt32)), .val (.int (p1.toInt8.toInt32)), .val (.int (p2.toInt8.toInt32)), .val (.int (p3.toInt8.toInt32)), .val (.ref b50), .val (.int k52_0), .val (.int k54_0), .val (.int k56_0), .val (.int k58_0), .unset, .unset] [(.int ((p4 &&& (2147483647 : Int32)) % (5 : Int32)))])) _
              refine XS.iconst X50.here hx rfl (hb hby at_113) ?_
              show Steps p.tables e below (T50.setTop (mkF m 114 #[.val (.int p0), .val (.int p1), .val (.int p2), .val (.int p3), .val (.int p4), .val (.int ((p4 &&& (2147483647 : Int32)) % (5 : Int32))), .val (.int (p0.toInt8.toInt32)), .val (.int (p1.toInt8.toInt32)), .val (.int (p2.toInt8.toInt32)), .val (.int (p3.toInt8.toInt32)), .val (.ref b50), .val (.int k52_0), .val (.int k54_0), .val (.int k56_0), .val (.int k58_0), .unset, .unset] [(.int (2 : Int32)), (.int ((p4 &&& (2147483647 : Int32)) % (5 : Int32)))])) _
              refine XS.icmpYes X50.here hx rfl (pc0 := 114) (pc' := 122) rfl (hb hby at_114) rfl (XT.ii_lt_t (by rw [hlen]; decide)) (by decide) (by decide) ?_
              show Steps p.tables e below (T50.setTop (mkF m 122 #[.val (.int p0), .val (.int p1), .val (.int p2), .val (.int p3), .val (.int p4), .val (.int ((p4 &&& (2147483647 : Int32)) % (5 : Int32))), .val (.int (p0.toInt8.toInt32)), .val (.int (p1.toInt8.toInt32)), .val (.int (p2.toInt8.toInt32)), .val (.int (p3.toInt8.toInt32)), .val (.ref b50), .val (.int k52_0), .val (.int k54_0), .val (.int k56_0), .val (.int k58_0), .unset, .unset] [])) _
              refine XS.iload X50.here hx rfl (hb hby at_122) rfl ?_
              show Steps p.tables e below (T50.setTop (mkF m 124 #[.val (.int p0), .val (.int p1), .val (.int p2), .val (.int p3), .val (.int p4), .val (.int ((p4 &&& (2147483647 : Int32)) % (5 : Int32))), .val (.int (p0.toInt8.toInt32)), .val (.int (p1.toInt8.toInt32)), .val (.int (p2.toInt8.toInt32)), .val (.int (p3.toInt8.toInt32)), .val (.ref b50), .val (.int k52_0), .val (.int k54_0), .val (.int k56_0), .val (.int k58_0), .unset, .unset] [(.int ((p4 &&& (2147483647 : Int32)) % (5 : Int32)))])) _
              refine XS.iconst X50.here hx rfl (hb hby at_124) ?_
              show Steps p.tables e below (T50.setTop (mkF m 125 #[.val (.int p0), .val (.int p1), .val (.int p2), .val (.int p3), .val (.int p4), .val (.int ((p4 &&& (2147483647 : Int32)) % (5 : Int32))), .val (.int (p0.toInt8.toInt32)), .val (.int (p1.toInt8.toInt32)), .val (.int (p2.toInt8.toInt32)), .val (.int (p3.toInt8.toInt32)), .val (.ref b50), .val (.int k52_0), .val (.int k54_0), .val (.int k56_0), .val (.int k58_0), .unset, .unset] [(.int (3 : Int32)), (.int ((p4 &&& (2147483647 : Int32)) % (5 : Int32)))])) _
              refine XS.icmpYes X50.here hx rfl (pc0 := 125) (pc' := 133) rfl (hb hby at_125) rfl (XT.ii_lt_t (by rw [hlen]; decide)) (by decide) (by decide) ?_
              show Steps p.tables e below (T50.setTop (mkF m 133 #[.val (.int p0), .val (.int p1), .val (.int p2), .val (.int p3), .val (.int p4), .val (.int ((p4 &&& (2147483647 : Int32)) % (5 : Int32))), .val (.int (p0.toInt8.toInt32)), .val (.int (p1.toInt8.toInt32)), .val (.int (p2.toInt8.toInt32)), .val (.int (p3.toInt8.toInt32)), .val (.ref b50), .val (.int k52_0), .val (.int k54_0), .val (.int k56_0), .val (.int k58_0), .unset, .unset] [])) _
              refine XS.iload X50.here hx rfl (hb hby at_133) rfl ?_
              show Steps p.tables e below (T50.setTop (mkF m 135 #[.val (.int p0), .val (.int p1), .val (.int p2), .val (.int p3), .val (.int p4), .val (.int ((p4 &&& (2147483647 : Int32)) % (5 : Int32))), .val (.int (p0.toInt8.toInt32)), .val (.int (p1.toInt8.toInt32)), .val (.int (p2.toInt8.toInt32)), .val (.int (p3.toInt8.toInt32)), .val (.ref b50), .val (.int k52_0), .val (.int k54_0), .val (.int k56_0), .val (.int k58_0), .unset, .unset] [(.int ((p4 &&& (2147483647 : Int32)) % (5 : Int32)))])) _
              refine XS.iconst X50.here hx rfl (hb hby at_135) ?_
              show Steps p.tables e below (T50.setTop (mkF m 136 #[.val (.int p0), .val (.int p1), .val (.int p2), .val (.int p3), .val (.int p4), .val (.int ((p4 &&& (2147483647 : Int32)) % (5 : Int32))), .val (.int (p0.toInt8.toInt32)), .val (.int (p1.toInt8.toInt32)), .val (.int (p2.toInt8.toInt32)), .val (.int (p3.toInt8.toInt32)), .val (.ref b50), .val (.int k52_0), .val (.int k54_0), .val (.int k56_0), .val (.int k58_0), .unset, .unset] [(.int (4 : Int32)), (.int ((p4 &&& (2147483647 : Int32)) % (5 : Int32)))])) _
              refine XS.icmpYes X50.here hx rfl (pc0 := 136) (pc' := 144) rfl (hb hby at_136) rfl (XT.ii_lt_t (by rw [hlen]; decide)) (by decide) (by decide) ?_
              show Steps p.tables e below (T50.setTop (mkF m 144 #[.val (.int p0), .val (.int p1), .val (.int p2), .val (.int p3), .val (.int p4), .val (.int ((p4 &&& (2147483647 : Int32)) % (5 : Int32))), .val (.int (p0.toInt8.toInt32)), .val (.int (p1.toInt8.toInt32)), .val (.int (p2.toInt8.toInt32)), .val (.int (p3.toInt8.toInt32)), .val (.ref b50), .val (.int k52_0), .val (.int k54_0), .val (.int k56_0), .val (.int k58_0), .unset, .unset] [])) _
              refine XS.iconst X50.here hx rfl (hb hby at_144) ?_
              show Steps p.tables e below (T50.setTop (mkF m 145 #[.val (.int p0), .val (.int p1), .val (.int p2), .val (.int p3), .val (.int p4), .val (.int ((p4 &&& (2147483647 : Int32)) % (5 : Int32))), .val (.int (p0.toInt8.toInt32)), .val (.int (p1.toInt8.toInt32)), .val (.int (p2.toInt8.toInt32)), .val (.int (p3.toInt8.toInt32)), .val (.ref b50), .val (.int k52_0), .val (.int k54_0), .val (.int k56_0), .val (.int k58_0), .unset, .unset] [(.int (1 : Int32))])) _
              refine XS.goto X50.here hx rfl (pc0 := 145) (pc' := 149) rfl (hb hby at_145) (by decide) (by decide) ?_
              show Steps p.tables e below (T50.setTop (mkF m 149 #[.val (.int p0), .val (.int p1), .val (.int p2), .val (.int p3), .val (.int p4), .val (.int ((p4 &&& (2147483647 : Int32)) % (5 : Int32))), .val (.int (p0.toInt8.toInt32)), .val (.int (p1.toInt8.toInt32)), .val (.int (p2.toInt8.toInt32)), .val (.int (p3.toInt8.toInt32)), .val (.ref b50), .val (.int k52_0), .val (.int k54_0), .val (.int k56_0), .val (.int k58_0), .unset, .unset] [(.int (1 : Int32))])) _
              refine XS.istore X50.here hx rfl (hb hby at_149) rfl (l' := #[.val (.int p0), .val (.int p1), .val (.int p2), .val (.int p3), .val (.int p4), .val (.int ((p4 &&& (2147483647 : Int32)) % (5 : Int32))), .val (.int (p0.toInt8.toInt32)), .val (.int (p1.toInt8.toInt32)), .val (.int (p2.toInt8.toInt32)), .val (.int (p3.toInt8.toInt32)), .val (.ref b50), .val (.int k52_0), .val (.int k54_0), .val (.int k56_0), .val (.int k58_0), .val (.int (1 : Int32)), .unset]) rfl ?_
              show Steps p.tables e below (T50.setTop (mkF m 151 #[.val (.int p0), .val (.int p1), .val (.int p2), .val (.int p3), .val (.int p4), .val (.int ((p4 &&& (2147483647 : Int32)) % (5 : Int32))), .val (.int (p0.toInt8.toInt32)), .val (.int (p1.toInt8.toInt32)), .val (.int (p2.toInt8.toInt32)), .val (.int (p3.toInt8.toInt32)), .val (.ref b50), .val (.int k52_0), .val (.int k54_0), .val (.int k56_0), .val (.int k58_0), .val (.int (1 : Int32)), .unset] [])) _
              refine XS.aload X50.here hx rfl (hb hby at_151) rfl rfl ?_
              exact kt
            obtain ⟨_, _, ⟨T60, L60, k60, n60⟩, -, X60, ⟨Lc60, hQ60, l60, y60, z60⟩, st60⟩ := Jvm.LawKit.callS X50 hx (y := (⟨"com/example/cytobridge/cytobridge/profile/CharacterSet", "isAscii", "([B)Z"⟩ : MethodName)) hown (mvT hZ (hw _ (List.mem_of_getElem? (i := 6) rfl))) (mvT hZ (hw _ (List.mem_of_getElem? (i := 7) rfl))) (mvT hZ (hw _ (List.mem_of_getElem? (i := 8) rfl))) (mvT hZ (hw _ (List.mem_of_getElem? (i := 9) rfl))) (by decide) (backOf (W := 0) (rm2 l Z a0 hw [] b50 [] (0 : Int32) ka50 h50 n0 Z0_51 B50_0 ⟨rfl, Nat.le_of_ble_eq_true rfl⟩) hZ (hw _ (List.mem_of_getElem? (i := 9) rfl)) (hw _ (List.mem_of_getElem? (i := 8) rfl)) (by decide) (by decide)) (g := (mkF m 153 #[.val (.int p0), .val (.int p1), .val (.int p2), .val (.int p3), .val (.int p4), .val (.int ((p4 &&& (2147483647 : Int32)) % (5 : Int32))), .val (.int (p0.toInt8.toInt32)), .val (.int (p1.toInt8.toInt32)), .val (.int (p2.toInt8.toInt32)), .val (.int (p3.toInt8.toInt32)), .val (.ref b50), .val (.int k52_0), .val (.int k54_0), .val (.int k56_0), .val (.int k58_0), .val (.int (1 : Int32)), .unset] [(.ref b50)])) rfl (by rw [hml]; rfl) (argsL := [(.ref b50)]) (rest := []) (lenOf pd_1 rfl) rfl (by show 2 * 0 + _ ≤ _; exact Nat.le_of_eq rfl) (hb hby at_153) (fun _ _ => ⟨rfl, e50, (by decide : 1 + 0 ≤ _), (by decide : 0 + 0 ≤ _)⟩)
            dsimp only [Pt.U, Pt.locs, Pt.cells, Pt.slots] at X60 l60 y60 z60 st60 hQ60
            subst l60 y60 z60
            obtain ⟨rfl, Nq60, e60⟩ := hQ60
            have N60 := Fr.app N50 Nq60
            refine Got.step st60 ?_
            show Got p e below s _ _ _ _ T60 (mkF m 156 #[.val (.int p0), .val (.int p1), .val (.int p2), .val (.int p3), .val (.int p4), .val (.int ((p4 &&& (2147483647 : Int32)) % (5 : Int32))), .val (.int (p0.toInt8.toInt32)), .val (.int (p1.toInt8.toInt32)), .val (.int (p2.toInt8.toInt32)), .val (.int (p3.toInt8.toInt32)), .val (.ref b50), .val (.int k52_0), .val (.int k54_0), .val (.int k56_0), .val (.int k58_0), .val (.int (1 : Int32)), .unset] [(.int (asc []))])
            refine Got.step (T' := T60) (g' := (mkF m 170 #[.val (.int p0), .val (.int p1), .val (.int p2), .val (.int p3), .val (.int p4), .val (.int ((p4 &&& (2147483647 : Int32)) % (5 : Int32))), .val (.int (p0.toInt8.toInt32)), .val (.int (p1.toInt8.toInt32)), .val (.int (p2.toInt8.toInt32)), .val (.int (p3.toInt8.toInt32)), .val (.ref b50), .val (.int k52_0), .val (.int k54_0), .val (.int k56_0), .val (.int k58_0), .val (.int (1 : Int32)), .val (.int (asc []))] [(.int (1 : Int32))])) (fun tq kt => ?_) ?_
            · show Steps p.tables e below (T60.setTop (mkF m 156 #[.val (.int p0), .val (.int p1), .val (.int p2), .val (.int p3), .val (.int p4), .val (.int ((p4 &&& (2147483647 : Int32)) % (5 : Int32))), .val (.int (p0.toInt8.toInt32)), .val (.int (p1.toInt8.toInt32)), .val (.int (p2.toInt8.toInt32)), .val (.int (p3.toInt8.toInt32)), .val (.ref b50), .val (.int k52_0), .val (.int k54_0), .val (.int k56_0), .val (.int k58_0), .val (.int (1 : Int32)), .unset] [(.int (asc []))])) _
              refine XS.istore X60.here hx rfl (hb hby at_156) rfl (l' := #[.val (.int p0), .val (.int p1), .val (.int p2), .val (.int p3), .val (.int p4), .val (.int ((p4 &&& (2147483647 : Int32)) % (5 : Int32))), .val (.int (p0.toInt8.toInt32)), .val (.int (p1.toInt8.toInt32)), .val (.int (p2.toInt8.toInt32)), .val (.int (p3.toInt8.toInt32)), .val (.ref b50), .val (.int k52_0), .val (.int k54_0), .val (.int k56_0), .val (.int k58_0), .val (.int (1 : Int32)), .val (.int (asc []))]) rfl ?_
              show Steps p.tables e below (T60.setTop (mkF m 158 #[.val (.int p0), .val (.int p1), .val (.int p2), .val (.int p3), .val (.int p4), .val (.int ((p4 &&& (2147483647 : Int32)) % (5 : Int32))), .val (.int (p0.toInt8.toInt32)), .val (.int (p1.toInt8.toInt32)), .val (.int (p2.toInt8.toInt32)), .val (.int (p3.toInt8.toInt32)), .val (.ref b50), .val (.int k52_0), .val (.int k54_0), .val (.int k56_0), .val (.int k58_0), .val (.int (1 : Int32)), .val (.int (asc []))] [])) _
              refine XS.iload X60.here hx rfl (hb hby at_158) rfl ?_
              show Steps p.tables e below (T60.setTop (mkF m 160 #[.val (.int p0), .val (.int p1), .val (.int p2), .val (.int p3), .val (.int p4), .val (.int ((p4 &&& (2147483647 : Int32)) % (5 : Int32))), .val (.int (p0.toInt8.toInt32)), .val (.int (p1.toInt8.toInt32)), .val (.int (p2.toInt8.toInt32)), .val (.int (p3.toInt8.toInt32)), .val (.ref b50), .val (.int k52_0), .val (.int k54_0), .val (.int k56_0), .val (.int k58_0), .val (.int (1 : Int32)), .val (.int (asc []))] [(.int (asc []))])) _
              refine XS.iload X60.here hx rfl (hb hby at_160) rfl ?_
              show Steps p.tables e below (T60.setTop (mkF m 162 #[.val (.int p0), .val (.int p1), .val (.int p2), .val (.int p3), .val (.int p4), .val (.int ((p4 &&& (2147483647 : Int32)) % (5 : Int32))), .val (.int (p0.toInt8.toInt32)), .val (.int (p1.toInt8.toInt32)), .val (.int (p2.toInt8.toInt32)), .val (.int (p3.toInt8.toInt32)), .val (.ref b50), .val (.int k52_0), .val (.int k54_0), .val (.int k56_0), .val (.int k58_0), .val (.int (1 : Int32)), .val (.int (asc []))] [(.int (1 : Int32)), (.int (asc []))])) _
              refine XS.icmpNo X60.here hx rfl (hb hby at_162) rfl (XT.ii_ne_f (own_fin0 p0 p1 p2 p3 hlen hk52_0 hk54_0 hk56_0 hk58_0)) ?_
              show Steps p.tables e below (T60.setTop (mkF m 165 #[.val (.int p0), .val (.int p1), .val (.int p2), .val (.int p3), .val (.int p4), .val (.int ((p4 &&& (2147483647 : Int32)) % (5 : Int32))), .val (.int (p0.toInt8.toInt32)), .val (.int (p1.toInt8.toInt32)), .val (.int (p2.toInt8.toInt32)), .val (.int (p3.toInt8.toInt32)), .val (.ref b50), .val (.int k52_0), .val (.int k54_0), .val (.int k56_0), .val (.int k58_0), .val (.int (1 : Int32)), .val (.int (asc []))] [])) _
              refine XS.iconst X60.here hx rfl (hb hby at_165) ?_
              show Steps p.tables e below (T60.setTop (mkF m 166 #[.val (.int p0), .val (.int p1), .val (.int p2), .val (.int p3), .val (.int p4), .val (.int ((p4 &&& (2147483647 : Int32)) % (5 : Int32))), .val (.int (p0.toInt8.toInt32)), .val (.int (p1.toInt8.toInt32)), .val (.int (p2.toInt8.toInt32)), .val (.int (p3.toInt8.toInt32)), .val (.ref b50), .val (.int k52_0), .val (.int k54_0), .val (.int k56_0), .val (.int k58_0), .val (.int (1 : Int32)), .val (.int (asc []))] [(.int (1 : Int32))])) _
              refine XS.goto X60.here hx rfl (pc0 := 166) (pc' := 170) rfl (hb hby at_166) (by decide) (by decide) ?_
              exact kt
            exact Got.retN (y := (1 : Int32)) (t := .boolean) X60 hx Bd.returns (by simp) hlk (hb hby at_170) (by decide) N60 (by decide) (by decide)
          by_cases hc59 : ((p3 &&& (128 : Int32)) = 0)
          · refine Got.step (T' := T50) (g' := (mkF m 98 #[.val (.int p0), .val (.int p1), .val (.int p2), .val (.int p3), .val (.int p4), .val (.int ((p4 &&& (2147483647 : Int32)) % (5 : Int32))), .val (.int (p0.toInt8.toInt32)), .val (.int (p1.toInt8.toInt32)), .val (.int (p2.toInt8.toInt32)), .val (.int (p3.toInt8.toInt32)), .val (.ref b50), .val (.int k52_0), .val (.int k54_0), .val (.int k56_0), .unset, .unset, .unset] [(.int (1 : Int32))])) (fun tq kt => ?_) ?_
            · show Steps p.tables e below (T50.setTop (mkF m 90 #[.val (.int p0), .val (.int p1), .val (.int p2), .val (.int p3), .val (.int p4), .val (.int ((p4 &&& (2147483647 : Int32)) % (5 : Int32))), .val (.int (p0.toInt8.toInt32)), .val (.int (p1.toInt8.toInt32)), .val (.int (p2.toInt8.toInt32)), .val (.int (p3.toInt8.toInt32)), .val (.ref b50), .val (.int k52_0), .val (.int k54_0), .val (.int k56_0), .unset, .unset, .unset] [(.int (p3 &&& (128 : Int32)))])) _
              refine XS.ifNo X50.here hx rfl (hb hby at_90) rfl (XT.i0_ne_f hc59) ?_
              show Steps p.tables e below (T50.setTop (mkF m 93 #[.val (.int p0), .val (.int p1), .val (.int p2), .val (.int p3), .val (.int p4), .val (.int ((p4 &&& (2147483647 : Int32)) % (5 : Int32))), .val (.int (p0.toInt8.toInt32)), .val (.int (p1.toInt8.toInt32)), .val (.int (p2.toInt8.toInt32)), .val (.int (p3.toInt8.toInt32)), .val (.ref b50), .val (.int k52_0), .val (.int k54_0), .val (.int k56_0), .unset, .unset, .unset] [])) _
              refine XS.iconst X50.here hx rfl (hb hby at_93) ?_
              show Steps p.tables e below (T50.setTop (mkF m 94 #[.val (.int p0), .val (.int p1), .val (.int p2), .val (.int p3), .val (.int p4), .val (.int ((p4 &&& (2147483647 : Int32)) % (5 : Int32))), .val (.int (p0.toInt8.toInt32)), .val (.int (p1.toInt8.toInt32)), .val (.int (p2.toInt8.toInt32)), .val (.int (p3.toInt8.toInt32)), .val (.ref b50), .val (.int k52_0), .val (.int k54_0), .val (.int k56_0), .unset, .unset, .unset] [(.int (1 : Int32))])) _
              refine XS.goto X50.here hx rfl (pc0 := 94) (pc' := 98) rfl (hb hby at_94) (by decide) (by decide) ?_
              exact kt
            exact J58 (1 : Int32) (if_pos hc59).symm
          · refine Got.step (T' := T50) (g' := (mkF m 98 #[.val (.int p0), .val (.int p1), .val (.int p2), .val (.int p3), .val (.int p4), .val (.int ((p4 &&& (2147483647 : Int32)) % (5 : Int32))), .val (.int (p0.toInt8.toInt32)), .val (.int (p1.toInt8.toInt32)), .val (.int (p2.toInt8.toInt32)), .val (.int (p3.toInt8.toInt32)), .val (.ref b50), .val (.int k52_0), .val (.int k54_0), .val (.int k56_0), .unset, .unset, .unset] [(.int (0 : Int32))])) (fun tq kt => ?_) ?_
            · show Steps p.tables e below (T50.setTop (mkF m 90 #[.val (.int p0), .val (.int p1), .val (.int p2), .val (.int p3), .val (.int p4), .val (.int ((p4 &&& (2147483647 : Int32)) % (5 : Int32))), .val (.int (p0.toInt8.toInt32)), .val (.int (p1.toInt8.toInt32)), .val (.int (p2.toInt8.toInt32)), .val (.int (p3.toInt8.toInt32)), .val (.ref b50), .val (.int k52_0), .val (.int k54_0), .val (.int k56_0), .unset, .unset, .unset] [(.int (p3 &&& (128 : Int32)))])) _
              refine XS.ifYes X50.here hx rfl (pc0 := 90) (pc' := 97) rfl (hb hby at_90) rfl (XT.i0_ne_t hc59) (by decide) (by decide) ?_
              show Steps p.tables e below (T50.setTop (mkF m 97 #[.val (.int p0), .val (.int p1), .val (.int p2), .val (.int p3), .val (.int p4), .val (.int ((p4 &&& (2147483647 : Int32)) % (5 : Int32))), .val (.int (p0.toInt8.toInt32)), .val (.int (p1.toInt8.toInt32)), .val (.int (p2.toInt8.toInt32)), .val (.int (p3.toInt8.toInt32)), .val (.ref b50), .val (.int k52_0), .val (.int k54_0), .val (.int k56_0), .unset, .unset, .unset] [])) _
              refine XS.iconst X50.here hx rfl (hb hby at_97) ?_
              exact kt
            exact J58 (0 : Int32) (if_neg hc59).symm
        by_cases hc57 : ((p2 &&& (128 : Int32)) = 0)
        · refine Got.step (T' := T50) (g' := (mkF m 83 #[.val (.int p0), .val (.int p1), .val (.int p2), .val (.int p3), .val (.int p4), .val (.int ((p4 &&& (2147483647 : Int32)) % (5 : Int32))), .val (.int (p0.toInt8.toInt32)), .val (.int (p1.toInt8.toInt32)), .val (.int (p2.toInt8.toInt32)), .val (.int (p3.toInt8.toInt32)), .val (.ref b50), .val (.int k52_0), .val (.int k54_0), .unset, .unset, .unset, .unset] [(.int (1 : Int32))])) (fun tq kt => ?_) ?_
          · show Steps p.tables e below (T50.setTop (mkF m 75 #[.val (.int p0), .val (.int p1), .val (.int p2), .val (.int p3), .val (.int p4), .val (.int ((p4 &&& (2147483647 : Int32)) % (5 : Int32))), .val (.int (p0.toInt8.toInt32)), .val (.int (p1.toInt8.toInt32)), .val (.int (p2.toInt8.toInt32)), .val (.int (p3.toInt8.toInt32)), .val (.ref b50), .val (.int k52_0), .val (.int k54_0), .unset, .unset, .unset, .unset] [(.int (p2 &&& (128 : Int32)))])) _
            refine XS.ifNo X50.here hx rfl (hb hby at_75) rfl (XT.i0_ne_f hc57) ?_
            show Steps p.tables e below (T50.setTop (mkF m 78 #[.val (.int p0), .val (.int p1), .val (.int p2), .val (.int p3), .val (.int p4), .val (.int ((p4 &&& (2147483647 : Int32)) % (5 : Int32))), .val (.int (p0.toInt8.toInt32)), .val (.int (p1.toInt8.toInt32)), .val (.int (p2.toInt8.toInt32)), .val (.int (p3.toInt8.toInt32)), .val (.ref b50), .val (.int k52_0), .val (.int k54_0), .unset, .unset, .unset, .unset] [])) _
            refine XS.iconst X50.here hx rfl (hb hby at_78) ?_
            show Steps p.tables e below (T50.setTop (mkF m 79 #[.val (.int p0), .val (.int p1), .val (.int p2), .val (.int p3), .val (.int p4), .val (.int ((p4 &&& (2147483647 : Int32)) % (5 : Int32))), .val (.int (p0.toInt8.toInt32)), .val (.int (p1.toInt8.toInt32)), .val (.int (p2.toInt8.toInt32)), .val (.int (p3.toInt8.toInt32)), .val (.ref b50), .val (.int k52_0), .val (.int k54_0), .unset, .unset, .unset, .unset] [(.int (1 : Int32))])) _
            refine XS.goto X50.here hx rfl (pc0 := 79) (pc' := 83) rfl (hb hby at_79) (by decide) (by decide) ?_
            exact kt
          exact J56 (1 : Int32) (if_pos hc57).symm
        · refine Got.step (T' := T50) (g' := (mkF m 83 #[.val (.int p0), .val (.int p1), .val (.int p2), .val (.int p3), .val (.int p4), .val (.int ((p4 &&& (2147483647 : Int32)) % (5 : Int32))), .val (.int (p0.toInt8.toInt32)), .val (.int (p1.toInt8.toInt32)), .val (.int (p2.toInt8.toInt32)), .val (.int (p3.toInt8.toInt32)), .val (.ref b50), .val (.int k52_0), .val (.int k54_0), .unset, .unset, .unset, .unset] [(.int (0 : Int32))])) (fun tq kt => ?_) ?_
          · show Steps p.tables e below (T50.setTop (mkF m 75 #[.val (.int p0), .val (.int p1), .val (.int p2), .val (.int p3), .val (.int p4), .val (.int ((p4 &&& (2147483647 : Int32)) % (5 : Int32))), .val (.int (p0.toInt8.toInt32)), .val (.int (p1.toInt8.toInt32)), .val (.int (p2.toInt8.toInt32)), .val (.int (p3.toInt8.toInt32)), .val (.ref b50), .val (.int k52_0), .val (.int k54_0), .unset, .unset, .unset, .unset] [(.int (p2 &&& (128 : Int32)))])) _
            refine XS.ifYes X50.here hx rfl (pc0 := 75) (pc' := 82) rfl (hb hby at_75) rfl (XT.i0_ne_t hc57) (by decide) (by decide) ?_
            show Steps p.tables e below (T50.setTop (mkF m 82 #[.val (.int p0), .val (.int p1), .val (.int p2), .val (.int p3), .val (.int p4), .val (.int ((p4 &&& (2147483647 : Int32)) % (5 : Int32))), .val (.int (p0.toInt8.toInt32)), .val (.int (p1.toInt8.toInt32)), .val (.int (p2.toInt8.toInt32)), .val (.int (p3.toInt8.toInt32)), .val (.ref b50), .val (.int k52_0), .val (.int k54_0), .unset, .unset, .unset, .unset] [])) _
            refine XS.iconst X50.here hx rfl (hb hby at_82) ?_
            exact kt
          exact J56 (0 : Int32) (if_neg hc57).symm
      by_cases hc55 : ((p1 &&& (128 : Int32)) = 0)
      · refine Got.step (T' := T50) (g' := (mkF m 68 #[.val (.int p0), .val (.int p1), .val (.int p2), .val (.int p3), .val (.int p4), .val (.int ((p4 &&& (2147483647 : Int32)) % (5 : Int32))), .val (.int (p0.toInt8.toInt32)), .val (.int (p1.toInt8.toInt32)), .val (.int (p2.toInt8.toInt32)), .val (.int (p3.toInt8.toInt32)), .val (.ref b50), .val (.int k52_0), .unset, .unset, .unset, .unset, .unset] [(.int (1 : Int32))])) (fun tq kt => ?_) ?_
        · show Steps p.tables e below (T50.setTop (mkF m 60 #[.val (.int p0), .val (.int p1), .val (.int p2), .val (.int p3), .val (.int p4), .val (.int ((p4 &&& (2147483647 : Int32)) % (5 : Int32))), .val (.int (p0.toInt8.toInt32)), .val (.int (p1.toInt8.toInt32)), .val (.int (p2.toInt8.toInt32)), .val (.int (p3.toInt8.toInt32)), .val (.ref b50), .val (.int k52_0), .unset, .unset, .unset, .unset, .unset] [(.int (p1 &&& (128 : Int32)))])) _
          refine XS.ifNo X50.here hx rfl (hb hby at_60) rfl (XT.i0_ne_f hc55) ?_
          show Steps p.tables e below (T50.setTop (mkF m 63 #[.val (.int p0), .val (.int p1), .val (.int p2), .val (.int p3), .val (.int p4), .val (.int ((p4 &&& (2147483647 : Int32)) % (5 : Int32))), .val (.int (p0.toInt8.toInt32)), .val (.int (p1.toInt8.toInt32)), .val (.int (p2.toInt8.toInt32)), .val (.int (p3.toInt8.toInt32)), .val (.ref b50), .val (.int k52_0), .unset, .unset, .unset, .unset, .unset] [])) _
          refine XS.iconst X50.here hx rfl (hb hby at_63) ?_
          show Steps p.tables e below (T50.setTop (mkF m 64 #[.val (.int p0), .val (.int p1), .val (.int p2), .val (.int p3), .val (.int p4), .val (.int ((p4 &&& (2147483647 : Int32)) % (5 : Int32))), .val (.int (p0.toInt8.toInt32)), .val (.int (p1.toInt8.toInt32)), .val (.int (p2.toInt8.toInt32)), .val (.int (p3.toInt8.toInt32)), .val (.ref b50), .val (.int k52_0), .unset, .unset, .unset, .unset, .unset] [(.int (1 : Int32))])) _
          refine XS.goto X50.here hx rfl (pc0 := 64) (pc' := 68) rfl (hb hby at_64) (by decide) (by decide) ?_
          exact kt
        exact J54 (1 : Int32) (if_pos hc55).symm
      · refine Got.step (T' := T50) (g' := (mkF m 68 #[.val (.int p0), .val (.int p1), .val (.int p2), .val (.int p3), .val (.int p4), .val (.int ((p4 &&& (2147483647 : Int32)) % (5 : Int32))), .val (.int (p0.toInt8.toInt32)), .val (.int (p1.toInt8.toInt32)), .val (.int (p2.toInt8.toInt32)), .val (.int (p3.toInt8.toInt32)), .val (.ref b50), .val (.int k52_0), .unset, .unset, .unset, .unset, .unset] [(.int (0 : Int32))])) (fun tq kt => ?_) ?_
        · show Steps p.tables e below (T50.setTop (mkF m 60 #[.val (.int p0), .val (.int p1), .val (.int p2), .val (.int p3), .val (.int p4), .val (.int ((p4 &&& (2147483647 : Int32)) % (5 : Int32))), .val (.int (p0.toInt8.toInt32)), .val (.int (p1.toInt8.toInt32)), .val (.int (p2.toInt8.toInt32)), .val (.int (p3.toInt8.toInt32)), .val (.ref b50), .val (.int k52_0), .unset, .unset, .unset, .unset, .unset] [(.int (p1 &&& (128 : Int32)))])) _
          refine XS.ifYes X50.here hx rfl (pc0 := 60) (pc' := 67) rfl (hb hby at_60) rfl (XT.i0_ne_t hc55) (by decide) (by decide) ?_
          show Steps p.tables e below (T50.setTop (mkF m 67 #[.val (.int p0), .val (.int p1), .val (.int p2), .val (.int p3), .val (.int p4), .val (.int ((p4 &&& (2147483647 : Int32)) % (5 : Int32))), .val (.int (p0.toInt8.toInt32)), .val (.int (p1.toInt8.toInt32)), .val (.int (p2.toInt8.toInt32)), .val (.int (p3.toInt8.toInt32)), .val (.ref b50), .val (.int k52_0), .unset, .unset, .unset, .unset, .unset] [])) _
          refine XS.iconst X50.here hx rfl (hb hby at_67) ?_
          exact kt
        exact J54 (0 : Int32) (if_neg hc55).symm
    by_cases hc53 : ((p0 &&& (128 : Int32)) = 0)
    · refine Got.step (T' := T50) (g' := (mkF m 53 #[.val (.int p0), .val (.int p1), .val (.int p2), .val (.int p3), .val (.int p4), .val (.int ((p4 &&& (2147483647 : Int32)) % (5 : Int32))), .val (.int (p0.toInt8.toInt32)), .val (.int (p1.toInt8.toInt32)), .val (.int (p2.toInt8.toInt32)), .val (.int (p3.toInt8.toInt32)), .val (.ref b50), .unset, .unset, .unset, .unset, .unset, .unset] [(.int (1 : Int32))])) (fun tq kt => ?_) ?_
      · show Steps p.tables e below (T50.setTop (mkF m 45 #[.val (.int p0), .val (.int p1), .val (.int p2), .val (.int p3), .val (.int p4), .val (.int ((p4 &&& (2147483647 : Int32)) % (5 : Int32))), .val (.int (p0.toInt8.toInt32)), .val (.int (p1.toInt8.toInt32)), .val (.int (p2.toInt8.toInt32)), .val (.int (p3.toInt8.toInt32)), .val (.ref b50), .unset, .unset, .unset, .unset, .unset, .unset] [(.int (p0 &&& (128 : Int32)))])) _
        refine XS.ifNo X50.here hx rfl (hb hby at_45) rfl (XT.i0_ne_f hc53) ?_
        show Steps p.tables e below (T50.setTop (mkF m 48 #[.val (.int p0), .val (.int p1), .val (.int p2), .val (.int p3), .val (.int p4), .val (.int ((p4 &&& (2147483647 : Int32)) % (5 : Int32))), .val (.int (p0.toInt8.toInt32)), .val (.int (p1.toInt8.toInt32)), .val (.int (p2.toInt8.toInt32)), .val (.int (p3.toInt8.toInt32)), .val (.ref b50), .unset, .unset, .unset, .unset, .unset, .unset] [])) _
        refine XS.iconst X50.here hx rfl (hb hby at_48) ?_
        show Steps p.tables e below (T50.setTop (mkF m 49 #[.val (.int p0), .val (.int p1), .val (.int p2), .val (.int p3), .val (.int p4), .val (.int ((p4 &&& (2147483647 : Int32)) % (5 : Int32))), .val (.int (p0.toInt8.toInt32)), .val (.int (p1.toInt8.toInt32)), .val (.int (p2.toInt8.toInt32)), .val (.int (p3.toInt8.toInt32)), .val (.ref b50), .unset, .unset, .unset, .unset, .unset, .unset] [(.int (1 : Int32))])) _
        refine XS.goto X50.here hx rfl (pc0 := 49) (pc' := 53) rfl (hb hby at_49) (by decide) (by decide) ?_
        exact kt
      exact J52 (1 : Int32) (if_pos hc53).symm
    · refine Got.step (T' := T50) (g' := (mkF m 53 #[.val (.int p0), .val (.int p1), .val (.int p2), .val (.int p3), .val (.int p4), .val (.int ((p4 &&& (2147483647 : Int32)) % (5 : Int32))), .val (.int (p0.toInt8.toInt32)), .val (.int (p1.toInt8.toInt32)), .val (.int (p2.toInt8.toInt32)), .val (.int (p3.toInt8.toInt32)), .val (.ref b50), .unset, .unset, .unset, .unset, .unset, .unset] [(.int (0 : Int32))])) (fun tq kt => ?_) ?_
      · show Steps p.tables e below (T50.setTop (mkF m 45 #[.val (.int p0), .val (.int p1), .val (.int p2), .val (.int p3), .val (.int p4), .val (.int ((p4 &&& (2147483647 : Int32)) % (5 : Int32))), .val (.int (p0.toInt8.toInt32)), .val (.int (p1.toInt8.toInt32)), .val (.int (p2.toInt8.toInt32)), .val (.int (p3.toInt8.toInt32)), .val (.ref b50), .unset, .unset, .unset, .unset, .unset, .unset] [(.int (p0 &&& (128 : Int32)))])) _
        refine XS.ifYes X50.here hx rfl (pc0 := 45) (pc' := 52) rfl (hb hby at_45) rfl (XT.i0_ne_t hc53) (by decide) (by decide) ?_
        show Steps p.tables e below (T50.setTop (mkF m 52 #[.val (.int p0), .val (.int p1), .val (.int p2), .val (.int p3), .val (.int p4), .val (.int ((p4 &&& (2147483647 : Int32)) % (5 : Int32))), .val (.int (p0.toInt8.toInt32)), .val (.int (p1.toInt8.toInt32)), .val (.int (p2.toInt8.toInt32)), .val (.int (p3.toInt8.toInt32)), .val (.ref b50), .unset, .unset, .unset, .unset, .unset, .unset] [])) _
        refine XS.iconst X50.here hx rfl (hb hby at_52) ?_
        exact kt
      exact J52 (0 : Int32) (if_neg hc53).symm
  · obtain ⟨_, _, ⟨T61, L61, k61, n61⟩, -, X61, ⟨Lc61, hQ61, l61, y61, z61⟩, st61⟩ := Jvm.LawKit.callS X0 hx (y := (⟨"com/example/cytobridge/cytobridge/profile/CharacterSetIsAsciiPinLaw", "build", "(IBBBB)[B"⟩ : MethodName)) hown (mvT hZ (hw _ (List.mem_of_getElem? (i := 1) rfl))) (mvT hZ (hw _ (List.mem_of_getElem? (i := 2) rfl))) (mvT hZ (hw _ (List.mem_of_getElem? (i := 3) rfl))) (mvT hZ (hw _ (List.mem_of_getElem? (i := 4) rfl))) (by decide) (backOf (W := 0) (rm1_1 l Z a0 hw [] ((p4 &&& (2147483647 : Int32)) % (5 : Int32)) (p0.toInt8.toInt32) (p1.toInt8.toInt32) (p2.toInt8.toInt32) (p3.toInt8.toInt32) h0 n0 Z0 hlen (narB _) (fits_nar_byte _) (narB _) (fits_nar_byte _) (narB _) (fits_nar_byte _) (narB _) (fits_nar_byte _)) hZ (hw _ (List.mem_of_getElem? (i := 4) rfl)) (hw _ (List.mem_of_getElem? (i := 3) rfl)) (by decide) (by decide)) (g := (mkF m 35 #[.val (.int p0), .val (.int p1), .val (.int p2), .val (.int p3), .val (.int p4), .val (.int ((p4 &&& (2147483647 : Int32)) % (5 : Int32))), .val (.int (p0.toInt8.toInt32)), .val (.int (p1.toInt8.toInt32)), .val (.int (p2.toInt8.toInt32)), .val (.int (p3.toInt8.toInt32)), .unset, .unset, .unset, .unset, .unset, .unset, .unset] [(.int (p3.toInt8.toInt32)), (.int (p2.toInt8.toInt32)), (.int (p1.toInt8.toInt32)), (.int (p0.toInt8.toInt32)), (.int ((p4 &&& (2147483647 : Int32)) % (5 : Int32)))])) rfl (by rw [hml]; rfl) (argsL := [(.int ((p4 &&& (2147483647 : Int32)) % (5 : Int32))), (.int (p0.toInt8.toInt32)), (.int (p1.toInt8.toInt32)), (.int (p2.toInt8.toInt32)), (.int (p3.toInt8.toInt32))]) (rest := []) (lenOf pd_0 rfl) rfl (by show 2 * 0 + _ ≤ _; exact Nat.le_of_eq rfl) (hb hby at_35) (fun _ _ => ⟨rfl, e0, (by decide : 0 + 1 ≤ _), (by decide : 0 + 1 ≤ _)⟩)
    dsimp only [Pt.U, Pt.locs, Pt.cells, Pt.slots] at X61 l61 y61 z61 st61 hQ61
    subst l61 y61 z61
    obtain ⟨b61, g61⟩ : ∃ z, z = h0.size := ⟨_, rfl⟩
    rw [← g61] at hQ61
    obtain ⟨h61, e61⟩ : ∃ z, T61.heap = z := ⟨_, rfl⟩
    rw [e61] at hQ61
    obtain ⟨rfl, Nq61, K61, ⟨ka61, B61_0⟩⟩ := hQ61
    have N61 := Fr.app N0 Nq61
    have gn_b61 : n0 ≤ b61 := by rw [g61]; exact Z0
    have Z0_62 : n0 ≤ h61.size := (Nat.le_trans Z0 K61.1)
    refine Got.step st61 ?_
    show Got p e below s _ _ _ _ T61 (mkF m 38 #[.val (.int p0), .val (.int p1), .val (.int p2), .val (.int p3), .val (.int p4), .val (.int ((p4 &&& (2147483647 : Int32)) % (5 : Int32))), .val (.int (p0.toInt8.toInt32)), .val (.int (p1.toInt8.toInt32)), .val (.int (p2.toInt8.toInt32)), .val (.int (p3.toInt8.toInt32)), .unset, .unset, .unset, .unset, .unset, .unset, .unset] [(.ref b61)])
    refine Got.step (T' := T61) (g' := (mkF m 45 #[.val (.int p0), .val (.int p1), .val (.int p2), .val (.int p3), .val (.int p4), .val (.int ((p4 &&& (2147483647 : Int32)) % (5 : Int32))), .val (.int (p0.toInt8.toInt32)), .val (.int (p1.toInt8.toInt32)), .val (.int (p2.toInt8.toInt32)), .val (.int (p3.toInt8.toInt32)), .val (.ref b61), .unset, .unset, .unset, .unset, .unset, .unset] [(.int (p0 &&& (128 : Int32)))])) (fun tq kt => ?_) ?_
    · show Steps p.tables e below (T61.setTop (mkF m 38 #[.val (.int p0), .val (.int p1), .val (.int p2), .val (.int p3), .val (.int p4), .val (.int ((p4 &&& (2147483647 : Int32)) % (5 : Int32))), .val (.int (p0.toInt8.toInt32)), .val (.int (p1.toInt8.toInt32)), .val (.int (p2.toInt8.toInt32)), .val (.int (p3.toInt8.toInt32)), .unset, .unset, .unset, .unset, .unset, .unset, .unset] [(.ref b61)])) _
      refine XS.astore X61.here hx rfl (hb hby at_38) rfl rfl (l' := #[.val (.int p0), .val (.int p1), .val (.int p2), .val (.int p3), .val (.int p4), .val (.int ((p4 &&& (2147483647 : Int32)) % (5 : Int32))), .val (.int (p0.toInt8.toInt32)), .val (.int (p1.toInt8.toInt32)), .val (.int (p2.toInt8.toInt32)), .val (.int (p3.toInt8.toInt32)), .val (.ref b61), .unset, .unset, .unset, .unset, .unset, .unset]) rfl ?_
      show Steps p.tables e below (T61.setTop (mkF m 40 #[.val (.int p0), .val (.int p1), .val (.int p2), .val (.int p3), .val (.int p4), .val (.int ((p4 &&& (2147483647 : Int32)) % (5 : Int32))), .val (.int (p0.toInt8.toInt32)), .val (.int (p1.toInt8.toInt32)), .val (.int (p2.toInt8.toInt32)), .val (.int (p3.toInt8.toInt32)), .val (.ref b61), .unset, .unset, .unset, .unset, .unset, .unset] [])) _
      refine XS.iloadN X61.here hx rfl (hb hby at_40) rfl ?_
      show Steps p.tables e below (T61.setTop (mkF m 41 #[.val (.int p0), .val (.int p1), .val (.int p2), .val (.int p3), .val (.int p4), .val (.int ((p4 &&& (2147483647 : Int32)) % (5 : Int32))), .val (.int (p0.toInt8.toInt32)), .val (.int (p1.toInt8.toInt32)), .val (.int (p2.toInt8.toInt32)), .val (.int (p3.toInt8.toInt32)), .val (.ref b61), .unset, .unset, .unset, .unset, .unset, .unset] [(.int p0)])) _
      refine XS.sipush X61.here hx rfl (hb hby at_41) ?_
      show Steps p.tables e below (T61.setTop (mkF m 44 #[.val (.int p0), .val (.int p1), .val (.int p2), .val (.int p3), .val (.int p4), .val (.int ((p4 &&& (2147483647 : Int32)) % (5 : Int32))), .val (.int (p0.toInt8.toInt32)), .val (.int (p1.toInt8.toInt32)), .val (.int (p2.toInt8.toInt32)), .val (.int (p3.toInt8.toInt32)), .val (.ref b61), .unset, .unset, .unset, .unset, .unset, .unset] [(.int (128 : Int32)), (.int p0)])) _
      refine XS.iand X61.here hx rfl (hb hby at_44) rfl ?_
      exact kt
    have J63 : ∀ (k63_0 : Int32), k63_0 = (if (p0 &&& (128 : Int32)) = 0 then (1 : Int32) else (0 : Int32)) → Got p e below s (fun _ L => Fr n0 L) room_1.cells room_1.slots (some (.int (1 : Int32))) T61 (mkF m 53 #[.val (.int p0), .val (.int p1), .val (.int p2), .val (.int p3), .val (.int p4), .val (.int ((p4 &&& (2147483647 : Int32)) % (5 : Int32))), .val (.int (p0.toInt8.toInt32)), .val (.int (p1.toInt8.toInt32)), .val (.int (p2.toInt8.toInt32)), .val (.int (p3.toInt8.toInt32)), .val (.ref b61), .unset, .unset, .unset, .unset, .unset, .unset] [(.int k63_0)]) := by
      intro k63_0 hk63_0
      refine Got.step (T' := T61) (g' := (mkF m 60 #[.val (.int p0), .val (.int p1), .val (.int p2), .val (.int p3), .val (.int p4), .val (.int ((p4 &&& (2147483647 : Int32)) % (5 : Int32))), .val (.int (p0.toInt8.toInt32)), .val (.int (p1.toInt8.toInt32)), .val (.int (p2.toInt8.toInt32)), .val (.int (p3.toInt8.toInt32)), .val (.ref b61), .val (.int k63_0), .unset, .unset, .unset, .unset, .unset] [(.int (p1 &&& (128 : Int32)))])) (fun tq kt => ?_) ?_
      · show Steps p.tables e below (T61.setTop (mkF m 53 #[.val (.int p0), .val (.int p1), .val (.int p2), .val (.int p3), .val (.int p4), .val (.int ((p4 &&& (2147483647 : Int32)) % (5 : Int32))), .val (.int (p0.toInt8.toInt32)), .val (.int (p1.toInt8.toInt32)), .val (.int (p2.toInt8.toInt32)), .val (.int (p3.toInt8.toInt32)), .val (.ref b61), .unset, .unset, .unset, .unset, .unset, .unset] [(.int k63_0)])) _
        refine XS.istore X61.here hx rfl (hb hby at_53) rfl (l' := #[.val (.int p0), .val (.int p1), .val (.int p2), .val (.int p3), .val (.int p4), .val (.int ((p4 &&& (2147483647 : Int32)) % (5 : Int32))), .val (.int (p0.toInt8.toInt32)), .val (.int (p1.toInt8.toInt32)), .val (.int (p2.toInt8.toInt32)), .val (.int (p3.toInt8.toInt32)), .val (.ref b61), .val (.int k63_0), .unset, .unset, .unset, .unset, .unset]) rfl ?_
        show Steps p.tables e below (T61.setTop (mkF m 55 #[.val (.int p0), .val (.int p1), .val (.int p2), .val (.int p3), .val (.int p4), .val (.int ((p4 &&& (2147483647 : Int32)) % (5 : Int32))), .val (.int (p0.toInt8.toInt32)), .val (.int (p1.toInt8.toInt32)), .val (.int (p2.toInt8.toInt32)), .val (.int (p3.toInt8.toInt32)), .val (.ref b61), .val (.int k63_0), .unset, .unset, .unset, .unset, .unset] [])) _
        refine XS.iloadN X61.here hx rfl (hb hby at_55) rfl ?_
        show Steps p.tables e below (T61.setTop (mkF m 56 #[.val (.int p0), .val (.int p1), .val (.int p2), .val (.int p3), .val (.int p4), .val (.int ((p4 &&& (2147483647 : Int32)) % (5 : Int32))), .val (.int (p0.toInt8.toInt32)), .val (.int (p1.toInt8.toInt32)), .val (.int (p2.toInt8.toInt32)), .val (.int (p3.toInt8.toInt32)), .val (.ref b61), .val (.int k63_0), .unset, .unset, .unset, .unset, .unset] [(.int p1)])) _
        refine XS.sipush X61.here hx rfl (hb hby at_56) ?_
        show Steps p.tables e below (T61.setTop (mkF m 59 #[.val (.int p0), .val (.int p1), .val (.int p2), .val (.int p3), .val (.int p4), .val (.int ((p4 &&& (2147483647 : Int32)) % (5 : Int32))), .val (.int (p0.toInt8.toInt32)), .val (.int (p1.toInt8.toInt32)), .val (.int (p2.toInt8.toInt32)), .val (.int (p3.toInt8.toInt32)), .val (.ref b61), .val (.int k63_0), .unset, .unset, .unset, .unset, .unset] [(.int (128 : Int32)), (.int p1)])) _
        refine XS.iand X61.here hx rfl (hb hby at_59) rfl ?_
        exact kt
      have J65 : ∀ (k65_0 : Int32), k65_0 = (if (p1 &&& (128 : Int32)) = 0 then (1 : Int32) else (0 : Int32)) → Got p e below s (fun _ L => Fr n0 L) room_1.cells room_1.slots (some (.int (1 : Int32))) T61 (mkF m 68 #[.val (.int p0), .val (.int p1), .val (.int p2), .val (.int p3), .val (.int p4), .val (.int ((p4 &&& (2147483647 : Int32)) % (5 : Int32))), .val (.int (p0.toInt8.toInt32)), .val (.int (p1.toInt8.toInt32)), .val (.int (p2.toInt8.toInt32)), .val (.int (p3.toInt8.toInt32)), .val (.ref b61), .val (.int k63_0), .unset, .unset, .unset, .unset, .unset] [(.int k65_0)]) := by
        intro k65_0 hk65_0
        refine Got.step (T' := T61) (g' := (mkF m 75 #[.val (.int p0), .val (.int p1), .val (.int p2), .val (.int p3), .val (.int p4), .val (.int ((p4 &&& (2147483647 : Int32)) % (5 : Int32))), .val (.int (p0.toInt8.toInt32)), .val (.int (p1.toInt8.toInt32)), .val (.int (p2.toInt8.toInt32)), .val (.int (p3.toInt8.toInt32)), .val (.ref b61), .val (.int k63_0), .val (.int k65_0), .unset, .unset, .unset, .unset] [(.int (p2 &&& (128 : Int32)))])) (fun tq kt => ?_) ?_
        · show Steps p.tables e below (T61.setTop (mkF m 68 #[.val (.int p0), .val (.int p1), .val (.int p2), .val (.int p3), .val (.int p4), .val (.int ((p4 &&& (2147483647 : Int32)) % (5 : Int32))), .val (.int (p0.toInt8.toInt32)), .val (.int (p1.toInt8.toInt32)), .val (.int (p2.toInt8.toInt32)), .val (.int (p3.toInt8.toInt32)), .val (.ref b61), .val (.int k63_0), .unset, .unset, .unset, .unset, .unset] [(.int k65_0)])) _
          refine XS.istore X61.here hx rfl (hb hby at_68) rfl (l' := #[.val (.int p0), .val (.int p1), .val (.int p2), .val (.int p3), .val (.int p4), .val (.int ((p4 &&& (2147483647 : Int32)) % (5 : Int32))), .val (.int (p0.toInt8.toInt32)), .val (.int (p1.toInt8.toInt32)), .val (.int (p2.toInt8.toInt32)), .val (.int (p3.toInt8.toInt32)), .val (.ref b61), .val (.int k63_0), .val (.int k65_0), .unset, .unset, .unset, .unset]) rfl ?_
          show Steps p.tables e below (T61.setTop (mkF m 70 #[.val (.int p0), .val (.int p1), .val (.int p2), .val (.int p3), .val (.int p4), .val (.int ((p4 &&& (2147483647 : Int32)) % (5 : Int32))), .val (.int (p0.toInt8.toInt32)), .val (.int (p1.toInt8.toInt32)), .val (.int (p2.toInt8.toInt32)), .val (.int (p3.toInt8.toInt32)), .val (.ref b61), .val (.int k63_0), .val (.int k65_0), .unset, .unset, .unset, .unset] [])) _
          refine XS.iloadN X61.here hx rfl (hb hby at_70) rfl ?_
          show Steps p.tables e below (T61.setTop (mkF m 71 #[.val (.int p0), .val (.int p1), .val (.int p2), .val (.int p3), .val (.int p4), .val (.int ((p4 &&& (2147483647 : Int32)) % (5 : Int32))), .val (.int (p0.toInt8.toInt32)), .val (.int (p1.toInt8.toInt32)), .val (.int (p2.toInt8.toInt32)), .val (.int (p3.toInt8.toInt32)), .val (.ref b61), .val (.int k63_0), .val (.int k65_0), .unset, .unset, .unset, .unset] [(.int p2)])) _
          refine XS.sipush X61.here hx rfl (hb hby at_71) ?_
          show Steps p.tables e below (T61.setTop (mkF m 74 #[.val (.int p0), .val (.int p1), .val (.int p2), .val (.int p3), .val (.int p4), .val (.int ((p4 &&& (2147483647 : Int32)) % (5 : Int32))), .val (.int (p0.toInt8.toInt32)), .val (.int (p1.toInt8.toInt32)), .val (.int (p2.toInt8.toInt32)), .val (.int (p3.toInt8.toInt32)), .val (.ref b61), .val (.int k63_0), .val (.int k65_0), .unset, .unset, .unset, .unset] [(.int (128 : Int32)), (.int p2)])) _
          refine XS.iand X61.here hx rfl (hb hby at_74) rfl ?_
          exact kt
        have J67 : ∀ (k67_0 : Int32), k67_0 = (if (p2 &&& (128 : Int32)) = 0 then (1 : Int32) else (0 : Int32)) → Got p e below s (fun _ L => Fr n0 L) room_1.cells room_1.slots (some (.int (1 : Int32))) T61 (mkF m 83 #[.val (.int p0), .val (.int p1), .val (.int p2), .val (.int p3), .val (.int p4), .val (.int ((p4 &&& (2147483647 : Int32)) % (5 : Int32))), .val (.int (p0.toInt8.toInt32)), .val (.int (p1.toInt8.toInt32)), .val (.int (p2.toInt8.toInt32)), .val (.int (p3.toInt8.toInt32)), .val (.ref b61), .val (.int k63_0), .val (.int k65_0), .unset, .unset, .unset, .unset] [(.int k67_0)]) := by
          intro k67_0 hk67_0
          refine Got.step (T' := T61) (g' := (mkF m 90 #[.val (.int p0), .val (.int p1), .val (.int p2), .val (.int p3), .val (.int p4), .val (.int ((p4 &&& (2147483647 : Int32)) % (5 : Int32))), .val (.int (p0.toInt8.toInt32)), .val (.int (p1.toInt8.toInt32)), .val (.int (p2.toInt8.toInt32)), .val (.int (p3.toInt8.toInt32)), .val (.ref b61), .val (.int k63_0), .val (.int k65_0), .val (.int k67_0), .unset, .unset, .unset] [(.int (p3 &&& (128 : Int32)))])) (fun tq kt => ?_) ?_
          · show Steps p.tables e below (T61.setTop (mkF m 83 #[.val (.int p0), .val (.int p1), .val (.int p2), .val (.int p3), .val (.int p4), .val (.int ((p4 &&& (2147483647 : Int32)) % (5 : Int32))), .val (.int (p0.toInt8.toInt32)), .val (.int (p1.toInt8.toInt32)), .val (.int (p2.toInt8.toInt32)), .val (.int (p3.toInt8.toInt32)), .val (.ref b61), .val (.int k63_0), .val (.int k65_0), .unset, .unset, .unset, .unset] [(.int k67_0)])) _
            refine XS.istore X61.here hx rfl (hb hby at_83) rfl (l' := #[.val (.int p0), .val (.int p1), .val (.int p2), .val (.int p3), .val (.int p4), .val (.int ((p4 &&& (2147483647 : Int32)) % (5 : Int32))), .val (.int (p0.toInt8.toInt32)), .val (.int (p1.toInt8.toInt32)), .val (.int (p2.toInt8.toInt32)), .val (.int (p3.toInt8.toInt32)), .val (.ref b61), .val (.int k63_0), .val (.int k65_0), .val (.int k67_0), .unset, .unset, .unset]) rfl ?_
            show Steps p.tables e below (T61.setTop (mkF m 85 #[.val (.int p0), .val (.int p1), .val (.int p2), .val (.int p3), .val (.int p4), .val (.int ((p4 &&& (2147483647 : Int32)) % (5 : Int32))), .val (.int (p0.toInt8.toInt32)), .val (.int (p1.toInt8.toInt32)), .val (.int (p2.toInt8.toInt32)), .val (.int (p3.toInt8.toInt32)), .val (.ref b61), .val (.int k63_0), .val (.int k65_0), .val (.int k67_0), .unset, .unset, .unset] [])) _
            refine XS.iloadN X61.here hx rfl (hb hby at_85) rfl ?_
            show Steps p.tables e below (T61.setTop (mkF m 86 #[.val (.int p0), .val (.int p1), .val (.int p2), .val (.int p3), .val (.int p4), .val (.int ((p4 &&& (2147483647 : Int32)) % (5 : Int32))), .val (.int (p0.toInt8.toInt32)), .val (.int (p1.toInt8.toInt32)), .val (.int (p2.toInt8.toInt32)), .val (.int (p3.toInt8.toInt32)), .val (.ref b61), .val (.int k63_0), .val (.int k65_0), .val (.int k67_0), .unset, .unset, .unset] [(.int p3)])) _
            refine XS.sipush X61.here hx rfl (hb hby at_86) ?_
            show Steps p.tables e below (T61.setTop (mkF m 89 #[.val (.int p0), .val (.int p1), .val (.int p2), .val (.int p3), .val (.int p4), .val (.int ((p4 &&& (2147483647 : Int32)) % (5 : Int32))), .val (.int (p0.toInt8.toInt32)), .val (.int (p1.toInt8.toInt32)), .val (.int (p2.toInt8.toInt32)), .val (.int (p3.toInt8.toInt32)), .val (.ref b61), .val (.int k63_0), .val (.int k65_0), .val (.int k67_0), .unset, .unset, .unset] [(.int (128 : Int32)), (.int p3)])) _
            refine XS.iand X61.here hx rfl (hb hby at_89) rfl ?_
            exact kt
          have J69 : ∀ (k69_0 : Int32), k69_0 = (if (p3 &&& (128 : Int32)) = 0 then (1 : Int32) else (0 : Int32)) → Got p e below s (fun _ L => Fr n0 L) room_1.cells room_1.slots (some (.int (1 : Int32))) T61 (mkF m 98 #[.val (.int p0), .val (.int p1), .val (.int p2), .val (.int p3), .val (.int p4), .val (.int ((p4 &&& (2147483647 : Int32)) % (5 : Int32))), .val (.int (p0.toInt8.toInt32)), .val (.int (p1.toInt8.toInt32)), .val (.int (p2.toInt8.toInt32)), .val (.int (p3.toInt8.toInt32)), .val (.ref b61), .val (.int k63_0), .val (.int k65_0), .val (.int k67_0), .unset, .unset, .unset] [(.int k69_0)]) := by
            intro k69_0 hk69_0
            refine Got.step (T' := T61) (g' := (mkF m 108 #[.val (.int p0), .val (.int p1), .val (.int p2), .val (.int p3), .val (.int p4), .val (.int ((p4 &&& (2147483647 : Int32)) % (5 : Int32))), .val (.int (p0.toInt8.toInt32)), .val (.int (p1.toInt8.toInt32)), .val (.int (p2.toInt8.toInt32)), .val (.int (p3.toInt8.toInt32)), .val (.ref b61), .val (.int k63_0), .val (.int k65_0), .val (.int k67_0), .val (.int k69_0), .unset, .unset] [(.int k63_0)])) (fun tq kt => ?_) ?_
            · show Steps p.tables e below (T61.setTop (mkF m 98 #[.val (.int p0), .val (.int p1), .val (.int p2), .val (.int p3), .val (.int p4), .val (.int ((p4 &&& (2147483647 : Int32)) % (5 : Int32))), .val (.int (p0.toInt8.toInt32)), .val (.int (p1.toInt8.toInt32)), .val (.int (p2.toInt8.toInt32)), .val (.int (p3.toInt8.toInt32)), .val (.ref b61), .val (.int k63_0), .val (.int k65_0), .val (.int k67_0), .unset, .unset, .unset] [(.int k69_0)])) _
              refine XS.istore X61.here hx rfl (hb hby at_98) rfl (l' := #[.val (.int p0), .val (.int p1), .val (.int p2), .val (.int p3), .val (.int p4), .val (.int ((p4 &&& (2147483647 : Int32)) % (5 : Int32))), .val (.int (p0.toInt8.toInt32)), .val (.int (p1.toInt8.toInt32)), .val (.int (p2.toInt8.toInt32)), .val (.int (p3.toInt8.toInt32)), .val (.ref b61), .val (.int k63_0), .val (.int k65_0), .val (.int k67_0), .val (.int k69_0), .unset, .unset]) rfl ?_
              show Steps p.tables e below (T61.setTop (mkF m 100 #[.val (.int p0), .val (.int p1), .val (.int p2), .val (.int p3), .val (.int p4), .val (.int ((p4 &&& (2147483647 : Int32)) % (5 : Int32))), .val (.int (p0.toInt8.toInt32)), .val (.int (p1.toInt8.toInt32)), .val (.int (p2.toInt8.toInt32)), .val (.int (p3.toInt8.toInt32)), .val (.ref b61), .val (.int k63_0), .val (.int k65_0), .val (.int k67_0), .val (.int k69_0), .unset, .unset] [])) _
              refine XS.iload X61.here hx rfl (hb hby at_100) rfl ?_
              show Steps p.tables e below (T61.setTop (mkF m 102 #[.val (.int p0), .val (.int p1), .val (.int p2), .val (.int p3), .val (.int p4), .val (.int ((p4 &&& (2147483647 : Int32)) % (5 : Int32))), .val (.int (p0.toInt8.toInt32)), .val (.int (p1.toInt8.toInt32)), .val (.int (p2.toInt8.toInt32)), .val (.int (p3.toInt8.toInt32)), .val (.ref b61), .val (.int k63_0), .val (.int k65_0), .val (.int k67_0), .val (.int k69_0), .unset, .unset] [(.int ((p4 &&& (2147483647 : Int32)) % (5 : Int32)))])) _
              refine XS.iconst X61.here hx rfl (hb hby at_102) ?_
              show Steps p.tables e below (T61.setTop (mkF m 103 #[.val (.int p0), .val (.int p1), .val (.int p2), .val (.int p3), .val (.int p4), .val (.int ((p4 &&& (2147483647 : Int32)) % (5 : Int32))), .val (.int (p0.toInt8.toInt32)), .val (.int (p1.toInt8.toInt32)), .val (.int (p2.toInt8.toInt32)), .val (.int (p3.toInt8.toInt32)), .val (.ref b61), .val (.int k63_0), .val (.int k65_0), .val (.int k67_0), .val (.int k69_0), .unset, .unset] [(.int (1 : Int32)), (.int ((p4 &&& (2147483647 : Int32)) % (5 : Int32)))])) _
              refine XS.icmpNo X61.here hx rfl (hb hby at_103) rfl (XT.ii_lt_f (by rw [hlen]; decide)) ?_
              show Steps p.tables e below (T61.setTop (mkF m 106 #[.val (.int p0), .val (.int p1), .val (.int p2), .val (.int p3), .val (.int p4), .val (.int ((p4 &&& (2147483647 : Int32)) % (5 : Int32))), .val (.int (p0.toInt8.toInt32)), .val (.int (p1.toInt8.toInt32)), .val (.int (p2.toInt8.toInt32)), .val (.int (p3.toInt8.toInt32)), .val (.ref b61), .val (.int k63_0), .val (.int k65_0), .val (.int k67_0), .val (.int k69_0), .unset, .unset] [])) _
              refine XS.iload X61.here hx rfl (hb hby at_106) rfl ?_
              exact kt
            have J71 : ∀ (k71_0 : Int32), k71_0 = (if k63_0 = 0 then (0 : Int32) else (1 : Int32)) → Got p e below s (fun _ L => Fr n0 L) room_1.cells room_1.slots (some (.int (1 : Int32))) T61 (mkF m 149 #[.val (.int p0), .val (.int p1), .val (.int p2), .val (.int p3), .val (.int p4), .val (.int ((p4 &&& (2147483647 : Int32)) % (5 : Int32))), .val (.int (p0.toInt8.toInt32)), .val (.int (p1.toInt8.toInt32)), .val (.int (p2.toInt8.toInt32)), .val (.int (p3.toInt8.toInt32)), .val (.ref b61), .val (.int k63_0), .val (.int k65_0), .val (.int k67_0), .val (.int k69_0), .unset, .unset] [(.int k71_0)]) := by
              intro k71_0 hk71_0
              refine Got.step (T' := T61) (g' := (mkF m 153 #[.val (.int p0), .val (.int p1), .val (.int p2), .val (.int p3), .val (.int p4), .val (.int ((p4 &&& (2147483647 : Int32)) % (5 : Int32))), .val (.int (p0.toInt8.toInt32)), .val (.int (p1.toInt8.toInt32)), .val (.int (p2.toInt8.toInt32)), .val (.int (p3.toInt8.toInt32)), .val (.ref b61), .val (.int k63_0), .val (.int k65_0), .val (.int k67_0), .val (.int k69_0), .val (.int k71_0), .unset] [(.ref b61)])) (fun tq kt => ?_) ?_
              · show Steps p.tables e below (T61.setTop (mkF m 149 #[.val (.int p0), .val (.int p1), .val (.int p2), .val (.int p3), .val (.int p4), .val (.int ((p4 &&& (2147483647 : Int32)) % (5 : Int32))), .val (.int (p0.toInt8.toInt32)), .val (.int (p1.toInt8.toInt32)), .val (.int (p2.toInt8.toInt32)), .val (.int (p3.toInt8.toInt32)), .val (.ref b61), .val (.int k63_0), .val (.int k65_0), .val (.int k67_0), .val (.int k69_0), .unset, .unset] [(.int k71_0)])) _
                refine XS.istore X61.here hx rfl (hb hby at_149) rfl (l' := #[.val (.int p0), .val (.int p1), .val (.int p2), .val (.int p3), .val (.int p4), .val (.int ((p4 &&& (2147483647 : Int32)) % (5 : Int32))), .val (.int (p0.toInt8.toInt32)), .val (.int (p1.toInt8.toInt32)), .val (.int (p2.toInt8.toInt32)), .val (.int (p3.toInt8.toInt32)), .val (.ref b61), .val (.int k63_0), .val (.int k65_0), .val (.int k67_0), .val (.int k69_0), .val (.int k71_0), .unset]) rfl ?_
                show Steps p.tables e below (T61.setTop (mkF m 151 #[.val (.int p0), .val (.int p1), .val (.int p2), .val (.int p3), .val (.int p4), .val (.int ((p4 &&& (2147483647 : Int32)) % (5 : Int32))), .val (.int (p0.toInt8.toInt32)), .val (.int (p1.toInt8.toInt32)), .val (.int (p2.toInt8.toInt32)), .val (.int (p3.toInt8.toInt32)), .val (.ref b61), .val (.int k63_0), .val (.int k65_0), .val (.int k67_0), .val (.int k69_0), .val (.int k71_0), .unset] [])) _
                refine XS.aload X61.here hx rfl (hb hby at_151) rfl rfl ?_
                exact kt
              obtain ⟨_, _, ⟨T73, L73, k73, n73⟩, -, X73, ⟨Lc73, hQ73, l73, y73, z73⟩, st73⟩ := Jvm.LawKit.callS X61 hx (y := (⟨"com/example/cytobridge/cytobridge/profile/CharacterSet", "isAscii", "([B)Z"⟩ : MethodName)) hown (mvT hZ (hw _ (List.mem_of_getElem? (i := 6) rfl))) (mvT hZ (hw _ (List.mem_of_getElem? (i := 7) rfl))) (mvT hZ (hw _ (List.mem_of_getElem? (i := 8) rfl))) (mvT hZ (hw _ (List.mem_of_getElem? (i := 9) rfl))) (by decide) (backOf (W := 0) (rm2 l Z a0 hw [] b61 [(p0.toInt8.toInt32)] (1 : Int32) ka61 h61 n0 Z0_62 B61_0 ⟨rfl, Nat.le_of_ble_eq_true rfl⟩) hZ (hw _ (List.mem_of_getElem? (i := 9) rfl)) (hw _ (List.mem_of_getElem? (i := 8) rfl)) (by decide) (by decide)) (g := (mkF m 153 #[.val (.int p0), .val (.int p1), .val (.int p2), .val (.int p3), .val (.int p4), .val (.int ((p4 &&& (2147483647 : Int32)) % (5 : Int32))), .val (.int (p0.toInt8.toInt32)), .val (.int (p1.toInt8.toInt32)), .val (.int (p2.toInt8.toInt32)), .val (.int (p3.toInt8.toInt32)), .val (.ref b61), .val (.int k63_0), .val (.int k65_0), .val (.int k67_0), .val (.int k69_0), .val (.int k71_0), .unset] [(.ref b61)])) rfl (by rw [hml]; rfl) (argsL := [(.ref b61)]) (rest := []) (lenOf pd_1 rfl) rfl (by show 2 * 0 + _ ≤ _; exact Nat.le_of_eq rfl) (hb hby at_153) (fun _ _ => ⟨rfl, e61, (by decide : 1 + 0 ≤ _), (by decide : 1 + 0 ≤ _)⟩)
              dsimp only [Pt.U, Pt.locs, Pt.cells, Pt.slots] at X73 l73 y73 z73 st73 hQ73
              subst l73 y73 z73
              obtain ⟨rfl, Nq73, e73⟩ := hQ73
              have N73 := Fr.app N61 Nq73
              refine Got.step st73 ?_
              show Got p e below s _ _ _ _ T73 (mkF m 156 #[.val (.int p0), .val (.int p1), .val (.int p2), .val (.int p3), .val (.int p4), .val (.int ((p4 &&& (2147483647 : Int32)) % (5 : Int32))), .val (.int (p0.toInt8.toInt32)), .val (.int (p1.toInt8.toInt32)), .val (.int (p2.toInt8.toInt32)), .val (.int (p3.toInt8.toInt32)), .val (.ref b61), .val (.int k63_0), .val (.int k65_0), .val (.int k67_0), .val (.int k69_0), .val (.int k71_0), .unset] [(.int (asc [(p0.toInt8.toInt32)]))])
              refine Got.step (T' := T73) (g' := (mkF m 170 #[.val (.int p0), .val (.int p1), .val (.int p2), .val (.int p3), .val (.int p4), .val (.int ((p4 &&& (2147483647 : Int32)) % (5 : Int32))), .val (.int (p0.toInt8.toInt32)), .val (.int (p1.toInt8.toInt32)), .val (.int (p2.toInt8.toInt32)), .val (.int (p3.toInt8.toInt32)), .val (.ref b61), .val (.int k63_0), .val (.int k65_0), .val (.int k67_0), .val (.int k69_0), .val (.int k71_0), .val (.int (asc [(p0.toInt8.toInt32)]))] [(.int (1 : Int32))])) (fun tq kt => ?_) ?_
              · show Steps p.tables e below (T73.setTop (mkF m 156 #[.val (.int p0), .val (.int p1), .val (.int p2), .val (.int p3), .val (.int p4), .val (.int ((p4 &&& (2147483647 : Int32)) % (5 : Int32))), .val (.int (p0.toInt8.toInt32)), .val (.int (p1.toInt8.toInt32)), .val (.int (p2.toInt8.toInt32)), .val (.int (p3.toInt8.toInt32)), .val (.ref b61), .val (.int k63_0), .val (.int k65_0), .val (.int k67_0), .val (.int k69_0), .val (.int k71_0), .unset] [(.int (asc [(p0.toInt8.toInt32)]))])) _
                refine XS.istore X73.here hx rfl (hb hby at_156) rfl (l' := #[.val (.int p0), .val (.int p1), .val (.int p2), .val (.int p3), .val (.int p4), .val (.int ((p4 &&& (2147483647 : Int32)) % (5 : Int32))), .val (.int (p0.toInt8.toInt32)), .val (.int (p1.toInt8.toInt32)), .val (.int (p2.toInt8.toInt32)), .val (.int (p3.toInt8.toInt32)), .val (.ref b61), .val (.int k63_0), .val (.int k65_0), .val (.int k67_0), .val (.int k69_0), .val (.int k71_0), .val (.int (asc [(p0.toInt8.toInt32)]))]) rfl ?_
                show Steps p.tables e below (T73.setTop (mkF m 158 #[.val (.int p0), .val (.int p1), .val (.int p2), .val (.int p3), .val (.int p4), .val (.int ((p4 &&& (2147483647 : Int32)) % (5 : Int32))), .val (.int (p0.toInt8.toInt32)), .val (.int (p1.toInt8.toInt32)), .val (.int (p2.toInt8.toInt32)), .val (.int (p3.toInt8.toInt32)), .val (.ref b61), .val (.int k63_0), .val (.int k65_0), .val (.int k67_0), .val (.int k69_0), .val (.int k71_0), .val (.int (asc [(p0.toInt8.toInt32)]))] [])) _
                refine XS.iload X73.here hx rfl (hb hby at_158) rfl ?_
                show Steps p.tables e below (T73.setTop (mkF m 160 #[.val (.int p0), .val (.int p1), .val (.int p2), .val (.int p3), .val (.int p4), .val (.int ((p4 &&& (2147483647 : Int32)) % (5 : Int32))), .val (.int (p0.toInt8.toInt32)), .val (.int (p1.toInt8.toInt32)), .val (.int (p2.toInt8.toInt32)), .val (.int (p3.toInt8.toInt32)), .val (.ref b61), .val (.int k63_0), .val (.int k65_0), .val (.int k67_0), .val (.int k69_0), .val (.int k71_0), .val (.int (asc [(p0.toInt8.toInt32)]))] [(.int (asc [(p0.toInt8.toInt32)]))])) _
                refine XS.iload X73.here hx rfl (hb hby at_160) rfl ?_
                show Steps p.tables e below (T73.setTop (mkF m 162 #[.val (.int p0), .val (.int p1), .val (.int p2), .val (.int p3), .val (.int p4), .val (.int ((p4 &&& (2147483647 : Int32)) % (5 : Int32))), .val (.int (p0.toInt8.toInt32)), .val (.int (p1.toInt8.toInt32)), .val (.int (p2.toInt8.toInt32)), .val (.int (p3.toInt8.toInt32)), .val (.ref b61), .val (.int k63_0), .val (.int k65_0), .val (.int k67_0), .val (.int k69_0), .val (.int k71_0), .val (.int (asc [(p0.toInt8.toInt32)]))] [(.int k71_0), (.int (asc [(p0.toInt8.toInt32)]))])) _
                refine XS.icmpNo X73.here hx rfl (hb hby at_162) rfl (XT.ii_ne_f (own_fin1 p0 p1 p2 p3 hlen hk63_0 hk65_0 hk67_0 hk69_0 hk71_0)) ?_
                show Steps p.tables e below (T73.setTop (mkF m 165 #[.val (.int p0), .val (.int p1), .val (.int p2), .val (.int p3), .val (.int p4), .val (.int ((p4 &&& (2147483647 : Int32)) % (5 : Int32))), .val (.int (p0.toInt8.toInt32)), .val (.int (p1.toInt8.toInt32)), .val (.int (p2.toInt8.toInt32)), .val (.int (p3.toInt8.toInt32)), .val (.ref b61), .val (.int k63_0), .val (.int k65_0), .val (.int k67_0), .val (.int k69_0), .val (.int k71_0), .val (.int (asc [(p0.toInt8.toInt32)]))] [])) _
                refine XS.iconst X73.here hx rfl (hb hby at_165) ?_
                show Steps p.tables e below (T73.setTop (mkF m 166 #[.val (.int p0), .val (.int p1), .val (.int p2), .val (.int p3), .val (.int p4), .val (.int ((p4 &&& (2147483647 : Int32)) % (5 : Int32))), .val (.int (p0.toInt8.toInt32)), .val (.int (p1.toInt8.toInt32)), .val (.int (p2.toInt8.toInt32)), .val (.int (p3.toInt8.toInt32)), .val (.ref b61), .val (.int k63_0), .val (.int k65_0), .val (.int k67_0), .val (.int k69_0), .val (.int k71_0), .val (.int (asc [(p0.toInt8.toInt32)]))] [(.int (1 : Int32))])) _
                refine XS.goto X73.here hx rfl (pc0 := 166) (pc' := 170) rfl (hb hby at_166) (by decide) (by decide) ?_
                exact kt
              exact Got.retN (y := (1 : Int32)) (t := .boolean) X73 hx Bd.returns (by simp) hlk (hb hby at_170) (by decide) N73 (by decide) (by decide)
            by_cases hc72 : (k63_0 = 0)
            · refine Got.step (T' := T61) (g' := (mkF m 149 #[.val (.int p0), .val (.int p1), .val (.int p2), .val (.int p3), .val (.int p4), .val (.int ((p4 &&& (2147483647 : Int32)) % (5 : Int32))), .val (.int (p0.toInt8.toInt32)), .val (.int (p1.toInt8.toInt32)), .val (.int (p2.toInt8.toInt32)), .val (.int (p3.toInt8.toInt32)), .val (.ref b61), .val (.int k63_0), .val (.int k65_0), .val (.int k67_0), .val (.int k69_0), .unset, .unset] [(.int (0 : Int32))])) (fun tq kt => ?_) ?_
              · show Steps p.tables e below (T61.setTop (mkF m 108 #[.val (.int p0), .val (.int p1), .val (.int p2), .val (.int p3), .val (.int p4), .val (.int ((p4 &&& (2147483647 : Int32)) % (5 : Int32))), .val (.int (p0.toInt8.toInt32)), .val (.int (p1.toInt8.toInt32)), .val (.int (p2.toInt8.toInt32)), .val (.int (p3.toInt8.toInt32)), .val (.ref b61), .val (.int k63_0), .val (.int k65_0), .val (.int k67_0), .val (.int k69_0), .unset, .unset] [(.int k63_0)])) _
                refine XS.ifYes X61.here hx rfl (pc0 := 108) (pc' := 148) rfl (hb hby at_108) rfl (XT.i0_eq_t hc72) (by decide) (by decide) ?_
                show Steps p.tables e below (T61.setTop (mkF m 148 #[.val (.int p0), .val (.int p1), .val (.int p2), .val (.int p3), .val (.int p4), .val (.int ((p4 &&& (2147483647 : Int32)) % (5 : Int32))), .val (.int (p0.toInt8.toInt32)), .val (.int (p1.toInt8.toInt32)), .val (.int (p2.toInt8.toInt32)), .val (.int (p3.toInt8.toInt32)), .val (.ref b61), .val (.int k63_0), .val (.int k65_0), .val (.int k67_0), .val (.int k69_0), .unset, .unset] [])) _
                refine XS.iconst X61.here hx rfl (hb hby at_148) ?_
                exact kt
              exact J71 (0 : Int32) (if_pos hc72).symm
            · refine Got.step (T' := T61) (g' := (mkF m 149 #[.val (.int p0), .val (.int p1), .val (.int p2), .val (.int p3), .val (.int p4), .val (.int ((p4 &&& (2147483647 : Int32)) % (5 : Int32))), .val (.int (p0.toInt8.toInt32)), .val (.int (p1.toInt8.toInt32)), .val (.int (p2.toInt8.toInt32)), .val (.int (p3.toInt8.toInt32)), .val (.ref b61), .val (.int k63_0), .val (.int k65_0), .val (.int k67_0), .val (.int k69_0), .unset, .unset] [(.int (1 : Int32))])) (fun tq kt => ?_) ?_
              · show Steps p.tables e below (T61.setTop (mkF m 108 #[.val (.int p0), .val (.int p1), .val (.int p2), .val (.int p3), .val (.int p4), .val (.int ((p4 &&& (2147483647 : Int32)) % (5 : Int32))), .val (.int (p0.toInt8.toInt32)), .val (.int (p1.toInt8.toInt32)), .val (.int (p2.toInt8.toInt32)), .val (.int (p3.toInt8.toInt32)), .val (.ref b61), .val (.int k63_0), .val (.int k65_0), .val (.int k67_0), .val (.int k69_0), .unset, .unset] [(.int k63_0)])) _
                refine XS.ifNo X61.here hx rfl (hb hby at_108) rfl (XT.i0_eq_f hc72) ?_
                show Steps p.tables e below (T61.setTop (mkF m 111 #[.val (.int p0), .val (.int p1), .val (.int p2), .val (.int p3), .val (.int p4), .val (.int ((p4 &&& (2147483647 : Int32)) % (5 : Int32))), .val (.int (p0.toInt8.toInt32)), .val (.int (p1.toInt8.toInt32)), .val (.int (p2.toInt8.toInt32)), .val (.int (p3.toInt8.toInt32)), .val (.ref b61), .val (.int k63_0), .val (.int k65_0), .val (.int k67_0), .val (.int k69_0), .unset, .unset] [])) _
                refine XS.iload X61.here hx rfl (hb hby at_111) rfl ?_
                show Steps p.tables e below (T61.setTop (mkF m 113 #[.val (.int p0), .val (.int p1), .val (.int p2), .val (.int p3), .val (.int p4), .val (.int ((p4 &&& (2147483647 : Int32)) % (5 : Int32))), .val (.int (p0.toInt8.toInt32)), .val (.int (p1.toInt8.toInt32)), .val (.int (p2.toInt8.toInt32)), .val (.int (p3.toInt8.toInt32)), .val (.ref b61), .val (.int k63_0), .val (.int k65_0), .val (.int k67_0), .val (.int k69_0), .unset, .unset] [(.int ((p4 &&& (2147483647 : Int32)) % (5 : Int32)))])) _
                refine XS.iconst X61.here hx rfl (hb hby at_113) ?_
                show Steps p.tables e below (T61.setTop (mkF m 114 #[.val (.int p0), .val (.int p1), .val (.int p2), .val (.int p3), .val (.int p4), .val (.int ((p4 &&& (2147483647 : Int32)) % (5 : Int32))), .val (.int (p0.toInt8.toInt32)), .val (.int (p1.toInt8.toInt32)), .val (.int (p2.toInt8.toInt32)), .val (.int (p3.toInt8.toInt32)), .val (.ref b61), .val (.int k63_0), .val (.int k65_0), .val (.int k67_0), .val (.int k69_0), .unset, .unset] [(.int (2 : Int32)), (.int ((p4 &&& (2147483647 : Int32)) % (5 : Int32)))])) _
                refine XS.icmpYes X61.here hx rfl (pc0 := 114) (pc' := 122) rfl (hb hby at_114) rfl (XT.ii_lt_t (by rw [hlen]; decide)) (by decide) (by decide) ?_
                show Steps p.tables e below (T61.setTop (mkF m 122 #[.val (.int p0), .val (.int p1), .val (.int p2), .val (.int p3), .val (.int p4), .val (.int ((p4 &&& (2147483647 : Int32)) % (5 : Int32))), .val (.int (p0.toInt8.toInt32)), .val (.int (p1.toInt8.toInt32)), .val (.int (p2.toInt8.toInt32)), .val (.int (p3.toInt8.toInt32)), .val (.ref b61), .val (.int k63_0), .val (.int k65_0), .val (.int k67_0), .val (.int k69_0), .unset, .unset] [])) _
                refine XS.iload X61.here hx rfl (hb hby at_122) rfl ?_
                show Steps p.tables e below (T61.setTop (mkF m 124 #[.val (.int p0), .val (.int p1), .val (.int p2), .val (.int p3), .val (.int p4), .val (.int ((p4 &&& (2147483647 : Int32)) % (5 : Int32))), .val (.int (p0.toInt8.toInt32)), .val (.int (p1.toInt8.toInt32)), .val (.int (p2.toInt8.toInt32)), .val (.int (p3.toInt8.toInt32)), .val (.ref b61), .val (.int k63_0), .val (.int k65_0), .val (.int k67_0), .val (.int k69_0), .unset, .unset] [(.int ((p4 &&& (2147483647 : Int32)) % (5 : Int32)))])) _
                refine XS.iconst X61.here hx rfl (hb hby at_124) ?_
                show Steps p.tables e below (T61.setTop (mkF m 125 #[.val (.int p0), .val (.int p1), .val (.int p2), .val (.int p3), .val (.int p4), .val (.int ((p4 &&& (2147483647 : Int32)) % (5 : Int32))), .val (.int (p0.toInt8.toInt32)), .val (.int (p1.toInt8.toInt32)), .val (.int (p2.toInt8.toInt32)), .val (.int (p3.toInt8.toInt32)), .val (.ref b61), .val (.int k63_0), .val (.int k65_0), .val (.int k67_0), .val (.int k69_0), .unset, .unset] [(.int (3 : Int32)), (.int ((p4 &&& (2147483647 : Int32)) % (5 : Int32)))])) _
                refine XS.icmpYes X61.here hx rfl (pc0 := 125) (pc' := 133) rfl (hb hby at_125) rfl (XT.ii_lt_t (by rw [hlen]; decide)) (by decide) (by decide) ?_
                show Steps p.tables e below (T61.setTop (mkF m 133 #[.val (.int p0), .val (.int p1), .val (.int p2), .val (.int p3), .val (.int p4), .val (.int ((p4 &&& (2147483647 : Int32)) % (5 : Int32))), .val (.int (p0.toInt8.toInt32)), .val (.int (p1.toInt8.toInt32)), .val (.int (p2.toInt8.toInt32)), .val (.int (p3.toInt8.toInt32)), .val (.ref b61), .val (.int k63_0), .val (.int k65_0), .val (.int k67_0), .val (.int k69_0), .unset, .unset] [])) _
                refine XS.iload X61.here hx rfl (hb hby at_133) rfl ?_
                show Steps p.tables e below (T61.setTop (mkF m 135 #[.val (.int p0), .val (.int p1), .val (.int p2), .val (.int p3), .val (.int p4), .val (.int ((p4 &&& (2147483647 : Int32)) % (5 : Int32))), .val (.int (p0.toInt8.toInt32)), .val (.int (p1.toInt8.toInt32)), .val (.int (p2.toInt8.toInt32)), .val (.int (p3.toInt8.toInt32)), .val (.ref b61), .val (.int k63_0), .val (.int k65_0), .val (.int k67_0), .val (.int k69_0), .unset, .unset] [(.int ((p4 &&& (2147483647 : Int32)) % (5 : Int32)))])) _
                refine XS.iconst X61.here hx rfl (hb hby at_135) ?_
                show Steps p.tables e below (T61.setTop (mkF m 136 #[.val (.int p0), .val (.int p1), .val (.int p2), .val (.int p3), .val (.int p4), .val (.int ((p4 &&& (2147483647 : Int32)) % (5 : Int32))), .val (.int (p0.toInt8.toInt32)), .val (.int (p1.toInt8.toInt32)), .val (.int (p2.toInt8.toInt32)), .val (.int (p3.toInt8.toInt32)), .val (.ref b61), .val (.int k63_0), .val (.int k65_0), .val (.int k67_0), .val (.int k69_0), .unset, .unset] [(.int (4 : Int32)), (.int ((p4 &&& (2147483647 : Int32)) % (5 : Int32)))])) _
                refine XS.icmpYes X61.here hx rfl (pc0 := 136) (pc' := 144) rfl (hb hby at_136) rfl (XT.ii_lt_t (by rw [hlen]; decide)) (by decide) (by decide) ?_
                show Steps p.tables e below (T61.setTop (mkF m 144 #[.val (.int p0), .val (.int p1), .val (.int p2), .val (.int p3), .val (.int p4), .val (.int ((p4 &&& (2147483647 : Int32)) % (5 : Int32))), .val (.int (p0.toInt8.toInt32)), .val (.int (p1.toInt8.toInt32)), .val (.int (p2.toInt8.toInt32)), .val (.int (p3.toInt8.toInt32)), .val (.ref b61), .val (.int k63_0), .val (.int k65_0), .val (.int k67_0), .val (.int k69_0), .unset, .unset] [])) _
                refine XS.iconst X61.here hx rfl (hb hby at_144) ?_
                show Steps p.tables e below (T61.setTop (mkF m 145 #[.val (.int p0), .val (.int p1), .val (.int p2), .val (.int p3), .val (.int p4), .val (.int ((p4 &&& (2147483647 : Int32)) % (5 : Int32))), .val (.int (p0.toInt8.toInt32)), .val (.int (p1.toInt8.toInt32)), .val (.int (p2.toInt8.toInt32)), .val (.int (p3.toInt8.toInt32)), .val (.ref b61), .val (.int k63_0), .val (.int k65_0), .val (.int k67_0), .val (.int k69_0), .unset, .unset] [(.int (1 : Int32))])) _
                refine XS.goto X61.here hx rfl (pc0 := 145) (pc' := 149) rfl (hb hby at_145) (by decide) (by decide) ?_
                exact kt
              exact J71 (1 : Int32) (if_neg hc72).symm
          by_cases hc70 : ((p3 &&& (128 : Int32)) = 0)
          · refine Got.step (T' := T61) (g' := (mkF m 98 #[.val (.int p0), .val (.int p1), .val (.int p2), .val (.int p3), .val (.int p4), .val (.int ((p4 &&& (2147483647 : Int32)) % (5 : Int32))), .val (.int (p0.toInt8.toInt32)), .val (.int (p1.toInt8.toInt32)), .val (.int (p2.toInt8.toInt32)), .val (.int (p3.toInt8.toInt32)), .val (.ref b61), .val (.int k63_0), .val (.int k65_0), .val (.int k67_0), .unset, .unset, .unset] [(.int (1 : Int32))])) (fun tq kt => ?_) ?_
            · show Steps p.tables e below (T61.setTop (mkF m 90 #[.val (.int p0), .val (.int p1), .val (.int p2), .val (.int p3), .val (.int p4), .val (.int ((p4 &&& (2147483647 : Int32)) % (5 : Int32))), .val (.int (p0.toInt8.toInt32)), .val (.int (p1.toInt8.toInt32)), .val (.int (p2.toInt8.toInt32)), .val (.int (p3.toInt8.toInt32)), .val (.ref b61), .val (.int k63_0), .val (.int k65_0), .val (.int k67_0), .unset, .unset, .unset] [(.int (p3 &&& (128 : Int32)))])) _
              refine XS.ifNo X61.here hx rfl (hb hby at_90) rfl (XT.i0_ne_f hc70) ?_
              show Steps p.tables e below (T61.setTop (mkF m 93 #[.val (.int p0), .val (.int p1), .val (.int p2), .val (.int p3), .val (.int p4), .val (.int ((p4 &&& (2147483647 : Int32)) % (5 : Int32))), .val (.int (p0.toInt8.toInt32)), .val (.int (p1.toInt8.toInt32)), .val (.int (p2.toInt8.toInt32)), .val (.int (p3.toInt8.toInt32)), .val (.ref b61), .val (.int k63_0), .val (.int k65_0), .val (.int k67_0), .unset, .unset, .unset] [])) _
              refine XS.iconst X61.here hx rfl (hb hby at_93) ?_
              show Steps p.tables e below (T61.setTop (mkF m 94 #[.val (.int p0), .val (.int p1), .val (.int p2), .val (.int p3), .val (.int p4), .val (.int ((p4 &&& (2147483647 : Int32)) % (5 : Int32))), .val (.int (p0.toInt8.toInt32)), .val (.int (p1.toInt8.toInt32)), .val (.int (p2.toInt8.toInt32)), .val (.int (p3.toInt8.toInt32)), .val (.ref b61), .val (.int k63_0), .val (.int k65_0), .val (.int k67_0), .unset, .unset, .unset] [(.int (1 : Int32))])) _
              refine XS.goto X61.here hx rfl (pc0 := 94) (pc' := 98) rfl (hb hby at_94) (by decide) (by decide) ?_
              exact kt
            exact J69 (1 : Int32) (if_pos hc70).symm
          · refine Got.step (T' := T61) (g' := (mkF m 98 #[.val (.int p0), .val (.int p1), .val (.int p2), .val (.int p3), .val (.int p4), .val (.int ((p4 &&& (2147483647 : Int32)) % (5 : Int32))), .val (.int (p0.toInt8.toInt32)), .val (.int (p1.toInt8.toInt32)), .val (.int (p2.toInt8.toInt32)), .val (.int (p3.toInt8.toInt32)), .val (.ref b61), .val (.int k63_0), .val (.int k65_0), .val (.int k67_0), .unset, .unset, .unset] [(.int (0 : Int32))])) (fun tq kt => ?_) ?_
            · show Steps p.tables e below (T61.setTop (mkF m 90 #[.val (.int p0), .val (.int p1), .val (.int p2), .val (.int p3), .val (.int p4), .val (.int ((p4 &&& (2147483647 : Int32)) % (5 : Int32))), .val (.int (p0.toInt8.toInt32)), .val (.int (p1.toInt8.toInt32)), .val (.int (p2.toInt8.toInt32)), .val (.int (p3.toInt8.toInt32)), .val (.ref b61), .val (.int k63_0), .val (.int k65_0), .val (.int k67_0), .unset, .unset, .unset] [(.int (p3 &&& (128 : Int32)))])) _
              refine XS.ifYes X61.here hx rfl (pc0 := 90) (pc' := 97) rfl (hb hby at_90) rfl (XT.i0_ne_t hc70) (by decide) (by decide) ?_
              show Steps p.tables e below (T61.setTop (mkF m 97 #[.val (.int p0), .val (.int p1), .val (.int p2), .val (.int p3), .val (.int p4), .val (.int ((p4 &&& (2147483647 : Int32)) % (5 : Int32))), .val (.int (p0.toInt8.toInt32)), .val (.int (p1.toInt8.toInt32)), .val (.int (p2.toInt8.toInt32)), .val (.int (p3.toInt8.toInt32)), .val (.ref b61), .val (.int k63_0), .val (.int k65_0), .val (.int k67_0), .unset, .unset, .unset] [])) _
              refine XS.iconst X61.here hx rfl (hb hby at_97) ?_
              exact kt
            exact J69 (0 : Int32) (if_neg hc70).symm
        by_cases hc68 : ((p2 &&& (128 : Int32)) = 0)
        · refine Got.step (T' := T61) (g' := (mkF m 83 #[.val (.int p0), .val (.int p1), .val (.int p2), .val (.int p3), .val (.int p4), .val (.int ((p4 &&& (2147483647 : Int32)) % (5 : Int32))), .val (.int (p0.toInt8.toInt32)), .val (.int (p1.toInt8.toInt32)), .val (.int (p2.toInt8.toInt32)), .val (.int (p3.toInt8.toInt32)), .val (.ref b61), .val (.int k63_0), .val (.int k65_0), .unset, .unset, .unset, .unset] [(.int (1 : Int32))])) (fun tq kt => ?_) ?_
          · show Steps p.tables e below (T61.setTop (mkF m 75 #[.val (.int p0), .val (.int p1), .val (.int p2), .val (.int p3), .val (.int p4), .val (.int ((p4 &&& (2147483647 : Int32)) % (5 : Int32))), .val (.int (p0.toInt8.toInt32)), .val (.int (p1.toInt8.toInt32)), .val (.int (p2.toInt8.toInt32)), .val (.int (p3.toInt8.toInt32)), .val (.ref b61), .val (.int k63_0), .val (.int k65_0), .unset, .unset, .unset, .unset] [(.int (p2 &&& (128 : Int32)))])) _
            refine XS.ifNo X61.here hx rfl (hb hby at_75) rfl (XT.i0_ne_f hc68) ?_
            show Steps p.tables e below (T61.setTop (mkF m 78 #[.val (.int p0), .val (.int p1), .val (.int p2), .val (.int p3), .val (.int p4), .val (.int ((p4 &&& (2147483647 : Int32)) % (5 : Int32))), .val (.int (p0.toInt8.toInt32)), .val (.int (p1.toInt8.toInt32)), .val (.int (p2.toInt8.toInt32)), .val (.int (p3.toInt8.toInt32)), .val (.ref b61), .val (.int k63_0), .val (.int k65_0), .unset, .unset, .unset, .unset] [])) _
            refine XS.iconst X61.here hx rfl (hb hby at_78) ?_
            show Steps p.tables e below (T61.setTop (mkF m 79 #[.val (.int p0), .val (.int p1), .val (.int p2), .val (.int p3), .val (.int p4), .val (.int ((p4 &&& (2147483647 : Int32)) % (5 : Int32))), .val (.int (p0.toInt8.toInt32)), .val (.int (p1.toInt8.toInt32)), .val (.int (p2.toInt8.toInt32)), .val (.int (p3.toInt8.toInt32)), .val (.ref b61), .val (.int k63_0), .val (.int k65_0), .unset, .unset, .unset, .unset] [(.int (1 : Int32))])) _
            refine XS.goto X61.here hx rfl (pc0 := 79) (pc' := 83) rfl (hb hby at_79) (by decide) (by decide) ?_
            exact kt
          exact J67 (1 : Int32) (if_pos hc68).symm
        · refine Got.step (T' := T61) (g' := (mkF m 83 #[.val (.int p0), .val (.int p1), .val (.int p2), .val (.int p3), .val (.int p4), .val (.int ((p4 &&& (2147483647 : Int32)) % (5 : Int32))), .val (.int (p0.toInt8.toInt32)), .val (.int (p1.toInt8.toInt32)), .val (.int (p2.toInt8.toInt32)), .val (.int (p3.toInt8.toInt32)), .val (.ref b61), .val (.int k63_0), .val (.int k65_0), .unset, .unset, .unset, .unset] [(.int (0 : Int32))])) (fun tq kt => ?_) ?_
          · show Steps p.tables e below (T61.setTop (mkF m 75 #[.val (.int p0), .val (.int p1), .val (.int p2), .val (.int p3), .val (.int p4), .val (.int ((p4 &&& (2147483647 : Int32)) % (5 : Int32))), .val (.int (p0.toInt8.toInt32)), .val (.int (p1.toInt8.toInt32)), .val (.int (p2.toInt8.toInt32)), .val (.int (p3.toInt8.toInt32)), .val (.ref b61), .val (.int k63_0), .val (.int k65_0), .unset, .unset, .unset, .unset] [(.int (p2 &&& (128 : Int32)))])) _
            refine XS.ifYes X61.here hx rfl (pc0 := 75) (pc' := 82) rfl (hb hby at_75) rfl (XT.i0_ne_t hc68) (by decide) (by decide) ?_
            show Steps p.tables e below (T61.setTop (mkF m 82 #[.val (.int p0), .val (.int p1), .val (.int p2), .val (.int p3), .val (.int p4), .val (.int ((p4 &&& (2147483647 : Int32)) % (5 : Int32))), .val (.int (p0.toInt8.toInt32)), .val (.int (p1.toInt8.toInt32)), .val (.int (p2.toInt8.toInt32)), .val (.int (p3.toInt8.toInt32)), .val (.ref b61), .val (.int k63_0), .val (.int k65_0), .unset, .unset, .unset, .unset] [])) _
            refine XS.iconst X61.here hx rfl (hb hby at_82) ?_
            exact kt
          exact J67 (0 : Int32) (if_neg hc68).symm
      by_cases hc66 : ((p1 &&& (128 : Int32)) = 0)
      · refine Got.step (T' := T61) (g' := (mkF m 68 #[.val (.int p0), .val (.int p1), .val (.int p2), .val (.int p3), .val (.int p4), .val (.int ((p4 &&& (2147483647 : Int32)) % (5 : Int32))), .val (.int (p0.toInt8.toInt32)), .val (.int (p1.toInt8.toInt32)), .val (.int (p2.toInt8.toInt32)), .val (.int (p3.toInt8.toInt32)), .val (.ref b61), .val (.int k63_0), .unset, .unset, .unset, .unset, .unset] [(.int (1 : Int32))])) (fun tq kt => ?_) ?_
        · show Steps p.tables e below (T61.setTop (mkF m 60 #[.val (.int p0), .val (.int p1), .val (.int p2), .val (.int p3), .val (.int p4), .val (.int ((p4 &&& (2147483647 : Int32)) % (5 : Int32))), .val (.int (p0.toInt8.toInt32)), .val (.int (p1.toInt8.toInt32)), .val (.int (p2.toInt8.toInt32)), .val (.int (p3.toInt8.toInt32)), .val (.ref b61), .val (.int k63_0), .unset, .unset, .unset, .unset, .unset] [(.int (p1 &&& (128 : Int32)))])) _
          refine XS.ifNo X61.here hx rfl (hb hby at_60) rfl (XT.i0_ne_f hc66) ?_
          show Steps p.tables e below (T61.setTop (mkF m 63 #[.val (.int p0), .val (.int p1), .val (.int p2), .val (.int p3), .val (.int p4), .val (.int ((p4 &&& (2147483647 : Int32)) % (5 : Int32))), .val (.int (p0.toInt8.toInt32)), .val (.int (p1.toInt8.toInt32)), .val (.int (p2.toInt8.toInt32)), .val (.int (p3.toInt8.toInt32)), .val (.ref b61), .val (.int k63_0), .unset, .unset, .unset, .unset, .unset] [])) _
          refine XS.iconst X61.here hx rfl (hb hby at_63) ?_
          show Steps p.tables e below (T61.setTop (mkF m 64 #[.val (.int p0), .val (.int p1), .val (.int p2), .val (.int p3), .val (.int p4), .val (.int ((p4 &&& (2147483647 : Int32)) % (5 : Int32))), .val (.int (p0.toInt8.toInt32)), .val (.int (p1.toInt8.toInt32)), .val (.int (p2.toInt8.toInt32)), .val (.int (p3.toInt8.toInt32)), .val (.ref b61), .val (.int k63_0), .unset, .unset, .unset, .unset, .unset] [(.int (1 : Int32))])) _
          refine XS.goto X61.here hx rfl (pc0 := 64) (pc' := 68) rfl (hb hby at_64) (by decide) (by decide) ?_
          exact kt
        exact J65 (1 : Int32) (if_pos hc66).symm
      · refine Got.step (T' := T61) (g' := (mkF m 68 #[.val (.int p0), .val (.int p1), .val (.int p2), .val (.int p3), .val (.int p4), .val (.int ((p4 &&& (2147483647 : Int32)) % (5 : Int32))), .val (.int (p0.toInt8.toInt32)), .val (.int (p1.toInt8.toInt32)), .val (.int (p2.toInt8.toInt32)), .val (.int (p3.toInt8.toInt32)), .val (.ref b61), .val (.int k63_0), .unset, .unset, .unset, .unset, .unset] [(.int (0 : Int32))])) (fun tq kt => ?_) ?_
        · show Steps p.tables e below (T61.setTop (mkF m 60 #[.val (.int p0), .val (.int p1), .val (.int p2), .val (.int p3), .val (.int p4), .val (.int ((p4 &&& (2147483647 : Int32)) % (5 : Int32))), .val (.int (p0.toInt8.toInt32)), .val (.int (p1.toInt8.toInt32)), .val (.int (p2.toInt8.toInt32)), .val (.int (p3.toInt8.toInt32)), .val (.ref b61), .val (.int k63_0), .unset, .unset, .unset, .unset, .unset] [(.int (p1 &&& (128 : Int32)))])) _
          refine XS.ifYes X61.here hx rfl (pc0 := 60) (pc' := 67) rfl (hb hby at_60) rfl (XT.i0_ne_t hc66) (by decide) (by decide) ?_
          show Steps p.tables e below (T61.setTop (mkF m 67 #[.val (.int p0), .val (.int p1), .val (.int p2), .val (.int p3), .val (.int p4), .val (.int ((p4 &&& (2147483647 : Int32)) % (5 : Int32))), .val (.int (p0.toInt8.toInt32)), .val (.int (p1.toInt8.toInt32)), .val (.int (p2.toInt8.toInt32)), .val (.int (p3.toInt8.toInt32)), .val (.ref b61), .val (.int k63_0), .unset, .unset, .unset, .unset, .unset] [])) _
          refine XS.iconst X61.here hx rfl (hb hby at_67) ?_
          exact kt
        exact J65 (0 : Int32) (if_neg hc66).symm
    by_cases hc64 : ((p0 &&& (128 : Int32)) = 0)
    · refine Got.step (T' := T61) (g' := (mkF m 53 #[.val (.int p0), .val (.int p1), .val (.int p2), .val (.int p3), .val (.int p4), .val (.int ((p4 &&& (2147483647 : Int32)) % (5 : Int32))), .val (.int (p0.toInt8.toInt32)), .val (.int (p1.toInt8.toInt32)), .val (.int (p2.toInt8.toInt32)), .val (.int (p3.toInt8.toInt32)), .val (.ref b61), .unset, .unset, .unset, .unset, .unset, .unset] [(.int (1 : Int32))])) (fun tq kt => ?_) ?_
      · show Steps p.tables e below (T61.setTop (mkF m 45 #[.val (.int p0), .val (.int p1), .val (.int p2), .val (.int p3), .val (.int p4), .val (.int ((p4 &&& (2147483647 : Int32)) % (5 : Int32))), .val (.int (p0.toInt8.toInt32)), .val (.int (p1.toInt8.toInt32)), .val (.int (p2.toInt8.toInt32)), .val (.int (p3.toInt8.toInt32)), .val (.ref b61), .unset, .unset, .unset, .unset, .unset, .unset] [(.int (p0 &&& (128 : Int32)))])) _
        refine XS.ifNo X61.here hx rfl (hb hby at_45) rfl (XT.i0_ne_f hc64) ?_
        show Steps p.tables e below (T61.setTop (mkF m 48 #[.val (.int p0), .val (.int p1), .val (.int p2), .val (.int p3), .val (.int p4), .val (.int ((p4 &&& (2147483647 : Int32)) % (5 : Int32))), .val (.int (p0.toInt8.toInt32)), .val (.int (p1.toInt8.toInt32)), .val (.int (p2.toInt8.toInt32)), .val (.int (p3.toInt8.toInt32)), .val (.ref b61), .unset, .unset, .unset, .unset, .unset, .unset] [])) _
        refine XS.iconst X61.here hx rfl (hb hby at_48) ?_
        show Steps p.tables e below (T61.setTop (mkF m 49 #[.val (.int p0), .val (.int p1), .val (.int p2), .val (.int p3), .val (.int p4), .val (.int ((p4 &&& (2147483647 : Int32)) % (5 : Int32))), .val (.int (p0.toInt8.toInt32)), .val (.int (p1.toInt8.toInt32)), .val (.int (p2.toInt8.toInt32)), .val (.int (p3.toInt8.toInt32)), .val (.ref b61), .unset, .unset, .unset, .unset, .unset, .unset] [(.int (1 : Int32))])) _
        refine XS.goto X61.here hx rfl (pc0 := 49) (pc' := 53) rfl (hb hby at_49) (by decide) (by decide) ?_
        exact kt
      exact J63 (1 : Int32) (if_pos hc64).symm
    · refine Got.step (T' := T61) (g' := (mkF m 53 #[.val (.int p0), .val (.int p1), .val (.int p2), .val (.int p3), .val (.int p4), .val (.int ((p4 &&& (2147483647 : Int32)) % (5 : Int32))), .val (.int (p0.toInt8.toInt32)), .val (.int (p1.toInt8.toInt32)), .val (.int (p2.toInt8.toInt32)), .val (.int (p3.toInt8.toInt32)), .val (.ref b61), .unset, .unset, .unset, .unset, .unset, .unset] [(.int (0 : Int32))])) (fun tq kt => ?_) ?_
      · show Steps p.tables e below (T61.setTop (mkF m 45 #[.val (.int p0), .val (.int p1), .val (.int p2), .val (.int p3), .val (.int p4), .val (.int ((p4 &&& (2147483647 : Int32)) % (5 : Int32))), .val (.int (p0.toInt8.toInt32)), .val (.int (p1.toInt8.toInt32)), .val (.int (p2.toInt8.toInt32)), .val (.int (p3.toInt8.toInt32)), .val (.ref b61), .unset, .unset, .unset, .unset, .unset, .unset] [(.int (p0 &&& (128 : Int32)))])) _
        refine XS.ifYes X61.here hx rfl (pc0 := 45) (pc' := 52) rfl (hb hby at_45) rfl (XT.i0_ne_t hc64) (by decide) (by decide) ?_
        show Steps p.tables e below (T61.setTop (mkF m 52 #[.val (.int p0), .val (.int p1), .val (.int p2), .val (.int p3), .val (.int p4), .val (.int ((p4 &&& (2147483647 : Int32)) % (5 : Int32))), .val (.int (p0.toInt8.toInt32)), .val (.int (p1.toInt8.toInt32)), .val (.int (p2.toInt8.toInt32)), .val (.int (p3.toInt8.toInt32)), .val (.ref b61), .unset, .unset, .unset, .unset, .unset, .unset] [])) _
        refine XS.iconst X61.here hx rfl (hb hby at_52) ?_
        exact kt
      exact J63 (0 : Int32) (if_neg hc64).symm
  · obtain ⟨_, _, ⟨T74, L74, k74, n74⟩, -, X74, ⟨Lc74, hQ74, l74, y74, z74⟩, st74⟩ := Jvm.LawKit.callS X0 hx (y := (⟨"com/example/cytobridge/cytobridge/profile/CharacterSetIsAsciiPinLaw", "build", "(IBBBB)[B"⟩ : MethodName)) hown (mvT hZ (hw _ (List.mem_of_getElem? (i := 1) rfl))) (mvT hZ (hw _ (List.mem_of_getElem? (i := 2) rfl))) (mvT hZ (hw _ (List.mem_of_getElem? (i := 3) rfl))) (mvT hZ (hw _ (List.mem_of_getElem? (i := 4) rfl))) (by decide) (backOf (W := 0) (rm1_2 l Z a0 hw [] ((p4 &&& (2147483647 : Int32)) % (5 : Int32)) (p0.toInt8.toInt32) (p1.toInt8.toInt32) (p2.toInt8.toInt32) (p3.toInt8.toInt32) h0 n0 Z0 hlen (narB _) (fits_nar_byte _) (narB _) (fits_nar_byte _) (narB _) (fits_nar_byte _) (narB _) (fits_nar_byte _)) hZ (hw _ (List.mem_of_getElem? (i := 4) rfl)) (hw _ (List.mem_of_getElem? (i := 3) rfl)) (by decide) (by decide)) (g := (mkF m 35 #[.val (.int p0), .val (.int p1), .val (.int p2), .val (.int p3), .val (.int p4), .val (.int ((p4 &&& (2147483647 : Int32)) % (5 : Int32))), .val (.int (p0.toInt8.toInt32)), .val (.int (p1.toInt8.toInt32)), .val (.int (p2.toInt8.toInt32)), .val (.int (p3.toInt8.toInt32)), .unset, .unset, .unset, .unset, .unset, .unset, .unset] [(.int (p3.toInt8.toInt32)), (.int (p2.toInt8.toInt32)), (.int (p1.toInt8.toInt32)), (.int (p0.toInt8.toInt32)), (.int ((p4 &&& (2147483647 : Int32)) % (5 : Int32)))])) rfl (by rw [hml]; rfl) (argsL := [(.int ((p4 &&& (2147483647 : Int32)) % (5 : Int32))), (.int (p0.toInt8.toInt32)), (.int (p1.toInt8.toInt32)), (.int (p2.toInt8.toInt32)), (.int (p3.toInt8.toInt32))]) (rest := []) (lenOf pd_0 rfl) rfl (by show 2 * 0 + _ ≤ _; exact Nat.le_of_eq rfl) (hb hby at_35) (fun _ _ => ⟨rfl, e0, (by decide : 0 + 1 ≤ _), (by decide : 0 + 2 ≤ _)⟩)
    dsimp only [Pt.U, Pt.locs, Pt.cells, Pt.slots] at X74 l74 y74 z74 st74 hQ74
    subst l74 y74 z74
    obtain ⟨b74, g74⟩ : ∃ z, z = h0.size := ⟨_, rfl⟩
    rw [← g74] at hQ74
    obtain ⟨h74, e74⟩ : ∃ z, T74.heap = z := ⟨_, rfl⟩
    rw [e74] at hQ74
    obtain ⟨rfl, Nq74, K74, ⟨ka74, B74_0⟩⟩ := hQ74
    have N74 := Fr.app N0 Nq74
    have gn_b74 : n0 ≤ b74 := by rw [g74]; exact Z0
    have Z0_75 : n0 ≤ h74.size := (Nat.le_trans Z0 K74.1)
    refine Got.step st74 ?_
    show Got p e below s _ _ _ _ T74 (mkF m 38 #[.val (.int p0), .val (.int p1), .val (.int p2), .val (.int p3), .val (.int p4), .val (.int ((p4 &&& (2147483647 : Int32)) % (5 : Int32))), .val (.int (p0.toInt8.toInt32)), .val (.int (p1.toInt8.toInt32)), .val (.int (p2.toInt8.toInt32)), .val (.int (p3.toInt8.toInt32)), .unset, .unset, .unset, .unset, .unset, .unset, .unset] [(.ref b74)])
    refine Got.step (T' := T74) (g' := (mkF m 45 #[.val (.int p0), .val (.int p1), .val (.int p2), .val (.int p3), .val (.int p4), .val (.int ((p4 &&& (2147483647 : Int32)) % (5 : Int32))), .val (.int (p0.toInt8.toInt32)), .val (.int (p1.toInt8.toInt32)), .val (.int (p2.toInt8.toInt32)), .val (.int (p3.toInt8.toInt32)), .val (.ref b74), .unset, .unset, .unset, .unset, .unset, .unset] [(.int (p0 &&& (128 : Int32)))])) (fun tq kt => ?_) ?_
    · show Steps p.tables e below (T74.setTop (mkF m 38 #[.val (.int p0), .val (.int p1), .val (.int p2), .val (.int p3), .val (.int p4), .val (.int ((p4 &&& (2147483647 : Int32)) % (5 : Int32))), .val (.int (p0.toInt8.toInt32)), .val (.int (p1.toInt8.toInt32)), .val (.int (p2.toInt8.toInt32)), .val (.int (p3.toInt8.toInt32)), .unset, .unset, .unset, .unset, .unset, .unset, .unset] [(.ref b74)])) _
      refine XS.astore X74.here hx rfl (hb hby at_38) rfl rfl (l' := #[.val (.int p0), .val (.int p1), .val (.int p2), .val (.int p3), .val (.int p4), .val (.int ((p4 &&& (2147483647 : Int32)) % (5 : Int32))), .val (.int (p0.toInt8.toInt32)), .val (.int (p1.toInt8.toInt32)), .val (.int (p2.toInt8.toInt32)), .val (.int (p3.toInt8.toInt32)), .val (.ref b74), .unset, .unset, .unset, .unset, .unset, .unset]) rfl ?_
      show Steps p.tables e below (T74.setTop (mkF m 40 #[.val (.int p0), .val (.int p1), .val (.int p2), .val (.int p3), .val (.int p4), .val (.int ((p4 &&& (2147483647 : Int32)) % (5 : Int32))), .val (.int (p0.toInt8.toInt32)), .val (.int (p1.toInt8.toInt32)), .val (.int (p2.toInt8.toInt32)), .val (.int (p3.toInt8.toInt32)), .val (.ref b74), .unset, .unset, .unset, .unset, .unset, .unset] [])) _
      refine XS.iloadN X74.here hx rfl (hb hby at_40) rfl ?_
      show Steps p.tables e below (T74.setTop (mkF m 41 #[.val (.int p0), .val (.int p1), .val (.int p2), .val (.int p3), .val (.int p4), .val (.int ((p4 &&& (2147483647 : Int32)) % (5 : Int32))), .val (.int (p0.toInt8.toInt32)), .val (.int (p1.toInt8.toInt32)), .val (.int (p2.toInt8.toInt32)), .val (.int (p3.toInt8.toInt32)), .val (.ref b74), .unset, .unset, .unset, .unset, .unset, .unset] [(.int p0)])) _
      refine XS.sipush X74.here hx rfl (hb hby at_41) ?_
      show Steps p.tables e below (T74.setTop (mkF m 44 #[.val (.int p0), .val (.int p1), .val (.int p2), .val (.int p3), .val (.int p4), .val (.int ((p4 &&& (2147483647 : Int32)) % (5 : Int32))), .val (.int (p0.toInt8.toInt32)), .val (.int (p1.toInt8.toInt32)), .val (.int (p2.toInt8.toInt32)), .val (.int (p3.toInt8.toInt32)), .val (.ref b74), .unset, .unset, .unset, .unset, .unset, .unset] [(.int (128 : Int32)), (.int p0)])) _
      refine XS.iand X74.here hx rfl (hb hby at_44) rfl ?_
      exact kt
    have J76 : ∀ (k76_0 : Int32), k76_0 = (if (p0 &&& (128 : Int32)) = 0 then (1 : Int32) else (0 : Int32)) → Got p e below s (fun _ L => Fr n0 L) room_1.cells room_1.slots (some (.int (1 : Int32))) T74 (mkF m 53 #[.val (.int p0), .val (.int p1), .val (.int p2), .val (.int p3), .val (.int p4), .val (.int ((p4 &&& (2147483647 : Int32)) % (5 : Int32))), .val (.int (p0.toInt8.toInt32)), .val (.int (p1.toInt8.toInt32)), .val (.int (p2.toInt8.toInt32)), .val (.int (p3.toInt8.toInt32)), .val (.ref b74), .unset, .unset, .unset, .unset, .unset, .unset] [(.int k76_0)]) := by
      intro k76_0 hk76_0
      refine Got.step (T' := T74) (g' := (mkF m 60 #[.val (.int p0), .val (.int p1), .val (.int p2), .val (.int p3), .val (.int p4), .val (.int ((p4 &&& (2147483647 : Int32)) % (5 : Int32))), .val (.int (p0.toInt8.toInt32)), .val (.int (p1.toInt8.toInt32)), .val (.int (p2.toInt8.toInt32)), .val (.int (p3.toInt8.toInt32)), .val (.ref b74), .val (.int k76_0), .unset, .unset, .unset, .unset, .unset] [(.int (p1 &&& (128 : Int32)))])) (fun tq kt => ?_) ?_
      · show Steps p.tables e below (T74.setTop (mkF m 53 #[.val (.int p0), .val (.int p1), .val (.int p2), .val (.int p3), .val (.int p4), .val (.int ((p4 &&& (2147483647 : Int32)) % (5 : Int32))), .val (.int (p0.toInt8.toInt32)), .val (.int (p1.toInt8.toInt32)), .val (.int (p2.toInt8.toInt32)), .val (.int (p3.toInt8.toInt32)), .val (.ref b74), .unset, .unset, .unset, .unset, .unset, .unset] [(.int k76_0)])) _
        refine XS.istore X74.here hx rfl (hb hby at_53) rfl (l' := #[.val (.int p0), .val (.int p1), .val (.int p2), .val (.int p3), .val (.int p4), .val (.int ((p4 &&& (2147483647 : Int32)) % (5 : Int32))), .val (.int (p0.toInt8.toInt32)), .val (.int (p1.toInt8.toInt32)), .val (.int (p2.toInt8.toInt32)), .val (.int (p3.toInt8.toInt32)), .val (.ref b74), .val (.int k76_0), .unset, .unset, .unset, .unset, .unset]) rfl ?_
        show Steps p.tables e below (T74.setTop (mkF m 55 #[.val (.int p0), .val (.int p1), .val (.int p2), .val (.int p3), .val (.int p4), .val (.int ((p4 &&& (2147483647 : Int32)) % (5 : Int32))), .val (.int (p0.toInt8.toInt32)), .val (.int (p1.toInt8.toInt32)), .val (.int (p2.toInt8.toInt32)), .val (.int (p3.toInt8.toInt32)), .val (.ref b74), .val (.int k76_0), .unset, .unset, .unset, .unset, .unset] [])) _
        refine XS.iloadN X74.here hx rfl (hb hby at_55) rfl ?_
        show Steps p.tables e below (T74.setTop (mkF m 56 #[.val (.int p0), .val (.int p1), .val (.int p2), .val (.int p3), .val (.int p4), .val (.int ((p4 &&& (2147483647 : Int32)) % (5 : Int32))), .val (.int (p0.toInt8.toInt32)), .val (.int (p1.toInt8.toInt32)), .val (.int (p2.toInt8.toInt32)), .val (.int (p3.toInt8.toInt32)), .val (.ref b74), .val (.int k76_0), .unset, .unset, .unset, .unset, .unset] [(.int p1)])) _
        refine XS.sipush X74.here hx rfl (hb hby at_56) ?_
        show Steps p.tables e below (T74.setTop (mkF m 59 #[.val (.int p0), .val (.int p1), .val (.int p2), .val (.int p3), .val (.int p4), .val (.int ((p4 &&& (2147483647 : Int32)) % (5 : Int32))), .val (.int (p0.toInt8.toInt32)), .val (.int (p1.toInt8.toInt32)), .val (.int (p2.toInt8.toInt32)), .val (.int (p3.toInt8.toInt32)), .val (.ref b74), .val (.int k76_0), .unset, .unset, .unset, .unset, .unset] [(.int (128 : Int32)), (.int p1)])) _
        refine XS.iand X74.here hx rfl (hb hby at_59) rfl ?_
        exact kt
      have J78 : ∀ (k78_0 : Int32), k78_0 = (if (p1 &&& (128 : Int32)) = 0 then (1 : Int32) else (0 : Int32)) → Got p e below s (fun _ L => Fr n0 L) room_1.cells room_1.slots (some (.int (1 : Int32))) T74 (mkF m 68 #[.val (.int p0), .val (.int p1), .val (.int p2), .val (.int p3), .val (.int p4), .val (.int ((p4 &&& (2147483647 : Int32)) % (5 : Int32))), .val (.int (p0.toInt8.toInt32)), .val (.int (p1.toInt8.toInt32)), .val (.int (p2.toInt8.toInt32)), .val (.int (p3.toInt8.toInt32)), .val (.ref b74), .val (.int k76_0), .unset, .unset, .unset, .unset, .unset] [(.int k78_0)]) := by
        intro k78_0 hk78_0
        refine Got.step (T' := T74) (g' := (mkF m 75 #[.val (.int p0), .val (.int p1), .val (.int p2), .val (.int p3), .val (.int p4), .val (.int ((p4 &&& (2147483647 : Int32)) % (5 : Int32))), .val (.int (p0.toInt8.toInt32)), .val (.int (p1.toInt8.toInt32)), .val (.int (p2.toInt8.toInt32)), .val (.int (p3.toInt8.toInt32)), .val (.ref b74), .val (.int k76_0), .val (.int k78_0), .unset, .unset, .unset, .unset] [(.int (p2 &&& (128 : Int32)))])) (fun tq kt => ?_) ?_
        · show Steps p.tables e below (T74.setTop (mkF m 68 #[.val (.int p0), .val (.int p1), .val (.int p2), .val (.int p3), .val (.int p4), .val (.int ((p4 &&& (2147483647 : Int32)) % (5 : Int32))), .val (.int (p0.toInt8.toInt32)), .val (.int (p1.toInt8.toInt32)), .val (.int (p2.toInt8.toInt32)), .val (.int (p3.toInt8.toInt32)), .val (.ref b74), .val (.int k76_0), .unset, .unset, .unset, .unset, .unset] [(.int k78_0)])) _
          refine XS.istore X74.here hx rfl (hb hby at_68) rfl (l' := #[.val (.int p0), .val (.int p1), .val (.int p2), .val (.int p3), .val (.int p4), .val (.int ((p4 &&& (2147483647 : Int32)) % (5 : Int32))), .val (.int (p0.toInt8.toInt32)), .val (.int (p1.toInt8.toInt32)), .val (.int (p2.toInt8.toInt32)), .val (.int (p3.toInt8.toInt32)), .val (.ref b74), .val (.int k76_0), .val (.int k78_0), .unset, .unset, .unset, .unset]) rfl ?_
          show Steps p.tables e below (T74.setTop (mkF m 70 #[.val (.int p0), .val (.int p1), .val (.int p2), .val (.int p3), .val (.int p4), .val (.int ((p4 &&& (2147483647 : Int32)) % (5 : Int32))), .val (.int (p0.toInt8.toInt32)), .val (.int (p1.toInt8.toInt32)), .val (.int (p2.toInt8.toInt32)), .val (.int (p3.toInt8.toInt32)), .val (.ref b74), .val (.int k76_0), .val (.int k78_0), .unset, .unset, .unset, .unset] [])) _
          refine XS.iloadN X74.here hx rfl (hb hby at_70) rfl ?_
          show Steps p.tables e below (T74.setTop (mkF m 71 #[.val (.int p0), .val (.int p1), .val (.int p2), .val (.int p3), .val (.int p4), .val (.int ((p4 &&& (2147483647 : Int32)) % (5 : Int32))), .val (.int (p0.toInt8.toInt32)), .val (.int (p1.toInt8.toInt32)), .val (.int (p2.toInt8.toInt32)), .val (.int (p3.toInt8.toInt32)), .val (.ref b74), .val (.int k76_0), .val (.int k78_0), .unset, .unset, .unset, .unset] [(.int p2)])) _
          refine XS.sipush X74.here hx rfl (hb hby at_71) ?_
          show Steps p.tables e below (T74.setTop (mkF m 74 #[.val (.int p0), .val (.int p1), .val (.int p2), .val (.int p3), .val (.int p4), .val (.int ((p4 &&& (2147483647 : Int32)) % (5 : Int32))), .val (.int (p0.toInt8.toInt32)), .val (.int (p1.toInt8.toInt32)), .val (.int (p2.toInt8.toInt32)), .val (.int (p3.toInt8.toInt32)), .val (.ref b74), .val (.int k76_0), .val (.int k78_0), .unset, .unset, .unset, .unset] [(.int (128 : Int32)), (.int p2)])) _
          refine XS.iand X74.here hx rfl (hb hby at_74) rfl ?_
          exact kt
        have J80 : ∀ (k80_0 : Int32), k80_0 = (if (p2 &&& (128 : Int32)) = 0 then (1 : Int32) else (0 : Int32)) → Got p e below s (fun _ L => Fr n0 L) room_1.cells room_1.slots (some (.int (1 : Int32))) T74 (mkF m 83 #[.val (.int p0), .val (.int p1), .val (.int p2), .val (.int p3), .val (.int p4), .val (.int ((p4 &&& (2147483647 : Int32)) % (5 : Int32))), .val (.int (p0.toInt8.toInt32)), .val (.int (p1.toInt8.toInt32)), .val (.int (p2.toInt8.toInt32)), .val (.int (p3.toInt8.toInt32)), .val (.ref b74), .val (.int k76_0), .val (.int k78_0), .unset, .unset, .unset, .unset] [(.int k80_0)]) := by
          intro k80_0 hk80_0
          refine Got.step (T' := T74) (g' := (mkF m 90 #[.val (.int p0), .val (.int p1), .val (.int p2), .val (.int p3), .val (.int p4), .val (.int ((p4 &&& (2147483647 : Int32)) % (5 : Int32))), .val (.int (p0.toInt8.toInt32)), .val (.int (p1.toInt8.toInt32)), .val (.int (p2.toInt8.toInt32)), .val (.int (p3.toInt8.toInt32)), .val (.ref b74), .val (.int k76_0), .val (.int k78_0), .val (.int k80_0), .unset, .unset, .unset] [(.int (p3 &&& (128 : Int32)))])) (fun tq kt => ?_) ?_
          · show Steps p.tables e below (T74.setTop (mkF m 83 #[.val (.int p0), .val (.int p1), .val (.int p2), .val (.int p3), .val (.int p4), .val (.int ((p4 &&& (2147483647 : Int32)) % (5 : Int32))), .val (.int (p0.toInt8.toInt32)), .val (.int (p1.toInt8.toInt32)), .val (.int (p2.toInt8.toInt32)), .val (.int (p3.toInt8.toInt32)), .val (.ref b74), .val (.int k76_0), .val (.int k78_0), .unset, .unset, .unset, .unset] [(.int k80_0)])) _
            refine XS.istore X74.here hx rfl (hb hby at_83) rfl (l' := #[.val (.int p0), .val (.int p1), .val (.int p2), .val (.int p3), .val (.int p4), .val (.int ((p4 &&& (2147483647 : Int32)) % (5 : Int32))), .val (.int (p0.toInt8.toInt32)), .val (.int (p1.toInt8.toInt32)), .val (.int (p2.toInt8.toInt32)), .val (.int (p3.toInt8.toInt32)), .val (.ref b74), .val (.int k76_0), .val (.int k78_0), .val (.int k80_0), .unset, .unset, .unset]) rfl ?_
            show Steps p.tables e below (T74.setTop (mkF m 85 #[.val (.int p0), .val (.int p1), .val (.int p2), .val (.int p3), .val (.int p4), .val (.int ((p4 &&& (2147483647 : Int32)) % (5 : Int32))), .val (.int (p0.toInt8.toInt32)), .val (.int (p1.toInt8.toInt32)), .val (.int (p2.toInt8.toInt32)), .val (.int (p3.toInt8.toInt32)), .val (.ref b74), .val (.int k76_0), .val (.int k78_0), .val (.int k80_0), .unset, .unset, .unset] [])) _
            refine XS.iloadN X74.here hx rfl (hb hby at_85) rfl ?_
            show Steps p.tables e below (T74.setTop (mkF m 86 #[.val (.int p0), .val (.int p1), .val (.int p2), .val (.int p3), .val (.int p4), .val (.int ((p4 &&& (2147483647 : Int32)) % (5 : Int32))), .val (.int (p0.toInt8.toInt32)), .val (.int (p1.toInt8.toInt32)), .val (.int (p2.toInt8.toInt32)), .val (.int (p3.toInt8.toInt32)), .val (.ref b74), .val (.int k76_0), .val (.int k78_0), .val (.int k80_0), .unset, .unset, .unset] [(.int p3)])) _
            refine XS.sipush X74.here hx rfl (hb hby at_86) ?_
            show Steps p.tables e below (T74.setTop (mkF m 89 #[.val (.int p0), .val (.int p1), .val (.int p2), .val (.int p3), .val (.int p4), .val (.int ((p4 &&& (2147483647 : Int32)) % (5 : Int32))), .val (.int (p0.toInt8.toInt32)), .val (.int (p1.toInt8.toInt32)), .val (.int (p2.toInt8.toInt32)), .val (.int (p3.toInt8.toInt32)), .val (.ref b74), .val (.int k76_0), .val (.int k78_0), .val (.int k80_0), .unset, .unset, .unset] [(.int (128 : Int32)), (.int p3)])) _
            refine XS.iand X74.here hx rfl (hb hby at_89) rfl ?_
            exact kt
          have J82 : ∀ (k82_0 : Int32), k82_0 = (if (p3 &&& (128 : Int32)) = 0 then (1 : Int32) else (0 : Int32)) → Got p e below s (fun _ L => Fr n0 L) room_1.cells room_1.slots (some (.int (1 : Int32))) T74 (mkF m 98 #[.val (.int p0), .val (.int p1), .val (.int p2), .val (.int p3), .val (.int p4), .val (.int ((p4 &&& (2147483647 : Int32)) % (5 : Int32))), .val (.int (p0.toInt8.toInt32)), .val (.int (p1.toInt8.toInt32)), .val (.int (p2.toInt8.toInt32)), .val (.int (p3.toInt8.toInt32)), .val (.ref b74), .val (.int k76_0), .val (.int k78_0), .val (.int k80_0), .unset, .unset, .unset] [(.int k82_0)]) := by
            intro k82_0 hk82_0
            refine Got.step (T' := T74) (g' := (mkF m 108 #[.val (.int p0), .val (.int p1), .val (.int p2), .val (.int p3), .val (.int p4), .val (.int ((p4 &&& (2147483647 : Int32)) % (5 : Int32))), .val (.int (p0.toInt8.toInt32)), .val (.int (p1.toInt8.toInt32)), .val (.int (p2.toInt8.toInt32)), .val (.int (p3.toInt8.toInt32)), .val (.ref b74), .val (.int k76_0), .val (.int k78_0), .val (.int k80_0), .val (.int k82_0), .unset, .unset] [(.int k76_0)])) (fun tq kt => ?_) ?_
            · show Steps p.tables e below (T74.setTop (mkF m 98 #[.val (.int p0), .val (.int p1), .val (.int p2), .val (.int p3), .val (.int p4), .val (.int ((p4 &&& (2147483647 : Int32)) % (5 : Int32))), .val (.int (p0.toInt8.toInt32)), .val (.int (p1.toInt8.toInt32)), .val (.int (p2.toInt8.toInt32)), .val (.int (p3.toInt8.toInt32)), .val (.ref b74), .val (.int k76_0), .val (.int k78_0), .val (.int k80_0), .unset, .unset, .unset] [(.int k82_0)])) _
              refine XS.istore X74.here hx rfl (hb hby at_98) rfl (l' := #[.val (.int p0), .val (.int p1), .val (.int p2), .val (.int p3), .val (.int p4), .val (.int ((p4 &&& (2147483647 : Int32)) % (5 : Int32))), .val (.int (p0.toInt8.toInt32)), .val (.int (p1.toInt8.toInt32)), .val (.int (p2.toInt8.toInt32)), .val (.int (p3.toInt8.toInt32)), .val (.ref b74), .val (.int k76_0), .val (.int k78_0), .val (.int k80_0), .val (.int k82_0), .unset, .unset]) rfl ?_
              show Steps p.tables e below (T74.setTop (mkF m 100 #[.val (.int p0), .val (.int p1), .val (.int p2), .val (.int p3), .val (.int p4), .val (.int ((p4 &&& (2147483647 : Int32)) % (5 : Int32))), .val (.int (p0.toInt8.toInt32)), .val (.int (p1.toInt8.toInt32)), .val (.int (p2.toInt8.toInt32)), .val (.int (p3.toInt8.toInt32)), .val (.ref b74), .val (.int k76_0), .val (.int k78_0), .val (.int k80_0), .val (.int k82_0), .unset, .unset] [])) _
              refine XS.iload X74.here hx rfl (hb hby at_100) rfl ?_
              show Steps p.tables e below (T74.setTop (mkF m 102 #[.val (.int p0), .val (.int p1), .val (.int p2), .val (.int p3), .val (.int p4), .val (.int ((p4 &&& (2147483647 : Int32)) % (5 : Int32))), .val (.int (p0.toInt8.toInt32)), .val (.int (p1.toInt8.toInt32)), .val (.int (p2.toInt8.toInt32)), .val (.int (p3.toInt8.toInt32)), .val (.ref b74), .val (.int k76_0), .val (.int k78_0), .val (.int k80_0), .val (.int k82_0), .unset, .unset] [(.int ((p4 &&& (2147483647 : Int32)) % (5 : Int32)))])) _
              refine XS.iconst X74.here hx rfl (hb hby at_102) ?_
              show Steps p.tables e below (T74.setTop (mkF m 103 #[.val (.int p0), .val (.int p1), .val (.int p2), .val (.int p3), .val (.int p4), .val (.int ((p4 &&& (2147483647 : Int32)) % (5 : Int32))), .val (.int (p0.toInt8.toInt32)), .val (.int (p1.toInt8.toInt32)), .val (.int (p2.toInt8.toInt32)), .val (.int (p3.toInt8.toInt32)), .val (.ref b74), .val (.int k76_0), .val (.int k78_0), .val (.int k80_0), .val (.int k82_0), .unset, .unset] [(.int (1 : Int32)), (.int ((p4 &&& (2147483647 : Int32)) % (5 : Int32)))])) _
              refine XS.icmpNo X74.here hx rfl (hb hby at_103) rfl (XT.ii_lt_f (by rw [hlen]; decide)) ?_
              show Steps p.tables e below (T74.setTop (mkF m 106 #[.val (.int p0), .val (.int p1), .val (.int p2), .val (.int p3), .val (.int p4), .val (.int ((p4 &&& (2147483647 : Int32)) % (5 : Int32))), .val (.int (p0.toInt8.toInt32)), .val (.int (p1.toInt8.toInt32)), .val (.int (p2.toInt8.toInt32)), .val (.int (p3.toInt8.toInt32)), .val (.ref b74), .val (.int k76_0), .val (.int k78_0), .val (.int k80_0), .val (.int k82_0), .unset, .unset] [])) _
              refine XS.iload X74.here hx rfl (hb hby at_106) rfl ?_
              exact kt
            have J84 : ∀ (k84_0 : Int32), k84_0 = (if k76_0 = 0 then (0 : Int32) else (if k78_0 = 0 then (0 : Int32) else (1 : Int32))) → Got p e below s (fun _ L => Fr n0 L) room_1.cells room_1.slots (some (.int (1 : Int32))) T74 (mkF m 149 #[.val (.int p0), .val (.int p1), .val (.int p2), .val (.int p3), .val (.int p4), .val (.int ((p4 &&& (2147483647 : Int32)) % (5 : Int32))), .val (.int (p0.toInt8.toInt32)), .val (.int (p1.toInt8.toInt32)), .val (.int (p2.toInt8.toInt32)), .val (.int (p3.toInt8.toInt32)), .val (.ref b74), .val (.int k76_0), .val (.int k78_0), .val (.int k80_0), .val (.int k82_0), .unset, .unset] [(.int k84_0)]) := by
              intro k84_0 hk84_0
              refine Got.step (T' := T74) (g' := (mkF m 153 #[.val (.int p0), .val (.int p1), .val (.int p2), .val (.int p3), .val (.int p4), .val (.int ((p4 &&& (2147483647 : Int32)) % (5 : Int32))), .val (.int (p0.toInt8.toInt32)), .val (.int (p1.toInt8.toInt32)), .val (.int (p2.toInt8.toInt32)), .val (.int (p3.toInt8.toInt32)), .val (.ref b74), .val (.int k76_0), .val (.int k78_0), .val (.int k80_0), .val (.int k82_0), .val (.int k84_0), .unset] [(.ref b74)])) (fun tq kt => ?_) ?_
              · show Steps p.tables e below (T74.setTop (mkF m 149 #[.val (.int p0), .val (.int p1), .val (.int p2), .val (.int p3), .val (.int p4), .val (.int ((p4 &&& (2147483647 : Int32)) % (5 : Int32))), .val (.int (p0.toInt8.toInt32)), .val (.int (p1.toInt8.toInt32)), .val (.int (p2.toInt8.toInt32)), .val (.int (p3.toInt8.toInt32)), .val (.ref b74), .val (.int k76_0), .val (.int k78_0), .val (.int k80_0), .val (.int k82_0), .unset, .unset] [(.int k84_0)])) _
                refine XS.istore X74.here hx rfl (hb hby at_149) rfl (l' := #[.val (.int p0), .val (.int p1), .val (.int p2), .val (.int p3), .val (.int p4), .val (.int ((p4 &&& (2147483647 : Int32)) % (5 : Int32))), .val (.int (p0.toInt8.toInt32)), .val (.int (p1.toInt8.toInt32)), .val (.int (p2.toInt8.toInt32)), .val (.int (p3.toInt8.toInt32)), .val (.ref b74), .val (.int k76_0), .val (.int k78_0), .val (.int k80_0), .val (.int k82_0), .val (.int k84_0), .unset]) rfl ?_
                show Steps p.tables e below (T74.setTop (mkF m 151 #[.val (.int p0), .val (.int p1), .val (.int p2), .val (.int p3), .val (.int p4), .val (.int ((p4 &&& (2147483647 : Int32)) % (5 : Int32))), .val (.int (p0.toInt8.toInt32)), .val (.int (p1.toInt8.toInt32)), .val (.int (p2.toInt8.toInt32)), .val (.int (p3.toInt8.toInt32)), .val (.ref b74), .val (.int k76_0), .val (.int k78_0), .val (.int k80_0), .val (.int k82_0), .val (.int k84_0), .unset] [])) _
                refine XS.aload X74.here hx rfl (hb hby at_151) rfl rfl ?_
                exact kt
              obtain ⟨_, _, ⟨T87, L87, k87, n87⟩, -, X87, ⟨Lc87, hQ87, l87, y87, z87⟩, st87⟩ := Jvm.LawKit.callS X74 hx (y := (⟨"com/example/cytobridge/cytobridge/profile/CharacterSet", "isAscii", "([B)Z"⟩ : MethodName)) hown (mvT hZ (hw _ (List.mem_of_getElem? (i := 6) rfl))) (mvT hZ (hw _ (List.mem_of_getElem? (i := 7) rfl))) (mvT hZ (hw _ (List.mem_of_getElem? (i := 8) rfl))) (mvT hZ (hw _ (List.mem_of_getElem? (i := 9) rfl))) (by decide) (backOf (W := 0) (rm2 l Z a0 hw [] b74 [(p0.toInt8.toInt32), (p1.toInt8.toInt32)] (2 : Int32) ka74 h74 n0 Z0_75 B74_0 ⟨rfl, Nat.le_of_ble_eq_true rfl⟩) hZ (hw _ (List.mem_of_getElem? (i := 9) rfl)) (hw _ (List.mem_of_getElem? (i := 8) rfl)) (by decide) (by decide)) (g := (mkF m 153 #[.val (.int p0), .val (.int p1), .val (.int p2), .val (.int p3), .val (.int p4), .val (.int ((p4 &&& (2147483647 : Int32)) % (5 : Int32))), .val (.int (p0.toInt8.toInt32)), .val (.int (p1.toInt8.toInt32)), .val (.int (p2.toInt8.toInt32)), .val (.int (p3.toInt8.toInt32)), .val (.ref b74), .val (.int k76_0), .val (.int k78_0), .val (.int k80_0), .val (.int k82_0), .val (.int k84_0), .unset] [(.ref b74)])) rfl (by rw [hml]; rfl) (argsL := [(.ref b74)]) (rest := []) (lenOf pd_1 rfl) rfl (by show 2 * 0 + _ ≤ _; exact Nat.le_of_eq rfl) (hb hby at_153) (fun _ _ => ⟨rfl, e74, (by decide : 1 + 0 ≤ _), (by decide : 2 + 0 ≤ _)⟩)
              dsimp only [Pt.U, Pt.locs, Pt.cells, Pt.slots] at X87 l87 y87 z87 st87 hQ87
              subst l87 y87 z87
              obtain ⟨rfl, Nq87, e87⟩ := hQ87
              have N87 := Fr.app N74 Nq87
              refine Got.step st87 ?_
              show Got p e below s _ _ _ _ T87 (mkF m 156 #[.val (.int p0), .val (.int p1), .val (.int p2), .val (.int p3), .val (.int p4), .val (.int ((p4 &&& (2147483647 : Int32)) % (5 : Int32))), .val (.int (p0.toInt8.toInt32)), .val (.int (p1.toInt8.toInt32)), .val (.int (p2.toInt8.toInt32)), .val (.int (p3.toInt8.toInt32)), .val (.ref b74), .val (.int k76_0), .val (.int k78_0), .val (.int k80_0), .val (.int k82_0), .val (.int k84_0), .unset] [(.int (asc [(p0.toInt8.toInt32), (p1.toInt8.toInt32)]))])
              refine Got.step (T' := T87) (g' := (mkF m 170 #[.val (.int p0), .val (.int p1), .val (.int p2), .val (.int p3), .val (.int p4), .val (.int ((p4 &&& (2147483647 : Int32)) % (5 : Int32))), .val (.int (p0.toInt8.toInt32)), .val (.int (p1.toInt8.toInt32)), .val (.int (p2.toInt8.toInt32)), .val (.int (p3.toInt8.toInt32)), .val (.ref b74), .val (.int k76_0), .val (.int k78_0), .val (.int k80_0), .val (.int k82_0), .val (.int k84_0), .val (.int (asc [(p0.toInt8.toInt32), (p1.toInt8.toInt32)]))] [(.int (1 : Int32))])) (fun tq kt => ?_) ?_
              · show Steps p.tables e below (T87.setTop (mkF m 156 #[.val (.int p0), .val (.int p1), .val (.int p2), .val (.int p3), .val (.int p4), .val (.int ((p4 &&& (2147483647 : Int32)) % (5 : Int32))), .val (.int (p0.toInt8.toInt32)), .val (.int (p1.toInt8.toInt32)), .val (.int (p2.toInt8.toInt32)), .val (.int (p3.toInt8.toInt32)), .val (.ref b74), .val (.int k76_0), .val (.int k78_0), .val (.int k80_0), .val (.int k82_0), .val (.int k84_0), .unset] [(.int (asc [(p0.toInt8.toInt32), (p1.toInt8.toInt32)]))])) _
                refine XS.istore X87.here hx rfl (hb hby at_156) rfl (l' := #[.val (.int p0), .val (.int p1), .val (.int p2), .val (.int p3), .val (.int p4), .val (.int ((p4 &&& (2147483647 : Int32)) % (5 : Int32))), .val (.int (p0.toInt8.toInt32)), .val (.int (p1.toInt8.toInt32)), .val (.int (p2.toInt8.toInt32)), .val (.int (p3.toInt8.toInt32)), .val (.ref b74), .val (.int k76_0), .val (.int k78_0), .val (.int k80_0), .val (.int k82_0), .val (.int k84_0), .val (.int (asc [(p0.toInt8.toInt32), (p1.toInt8.toInt32)]))]) rfl ?_
                show Steps p.tables e below (T87.setTop (mkF m 158 #[.val (.int p0), .val (.int p1), .val (.int p2), .val (.int p3), .val (.int p4), .val (.int ((p4 &&& (2147483647 : Int32)) % (5 : Int32))), .val (.int (p0.toInt8.toInt32)), .val (.int (p1.toInt8.toInt32)), .val (.int (p2.toInt8.toInt32)), .val (.int (p3.toInt8.toInt32)), .val (.ref b74), .val (.int k76_0), .val (.int k78_0), .val (.int k80_0), .val (.int k82_0), .val (.int k84_0), .val (.int (asc [(p0.toInt8.toInt32), (p1.toInt8.toInt32)]))] [])) _
                refine XS.iload X87.here hx rfl (hb hby at_158) rfl ?_
                show Steps p.tables e below (T87.setTop (mkF m 160 #[.val (.int p0), .val (.int p1), .val (.int p2), .val (.int p3), .val (.int p4), .val (.int ((p4 &&& (2147483647 : Int32)) % (5 : Int32))), .val (.int (p0.toInt8.toInt32)), .val (.int (p1.toInt8.toInt32)), .val (.int (p2.toInt8.toInt32)), .val (.int (p3.toInt8.toInt32)), .val (.ref b74), .val (.int k76_0), .val (.int k78_0), .val (.int k80_0), .val (.int k82_0), .val (.int k84_0), .val (.int (asc [(p0.toInt8.toInt32), (p1.toInt8.toInt32)]))] [(.int (asc [(p0.toInt8.toInt32), (p1.toInt8.toInt32)]))])) _
                refine XS.iload X87.here hx rfl (hb hby at_160) rfl ?_
                show Steps p.tables e below (T87.setTop (mkF m 162 #[.val (.int p0), .val (.int p1), .val (.int p2), .val (.int p3), .val (.int p4), .val (.int ((p4 &&& (2147483647 : Int32)) % (5 : Int32))), .val (.int (p0.toInt8.toInt32)), .val (.int (p1.toInt8.toInt32)), .val (.int (p2.toInt8.toInt32)), .val (.int (p3.toInt8.toInt32)), .val (.ref b74), .val (.int k76_0), .val (.int k78_0), .val (.int k80_0), .val (.int k82_0), .val (.int k84_0), .val (.int (asc [(p0.toInt8.toInt32), (p1.toInt8.toInt32)]))] [(.int k84_0), (.int (asc [(p0.toInt8.toInt32), (p1.toInt8.toInt32)]))])) _
                refine XS.icmpNo X87.here hx rfl (hb hby at_162) rfl (XT.ii_ne_f (own_fin2 p0 p1 p2 p3 hlen hk76_0 hk78_0 hk80_0 hk82_0 hk84_0)) ?_
                show Steps p.tables e below (T87.setTop (mkF m 165 #[.val (.int p0), .val (.int p1), .val (.int p2), .val (.int p3), .val (.int p4), .val (.int ((p4 &&& (2147483647 : Int32)) % (5 : Int32))), .val (.int (p0.toInt8.toInt32)), .val (.int (p1.toInt8.toInt32)), .val (.int (p2.toInt8.toInt32)), .val (.int (p3.toInt8.toInt32)), .val (.ref b74), .val (.int k76_0), .val (.int k78_0), .val (.int k80_0), .val (.int k82_0), .val (.int k84_0), .val (.int (asc [(p0.toInt8.toInt32), (p1.toInt8.toInt32)]))] [])) _
                refine XS.iconst X87.here hx rfl (hb hby at_165) ?_
                show Steps p.tables e below (T87.setTop (mkF m 166 #[.val (.int p0), .val (.int p1), .val (.int p2), .val (.int p3), .val (.int p4), .val (.int ((p4 &&& (2147483647 : Int32)) % (5 : Int32))), .val (.int (p0.toInt8.toInt32)), .val (.int (p1.toInt8.toInt32)), .val (.int (p2.toInt8.toInt32)), .val (.int (p3.toInt8.toInt32)), .val (.ref b74), .val (.int k76_0), .val (.int k78_0), .val (.int k80_0), .val (.int k82_0), .val (.int k84_0), .val (.int (asc [(p0.toInt8.toInt32), (p1.toInt8.toInt32)]))] [(.int (1 : Int32))])) _
                refine XS.goto X87.here hx rfl (pc0 := 166) (pc' := 170) rfl (hb hby at_166) (by decide) (by decide) ?_
                exact kt
              exact Got.retN (y := (1 : Int32)) (t := .boolean) X87 hx Bd.returns (by simp) hlk (hb hby at_170) (by decide) N87 (by decide) (by decide)
            by_cases hc85 : (k76_0 = 0)
            · refine Got.step (T' := T74) (g' := (mkF m 149 #[.val (.int p0), .val (.int p1), .val (.int p2), .val (.int p3), .val (.int p4), .val (.int ((p4 &&& (2147483647 : Int32)) % (5 : Int32))), .val (.int (p0.toInt8.toInt32)), .val (.int (p1.toInt8.toInt32)), .val (.int (p2.toInt8.toInt32)), .val (.int (p3.toInt8.toInt32)), .val (.ref b74), .val (.int k76_0), .val (.int k78_0), .val (.int k80_0), .val (.int k82_0), .unset, .unset] [(.int (0 : Int32))])) (fun tq kt => ?_) ?_
              · show Steps p.tables e below (T74.setTop (mkF m 108 #[.val (.int p0), .val (.int p1), .val (.int p2), .val (.int p3), .val (.int p4), .val (.int ((p4 &&& (2147483647 : Int32)) % (5 : Int32))), .val (.int (p0.toInt8.toInt32)), .val (.int (p1.toInt8.toInt32)), .val (.int (p2.toInt8.toInt32)), .val (.int (p3.toInt8.toInt32)), .val (.ref b74), .val (.int k76_0), .val (.int k78_0), .val (.int k80_0), .val (.int k82_0), .unset, .unset] [(.int k76_0)])) _
                refine XS.ifYes X74.here hx rfl (pc0 := 108) (pc' := 148) rfl (hb hby at_108) rfl (XT.i0_eq_t hc85) (by decide) (by decide) ?_
                show Steps p.tables e below (T74.setTop (mkF m 148 #[.val (.int p0), .val (.int p1), .val (.int p2), .val (.int p3), .val (.int p4), .val (.int ((p4 &&& (2147483647 : Int32)) % (5 : Int32))), .val (.int (p0.toInt8.toInt32)), .val (.int (p1.toInt8.toInt32)), .val (.int (p2.toInt8.toInt32)), .val (.int (p3.toInt8.toInt32)), .val (.ref b74), .val (.int k76_0), .val (.int k78_0), .val (.int k80_0), .val (.int k82_0), .unset, .unset] [])) _
                refine XS.iconst X74.here hx rfl (hb hby at_148) ?_
                exact kt
              exact J84 (0 : Int32) (if_pos hc85).symm
            · refine Got.step (T' := T74) (g' := (mkF m 119 #[.val (.int p0), .val (.int p1), .val (.int p2), .val (.int p3), .val (.int p4), .val (.int ((p4 &&& (2147483647 : Int32)) % (5 : Int32))), .val (.int (p0.toInt8.toInt32)), .val (.int (p1.toInt8.toInt32)), .val (.int (p2.toInt8.toInt32)), .val (.int (p3.toInt8.toInt32)), .val (.ref b74), .val (.int k76_0), .val (.int k78_0), .val (.int k80_0), .val (.int k82_0), .unset, .unset] [(.int k78_0)])) (fun tq kt => ?_) ?_
              · show Steps p.tables e below (T74.setTop (mkF m 108 #[.val (.int p0), .val (.int p1), .val (.int p2), .val (.int p3), .val (.int p4), .val (.int ((p4 &&& (2147483647 : Int32)) % (5 : Int32))), .val (.int (p0.toInt8.toInt32)), .val (.int (p1.toInt8.toInt32)), .val (.int (p2.toInt8.toInt32)), .val (.int (p3.toInt8.toInt32)), .val (.ref b74), .val (.int k76_0), .val (.int k78_0), .val (.int k80_0), .val (.int k82_0), .unset, .unset] [(.int k76_0)])) _
                refine XS.ifNo X74.here hx rfl (hb hby at_108) rfl (XT.i0_eq_f hc85) ?_
                show Steps p.tables e below (T74.setTop (mkF m 111 #[.val (.int p0), .val (.int p1), .val (.int p2), .val (.int p3), .val (.int p4), .val (.int ((p4 &&& (2147483647 : Int32)) % (5 : Int32))), .val (.int (p0.toInt8.toInt32)), .val (.int (p1.toInt8.toInt32)), .val (.int (p2.toInt8.toInt32)), .val (.int (p3.toInt8.toInt32)), .val (.ref b74), .val (.int k76_0), .val (.int k78_0), .val (.int k80_0), .val (.int k82_0), .unset, .unset] [])) _
                refine XS.iload X74.here hx rfl (hb hby at_111) rfl ?_
                show Steps p.tables e below (T74.setTop (mkF m 113 #[.val (.int p0), .val (.int p1), .val (.int p2), .val (.int p3), .val (.int p4), .val (.int ((p4 &&& (2147483647 : Int32)) % (5 : Int32))), .val (.int (p0.toInt8.toInt32)), .val (.int (p1.toInt8.toInt32)), .val (.int (p2.toInt8.toInt32)), .val (.int (p3.toInt8.toInt32)), .val (.ref b74), .val (.int k76_0), .val (.int k78_0), .val (.int k80_0), .val (.int k82_0), .unset, .unset] [(.int ((p4 &&& (2147483647 : Int32)) % (5 : Int32)))])) _
                refine XS.iconst X74.here hx rfl (hb hby at_113) ?_
                show Steps p.tables e below (T74.setTop (mkF m 114 #[.val (.int p0), .val (.int p1), .val (.int p2), .val (.int p3), .val (.int p4), .val (.int ((p4 &&& (2147483647 : Int32)) % (5 : Int32))), .val (.int (p0.toInt8.toInt32)), .val (.int (p1.toInt8.toInt32)), .val (.int (p2.toInt8.toInt32)), .val (.int (p3.toInt8.toInt32)), .val (.ref b74), .val (.int k76_0), .val (.int k78_0), .val (.int k80_0), .val (.int k82_0), .unset, .unset] [(.int (2 : Int32)), (.int ((p4 &&& (2147483647 : Int32)) % (5 : Int32)))])) _
                refine XS.icmpNo X74.here hx rfl (hb hby at_114) rfl (XT.ii_lt_f (by rw [hlen]; decide)) ?_
                show Steps p.tables e below (T74.setTop (mkF m 117 #[.val (.int p0), .val (.int p1), .val (.int p2), .val (.int p3), .val (.int p4), .val (.int ((p4 &&& (2147483647 : Int32)) % (5 : Int32))), .val (.int (p0.toInt8.toInt32)), .val (.int (p1.toInt8.toInt32)), .val (.int (p2.toInt8.toInt32)), .val (.int (p3.toInt8.toInt32)), .val (.ref b74), .val (.int k76_0), .val (.int k78_0), .val (.int k80_0), .val (.int k82_0), .unset, .unset] [])) _
                refine XS.iload X74.here hx rfl (hb hby at_117) rfl ?_
                exact kt
              by_cases hc86 : (k78_0 = 0)
              · refine Got.step (T' := T74) (g' := (mkF m 149 #[.val (.int p0), .val (.int p1), .val (.int p2), .val (.int p3), .val (.int p4), .val (.int ((p4 &&& (2147483647 : Int32)) % (5 : Int32))), .val (.int (p0.toInt8.toInt32)), .val (.int (p1.toInt8.toInt32)), .val (.int (p2.toInt8.toInt32)), .val (.int (p3.toInt8.toInt32)), .val (.ref b74), .val (.int k76_0), .val (.int k78_0), .val (.int k80_0), .val (.int k82_0), .unset, .unset] [(.int (0 : Int32))])) (fun tq kt => ?_) ?_
                · show Steps p.tables e below (T74.setTop (mkF m 119 #[.val (.int p0), .val (.int p1), .val (.int p2), .val (.int p3), .val (.int p4), .val (.int ((p4 &&& (2147483647 : Int32)) % (5 : Int32))), .val (.int (p0.toInt8.toInt32)), .val (.int (p1.toInt8.toInt32)), .val (.int (p2.toInt8.toInt32)), .val (.int (p3.toInt8.toInt32)), .val (.ref b74), .val (.int k76_0), .val (.int k78_0), .val (.int k80_0), .val (.int k82_0), .unset, .unset] [(.int k78_0)])) _
                  refine XS.ifYes X74.here hx rfl (pc0 := 119) (pc' := 148) rfl (hb hby at_119) rfl (XT.i0_eq_t hc86) (by decide) (by decide) ?_
                  show Steps p.tables e below (T74.setTop (mkF m 148 #[.val (.int p0), .val (.int p1), .val (.int p2), .val (.int p3), .val (.int p4), .val (.int ((p4 &&& (2147483647 : Int32)) % (5 : Int32))), .val (.int (p0.toInt8.toInt32)), .val (.int (p1.toInt8.toInt32)), .val (.int (p2.toInt8.toInt32)), .val (.int (p3.toInt8.toInt32)), .val (.ref b74), .val (.int k76_0), .val (.int k78_0), .val (.int k80_0), .val (.int k82_0), .unset, .unset] [])) _
                  refine XS.iconst X74.here hx rfl (hb hby at_148) ?_
                  exact kt
                exact J84 (0 : Int32) ((if_neg hc85).trans (if_pos hc86)).symm
              · refine Got.step (T' := T74) (g' := (mkF m 149 #[.val (.int p0), .val (.int p1), .val (.int p2), .val (.int p3), .val (.int p4), .val (.int ((p4 &&& (2147483647 : Int32)) % (5 : Int32))), .val (.int (p0.toInt8.toInt32)), .val (.int (p1.toInt8.toInt32)), .val (.int (p2.toInt8.toInt32)), .val (.int (p3.toInt8.toInt32)), .val (.ref b74), .val (.int k76_0), .val (.int k78_0), .val (.int k80_0), .val (.int k82_0), .unset, .unset] [(.int (1 : Int32))])) (fun tq kt => ?_) ?_
                · show Steps p.tables e below (T74.setTop (mkF m 119 #[.val (.int p0), .val (.int p1), .val (.int p2), .val (.int p3), .val (.int p4), .val (.int ((p4 &&& (2147483647 : Int32)) % (5 : Int32))), .val (.int (p0.toInt8.toInt32)), .val (.int (p1.toInt8.toInt32)), .val (.int (p2.toInt8.toInt32)), .val (.int (p3.toInt8.toInt32)), .val (.ref b74), .val (.int k76_0), .val (.int k78_0), .val (.int k80_0), .val (.int k82_0), .unset, .unset] [(.int k78_0)])) _
                  refine XS.ifNo X74.here hx rfl (hb hby at_119) rfl (XT.i0_eq_f hc86) ?_
                  show Steps p.tables e below (T74.setTop (mkF m 122 #[.val (.int p0), .val (.int p1), .val (.int p2), .val (.int p3), .val (.int p4), .val (.int ((p4 &&& (2147483647 : Int32)) % (5 : Int32))), .val (.int (p0.toInt8.toInt32)), .val (.int (p1.toInt8.toInt32)), .val (.int (p2.toInt8.toInt32)), .val (.int (p3.toInt8.toInt32)), .val (.ref b74), .val (.int k76_0), .val (.int k78_0), .val (.int k80_0), .val (.int k82_0), .unset, .unset] [])) _
                  refine XS.iload X74.here hx rfl (hb hby at_122) rfl ?_
                  show Steps p.tables e below (T74.setTop (mkF m 124 #[.val (.int p0), .val (.int p1), .val (.int p2), .val (.int p3), .val (.int p4), .val (.int ((p4 &&& (2147483647 : Int32)) % (5 : Int32))), .val (.int (p0.toInt8.toInt32)), .val (.int (p1.toInt8.toInt32)), .val (.int (p2.toInt8.toInt32)), .val (.int (p3.toInt8.toInt32)), .val (.ref b74), .val (.int k76_0), .val (.int k78_0), .val (.int k80_0), .val (.int k82_0), .unset, .unset] [(.int ((p4 &&& (2147483647 : Int32)) % (5 : Int32)))])) _
                  refine XS.iconst X74.here hx rfl (hb hby at_124) ?_
                  show Steps p.tables e below (T74.setTop (mkF m 125 #[.val (.int p0), .val (.int p1), .val (.int p2), .val (.int p3), .val (.int p4), .val (.int ((p4 &&& (2147483647 : Int32)) % (5 : Int32))), .val (.int (p0.toInt8.toInt32)), .val (.int (p1.toInt8.toInt32)), .val (.int (p2.toInt8.toInt32)), .val (.int (p3.toInt8.toInt32)), .val (.ref b74), .val (.int k76_0), .val (.int k78_0), .val (.int k80_0), .val (.int k82_0), .unset, .unset] [(.int (3 : Int32)), (.int ((p4 &&& (2147483647 : Int32)) % (5 : Int32)))])) _
                  refine XS.icmpYes X74.here hx rfl (pc0 := 125) (pc' := 133) rfl (hb hby at_125) rfl (XT.ii_lt_t (by rw [hlen]; decide)) (by decide) (by decide) ?_
                  show Steps p.tables e below (T74.setTop (mkF m 133 #[.val (.int p0), .val (.int p1), .val (.int p2), .val (.int p3), .val (.int p4), .val (.int ((p4 &&& (2147483647 : Int32)) % (5 : Int32))), .val (.int (p0.toInt8.toInt32)), .val (.int (p1.toInt8.toInt32)), .val (.int (p2.toInt8.toInt32)), .val (.int (p3.toInt8.toInt32)), .val (.ref b74), .val (.int k76_0), .val (.int k78_0), .val (.int k80_0), .val (.int k82_0), .unset, .unset] [])) _
                  refine XS.iload X74.here hx rfl (hb hby at_133) rfl ?_
                  show Steps p.tables e below (T74.setTop (mkF m 135 #[.val (.int p0), .val (.int p1), .val (.int p2), .val (.int p3), .val (.int p4), .val (.int ((p4 &&& (2147483647 : Int32)) % (5 : Int32))), .val (.int (p0.toInt8.toInt32)), .val (.int (p1.toInt8.toInt32)), .val (.int (p2.toInt8.toInt32)), .val (.int (p3.toInt8.toInt32)), .val (.ref b74), .val (.int k76_0), .val (.int k78_0), .val (.int k80_0), .val (.int k82_0), .unset, .unset] [(.int ((p4 &&& (2147483647 : Int32)) % (5 : Int32)))])) _
                  refine XS.iconst X74.here hx rfl (hb hby at_135) ?_
                  show Steps p.tables e below (T74.setTop (mkF m 136 #[.val (.int p0), .val (.int p1), .val (.int p2), .val (.int p3), .val (.int p4), .val (.int ((p4 &&& (2147483647 : Int32)) % (5 : Int32))), .val (.int (p0.toInt8.toInt32)), .val (.int (p1.toInt8.toInt32)), .val (.int (p2.toInt8.toInt32)), .val (.int (p3.toInt8.toInt32)), .val (.ref b74), .val (.int k76_0), .val (.int k78_0), .val (.int k80_0), .val (.int k82_0), .unset, .unset] [(.int (4 : Int32)), (.int ((p4 &&& (2147483647 : Int32)) % (5 : Int32)))])) _
                  refine XS.icmpYes X74.here hx rfl (pc0 := 136) (pc' := 144) rfl (hb hby at_136) rfl (XT.ii_lt_t (by rw [hlen]; decide)) (by decide) (by decide) ?_
                  show Steps p.tables e below (T74.setTop (mkF m 144 #[.val (.int p0), .val (.int p1), .val (.int p2), .val (.int p3), .val (.int p4), .val (.int ((p4 &&& (2147483647 : Int32)) % (5 : Int32))), .val (.int (p0.toInt8.toInt32)), .val (.int (p1.toInt8.toInt32)), .val (.int (p2.toInt8.toInt32)), .val (.int (p3.toInt8.toInt32)), .val (.ref b74), .val (.int k76_0), .val (.int k78_0), .val (.int k80_0), .val (.int k82_0), .unset, .unset] [])) _
                  refine XS.iconst X74.here hx rfl (hb hby at_144) ?_
                  show Steps p.tables e below (T74.setTop (mkF m 145 #[.val (.int p0), .val (.int p1), .val (.int p2), .val (.int p3), .val (.int p4), .val (.int ((p4 &&& (2147483647 : Int32)) % (5 : Int32))), .val (.int (p0.toInt8.toInt32)), .val (.int (p1.toInt8.toInt32)), .val (.int (p2.toInt8.toInt32)), .val (.int (p3.toInt8.toInt32)), .val (.ref b74), .val (.int k76_0), .val (.int k78_0), .val (.int k80_0), .val (.int k82_0), .unset, .unset] [(.int (1 : Int32))])) _
                  refine XS.goto X74.here hx rfl (pc0 := 145) (pc' := 149) rfl (hb hby at_145) (by decide) (by decide) ?_
                  exact kt
                exact J84 (1 : Int32) ((if_neg hc85).trans (if_neg hc86)).symm
          by_cases hc83 : ((p3 &&& (128 : Int32)) = 0)
          · refine Got.step (T' := T74) (g' := (mkF m 98 #[.val (.int p0), .val (.int p1), .val (.int p2), .val (.int p3), .val (.int p4), .val (.int ((p4 &&& (2147483647 : Int32)) % (5 : Int32))), .val (.int (p0.toInt8.toInt32)), .val (.int (p1.toInt8.toInt32)), .val (.int (p2.toInt8.toInt32)), .val (.int (p3.toInt8.toInt32)), .val (.ref b74), .val (.int k76_0), .val (.int k78_0), .val (.int k80_0), .unset, .unset, .unset] [(.int (1 : Int32))])) (fun tq kt => ?_) ?_
            · show Steps p.tables e below (T74.setTop (mkF m 90 #[.val (.int p0), .val (.int p1), .val (.int p2), .val (.int p3), .val (.int p4), .val (.int ((p4 &&& (2147483647 : Int32)) % (5 : Int32))), .val (.int (p0.toInt8.toInt32)), .val (.int (p1.toInt8.toInt32)), .val (.int (p2.toInt8.toInt32)), .val (.int (p3.toInt8.toInt32)), .val (.ref b74), .val (.int k76_0), .val (.int k78_0), .val (.int k80_0), .unset, .unset, .unset] [(.int (p3 &&& (128 : Int32)))])) _
              refine XS.ifNo X74.here hx rfl (hb hby at_90) rfl (XT.i0_ne_f hc83) ?_
              show Steps p.tables e below (T74.setTop (mkF m 93 #[.val (.int p0), .val (.int p1), .val (.int p2), .val (.int p3), .val (.int p4), .val (.int ((p4 &&& (2147483647 : Int32)) % (5 : Int32))), .val (.int (p0.toInt8.toInt32)), .val (.int (p1.toInt8.toInt32)), .val (.int (p2.toInt8.toInt32)), .val (.int (p3.toInt8.toInt32)), .val (.ref b74), .val (.int k76_0), .val (.int k78_0), .val (.int k80_0), .unset, .unset, .unset] [])) _
              refine XS.iconst X74.here hx rfl (hb hby at_93) ?_
              show Steps p.tables e below (T74.setTop (mkF m 94 #[.val (.int p0), .val (.int p1), .val (.int p2), .val (.int p3), .val (.int p4), .val (.int ((p4 &&& (2147483647 : Int32)) % (5 : Int32))), .val (.int (p0.toInt8.toInt32)), .val (.int (p1.toInt8.toInt32)), .val (.int (p2.toInt8.toInt32)), .val (.int (p3.toInt8.toInt32)), .val (.ref b74), .val (.int k76_0), .val (.int k78_0), .val (.int k80_0), .unset, .unset, .unset] [(.int (1 : Int32))])) _
              refine XS.goto X74.here hx rfl (pc0 := 94) (pc' := 98) rfl (hb hby at_94) (by decide) (by decide) ?_
              exact kt
            exact J82 (1 : Int32) (if_pos hc83).symm
          · refine Got.step (T' := T74) (g' := (mkF m 98 #[.val (.int p0), .val (.int p1), .val (.int p2), .val (.int p3), .val (.int p4), .val (.int ((p4 &&& (2147483647 : Int32)) % (5 : Int32))), .val (.int (p0.toInt8.toInt32)), .val (.int (p1.toInt8.toInt32)), .val (.int (p2.toInt8.toInt32)), .val (.int (p3.toInt8.toInt32)), .val (.ref b74), .val (.int k76_0), .val (.int k78_0), .val (.int k80_0), .unset, .unset, .unset] [(.int (0 : Int32))])) (fun tq kt => ?_) ?_
            · show Steps p.tables e below (T74.setTop (mkF m 90 #[.val (.int p0), .val (.int p1), .val (.int p2), .val (.int p3), .val (.int p4), .val (.int ((p4 &&& (2147483647 : Int32)) % (5 : Int32))), .val (.int (p0.toInt8.toInt32)), .val (.int (p1.toInt8.toInt32)), .val (.int (p2.toInt8.toInt32)), .val (.int (p3.toInt8.toInt32)), .val (.ref b74), .val (.int k76_0), .val (.int k78_0), .val (.int k80_0), .unset, .unset, .unset] [(.int (p3 &&& (128 : Int32)))])) _
              refine XS.ifYes X74.here hx rfl (pc0 := 90) (pc' := 97) rfl (hb hby at_90) rfl (XT.i0_ne_t hc83) (by decide) (by decide) ?_
              show Steps p.tables e below (T74.setTop (mkF m 97 #[.val (.int p0), .val (.int p1), .val (.int p2), .val (.int p3), .val (.int p4), .val (.int ((p4 &&& (2147483647 : Int32)) % (5 : Int32))), .val (.int (p0.toInt8.toInt32)), .val (.int (p1.toInt8.toInt32)), .val (.int (p2.toInt8.toInt32)), .val (.int (p3.toInt8.toInt32)), .val (.ref b74), .val (.int k76_0), .val (.int k78_0), .val (.int k80_0), .unset, .unset, .unset] [])) _
              refine XS.iconst X74.here hx rfl (hb hby at_97) ?_
              exact kt
            exact J82 (0 : Int32) (if_neg hc83).symm
        by_cases hc81 : ((p2 &&& (128 : Int32)) = 0)
        · refine Got.step (T' := T74) (g' := (mkF m 83 #[.val (.int p0), .val (.int p1), .val (.int p2), .val (.int p3), .val (.int p4), .val (.int ((p4 &&& (2147483647 : Int32)) % (5 : Int32))), .val (.int (p0.toInt8.toInt32)), .val (.int (p1.toInt8.toInt32)), .val (.int (p2.toInt8.toInt32)), .val (.int (p3.toInt8.toInt32)), .val (.ref b74), .val (.int k76_0), .val (.int k78_0), .unset, .unset, .unset, .unset] [(.int (1 : Int32))])) (fun tq kt => ?_) ?_
          · show Steps p.tables e below (T74.setTop (mkF m 75 #[.val (.int p0), .val (.int p1), .val (.int p2), .val (.int p3), .val (.int p4), .val (.int ((p4 &&& (2147483647 : Int32)) % (5 : Int32))), .val (.int (p0.toInt8.toInt32)), .val (.int (p1.toInt8.toInt32)), .val (.int (p2.toInt8.toInt32)), .val (.int (p3.toInt8.toInt32)), .val (.ref b74), .val (.int k76_0), .val (.int k78_0), .unset, .unset, .unset, .unset] [(.int (p2 &&& (128 : Int32)))])) _
            refine XS.ifNo X74.here hx rfl (hb hby at_75) rfl (XT.i0_ne_f hc81) ?_
            show Steps p.tables e below (T74.setTop (mkF m 78 #[.val (.int p0), .val (.int p1), .val (.int p2), .val (.int p3), .val (.int p4), .val (.int ((p4 &&& (2147483647 : Int32)) % (5 : Int32))), .val (.int (p0.toInt8.toInt32)), .val (.int (p1.toInt8.toInt32)), .val (.int (p2.toInt8.toInt32)), .val (.int (p3.toInt8.toInt32)), .val (.ref b74), .val (.int k76_0), .val (.int k78_0), .unset, .unset, .unset, .unset] [])) _
            refine XS.iconst X74.here hx rfl (hb hby at_78) ?_
            show Steps p.tables e below (T74.setTop (mkF m 79 #[.val (.int p0), .val (.int p1), .val (.int p2), .val (.int p3), .val (.int p4), .val (.int ((p4 &&& (2147483647 : Int32)) % (5 : Int32))), .val (.int (p0.toInt8.toInt32)), .val (.int (p1.toInt8.toInt32)), .val (.int (p2.toInt8.toInt32)), .val (.int (p3.toInt8.toInt32)), .val (.ref b74), .val (.int k76_0), .val (.int k78_0), .unset, .unset, .unset, .unset] [(.int (1 : Int32))])) _
            refine XS.goto X74.here hx rfl (pc0 := 79) (pc' := 83) rfl (hb hby at_79) (by decide) (by decide) ?_
            exact kt
          exact J80 (1 : Int32) (if_pos hc81).symm
        · refine Got.step (T' := T74) (g' := (mkF m 83 #[.val (.int p0), .val (.int p1), .val (.int p2), .val (.int p3), .val (.int p4), .val (.int ((p4 &&& (2147483647 : Int32)) % (5 : Int32))), .val (.int (p0.toInt8.toInt32)), .val (.int (p1.toInt8.toInt32)), .val (.int (p2.toInt8.toInt32)), .val (.int (p3.toInt8.toInt32)), .val (.ref b74), .val (.int k76_0), .val (.int k78_0), .unset, .unset, .unset, .unset] [(.int (0 : Int32))])) (fun tq kt => ?_) ?_
          · show Steps p.tables e below (T74.setTop (mkF m 75 #[.val (.int p0), .val (.int p1), .val (.int p2), .val (.int p3), .val (.int p4), .val (.int ((p4 &&& (2147483647 : Int32)) % (5 : Int32))), .val (.int (p0.toInt8.toInt32)), .val (.int (p1.toInt8.toInt32)), .val (.int (p2.toInt8.toInt32)), .val (.int (p3.toInt8.toInt32)), .val (.ref b74), .val (.int k76_0), .val (.int k78_0), .unset, .unset, .unset, .unset] [(.int (p2 &&& (128 : Int32)))])) _
            refine XS.ifYes X74.here hx rfl (pc0 := 75) (pc' := 82) rfl (hb hby at_75) rfl (XT.i0_ne_t hc81) (by decide) (by decide) ?_
            show Steps p.tables e below (T74.setTop (mkF m 82 #[.val (.int p0), .val (.int p1), .val (.int p2), .val (.int p3), .val (.int p4), .val (.int ((p4 &&& (2147483647 : Int32)) % (5 : Int32))), .val (.int (p0.toInt8.toInt32)), .val (.int (p1.toInt8.toInt32)), .val (.int (p2.toInt8.toInt32)), .val (.int (p3.toInt8.toInt32)), .val (.ref b74), .val (.int k76_0), .val (.int k78_0), .unset, .unset, .unset, .unset] [])) _
            refine XS.iconst X74.here hx rfl (hb hby at_82) ?_
            exact kt
          exact J80 (0 : Int32) (if_neg hc81).symm
      by_cases hc79 : ((p1 &&& (128 : Int32)) = 0)
      · refine Got.step (T' := T74) (g' := (mkF m 68 #[.val (.int p0), .val (.int p1), .val (.int p2), .val (.int p3), .val (.int p4), .val (.int ((p4 &&& (2147483647 : Int32)) % (5 : Int32))), .val (.int (p0.toInt8.toInt32)), .val (.int (p1.toInt8.toInt32)), .val (.int (p2.toInt8.toInt32)), .val (.int (p3.toInt8.toInt32)), .val (.ref b74), .val (.int k76_0), .unset, .unset, .unset, .unset, .unset] [(.int (1 : Int32))])) (fun tq kt => ?_) ?_
        · show Steps p.tables e below (T74.setTop (mkF m 60 #[.val (.int p0), .val (.int p1), .val (.int p2), .val (.int p3), .val (.int p4), .val (.int ((p4 &&& (2147483647 : Int32)) % (5 : Int32))), .val (.int (p0.toInt8.toInt32)), .val (.int (p1.toInt8.toInt32)), .val (.int (p2.toInt8.toInt32)), .val (.int (p3.toInt8.toInt32)), .val (.ref b74), .val (.int k76_0), .unset, .unset, .unset, .unset, .unset] [(.int (p1 &&& (128 : Int32)))])) _
          refine XS.ifNo X74.here hx rfl (hb hby at_60) rfl (XT.i0_ne_f hc79) ?_
          show Steps p.tables e below (T74.setTop (mkF m 63 #[.val (.int p0), .val (.int p1), .val (.int p2), .val (.int p3), .val (.int p4), .val (.int ((p4 &&& (2147483647 : Int32)) % (5 : Int32))), .val (.int (p0.toInt8.toInt32)), .val (.int (p1.toInt8.toInt32)), .val (.int (p2.toInt8.toInt32)), .val (.int (p3.toInt8.toInt32)), .val (.ref b74), .val (.int k76_0), .unset, .unset, .unset, .unset, .unset] [])) _
          refine XS.iconst X74.here hx rfl (hb hby at_63) ?_
          show Steps p.tables e below (T74.setTop (mkF m 64 #[.val (.int p0), .val (.int p1), .val (.int p2), .val (.int p3), .val (.int p4), .val (.int ((p4 &&& (2147483647 : Int32)) % (5 : Int32))), .val (.int (p0.toInt8.toInt32)), .val (.int (p1.toInt8.toInt32)), .val (.int (p2.toInt8.toInt32)), .val (.int (p3.toInt8.toInt32)), .val (.ref b74), .val (.int k76_0), .unset, .unset, .unset, .unset, .unset] [(.int (1 : Int32))])) _
          refine XS.goto X74.here hx rfl (pc0 := 64) (pc' := 68) rfl (hb hby at_64) (by decide) (by decide) ?_
          exact kt
        exact J78 (1 : Int32) (if_pos hc79).symm
      · refine Got.step (T' := T74) (g' := (mkF m 68 #[.val (.int p0), .val (.int p1), .val (.int p2), .val (.int p3), .val (.int p4), .val (.int ((p4 &&& (2147483647 : Int32)) % (5 : Int32))), .val (.int (p0.toInt8.toInt32)), .val (.int (p1.toInt8.toInt32)), .val (.int (p2.toInt8.toInt32)), .val (.int (p3.toInt8.toInt32)), .val (.ref b74), .val (.int k76_0), .unset, .unset, .unset, .unset, .unset] [(.int (0 : Int32))])) (fun tq kt => ?_) ?_
        · show Steps p.tables e below (T74.setTop (mkF m 60 #[.val (.int p0), .val (.int p1), .val (.int p2), .val (.int p3), .val (.int p4), .val (.int ((p4 &&& (2147483647 : Int32)) % (5 : Int32))), .val (.int (p0.toInt8.toInt32)), .val (.int (p1.toInt8.toInt32)), .val (.int (p2.toInt8.toInt32)), .val (.int (p3.toInt8.toInt32)), .val (.ref b74), .val (.int k76_0), .unset, .unset, .unset, .unset, .unset] [(.int (p1 &&& (128 : Int32)))])) _
          refine XS.ifYes X74.here hx rfl (pc0 := 60) (pc' := 67) rfl (hb hby at_60) rfl (XT.i0_ne_t hc79) (by decide) (by decide) ?_
          show Steps p.tables e below (T74.setTop (mkF m 67 #[.val (.int p0), .val (.int p1), .val (.int p2), .val (.int p3), .val (.int p4), .val (.int ((p4 &&& (2147483647 : Int32)) % (5 : Int32))), .val (.int (p0.toInt8.toInt32)), .val (.int (p1.toInt8.toInt32)), .val (.int (p2.toInt8.toInt32)), .val (.int (p3.toInt8.toInt32)), .val (.ref b74), .val (.int k76_0), .unset, .unset, .unset, .unset, .unset] [])) _
          refine XS.iconst X74.here hx rfl (hb hby at_67) ?_
          exact kt
        exact J78 (0 : Int32) (if_neg hc79).symm
    by_cases hc77 : ((p0 &&& (128 : Int32)) = 0)
    · refine Got.step (T' := T74) (g' := (mkF m 53 #[.val (.int p0), .val (.int p1), .val (.int p2), .val (.int p3), .val (.int p4), .val (.int ((p4 &&& (2147483647 : Int32)) % (5 : Int32))), .val (.int (p0.toInt8.toInt32)), .val (.int (p1.toInt8.toInt32)), .val (.int (p2.toInt8.toInt32)), .val (.int (p3.toInt8.toInt32)), .val (.ref b74), .unset, .unset, .unset, .unset, .unset, .unset] [(.int (1 : Int32))])) (fun tq kt => ?_) ?_
      · show Steps p.tables e below (T74.setTop (mkF m 45 #[.val (.int p0), .val (.int p1), .val (.int p2), .val (.int p3), .val (.int p4), .val (.int ((p4 &&& (2147483647 : Int32)) % (5 : Int32))), .val (.int (p0.toInt8.toInt32)), .val (.int (p1.toInt8.toInt32)), .val (.int (p2.toInt8.toInt32)), .val (.int (p3.toInt8.toInt32)), .val (.ref b74), .unset, .unset, .unset, .unset, .unset, .unset] [(.int (p0 &&& (128 : Int32)))])) _
        refine XS.ifNo X74.here hx rfl (hb hby at_45) rfl (XT.i0_ne_f hc77) ?_
        show Steps p.tables e below (T74.setTop (mkF m 48 #[.val (.int p0), .val (.int p1), .val (.int p2), .val (.int p3), .val (.int p4), .val (.int ((p4 &&& (2147483647 : Int32)) % (5 : Int32))), .val (.int (p0.toInt8.toInt32)), .val (.int (p1.toInt8.toInt32)), .val (.int (p2.toInt8.toInt32)), .val (.int (p3.toInt8.toInt32)), .val (.ref b74), .unset, .unset, .unset, .unset, .unset, .unset] [])) _
        refine XS.iconst X74.here hx rfl (hb hby at_48) ?_
        show Steps p.tables e below (T74.setTop (mkF m 49 #[.val (.int p0), .val (.int p1), .val (.int p2), .val (.int p3), .val (.int p4), .val (.int ((p4 &&& (2147483647 : Int32)) % (5 : Int32))), .val (.int (p0.toInt8.toInt32)), .val (.int (p1.toInt8.toInt32)), .val (.int (p2.toInt8.toInt32)), .val (.int (p3.toInt8.toInt32)), .val (.ref b74), .unset, .unset, .unset, .unset, .unset, .unset] [(.int (1 : Int32))])) _
        refine XS.goto X74.here hx rfl (pc0 := 49) (pc' := 53) rfl (hb hby at_49) (by decide) (by decide) ?_
        exact kt
      exact J76 (1 : Int32) (if_pos hc77).symm
    · refine Got.step (T' := T74) (g' := (mkF m 53 #[.val (.int p0), .val (.int p1), .val (.int p2), .val (.int p3), .val (.int p4), .val (.int ((p4 &&& (2147483647 : Int32)) % (5 : Int32))), .val (.int (p0.toInt8.toInt32)), .val (.int (p1.toInt8.toInt32)), .val (.int (p2.toInt8.toInt32)), .val (.int (p3.toInt8.toInt32)), .val (.ref b74), .unset, .unset, .unset, .unset, .unset, .unset] [(.int (0 : Int32))])) (fun tq kt => ?_) ?_
      · show Steps p.tables e below (T74.setTop (mkF m 45 #[.val (.int p0), .val (.int p1), .val (.int p2), .val (.int p3), .val (.int p4), .val (.int ((p4 &&& (2147483647 : Int32)) % (5 : Int32))), .val (.int (p0.toInt8.toInt32)), .val (.int (p1.toInt8.toInt32)), .val (.int (p2.toInt8.toInt32)), .val (.int (p3.toInt8.toInt32)), .val (.ref b74), .unset, .unset, .unset, .unset, .unset, .unset] [(.int (p0 &&& (128 : Int32)))])) _
        refine XS.ifYes X74.here hx rfl (pc0 := 45) (pc' := 52) rfl (hb hby at_45) rfl (XT.i0_ne_t hc77) (by decide) (by decide) ?_
        show Steps p.tables e below (T74.setTop (mkF m 52 #[.val (.int p0), .val (.int p1), .val (.int p2), .val (.int p3), .val (.int p4), .val (.int ((p4 &&& (2147483647 : Int32)) % (5 : Int32))), .val (.int (p0.toInt8.toInt32)), .val (.int (p1.toInt8.toInt32)), .val (.int (p2.toInt8.toInt32)), .val (.int (p3.toInt8.toInt32)), .val (.ref b74), .unset, .unset, .unset, .unset, .unset, .unset] [])) _
        refine XS.iconst X74.here hx rfl (hb hby at_52) ?_
        exact kt
      exact J76 (0 : Int32) (if_neg hc77).symm
  · obtain ⟨_, _, ⟨T88, L88, k88, n88⟩, -, X88, ⟨Lc88, hQ88, l88, y88, z88⟩, st88⟩ := Jvm.LawKit.callS X0 hx (y := (⟨"com/example/cytobridge/cytobridge/profile/CharacterSetIsAsciiPinLaw", "build", "(IBBBB)[B"⟩ : MethodName)) hown (mvT hZ (hw _ (List.mem_of_getElem? (i := 1) rfl))) (mvT hZ (hw _ (List.mem_of_getElem? (i := 2) rfl))) (mvT hZ (hw _ (List.mem_of_getElem? (i := 3) rfl))) (mvT hZ (hw _ (List.mem_of_getElem? (i := 4) rfl))) (by decide) (backOf (W := 0) (rm1_3 l Z a0 hw [] ((p4 &&& (2147483647 : Int32)) % (5 : Int32)) (p0.toInt8.toInt32) (p1.toInt8.toInt32) (p2.toInt8.toInt32) (p3.toInt8.toInt32) h0 n0 Z0 hlen (narB _) (fits_nar_byte _) (narB _) (fits_nar_byte _) (narB _) (fits_nar_byte _) (narB _) (fits_nar_byte _)) hZ (hw _ (List.mem_of_getElem? (i := 4) rfl)) (hw _ (List.mem_of_getElem? (i := 3) rfl)) (by decide) (by decide)) (g := (mkF m 35 #[.val (.int p0), .val (.int p1), .val (.int p2), .val (.int p3), .val (.int p4), .val (.int ((p4 &&& (2147483647 : Int32)) % (5 : Int32))), .val (.int (p0.toInt8.toInt32)), .val (.int (p1.toInt8.toInt32)), .val (.int (p2.toInt8.toInt32)), .val (.int (p3.toInt8.toInt32)), .unset, .unset, .unset, .unset, .unset, .unset, .unset] [(.int (p3.toInt8.toInt32)), (.int (p2.toInt8.toInt32)), (.int (p1.toInt8.toInt32)), (.int (p0.toInt8.toInt32)), (.int ((p4 &&& (2147483647 : Int32)) % (5 : Int32)))])) rfl (by rw [hml]; rfl) (argsL := [(.int ((p4 &&& (2147483647 : Int32)) % (5 : Int32))), (.int (p0.toInt8.toInt32)), (.int (p1.toInt8.toInt32)), (.int (p2.toInt8.toInt32)), (.int (p3.toInt8.toInt32))]) (rest := []) (lenOf pd_0 rfl) rfl (by show 2 * 0 + _ ≤ _; exact Nat.le_of_eq rfl) (hb hby at_35) (fun _ _ => ⟨rfl, e0, (by decide : 0 + 1 ≤ _), (by decide : 0 + 3 ≤ _)⟩)
    dsimp only [Pt.U, Pt.locs, Pt.cells, Pt.slots] at X88 l88 y88 z88 st88 hQ88
    subst l88 y88 z88
    obtain ⟨b88, g88⟩ : ∃ z, z = h0.size := ⟨_, rfl⟩
    rw [← g88] at hQ88
    obtain ⟨h88, e88⟩ : ∃ z, T88.heap = z := ⟨_, rfl⟩
    rw [e88] at hQ88
    obtain ⟨rfl, Nq88, K88, ⟨ka88, B88_0⟩⟩ := hQ88
    have N88 := Fr.app N0 Nq88
    have gn_b88 : n0 ≤ b88 := by rw [g88]; exact Z0
    have Z0_89 : n0 ≤ h88.size := (Nat.le_trans Z0 K88.1)
    refine Got.step st88 ?_
    show Got p e below s _ _ _ _ T88 (mkF m 38 #[.val (.int p0), .val (.int p1), .val (.int p2), .val (.int p3), .val (.int p4), .val (.int ((p4 &&& (2147483647 : Int32)) % (5 : Int32))), .val (.int (p0.toInt8.toInt32)), .val (.int (p1.toInt8.toInt32)), .val (.int (p2.toInt8.toInt32)), .val (.int (p3.toInt8.toInt32)), .unset, .unset, .unset, .unset, .unset, .unset, .unset] [(.ref b88)])
    refine Got.step (T' := T88) (g' := (mkF m 45 #[.val (.int p0), .val (.int p1), .val (.int p2), .val (.int p3), .val (.int p4), .val (.int ((p4 &&& (2147483647 : Int32)) % (5 : Int32))), .val (.int (p0.toInt8.toInt32)), .val (.int (p1.toInt8.toInt32)), .val (.int (p2.toInt8.toInt32)), .val (.int (p3.toInt8.toInt32)), .val (.ref b88), .unset, .unset, .unset, .unset, .unset, .unset] [(.int (p0 &&& (128 : Int32)))])) (fun tq kt => ?_) ?_
    · show Steps p.tables e below (T88.setTop (mkF m 38 #[.val (.int p0), .val (.int p1), .val (.int p2), .val (.int p3), .val (.int p4), .val (.int ((p4 &&& (2147483647 : Int32)) % (5 : Int32))), .val (.int (p0.toInt8.toInt32)), .val (.int (p1.toInt8.toInt32)), .val (.int (p2.toInt8.toInt32)), .val (.int (p3.toInt8.toInt32)), .unset, .unset, .unset, .unset, .unset, .unset, .unset] [(.ref b88)])) _
      refine XS.astore X88.here hx rfl (hb hby at_38) rfl rfl (l' := #[.val (.int p0), .val (.int p1), .val (.int p2), .val (.int p3), .val (.int p4), .val (.int ((p4 &&& (2147483647 : Int32)) % (5 : Int32))), .val (.int (p0.toInt8.toInt32)), .val (.int (p1.toInt8.toInt32)), .val (.int (p2.toInt8.toInt32)), .val (.int (p3.toInt8.toInt32)), .val (.ref b88), .unset, .unset, .unset, .unset, .unset, .unset]) rfl ?_
      show Steps p.tables e below (T88.setTop (mkF m 40 #[.val (.int p0), .val (.int p1), .val (.int p2), .val (.int p3), .val (.int p4), .val (.int ((p4 &&& (2147483647 : Int32)) % (5 : Int32))), .val (.int (p0.toInt8.toInt32)), .val (.int (p1.toInt8.toInt32)), .val (.int (p2.toInt8.toInt32)), .val (.int (p3.toInt8.toInt32)), .val (.ref b88), .unset, .unset, .unset, .unset, .unset, .unset] [])) _
      refine XS.iloadN X88.here hx rfl (hb hby at_40) rfl ?_
      show Steps p.tables e below (T88.setTop (mkF m 41 #[.val (.int p0), .val (.int p1), .val (.int p2), .val (.int p3), .val (.int p4), .val (.int ((p4 &&& (2147483647 : Int32)) % (5 : Int32))), .val (.int (p0.toInt8.toInt32)), .val (.int (p1.toInt8.toInt32)), .val (.int (p2.toInt8.toInt32)), .val (.int (p3.toInt8.toInt32)), .val (.ref b88), .unset, .unset, .unset, .unset, .unset, .unset] [(.int p0)])) _
      refine XS.sipush X88.here hx rfl (hb hby at_41) ?_
      show Steps p.tables e below (T88.setTop (mkF m 44 #[.val (.int p0), .val (.int p1), .val (.int p2), .val (.int p3), .val (.int p4), .val (.int ((p4 &&& (2147483647 : Int32)) % (5 : Int32))), .val (.int (p0.toInt8.toInt32)), .val (.int (p1.toInt8.toInt32)), .val (.int (p2.toInt8.toInt32)), .val (.int (p3.toInt8.toInt32)), .val (.ref b88), .unset, .unset, .unset, .unset, .unset, .unset] [(.int (128 : Int32)), (.int p0)])) _
      refine XS.iand X88.here hx rfl (hb hby at_44) rfl ?_
      exact kt
    have J90 : ∀ (k90_0 : Int32), k90_0 = (if (p0 &&& (128 : Int32)) = 0 then (1 : Int32) else (0 : Int32)) → Got p e below s (fun _ L => Fr n0 L) room_1.cells room_1.slots (some (.int (1 : Int32))) T88 (mkF m 53 #[.val (.int p0), .val (.int p1), .val (.int p2), .val (.int p3), .val (.int p4), .val (.int ((p4 &&& (2147483647 : Int32)) % (5 : Int32))), .val (.int (p0.toInt8.toInt32)), .val (.int (p1.toInt8.toInt32)), .val (.int (p2.toInt8.toInt32)), .val (.int (p3.toInt8.toInt32)), .val (.ref b88), .unset, .unset, .unset, .unset, .unset, .unset] [(.int k90_0)]) := by
      intro k90_0 hk90_0
      refine Got.step (T' := T88) (g' := (mkF m 60 #[.val (.int p0), .val (.int p1), .val (.int p2), .val (.int p3), .val (.int p4), .val (.int ((p4 &&& (2147483647 : Int32)) % (5 : Int32))), .val (.int (p0.toInt8.toInt32)), .val (.int (p1.toInt8.toInt32)), .val (.int (p2.toInt8.toInt32)), .val (.int (p3.toInt8.toInt32)), .val (.ref b88), .val (.int k90_0), .unset, .unset, .unset, .unset, .unset] [(.int (p1 &&& (128 : Int32)))])) (fun tq kt => ?_) ?_
      · show Steps p.tables e below (T88.setTop (mkF m 53 #[.val (.int p0), .val (.int p1), .val (.int p2), .val (.int p3), .val (.int p4), .val (.int ((p4 &&& (2147483647 : Int32)) % (5 : Int32))), .val (.int (p0.toInt8.toInt32)), .val (.int (p1.toInt8.toInt32)), .val (.int (p2.toInt8.toInt32)), .val (.int (p3.toInt8.toInt32)), .val (.ref b88), .unset, .unset, .unset, .unset, .unset, .unset] [(.int k90_0)])) _
        refine XS.istore X88.here hx rfl (hb hby at_53) rfl (l' := #[.val (.int p0), .val (.int p1), .val (.int p2), .val (.int p3), .val (.int p4), .val (.int ((p4 &&& (2147483647 : Int32)) % (5 : Int32))), .val (.int (p0.toInt8.toInt32)), .val (.int (p1.toInt8.toInt32)), .val (.int (p2.toInt8.toInt32)), .val (.int (p3.toInt8.toInt32)), .val (.ref b88), .val (.int k90_0), .unset, .unset, .unset, .unset, .unset]) rfl ?_
        show Steps p.tables e below (T88.setTop (mkF m 55 #[.val (.int p0), .val (.int p1), .val (.int p2), .val (.int p3), .val (.int p4), .val (.int ((p4 &&& (2147483647 : Int32)) % (5 : Int32))), .val (.int (p0.toInt8.toInt32)), .val (.int (p1.toInt8.toInt32)), .val (.int (p2.toInt8.toInt32)), .val (.int (p3.toInt8.toInt32)), .val (.ref b88), .val (.int k90_0), .unset, .unset, .unset, .unset, .unset] [])) _
        refine XS.iloadN X88.here hx rfl (hb hby at_55) rfl ?_
        show Steps p.tables e below (T88.setTop (mkF m 56 #[.val (.int p0), .val (.int p1), .val (.int p2), .val (.int p3), .val (.int p4), .val (.int ((p4 &&& (2147483647 : Int32)) % (5 : Int32))), .val (.int (p0.toInt8.toInt32)), .val (.int (p1.toInt8.toInt32)), .val (.int (p2.toInt8.toInt32)), .val (.int (p3.toInt8.toInt32)), .val (.ref b88), .val (.int k90_0), .unset, .unset, .unset, .unset, .unset] [(.int p1)])) _
        refine XS.sipush X88.here hx rfl (hb hby at_56) ?_
        show Steps p.tables e below (T88.setTop (mkF m 59 #[.val (.int p0), .val (.int p1), .val (.int p2), .val (.int p3), .val (.int p4), .val (.int ((p4 &&& (2147483647 : Int32)) % (5 : Int32))), .val (.int (p0.toInt8.toInt32)), .val (.int (p1.toInt8.toInt32)), .val (.int (p2.toInt8.toInt32)), .val (.int (p3.toInt8.toInt32)), .val (.ref b88), .val (.int k90_0), .unset, .unset, .unset, .unset, .unset] [(.int (128 : Int32)), (.int p1)])) _
        refine XS.iand X88.here hx rfl (hb hby at_59) rfl ?_
        exact kt
      have J92 : ∀ (k92_0 : Int32), k92_0 = (if (p1 &&& (128 : Int32)) = 0 then (1 : Int32) else (0 : Int32)) → Got p e below s (fun _ L => Fr n0 L) room_1.cells room_1.slots (some (.int (1 : Int32))) T88 (mkF m 68 #[.val (.int p0), .val (.int p1), .val (.int p2), .val (.int p3), .val (.int p4), .val (.int ((p4 &&& (2147483647 : Int32)) % (5 : Int32))), .val (.int (p0.toInt8.toInt32)), .val (.int (p1.toInt8.toInt32)), .val (.int (p2.toInt8.toInt32)), .val (.int (p3.toInt8.toInt32)), .val (.ref b88), .val (.int k90_0), .unset, .unset, .unset, .unset, .unset] [(.int k92_0)]) := by
        intro k92_0 hk92_0
        refine Got.step (T' := T88) (g' := (mkF m 75 #[.val (.int p0), .val (.int p1), .val (.int p2), .val (.int p3), .val (.int p4), .val (.int ((p4 &&& (2147483647 : Int32)) % (5 : Int32))), .val (.int (p0.toInt8.toInt32)), .val (.int (p1.toInt8.toInt32)), .val (.int (p2.toInt8.toInt32)), .val (.int (p3.toInt8.toInt32)), .val (.ref b88), .val (.int k90_0), .val (.int k92_0), .unset, .unset, .unset, .unset] [(.int (p2 &&& (128 : Int32)))])) (fun tq kt => ?_) ?_
        · show Steps p.tables e below (T88.setTop (mkF m 68 #[.val (.int p0), .val (.int p1), .val (.int p2), .val (.int p3), .val (.int p4), .val (.int ((p4 &&& (2147483647 : Int32)) % (5 : Int32))), .val (.int (p0.toInt8.toInt32)), .val (.int (p1.toInt8.toInt32)), .val (.int (p2.toInt8.toInt32)), .val (.int (p3.toInt8.toInt32)), .val (.ref b88), .val (.int k90_0), .unset, .unset, .unset, .unset, .unset] [(.int k92_0)])) _
          refine XS.istore X88.here hx rfl (hb hby at_68) rfl (l' := #[.val (.int p0), .val (.int p1), .val (.int p2), .val (.int p3), .val (.int p4), .val (.int ((p4 &&& (2147483647 : Int32)) % (5 : Int32))), .val (.int (p0.toInt8.toInt32)), .val (.int (p1.toInt8.toInt32)), .val (.int (p2.toInt8.toInt32)), .val (.int (p3.toInt8.toInt32)), .val (.ref b88), .val (.int k90_0), .val (.int k92_0), .unset, .unset, .unset, .unset]) rfl ?_
          show Steps p.tables e below (T88.setTop (mkF m 70 #[.val (.int p0), .val (.int p1), .val (.int p2), .val (.int p3), .val (.int p4), .val (.int ((p4 &&& (2147483647 : Int32)) % (5 : Int32))), .val (.int (p0.toInt8.toInt32)), .val (.int (p1.toInt8.toInt32)), .val (.int (p2.toInt8.toInt32)), .val (.int (p3.toInt8.toInt32)), .val (.ref b88), .val (.int k90_0), .val (.int k92_0), .unset, .unset, .unset, .unset] [])) _
          refine XS.iloadN X88.here hx rfl (hb hby at_70) rfl ?_
          show Steps p.tables e below (T88.setTop (mkF m 71 #[.val (.int p0), .val (.int p1), .val (.int p2), .val (.int p3), .val (.int p4), .val (.int ((p4 &&& (2147483647 : Int32)) % (5 : Int32))), .val (.int (p0.toInt8.toInt32)), .val (.int (p1.toInt8.toInt32)), .val (.int (p2.toInt8.toInt32)), .val (.int (p3.toInt8.toInt32)), .val (.ref b88), .val (.int k90_0), .val (.int k92_0), .unset, .unset, .unset, .unset] [(.int p2)])) _
          refine XS.sipush X88.here hx rfl (hb hby at_71) ?_
          show Steps p.tables e below (T88.setTop (mkF m 74 #[.val (.int p0), .val (.int p1), .val (.int p2), .val (.int p3), .val (.int p4), .val (.int ((p4 &&& (2147483647 : Int32)) % (5 : Int32))), .val (.int (p0.toInt8.toInt32)), .val (.int (p1.toInt8.toInt32)), .val (.int (p2.toInt8.toInt32)), .val (.int (p3.toInt8.toInt32)), .val (.ref b88), .val (.int k90_0), .val (.int k92_0), .unset, .unset, .unset, .unset] [(.int (128 : Int32)), (.int p2)])) _
          refine XS.iand X88.here hx rfl (hb hby at_74) rfl ?_
          exact kt
        have J94 : ∀ (k94_0 : Int32), k94_0 = (if (p2 &&& (128 : Int32)) = 0 then (1 : Int32) else (0 : Int32)) → Got p e below s (fun _ L => Fr n0 L) room_1.cells room_1.slots (some (.int (1 : Int32))) T88 (mkF m 83 #[.val (.int p0), .val (.int p1), .val (.int p2), .val (.int p3), .val (.int p4), .val (.int ((p4 &&& (2147483647 : Int32)) % (5 : Int32))), .val (.int (p0.toInt8.toInt32)), .val (.int (p1.toInt8.toInt32)), .val (.int (p2.toInt8.toInt32)), .val (.int (p3.toInt8.toInt32)), .val (.ref b88), .val (.int k90_0), .val (.int k92_0), .unset, .unset, .unset, .unset] [(.int k94_0)]) := by
          intro k94_0 hk94_0
          refine Got.step (T' := T88) (g' := (mkF m 90 #[.val (.int p0), .val (.int p1), .val (.int p2), .val (.int p3), .val (.int p4), .val (.int ((p4 &&& (2147483647 : Int32)) % (5 : Int32))), .val (.int (p0.toInt8.toInt32)), .val (.int (p1.toInt8.toInt32)), .val (.int (p2.toInt8.toInt32)), .val (.int (p3.toInt8.toInt32)), .val (.ref b88), .val (.int k90_0), .val (.int k92_0), .val (.int k94_0), .unset, .unset, .unset] [(.int (p3 &&& (128 : Int32)))])) (fun tq kt => ?_) ?_
          · show Steps p.tables e below (T88.setTop (mkF m 83 #[.val (.int p0), .val (.int p1), .val (.int p2), .val (.int p3), .val (.int p4), .val (.int ((p4 &&& (2147483647 : Int32)) % (5 : Int32))), .val (.int (p0.toInt8.toInt32)), .val (.int (p1.toInt8.toInt32)), .val (.int (p2.toInt8.toInt32)), .val (.int (p3.toInt8.toInt32)), .val (.ref b88), .val (.int k90_0), .val (.int k92_0), .unset, .unset, .unset, .unset] [(.int k94_0)])) _
            refine XS.istore X88.here hx rfl (hb hby at_83) rfl (l' := #[.val (.int p0), .val (.int p1), .val (.int p2), .val (.int p3), .val (.int p4), .val (.int ((p4 &&& (2147483647 : Int32)) % (5 : Int32))), .val (.int (p0.toInt8.toInt32)), .val (.int (p1.toInt8.toInt32)), .val (.int (p2.toInt8.toInt32)), .val (.int (p3.toInt8.toInt32)), .val (.ref b88), .val (.int k90_0), .val (.int k92_0), .val (.int k94_0), .unset, .unset, .unset]) rfl ?_
            show Steps p.tables e below (T88.setTop (mkF m 85 #[.val (.int p0), .val (.int p1), .val (.int p2), .val (.int p3), .val (.int p4), .val (.int ((p4 &&& (2147483647 : Int32)) % (5 : Int32))), .val (.int (p0.toInt8.toInt32)), .val (.int (p1.toInt8.toInt32)), .val (.int (p2.toInt8.toInt32)), .val (.int (p3.toInt8.toInt32)), .val (.ref b88), .val (.int k90_0), .val (.int k92_0), .val (.int k94_0), .unset, .unset, .unset] [])) _
            refine XS.iloadN X88.here hx rfl (hb hby at_85) rfl ?_
            show Steps p.tables e below (T88.setTop (mkF m 86 #[.val (.int p0), .val (.int p1), .val (.int p2), .val (.int p3), .val (.int p4), .val (.int ((p4 &&& (2147483647 : Int32)) % (5 : Int32))), .val (.int (p0.toInt8.toInt32)), .val (.int (p1.toInt8.toInt32)), .val (.int (p2.toInt8.toInt32)), .val (.int (p3.toInt8.toInt32)), .val (.ref b88), .val (.int k90_0), .val (.int k92_0), .val (.int k94_0), .unset, .unset, .unset] [(.int p3)])) _
            refine XS.sipush X88.here hx rfl (hb hby at_86) ?_
            show Steps p.tables e below (T88.setTop (mkF m 89 #[.val (.int p0), .val (.int p1), .val (.int p2), .val (.int p3), .val (.int p4), .val (.int ((p4 &&& (2147483647 : Int32)) % (5 : Int32))), .val (.int (p0.toInt8.toInt32)), .val (.int (p1.toInt8.toInt32)), .val (.int (p2.toInt8.toInt32)), .val (.int (p3.toInt8.toInt32)), .val (.ref b88), .val (.int k90_0), .val (.int k92_0), .val (.int k94_0), .unset, .unset, .unset] [(.int (128 : Int32)), (.int p3)])) _
            refine XS.iand X88.here hx rfl (hb hby at_89) rfl ?_
            exact kt
          have J96 : ∀ (k96_0 : Int32), k96_0 = (if (p3 &&& (128 : Int32)) = 0 then (1 : Int32) else (0 : Int32)) → Got p e below s (fun _ L => Fr n0 L) room_1.cells room_1.slots (some (.int (1 : Int32))) T88 (mkF m 98 #[.val (.int p0), .val (.int p1), .val (.int p2), .val (.int p3), .val (.int p4), .val (.int ((p4 &&& (2147483647 : Int32)) % (5 : Int32))), .val (.int (p0.toInt8.toInt32)), .val (.int (p1.toInt8.toInt32)), .val (.int (p2.toInt8.toInt32)), .val (.int (p3.toInt8.toInt32)), .val (.ref b88), .val (.int k90_0), .val (.int k92_0), .val (.int k94_0), .unset, .unset, .unset] [(.int k96_0)]) := by
            intro k96_0 hk96_0
            refine Got.step (T' := T88) (g' := (mkF m 108 #[.val (.int p0), .val (.int p1), .val (.int p2), .val (.int p3), .val (.int p4), .val (.int ((p4 &&& (2147483647 : Int32)) % (5 : Int32))), .val (.int (p0.toInt8.toInt32)), .val (.int (p1.toInt8.toInt32)), .val (.int (p2.toInt8.toInt32)), .val (.int (p3.toInt8.toInt32)), .val (.ref b88), .val (.int k90_0), .val (.int k92_0), .val (.int k94_0), .val (.int k96_0), .unset, .unset] [(.int k90_0)])) (fun tq kt => ?_) ?_
            · show Steps p.tables e below (T88.setTop (mkF m 98 #[.val (.int p0), .val (.int p1), .val (.int p2), .val (.int p3), .val (.int p4), .val (.int ((p4 &&& (2147483647 : Int32)) % (5 : Int32))), .val (.int (p0.toInt8.toInt32)), .val (.int (p1.toInt8.toInt32)), .val (.int (p2.toInt8.toInt32)), .val (.int (p3.toInt8.toInt32)), .val (.ref b88), .val (.int k90_0), .val (.int k92_0), .val (.int k94_0), .unset, .unset, .unset] [(.int k96_0)])) _
              refine XS.istore X88.here hx rfl (hb hby at_98) rfl (l' := #[.val (.int p0), .val (.int p1), .val (.int p2), .val (.int p3), .val (.int p4), .val (.int ((p4 &&& (2147483647 : Int32)) % (5 : Int32))), .val (.int (p0.toInt8.toInt32)), .val (.int (p1.toInt8.toInt32)), .val (.int (p2.toInt8.toInt32)), .val (.int (p3.toInt8.toInt32)), .val (.ref b88), .val (.int k90_0), .val (.int k92_0), .val (.int k94_0), .val (.int k96_0), .unset, .unset]) rfl ?_
              show Steps p.tables e below (T88.setTop (mkF m 100 #[.val (.int p0), .val (.int p1), .val (.int p2), .val (.int p3), .val (.int p4), .val (.int ((p4 &&& (2147483647 : Int32)) % (5 : Int32))), .val (.int (p0.toInt8.toInt32)), .val (.int (p1.toInt8.toInt32)), .val (.int (p2.toInt8.toInt32)), .val (.int (p3.toInt8.toInt32)), .val (.ref b88), .val (.int k90_0), .val (.int k92_0), .val (.int k94_0), .val (.int k96_0), .unset, .unset] [])) _
              refine XS.iload X88.here hx rfl (hb hby at_100) rfl ?_
              show Steps p.tables e below (T88.setTop (mkF m 102 #[.val (.int p0), .val (.int p1), .val (.int p2), .val (.int p3), .val (.int p4), .val (.int ((p4 &&& (2147483647 : Int32)) % (5 : Int32))), .val (.int (p0.toInt8.toInt32)), .val (.int (p1.toInt8.toInt32)), .val (.int (p2.toInt8.toInt32)), .val (.int (p3.toInt8.toInt32)), .val (.ref b88), .val (.int k90_0), .val (.int k92_0), .val (.int k94_0), .val (.int k96_0), .unset, .unset] [(.int ((p4 &&& (2147483647 : Int32)) % (5 : Int32)))])) _
              refine XS.iconst X88.here hx rfl (hb hby at_102) ?_
              show Steps p.tables e below (T88.setTop (mkF m 103 #[.val (.int p0), .val (.int p1), .val (.int p2), .val (.int p3), .val (.int p4), .val (.int ((p4 &&& (2147483647 : Int32)) % (5 : Int32))), .val (.int (p0.toInt8.toInt32)), .val (.int (p1.toInt8.toInt32)), .val (.int (p2.toInt8.toInt32)), .val (.int (p3.toInt8.toInt32)), .val (.ref b88), .val (.int k90_0), .val (.int k92_0), .val (.int k94_0), .val (.int k96_0), .unset, .unset] [(.int (1 : Int32)), (.int ((p4 &&& (2147483647 : Int32)) % (5 : Int32)))])) _
              refine XS.icmpNo X88.here hx rfl (hb hby at_103) rfl (XT.ii_lt_f (by rw [hlen]; decide)) ?_
              show Steps p.tables e below (T88.setTop (mkF m 106 #[.val (.int p0), .val (.int p1), .val (.int p2), .val (.int p3), .val (.int p4), .val (.int ((p4 &&& (2147483647 : Int32)) % (5 : Int32))), .val (.int (p0.toInt8.toInt32)), .val (.int (p1.toInt8.toInt32)), .val (.int (p2.toInt8.toInt32)), .val (.int (p3.toInt8.toInt32)), .val (.ref b88), .val (.int k90_0), .val (.int k92_0), .val (.int k94_0), .val (.int k96_0), .unset, .unset] [])) _
              refine XS.iload X88.here hx rfl (hb hby at_106) rfl ?_
              exact kt
            have J98 : ∀ (k98_0 : Int32), k98_0 = (if k90_0 = 0 then (0 : Int32) else (if k92_0 = 0 then (0 : Int32) else (if k94_0 = 0 then (0 : Int32) else (1 : Int32)))) → Got p e below s (fun _ L => Fr n0 L) room_1.cells room_1.slots (some (.int (1 : Int32))) T88 (mkF m 149 #[.val (.int p0), .val (.int p1), .val (.int p2), .val (.int p3), .val (.int p4), .val (.int ((p4 &&& (2147483647 : Int32)) % (5 : Int32))), .val (.int (p0.toInt8.toInt32)), .val (.int (p1.toInt8.toInt32)), .val (.int (p2.toInt8.toInt32)), .val (.int (p3.toInt8.toInt32)), .val (.ref b88), .val (.int k90_0), .val (.int k92_0), .val (.int k94_0), .val (.int k96_0), .unset, .unset] [(.int k98_0)]) := by
              intro k98_0 hk98_0
              refine Got.step (T' := T88) (g' := (mkF m 153 #[.val (.int p0), .val (.int p1), .val (.int p2), .val (.int p3), .val (.int p4), .val (.int ((p4 &&& (2147483647 : Int32)) % (5 : Int32))), .val (.int (p0.toInt8.toInt32)), .val (.int (p1.toInt8.toInt32)), .val (.int (p2.toInt8.toInt32)), .val (.int (p3.toInt8.toInt32)), .val (.ref b88), .val (.int k90_0), .val (.int k92_0), .val (.int k94_0), .val (.int k96_0), .val (.int k98_0), .unset] [(.ref b88)])) (fun tq kt => ?_) ?_
              · show Steps p.tables e below (T88.setTop (mkF m 149 #[.val (.int p0), .val (.int p1), .val (.int p2), .val (.int p3), .val (.int p4), .val (.int ((p4 &&& (2147483647 : Int32)) % (5 : Int32))), .val (.int (p0.toInt8.toInt32)), .val (.int (p1.toInt8.toInt32)), .val (.int (p2.toInt8.toInt32)), .val (.int (p3.toInt8.toInt32)), .val (.ref b88), .val (.int k90_0), .val (.int k92_0), .val (.int k94_0), .val (.int k96_0), .unset, .unset] [(.int k98_0)])) _
                refine XS.istore X88.here hx rfl (hb hby at_149) rfl (l' := #[.val (.int p0), .val (.int p1), .val (.int p2), .val (.int p3), .val (.int p4), .val (.int ((p4 &&& (2147483647 : Int32)) % (5 : Int32))), .val (.int (p0.toInt8.toInt32)), .val (.int (p1.toInt8.toInt32)), .val (.int (p2.toInt8.toInt32)), .val (.int (p3.toInt8.toInt32)), .val (.ref b88), .val (.int k90_0), .val (.int k92_0), .val (.int k94_0), .val (.int k96_0), .val (.int k98_0), .unset]) rfl ?_
                show Steps p.tables e below (T88.setTop (mkF m 151 #[.val (.int p0), .val (.int p1), .val (.int p2), .val (.int p3), .val (.int p4), .val (.int ((p4 &&& (2147483647 : Int32)) % (5 : Int32))), .val (.int (p0.toInt8.toInt32)), .val (.int (p1.toInt8.toInt32)), .val (.int (p2.toInt8.toInt32)), .val (.int (p3.toInt8.toInt32)), .val (.ref b88), .val (.int k90_0), .val (.int k92_0), .val (.int k94_0), .val (.int k96_0), .val (.int k98_0), .unset] [])) _
                refine XS.aload X88.here hx rfl (hb hby at_151) rfl rfl ?_
                exact kt
              obtain ⟨_, _, ⟨T102, L102, k102, n102⟩, -, X102, ⟨Lc102, hQ102, l102, y102, z102⟩, st102⟩ := Jvm.LawKit.callS X88 hx (y := (⟨"com/example/cytobridge/cytobridge/profile/CharacterSet", "isAscii", "([B)Z"⟩ : MethodName)) hown (mvT hZ (hw _ (List.mem_of_getElem? (i := 6) rfl))) (mvT hZ (hw _ (List.mem_of_getElem? (i := 7) rfl))) (mvT hZ (hw _ (List.mem_of_getElem? (i := 8) rfl))) (mvT hZ (hw _ (List.mem_of_getElem? (i := 9) rfl))) (by decide) (backOf (W := 0) (rm2 l Z a0 hw [] b88 [(p0.toInt8.toInt32), (p1.toInt8.toInt32), (p2.toInt8.toInt32)] (3 : Int32) ka88 h88 n0 Z0_89 B88_0 ⟨rfl, Nat.le_of_ble_eq_true rfl⟩) hZ (hw _ (List.mem_of_getElem? (i := 9) rfl)) (hw _ (List.mem_of_getElem? (i := 8) rfl)) (by decide) (by decide)) (g := (mkF m 153 #[.val (.int p0), .val (.int p1), .val (.int p2), .val (.int p3), .val (.int p4), .val (.int ((p4 &&& (2147483647 : Int32)) % (5 : Int32))), .val (.int (p0.toInt8.toInt32)), .val (.int (p1.toInt8.toInt32)), .val (.int (p2.toInt8.toInt32)), .val (.int (p3.toInt8.toInt32)), .val (.ref b88), .val (.int k90_0), .val (.int k92_0), .val (.int k94_0), .val (.int k96_0), .val (.int k98_0), .unset] [(.ref b88)])) rfl (by rw [hml]; rfl) (argsL := [(.ref b88)]) (rest := []) (lenOf pd_1 rfl) rfl (by show 2 * 0 + _ ≤ _; exact Nat.le_of_eq rfl) (hb hby at_153) (fun _ _ => ⟨rfl, e88, (by decide : 1 + 0 ≤ _), (by decide : 3 + 0 ≤ _)⟩)
              dsimp only [Pt.U, Pt.locs, Pt.cells, Pt.slots] at X102 l102 y102 z102 st102 hQ102
              subst l102 y102 z102
              obtain ⟨rfl, Nq102, e102⟩ := hQ102
              have N102 := Fr.app N88 Nq102
              refine Got.step st102 ?_
              show Got p e below s _ _ _ _ T102 (mkF m 156 #[.val (.int p0), .val (.int p1), .val (.int p2), .val (.int p3), .val (.int p4), .val (.int ((p4 &&& (2147483647 : Int32)) % (5 : Int32))), .val (.int (p0.toInt8.toInt32)), .val (.int (p1.toInt8.toInt32)), .val (.int (p2.toInt8.toInt32)), .val (.int (p3.toInt8.toInt32)), .val (.ref b88), .val (.int k90_0), .val (.int k92_0), .val (.int k94_0), .val (.int k96_0), .val (.int k98_0), .unset] [(.int (asc [(p0.toInt8.toInt32), (p1.toInt8.toInt32), (p2.toInt8.toInt32)]))])
              refine Got.step (T' := T102) (g' := (mkF m 170 #[.val (.int p0), .val (.int p1), .val (.int p2), .val (.int p3), .val (.int p4), .val (.int ((p4 &&& (2147483647 : Int32)) % (5 : Int32))), .val (.int (p0.toInt8.toInt32)), .val (.int (p1.toInt8.toInt32)), .val (.int (p2.toInt8.toInt32)), .val (.int (p3.toInt8.toInt32)), .val (.ref b88), .val (.int k90_0), .val (.int k92_0), .val (.int k94_0), .val (.int k96_0), .val (.int k98_0), .val (.int (asc [(p0.toInt8.toInt32), (p1.toInt8.toInt32), (p2.toInt8.toInt32)]))] [(.int (1 : Int32))])) (fun tq kt => ?_) ?_
              · show Steps p.tables e below (T102.setTop (mkF m 156 #[.val (.int p0), .val (.int p1), .val (.int p2), .val (.int p3), .val (.int p4), .val (.int ((p4 &&& (2147483647 : Int32)) % (5 : Int32))), .val (.int (p0.toInt8.toInt32)), .val (.int (p1.toInt8.toInt32)), .val (.int (p2.toInt8.toInt32)), .val (.int (p3.toInt8.toInt32)), .val (.ref b88), .val (.int k90_0), .val (.int k92_0), .val (.int k94_0), .val (.int k96_0), .val (.int k98_0), .unset] [(.int (asc [(p0.toInt8.toInt32), (p1.toInt8.toInt32), (p2.toInt8.toInt32)]))])) _
                refine XS.istore X102.here hx rfl (hb hby at_156) rfl (l' := #[.val (.int p0), .val (.int p1), .val (.int p2), .val (.int p3), .val (.int p4), .val (.int ((p4 &&& (2147483647 : Int32)) % (5 : Int32))), .val (.int (p0.toInt8.toInt32)), .val (.int (p1.toInt8.toInt32)), .val (.int (p2.toInt8.toInt32)), .val (.int (p3.toInt8.toInt32)), .val (.ref b88), .val (.int k90_0), .val (.int k92_0), .val (.int k94_0), .val (.int k96_0), .val (.int k98_0), .val (.int (asc [(p0.toInt8.toInt32), (p1.toInt8.toInt32), (p2.toInt8.toInt32)]))]) rfl ?_
                show Steps p.tables e below (T102.setTop (mkF m 158 #[.val (.int p0), .val (.int p1), .val (.int p2), .val (.int p3), .val (.int p4), .val (.int ((p4 &&& (2147483647 : Int32)) % (5 : Int32))), .val (.int (p0.toInt8.toInt32)), .val (.int (p1.toInt8.toInt32)), .val (.int (p2.toInt8.toInt32)), .val (.int (p3.toInt8.toInt32)), .val (.ref b88), .val (.int k90_0), .val (.int k92_0), .val (.int k94_0), .val (.int k96_0), .val (.int k98_0), .val (.int (asc [(p0.toInt8.toInt32), (p1.toInt8.toInt32), (p2.toInt8.toInt32)]))] [])) _
                refine XS.iload X102.here hx rfl (hb hby at_158) rfl ?_
                show Steps p.tables e below (T102.setTop (mkF m 160 #[.val (.int p0), .val (.int p1), .val (.int p2), .val (.int p3), .val (.int p4), .val (.int ((p4 &&& (2147483647 : Int32)) % (5 : Int32))), .val (.int (p0.toInt8.toInt32)), .val (.int (p1.toInt8.toInt32)), .val (.int (p2.toInt8.toInt32)), .val (.int (p3.toInt8.toInt32)), .val (.ref b88), .val (.int k90_0), .val (.int k92_0), .val (.int k94_0), .val (.int k96_0), .val (.int k98_0), .val (.int (asc [(p0.toInt8.toInt32), (p1.toInt8.toInt32), (p2.toInt8.toInt32)]))] [(.int (asc [(p0.toInt8.toInt32), (p1.toInt8.toInt32), (p2.toInt8.toInt32)]))])) _
                refine XS.iload X102.here hx rfl (hb hby at_160) rfl ?_
                show Steps p.tables e below (T102.setTop (mkF m 162 #[.val (.int p0), .val (.int p1), .val (.int p2), .val (.int p3), .val (.int p4), .val (.int ((p4 &&& (2147483647 : Int32)) % (5 : Int32))), .val (.int (p0.toInt8.toInt32)), .val (.int (p1.toInt8.toInt32)), .val (.int (p2.toInt8.toInt32)), .val (.int (p3.toInt8.toInt32)), .val (.ref b88), .val (.int k90_0), .val (.int k92_0), .val (.int k94_0), .val (.int k96_0), .val (.int k98_0), .val (.int (asc [(p0.toInt8.toInt32), (p1.toInt8.toInt32), (p2.toInt8.toInt32)]))] [(.int k98_0), (.int (asc [(p0.toInt8.toInt32), (p1.toInt8.toInt32), (p2.toInt8.toInt32)]))])) _
                refine XS.icmpNo X102.here hx rfl (hb hby at_162) rfl (XT.ii_ne_f (own_fin3 p0 p1 p2 p3 hlen hk90_0 hk92_0 hk94_0 hk96_0 hk98_0)) ?_
                show Steps p.tables e below (T102.setTop (mkF m 165 #[.val (.int p0), .val (.int p1), .val (.int p2), .val (.int p3), .val (.int p4), .val (.int ((p4 &&& (2147483647 : Int32)) % (5 : Int32))), .val (.int (p0.toInt8.toInt32)), .val (.int (p1.toInt8.toInt32)), .val (.int (p2.toInt8.toInt32)), .val (.int (p3.toInt8.toInt32)), .val (.ref b88), .val (.int k90_0), .val (.int k92_0), .val (.int k94_0), .val (.int k96_0), .val (.int k98_0), .val (.int (asc [(p0.toInt8.toInt32), (p1.toInt8.toInt32), (p2.toInt8.toInt32)]))] [])) _
                refine XS.iconst X102.here hx rfl (hb hby at_165) ?_
                show Steps p.tables e below (T102.setTop (mkF m 166 #[.val (.int p0), .val (.int p1), .val (.int p2), .val (.int p3), .val (.int p4), .val (.int ((p4 &&& (2147483647 : Int32)) % (5 : Int32))), .val (.int (p0.toInt8.toInt32)), .val (.int (p1.toInt8.toInt32)), .val (.int (p2.toInt8.toInt32)), .val (.int (p3.toInt8.toInt32)), .val (.ref b88), .val (.int k90_0), .val (.int k92_0), .val (.int k94_0), .val (.int k96_0), .val (.int k98_0), .val (.int (asc [(p0.toInt8.toInt32), (p1.toInt8.toInt32), (p2.toInt8.toInt32)]))] [(.int (1 : Int32))])) _
                refine XS.goto X102.here hx rfl (pc0 := 166) (pc' := 170) rfl (hb hby at_166) (by decide) (by decide) ?_
                exact kt
              exact Got.retN (y := (1 : Int32)) (t := .boolean) X102 hx Bd.returns (by simp) hlk (hb hby at_170) (by decide) N102 (by decide) (by decide)
            by_cases hc99 : (k90_0 = 0)
            · refine Got.step (T' := T88) (g' := (mkF m 149 #[.val (.int p0), .val (.int p1), .val (.int p2), .val (.int p3), .val (.int p4), .val (.int ((p4 &&& (2147483647 : Int32)) % (5 : Int32))), .val (.int (p0.toInt8.toInt32)), .val (.int (p1.toInt8.toInt32)), .val (.int (p2.toInt8.toInt32)), .val (.int (p3.toInt8.toInt32)), .val (.ref b88), .val (.int k90_0), .val (.int k92_0), .val (.int k94_0), .val (.int k96_0), .unset, .unset] [(.int (0 : Int32))])) (fun tq kt => ?_) ?_
              · show Steps p.tables e below (T88.setTop (mkF m 108 #[.val (.int p0), .val (.int p1), .val (.int p2), .val (.int p3), .val (.int p4), .val (.int ((p4 &&& (2147483647 : Int32)) % (5 : Int32))), .val (.int (p0.toInt8.toInt32)), .val (.int (p1.toInt8.toInt32)), .val (.int (p2.toInt8.toInt32)), .val (.int (p3.toInt8.toInt32)), .val (.ref b88), .val (.int k90_0), .val (.int k92_0), .val (.int k94_0), .val (.int k96_0), .unset, .unset] [(.int k90_0)])) _
                refine XS.ifYes X88.here hx rfl (pc0 := 108) (pc' := 148) rfl (hb hby at_108) rfl (XT.i0_eq_t hc99) (by decide) (by decide) ?_
                show Steps p.tables e below (T88.setTop (mkF m 148 #[.val (.int p0), .val (.int p1), .val (.int p2), .val (.int p3), .val (.int p4), .val (.int ((p4 &&& (2147483647 : Int32)) % (5 : Int32))), .val (.int (p0.toInt8.toInt32)), .val (.int (p1.toInt8.toInt32)), .val (.int (p2.toInt8.toInt32)), .val (.int (p3.toInt8.toInt32)), .val (.ref b88), .val (.int k90_0), .val (.int k92_0), .val (.int k94_0), .val (.int k96_0), .unset, .unset] [])) _
                refine XS.iconst X88.here hx rfl (hb hby at_148) ?_
                exact kt
              exact J98 (0 : Int32) (if_pos hc99).symm
            · refine Got.step (T' := T88) (g' := (mkF m 119 #[.val (.int p0), .val (.int p1), .val (.int p2), .val (.int p3), .val (.int p4), .val (.int ((p4 &&& (2147483647 : Int32)) % (5 : Int32))), .val (.int (p0.toInt8.toInt32)), .val (.int (p1.toInt8.toInt32)), .val (.int (p2.toInt8.toInt32)), .val (.int (p3.toInt8.toInt32)), .val (.ref b88), .val (.int k90_0), .val (.int k92_0), .val (.int k94_0), .val (.int k96_0), .unset, .unset] [(.int k92_0)])) (fun tq kt => ?_) ?_
              · show Steps p.tables e below (T88.setTop (mkF m 108 #[.val (.int p0), .val (.int p1), .val (.int p2), .val (.int p3), .val (.int p4), .val (.int ((p4 &&& (2147483647 : Int32)) % (5 : Int32))), .val (.int (p0.toInt8.toInt32)), .val (.int (p1.toInt8.toInt32)), .val (.int (p2.toInt8.toInt32)), .val (.int (p3.toInt8.toInt32)), .val (.ref b88), .val (.int k90_0), .val (.int k92_0), .val (.int k94_0), .val (.int k96_0), .unset, .unset] [(.int k90_0)])) _
                refine XS.ifNo X88.here hx rfl (hb hby at_108) rfl (XT.i0_eq_f hc99) ?_
                show Steps p.tables e below (T88.setTop (mkF m 111 #[.val (.int p0), .val (.int p1), .val (.int p2), .val (.int p3), .val (.int p4), .val (.int ((p4 &&& (2147483647 : Int32)) % (5 : Int32))), .val (.int (p0.toInt8.toInt32)), .val (.int (p1.toInt8.toInt32)), .val (.int (p2.toInt8.toInt32)), .val (.int (p3.toInt8.toInt32)), .val (.ref b88), .val (.int k90_0), .val (.int k92_0), .val (.int k94_0), .val (.int k96_0), .unset, .unset] [])) _
                refine XS.iload X88.here hx rfl (hb hby at_111) rfl ?_
                show Steps p.tables e below (T88.setTop (mkF m 113 #[.val (.int p0), .val (.int p1), .val (.int p2), .val (.int p3), .val (.int p4), .val (.int ((p4 &&& (2147483647 : Int32)) % (5 : Int32))), .val (.int (p0.toInt8.toInt32)), .val (.int (p1.toInt8.toInt32)), .val (.int (p2.toInt8.toInt32)), .val (.int (p3.toInt8.toInt32)), .val (.ref b88), .val (.int k90_0), .val (.int k92_0), .val (.int k94_0), .val (.int k96_0), .unset, .unset] [(.int ((p4 &&& (2147483647 : Int32)) % (5 : Int32)))])) _
                refine XS.iconst X88.here hx rfl (hb hby at_113) ?_
                show Steps p.tables e below (T88.setTop (mkF m 114 #[.val (.int p0), .val (.int p1), .val (.int p2), .val (.int p3), .val (.int p4), .val (.int ((p4 &&& (2147483647 : Int32)) % (5 : Int32))), .val (.int (p0.toInt8.toInt32)), .val (.int (p1.toInt8.toInt32)), .val (.int (p2.toInt8.toInt32)), .val (.int (p3.toInt8.toInt32)), .val (.ref b88), .val (.int k90_0), .val (.int k92_0), .val (.int k94_0), .val (.int k96_0), .unset, .unset] [(.int (2 : Int32)), (.int ((p4 &&& (2147483647 : Int32)) % (5 : Int32)))])) _
                refine XS.icmpNo X88.here hx rfl (hb hby at_114) rfl (XT.ii_lt_f (by rw [hlen]; decide)) ?_
                show Steps p.tables e below (T88.setTop (mkF m 117 #[.val (.int p0), .val (.int p1), .val (.int p2), .val (.int p3), .val (.int p4), .val (.int ((p4 &&& (2147483647 : Int32)) % (5 : Int32))), .val (.int (p0.toInt8.toInt32)), .val (.int (p1.toInt8.toInt32)), .val (.int (p2.toInt8.toInt32)), .val (.int (p3.toInt8.toInt32)), .val (.ref b88), .val (.int k90_0), .val (.int k92_0), .val (.int k94_0), .val (.int k96_0), .unset, .unset] [])) _
                refine XS.iload X88.here hx rfl (hb hby at_117) rfl ?_
                exact kt
              by_cases hc100 : (k92_0 = 0)
              · refine Got.step (T' := T88) (g' := (mkF m 149 #[.val (.int p0), .val (.int p1), .val (.int p2), .val (.int p3), .val (.int p4), .val (.int ((p4 &&& (2147483647 : Int32)) % (5 : Int32))), .val (.int (p0.toInt8.toInt32)), .val (.int (p1.toInt8.toInt32)), .val (.int (p2.toInt8.toInt32)), .val (.int (p3.toInt8.toInt32)), .val (.ref b88), .val (.int k90_0), .val (.int k92_0), .val (.int k94_0), .val (.int k96_0), .unset, .unset] [(.int (0 : Int32))])) (fun tq kt => ?_) ?_
                · show Steps p.tables e below (T88.setTop (mkF m 119 #[.val (.int p0), .val (.int p1), .val (.int p2), .val (.int p3), .val (.int p4), .val (.int ((p4 &&& (2147483647 : Int32)) % (5 : Int32))), .val (.int (p0.toInt8.toInt32)), .val (.int (p1.toInt8.toInt32)), .val (.int (p2.toInt8.toInt32)), .val (.int (p3.toInt8.toInt32)), .val (.ref b88), .val (.int k90_0), .val (.int k92_0), .val (.int k94_0), .val (.int k96_0), .unset, .unset] [(.int k92_0)])) _
                  refine XS.ifYes X88.here hx rfl (pc0 := 119) (pc' := 148) rfl (hb hby at_119) rfl (XT.i0_eq_t hc100) (by decide) (by decide) ?_
                  show Steps p.tables e below (T88.setTop (mkF m 148 #[.val (.int p0), .val (.int p1), .val (.int p2), .val (.int p3), .val (.int p4), .val (.int ((p4 &&& (2147483647 : Int32)) % (5 : Int32))), .val (.int (p0.toInt8.toInt32)), .val (.int (p1.toInt8.toInt32)), .val (.int (p2.toInt8.toInt32)), .val (.int (p3.toInt8.toInt32)), .val (.ref b88), .val (.int k90_0), .val (.int k92_0), .val (.int k94_0), .val (.int k96_0), .unset, .unset] [])) _
                  refine XS.iconst X88.here hx rfl (hb hby at_148) ?_
                  exact kt
                exact J98 (0 : Int32) ((if_neg hc99).trans (if_pos hc100)).symm
              · refine Got.step (T' := T88) (g' := (mkF m 130 #[.val (.int p0), .val (.int p1), .val (.int p2), .val (.int p3), .val (.int p4), .val (.int ((p4 &&& (2147483647 : Int32)) % (5 : Int32))), .val (.int (p0.toInt8.toInt32)), .val (.int (p1.toInt8.toInt32)), .val (.int (p2.toInt8.toInt32)), .val (.int (p3.toInt8.toInt32)), .val (.ref b88), .val (.int k90_0), .val (.int k92_0), .val (.int k94_0), .val (.int k96_0), .unset, .unset] [(.int k94_0)])) (fun tq kt => ?_) ?_
                · show Steps p.tables e below (T88.setTop (mkF m 119 #[.val (.int p0), .val (.int p1), .val (.int p2), .val (.int p3), .val (.int p4), .val (.int ((p4 &&& (2147483647 : Int32)) % (5 : Int32))), .val (.int (p0.toInt8.toInt32)), .val (.int (p1.toInt8.toInt32)), .val (.int (p2.toInt8.toInt32)), .val (.int (p3.toInt8.toInt32)), .val (.ref b88), .val (.int k90_0), .val (.int k92_0), .val (.int k94_0), .val (.int k96_0), .unset, .unset] [(.int k92_0)])) _
                  refine XS.ifNo X88.here hx rfl (hb hby at_119) rfl (XT.i0_eq_f hc100) ?_
                  show Steps p.tables e below (T88.setTop (mkF m 122 #[.val (.int p0), .val (.int p1), .val (.int p2), .val (.int p3), .val (.int p4), .val (.int ((p4 &&& (2147483647 : Int32)) % (5 : Int32))), .val (.int (p0.toInt8.toInt32)), .val (.int (p1.toInt8.toInt32)), .val (.int (p2.toInt8.toInt32)), .val (.int (p3.toInt8.toInt32)), .val (.ref b88), .val (.int k90_0), .val (.int k92_0), .val (.int k94_0), .val (.int k96_0), .unset, .unset] [])) _
                  refine XS.iload X88.here hx rfl (hb hby at_122) rfl ?_
                  show Steps p.tables e below (T88.setTop (mkF m 124 #[.val (.int p0), .val (.int p1), .val (.int p2), .val (.int p3), .val (.int p4), .val (.int ((p4 &&& (2147483647 : Int32)) % (5 : Int32))), .val (.int (p0.toInt8.toInt32)), .val (.int (p1.toInt8.toInt32)), .val (.int (p2.toInt8.toInt32)), .val (.int (p3.toInt8.toInt32)), .val (.ref b88), .val (.int k90_0), .val (.int k92_0), .val (.int k94_0), .val (.int k96_0), .unset, .unset] [(.int ((p4 &&& (2147483647 : Int32)) % (5 : Int32)))])) _
                  refine XS.iconst X88.here hx rfl (hb hby at_124) ?_
                  show Steps p.tables e below (T88.setTop (mkF m 125 #[.val (.int p0), .val (.int p1), .val (.int p2), .val (.int p3), .val (.int p4), .val (.int ((p4 &&& (2147483647 : Int32)) % (5 : Int32))), .val (.int (p0.toInt8.toInt32)), .val (.int (p1.toInt8.toInt32)), .val (.int (p2.toInt8.toInt32)), .val (.int (p3.toInt8.toInt32)), .val (.ref b88), .val (.int k90_0), .val (.int k92_0), .val (.int k94_0), .val (.int k96_0), .unset, .unset] [(.int (3 : Int32)), (.int ((p4 &&& (2147483647 : Int32)) % (5 : Int32)))])) _
                  refine XS.icmpNo X88.here hx rfl (hb hby at_125) rfl (XT.ii_lt_f (by rw [hlen]; decide)) ?_
                  show Steps p.tables e below (T88.setTop (mkF m 128 #[.val (.int p0), .val (.int p1), .val (.int p2), .val (.int p3), .val (.int p4), .val (.int ((p4 &&& (2147483647 : Int32)) % (5 : Int32))), .val (.int (p0.toInt8.toInt32)), .val (.int (p1.toInt8.toInt32)), .val (.int (p2.toInt8.toInt32)), .val (.int (p3.toInt8.toInt32)), .val (.ref b88), .val (.int k90_0), .val (.int k92_0), .val (.int k94_0), .val (.int k96_0), .unset, .unset] [])) _
                  refine XS.iload X88.here hx rfl (hb hby at_128) rfl ?_
                  exact kt
                by_cases hc101 : (k94_0 = 0)
                · refine Got.step (T' := T88) (g' := (mkF m 149 #[.val (.int p0), .val (.int p1), .val (.int p2), .val (.int p3), .val (.int p4), .val (.int ((p4 &&& (2147483647 : Int32)) % (5 : Int32))), .val (.int (p0.toInt8.toInt32)), .val (.int (p1.toInt8.toInt32)), .val (.int (p2.toInt8.toInt32)), .val (.int (p3.toInt8.toInt32)), .val (.ref b88), .val (.int k90_0), .val (.int k92_0), .val (.int k94_0), .val (.int k96_0), .unset, .unset] [(.int (0 : Int32))])) (fun tq kt => ?_) ?_
                  · show Steps p.tables e below (T88.setTop (mkF m 130 #[.val (.int p0), .val (.int p1), .val (.int p2), .val (.int p3), .val (.int p4), .val (.int ((p4 &&& (2147483647 : Int32)) % (5 : Int32))), .val (.int (p0.toInt8.toInt32)), .val (.int (p1.toInt8.toInt32)), .val (.int (p2.toInt8.toInt32)), .val (.int (p3.toInt8.toInt32)), .val (.ref b88), .val (.int k90_0), .val (.int k92_0), .val (.int k94_0), .val (.int k96_0), .unset, .unset] [(.int k94_0)])) _
                    refine XS.ifYes X88.here hx rfl (pc0 := 130) (pc' := 148) rfl (hb hby at_130) rfl (XT.i0_eq_t hc101) (by decide) (by decide) ?_
                    show Steps p.tables e below (T88.setTop (mkF m 148 #[.val (.int p0), .val (.int p1), .val (.int p2), .val (.int p3), .val (.int p4), .val (.int ((p4 &&& (2147483647 : Int32)) % (5 : Int32))), .val (.int (p0.toInt8.toInt32)), .val (.int (p1.toInt8.toInt32)), .val (.int (p2.toInt8.toInt32)), .val (.int (p3.toInt8.toInt32)), .val (.ref b88), .val (.int k90_0), .val (.int k92_0), .val (.int k94_0), .val (.int k96_0), .unset, .unset] [])) _
                    refine XS.iconst X88.here hx rfl (hb hby at_148) ?_
                    exact kt
                  exact J98 (0 : Int32) ((if_neg hc99).trans ((if_neg hc100).trans (if_pos hc101))).symm
                · refine Got.step (T' := T88) (g' := (mkF m 149 #[.val (.int p0), .val (.int p1), .val (.int p2), .val (.int p3), .val (.int p4), .val (.int ((p4 &&& (2147483647 : Int32)) % (5 : Int32))), .val (.int (p0.toInt8.toInt32)), .val (.int (p1.toInt8.toInt32)), .val (.int (p2.toInt8.toInt32)), .val (.int (p3.toInt8.toInt32)), .val (.ref b88), .val (.int k90_0), .val (.int k92_0), .val (.int k94_0), .val (.int k96_0), .unset, .unset] [(.int (1 : Int32))])) (fun tq kt => ?_) ?_
                  · show Steps p.tables e below (T88.setTop (mkF m 130 #[.val (.int p0), .val (.int p1), .val (.int p2), .val (.int p3), .val (.int p4), .val (.int ((p4 &&& (2147483647 : Int32)) % (5 : Int32))), .val (.int (p0.toInt8.toInt32)), .val (.int (p1.toInt8.toInt32)), .val (.int (p2.toInt8.toInt32)), .val (.int (p3.toInt8.toInt32)), .val (.ref b88), .val (.int k90_0), .val (.int k92_0), .val (.int k94_0), .val (.int k96_0), .unset, .unset] [(.int k94_0)])) _
                    refine XS.ifNo X88.here hx rfl (hb hby at_130) rfl (XT.i0_eq_f hc101) ?_
                    show Steps p.tables e below (T88.setTop (mkF m 133 #[.val (.int p0), .val (.int p1), .val (.int p2), .val (.int p3), .val (.int p4), .val (.int ((p4 &&& (2147483647 : Int32)) % (5 : Int32))), .val (.int (p0.toInt8.toInt32)), .val (.int (p1.toInt8.toInt32)), .val (.int (p2.toInt8.toInt32)), .val (.int (p3.toInt8.toInt32)), .val (.ref b88), .val (.int k90_0), .val (.int k92_0), .val (.int k94_0), .val (.int k96_0), .unset, .unset] [])) _
                    refine XS.iload X88.here hx rfl (hb hby at_133) rfl ?_
                    show Steps p.tables e below (T88.setTop (mkF m 135 #[.val (.int p0), .val (.int p1), .val (.int p2), .val (.int p3), .val (.int p4), .val (.int ((p4 &&& (2147483647 : Int32)) % (5 : Int32))), .val (.int (p0.toInt8.toInt32)), .val (.int (p1.toInt8.toInt32)), .val (.int (p2.toInt8.toInt32)), .val (.int (p3.toInt8.toInt32)), .val (.ref b88), .val (.int k90_0), .val (.int k92_0), .val (.int k94_0), .val (.int k96_0), .unset, .unset] [(.int ((p4 &&& (2147483647 : Int32)) % (5 : Int32)))])) _
                    refine XS.iconst X88.here hx rfl (hb hby at_135) ?_
                    show Steps p.tables e below (T88.setTop (mkF m 136 #[.val (.int p0), .val (.int p1), .val (.int p2), .val (.int p3), .val (.int p4), .val (.int ((p4 &&& (2147483647 : Int32)) % (5 : Int32))), .val (.int (p0.toInt8.toInt32)), .val (.int (p1.toInt8.toInt32)), .val (.int (p2.toInt8.toInt32)), .val (.int (p3.toInt8.toInt32)), .val (.ref b88), .val (.int k90_0), .val (.int k92_0), .val (.int k94_0), .val (.int k96_0), .unset, .unset] [(.int (4 : Int32)), (.int ((p4 &&& (2147483647 : Int32)) % (5 : Int32)))])) _
                    refine XS.icmpYes X88.here hx rfl (pc0 := 136) (pc' := 144) rfl (hb hby at_136) rfl (XT.ii_lt_t (by rw [hlen]; decide)) (by decide) (by decide) ?_
                    show Steps p.tables e below (T88.setTop (mkF m 144 #[.val (.int p0), .val (.int p1), .val (.int p2), .val (.int p3), .val (.int p4), .val (.int ((p4 &&& (2147483647 : Int32)) % (5 : Int32))), .val (.int (p0.toInt8.toInt32)), .val (.int (p1.toInt8.toInt32)), .val (.int (p2.toInt8.toInt32)), .val (.int (p3.toInt8.toInt32)), .val (.ref b88), .val (.int k90_0), .val (.int k92_0), .val (.int k94_0), .val (.int k96_0), .unset, .unset] [])) _
                    refine XS.iconst X88.here hx rfl (hb hby at_144) ?_
                    show Steps p.tables e below (T88.setTop (mkF m 145 #[.val (.int p0), .val (.int p1), .val (.int p2), .val (.int p3), .val (.int p4), .val (.int ((p4 &&& (2147483647 : Int32)) % (5 : Int32))), .val (.int (p0.toInt8.toInt32)), .val (.int (p1.toInt8.toInt32)), .val (.int (p2.toInt8.toInt32)), .val (.int (p3.toInt8.toInt32)), .val (.ref b88), .val (.int k90_0), .val (.int k92_0), .val (.int k94_0), .val (.int k96_0), .unset, .unset] [(.int (1 : Int32))])) _
                    refine XS.goto X88.here hx rfl (pc0 := 145) (pc' := 149) rfl (hb hby at_145) (by decide) (by decide) ?_
                    exact kt
                  exact J98 (1 : Int32) ((if_neg hc99).trans ((if_neg hc100).trans (if_neg hc101))).symm
          by_cases hc97 : ((p3 &&& (128 : Int32)) = 0)
          · refine Got.step (T' := T88) (g' := (mkF m 98 #[.val (.int p0), .val (.int p1), .val (.int p2), .val (.int p3), .val (.int p4), .val (.int ((p4 &&& (2147483647 : Int32)) % (5 : Int32))), .val (.int (p0.toInt8.toInt32)), .val (.int (p1.toInt8.toInt32)), .val (.int (p2.toInt8.toInt32)), .val (.int (p3.toInt8.toInt32)), .val (.ref b88), .val (.int k90_0), .val (.int k92_0), .val (.int k94_0), .unset, .unset, .unset] [(.int (1 : Int32))])) (fun tq kt => ?_) ?_
            · show Steps p.tables e below (T88.setTop (mkF m 90 #[.val (.int p0), .val (.int p1), .val (.int p2), .val (.int p3), .val (.int p4), .val (.int ((p4 &&& (2147483647 : Int32)) % (5 : Int32))), .val (.int (p0.toInt8.toInt32)), .val (.int (p1.toInt8.toInt32)), .val (.int (p2.toInt8.toInt32)), .val (.int (p3.toInt8.toInt32)), .val (.ref b88), .val (.int k90_0), .val (.int k92_0), .val (.int k94_0), .unset, .unset, .unset] [(.int (p3 &&& (128 : Int32)))])) _
              refine XS.ifNo X88.here hx rfl (hb hby at_90) rfl (XT.i0_ne_f hc97) ?_
              show Steps p.tables e below (T88.setTop (mkF m 93 #[.val (.int p0), .val (.int p1), .val (.int p2), .val (.int p3), .val (.int p4), .val (.int ((p4 &&& (2147483647 : Int32)) % (5 : Int32))), .val (.int (p0.toInt8.toInt32)), .val (.int (p1.toInt8.toInt32)), .val (.int (p2.toInt8.toInt32)), .val (.int (p3.toInt8.toInt32)), .val (.ref b88), .val (.int k90_0), .val (.int k92_0), .val (.int k94_0), .unset, .unset, .unset] [])) _
              refine XS.iconst X88.here hx rfl (hb hby at_93) ?_
              show Steps p.tables e below (T88.setTop (mkF m 94 #[.val (.int p0), .val (.int p1), .val (.int p2), .val (.int p3), .val (.int p4), .val (.int ((p4 &&& (2147483647 : Int32)) % (5 : Int32))), .val (.int (p0.toInt8.toInt32)), .val (.int (p1.toInt8.toInt32)), .val (.int (p2.toInt8.toInt32)), .val (.int (p3.toInt8.toInt32)), .val (.ref b88), .val (.int k90_0), .val (.int k92_0), .val (.int k94_0), .unset, .unset, .unset] [(.int (1 : Int32))])) _
              refine XS.goto X88.here hx rfl (pc0 := 94) (pc' := 98) rfl (hb hby at_94) (by decide) (by decide) ?_
              exact kt
            exact J96 (1 : Int32) (if_pos hc97).symm
          · refine Got.step (T' := T88) (g' := (mkF m 98 #[.val (.int p0), .val (.int p1), .val (.int p2), .val (.int p3), .val (.int p4), .val (.int ((p4 &&& (2147483647 : Int32)) % (5 : Int32))), .val (.int (p0.toInt8.toInt32)), .val (.int (p1.toInt8.toInt32)), .val (.int (p2.toInt8.toInt32)), .val (.int (p3.toInt8.toInt32)), .val (.ref b88), .val (.int k90_0), .val (.int k92_0), .val (.int k94_0), .unset, .unset, .unset] [(.int (0 : Int32))])) (fun tq kt => ?_) ?_
            · show Steps p.tables e below (T88.setTop (mkF m 90 #[.val (.int p0), .val (.int p1), .val (.int p2), .val (.int p3), .val (.int p4), .val (.int ((p4 &&& (2147483647 : Int32)) % (5 : Int32))), .val (.int (p0.toInt8.toInt32)), .val (.int (p1.toInt8.toInt32)), .val (.int (p2.toInt8.toInt32)), .val (.int (p3.toInt8.toInt32)), .val (.ref b88), .val (.int k90_0), .val (.int k92_0), .val (.int k94_0), .unset, .unset, .unset] [(.int (p3 &&& (128 : Int32)))])) _
              refine XS.ifYes X88.here hx rfl (pc0 := 90) (pc' := 97) rfl (hb hby at_90) rfl (XT.i0_ne_t hc97) (by decide) (by decide) ?_
              show Steps p.tables e below (T88.setTop (mkF m 97 #[.val (.int p0), .val (.int p1), .val (.int p2), .val (.int p3), .val (.int p4), .val (.int ((p4 &&& (2147483647 : Int32)) % (5 : Int32))), .val (.int (p0.toInt8.toInt32)), .val (.int (p1.toInt8.toInt32)), .val (.int (p2.toInt8.toInt32)), .val (.int (p3.toInt8.toInt32)), .val (.ref b88), .val (.int k90_0), .val (.int k92_0), .val (.int k94_0), .unset, .unset, .unset] [])) _
              refine XS.iconst X88.here hx rfl (hb hby at_97) ?_
              exact kt
            exact J96 (0 : Int32) (if_neg hc97).symm
        by_cases hc95 : ((p2 &&& (128 : Int32)) = 0)
        · refine Got.step (T' := T88) (g' := (mkF m 83 #[.val (.int p0), .val (.int p1), .val (.int p2), .val (.int p3), .val (.int p4), .val (.int ((p4 &&& (2147483647 : Int32)) % (5 : Int32))), .val (.int (p0.toInt8.toInt32)), .val (.int (p1.toInt8.toInt32)), .val (.int (p2.toInt8.toInt32)), .val (.int (p3.toInt8.toInt32)), .val (.ref b88), .val (.int k90_0), .val (.int k92_0), .unset, .unset, .unset, .unset] [(.int (1 : Int32))])) (fun tq kt => ?_) ?_
          · show Steps p.tables e below (T88.setTop (mkF m 75 #[.val (.int p0), .val (.int p1), .val (.int p2), .val (.int p3), .val (.int p4), .val (.int ((p4 &&& (2147483647 : Int32)) % (5 : Int32))), .val (.int (p0.toInt8.toInt32)), .val (.int (p1.toInt8.toInt32)), .val (.int (p2.toInt8.toInt32)), .val (.int (p3.toInt8.toInt32)), .val (.ref b88), .val (.int k90_0), .val (.int k92_0), .unset, .unset, .unset, .unset] [(.int (p2 &&& (128 : Int32)))])) _
            refine XS.ifNo X88.here hx rfl (hb hby at_75) rfl (XT.i0_ne_f hc95) ?_
            show Steps p.tables e below (T88.setTop (mkF m 78 #[.val (.int p0), .val (.int p1), .val (.int p2), .val (.int p3), .val (.int p4), .val (.int ((p4 &&& (2147483647 : Int32)) % (5 : Int32))), .val (.int (p0.toInt8.toInt32)), .val (.int (p1.toInt8.toInt32)), .val (.int (p2.toInt8.toInt32)), .val (.int (p3.toInt8.toInt32)), .val (.ref b88), .val (.int k90_0), .val (.int k92_0), .unset, .unset, .unset, .unset] [])) _
            refine XS.iconst X88.here hx rfl (hb hby at_78) ?_
            show Steps p.tables e below (T88.setTop (mkF m 79 #[.val (.int p0), .val (.int p1), .val (.int p2), .val (.int p3), .val (.int p4), .val (.int ((p4 &&& (2147483647 : Int32)) % (5 : Int32))), .val (.int (p0.toInt8.toInt32)), .val (.int (p1.toInt8.toInt32)), .val (.int (p2.toInt8.toInt32)), .val (.int (p3.toInt8.toInt32)), .val (.ref b88), .val (.int k90_0), .val (.int k92_0), .unset, .unset, .unset, .unset] [(.int (1 : Int32))])) _
            refine XS.goto X88.here hx rfl (pc0 := 79) (pc' := 83) rfl (hb hby at_79) (by decide) (by decide) ?_
            exact kt
          exact J94 (1 : Int32) (if_pos hc95).symm
        · refine Got.step (T' := T88) (g' := (mkF m 83 #[.val (.int p0), .val (.int p1), .val (.int p2), .val (.int p3), .val (.int p4), .val (.int ((p4 &&& (2147483647 : Int32)) % (5 : Int32))), .val (.int (p0.toInt8.toInt32)), .val (.int (p1.toInt8.toInt32)), .val (.int (p2.toInt8.toInt32)), .val (.int (p3.toInt8.toInt32)), .val (.ref b88), .val (.int k90_0), .val (.int k92_0), .unset, .unset, .unset, .unset] [(.int (0 : Int32))])) (fun tq kt => ?_) ?_
          · show Steps p.tables e below (T88.setTop (mkF m 75 #[.val (.int p0), .val (.int p1), .val (.int p2), .val (.int p3), .val (.int p4), .val (.int ((p4 &&& (2147483647 : Int32)) % (5 : Int32))), .val (.int (p0.toInt8.toInt32)), .val (.int (p1.toInt8.toInt32)), .val (.int (p2.toInt8.toInt32)), .val (.int (p3.toInt8.toInt32)), .val (.ref b88), .val (.int k90_0), .val (.int k92_0), .unset, .unset, .unset, .unset] [(.int (p2 &&& (128 : Int32)))])) _
            refine XS.ifYes X88.here hx rfl (pc0 := 75) (pc' := 82) rfl (hb hby at_75) rfl (XT.i0_ne_t hc95) (by decide) (by decide) ?_
            show Steps p.tables e below (T88.setTop (mkF m 82 #[.val (.int p0), .val (.int p1), .val (.int p2), .val (.int p3), .val (.int p4), .val (.int ((p4 &&& (2147483647 : Int32)) % (5 : Int32))), .val (.int (p0.toInt8.toInt32)), .val (.int (p1.toInt8.toInt32)), .val (.int (p2.toInt8.toInt32)), .val (.int (p3.toInt8.toInt32)), .val (.ref b88), .val (.int k90_0), .val (.int k92_0), .unset, .unset, .unset, .unset] [])) _
            refine XS.iconst X88.here hx rfl (hb hby at_82) ?_
            exact kt
          exact J94 (0 : Int32) (if_neg hc95).symm
      by_cases hc93 : ((p1 &&& (128 : Int32)) = 0)
      · refine Got.step (T' := T88) (g' := (mkF m 68 #[.val (.int p0), .val (.int p1), .val (.int p2), .val (.int p3), .val (.int p4), .val (.int ((p4 &&& (2147483647 : Int32)) % (5 : Int32))), .val (.int (p0.toInt8.toInt32)), .val (.int (p1.toInt8.toInt32)), .val (.int (p2.toInt8.toInt32)), .val (.int (p3.toInt8.toInt32)), .val (.ref b88), .val (.int k90_0), .unset, .unset, .unset, .unset, .unset] [(.int (1 : Int32))])) (fun tq kt => ?_) ?_
        · show Steps p.tables e below (T88.setTop (mkF m 60 #[.val (.int p0), .val (.int p1), .val (.int p2), .val (.int p3), .val (.int p4), .val (.int ((p4 &&& (2147483647 : Int32)) % (5 : Int32))), .val (.int (p0.toInt8.toInt32)), .val (.int (p1.toInt8.toInt32)), .val (.int (p2.toInt8.toInt32)), .val (.int (p3.toInt8.toInt32)), .val (.ref b88), .val (.int k90_0), .unset, .unset, .unset, .unset, .unset] [(.int (p1 &&& (128 : Int32)))])) _
          refine XS.ifNo X88.here hx rfl (hb hby at_60) rfl (XT.i0_ne_f hc93) ?_
          show Steps p.tables e below (T88.setTop (mkF m 63 #[.val (.int p0), .val (.int p1), .val (.int p2), .val (.int p3), .val (.int p4), .val (.int ((p4 &&& (2147483647 : Int32)) % (5 : Int32))), .val (.int (p0.toInt8.toInt32)), .val (.int (p1.toInt8.toInt32)), .val (.int (p2.toInt8.toInt32)), .val (.int (p3.toInt8.toInt32)), .val (.ref b88), .val (.int k90_0), .unset, .unset, .unset, .unset, .unset] [])) _
          refine XS.iconst X88.here hx rfl (hb hby at_63) ?_
          show Steps p.tables e below (T88.setTop (mkF m 64 #[.val (.int p0), .val (.int p1), .val (.int p2), .val (.int p3), .val (.int p4), .val (.int ((p4 &&& (2147483647 : Int32)) % (5 : Int32))), .val (.int (p0.toInt8.toInt32)), .val (.int (p1.toInt8.toInt32)), .val (.int (p2.toInt8.toInt32)), .val (.int (p3.toInt8.toInt32)), .val (.ref b88), .val (.int k90_0), .unset, .unset, .unset, .unset, .unset] [(.int (1 : Int32))])) _
          refine XS.goto X88.here hx rfl (pc0 := 64) (pc' := 68) rfl (hb hby at_64) (by decide) (by decide) ?_
          exact kt
        exact J92 (1 : Int32) (if_pos hc93).symm
      · refine Got.step (T' := T88) (g' := (mkF m 68 #[.val (.int p0), .val (.int p1), .val (.int p2), .val (.int p3), .val (.int p4), .val (.int ((p4 &&& (2147483647 : Int32)) % (5 : Int32))), .val (.int (p0.toInt8.toInt32)), .val (.int (p1.toInt8.toInt32)), .val (.int (p2.toInt8.toInt32)), .val (.int (p3.toInt8.toInt32)), .val (.ref b88), .val (.int k90_0), .unset, .unset, .unset, .unset, .unset] [(.int (0 : Int32))])) (fun tq kt => ?_) ?_
        · show Steps p.tables e below (T88.setTop (mkF m 60 #[.val (.int p0), .val (.int p1), .val (.int p2), .val (.int p3), .val (.int p4), .val (.int ((p4 &&& (2147483647 : Int32)) % (5 : Int32))), .val (.int (p0.toInt8.toInt32)), .val (.int (p1.toInt8.toInt32)), .val (.int (p2.toInt8.toInt32)), .val (.int (p3.toInt8.toInt32)), .val (.ref b88), .val (.int k90_0), .unset, .unset, .unset, .unset, .unset] [(.int (p1 &&& (128 : Int32)))])) _
          refine XS.ifYes X88.here hx rfl (pc0 := 60) (pc' := 67) rfl (hb hby at_60) rfl (XT.i0_ne_t hc93) (by decide) (by decide) ?_
          show Steps p.tables e below (T88.setTop (mkF m 67 #[.val (.int p0), .val (.int p1), .val (.int p2), .val (.int p3), .val (.int p4), .val (.int ((p4 &&& (2147483647 : Int32)) % (5 : Int32))), .val (.int (p0.toInt8.toInt32)), .val (.int (p1.toInt8.toInt32)), .val (.int (p2.toInt8.toInt32)), .val (.int (p3.toInt8.toInt32)), .val (.ref b88), .val (.int k90_0), .unset, .unset, .unset, .unset, .unset] [])) _
          refine XS.iconst X88.here hx rfl (hb hby at_67) ?_
          exact kt
        exact J92 (0 : Int32) (if_neg hc93).symm
    by_cases hc91 : ((p0 &&& (128 : Int32)) = 0)
    · refine Got.step (T' := T88) (g' := (mkF m 53 #[.val (.int p0), .val (.int p1), .val (.int p2), .val (.int p3), .val (.int p4), .val (.int ((p4 &&& (2147483647 : Int32)) % (5 : Int32))), .val (.int (p0.toInt8.toInt32)), .val (.int (p1.toInt8.toInt32)), .val (.int (p2.toInt8.toInt32)), .val (.int (p3.toInt8.toInt32)), .val (.ref b88), .unset, .unset, .unset, .unset, .unset, .unset] [(.int (1 : Int32))])) (fun tq kt => ?_) ?_
      · show Steps p.tables e below (T88.setTop (mkF m 45 #[.val (.int p0), .val (.int p1), .val (.int p2), .val (.int p3), .val (.int p4), .val (.int ((p4 &&& (2147483647 : Int32)) % (5 : Int32))), .val (.int (p0.toInt8.toInt32)), .val (.int (p1.toInt8.toInt32)), .val (.int (p2.toInt8.toInt32)), .val (.int (p3.toInt8.toInt32)), .val (.ref b88), .unset, .unset, .unset, .unset, .unset, .unset] [(.int (p0 &&& (128 : Int32)))])) _
        refine XS.ifNo X88.here hx rfl (hb hby at_45) rfl (XT.i0_ne_f hc91) ?_
        show Steps p.tables e below (T88.setTop (mkF m 48 #[.val (.int p0), .val (.int p1), .val (.int p2), .val (.int p3), .val (.int p4), .val (.int ((p4 &&& (2147483647 : Int32)) % (5 : Int32))), .val (.int (p0.toInt8.toInt32)), .val (.int (p1.toInt8.toInt32)), .val (.int (p2.toInt8.toInt32)), .val (.int (p3.toInt8.toInt32)), .val (.ref b88), .unset, .unset, .unset, .unset, .unset, .unset] [])) _
        refine XS.iconst X88.here hx rfl (hb hby at_48) ?_
        show Steps p.tables e below (T88.setTop (mkF m 49 #[.val (.int p0), .val (.int p1), .val (.int p2), .val (.int p3), .val (.int p4), .val (.int ((p4 &&& (2147483647 : Int32)) % (5 : Int32))), .val (.int (p0.toInt8.toInt32)), .val (.int (p1.toInt8.toInt32)), .val (.int (p2.toInt8.toInt32)), .val (.int (p3.toInt8.toInt32)), .val (.ref b88), .unset, .unset, .unset, .unset, .unset, .unset] [(.int (1 : Int32))])) _
        refine XS.goto X88.here hx rfl (pc0 := 49) (pc' := 53) rfl (hb hby at_49) (by decide) (by decide) ?_
        exact kt
      exact J90 (1 : Int32) (if_pos hc91).symm
    · refine Got.step (T' := T88) (g' := (mkF m 53 #[.val (.int p0), .val (.int p1), .val (.int p2), .val (.int p3), .val (.int p4), .val (.int ((p4 &&& (2147483647 : Int32)) % (5 : Int32))), .val (.int (p0.toInt8.toInt32)), .val (.int (p1.toInt8.toInt32)), .val (.int (p2.toInt8.toInt32)), .val (.int (p3.toInt8.toInt32)), .val (.ref b88), .unset, .unset, .unset, .unset, .unset, .unset] [(.int (0 : Int32))])) (fun tq kt => ?_) ?_
      · show Steps p.tables e below (T88.setTop (mkF m 45 #[.val (.int p0), .val (.int p1), .val (.int p2), .val (.int p3), .val (.int p4), .val (.int ((p4 &&& (2147483647 : Int32)) % (5 : Int32))), .val (.int (p0.toInt8.toInt32)), .val (.int (p1.toInt8.toInt32)), .val (.int (p2.toInt8.toInt32)), .val (.int (p3.toInt8.toInt32)), .val (.ref b88), .unset, .unset, .unset, .unset, .unset, .unset] [(.int (p0 &&& (128 : Int32)))])) _
        refine XS.ifYes X88.here hx rfl (pc0 := 45) (pc' := 52) rfl (hb hby at_45) rfl (XT.i0_ne_t hc91) (by decide) (by decide) ?_
        show Steps p.tables e below (T88.setTop (mkF m 52 #[.val (.int p0), .val (.int p1), .val (.int p2), .val (.int p3), .val (.int p4), .val (.int ((p4 &&& (2147483647 : Int32)) % (5 : Int32))), .val (.int (p0.toInt8.toInt32)), .val (.int (p1.toInt8.toInt32)), .val (.int (p2.toInt8.toInt32)), .val (.int (p3.toInt8.toInt32)), .val (.ref b88), .unset, .unset, .unset, .unset, .unset, .unset] [])) _
        refine XS.iconst X88.here hx rfl (hb hby at_52) ?_
        exact kt
      exact J90 (0 : Int32) (if_neg hc91).symm
  · obtain ⟨_, _, ⟨T103, L103, k103, n103⟩, -, X103, ⟨Lc103, hQ103, l103, y103, z103⟩, st103⟩ := Jvm.LawKit.callS X0 hx (y := (⟨"com/example/cytobridge/cytobridge/profile/CharacterSetIsAsciiPinLaw", "build", "(IBBBB)[B"⟩ : MethodName)) hown (mvT hZ (hw _ (List.mem_of_getElem? (i := 1) rfl))) (mvT hZ (hw _ (List.mem_of_getElem? (i := 2) rfl))) (mvT hZ (hw _ (List.mem_of_getElem? (i := 3) rfl))) (mvT hZ (hw _ (List.mem_of_getElem? (i := 4) rfl))) (by decide) (backOf (W := 0) (rm1_4 l Z a0 hw [] ((p4 &&& (2147483647 : Int32)) % (5 : Int32)) (p0.toInt8.toInt32) (p1.toInt8.toInt32) (p2.toInt8.toInt32) (p3.toInt8.toInt32) h0 n0 Z0 hlen (narB _) (fits_nar_byte _) (narB _) (fits_nar_byte _) (narB _) (fits_nar_byte _) (narB _) (fits_nar_byte _)) hZ (hw _ (List.mem_of_getElem? (i := 4) rfl)) (hw _ (List.mem_of_getElem? (i := 3) rfl)) (by decide) (by decide)) (g := (mkF m 35 #[.val (.int p0), .val (.int p1), .val (.int p2), .val (.int p3), .val (.int p4), .val (.int ((p4 &&& (2147483647 : Int32)) % (5 : Int32))), .val (.int (p0.toInt8.toInt32)), .val (.int (p1.toInt8.toInt32)), .val (.int (p2.toInt8.toInt32)), .val (.int (p3.toInt8.toInt32)), .unset, .unset, .unset, .unset, .unset, .unset, .unset] [(.int (p3.toInt8.toInt32)), (.int (p2.toInt8.toInt32)), (.int (p1.toInt8.toInt32)), (.int (p0.toInt8.toInt32)), (.int ((p4 &&& (2147483647 : Int32)) % (5 : Int32)))])) rfl (by rw [hml]; rfl) (argsL := [(.int ((p4 &&& (2147483647 : Int32)) % (5 : Int32))), (.int (p0.toInt8.toInt32)), (.int (p1.toInt8.toInt32)), (.int (p2.toInt8.toInt32)), (.int (p3.toInt8.toInt32))]) (rest := []) (lenOf pd_0 rfl) rfl (by show 2 * 0 + _ ≤ _; exact Nat.le_of_eq rfl) (hb hby at_35) (fun _ _ => ⟨rfl, e0, (by decide : 0 + 1 ≤ _), (by decide : 0 + 4 ≤ _)⟩)
    dsimp only [Pt.U, Pt.locs, Pt.cells, Pt.slots] at X103 l103 y103 z103 st103 hQ103
    subst l103 y103 z103
    obtain ⟨b103, g103⟩ : ∃ z, z = h0.size := ⟨_, rfl⟩
    rw [← g103] at hQ103
    obtain ⟨h103, e103⟩ : ∃ z, T103.heap = z := ⟨_, rfl⟩
    rw [e103] at hQ103
    obtain ⟨rfl, Nq103, K103, ⟨ka103, B103_0⟩⟩ := hQ103
    have N103 := Fr.app N0 Nq103
    have gn_b103 : n0 ≤ b103 := by rw [g103]; exact Z0
    have Z0_104 : n0 ≤ h103.size := (Nat.le_trans Z0 K103.1)
    refine Got.step st103 ?_
    show Got p e below s _ _ _ _ T103 (mkF m 38 #[.val (.int p0), .val (.int p1), .val (.int p2), .val (.int p3), .val (.int p4), .val (.int ((p4 &&& (2147483647 : Int32)) % (5 : Int32))), .val (.int (p0.toInt8.toInt32)), .val (.int (p1.toInt8.toInt32)), .val (.int (p2.toInt8.toInt32)), .val (.int (p3.toInt8.toInt32)), .unset, .unset, .unset, .unset, .unset, .unset, .unset] [(.ref b103)])
    refine Got.step (T' := T103) (g' := (mkF m 45 #[.val (.int p0), .val (.int p1), .val (.int p2), .val (.int p3), .val (.int p4), .val (.int ((p4 &&& (2147483647 : Int32)) % (5 : Int32))), .val (.int (p0.toInt8.toInt32)), .val (.int (p1.toInt8.toInt32)), .val (.int (p2.toInt8.toInt32)), .val (.int (p3.toInt8.toInt32)), .val (.ref b103), .unset, .unset, .unset, .unset, .unset, .unset] [(.int (p0 &&& (128 : Int32)))])) (fun tq kt => ?_) ?_
    · show Steps p.tables e below (T103.setTop (mkF m 38 #[.val (.int p0), .val (.int p1), .val (.int p2), .val (.int p3), .val (.int p4), .val (.int ((p4 &&& (2147483647 : Int32)) % (5 : Int32))), .val (.int (p0.toInt8.toInt32)), .val (.int (p1.toInt8.toInt32)), .val (.int (p2.toInt8.toInt32)), .val (.int (p3.toInt8.toInt32)), .unset, .unset, .unset, .unset, .unset, .unset, .unset] [(.ref b103)])) _
      refine XS.astore X103.here hx rfl (hb hby at_38) rfl rfl (l' := #[.val (.int p0), .val (.int p1), .val (.int p2), .val (.int p3), .val (.int p4), .val (.int ((p4 &&& (2147483647 : Int32)) % (5 : Int32))), .val (.int (p0.toInt8.toInt32)), .val (.int (p1.toInt8.toInt32)), .val (.int (p2.toInt8.toInt32)), .val (.int (p3.toInt8.toInt32)), .val (.ref b103), .unset, .unset, .unset, .unset, .unset, .unset]) rfl ?_
      show Steps p.tables e below (T103.setTop (mkF m 40 #[.val (.int p0), .val (.int p1), .val (.int p2), .val (.int p3), .val (.int p4), .val (.int ((p4 &&& (2147483647 : Int32)) % (5 : Int32))), .val (.int (p0.toInt8.toInt32)), .val (.int (p1.toInt8.toInt32)), .val (.int (p2.toInt8.toInt32)), .val (.int (p3.toInt8.toInt32)), .val (.ref b103), .unset, .unset, .unset, .unset, .unset, .unset] [])) _
      refine XS.iloadN X103.here hx rfl (hb hby at_40) rfl ?_
      show Steps p.tables e below (T103.setTop (mkF m 41 #[.val (.int p0), .val (.int p1), .val (.int p2), .val (.int p3), .val (.int p4), .val (.int ((p4 &&& (2147483647 : Int32)) % (5 : Int32))), .val (.int (p0.toInt8.toInt32)), .val (.int (p1.toInt8.toInt32)), .val (.int (p2.toInt8.toInt32)), .val (.int (p3.toInt8.toInt32)), .val (.ref b103), .unset, .unset, .unset, .unset, .unset, .unset] [(.int p0)])) _
      refine XS.sipush X103.here hx rfl (hb hby at_41) ?_
      show Steps p.tables e below (T103.setTop (mkF m 44 #[.val (.int p0), .val (.int p1), .val (.int p2), .val (.int p3), .val (.int p4), .val (.int ((p4 &&& (2147483647 : Int32)) % (5 : Int32))), .val (.int (p0.toInt8.toInt32)), .val (.int (p1.toInt8.toInt32)), .val (.int (p2.toInt8.toInt32)), .val (.int (p3.toInt8.toInt32)), .val (.ref b103), .unset, .unset, .unset, .unset, .unset, .unset] [(.int (128 : Int32)), (.int p0)])) _
      refine XS.iand X103.here hx rfl (hb hby at_44) rfl ?_
      exact kt
    have J105 : ∀ (k105_0 : Int32), k105_0 = (if (p0 &&& (128 : Int32)) = 0 then (1 : Int32) else (0 : Int32)) → Got p e below s (fun _ L => Fr n0 L) room_1.cells room_1.slots (some (.int (1 : Int32))) T103 (mkF m 53 #[.val (.int p0), .val (.int p1), .val (.int p2), .val (.int p3), .val (.int p4), .val (.int ((p4 &&& (2147483647 : Int32)) % (5 : Int32))), .val (.int (p0.toInt8.toInt32)), .val (.int (p1.toInt8.toInt32)), .val (.int (p2.toInt8.toInt32)), .val (.int (p3.toInt8.toInt32)), .val (.ref b103), .unset, .unset, .unset, .unset, .unset, .unset] [(.int k105_0)]) := by
      intro k105_0 hk105_0
      refine Got.step (T' := T103) (g' := (mkF m 60 #[.val (.int p0), .val (.int p1), .val (.int p2), .val (.int p3), .val (.int p4), .val (.int ((p4 &&& (2147483647 : Int32)) % (5 : Int32))), .val (.int (p0.toInt8.toInt32)), .val (.int (p1.toInt8.toInt32)), .val (.int (p2.toInt8.toInt32)), .val (.int (p3.toInt8.toInt32)), .val (.ref b103), .val (.int k105_0), .unset, .unset, .unset, .unset, .unset] [(.int (p1 &&& (128 : Int32)))])) (fun tq kt => ?_) ?_
      · show Steps p.tables e below (T103.setTop (mkF m 53 #[.val (.int p0), .val (.int p1), .val (.int p2), .val (.int p3), .val (.int p4), .val (.int ((p4 &&& (2147483647 : Int32)) % (5 : Int32))), .val (.int (p0.toInt8.toInt32)), .val (.int (p1.toInt8.toInt32)), .val (.int (p2.toInt8.toInt32)), .val (.int (p3.toInt8.toInt32)), .val (.ref b103), .unset, .unset, .unset, .unset, .unset, .unset] [(.int k105_0)])) _
        refine XS.istore X103.here hx rfl (hb hby at_53) rfl (l' := #[.val (.int p0), .val (.int p1), .val (.int p2), .val (.int p3), .val (.int p4), .val (.int ((p4 &&& (2147483647 : Int32)) % (5 : Int32))), .val (.int (p0.toInt8.toInt32)), .val (.int (p1.toInt8.toInt32)), .val (.int (p2.toInt8.toInt32)), .val (.int (p3.toInt8.toInt32)), .val (.ref b103), .val (.int k105_0), .unset, .unset, .unset, .unset, .unset]) rfl ?_
        show Steps p.tables e below (T103.setTop (mkF m 55 #[.val (.int p0), .val (.int p1), .val (.int p2), .val (.int p3), .val (.int p4), .val (.int ((p4 &&& (2147483647 : Int32)) % (5 : Int32))), .val (.int (p0.toInt8.toInt32)), .val (.int (p1.toInt8.toInt32)), .val (.int (p2.toInt8.toInt32)), .val (.int (p3.toInt8.toInt32)), .val (.ref b103), .val (.int k105_0), .unset, .unset, .unset, .unset, .unset] [])) _
        refine XS.iloadN X103.here hx rfl (hb hby at_55) rfl ?_
        show Steps p.tables e below (T103.setTop (mkF m 56 #[.val (.int p0), .val (.int p1), .val (.int p2), .val (.int p3), .val (.int p4), .val (.int ((p4 &&& (2147483647 : Int32)) % (5 : Int32))), .val (.int (p0.toInt8.toInt32)), .val (.int (p1.toInt8.toInt32)), .val (.int (p2.toInt8.toInt32)), .val (.int (p3.toInt8.toInt32)), .val (.ref b103), .val (.int k105_0), .unset, .unset, .unset, .unset, .unset] [(.int p1)])) _
        refine XS.sipush X103.here hx rfl (hb hby at_56) ?_
        show Steps p.tables e below (T103.setTop (mkF m 59 #[.val (.int p0), .val (.int p1), .val (.int p2), .val (.int p3), .val (.int p4), .val (.int ((p4 &&& (2147483647 : Int32)) % (5 : Int32))), .val (.int (p0.toInt8.toInt32)), .val (.int (p1.toInt8.toInt32)), .val (.int (p2.toInt8.toInt32)), .val (.int (p3.toInt8.toInt32)), .val (.ref b103), .val (.int k105_0), .unset, .unset, .unset, .unset, .unset] [(.int (128 : Int32)), (.int p1)])) _
        refine XS.iand X103.here hx rfl (hb hby at_59) rfl ?_
        exact kt
      have J107 : ∀ (k107_0 : Int32), k107_0 = (if (p1 &&& (128 : Int32)) = 0 then (1 : Int32) else (0 : Int32)) → Got p e below s (fun _ L => Fr n0 L) room_1.cells room_1.slots (some (.int (1 : Int32))) T103 (mkF m 68 #[.val (.int p0), .val (.int p1), .val (.int p2), .val (.int p3), .val (.int p4), .val (.int ((p4 &&& (2147483647 : Int32)) % (5 : Int32))), .val (.int (p0.toInt8.toInt32)), .val (.int (p1.toInt8.toInt32)), .val (.int (p2.toInt8.toInt32)), .val (.int (p3.toInt8.toInt32)), .val (.ref b103), .val (.int k105_0), .unset, .unset, .unset, .unset, .unset] [(.int k107_0)]) := by
        intro k107_0 hk107_0
        refine Got.step (T' := T103) (g' := (mkF m 75 #[.val (.int p0), .val (.int p1), .val (.int p2), .val (.int p3), .val (.int p4), .val (.int ((p4 &&& (2147483647 : Int32)) % (5 : Int32))), .val (.int (p0.toInt8.toInt32)), .val (.int (p1.toInt8.toInt32)), .val (.int (p2.toInt8.toInt32)), .val (.int (p3.toInt8.toInt32)), .val (.ref b103), .val (.int k105_0), .val (.int k107_0), .unset, .unset, .unset, .unset] [(.int (p2 &&& (128 : Int32)))])) (fun tq kt => ?_) ?_
        · show Steps p.tables e below (T103.setTop (mkF m 68 #[.val (.int p0), .val (.int p1), .val (.int p2), .val (.int p3), .val (.int p4), .val (.int ((p4 &&& (2147483647 : Int32)) % (5 : Int32))), .val (.int (p0.toInt8.toInt32)), .val (.int (p1.toInt8.toInt32)), .val (.int (p2.toInt8.toInt32)), .val (.int (p3.toInt8.toInt32)), .val (.ref b103), .val (.int k105_0), .unset, .unset, .unset, .unset, .unset] [(.int k107_0)])) _
          refine XS.istore X103.here hx rfl (hb hby at_68) rfl (l' := #[.val (.int p0), .val (.int p1), .val (.int p2), .val (.int p3), .val (.int p4), .val (.int ((p4 &&& (2147483647 : Int32)) % (5 : Int32))), .val (.int (p0.toInt8.toInt32)), .val (.int (p1.toInt8.toInt32)), .val (.int (p2.toInt8.toInt32)), .val (.int (p3.toInt8.toInt32)), .val (.ref b103), .val (.int k105_0), .val (.int k107_0), .unset, .unset, .unset, .unset]) rfl ?_
          show Steps p.tables e below (T103.setTop (mkF m 70 #[.val (.int p0), .val (.int p1), .val (.int p2), .val (.int p3), .val (.int p4), .val (.int ((p4 &&& (2147483647 : Int32)) % (5 : Int32))), .val (.int (p0.toInt8.toInt32)), .val (.int (p1.toInt8.toInt32)), .val (.int (p2.toInt8.toInt32)), .val (.int (p3.toInt8.toInt32)), .val (.ref b103), .val (.int k105_0), .val (.int k107_0), .unset, .unset, .unset, .unset] [])) _
          refine XS.iloadN X103.here hx rfl (hb hby at_70) rfl ?_
          show Steps p.tables e below (T103.setTop (mkF m 71 #[.val (.int p0), .val (.int p1), .val (.int p2), .val (.int p3), .val (.int p4), .val (.int ((p4 &&& (2147483647 : Int32)) % (5 : Int32))), .val (.int (p0.toInt8.toInt32)), .val (.int (p1.toInt8.toInt32)), .val (.int (p2.toInt8.toInt32)), .val (.int (p3.toInt8.toInt32)), .val (.ref b103), .val (.int k105_0), .val (.int k107_0), .unset, .unset, .unset, .unset] [(.int p2)])) _
          refine XS.sipush X103.here hx rfl (hb hby at_71) ?_
          show Steps p.tables e below (T103.setTop (mkF m 74 #[.val (.int p0), .val (.int p1), .val (.int p2), .val (.int p3), .val (.int p4), .val (.int ((p4 &&& (2147483647 : Int32)) % (5 : Int32))), .val (.int (p0.toInt8.toInt32)), .val (.int (p1.toInt8.toInt32)), .val (.int (p2.toInt8.toInt32)), .val (.int (p3.toInt8.toInt32)), .val (.ref b103), .val (.int k105_0), .val (.int k107_0), .unset, .unset, .unset, .unset] [(.int (128 : Int32)), (.int p2)])) _
          refine XS.iand X103.here hx rfl (hb hby at_74) rfl ?_
          exact kt
        have J109 : ∀ (k109_0 : Int32), k109_0 = (if (p2 &&& (128 : Int32)) = 0 then (1 : Int32) else (0 : Int32)) → Got p e below s (fun _ L => Fr n0 L) room_1.cells room_1.slots (some (.int (1 : Int32))) T103 (mkF m 83 #[.val (.int p0), .val (.int p1), .val (.int p2), .val (.int p3), .val (.int p4), .val (.int ((p4 &&& (2147483647 : Int32)) % (5 : Int32))), .val (.int (p0.toInt8.toInt32)), .val (.int (p1.toInt8.toInt32)), .val (.int (p2.toInt8.toInt32)), .val (.int (p3.toInt8.toInt32)), .val (.ref b103), .val (.int k105_0), .val (.int k107_0), .unset, .unset, .unset, .unset] [(.int k109_0)]) := by
          intro k109_0 hk109_0
          refine Got.step (T' := T103) (g' := (mkF m 90 #[.val (.int p0), .val (.int p1), .val (.int p2), .val (.int p3), .val (.int p4), .val (.int ((p4 &&& (2147483647 : Int32)) % (5 : Int32))), .val (.int (p0.toInt8.toInt32)), .val (.int (p1.toInt8.toInt32)), .val (.int (p2.toInt8.toInt32)), .val (.int (p3.toInt8.toInt32)), .val (.ref b103), .val (.int k105_0), .val (.int k107_0), .val (.int k109_0), .unset, .unset, .unset] [(.int (p3 &&& (128 : Int32)))])) (fun tq kt => ?_) ?_
          · show Steps p.tables e below (T103.setTop (mkF m 83 #[.val (.int p0), .val (.int p1), .val (.int p2), .val (.int p3), .val (.int p4), .val (.int ((p4 &&& (2147483647 : Int32)) % (5 : Int32))), .val (.int (p0.toInt8.toInt32)), .val (.int (p1.toInt8.toInt32)), .val (.int (p2.toInt8.toInt32)), .val (.int (p3.toInt8.toInt32)), .val (.ref b103), .val (.int k105_0), .val (.int k107_0), .unset, .unset, .unset, .unset] [(.int k109_0)])) _
            refine XS.istore X103.here hx rfl (hb hby at_83) rfl (l' := #[.val (.int p0), .val (.int p1), .val (.int p2), .val (.int p3), .val (.int p4), .val (.int ((p4 &&& (2147483647 : Int32)) % (5 : Int32))), .val (.int (p0.toInt8.toInt32)), .val (.int (p1.toInt8.toInt32)), .val (.int (p2.toInt8.toInt32)), .val (.int (p3.toInt8.toInt32)), .val (.ref b103), .val (.int k105_0), .val (.int k107_0), .val (.int k109_0), .unset, .unset, .unset]) rfl ?_
            show Steps p.tables e below (T103.setTop (mkF m 85 #[.val (.int p0), .val (.int p1), .val (.int p2), .val (.int p3), .val (.int p4), .val (.int ((p4 &&& (2147483647 : Int32)) % (5 : Int32))), .val (.int (p0.toInt8.toInt32)), .val (.int (p1.toInt8.toInt32)), .val (.int (p2.toInt8.toInt32)), .val (.int (p3.toInt8.toInt32)), .val (.ref b103), .val (.int k105_0), .val (.int k107_0), .val (.int k109_0), .unset, .unset, .unset] [])) _
            refine XS.iloadN X103.here hx rfl (hb hby at_85) rfl ?_
            show Steps p.tables e below (T103.setTop (mkF m 86 #[.val (.int p0), .val (.int p1), .val (.int p2), .val (.int p3), .val (.int p4), .val (.int ((p4 &&& (2147483647 : Int32)) % (5 : Int32))), .val (.int (p0.toInt8.toInt32)), .val (.int (p1.toInt8.toInt32)), .val (.int (p2.toInt8.toInt32)), .val (.int (p3.toInt8.toInt32)), .val (.ref b103), .val (.int k105_0), .val (.int k107_0), .val (.int k109_0), .unset, .unset, .unset] [(.int p3)])) _
            refine XS.sipush X103.here hx rfl (hb hby at_86) ?_
            show Steps p.tables e below (T103.setTop (mkF m 89 #[.val (.int p0), .val (.int p1), .val (.int p2), .val (.int p3), .val (.int p4), .val (.int ((p4 &&& (2147483647 : Int32)) % (5 : Int32))), .val (.int (p0.toInt8.toInt32)), .val (.int (p1.toInt8.toInt32)), .val (.int (p2.toInt8.toInt32)), .val (.int (p3.toInt8.toInt32)), .val (.ref b103), .val (.int k105_0), .val (.int k107_0), .val (.int k109_0), .unset, .unset, .unset] [(.int (128 : Int32)), (.int p3)])) _
            refine XS.iand X103.here hx rfl (hb hby at_89) rfl ?_
            exact kt
          have J111 : ∀ (k111_0 : Int32), k111_0 = (if (p3 &&& (128 : Int32)) = 0 then (1 : Int32) else (0 : Int32)) → Got p e below s (fun _ L => Fr n0 L) room_1.cells room_1.slots (some (.int (1 : Int32))) T103 (mkF m 98 #[.val (.int p0), .val (.int p1), .val (.int p2), .val (.int p3), .val (.int p4), .val (.int ((p4 &&& (2147483647 : Int32)) % (5 : Int32))), .val (.int (p0.toInt8.toInt32)), .val (.int (p1.toInt8.toInt32)), .val (.int (p2.toInt8.toInt32)), .val (.int (p3.toInt8.toInt32)), .val (.ref b103), .val (.int k105_0), .val (.int k107_0), .val (.int k109_0), .unset, .unset, .unset] [(.int k111_0)]) := by
            intro k111_0 hk111_0
            refine Got.step (T' := T103) (g' := (mkF m 108 #[.val (.int p0), .val (.int p1), .val (.int p2), .val (.int p3), .val (.int p4), .val (.int ((p4 &&& (2147483647 : Int32)) % (5 : Int32))), .val (.int (p0.toInt8.toInt32)), .val (.int (p1.toInt8.toInt32)), .val (.int (p2.toInt8.toInt32)), .val (.int (p3.toInt8.toInt32)), .val (.ref b103), .val (.int k105_0), .val (.int k107_0), .val (.int k109_0), .val (.int k111_0), .unset, .unset] [(.int k105_0)])) (fun tq kt => ?_) ?_
            · show Steps p.tables e below (T103.setTop (mkF m 98 #[.val (.int p0), .val (.int p1), .val (.int p2), .val (.int p3), .val (.int p4), .val (.int ((p4 &&& (2147483647 : Int32)) % (5 : Int32))), .val (.int (p0.toInt8.toInt32)), .val (.int (p1.toInt8.toInt32)), .val (.int (p2.toInt8.toInt32)), .val (.int (p3.toInt8.toInt32)), .val (.ref b103), .val (.int k105_0), .val (.int k107_0), .val (.int k109_0), .unset, .unset, .unset] [(.int k111_0)])) _
              refine XS.istore X103.here hx rfl (hb hby at_98) rfl (l' := #[.val (.int p0), .val (.int p1), .val (.int p2), .val (.int p3), .val (.int p4), .val (.int ((p4 &&& (2147483647 : Int32)) % (5 : Int32))), .val (.int (p0.toInt8.toInt32)), .val (.int (p1.toInt8.toInt32)), .val (.int (p2.toInt8.toInt32)), .val (.int (p3.toInt8.toInt32)), .val (.ref b103), .val (.int k105_0), .val (.int k107_0), .val (.int k109_0), .val (.int k111_0), .unset, .unset]) rfl ?_
              show Steps p.tables e below (T103.setTop (mkF m 100 #[.val (.int p0), .val (.int p1), .val (.int p2), .val (.int p3), .val (.int p4), .val (.int ((p4 &&& (2147483647 : Int32)) % (5 : Int32))), .val (.int (p0.toInt8.toInt32)), .val (.int (p1.toInt8.toInt32)), .val (.int (p2.toInt8.toInt32)), .val (.int (p3.toInt8.toInt32)), .val (.ref b103), .val (.int k105_0), .val (.int k107_0), .val (.int k109_0), .val (.int k111_0), .unset, .unset] [])) _
              refine XS.iload X103.here hx rfl (hb hby at_100) rfl ?_
              show Steps p.tables e below (T103.setTop (mkF m 102 #[.val (.int p0), .val (.int p1), .val (.int p2), .val (.int p3), .val (.int p4), .val (.int ((p4 &&& (2147483647 : Int32)) % (5 : Int32))), .val (.int (p0.toInt8.toInt32)), .val (.int (p1.toInt8.toInt32)), .val (.int (p2.toInt8.toInt32)), .val (.int (p3.toInt8.toInt32)), .val (.ref b103), .val (.int k105_0), .val (.int k107_0), .val (.int k109_0), .val (.int k111_0), .unset, .unset] [(.int ((p4 &&& (2147483647 : Int32)) % (5 : Int32)))])) _
              refine XS.iconst X103.here hx rfl (hb hby at_102) ?_
              show Steps p.tables e below (T103.setTop (mkF m 103 #[.val (.int p0), .val (.int p1), .val (.int p2), .val (.int p3), .val (.int p4), .val (.int ((p4 &&& (2147483647 : Int32)) % (5 : Int32))), .val (.int (p0.toInt8.toInt32)), .val (.int (p1.toInt8.toInt32)), .val (.int (p2.toInt8.toInt32)), .val (.int (p3.toInt8.toInt32)), .val (.ref b103), .val (.int k105_0), .val (.int k107_0), .val (.int k109_0), .val (.int k111_0), .unset, .unset] [(.int (1 : Int32)), (.int ((p4 &&& (2147483647 : Int32)) % (5 : Int32)))])) _
              refine XS.icmpNo X103.here hx rfl (hb hby at_103) rfl (XT.ii_lt_f (by rw [hlen]; decide)) ?_
              show Steps p.tables e below (T103.setTop (mkF m 106 #[.val (.int p0), .val (.int p1), .val (.int p2), .val (.int p3), .val (.int p4), .val (.int ((p4 &&& (2147483647 : Int32)) % (5 : Int32))), .val (.int (p0.toInt8.toInt32)), .val (.int (p1.toInt8.toInt32)), .val (.int (p2.toInt8.toInt32)), .val (.int (p3.toInt8.toInt32)), .val (.ref b103), .val (.int k105_0), .val (.int k107_0), .val (.int k109_0), .val (.int k111_0), .unset, .unset] [])) _
              refine XS.iload X103.here hx rfl (hb hby at_106) rfl ?_
              exact kt
            have J113 : ∀ (k113_0 : Int32), k113_0 = (if k105_0 = 0 then (0 : Int32) else (if k107_0 = 0 then (0 : Int32) else (if k109_0 = 0 then (0 : Int32) else (if k111_0 = 0 then (0 : Int32) else (1 : Int32))))) → Got p e below s (fun _ L => Fr n0 L) room_1.cells room_1.slots (some (.int (1 : Int32))) T103 (mkF m 149 #[.val (.int p0), .val (.int p1), .val (.int p2), .val (.int p3), .val (.int p4), .val (.int ((p4 &&& (2147483647 : Int32)) % (5 : Int32))), .val (.int (p0.toInt8.toInt32)), .val (.int (p1.toInt8.toInt32)), .val (.int (p2.toInt8.toInt32)), .val (.int (p3.toInt8.toInt32)), .val (.ref b103), .val (.int k105_0), .val (.int k107_0), .val (.int k109_0), .val (.int k111_0), .unset, .unset] [(.int k113_0)]) := by
              intro k113_0 hk113_0
              refine Got.step (T' := T103) (g' := (mkF m 153 #[.val (.int p0), .val (.int p1), .val (.int p2), .val (.int p3), .val (.int p4), .val (.int ((p4 &&& (2147483647 : Int32)) % (5 : Int32))), .val (.int (p0.toInt8.toInt32)), .val (.int (p1.toInt8.toInt32)), .val (.int (p2.toInt8.toInt32)), .val (.int (p3.toInt8.toInt32)), .val (.ref b103), .val (.int k105_0), .val (.int k107_0), .val (.int k109_0), .val (.int k111_0), .val (.int k113_0), .unset] [(.ref b103)])) (fun tq kt => ?_) ?_
              · show Steps p.tables e below (T103.setTop (mkF m 149 #[.val (.int p0), .val (.int p1), .val (.int p2), .val (.int p3), .val (.int p4), .val (.int ((p4 &&& (2147483647 : Int32)) % (5 : Int32))), .val (.int (p0.toInt8.toInt32)), .val (.int (p1.toInt8.toInt32)), .val (.int (p2.toInt8.toInt32)), .val (.int (p3.toInt8.toInt32)), .val (.ref b103), .val (.int k105_0), .val (.int k107_0), .val (.int k109_0), .val (.int k111_0), .unset, .unset] [(.int k113_0)])) _
                refine XS.istore X103.here hx rfl (hb hby at_149) rfl (l' := #[.val (.int p0), .val (.int p1), .val (.int p2), .val (.int p3), .val (.int p4), .val (.int ((p4 &&& (2147483647 : Int32)) % (5 : Int32))), .val (.int (p0.toInt8.toInt32)), .val (.int (p1.toInt8.toInt32)), .val (.int (p2.toInt8.toInt32)), .val (.int (p3.toInt8.toInt32)), .val (.ref b103), .val (.int k105_0), .val (.int k107_0), .val (.int k109_0), .val (.int k111_0), .val (.int k113_0), .unset]) rfl ?_
                show Steps p.tables e below (T103.setTop (mkF m 151 #[.val (.int p0), .val (.int p1), .val (.int p2), .val (.int p3), .val (.int p4), .val (.int ((p4 &&& (2147483647 : Int32)) % (5 : Int32))), .val (.int (p0.toInt8.toInt32)), .val (.int (p1.toInt8.toInt32)), .val (.int (p2.toInt8.toInt32)), .val (.int (p3.toInt8.toInt32)), .val (.ref b103), .val (.int k105_0), .val (.int k107_0), .val (.int k109_0), .val (.int k111_0), .val (.int k113_0), .unset] [])) _
                refine XS.aload X103.here hx rfl (hb hby at_151) rfl rfl ?_
                exact kt
              obtain ⟨_, _, ⟨T118, L118, k118, n118⟩, -, X118, ⟨Lc118, hQ118, l118, y118, z118⟩, st118⟩ := Jvm.LawKit.callS X103 hx (y := (⟨"com/example/cytobridge/cytobridge/profile/CharacterSet", "isAscii", "([B)Z"⟩ : MethodName)) hown (mvT hZ (hw _ (List.mem_of_getElem? (i := 6) rfl))) (mvT hZ (hw _ (List.mem_of_getElem? (i := 7) rfl))) (mvT hZ (hw _ (List.mem_of_getElem? (i := 8) rfl))) (mvT hZ (hw _ (List.mem_of_getElem? (i := 9) rfl))) (by decide) (backOf (W := 0) (rm2 l Z a0 hw [] b103 [(p0.toInt8.toInt32), (p1.toInt8.toInt32), (p2.toInt8.toInt32), (p3.toInt8.toInt32)] (4 : Int32) ka103 h103 n0 Z0_104 B103_0 ⟨rfl, Nat.le_of_ble_eq_true rfl⟩) hZ (hw _ (List.mem_of_getElem? (i := 9) rfl)) (hw _ (List.mem_of_getElem? (i := 8) rfl)) (by decide) (by decide)) (g := (mkF m 153 #[.val (.int p0), .val (.int p1), .val (.int p2), .val (.int p3), .val (.int p4), .val (.int ((p4 &&& (2147483647 : Int32)) % (5 : Int32))), .val (.int (p0.toInt8.toInt32)), .val (.int (p1.toInt8.toInt32)), .val (.int (p2.toInt8.toInt32)), .val (.int (p3.toInt8.toInt32)), .val (.ref b103), .val (.int k105_0), .val (.int k107_0), .val (.int k109_0), .val (.int k111_0), .val (.int k113_0), .unset] [(.ref b103)])) rfl (by rw [hml]; rfl) (argsL := [(.ref b103)]) (rest := []) (lenOf pd_1 rfl) rfl (by show 2 * 0 + _ ≤ _; exact Nat.le_of_eq rfl) (hb hby at_153) (fun _ _ => ⟨rfl, e103, (by decide : 1 + 0 ≤ _), (by decide : 4 + 0 ≤ _)⟩)
              dsimp only [Pt.U, Pt.locs, Pt.cells, Pt.slots] at X118 l118 y118 z118 st118 hQ118
              subst l118 y118 z118
              obtain ⟨rfl, Nq118, e118⟩ := hQ118
              have N118 := Fr.app N103 Nq118
              refine Got.step st118 ?_
              show Got p e below s _ _ _ _ T118 (mkF m 156 #[.val (.int p0), .val (.int p1), .val (.int p2), .val (.int p3), .val (.int p4), .val (.int ((p4 &&& (2147483647 : Int32)) % (5 : Int32))), .val (.int (p0.toInt8.toInt32)), .val (.int (p1.toInt8.toInt32)), .val (.int (p2.toInt8.toInt32)), .val (.int (p3.toInt8.toInt32)), .val (.ref b103), .val (.int k105_0), .val (.int k107_0), .val (.int k109_0), .val (.int k111_0), .val (.int k113_0), .unset] [(.int (asc [(p0.toInt8.toInt32), (p1.toInt8.toInt32), (p2.toInt8.toInt32), (p3.toInt8.toInt32)]))])
              refine Got.step (T' := T118) (g' := (mkF m 170 #[.val (.int p0), .val (.int p1), .val (.int p2), .val (.int p3), .val (.int p4), .val (.int ((p4 &&& (2147483647 : Int32)) % (5 : Int32))), .val (.int (p0.toInt8.toInt32)), .val (.int (p1.toInt8.toInt32)), .val (.int (p2.toInt8.toInt32)), .val (.int (p3.toInt8.toInt32)), .val (.ref b103), .val (.int k105_0), .val (.int k107_0), .val (.int k109_0), .val (.int k111_0), .val (.int k113_0), .val (.int (asc [(p0.toInt8.toInt32), (p1.toInt8.toInt32), (p2.toInt8.toInt32), (p3.toInt8.toInt32)]))] [(.int (1 : Int32))])) (fun tq kt => ?_) ?_
              · show Steps p.tables e below (T118.setTop (mkF m 156 #[.val (.int p0), .val (.int p1), .val (.int p2), .val (.int p3), .val (.int p4), .val (.int ((p4 &&& (2147483647 : Int32)) % (5 : Int32))), .val (.int (p0.toInt8.toInt32)), .val (.int (p1.toInt8.toInt32)), .val (.int (p2.toInt8.toInt32)), .val (.int (p3.toInt8.toInt32)), .val (.ref b103), .val (.int k105_0), .val (.int k107_0), .val (.int k109_0), .val (.int k111_0), .val (.int k113_0), .unset] [(.int (asc [(p0.toInt8.toInt32), (p1.toInt8.toInt32), (p2.toInt8.toInt32), (p3.toInt8.toInt32)]))])) _
                refine XS.istore X118.here hx rfl (hb hby at_156) rfl (l' := #[.val (.int p0), .val (.int p1), .val (.int p2), .val (.int p3), .val (.int p4), .val (.int ((p4 &&& (2147483647 : Int32)) % (5 : Int32))), .val (.int (p0.toInt8.toInt32)), .val (.int (p1.toInt8.toInt32)), .val (.int (p2.toInt8.toInt32)), .val (.int (p3.toInt8.toInt32)), .val (.ref b103), .val (.int k105_0), .val (.int k107_0), .val (.int k109_0), .val (.int k111_0), .val (.int k113_0), .val (.int (asc [(p0.toInt8.toInt32), (p1.toInt8.toInt32), (p2.toInt8.toInt32), (p3.toInt8.toInt32)]))]) rfl ?_
                show Steps p.tables e below (T118.setTop (mkF m 158 #[.val (.int p0), .val (.int p1), .val (.int p2), .val (.int p3), .val (.int p4), .val (.int ((p4 &&& (2147483647 : Int32)) % (5 : Int32))), .val (.int (p0.toInt8.toInt32)), .val (.int (p1.toInt8.toInt32)), .val (.int (p2.toInt8.toInt32)), .val (.int (p3.toInt8.toInt32)), .val (.ref b103), .val (.int k105_0), .val (.int k107_0), .val (.int k109_0), .val (.int k111_0), .val (.int k113_0), .val (.int (asc [(p0.toInt8.toInt32), (p1.toInt8.toInt32), (p2.toInt8.toInt32), (p3.toInt8.toInt32)]))] [])) _
                refine XS.iload X118.here hx rfl (hb hby at_158) rfl ?_
                show Steps p.tables e below (T118.setTop (mkF m 160 #[.val (.int p0), .val (.int p1), .val (.int p2), .val (.int p3), .val (.int p4), .val (.int ((p4 &&& (2147483647 : Int32)) % (5 : Int32))), .val (.int (p0.toInt8.toInt32)), .val (.int (p1.toInt8.toInt32)), .val (.int (p2.toInt8.toInt32)), .val (.int (p3.toInt8.toInt32)), .val (.ref b103), .val (.int k105_0), .val (.int k107_0), .val (.int k109_0), .val (.int k111_0), .val (.int k113_0), .val (.int (asc [(p0.toInt8.toInt32), (p1.toInt8.toInt32), (p2.toInt8.toInt32), (p3.toInt8.toInt32)]))] [(.int (asc [(p0.toInt8.toInt32), (p1.toInt8.toInt32), (p2.toInt8.toInt32), (p3.toInt8.toInt32)]))])) _
                refine XS.iload X118.here hx rfl (hb hby at_160) rfl ?_
                show Steps p.tables e below (T118.setTop (mkF m 162 #[.val (.int p0), .val (.int p1), .val (.int p2), .val (.int p3), .val (.int p4), .val (.int ((p4 &&& (2147483647 : Int32)) % (5 : Int32))), .val (.int (p0.toInt8.toInt32)), .val (.int (p1.toInt8.toInt32)), .val (.int (p2.toInt8.toInt32)), .val (.int (p3.toInt8.toInt32)), .val (.ref b103), .val (.int k105_0), .val (.int k107_0), .val (.int k109_0), .val (.int k111_0), .val (.int k113_0), .val (.int (asc [(p0.toInt8.toInt32), (p1.toInt8.toInt32), (p2.toInt8.toInt32), (p3.toInt8.toInt32)]))] [(.int k113_0), (.int (asc [(p0.toInt8.toInt32), (p1.toInt8.toInt32), (p2.toInt8.toInt32), (p3.toInt8.toInt32)]))])) _
                refine XS.icmpNo X118.here hx rfl (hb hby at_162) rfl (XT.ii_ne_f (own_fin4 p0 p1 p2 p3 hlen hk105_0 hk107_0 hk109_0 hk111_0 hk113_0)) ?_
                show Steps p.tables e below (T118.setTop (mkF m 165 #[.val (.int p0), .val (.int p1), .val (.int p2), .val (.int p3), .val (.int p4), .val (.int ((p4 &&& (2147483647 : Int32)) % (5 : Int32))), .val (.int (p0.toInt8.toInt32)), .val (.int (p1.toInt8.toInt32)), .val (.int (p2.toInt8.toInt32)), .val (.int (p3.toInt8.toInt32)), .val (.ref b103), .val (.int k105_0), .val (.int k107_0), .val (.int k109_0), .val (.int k111_0), .val (.int k113_0), .val (.int (asc [(p0.toInt8.toInt32), (p1.toInt8.toInt32), (p2.toInt8.toInt32), (p3.toInt8.toInt32)]))] [])) _
                refine XS.iconst X118.here hx rfl (hb hby at_165) ?_
                show Steps p.tables e below (T118.setTop (mkF m 166 #[.val (.int p0), .val (.int p1), .val (.int p2), .val (.int p3), .val (.int p4), .val (.int ((p4 &&& (2147483647 : Int32)) % (5 : Int32))), .val (.int (p0.toInt8.toInt32)), .val (.int (p1.toInt8.toInt32)), .val (.int (p2.toInt8.toInt32)), .val (.int (p3.toInt8.toInt32)), .val (.ref b103), .val (.int k105_0), .val (.int k107_0), .val (.int k109_0), .val (.int k111_0), .val (.int k113_0), .val (.int (asc [(p0.toInt8.toInt32), (p1.toInt8.toInt32), (p2.toInt8.toInt32), (p3.toInt8.toInt32)]))] [(.int (1 : Int32))])) _
                refine XS.goto X118.here hx rfl (pc0 := 166) (pc' := 170) rfl (hb hby at_166) (by decide) (by decide) ?_
                exact kt
              exact Got.retN (y := (1 : Int32)) (t := .boolean) X118 hx Bd.returns (by simp) hlk (hb hby at_170) (by decide) N118 (by decide) (by decide)
            by_cases hc114 : (k105_0 = 0)
            · refine Got.step (T' := T103) (g' := (mkF m 149 #[.val (.int p0), .val (.int p1), .val (.int p2), .val (.int p3), .val (.int p4), .val (.int ((p4 &&& (2147483647 : Int32)) % (5 : Int32))), .val (.int (p0.toInt8.toInt32)), .val (.int (p1.toInt8.toInt32)), .val (.int (p2.toInt8.toInt32)), .val (.int (p3.toInt8.toInt32)), .val (.ref b103), .val (.int k105_0), .val (.int k107_0), .val (.int k109_0), .val (.int k111_0), .unset, .unset] [(.int (0 : Int32))])) (fun tq kt => ?_) ?_
              · show Steps p.tables e below (T103.setTop (mkF m 108 #[.val (.int p0), .val (.int p1), .val (.int p2), .val (.int p3), .val (.int p4), .val (.int ((p4 &&& (2147483647 : Int32)) % (5 : Int32))), .val (.int (p0.toInt8.toInt32)), .val (.int (p1.toInt8.toInt32)), .val (.int (p2.toInt8.toInt32)), .val (.int (p3.toInt8.toInt32)), .val (.ref b103), .val (.int k105_0), .val (.int k107_0), .val (.int k109_0), .val (.int k111_0), .unset, .unset] [(.int k105_0)])) _
                refine XS.ifYes X103.here hx rfl (pc0 := 108) (pc' := 148) rfl (hb hby at_108) rfl (XT.i0_eq_t hc114) (by decide) (by decide) ?_
                show Steps p.tables e below (T103.setTop (mkF m 148 #[.val (.int p0), .val (.int p1), .val (.int p2), .val (.int p3), .val (.int p4), .val (.int ((p4 &&& (2147483647 : Int32)) % (5 : Int32))), .val (.int (p0.toInt8.toInt32)), .val (.int (p1.toInt8.toInt32)), .val (.int (p2.toInt8.toInt32)), .val (.int (p3.toInt8.toInt32)), .val (.ref b103), .val (.int k105_0), .val (.int k107_0), .val (.int k109_0), .val (.int k111_0), .unset, .unset] [])) _
                refine XS.iconst X103.here hx rfl (hb hby at_148) ?_
                exact kt
              exact J113 (0 : Int32) (if_pos hc114).symm
            · refine Got.step (T' := T103) (g' := (mkF m 119 #[.val (.int p0), .val (.int p1), .val (.int p2), .val (.int p3), .val (.int p4), .val (.int ((p4 &&& (2147483647 : Int32)) % (5 : Int32))), .val (.int (p0.toInt8.toInt32)), .val (.int (p1.toInt8.toInt32)), .val (.int (p2.toInt8.toInt32)), .val (.int (p3.toInt8.toInt32)), .val (.ref b103), .val (.int k105_0), .val (.int k107_0), .val (.int k109_0), .val (.int k111_0), .unset, .unset] [(.int k107_0)])) (fun tq kt => ?_) ?_
              · show Steps p.tables e below (T103.setTop (mkF m 108 #[.val (.int p0), .val (.int p1), .val (.int p2), .val (.int p3), .val (.int p4), .val (.int ((p4 &&& (2147483647 : Int32)) % (5 : Int32))), .val (.int (p0.toInt8.toInt32)), .val (.int (p1.toInt8.toInt32)), .val (.int (p2.toInt8.toInt32)), .val (.int (p3.toInt8.toInt32)), .val (.ref b103), .val (.int k105_0), .val (.int k107_0), .val (.int k109_0), .val (.int k111_0), .unset, .unset] [(.int k105_0)])) _
                refine XS.ifNo X103.here hx rfl (hb hby at_108) rfl (XT.i0_eq_f hc114) ?_
                show Steps p.tables e below (T103.setTop (mkF m 111 #[.val (.int p0), .val (.int p1), .val (.int p2), .val (.int p3), .val (.int p4), .val (.int ((p4 &&& (2147483647 : Int32)) % (5 : Int32))), .val (.int (p0.toInt8.toInt32)), .val (.int (p1.toInt8.toInt32)), .val (.int (p2.toInt8.toInt32)), .val (.int (p3.toInt8.toInt32)), .val (.ref b103), .val (.int k105_0), .val (.int k107_0), .val (.int k109_0), .val (.int k111_0), .unset, .unset] [])) _
                refine XS.iload X103.here hx rfl (hb hby at_111) rfl ?_
                show Steps p.tables e below (T103.setTop (mkF m 113 #[.val (.int p0), .val (.int p1), .val (.int p2), .val (.int p3), .val (.int p4), .val (.int ((p4 &&& (2147483647 : Int32)) % (5 : Int32))), .val (.int (p0.toInt8.toInt32)), .val (.int (p1.toInt8.toInt32)), .val (.int (p2.toInt8.toInt32)), .val (.int (p3.toInt8.toInt32)), .val (.ref b103), .val (.int k105_0), .val (.int k107_0), .val (.int k109_0), .val (.int k111_0), .unset, .unset] [(.int ((p4 &&& (2147483647 : Int32)) % (5 : Int32)))])) _
                refine XS.iconst X103.here hx rfl (hb hby at_113) ?_
                show Steps p.tables e below (T103.setTop (mkF m 114 #[.val (.int p0), .val (.int p1), .val (.int p2), .val (.int p3), .val (.int p4), .val (.int ((p4 &&& (2147483647 : Int32)) % (5 : Int32))), .val (.int (p0.toInt8.toInt32)), .val (.int (p1.toInt8.toInt32)), .val (.int (p2.toInt8.toInt32)), .val (.int (p3.toInt8.toInt32)), .val (.ref b103), .val (.int k105_0), .val (.int k107_0), .val (.int k109_0), .val (.int k111_0), .unset, .unset] [(.int (2 : Int32)), (.int ((p4 &&& (2147483647 : Int32)) % (5 : Int32)))])) _
                refine XS.icmpNo X103.here hx rfl (hb hby at_114) rfl (XT.ii_lt_f (by rw [hlen]; decide)) ?_
                show Steps p.tables e below (T103.setTop (mkF m 117 #[.val (.int p0), .val (.int p1), .val (.int p2), .val (.int p3), .val (.int p4), .val (.int ((p4 &&& (2147483647 : Int32)) % (5 : Int32))), .val (.int (p0.toInt8.toInt32)), .val (.int (p1.toInt8.toInt32)), .val (.int (p2.toInt8.toInt32)), .val (.int (p3.toInt8.toInt32)), .val (.ref b103), .val (.int k105_0), .val (.int k107_0), .val (.int k109_0), .val (.int k111_0), .unset, .unset] [])) _
                refine XS.iload X103.here hx rfl (hb hby at_117) rfl ?_
                exact kt
              by_cases hc115 : (k107_0 = 0)
              · refine Got.step (T' := T103) (g' := (mkF m 149 #[.val (.int p0), .val (.int p1), .val (.int p2), .val (.int p3), .val (.int p4), .val (.int ((p4 &&& (2147483647 : Int32)) % (5 : Int32))), .val (.int (p0.toInt8.toInt32)), .val (.int (p1.toInt8.toInt32)), .val (.int (p2.toInt8.toInt32)), .val (.int (p3.toInt8.toInt32)), .val (.ref b103), .val (.int k105_0), .val (.int k107_0), .val (.int k109_0), .val (.int k111_0), .unset, .unset] [(.int (0 : Int32))])) (fun tq kt => ?_) ?_
                · show Steps p.tables e below (T103.setTop (mkF m 119 #[.val (.int p0), .val (.int p1), .val (.int p2), .val (.int p3), .val (.int p4), .val (.int ((p4 &&& (2147483647 : Int32)) % (5 : Int32))), .val (.int (p0.toInt8.toInt32)), .val (.int (p1.toInt8.toInt32)), .val (.int (p2.toInt8.toInt32)), .val (.int (p3.toInt8.toInt32)), .val (.ref b103), .val (.int k105_0), .val (.int k107_0), .val (.int k109_0), .val (.int k111_0), .unset, .unset] [(.int k107_0)])) _
                  refine XS.ifYes X103.here hx rfl (pc0 := 119) (pc' := 148) rfl (hb hby at_119) rfl (XT.i0_eq_t hc115) (by decide) (by decide) ?_
                  show Steps p.tables e below (T103.setTop (mkF m 148 #[.val (.int p0), .val (.int p1), .val (.int p2), .val (.int p3), .val (.int p4), .val (.int ((p4 &&& (2147483647 : Int32)) % (5 : Int32))), .val (.int (p0.toInt8.toInt32)), .val (.int (p1.toInt8.toInt32)), .val (.int (p2.toInt8.toInt32)), .val (.int (p3.toInt8.toInt32)), .val (.ref b103), .val (.int k105_0), .val (.int k107_0), .val (.int k109_0), .val (.int k111_0), .unset, .unset] [])) _
                  refine XS.iconst X103.here hx rfl (hb hby at_148) ?_
                  exact kt
                exact J113 (0 : Int32) ((if_neg hc114).trans (if_pos hc115)).symm
              · refine Got.step (T' := T103) (g' := (mkF m 130 #[.val (.int p0), .val (.int p1), .val (.int p2), .val (.int p3), .val (.int p4), .val (.int ((p4 &&& (2147483647 : Int32)) % (5 : Int32))), .val (.int (p0.toInt8.toInt32)), .val (.int (p1.toInt8.toInt32)), .val (.int (p2.toInt8.toInt32)), .val (.int (p3.toInt8.toInt32)), .val (.ref b103), .val (.int k105_0), .val (.int k107_0), .val (.int k109_0), .val (.int k111_0), .unset, .unset] [(.int k109_0)])) (fun tq kt => ?_) ?_
                · show Steps p.tables e below (T103.setTop (mkF m 119 #[.val (.int p0), .val (.int p1), .val (.int p2), .val (.int p3), .val (.int p4), .val (.int ((p4 &&& (2147483647 : Int32)) % (5 : Int32))), .val (.int (p0.toInt8.toInt32)), .val (.int (p1.toInt8.toInt32)), .val (.int (p2.toInt8.toInt32)), .val (.int (p3.toInt8.toInt32)), .val (.ref b103), .val (.int k105_0), .val (.int k107_0), .val (.int k109_0), .val (.int k111_0), .unset, .unset] [(.int k107_0)])) _
                  refine XS.ifNo X103.here hx rfl (hb hby at_119) rfl (XT.i0_eq_f hc115) ?_
                  show Steps p.tables e below (T103.setTop (mkF m 122 #[.val (.int p0), .val (.int p1), .val (.int p2), .val (.int p3), .val (.int p4), .val (.int ((p4 &&& (2147483647 : Int32)) % (5 : Int32))), .val (.int (p0.toInt8.toInt32)), .val (.int (p1.toInt8.toInt32)), .val (.int (p2.toInt8.toInt32)), .val (.int (p3.toInt8.toInt32)), .val (.ref b103), .val (.int k105_0), .val (.int k107_0), .val (.int k109_0), .val (.int k111_0), .unset, .unset] [])) _
                  refine XS.iload X103.here hx rfl (hb hby at_122) rfl ?_
                  show Steps p.tables e below (T103.setTop (mkF m 124 #[.val (.int p0), .val (.int p1), .val (.int p2), .val (.int p3), .val (.int p4), .val (.int ((p4 &&& (2147483647 : Int32)) % (5 : Int32))), .val (.int (p0.toInt8.toInt32)), .val (.int (p1.toInt8.toInt32)), .val (.int (p2.toInt8.toInt32)), .val (.int (p3.toInt8.toInt32)), .val (.ref b103), .val (.int k105_0), .val (.int k107_0), .val (.int k109_0), .val (.int k111_0), .unset, .unset] [(.int ((p4 &&& (2147483647 : Int32)) % (5 : Int32)))])) _
                  refine XS.iconst X103.here hx rfl (hb hby at_124) ?_
                  show Steps p.tables e below (T103.setTop (mkF m 125 #[.val (.int p0), .val (.int p1), .val (.int p2), .val (.int p3), .val (.int p4), .val (.int ((p4 &&& (2147483647 : Int32)) % (5 : Int32))), .val (.int (p0.toInt8.toInt32)), .val (.int (p1.toInt8.toInt32)), .val (.int (p2.toInt8.toInt32)), .val (.int (p3.toInt8.toInt32)), .val (.ref b103), .val (.int k105_0), .val (.int k107_0), .val (.int k109_0), .val (.int k111_0), .unset, .unset] [(.int (3 : Int32)), (.int ((p4 &&& (2147483647 : Int32)) % (5 : Int32)))])) _
                  refine XS.icmpNo X103.here hx rfl (hb hby at_125) rfl (XT.ii_lt_f (by rw [hlen]; decide)) ?_
                  show Steps p.tables e below (T103.setTop (mkF m 128 #[.val (.int p0), .val (.int p1), .val (.int p2), .val (.int p3), .val (.int p4), .val (.int ((p4 &&& (2147483647 : Int32)) % (5 : Int32))), .val (.int (p0.toInt8.toInt32)), .val (.int (p1.toInt8.toInt32)), .val (.int (p2.toInt8.toInt32)), .val (.int (p3.toInt8.toInt32)), .val (.ref b103), .val (.int k105_0), .val (.int k107_0), .val (.int k109_0), .val (.int k111_0), .unset, .unset] [])) _
                  refine XS.iload X103.here hx rfl (hb hby at_128) rfl ?_
                  exact kt
                by_cases hc116 : (k109_0 = 0)
                · refine Got.step (T' := T103) (g' := (mkF m 149 #[.val (.int p0), .val (.int p1), .val (.int p2), .val (.int p3), .val (.int p4), .val (.int ((p4 &&& (2147483647 : Int32)) % (5 : Int32))), .val (.int (p0.toInt8.toInt32)), .val (.int (p1.toInt8.toInt32)), .val (.int (p2.toInt8.toInt32)), .val (.int (p3.toInt8.toInt32)), .val (.ref b103), .val (.int k105_0), .val (.int k107_0), .val (.int k109_0), .val (.int k111_0), .unset, .unset] [(.int (0 : Int32))])) (fun tq kt => ?_) ?_
                  · show Steps p.tables e below (T103.setTop (mkF m 130 #[.val (.int p0), .val (.int p1), .val (.int p2), .val (.int p3), .val (.int p4), .val (.int ((p4 &&& (2147483647 : Int32)) % (5 : Int32))), .val (.int (p0.toInt8.toInt32)), .val (.int (p1.toInt8.toInt32)), .val (.int (p2.toInt8.toInt32)), .val (.int (p3.toInt8.toInt32)), .val (.ref b103), .val (.int k105_0), .val (.int k107_0), .val (.int k109_0), .val (.int k111_0), .unset, .unset] [(.int k109_0)])) _
                    refine XS.ifYes X103.here hx rfl (pc0 := 130) (pc' := 148) rfl (hb hby at_130) rfl (XT.i0_eq_t hc116) (by decide) (by decide) ?_
                    show Steps p.tables e below (T103.setTop (mkF m 148 #[.val (.int p0), .val (.int p1), .val (.int p2), .val (.int p3), .val (.int p4), .val (.int ((p4 &&& (2147483647 : Int32)) % (5 : Int32))), .val (.int (p0.toInt8.toInt32)), .val (.int (p1.toInt8.toInt32)), .val (.int (p2.toInt8.toInt32)), .val (.int (p3.toInt8.toInt32)), .val (.ref b103), .val (.int k105_0), .val (.int k107_0), .val (.int k109_0), .val (.int k111_0), .unset, .unset] [])) _
                    refine XS.iconst X103.here hx rfl (hb hby at_148) ?_
                    exact kt
                  exact J113 (0 : Int32) ((if_neg hc114).trans ((if_neg hc115).trans (if_pos hc116))).symm
                · refine Got.step (T' := T103) (g' := (mkF m 141 #[.val (.int p0), .val (.int p1), .val (.int p2), .val (.int p3), .val (.int p4), .val (.int ((p4 &&& (2147483647 : Int32)) % (5 : Int32))), .val (.int (p0.toInt8.toInt32)), .val (.int (p1.toInt8.toInt32)), .val (.int (p2.toInt8.toInt32)), .val (.int (p3.toInt8.toInt32)), .val (.ref b103), .val (.int k105_0), .val (.int k107_0), .val (.int k109_0), .val (.int k111_0), .unset, .unset] [(.int k111_0)])) (fun tq kt => ?_) ?_
                  · show Steps p.tables e below (T103.setTop (mkF m 130 #[.val (.int p0), .val (.int p1), .val (.int p2), .val (.int p3), .val (.int p4), .val (.int ((p4 &&& (2147483647 : Int32)) % (5 : Int32))), .val (.int (p0.toInt8.toInt32)), .val (.int (p1.toInt8.toInt32)), .val (.int (p2.toInt8.toInt32)), .val (.int (p3.toInt8.toInt32)), .val (.ref b103), .val (.int k105_0), .val (.int k107_0), .val (.int k109_0), .val (.int k111_0), .unset, .unset] [(.int k109_0)])) _
                    refine XS.ifNo X103.here hx rfl (hb hby at_130) rfl (XT.i0_eq_f hc116) ?_
                    show Steps p.tables e below (T103.setTop (mkF m 133 #[.val (.int p0), .val (.int p1), .val (.int p2), .val (.int p3), .val (.int p4), .val (.int ((p4 &&& (2147483647 : Int32)) % (5 : Int32))), .val (.int (p0.toInt8.toInt32)), .val (.int (p1.toInt8.toInt32)), .val (.int (p2.toInt8.toInt32)), .val (.int (p3.toInt8.toInt32)), .val (.ref b103), .val (.int k105_0), .val (.int k107_0), .val (.int k109_0), .val (.int k111_0), .unset, .unset] [])) _
                    refine XS.iload X103.here hx rfl (hb hby at_133) rfl ?_
                    show Steps p.tables e below (T103.setTop (mkF m 135 #[.val (.int p0), .val (.int p1), .val (.int p2), .val (.int p3), .val (.int p4), .val (.int ((p4 &&& (2147483647 : Int32)) % (5 : Int32))), .val (.int (p0.toInt8.toInt32)), .val (.int (p1.toInt8.toInt32)), .val (.int (p2.toInt8.toInt32)), .val (.int (p3.toInt8.toInt32)), .val (.ref b103), .val (.int k105_0), .val (.int k107_0), .val (.int k109_0), .val (.int k111_0), .unset, .unset] [(.int ((p4 &&& (2147483647 : Int32)) % (5 : Int32)))])) _
                    refine XS.iconst X103.here hx rfl (hb hby at_135) ?_
                    show Steps p.tables e below (T103.setTop (mkF m 136 #[.val (.int p0), .val (.int p1), .val (.int p2), .val (.int p3), .val (.int p4), .val (.int ((p4 &&& (2147483647 : Int32)) % (5 : Int32))), .val (.int (p0.toInt8.toInt32)), .val (.int (p1.toInt8.toInt32)), .val (.int (p2.toInt8.toInt32)), .val (.int (p3.toInt8.toInt32)), .val (.ref b103), .val (.int k105_0), .val (.int k107_0), .val (.int k109_0), .val (.int k111_0), .unset, .unset] [(.int (4 : Int32)), (.int ((p4 &&& (2147483647 : Int32)) % (5 : Int32)))])) _
                    refine XS.icmpNo X103.here hx rfl (hb hby at_136) rfl (XT.ii_lt_f (by rw [hlen]; decide)) ?_
                    show Steps p.tables e below (T103.setTop (mkF m 139 #[.val (.int p0), .val (.int p1), .val (.int p2), .val (.int p3), .val (.int p4), .val (.int ((p4 &&& (2147483647 : Int32)) % (5 : Int32))), .val (.int (p0.toInt8.toInt32)), .val (.int (p1.toInt8.toInt32)), .val (.int (p2.toInt8.toInt32)), .val (.int (p3.toInt8.toInt32)), .val (.ref b103), .val (.int k105_0), .val (.int k107_0), .val (.int k109_0), .val (.int k111_0), .unset, .unset] [])) _
                    refine XS.iload X103.here hx rfl (hb hby at_139) rfl ?_
                    exact kt
                  by_cases hc117 : (k111_0 = 0)
                  · refine Got.step (T' := T103) (g' := (mkF m 149 #[.val (.int p0), .val (.int p1), .val (.int p2), .val (.int p3), .val (.int p4), .val (.int ((p4 &&& (2147483647 : Int32)) % (5 : Int32))), .val (.int (p0.toInt8.toInt32)), .val (.int (p1.toInt8.toInt32)), .val (.int (p2.toInt8.toInt32)), .val (.int (p3.toInt8.toInt32)), .val (.ref b103), .val (.int k105_0), .val (.int k107_0), .val (.int k109_0), .val (.int k111_0), .unset, .unset] [(.int (0 : Int32))])) (fun tq kt => ?_) ?_
                    · show Steps p.tables e below (T103.setTop (mkF m 141 #[.val (.int p0), .val (.int p1), .val (.int p2), .val (.int p3), .val (.int p4), .val (.int ((p4 &&& (2147483647 : Int32)) % (5 : Int32))), .val (.int (p0.toInt8.toInt32)), .val (.int (p1.toInt8.toInt32)), .val (.int (p2.toInt8.toInt32)), .val (.int (p3.toInt8.toInt32)), .val (.ref b103), .val (.int k105_0), .val (.int k107_0), .val (.int k109_0), .val (.int k111_0), .unset, .unset] [(.int k111_0)])) _
                      refine XS.ifYes X103.here hx rfl (pc0 := 141) (pc' := 148) rfl (hb hby at_141) rfl (XT.i0_eq_t hc117) (by decide) (by decide) ?_
                      show Steps p.tables e below (T103.setTop (mkF m 148 #[.val (.int p0), .val (.int p1), .val (.int p2), .val (.int p3), .val (.int p4), .val (.int ((p4 &&& (2147483647 : Int32)) % (5 : Int32))), .val (.int (p0.toInt8.toInt32)), .val (.int (p1.toInt8.toInt32)), .val (.int (p2.toInt8.toInt32)), .val (.int (p3.toInt8.toInt32)), .val (.ref b103), .val (.int k105_0), .val (.int k107_0), .val (.int k109_0), .val (.int k111_0), .unset, .unset] [])) _
                      refine XS.iconst X103.here hx rfl (hb hby at_148) ?_
                      exact kt
                    exact J113 (0 : Int32) ((if_neg hc114).trans ((if_neg hc115).trans ((if_neg hc116).trans (if_pos hc117)))).symm
                  · refine Got.step (T' := T103) (g' := (mkF m 149 #[.val (.int p0), .val (.int p1), .val (.int p2), .val (.int p3), .val (.int p4), .val (.int ((p4 &&& (2147483647 : Int32)) % (5 : Int32))), .val (.int (p0.toInt8.toInt32)), .val (.int (p1.toInt8.toInt32)), .val (.int (p2.toInt8.toInt32)), .val (.int (p3.toInt8.toInt32)), .val (.ref b103), .val (.int k105_0), .val (.int k107_0), .val (.int k109_0), .val (.int k111_0), .unset, .unset] [(.int (1 : Int32))])) (fun tq kt => ?_) ?_
                    · show Steps p.tables e below (T103.setTop (mkF m 141 #[.val (.int p0), .val (.int p1), .val (.int p2), .val (.int p3), .val (.int p4), .val (.int ((p4 &&& (2147483647 : Int32)) % (5 : Int32))), .val (.int (p0.toInt8.toInt32)), .val (.int (p1.toInt8.toInt32)), .val (.int (p2.toInt8.toInt32)), .val (.int (p3.toInt8.toInt32)), .val (.ref b103), .val (.int k105_0), .val (.int k107_0), .val (.int k109_0), .val (.int k111_0), .unset, .unset] [(.int k111_0)])) _
                      refine XS.ifNo X103.here hx rfl (hb hby at_141) rfl (XT.i0_eq_f hc117) ?_
                      show Steps p.tables e below (T103.setTop (mkF m 144 #[.val (.int p0), .val (.int p1), .val (.int p2), .val (.int p3), .val (.int p4), .val (.int ((p4 &&& (2147483647 : Int32)) % (5 : Int32))), .val (.int (p0.toInt8.toInt32)), .val (.int (p1.toInt8.toInt32)), .val (.int (p2.toInt8.toInt32)), .val (.int (p3.toInt8.toInt32)), .val (.ref b103), .val (.int k105_0), .val (.int k107_0), .val (.int k109_0), .val (.int k111_0), .unset, .unset] [])) _
                      refine XS.iconst X103.here hx rfl (hb hby at_144) ?_
                      show Steps p.tables e below (T103.setTop (mkF m 145 #[.val (.int p0), .val (.int p1), .val (.int p2), .val (.int p3), .val (.int p4), .val (.int ((p4 &&& (2147483647 : Int32)) % (5 : Int32))), .val (.int (p0.toInt8.toInt32)), .val (.int (p1.toInt8.toInt32)), .val (.int (p2.toInt8.toInt32)), .val (.int (p3.toInt8.toInt32)), .val (.ref b103), .val (.int k105_0), .val (.int k107_0), .val (.int k109_0), .val (.int k111_0), .unset, .unset] [(.int (1 : Int32))])) _
                      refine XS.goto X103.here hx rfl (pc0 := 145) (pc' := 149) rfl (hb hby at_145) (by decide) (by decide) ?_
                      exact kt
                    exact J113 (1 : Int32) ((if_neg hc114).trans ((if_neg hc115).trans ((if_neg hc116).trans (if_neg hc117)))).symm
          by_cases hc112 : ((p3 &&& (128 : Int32)) = 0)
          · refine Got.step (T' := T103) (g' := (mkF m 98 #[.val (.int p0), .val (.int p1), .val (.int p2), .val (.int p3), .val (.int p4), .val (.int ((p4 &&& (2147483647 : Int32)) % (5 : Int32))), .val (.int (p0.toInt8.toInt32)), .val (.int (p1.toInt8.toInt32)), .val (.int (p2.toInt8.toInt32)), .val (.int (p3.toInt8.toInt32)), .val (.ref b103), .val (.int k105_0), .val (.int k107_0), .val (.int k109_0), .unset, .unset, .unset] [(.int (1 : Int32))])) (fun tq kt => ?_) ?_
            · show Steps p.tables e below (T103.setTop (mkF m 90 #[.val (.int p0), .val (.int p1), .val (.int p2), .val (.int p3), .val (.int p4), .val (.int ((p4 &&& (2147483647 : Int32)) % (5 : Int32))), .val (.int (p0.toInt8.toInt32)), .val (.int (p1.toInt8.toInt32)), .val (.int (p2.toInt8.toInt32)), .val (.int (p3.toInt8.toInt32)), .val (.ref b103), .val (.int k105_0), .val (.int k107_0), .val (.int k109_0), .unset, .unset, .unset] [(.int (p3 &&& (128 : Int32)))])) _
              refine XS.ifNo X103.here hx rfl (hb hby at_90) rfl (XT.i0_ne_f hc112) ?_
              show Steps p.tables e below (T103.setTop (mkF m 93 #[.val (.int p0), .val (.int p1), .val (.int p2), .val (.int p3), .val (.int p4), .val (.int ((p4 &&& (2147483647 : Int32)) % (5 : Int32))), .val (.int (p0.toInt8.toInt32)), .val (.int (p1.toInt8.toInt32)), .val (.int (p2.toInt8.toInt32)), .val (.int (p3.toInt8.toInt32)), .val (.ref b103), .val (.int k105_0), .val (.int k107_0), .val (.int k109_0), .unset, .unset, .unset] [])) _
              refine XS.iconst X103.here hx rfl (hb hby at_93) ?_
              show Steps p.tables e below (T103.setTop (mkF m 94 #[.val (.int p0), .val (.int p1), .val (.int p2), .val (.int p3), .val (.int p4), .val (.int ((p4 &&& (2147483647 : Int32)) % (5 : Int32))), .val (.int (p0.toInt8.toInt32)), .val (.int (p1.toInt8.toInt32)), .val (.int (p2.toInt8.toInt32)), .val (.int (p3.toInt8.toInt32)), .val (.ref b103), .val (.int k105_0), .val (.int k107_0), .val (.int k109_0), .unset, .unset, .unset] [(.int (1 : Int32))])) _
              refine XS.goto X103.here hx rfl (pc0 := 94) (pc' := 98) rfl (hb hby at_94) (by decide) (by decide) ?_
              exact kt
            exact J111 (1 : Int32) (if_pos hc112).symm
          · refine Got.step (T' := T103) (g' := (mkF m 98 #[.val (.int p0), .val (.int p1), .val (.int p2), .val (.int p3), .val (.int p4), .val (.int ((p4 &&& (2147483647 : Int32)) % (5 : Int32))), .val (.int (p0.toInt8.toInt32)), .val (.int (p1.toInt8.toInt32)), .val (.int (p2.toInt8.toInt32)), .val (.int (p3.toInt8.toInt32)), .val (.ref b103), .val (.int k105_0), .val (.int k107_0), .val (.int k109_0), .unset, .unset, .unset] [(.int (0 : Int32))])) (fun tq kt => ?_) ?_
            · show Steps p.tables e below (T103.setTop (mkF m 90 #[.val (.int p0), .val (.int p1), .val (.int p2), .val (.int p3), .val (.int p4), .val (.int ((p4 &&& (2147483647 : Int32)) % (5 : Int32))), .val (.int (p0.toInt8.toInt32)), .val (.int (p1.toInt8.toInt32)), .val (.int (p2.toInt8.toInt32)), .val (.int (p3.toInt8.toInt32)), .val (.ref b103), .val (.int k105_0), .val (.int k107_0), .val (.int k109_0), .unset, .unset, .unset] [(.int (p3 &&& (128 : Int32)))])) _
              refine XS.ifYes X103.here hx rfl (pc0 := 90) (pc' := 97) rfl (hb hby at_90) rfl (XT.i0_ne_t hc112) (by decide) (by decide) ?_
              show Steps p.tables e below (T103.setTop (mkF m 97 #[.val (.int p0), .val (.int p1), .val (.int p2), .val (.int p3), .val (.int p4), .val (.int ((p4 &&& (2147483647 : Int32)) % (5 : Int32))), .val (.int (p0.toInt8.toInt32)), .val (.int (p1.toInt8.toInt32)), .val (.int (p2.toInt8.toInt32)), .val (.int (p3.toInt8.toInt32)), .val (.ref b103), .val (.int k105_0), .val (.int k107_0), .val (.int k109_0), .unset, .unset, .unset] [])) _
              refine XS.iconst X103.here hx rfl (hb hby at_97) ?_
              exact kt
            exact J111 (0 : Int32) (if_neg hc112).symm
        by_cases hc110 : ((p2 &&& (128 : Int32)) = 0)
        · refine Got.step (T' := T103) (g' := (mkF m 83 #[.val (.int p0), .val (.int p1), .val (.int p2), .val (.int p3), .val (.int p4), .val (.int ((p4 &&& (2147483647 : Int32)) % (5 : Int32))), .val (.int (p0.toInt8.toInt32)), .val (.int (p1.toInt8.toInt32)), .val (.int (p2.toInt8.toInt32)), .val (.int (p3.toInt8.toInt32)), .val (.ref b103), .val (.int k105_0), .val (.int k107_0), .unset, .unset, .unset, .unset] [(.int (1 : Int32))])) (fun tq kt => ?_) ?_
          · show Steps p.tables e below (T103.setTop (mkF m 75 #[.val (.int p0), .val (.int p1), .val (.int p2), .val (.int p3), .val (.int p4), .val (.int ((p4 &&& (2147483647 : Int32)) % (5 : Int32))), .val (.int (p0.toInt8.toInt32)), .val (.int (p1.toInt8.toInt32)), .val (.int (p2.toInt8.toInt32)), .val (.int (p3.toInt8.toInt32)), .val (.ref b103), .val (.int k105_0), .val (.int k107_0), .unset, .unset, .unset, .unset] [(.int (p2 &&& (128 : Int32)))])) _
            refine XS.ifNo X103.here hx rfl (hb hby at_75) rfl (XT.i0_ne_f hc110) ?_
            show Steps p.tables e below (T103.setTop (mkF m 78 #[.val (.int p0), .val (.int p1), .val (.int p2), .val (.int p3), .val (.int p4), .val (.int ((p4 &&& (2147483647 : Int32)) % (5 : Int32))), .val (.int (p0.toInt8.toInt32)), .val (.int (p1.toInt8.toInt32)), .val (.int (p2.toInt8.toInt32)), .val (.int (p3.toInt8.toInt32)), .val (.ref b103), .val (.int k105_0), .val (.int k107_0), .unset, .unset, .unset, .unset] [])) _
            refine XS.iconst X103.here hx rfl (hb hby at_78) ?_
            show Steps p.tables e below (T103.setTop (mkF m 79 #[.val (.int p0), .val (.int p1), .val (.int p2), .val (.int p3), .val (.int p4), .val (.int ((p4 &&& (2147483647 : Int32)) % (5 : Int32))), .val (.int (p0.toInt8.toInt32)), .val (.int (p1.toInt8.toInt32)), .val (.int (p2.toInt8.toInt32)), .val (.int (p3.toInt8.toInt32)), .val (.ref b103), .val (.int k105_0), .val (.int k107_0), .unset, .unset, .unset, .unset] [(.int (1 : Int32))])) _
            refine XS.goto X103.here hx rfl (pc0 := 79) (pc' := 83) rfl (hb hby at_79) (by decide) (by decide) ?_
            exact kt
          exact J109 (1 : Int32) (if_pos hc110).symm
        · refine Got.step (T' := T103) (g' := (mkF m 83 #[.val (.int p0), .val (.int p1), .val (.int p2), .val (.int p3), .val (.int p4), .val (.int ((p4 &&& (2147483647 : Int32)) % (5 : Int32))), .val (.int (p0.toInt8.toInt32)), .val (.int (p1.toInt8.toInt32)), .val (.int (p2.toInt8.toInt32)), .val (.int (p3.toInt8.toInt32)), .val (.ref b103), .val (.int k105_0), .val (.int k107_0), .unset, .unset, .unset, .unset] [(.int (0 : Int32))])) (fun tq kt => ?_) ?_
          · show Steps p.tables e below (T103.setTop (mkF m 75 #[.val (.int p0), .val (.int p1), .val (.int p2), .val (.int p3), .val (.int p4), .val (.int ((p4 &&& (2147483647 : Int32)) % (5 : Int32))), .val (.int (p0.toInt8.toInt32)), .val (.int (p1.toInt8.toInt32)), .val (.int (p2.toInt8.toInt32)), .val (.int (p3.toInt8.toInt32)), .val (.ref b103), .val (.int k105_0), .val (.int k107_0), .unset, .unset, .unset, .unset] [(.int (p2 &&& (128 : Int32)))])) _
            refine XS.ifYes X103.here hx rfl (pc0 := 75) (pc' := 82) rfl (hb hby at_75) rfl (XT.i0_ne_t hc110) (by decide) (by decide) ?_
            show Steps p.tables e below (T103.setTop (mkF m 82 #[.val (.int p0), .val (.int p1), .val (.int p2), .val (.int p3), .val (.int p4), .val (.int ((p4 &&& (2147483647 : Int32)) % (5 : Int32))), .val (.int (p0.toInt8.toInt32)), .val (.int (p1.toInt8.toInt32)), .val (.int (p2.toInt8.toInt32)), .val (.int (p3.toInt8.toInt32)), .val (.ref b103), .val (.int k105_0), .val (.int k107_0), .unset, .unset, .unset, .unset] [])) _
            refine XS.iconst X103.here hx rfl (hb hby at_82) ?_
            exact kt
          exact J109 (0 : Int32) (if_neg hc110).symm
      by_cases hc108 : ((p1 &&& (128 : Int32)) = 0)
      · refine Got.step (T' := T103) (g' := (mkF m 68 #[.val (.int p0), .val (.int p1), .val (.int p2), .val (.int p3), .val (.int p4), .val (.int ((p4 &&& (2147483647 : Int32)) % (5 : Int32))), .val (.int (p0.toInt8.toInt32)), .val (.int (p1.toInt8.toInt32)), .val (.int (p2.toInt8.toInt32)), .val (.int (p3.toInt8.toInt32)), .val (.ref b103), .val (.int k105_0), .unset, .unset, .unset, .unset, .unset] [(.int (1 : Int32))])) (fun tq kt => ?_) ?_
        · show Steps p.tables e below (T103.setTop (mkF m 60 #[.val (.int p0), .val (.int p1), .val (.int p2), .val (.int p3), .val (.int p4), .val (.int ((p4 &&& (2147483647 : Int32)) % (5 : Int32))), .val (.int (p0.toInt8.toInt32)), .val (.int (p1.toInt8.toInt32)), .val (.int (p2.toInt8.toInt32)), .val (.int (p3.toInt8.toInt32)), .val (.ref b103), .val (.int k105_0), .unset, .unset, .unset, .unset, .unset] [(.int (p1 &&& (128 : Int32)))])) _
          refine XS.ifNo X103.here hx rfl (hb hby at_60) rfl (XT.i0_ne_f hc108) ?_
          show Steps p.tables e below (T103.setTop (mkF m 63 #[.val (.int p0), .val (.int p1), .val (.int p2), .val (.int p3), .val (.int p4), .val (.int ((p4 &&& (2147483647 : Int32)) % (5 : Int32))), .val (.int (p0.toInt8.toInt32)), .val (.int (p1.toInt8.toInt32)), .val (.int (p2.toInt8.toInt32)), .val (.int (p3.toInt8.toInt32)), .val (.ref b103), .val (.int k105_0), .unset, .unset, .unset, .unset, .unset] [])) _
          refine XS.iconst X103.here hx rfl (hb hby at_63) ?_
          show Steps p.tables e below (T103.setTop (mkF m 64 #[.val (.int p0), .val (.int p1), .val (.int p2), .val (.int p3), .val (.int p4), .val (.int ((p4 &&& (2147483647 : Int32)) % (5 : Int32))), .val (.int (p0.toInt8.toInt32)), .val (.int (p1.toInt8.toInt32)), .val (.int (p2.toInt8.toInt32)), .val (.int (p3.toInt8.toInt32)), .val (.ref b103), .val (.int k105_0), .unset, .unset, .unset, .unset, .unset] [(.int (1 : Int32))])) _
          refine XS.goto X103.here hx rfl (pc0 := 64) (pc' := 68) rfl (hb hby at_64) (by decide) (by decide) ?_
          exact kt
        exact J107 (1 : Int32) (if_pos hc108).symm
      · refine Got.step (T' := T103) (g' := (mkF m 68 #[.val (.int p0), .val (.int p1), .val (.int p2), .val (.int p3), .val (.int p4), .val (.int ((p4 &&& (2147483647 : Int32)) % (5 : Int32))), .val (.int (p0.toInt8.toInt32)), .val (.int (p1.toInt8.toInt32)), .val (.int (p2.toInt8.toInt32)), .val (.int (p3.toInt8.toInt32)), .val (.ref b103), .val (.int k105_0), .unset, .unset, .unset, .unset, .unset] [(.int (0 : Int32))])) (fun tq kt => ?_) ?_
        · show Steps p.tables e below (T103.setTop (mkF m 60 #[.val (.int p0), .val (.int p1), .val (.int p2), .val (.int p3), .val (.int p4), .val (.int ((p4 &&& (2147483647 : Int32)) % (5 : Int32))), .val (.int (p0.toInt8.toInt32)), .val (.int (p1.toInt8.toInt32)), .val (.int (p2.toInt8.toInt32)), .val (.int (p3.toInt8.toInt32)), .val (.ref b103), .val (.int k105_0), .unset, .unset, .unset, .unset, .unset] [(.int (p1 &&& (128 : Int32)))])) _
          refine XS.ifYes X103.here hx rfl (pc0 := 60) (pc' := 67) rfl (hb hby at_60) rfl (XT.i0_ne_t hc108) (by decide) (by decide) ?_
          show Steps p.tables e below (T103.setTop (mkF m 67 #[.val (.int p0), .val (.int p1), .val (.int p2), .val (.int p3), .val (.int p4), .val (.int ((p4 &&& (2147483647 : Int32)) % (5 : Int32))), .val (.int (p0.toInt8.toInt32)), .val (.int (p1.toInt8.toInt32)), .val (.int (p2.toInt8.toInt32)), .val (.int (p3.toInt8.toInt32)), .val (.ref b103), .val (.int k105_0), .unset, .unset, .unset, .unset, .unset] [])) _
          refine XS.iconst X103.here hx rfl (hb hby at_67) ?_
          exact kt
        exact J107 (0 : Int32) (if_neg hc108).symm
    by_cases hc106 : ((p0 &&& (128 : Int32)) = 0)
    · refine Got.step (T' := T103) (g' := (mkF m 53 #[.val (.int p0), .val (.int p1), .val (.int p2), .val (.int p3), .val (.int p4), .val (.int ((p4 &&& (2147483647 : Int32)) % (5 : Int32))), .val (.int (p0.toInt8.toInt32)), .val (.int (p1.toInt8.toInt32)), .val (.int (p2.toInt8.toInt32)), .val (.int (p3.toInt8.toInt32)), .val (.ref b103), .unset, .unset, .unset, .unset, .unset, .unset] [(.int (1 : Int32))])) (fun tq kt => ?_) ?_
      · show Steps p.tables e below (T103.setTop (mkF m 45 #[.val (.int p0), .val (.int p1), .val (.int p2), .val (.int p3), .val (.int p4), .val (.int ((p4 &&& (2147483647 : Int32)) % (5 : Int32))), .val (.int (p0.toInt8.toInt32)), .val (.int (p1.toInt8.toInt32)), .val (.int (p2.toInt8.toInt32)), .val (.int (p3.toInt8.toInt32)), .val (.ref b103), .unset, .unset, .unset, .unset, .unset, .unset] [(.int (p0 &&& (128 : Int32)))])) _
        refine XS.ifNo X103.here hx rfl (hb hby at_45) rfl (XT.i0_ne_f hc106) ?_
        show Steps p.tables e below (T103.setTop (mkF m 48 #[.val (.int p0), .val (.int p1), .val (.int p2), .val (.int p3), .val (.int p4), .val (.int ((p4 &&& (2147483647 : Int32)) % (5 : Int32))), .val (.int (p0.toInt8.toInt32)), .val (.int (p1.toInt8.toInt32)), .val (.int (p2.toInt8.toInt32)), .val (.int (p3.toInt8.toInt32)), .val (.ref b103), .unset, .unset, .unset, .unset, .unset, .unset] [])) _
        refine XS.iconst X103.here hx rfl (hb hby at_48) ?_
        show Steps p.tables e below (T103.setTop (mkF m 49 #[.val (.int p0), .val (.int p1), .val (.int p2), .val (.int p3), .val (.int p4), .val (.int ((p4 &&& (2147483647 : Int32)) % (5 : Int32))), .val (.int (p0.toInt8.toInt32)), .val (.int (p1.toInt8.toInt32)), .val (.int (p2.toInt8.toInt32)), .val (.int (p3.toInt8.toInt32)), .val (.ref b103), .unset, .unset, .unset, .unset, .unset, .unset] [(.int (1 : Int32))])) _
        refine XS.goto X103.here hx rfl (pc0 := 49) (pc' := 53) rfl (hb hby at_49) (by decide) (by decide) ?_
        exact kt
      exact J105 (1 : Int32) (if_pos hc106).symm
    · refine Got.step (T' := T103) (g' := (mkF m 53 #[.val (.int p0), .val (.int p1), .val (.int p2), .val (.int p3), .val (.int p4), .val (.int ((p4 &&& (2147483647 : Int32)) % (5 : Int32))), .val (.int (p0.toInt8.toInt32)), .val (.int (p1.toInt8.toInt32)), .val (.int (p2.toInt8.toInt32)), .val (.int (p3.toInt8.toInt32)), .val (.ref b103), .unset, .unset, .unset, .unset, .unset, .unset] [(.int (0 : Int32))])) (fun tq kt => ?_) ?_
      · show Steps p.tables e below (T103.setTop (mkF m 45 #[.val (.int p0), .val (.int p1), .val (.int p2), .val (.int p3), .val (.int p4), .val (.int ((p4 &&& (2147483647 : Int32)) % (5 : Int32))), .val (.int (p0.toInt8.toInt32)), .val (.int (p1.toInt8.toInt32)), .val (.int (p2.toInt8.toInt32)), .val (.int (p3.toInt8.toInt32)), .val (.ref b103), .unset, .unset, .unset, .unset, .unset, .unset] [(.int (p0 &&& (128 : Int32)))])) _
        refine XS.ifYes X103.here hx rfl (pc0 := 45) (pc' := 52) rfl (hb hby at_45) rfl (XT.i0_ne_t hc106) (by decide) (by decide) ?_
        show Steps p.tables e below (T103.setTop (mkF m 52 #[.val (.int p0), .val (.int p1), .val (.int p2), .val (.int p3), .val (.int p4), .val (.int ((p4 &&& (2147483647 : Int32)) % (5 : Int32))), .val (.int (p0.toInt8.toInt32)), .val (.int (p1.toInt8.toInt32)), .val (.int (p2.toInt8.toInt32)), .val (.int (p3.toInt8.toInt32)), .val (.ref b103), .unset, .unset, .unset, .unset, .unset, .unset] [])) _
        refine XS.iconst X103.here hx rfl (hb hby at_52) ?_
        exact kt
      exact J105 (0 : Int32) (if_neg hc106).symm
set_option maxRecDepth 65536 in
set_option maxHeartbeats 40000000 in
theorem comes_1 {Post : Tables → Env → Array Value → State → Outcome → State → Prop} (hpost : ∀ tb e args s v u, (limb_1_1.after args s (.returned v) u = true ∧ limb_1_2.after args s (.returned v) u = true ∧ True) → FrameEnd s (.returned v) u (Jvm.fieldLocs frame_1_writes args s ++ Jvm.arrayLocs frame_1_arrays args s ++ Jvm.staticLocs frame_1_statics s) 16 128 → Post tb e args s (.returned v) u) :
    ArmFor flags0 classFile x code maxLocals ret World_1 tables_1 room_1 Calls_1 rest_1 Pre_1 Post := by
  intro l hfl _ _ p e ha hc hk s m args below hf hA hF happ hP
  obtain ⟨hcalls, hrest, hpre⟩ := hP
  obtain ⟨-, -, -, hnamed, -, -, -, hat⟩ := (Spec.applies_iff hf).mp happ
  obtain ⟨hg, hn⟩ := and_e (Cond.before_iff.mp (show (Jvm.Cond.and given_1 narrow_1).before args s = true from hpre))
  obtain ⟨h1, g0⟩ := and_e hg
  obtain ⟨c0, g1⟩ := and_e g0
  obtain ⟨c1, g2⟩ := and_e g1
  obtain ⟨c2, g3⟩ := and_e g2
  obtain ⟨c3, g4⟩ := and_e g3
  obtain ⟨w0, w1, w2, w3, w4, rfl⟩ : ∃ w0 w1 w2 w3 w4 : Value, args = #[w0, w1, w2, w3, w4] := by
    have hs : args.size = 5 := by simpa [Cond.value, given_1] using h1
    obtain ⟨L⟩ := args
    match L, hs with
    | [w0, w1, w2, w3, w4], _ => exact ⟨w0, w1, w2, w3, w4, rfl⟩
  have hw := fun d (hd : d ∈ tables_1) => atoms_spec (ws := Jvm.Cond.code x code maxLocals ret :: tables_1) hat d (List.mem_cons_of_mem _ hd)
  obtain ⟨i0, e0⟩ := is_v c0
  obtain rfl : w0 = (.int i0) := Option.some.inj e0
  obtain ⟨i1, e1⟩ := is_v c1
  obtain rfl : w1 = (.int i1) := Option.some.inj e1
  obtain ⟨i2, e2⟩ := is_v c2
  obtain rfl : w2 = (.int i2) := Option.some.inj e2
  obtain ⟨i3, e3⟩ := is_v c3
  obtain rfl : w3 = (.int i3) := Option.some.inj e3
  obtain ⟨i4, e4⟩ := is_v g4
  obtain rfl : w4 = (.int i4) := Option.some.inj e4
  obtain ⟨n, o, h1, h2, h3, vq, L, rfl, ⟨hv, N⟩, hq⟩ := rm0 l s _ hw tables_1 i0 i1 i2 i3 i4  s.heap s.heap.size (Nat.le_refl _) p e ha hc hk s m _ below hf ((Spec.applies_iff_loose hf).mp happ).1 ⟨rfl, State.Warmed39.refl s, rfl⟩ trivial
  subst hv
  refine ⟨n, _, h1, h2, h3, hpost _ _ _ _ _ _ ⟨Cond.after_iff.mpr rfl, Cond.after_iff.mpr (eq_i res_at (Term.int_eval (1)) rfl), trivial⟩ ⟨hq.1, hq.2.1, (hq.2.2.sift fun y hy => Or.inr (N y hy)).mono (by decide) (by decide)⟩⟩
theorem main_1_1 : Claimed_1_1 := comes_1 fun _ _ _ _ _ _ h hF => ⟨h.1, hF⟩
theorem main_1_2 : Claimed_1_2 := comes_1 fun _ _ _ _ _ _ h hF => ⟨h.2.1, hF⟩
end Jvm.Pilot.@@N@@
namespace Jvm.Pilot.@@N@@
open Jvm Jvm.ClassFile Sem Op Lib Jvm.Free Jvm.Stand Jvm.Pilot.@@N@@.Jvm.D
/-! MADE BY PROGRAM (witnessworld.py) out of the Statement's table words and the real class files: 12 classes; the members and pool entries that the words name. The judged class is class 1, her method 2. -/
namespace start1
open Jvm.ClassFile
def u (s : String) : CpInfo := .utf8 (stringToUtf16 s)
/-- a pool by its gaps: so many unusable entries, then the entry; so many at the end -/
def gap : Nat → List CpInfo → List CpInfo
  | 0, r => r
  | n + 1, r => .unusable :: gap n r
def poolList (es : List (Nat × CpInfo)) (last : Nat) : List CpInfo := es.foldr (fun e r => gap e.1 (e.2 :: r)) (gap last [])
def pool (es : List (Nat × CpInfo)) (last : Nat) : Array CpInfo := ⟨poolList es last⟩
def fileOf (pool : Array CpInfo) (this : Nat) (attrs : Array Attribute := #[]) (ms : Array MethodInfo := #[]) (fl : Nat := 33) (sup : Nat := 0) (ifs : Array Nat := #[]) (fds : Array FieldInfo := #[]) : ClassFile where
  minorVersion := 0
  majorVersion := 65
  constantPool := pool
  accessFlags := fl
  thisClass := this
  superClass := sup
  interfaces := ifs
  fields := fds
  methods := ms
  attributes := attrs
def plain (name : String) (sup : Option ClassId) : Class where
  name := name
  kind := .ordinary
  loader := none
  accessFlags := 33
  super := sup
  interfaces := #[]
  cf := none
  fields := #[]
  methods := #[]
  instanceTypes := #[]
  staticTypes := #[]
  resolved := #[]
  callSites := []
  init := .initialized
  statics := none
  mirror := none

def pool0 : Array CpInfo := pool [(5, u "<init>"), (0, u "()V"), (1, .class_ 10), (1, u "java/lang/Object")] 113

def k0m0 : Method := { name := "<init>", desc := "()V", sig := { parameters := [], returnType := none }, accessFlags := 1, code := none }
/-- java/lang/Object -/
def k0 : Class := { plain "java/lang/Object" none with
  accessFlags := 33
  interfaces := #[]
  cf := some (fileOf pool0 8 #[] #[{ accessFlags := 1, nameIndex := 5, descriptorIndex := 6, attributes := #[] }] 33 0 #[] #[])
  fields := #[]
  methods := #[k0m0]
  instanceTypes := #[]
  staticTypes := #[]
  resolved := Array.replicate 124 none
  statics := none }

def pool1 : Array CpInfo := pool [(2, .class_ 4), (1, u "java/lang/Object"), (0, u "<init>"), (0, u "()V"), (0, .integer 2147483647), (0, .methodref 9 10), (0, .class_ 11), (0, .nameAndType 12 13), (0, u "com/example/cytobridge/cytobridge/profile/CharacterSetIsAsciiPinLaw"), (0, u "build"), (0, u "(IBBBB)[B"), (0, .methodref 15 16), (0, .class_ 17), (0, .nameAndType 18 19), (0, u "com/example/cytobridge/cytobridge/profile/CharacterSet"), (0, u "isAscii"), (0, u "([B)Z"), (3, u "law"), (0, u "(IIIII)Z")] 4

def k1m0 : Method := { name := "<init>", desc := "()V", sig := { parameters := [], returnType := none }, accessFlags := 1, code := none }
def k1c1 : Code := { maxStack := 4, maxLocals := 5, code := method_2_code, exceptionTable := #[], attributes := #[] }
def k1m1 : Method := { name := "build", desc := "(IBBBB)[B", sig := { parameters := [.int, .byte, .byte, .byte, .byte], returnType := some (.array .byte) }, accessFlags := 10, code := some k1c1 }
def k1c2 : Code := { maxStack := 5, maxLocals := 17, code := code, exceptionTable := #[], attributes := #[] }
def k1m2 : Method := { name := "law", desc := "(IIIII)Z", sig := { parameters := [.int, .int, .int, .int, .int], returnType := some .boolean }, accessFlags := 9, code := some k1c2 }
/-- com/example/cytobridge/cytobridge/profile/CharacterSetIsAsciiPinLaw -/
def k1 : Class := { plain "com/example/cytobridge/cytobridge/profile/CharacterSetIsAsciiPinLaw" (some 0) with
  accessFlags := 49
  interfaces := #[]
  cf := some (fileOf pool1 9 #[] #[{ accessFlags := 1, nameIndex := 5, descriptorIndex := 6, attributes := #[] }, { accessFlags := 10, nameIndex := 12, descriptorIndex := 13, attributes := #[] }, { accessFlags := 9, nameIndex := 23, descriptorIndex := 24, attributes := #[] }] 49 2 #[] #[])
  fields := #[]
  methods := #[k1m0, k1m1, k1m2]
  instanceTypes := #[]
  staticTypes := #[]
  resolved := Array.replicate 29 none
  statics := none }

def pool2 : Array CpInfo := pool [(1, .class_ 2), (0, u "java/lang/constant/Constable"), (0, .class_ 4), (0, u "java/lang/Object")] 6

/-- java/lang/constant/Constable -/
def k2 : Class := { plain "java/lang/constant/Constable" (some 0) with
  accessFlags := 1537
  interfaces := #[]
  cf := some (fileOf pool2 1 #[] #[] 1537 3 #[] #[])
  fields := #[]
  methods := #[]
  instanceTypes := #[]
  staticTypes := #[]
  resolved := Array.replicate 11 none
  statics := none }

def pool3 : Array CpInfo := pool [(1, .class_ 2), (0, u "java/lang/Comparable"), (0, .class_ 4), (0, u "java/lang/Object")] 7

/-- java/lang/Comparable -/
def k3 : Class := { plain "java/lang/Comparable" (some 0) with
  accessFlags := 1537
  interfaces := #[]
  cf := some (fileOf pool3 1 #[] #[] 1537 3 #[] #[])
  fields := #[]
  methods := #[]
  instanceTypes := #[]
  staticTypes := #[]
  resolved := Array.replicate 12 none
  statics := none }

def pool4 : Array CpInfo := pool [(1, .class_ 2), (0, u "java/io/Serializable"), (0, .class_ 4), (0, u "java/lang/Object")] 2

/-- java/io/Serializable -/
def k4 : Class := { plain "java/io/Serializable" (some 0) with
  accessFlags := 1537
  interfaces := #[]
  cf := some (fileOf pool4 1 #[] #[] 1537 3 #[] #[])
  fields := #[]
  methods := #[]
  instanceTypes := #[]
  staticTypes := #[]
  resolved := Array.replicate 7 none
  statics := none }

def pool5 : Array CpInfo := pool [(2, .class_ 4), (1, u "java/lang/Enum"), (0, u "name"), (0, u "Ljava/lang/String;"), (2, u "ordinal"), (0, u "I"), (1, .class_ 14), (1, u "java/lang/Object"), (4, u "hash"), (86, .class_ 108), (1, u "java/lang/Enum$EnumDesc"), (2, .class_ 112), (0, u "java/lang/constant/Constable"), (0, .class_ 114), (0, u "java/lang/Comparable"), (0, .class_ 116), (0, u "java/io/Serializable")] 87

/-- java/lang/Enum -/
def k5 : Class := { plain "java/lang/Enum" (some 0) with
  accessFlags := 1057
  interfaces := #[2, 3, 4]
  cf := some (fileOf pool5 2 #[.nestMembers #[106]] #[] 1057 12 #[111, 113, 115] #[{ accessFlags := 18, nameIndex := 5, descriptorIndex := 6, attributes := #[] }, { accessFlags := 18, nameIndex := 9, descriptorIndex := 10, attributes := #[] }, { accessFlags := 2, nameIndex := 19, descriptorIndex := 10, attributes := #[] }])
  fields := #[{ name := "name", type := (.object "java/lang/String"), accessFlags := 18, slot := 0, constantValue := 0 }, { name := "ordinal", type := .int, accessFlags := 18, slot := 1, constantValue := 0 }, { name := "hash", type := .int, accessFlags := 2, slot := 2, constantValue := 0 }]
  methods := #[]
  instanceTypes := #[(.object "java/lang/String"), .int, .int]
  staticTypes := #[]
  resolved := Array.replicate 204 none
  statics := none }

def pool6 : Array CpInfo := pool [(1, .class_ 2), (0, u "com/example/cytobridge/cytobridge/profile/CharacterSet"), (2, u "UTF_8"), (0, u "Lcom/example/cytobridge/cytobridge/profile/CharacterSet;"), (2, u "ISO_8859_1"), (2, u "$VALUES"), (0, u "[Lcom/example/cytobridge/cytobridge/profile/CharacterSet;"), (6, .class_ 22), (1, u "java/lang/Enum"), (8, u "charset"), (0, u "Ljava/nio/charset/Charset;"), (2, u "hl7Name"), (0, u "Ljava/lang/String;"), (73, u "isAscii"), (0, u "([B)Z")] 10

def k6c0 : Code := { maxStack := 2, maxLocals := 5, code := prog_32_method_7_code, exceptionTable := #[], attributes := #[] }
def k6m0 : Method := { name := "isAscii", desc := "([B)Z", sig := { parameters := [(.array .byte)], returnType := some .boolean }, accessFlags := 9, code := some k6c0 }
/-- com/example/cytobridge/cytobridge/profile/CharacterSet -/
def k6 : Class := { plain "com/example/cytobridge/cytobridge/profile/CharacterSet" (some 5) with
  accessFlags := 16433
  interfaces := #[]
  cf := some (fileOf pool6 1 #[] #[{ accessFlags := 9, nameIndex := 110, descriptorIndex := 111, attributes := #[] }] 16433 20 #[] #[{ accessFlags := 16409, nameIndex := 5, descriptorIndex := 6, attributes := #[] }, { accessFlags := 16409, nameIndex := 9, descriptorIndex := 6, attributes := #[] }, { accessFlags := 18, nameIndex := 31, descriptorIndex := 32, attributes := #[] }, { accessFlags := 18, nameIndex := 35, descriptorIndex := 36, attributes := #[] }, { accessFlags := 4122, nameIndex := 12, descriptorIndex := 13, attributes := #[] }])
  fields := #[{ name := "UTF_8", type := (.object "com/example/cytobridge/cytobridge/profile/CharacterSet"), accessFlags := 16409, slot := 0, constantValue := 0 }, { name := "ISO_8859_1", type := (.object "com/example/cytobridge/cytobridge/profile/CharacterSet"), accessFlags := 16409, slot := 1, constantValue := 0 }, { name := "charset", type := (.object "java/nio/charset/Charset"), accessFlags := 18, slot := 3, constantValue := 0 }, { name := "hl7Name", type := (.object "java/lang/String"), accessFlags := 18, slot := 4, constantValue := 0 }, { name := "$VALUES", type := (.array (.object "com/example/cytobridge/cytobridge/profile/CharacterSet")), accessFlags := 4122, slot := 2, constantValue := 0 }]
  methods := #[k6m0]
  instanceTypes := #[(.object "java/lang/String"), .int, .int, (.object "java/nio/charset/Charset"), (.object "java/lang/String")]
  staticTypes := #[(.object "com/example/cytobridge/cytobridge/profile/CharacterSet"), (.object "com/example/cytobridge/cytobridge/profile/CharacterSet"), (.array (.object "com/example/cytobridge/cytobridge/profile/CharacterSet"))]
  resolved := Array.replicate 122 none
  statics := none }

def pool7 : Array CpInfo := pool [(1, u "java/lang/Cloneable"), (0, .class_ 1), (0, u "java/lang/Object"), (0, .class_ 3)] 3

/-- java/lang/Cloneable -/
def k7 : Class := { plain "java/lang/Cloneable" (some 0) with
  accessFlags := 1537
  interfaces := #[]
  cf := some (fileOf pool7 2 #[] #[] 1537 4 #[] #[])
  fields := #[]
  methods := #[]
  instanceTypes := #[]
  staticTypes := #[]
  resolved := Array.replicate 8 none
  statics := none }

/-- the primitive byte -/
def k8 : Class := { plain "byte" none with kind := .primitive 'B', accessFlags := 0x411 }
/-- [B -/
def k9 : Class := { plain "[B" (some 0) with kind := .array 8 .byte, interfaces := #[7, 4], accessFlags := 1041 }

/-- the primitive int -/
def k10 : Class := { plain "int" none with kind := .primitive 'I', accessFlags := 0x411 }
/-- [I -/
def k11 : Class := { plain "[I" (some 0) with kind := .array 10 .int, interfaces := #[7, 4], accessFlags := 1041 }

def heap : Heap := #[]
def classes : Array Class := #[k0, k1, k2, k3, k4, k5, k6, k7, k8, k9, k10, k11]
def interned : List (Array UInt16 × Addr) := []
def slotsUsed : Nat := 0
def theMethod : MethodId := ⟨1, 2⟩
def args0 : Array Value := #[.int 5, .int 3, .int 9, .int 200, .int 7]
def aboutOver (below : List Frame) : State where
  vm := { classes := classes, interned := interned.toArray }
  heap := heap
  slotsUsed := slotsUsed
  threads := #[{ frames := .invoking theMethod args0 :: below }]
def below0 : List Frame := [.native { method := ⟨0, 0⟩, args := #[] }]
def about1 : State := aboutOver below0
def p0 : Program := .bare "" "" ""
def e0 : Env := launch0.env 0 0 0
theorem w_frames : about1.frames = Frame.invoking theMethod args0 :: below0 := rfl
set_option maxRecDepth 65536 in
theorem w_args : argsFit about1.vm theMethod args0 = true := by decide +kernel
set_option maxRecDepth 65536 in
theorem w_heap : heapFits about1 = true := by decide +kernel
set_option maxRecDepth 65536 in
theorem w_runnable : about1.curStatus? = some .runnable := by decide +kernel
set_option maxRecDepth 65536 in
theorem w_alone : about1.alone = true := by decide +kernel
set_option maxRecDepth 65536 in
theorem w_named : about1.methodNamed? x = some theMethod := by decide +kernel
set_option maxRecDepth 65536 in
theorem w_hears : about1.hears theMethod below0 = true := by decide +kernel
set_option maxRecDepth 65536 in
theorem w_ripe : about1.ripe theMethod args0 below0 = true := by decide +kernel
theorem w_running : about1.status = .running := rfl
set_option maxRecDepth 65536 in
theorem w_room : about1.hasRoom e0.platform room_1 = true :=
  launch0.hasRoom_least _ room_1 (by decide +kernel) (by decide +kernel) (by decide +kernel) (by decide +kernel) (by decide +kernel) (by decide +kernel)
theorem allAtoms_all (ts : List Jvm.Cond) (a : Array Jvm.Value) (st : Jvm.State) : (allAtoms ts).before a st = ts.all (fun c => c.before a st) := by
  induction ts with
  | nil => rfl
  | cons c t ih =>
    show (Jvm.Cond.and c (allAtoms t)).before a st = _
    rw [Jvm.Cond.before_and, ih, List.all_cons]
def words1 : List Jvm.Cond := Jvm.Cond.code x code maxLocals ret :: tables_1
/-- a 'code' word, met by the world's own term for the bytes: nothing is compared byte by byte -/
theorem code_word {y : MethodName} {bytes : ByteArray} {mx : Nat} {rt : Option FieldType} {a : Array Value} {s : State} {m : MethodId} {meth : Method} {c : Code} (h1 : s.methodNamed? y = some m) (h2 : s.vm.method? m = some meth) (h3 : meth.code = some c) (h4 : c.code = bytes)
    (h5 : (c.maxLocals == mx && c.exceptionTable.isEmpty && decide (c.maxStack ≤ mostOperands) && decide (meth.sig.returnType = rt) && !meth.locks && decide (parseMethodDescriptor y.desc = some meth.sig)) = true) : (Jvm.Cond.code y bytes mx rt).before a s = true := by
  simp only [Bool.and_eq_true, beq_iff_eq, Bool.not_eq_true', decide_eq_true_eq] at h5
  obtain ⟨⟨⟨⟨⟨g1, g2⟩, g3⟩, g4⟩, g5⟩, g6⟩ := h5
  simp [Cond.before, Cond.holds, Cond.value, h1, h2, h3, h4, g1, g2, g3, g4, g5, g6]
def isCode : Jvm.Cond → Bool
  | .code _ _ _ _ => true
  | _ => false
theorem all_split {L : List Jvm.Cond} {P : Jvm.Cond → Bool} (h1 : L.all (fun c => isCode c || P c) = true) (h2 : ∀ c ∈ L.filter isCode, P c = true) : L.all P = true := by
  refine List.all_eq_true.mpr fun c hc => ?_
  have h := List.all_eq_true.mp h1 c hc
  rcases Bool.eq_false_or_eq_true (isCode c) with hi | hi
  · exact h2 c (List.mem_filter.mpr ⟨hc, hi⟩)
  · simpa [hi] using h
set_option maxRecDepth 65536 in
theorem w_c0 : (Jvm.Cond.code x code maxLocals ret).before args0 about1 = true := code_word (m := ⟨1, 2⟩) (meth := k1m2) (c := k1c2) (by decide +kernel) rfl rfl rfl (by decide +kernel)
set_option maxRecDepth 65536 in
theorem w_c1 : (Jvm.Cond.code ({ cls := "com/example/cytobridge/cytobridge/profile/CharacterSetIsAsciiPinLaw", name := "build", desc := "(IBBBB)[B" } : Jvm.MethodName) method_2_code (5 : Nat) (Option.some (Jvm.ClassFile.FieldType.array Jvm.ClassFile.FieldType.byte))).before args0 about1 = true := code_word (m := ⟨1, 1⟩) (meth := k1m1) (c := k1c1) (by decide +kernel) rfl rfl rfl (by decide +kernel)
set_option maxRecDepth 65536 in
theorem w_c2 : (Jvm.Cond.code ({ cls := "com/example/cytobridge/cytobridge/profile/CharacterSet", name := "isAscii", desc := "([B)Z" } : Jvm.MethodName) prog_32_method_7_code (5 : Nat) (Option.some Jvm.ClassFile.FieldType.boolean)).before args0 about1 = true := code_word (m := ⟨6, 0⟩) (meth := k6m0) (c := k6c0) (by decide +kernel) rfl rfl rfl (by decide +kernel)
def codes1 : List Jvm.Cond := [Jvm.Cond.code x code maxLocals ret, Jvm.Cond.code ({ cls := "com/example/cytobridge/cytobridge/profile/CharacterSetIsAsciiPinLaw", name := "build", desc := "(IBBBB)[B" } : Jvm.MethodName) method_2_code (5 : Nat) (Option.some (Jvm.ClassFile.FieldType.array Jvm.ClassFile.FieldType.byte)), Jvm.Cond.code ({ cls := "com/example/cytobridge/cytobridge/profile/CharacterSet", name := "isAscii", desc := "([B)Z" } : Jvm.MethodName) prog_32_method_7_code (5 : Nat) (Option.some Jvm.ClassFile.FieldType.boolean)]
set_option maxRecDepth 65536 in
theorem codes_eq : words1.filter isCode = codes1 := rfl
theorem w_codes : ∀ c ∈ words1.filter isCode, c.before args0 about1 = true := by
  rw [codes_eq]
  intro c hc
  simp only [codes1, List.mem_cons, List.not_mem_nil, or_false] at hc
  rcases hc with rfl | rfl | rfl
  · exact w_c0
  · exact w_c1
  · exact w_c2
set_option maxRecDepth 65536 in
theorem w_t1 : words1.all (fun c => isCode c || c.before args0 about1) = true := by decide +kernel
theorem w_tables : (allAtoms (Jvm.Cond.code x code maxLocals ret :: tables_1)).before args0 about1 = true := by
  rw [allAtoms_all]
  show words1.all (fun c => c.before args0 about1) = true
  refine all_split ?_ w_codes
  rw [w_t1]
set_option maxRecDepth 65536 in
theorem w_case : (Jvm.Cond.and given_1 narrow_1).before args0 about1 = true := by decide +kernel
theorem w_applies : (headSpec (Jvm.Cond.code x code maxLocals ret :: tables_1) room_1).applies x e0.platform about1 = true :=
  (Spec.applies_iff w_frames).mpr ⟨w_running, w_runnable, w_alone, w_named, w_hears, w_ripe, w_room, w_tables⟩
theorem atStart : AtStart classFile x code maxLocals ret World_1 tables_1 room_1 Calls_1 rest_1 Pre_1 launch0 p0 e0 about1 theMethod args0 below0 :=
  ⟨lists_1, trivial, launch0.admits_env _ _ _, launch0.least_env, fairChoices_fair.cas, fairChoices_fair.clock, w_frames, w_args, w_heap, w_applies, trivial, trivial, w_case⟩
end start1
theorem witness_1 : WitnessClaimed_1 := ⟨start1.p0, start1.e0, start1.about1, start1.theMethod, start1.args0, start1.below0, start1.atStart⟩
end Jvm.Pilot.@@N@@
