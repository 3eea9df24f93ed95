import JvmDerived
import JvmDerived.Pilot.@@N@@Statement
import JvmDerived.Pilot.@@N@@Code
set_option linter.unusedVariables false
set_option linter.unusedSimpArgs false
namespace Jvm.RoadKit
open Sem ClassFile Op Lib Jvm.Stand Jvm.Free Jvm.LawKit
section New
variable {p : Program} {l : Launch} {e : Env} {R : Room} {s : State} {m : MethodId} {args : Array Value} {below : List Frame} {meth : Method} {c : Code} {T T' : State} {locs : List Loc} {cells slots : Nat}
/-- what a body leaves: the value, and what is known of the heap and of the places written -/
def QV (w : Option Value) (P : Heap → List Loc → Prop) (v : Option Value) (h : Heap) (L : List Loc) : Prop := v = w ∧ P h L
/-- a body that writes nothing -/
def PureP (n0 : Nat) (h0 : Heap) (h : Heap) (L : List Loc) : Prop := Fr n0 L ∧ h = h0
/-- from here the body returns w and leaves P -/
def Got (p : Program) (e : Env) (below : List Frame) (s : State) (P : Heap → List Loc → Prop) (ck cs : Nat) (w : Option Value) (T : State) (g : JFrame) : Prop :=
  ∃ s₂ L, Steps p.tables e below (T.setTop g) s₂ ∧ s₂.status = .running ∧ Ended s₂ below (.returned w) ∧ P s₂.heap L ∧ FrameEnd s (.returned w) s₂ L ck cs
variable {P : Heap → List Loc → Prop} {ck cs : Nat} {w : Option Value} {g g' : JFrame}
theorem Got.step (h : ∀ t, Steps p.tables e below (T'.setTop g') t → Steps p.tables e below (T.setTop g) t) (k : Got p e below s P ck cs w T' g') : Got p e below s P ck cs w T g := by
  obtain ⟨s₂, L, h1, r⟩ := k
  exact ⟨s₂, L, h _ h1, r⟩
theorem Got.hop (h : Steps p.tables e below (T.setTop g) (T'.setTop g')) (k : Got p e below s P ck cs w T' g') : Got p e below s P ck cs w T g := Got.step (fun _ q => h.trans q) k
theorem Got.ite {q : Prop} [Decidable q] {x y : Int32} (h1 : q → Got p e below s P ck cs (some (.int x)) T g) (h2 : ¬ q → Got p e below s P ck cs (some (.int y)) T g) : Got p e below s P ck cs (some (.int (if q then x else y))) T g := by
  by_cases h : q
  · rw [if_pos h]; exact h1 h
  · rw [if_neg h]; exact h2 h
theorem Got.iteJ {q : Prop} [Decidable q] {x y : Int64} (h1 : q → Got p e below s P ck cs (some (.long x)) T g) (h2 : ¬ q → Got p e below s P ck cs (some (.long y)) T g) : Got p e below s P ck cs (some (.long (if q then x else y))) T g := by
  by_cases h : q
  · rw [if_pos h]; exact h1 h
  · rw [if_neg h]; exact h2 h
theorem Got.iteR {q : Prop} [Decidable q] {x y : Addr} (h1 : q → Got p e below s P ck cs (some (.ref x)) T g) (h2 : ¬ q → Got p e below s P ck cs (some (.ref y)) T g) : Got p e below s P ck cs (some (.ref (if q then x else y))) T g := by
  by_cases h : q
  · rw [if_pos h]; exact h1 h
  · rw [if_neg h]; exact h2 h
theorem Got.body {n : Nat} {as' : Array Value} (hg : entryFrame m as' n = g) (k : Got p e below s P ck cs w T g) :
    ∃ s₂ o, Steps p.tables e below (T.setTop (entryFrame m as' n)) s₂ ∧ s₂.status = .running ∧ Ended s₂ below o ∧ ∃ v L, o = .returned v ∧ QV w P v s₂.heap L ∧ FrameEnd s o s₂ L ck cs := by
  obtain ⟨s₂, L, h1, h2, h3, h4, h5⟩ := k
  exact ⟨s₂, _, by rw [hg]; exact h1, h2, h3, w, L, rfl, ⟨rfl, h4⟩, h5⟩
theorem Got.retN (X : Stand p l e R s m args below meth c T locs cells slots) (hx : p.tables.exec = Jvm.exec) {t : FieldType} (hret : meth.sig.returnType = some t) (ht : t = .boolean ∨ t = .byte ∨ t = .char ∨ t = .short) (hlk : meth.locks = false) {pc : Nat} {Ls : Array Slot} {z y : Int32} {rest : List Value}
    (hd : decode c.code pc = .ok (.ireturn, 1)) (hy : nar t z = y) (hP : P T.heap locs) (hc : cells ≤ ck) (hs : slots ≤ cs) : Got p e below s P ck cs (some (.int y)) T (mkF m pc Ls (.int z :: rest)) := by
  subst hy
  obtain ⟨fs, hr, hrun, hended, hW, hsame⟩ := X.leave (v := some (.int (nar t z))) (fun h => by rw [hret] at h; cases h) hlk
  exact ⟨_, locs, Jvm.RoadKit.retN X hx hret ht hd hr, hrun, hended, hP, ⟨_, rfl⟩, hW, hsame.mono hc hs⟩
theorem Got.retI (X : Stand p l e R s m args below meth c T locs cells slots) (hx : p.tables.exec = Jvm.exec) (hret : meth.sig.returnType = some .int) (hlk : meth.locks = false) {pc : Nat} {Ls : Array Slot} {z y : Int32} {rest : List Value}
    (hd : decode c.code pc = .ok (.ireturn, 1)) (hy : z = y) (hP : P T.heap locs) (hc : cells ≤ ck) (hs : slots ≤ cs) : Got p e below s P ck cs (some (.int y)) T (mkF m pc Ls (.int z :: rest)) := by
  subst hy
  obtain ⟨fs, hr, hrun, hended, hW, hsame⟩ := X.leave (v := some (.int z)) (fun h => by rw [hret] at h; cases h) hlk
  exact ⟨_, locs, retOut X hx hret rfl (Or.inl ⟨rfl, Or.inl rfl, z, rfl⟩) hd hr, hrun, hended, hP, ⟨_, rfl⟩, hW, hsame.mono hc hs⟩
theorem Got.retJ (X : Stand p l e R s m args below meth c T locs cells slots) (hx : p.tables.exec = Jvm.exec) (hret : meth.sig.returnType = some .long) (hlk : meth.locks = false) {pc : Nat} {Ls : Array Slot} {z y : Int64}
    (hd : decode c.code pc = .ok (.lreturn, 1)) (hy : z = y) (hP : P T.heap locs) (hc : cells ≤ ck) (hs : slots ≤ cs) : Got p e below s P ck cs (some (.long y)) T (mkF m pc Ls [.long z]) := by
  subst hy
  obtain ⟨fs, hr, hrun, hended, hW, hsame⟩ := X.leave (v := some (.long z)) (fun h => by rw [hret] at h; cases h) hlk
  exact ⟨_, locs, X.lreturnOut hx hret hd hr, hrun, hended, hP, ⟨_, rfl⟩, hW, hsame.mono hc hs⟩
theorem Got.retV (X : Stand p l e R s m args below meth c T locs cells slots) (hx : p.tables.exec = Jvm.exec) (hret : meth.sig.returnType = none) (hlk : meth.locks = false) {pc : Nat} {Ls : Array Slot}
    (hd : decode c.code pc = .ok (.return_, 1)) (hP : P T.heap locs) (hc : cells ≤ ck) (hs : slots ≤ cs) : Got p e below s P ck cs none T (mkF m pc Ls []) := by
  obtain ⟨fs, hr, hrun, hended, hW, hsame⟩ := X.leave (v := none) (fun _ => rfl) hlk
  exact ⟨_, locs, X.returnOut hx hret hd hr, hrun, hended, hP, ⟨_, rfl⟩, hW, hsame.mono hc hs⟩
theorem Got.retA (X : Stand p l e R s m args below meth c T locs cells slots) (hx : p.tables.exec = Jvm.exec) {t : FieldType} (hret : meth.sig.returnType = some t) (ht : t.isReference = true) (hlk : meth.locks = false) {pc : Nat} {Ls : Array Slot} {a : Addr} {rest : List Value}
    (hd : decode c.code pc = .ok (.areturn, 1)) (hn : narrow t (.ref a) = .ref a) (hP : P T.heap locs) (hc : cells ≤ ck) (hs : slots ≤ cs) : Got p e below s P ck cs (some (.ref a)) T (mkF m pc Ls (.ref a :: rest)) := by
  obtain ⟨fs, hr, hrun, hended, hW, hsame⟩ := X.leave (v := some (.ref a)) (fun h => by rw [hret] at h; cases h) hlk
  exact ⟨_, locs, retOut X hx hret hn (Or.inr (Or.inr (Or.inr (Or.inr ⟨rfl, ht, rfl⟩)))) hd hr, hrun, hended, hP, ⟨_, rfl⟩, hW, hsame.mono hc hs⟩
theorem remJ {g : JFrame} {target : State} (X : Stand p l e R s m args below meth c T locs cells slots) (hx : p.tables.exec = Jvm.exec) (hg : g.method = m) {x y : Int64} {rest : List Value} (hd : decode c.code g.pc = .ok (.lrem, 1)) (hs : g.stack = .long y :: .long x :: rest) (hy : y ≠ 0)
    (hr : Steps p.tables e below (T.setTop { g with pc := g.pc + 1, stack := .long (x % y) :: rest }) target) : Steps p.tables e below (T.setTop g) target := by
  rw [← lrem_mod x y] at hr
  exact XS.lrem X.here hx hg hd hs hy hr
theorem one_unset : One .unset := Or.inl rfl
theorem one_int (x : Int32) : One (.val (.int x)) := Or.inr ⟨_, rfl, rfl⟩
theorem one_ref (x : Addr) : One (.val (.ref x)) := Or.inr ⟨_, rfl, rfl⟩
theorem narB (x : Int32) : nar .byte x.toInt8.toInt32 = x.toInt8.toInt32 := by simp [nar]
end New
end Jvm.RoadKit
namespace Jvm.Pilot.@@N@@
open Jvm Jvm.ClassFile Sem Op Lib Jvm.Free Jvm.Stand Jvm.LawKit Jvm.RoadKit Bundle Jvm.Pilot.@@N@@.Jvm.D
def wr (sn : Nat) : Nat → Int32 → List Int32 → List Int32
  | 0, _, bs => bs
  | k + 1, r, bs => wr sn k (r / (10 : Int32)) (bs.set (sn + k) (((48 : Int32) + (r % (10 : Int32))).toInt8.toInt32))
def pw : List Int64 := [1, 10, 100, 1000, 10000, 100000, 1000000, 10000000, 100000000, 1000000000, 10000000000]
theorem own_i {i : Nat} (h : i < 2147483648) : (Int32.ofNat i).toInt = i := Int32.toInt_ofNat_of_lt h
theorem own_n32 {i : Nat} (h : i < 2147483648) : (Int32.ofNat i).toNatClampNeg = i := by rw [Int32.toNatClampNeg, own_i h]; rfl
theorem own_out {sn d : Nat} (h : sn + d ≤ 16) : (Int32.ofNat (sn + 0) - (1 : Int32)) < Int32.ofNat sn := by
  have z : (1 : Int32).toInt = 1 := rfl
  have e := own_i (i := sn) (by omega)
  rw [Nat.add_zero, Int32.lt_iff_toInt_lt, XT.sub32 (by unfold XT.fits32; omega), e, z]; omega
theorem own_prev (sn k : Nat) : Int32.ofNat (sn + (k + 1)) - (1 : Int32) = Int32.ofNat (sn + k) := by
  have e : Int32.ofNat (sn + (k + 1)) = Int32.ofNat (sn + k) + (1 : Int32) := Int32.ofNat_add (sn + k) 1
  rw [e, Int32.add_sub_cancel]
theorem own_on {sn d k : Nat} (h : sn + d ≤ 16) (hk : k + 1 ≤ d) : ¬ Int32.ofNat (sn + k) < Int32.ofNat sn := by
  rw [Int32.lt_iff_toInt_lt, own_i (by omega), own_i (by omega)]; omega
theorem own_in {n : Nat} (h : n < 16) : ¬ Int32.ofNat n < 0 ∧ Int32.ofNat n < 16 := by
  have z : (0 : Int32).toInt = 0 := rfl
  have z6 : (16 : Int32).toInt = 16 := rfl
  rw [Int32.lt_iff_toInt_lt, Int32.lt_iff_toInt_lt, own_i (by omega), z, z6]; omega
theorem own_dec (x : Int32) : x + (-1 : Int32) = x - (1 : Int32) := by rw [Int32.sub_eq_add_neg]
theorem own_getD (bs : List Int32) (n : Nat) : (bs.map Value.int).getD n (.int (0 : Int32)) = .int (bs.getD n 0) := by
  rw [List.getD_eq_getElem?_getD, List.getD_eq_getElem?_getD, List.getElem?_map]
  cases bs[n]? <;> rfl
theorem own_getL (bs : List Int64) (n : Nat) : (bs.map Value.long).getD n (.long (0 : Int64)) = .long (bs.getD n 0) := by
  rw [List.getD_eq_getElem?_getD, List.getD_eq_getElem?_getD, List.getElem?_map]
  cases bs[n]? <;> rfl
theorem own_pw (k : Nat) (h : k < 11) : (pw.getD k 0).toInt = 10 ^ k := by
  have q : ∀ k : Fin 11, (pw.getD k.1 0).toInt = 10 ^ k.1 := by decide +kernel
  exact q ⟨k, h⟩
theorem own_pz (k : Nat) (h : k < 11) : pw.getD k 0 ≠ 0 := by
  have q : ∀ k : Fin 11, pw.getD k.1 0 ≠ 0 := by decide +kernel
  exact q ⟨k, h⟩
theorem own_K {sn d : Nat} {p1 : Int32} (hsd : sn + d ≤ 16 ∧ d ≤ 10) (hp : ¬ p1 < 0 ∧ p1 < 16) (h1 : ¬ p1 < Int32.ofNat sn) (h2 : p1 < Int32.ofNat sn + Int32.ofNat d) : (((Int32.ofNat sn + Int32.ofNat d) - (1 : Int32)) - p1).toInt = (sn : Int) + d - 1 - p1.toInt ∧ (sn : Int) ≤ p1.toInt ∧ p1.toInt < (sn : Int) + d := by
  have z : (1 : Int32).toInt = 1 := rfl
  have e : (Int32.ofNat sn + Int32.ofNat d).toInt = ((sn + d : Nat) : Int) := by rw [← Int32.ofNat_add, own_i (by omega)]
  have e1 := own_i (i := sn) (by omega)
  rw [Int32.lt_iff_toInt_lt] at h1 h2
  rw [e1] at h1
  rw [e] at h2
  have s1 : ((Int32.ofNat sn + Int32.ofNat d) - (1 : Int32)).toInt = (sn : Int) + d - 1 := by
    rw [XT.sub32 (by unfold XT.fits32; omega), e, z]; omega
  refine ⟨?_, by omega, by omega⟩
  rw [XT.sub32 (by unfold XT.fits32; omega), s1]
theorem own_k {sn d : Nat} {p1 : Int32} (hsd : sn + d ≤ 16 ∧ d ≤ 10) (hp : ¬ p1 < 0 ∧ p1 < 16) (h1 : ¬ p1 < Int32.ofNat sn) (h2 : p1 < Int32.ofNat sn + Int32.ofNat d) :
    (¬ (((Int32.ofNat sn + Int32.ofNat d) - (1 : Int32)) - p1) < 0 ∧ (((Int32.ofNat sn + Int32.ofNat d) - (1 : Int32)) - p1) < 11) ∧ pw.getD (((Int32.ofNat sn + Int32.ofNat d) - (1 : Int32)) - p1).toNatClampNeg 0 ≠ 0 := by
  obtain ⟨k1, k2, k3⟩ := own_K hsd hp h1 h2
  have z : (0 : Int32).toInt = 0 := rfl
  have z1 : (11 : Int32).toInt = 11 := rfl
  refine ⟨?_, own_pz _ ?_⟩
  · rw [Int32.lt_iff_toInt_lt, Int32.lt_iff_toInt_lt, z, z1]; omega
  · rw [Int32.toNatClampNeg]; omega

theorem ef_1 (m : MethodId) (x0 : Addr) (x1 : Int32) (x2 : Int32) (x3 : Int32) : entryFrame m #[(.ref x0), (.int x1), (.int x2), (.int x3)] 6 = mkF m 0 #[.val (.ref x0), .val (.int x1), .val (.int x2), .val (.int x3), .unset, .unset] [] := by first | (simp [entryFrame, mkF, argsToLocals, Value.category]; done) | rfl
theorem pn_0 : plainName "com/example/cytobridge/cytobridge/profile/TimeStamp" = true := by first | (simp [plainName, overriddenIn]; done) | decide +kernel
theorem d1_0 : decode prog_53_method_4_code 0 = .ok (.iload_n 2, 1) := by decide +kernel
theorem d1_1 : decode prog_53_method_4_code 1 = .ok (.istore 4, 2) := by decide +kernel
theorem d1_3 : decode prog_53_method_4_code 3 = .ok (.iload_n 1, 1) := by decide +kernel
theorem d1_4 : decode prog_53_method_4_code 4 = .ok (.iload_n 3, 1) := by decide +kernel
theorem d1_5 : decode prog_53_method_4_code 5 = .ok (.iadd, 1) := by decide +kernel
theorem d1_6 : decode prog_53_method_4_code 6 = .ok (.iconst 1, 1) := by decide +kernel
theorem d1_7 : decode prog_53_method_4_code 7 = .ok (.isub, 1) := by decide +kernel
theorem d1_8 : decode prog_53_method_4_code 8 = .ok (.istore 5, 2) := by decide +kernel
theorem d1_10 : decode prog_53_method_4_code 10 = .ok (.iload 5, 2) := by decide +kernel
theorem d1_12 : decode prog_53_method_4_code 12 = .ok (.iload_n 1, 1) := by decide +kernel
theorem d1_13 : decode prog_53_method_4_code 13 = .ok (.if_icmp .lt 29, 3) := by decide +kernel
theorem d1_16 : decode prog_53_method_4_code 16 = .ok (.aload_n 0, 1) := by decide +kernel
theorem d1_17 : decode prog_53_method_4_code 17 = .ok (.iload 5, 2) := by decide +kernel
theorem d1_19 : decode prog_53_method_4_code 19 = .ok (.bipush 48, 2) := by decide +kernel
theorem d1_21 : decode prog_53_method_4_code 21 = .ok (.iload 4, 2) := by decide +kernel
theorem d1_23 : decode prog_53_method_4_code 23 = .ok (.bipush 10, 2) := by decide +kernel
theorem d1_25 : decode prog_53_method_4_code 25 = .ok (.irem, 1) := by decide +kernel
theorem d1_26 : decode prog_53_method_4_code 26 = .ok (.iadd, 1) := by decide +kernel
theorem d1_27 : decode prog_53_method_4_code 27 = .ok (.i2b, 1) := by decide +kernel
theorem d1_28 : decode prog_53_method_4_code 28 = .ok (.bastore, 1) := by decide +kernel
theorem d1_29 : decode prog_53_method_4_code 29 = .ok (.iload 4, 2) := by decide +kernel
theorem d1_31 : decode prog_53_method_4_code 31 = .ok (.bipush 10, 2) := by decide +kernel
theorem d1_33 : decode prog_53_method_4_code 33 = .ok (.idiv, 1) := by decide +kernel
theorem d1_34 : decode prog_53_method_4_code 34 = .ok (.istore 4, 2) := by decide +kernel
theorem d1_36 : decode prog_53_method_4_code 36 = .ok (.iinc 5 (-1), 3) := by decide +kernel
theorem d1_39 : decode prog_53_method_4_code 39 = .ok (.goto (-29), 3) := by decide +kernel
theorem d1_42 : decode prog_53_method_4_code 42 = .ok (.return_, 1) := by decide +kernel
set_option maxRecDepth 65536 in
set_option maxHeartbeats 40000000 in
theorem rm1 (l : Launch) (Z : State) (a0 : Array Value) (hw : ∀ d ∈ tables_1, d.before a0 Z = true) (ws : List Jvm.Cond) (o0 : Addr) (sn d : Nat) (p2 : Int32) (bs : List Int32) (kc : ClassId) (h0 : Heap) (n0 : Nat) (Z0 : n0 ≤ h0.size) (gn_o0 : n0 ≤ o0) (V0 : Arv Z h0 o0 kc .byte (16 : Int32) (bs.map Value.int) (.int (0 : Int32))) (hlen : bs.length = 16) (hsd : sn + d ≤ 16) :
    MetFree l (⟨"com/example/cytobridge/cytobridge/profile/TimeStamp", "writeDigits", "([BIII)V"⟩ : MethodName) (head1 (Jvm.Cond.code (⟨"com/example/cytobridge/cytobridge/profile/TimeStamp", "writeDigits", "([BIII)V"⟩ : MethodName) prog_53_method_4_code 6 none :: ws) ({ frames := 0, cells := 0, slots := 0, locals := 0 } : Room)) (fun a U => a = #[(.ref o0), (.int (Int32.ofNat sn)), (.int p2), (.int (Int32.ofNat d))] ∧ Z.Warmed39 U.vm ∧ U.heap = h0) (fun _ _ _ _ _ => True) (fun _ U o U' => ∃ v L, o = .returned v ∧ QV none (fun h L => Fr n0 L ∧ Keep h0 h [o0] ∧ Arv Z h o0 kc .byte (16 : Int32) ((wr sn d p2 bs).map Value.int) (.int (0 : Int32))) v U'.heap L ∧ FrameEnd U o U' L ({ frames := 0, cells := 0, slots := 0, locals := 0 } : Room).cells ({ frames := 0, cells := 0, slots := 0, locals := 0 } : Room).slots) := by
  refine MetFree.of_bodySF (plainFor_of_name pn_0) hisR ?_
  intro p e s m args below meth c s₁ Bd hml0 hP hK
  obtain ⟨rfl, hZ, hh⟩ := hP
  have hx := Bd.exec
  have hby := Bd.bytes
  have hml : c.maxLocals = 6 := hml0
  have hown : s.vm.findClass "com/example/cytobridge/cytobridge/profile/TimeStamp" = some m.cls := findClass_of_methodNamed Bd.named
  have hnm := (name_of_methodNamed Bd.named Bd.method).1
  have hlk : meth.locks = false := BodyLoose.notSynchronized Bd
  have X0 : Stand p l e ({ frames := 0, cells := 0, slots := 0, locals := 0 } : Room) s m #[(.ref o0), (.int (Int32.ofNat sn)), (.int p2), (.int (Int32.ofNat d))] below meth c s₁ [] 0 0 := Stand.of_body Bd
  have e0 : s₁.heap = h0 := by rw [← hh, Bd.state]; rfl
  have N0 := Fr.nil n0
  refine Got.body (ef_1 m o0 (Int32.ofNat sn) p2 (Int32.ofNat d)) ?_
  have J : ∀ (k : Nat) (r : Int32) (cs : List Int32) (T1 : State) (h1 : Heap) (L1 : List Loc), Stand p l e ({ frames := 0, cells := 0, slots := 0, locals := 0 } : Room) s m #[(.ref o0), (.int (Int32.ofNat sn)), (.int p2), (.int (Int32.ofNat d))] below meth c T1 L1 0 0 → T1.heap = h1 → Fr n0 L1 → Keep h0 h1 [o0] → Arv Z h1 o0 kc .byte (16 : Int32) (cs.map Value.int) (.int (0 : Int32)) → cs.length = 16 → k ≤ d → wr sn k r cs = wr sn d p2 bs → Got p e below s (fun h L => Fr n0 L ∧ Keep h0 h [o0] ∧ Arv Z h o0 kc .byte (16 : Int32) ((wr sn d p2 bs).map Value.int) (.int (0 : Int32))) 0 0 none T1 (mkF m 10 #[.val (.ref o0), .val (.int (Int32.ofNat sn)), .val (.int p2), .val (.int (Int32.ofNat d)), .val (.int r), .val (.int ((Int32.ofNat (sn + k)) - (1 : Int32)))] []) := by
    intro k
    induction k with
    | zero =>
      intro r cs T1 h1 L1 X1 e1 N1 K1 V1 hcs hk hr
      have Z1 : n0 ≤ h1.size := Nat.le_trans Z0 K1.1
      refine Got.step (T' := T1) (g' := (mkF m 42 #[.val (.ref o0), .val (.int (Int32.ofNat sn)), .val (.int p2), .val (.int (Int32.ofNat d)), .val (.int r), .val (.int ((Int32.ofNat (sn + 0)) - (1 : Int32)))] [])) (fun tq kt => ?_) ?_
      · show Steps p.tables e below (T1.setTop (mkF m 10 #[.val (.ref o0), .val (.int (Int32.ofNat sn)), .val (.int p2), .val (.int (Int32.ofNat d)), .val (.int r), .val (.int ((Int32.ofNat (sn + 0)) - (1 : Int32)))] [])) _
        refine XS.iload X1.here hx rfl (hb hby d1_10) rfl ?_
        show Steps p.tables e below (T1.setTop (mkF m 12 #[.val (.ref o0), .val (.int (Int32.ofNat sn)), .val (.int p2), .val (.int (Int32.ofNat d)), .val (.int r), .val (.int ((Int32.ofNat (sn + 0)) - (1 : Int32)))] [(.int ((Int32.ofNat (sn + 0)) - (1 : Int32)))])) _
        refine XS.iloadN X1.here hx rfl (hb hby d1_12) rfl ?_
        show Steps p.tables e below (T1.setTop (mkF m 13 #[.val (.ref o0), .val (.int (Int32.ofNat sn)), .val (.int p2), .val (.int (Int32.ofNat d)), .val (.int r), .val (.int ((Int32.ofNat (sn + 0)) - (1 : Int32)))] [(.int (Int32.ofNat sn)), (.int ((Int32.ofNat (sn + 0)) - (1 : Int32)))])) _
        refine XS.icmpYes X1.here hx rfl (pc0 := 13) (pc' := 42) rfl (hb hby d1_13) rfl (XT.ii_lt_t (own_out hsd)) (by decide) (by decide) ?_
        exact kt
      exact Got.retV X1 hx Bd.returns hlk (hb hby d1_42) ⟨N1, by rw [e1]; exact K1, by rw [e1, ← hr]; exact V1⟩ (by decide) (by decide)
    | succ k ih =>
      intro r cs T1 h1 L1 X1 e1 N1 K1 V1 hcs hk hr
      have Z1 : n0 ≤ h1.size := Nat.le_trans Z0 K1.1
      rw [own_prev sn k]
      refine Got.step (T' := T1) (g' := (mkF m 28 #[.val (.ref o0), .val (.int (Int32.ofNat sn)), .val (.int p2), .val (.int (Int32.ofNat d)), .val (.int r), .val (.int (Int32.ofNat (sn + k)))] [(.int (((48 : Int32) + (r % (10 : Int32))).toInt8.toInt32)), (.int (Int32.ofNat (sn + k))), (.ref o0)])) (fun tq kt => ?_) ?_
      · show Steps p.tables e below (T1.setTop (mkF m 10 #[.val (.ref o0), .val (.int (Int32.ofNat sn)), .val (.int p2), .val (.int (Int32.ofNat d)), .val (.int r), .val (.int (Int32.ofNat (sn + k)))] [])) _
        refine XS.iload X1.here hx rfl (hb hby d1_10) rfl ?_
        show Steps p.tables e below (T1.setTop (mkF m 12 #[.val (.ref o0), .val (.int (Int32.ofNat sn)), .val (.int p2), .val (.int (Int32.ofNat d)), .val (.int r), .val (.int (Int32.ofNat (sn + k)))] [(.int (Int32.ofNat (sn + k)))])) _
        refine XS.iloadN X1.here hx rfl (hb hby d1_12) rfl ?_
        show Steps p.tables e below (T1.setTop (mkF m 13 #[.val (.ref o0), .val (.int (Int32.ofNat sn)), .val (.int p2), .val (.int (Int32.ofNat d)), .val (.int r), .val (.int (Int32.ofNat (sn + k)))] [(.int (Int32.ofNat sn)), (.int (Int32.ofNat (sn + k)))])) _
        refine XS.icmpNo X1.here hx rfl (hb hby d1_13) rfl (XT.ii_lt_f (own_on hsd hk)) ?_
        show Steps p.tables e below (T1.setTop (mkF m 16 #[.val (.ref o0), .val (.int (Int32.ofNat sn)), .val (.int p2), .val (.int (Int32.ofNat d)), .val (.int r), .val (.int (Int32.ofNat (sn + k)))] [])) _
        refine XS.aloadN X1.here hx rfl (hb hby d1_16) rfl rfl ?_
        show Steps p.tables e below (T1.setTop (mkF m 17 #[.val (.ref o0), .val (.int (Int32.ofNat sn)), .val (.int p2), .val (.int (Int32.ofNat d)), .val (.int r), .val (.int (Int32.ofNat (sn + k)))] [(.ref o0)])) _
        refine XS.iload X1.here hx rfl (hb hby d1_17) rfl ?_
        show Steps p.tables e below (T1.setTop (mkF m 19 #[.val (.ref o0), .val (.int (Int32.ofNat sn)), .val (.int p2), .val (.int (Int32.ofNat d)), .val (.int r), .val (.int (Int32.ofNat (sn + k)))] [(.int (Int32.ofNat (sn + k))), (.ref o0)])) _
        refine XS.bipush X1.here hx rfl (hb hby d1_19) ?_
        show Steps p.tables e below (T1.setTop (mkF m 21 #[.val (.ref o0), .val (.int (Int32.ofNat sn)), .val (.int p2), .val (.int (Int32.ofNat d)), .val (.int r), .val (.int (Int32.ofNat (sn + k)))] [(.int (48 : Int32)), (.int (Int32.ofNat (sn + k))), (.ref o0)])) _
        refine XS.iload X1.here hx rfl (hb hby d1_21) rfl ?_
        show Steps p.tables e below (T1.setTop (mkF m 23 #[.val (.ref o0), .val (.int (Int32.ofNat sn)), .val (.int p2), .val (.int (Int32.ofNat d)), .val (.int r), .val (.int (Int32.ofNat (sn + k)))] [(.int r), (.int (48 : Int32)), (.int (Int32.ofNat (sn + k))), (.ref o0)])) _
        refine XS.bipush X1.here hx rfl (hb hby d1_23) ?_
        show Steps p.tables e below (T1.setTop (mkF m 25 #[.val (.ref o0), .val (.int (Int32.ofNat sn)), .val (.int p2), .val (.int (Int32.ofNat d)), .val (.int r), .val (.int (Int32.ofNat (sn + k)))] [(.int (10 : Int32)), (.int r), (.int (48 : Int32)), (.int (Int32.ofNat (sn + k))), (.ref o0)])) _
        refine iremM X1 hx rfl (hb hby d1_25) rfl (by decide) ?_
        show Steps p.tables e below (T1.setTop (mkF m 26 #[.val (.ref o0), .val (.int (Int32.ofNat sn)), .val (.int p2), .val (.int (Int32.ofNat d)), .val (.int r), .val (.int (Int32.ofNat (sn + k)))] [(.int (r % (10 : Int32))), (.int (48 : Int32)), (.int (Int32.ofNat (sn + k))), (.ref o0)])) _
        refine XS.iadd X1.here hx rfl (hb hby d1_26) rfl ?_
        show Steps p.tables e below (T1.setTop (mkF m 27 #[.val (.ref o0), .val (.int (Int32.ofNat sn)), .val (.int p2), .val (.int (Int32.ofNat d)), .val (.int r), .val (.int (Int32.ofNat (sn + k)))] [(.int ((48 : Int32) + (r % (10 : Int32)))), (.int (Int32.ofNat (sn + k))), (.ref o0)])) _
        refine XS.i2b X1.here hx rfl (hb hby d1_27) rfl ?_
        exact kt
      obtain ⟨cl1, Ar1, q1, S1, M1, H1, G1⟩ := (id V1)
      have hin1 : ¬ ((Int32.ofNat (sn + k)) < 0 ∨ cl1.slots.size ≤ ((Int32.ofNat (sn + k))).toNatClampNeg) := inb_of S1 (own_in (by omega : sn + k < 16))
      obtain ⟨T1, h1, X1, e1, W1, st1⟩ := stB X1 hx hZ e1 Ar1 (j := (Int32.ofNat (sn + k))) hin1 (g := (mkF m 28 #[.val (.ref o0), .val (.int (Int32.ofNat sn)), .val (.int p2), .val (.int (Int32.ofNat d)), .val (.int r), .val (.int (Int32.ofNat (sn + k)))] [(.int (((48 : Int32) + (r % (10 : Int32))).toInt8.toInt32)), (.int (Int32.ofNat (sn + k))), (.ref o0)])) rfl rfl (hb hby d1_28)
      rw [narB] at W1
      have Z1_2 : n0 ≤ h1.size := (Nat.le_trans Z1 (Keep.of_wr W1).1)
      have K1_3 : Keep h0 h1 [o0] := (K1.wr W1 (Or.inl (List.mem_of_getElem? (i := 0) rfl)))
      have V1 : Arv Z h1 o0 kc .byte (16 : Int32) ((cs.set (sn + k) (((48 : Int32) + (r % (10 : Int32))).toInt8.toInt32)).map Value.int) (.int (0 : Int32)) := by rw [List.map_set]; exact Arv.set Ar1 q1 S1 M1 H1 G1 (fits_nar_byte _) W1 (sn + k) (own_n32 (by omega)) (by rw [List.length_map, hcs]; omega)
      have N1 := Fr.snoc X1 N1 gn_o0
      refine Got.step st1 ?_
      show Got p e below s _ _ _ _ T1 (mkF m 29 #[.val (.ref o0), .val (.int (Int32.ofNat sn)), .val (.int p2), .val (.int (Int32.ofNat d)), .val (.int r), .val (.int (Int32.ofNat (sn + k)))] [])
      refine Got.step (T' := T1) (g' := (mkF m 10 #[.val (.ref o0), .val (.int (Int32.ofNat sn)), .val (.int p2), .val (.int (Int32.ofNat d)), .val (.int (r / (10 : Int32))), .val (.int ((Int32.ofNat (sn + k)) + (-1 : Int32)))] [])) (fun tq kt => ?_) ?_
      · show Steps p.tables e below (T1.setTop (mkF m 29 #[.val (.ref o0), .val (.int (Int32.ofNat sn)), .val (.int p2), .val (.int (Int32.ofNat d)), .val (.int r), .val (.int (Int32.ofNat (sn + k)))] [])) _
        refine XS.iload X1.here hx rfl (hb hby d1_29) rfl ?_
        show Steps p.tables e below (T1.setTop (mkF m 31 #[.val (.ref o0), .val (.int (Int32.ofNat sn)), .val (.int p2), .val (.int (Int32.ofNat d)), .val (.int r), .val (.int (Int32.ofNat (sn + k)))] [(.int r)])) _
        refine XS.bipush X1.here hx rfl (hb hby d1_31) ?_
        show Steps p.tables e below (T1.setTop (mkF m 33 #[.val (.ref o0), .val (.int (Int32.ofNat sn)), .val (.int p2), .val (.int (Int32.ofNat d)), .val (.int r), .val (.int (Int32.ofNat (sn + k)))] [(.int (10 : Int32)), (.int r)])) _
        refine XS.idiv X1.here hx rfl (hb hby d1_33) rfl (by decide) ?_
        show Steps p.tables e below (T1.setTop (mkF m 34 #[.val (.ref o0), .val (.int (Int32.ofNat sn)), .val (.int p2), .val (.int (Int32.ofNat d)), .val (.int r), .val (.int (Int32.ofNat (sn + k)))] [(.int (r / (10 : Int32)))])) _
        refine XS.istore X1.here hx rfl (hb hby d1_34) rfl (l' := #[.val (.ref o0), .val (.int (Int32.ofNat sn)), .val (.int p2), .val (.int (Int32.ofNat d)), .val (.int (r / (10 : Int32))), .val (.int (Int32.ofNat (sn + k)))]) rfl ?_
        show Steps p.tables e below (T1.setTop (mkF m 36 #[.val (.ref o0), .val (.int (Int32.ofNat sn)), .val (.int p2), .val (.int (Int32.ofNat d)), .val (.int (r / (10 : Int32))), .val (.int (Int32.ofNat (sn + k)))] [])) _
        refine XS.iinc X1.here hx rfl (hb hby d1_36) rfl (l' := #[.val (.ref o0), .val (.int (Int32.ofNat sn)), .val (.int p2), .val (.int (Int32.ofNat d)), .val (.int (r / (10 : Int32))), .val (.int ((Int32.ofNat (sn + k)) + (-1 : Int32)))]) rfl ?_
        show Steps p.tables e below (T1.setTop (mkF m 39 #[.val (.ref o0), .val (.int (Int32.ofNat sn)), .val (.int p2), .val (.int (Int32.ofNat d)), .val (.int (r / (10 : Int32))), .val (.int ((Int32.ofNat (sn + k)) + (-1 : Int32)))] [])) _
        refine XS.goto X1.here hx rfl (pc0 := 39) (pc' := 10) rfl (hb hby d1_39) (by decide) (by decide) ?_
        exact kt
      rw [own_dec]
      exact ih _ _ _ _ _ X1 e1 N1 K1_3 V1 (by rw [List.length_set]; exact hcs) (by omega) hr
  have K0 := Keep.refl h0 [o0]
  refine Got.step (T' := s₁) (g' := (mkF m 10 #[.val (.ref o0), .val (.int (Int32.ofNat sn)), .val (.int p2), .val (.int (Int32.ofNat d)), .val (.int p2), .val (.int (((Int32.ofNat sn) + (Int32.ofNat d)) - (1 : Int32)))] [])) (fun tq kt => ?_) ?_
  · show Steps p.tables e below (s₁.setTop (mkF m 0 #[.val (.ref o0), .val (.int (Int32.ofNat sn)), .val (.int p2), .val (.int (Int32.ofNat d)), .unset, .unset] [])) _
    refine XS.iloadN X0.here hx rfl (hb hby d1_0) rfl ?_
    show Steps p.tables e below (s₁.setTop (mkF m 1 #[.val (.ref o0), .val (.int (Int32.ofNat sn)), .val (.int p2), .val (.int (Int32.ofNat d)), .unset, .unset] [(.int p2)])) _
    refine XS.istore X0.here hx rfl (hb hby d1_1) rfl (l' := #[.val (.ref o0), .val (.int (Int32.ofNat sn)), .val (.int p2), .val (.int (Int32.ofNat d)), .val (.int p2), .unset]) rfl ?_
    show Steps p.tables e below (s₁.setTop (mkF m 3 #[.val (.ref o0), .val (.int (Int32.ofNat sn)), .val (.int p2), .val (.int (Int32.ofNat d)), .val (.int p2), .unset] [])) _
    refine XS.iloadN X0.here hx rfl (hb hby d1_3) rfl ?_
    show Steps p.tables e below (s₁.setTop (mkF m 4 #[.val (.ref o0), .val (.int (Int32.ofNat sn)), .val (.int p2), .val (.int (Int32.ofNat d)), .val (.int p2), .unset] [(.int (Int32.ofNat sn))])) _
    refine XS.iloadN X0.here hx rfl (hb hby d1_4) rfl ?_
    show Steps p.tables e below (s₁.setTop (mkF m 5 #[.val (.ref o0), .val (.int (Int32.ofNat sn)), .val (.int p2), .val (.int (Int32.ofNat d)), .val (.int p2), .unset] [(.int (Int32.ofNat d)), (.int (Int32.ofNat sn))])) _
    refine XS.iadd X0.here hx rfl (hb hby d1_5) rfl ?_
    show Steps p.tables e below (s₁.setTop (mkF m 6 #[.val (.ref o0), .val (.int (Int32.ofNat sn)), .val (.int p2), .val (.int (Int32.ofNat d)), .val (.int p2), .unset] [(.int ((Int32.ofNat sn) + (Int32.ofNat d)))])) _
    refine XS.iconst X0.here hx rfl (hb hby d1_6) ?_
    show Steps p.tables e below (s₁.setTop (mkF m 7 #[.val (.ref o0), .val (.int (Int32.ofNat sn)), .val (.int p2), .val (.int (Int32.ofNat d)), .val (.int p2), .unset] [(.int (1 : Int32)), (.int ((Int32.ofNat sn) + (Int32.ofNat d)))])) _
    refine XS.isub X0.here hx rfl (hb hby d1_7) rfl ?_
    show Steps p.tables e below (s₁.setTop (mkF m 8 #[.val (.ref o0), .val (.int (Int32.ofNat sn)), .val (.int p2), .val (.int (Int32.ofNat d)), .val (.int p2), .unset] [(.int (((Int32.ofNat sn) + (Int32.ofNat d)) - (1 : Int32)))])) _
    refine XS.istore X0.here hx rfl (hb hby d1_8) rfl (l' := #[.val (.ref o0), .val (.int (Int32.ofNat sn)), .val (.int p2), .val (.int (Int32.ofNat d)), .val (.int p2), .val (.int (((Int32.ofNat sn) + (Int32.ofNat d)) - (1 : Int32)))]) rfl ?_
    exact kt
  rw [← Int32.ofNat_add]
  exact J d p2 bs _ _ _ X0 e0 N0 K0 V0 hlen (Nat.le_refl _) rfl
def f2_12 (bs : List Int32) (sn : Nat) (d : Nat) (p1 : Int32) (p4 : Int32) (p5 : Int32)  : Int32 := (if (bs.getD (p1).toNatClampNeg 0) = p5 then (1 : Int32) else (0 : Int32))
def f2 (bs : List Int32) (sn : Nat) (d : Nat) (p1 : Int32) (p4 : Int32) (p5 : Int32)  : Int32 := (if p1 < (Int32.ofNat sn) then (f2_12 bs sn d p1 p4 p5 ) else (if p1 < ((Int32.ofNat sn) + (Int32.ofNat d)) then (if (bs.getD (p1).toNatClampNeg 0) = (((48 : Int32) + ((((p4.toInt64) / (pw.getD (((((Int32.ofNat sn) + (Int32.ofNat d)) - (1 : Int32)) - p1)).toNatClampNeg 0)) % (10 : Int64)).toInt32)).toInt8.toInt32) then (1 : Int32) else (0 : Int32)) else (f2_12 bs sn d p1 p4 p5 )))
theorem ef_2 (m : MethodId) (x0 : Addr) (x1 : Int32) (x2 : Int32) (x3 : Int32) (x4 : Int32) (x5 : Int32) (x6 : Addr) : entryFrame m #[(.ref x0), (.int x1), (.int x2), (.int x3), (.int x4), (.int x5), (.ref x6)] 10 = mkF m 0 #[.val (.ref x0), .val (.int x1), .val (.int x2), .val (.int x3), .val (.int x4), .val (.int x5), .val (.ref x6), .unset, .unset, .unset] [] := by first | (simp [entryFrame, mkF, argsToLocals, Value.category]; done) | rfl
theorem pn_1 : plainName "com/example/cytobridge/cytobridge/profile/TimeStampWriteDigitsPinLaw" = true := by first | (simp [plainName, overriddenIn]; done) | decide +kernel
theorem d2_0 : decode method_3_code 0 = .ok (.iload_n 1, 1) := by decide +kernel
theorem d2_1 : decode method_3_code 1 = .ok (.iload_n 2, 1) := by decide +kernel
theorem d2_2 : decode method_3_code 2 = .ok (.if_icmp .lt 10, 3) := by decide +kernel
theorem d2_5 : decode method_3_code 5 = .ok (.iload_n 1, 1) := by decide +kernel
theorem d2_6 : decode method_3_code 6 = .ok (.iload_n 2, 1) := by decide +kernel
theorem d2_7 : decode method_3_code 7 = .ok (.iload_n 3, 1) := by decide +kernel
theorem d2_8 : decode method_3_code 8 = .ok (.iadd, 1) := by decide +kernel
theorem d2_9 : decode method_3_code 9 = .ok (.if_icmp .lt 17, 3) := by decide +kernel
theorem d2_12 : decode method_3_code 12 = .ok (.aload_n 0, 1) := by decide +kernel
theorem d2_13 : decode method_3_code 13 = .ok (.iload_n 1, 1) := by decide +kernel
theorem d2_14 : decode method_3_code 14 = .ok (.baload, 1) := by decide +kernel
theorem d2_15 : decode method_3_code 15 = .ok (.iload 5, 2) := by decide +kernel
theorem d2_17 : decode method_3_code 17 = .ok (.if_icmp .ne 7, 3) := by decide +kernel
theorem d2_20 : decode method_3_code 20 = .ok (.iconst 1, 1) := by decide +kernel
theorem d2_21 : decode method_3_code 21 = .ok (.goto 4, 3) := by decide +kernel
theorem d2_24 : decode method_3_code 24 = .ok (.iconst 0, 1) := by decide +kernel
theorem d2_25 : decode method_3_code 25 = .ok (.ireturn, 1) := by decide +kernel
theorem d2_26 : decode method_3_code 26 = .ok (.iload_n 2, 1) := by decide +kernel
theorem d2_27 : decode method_3_code 27 = .ok (.iload_n 3, 1) := by decide +kernel
theorem d2_28 : decode method_3_code 28 = .ok (.iadd, 1) := by decide +kernel
theorem d2_29 : decode method_3_code 29 = .ok (.iconst 1, 1) := by decide +kernel
theorem d2_30 : decode method_3_code 30 = .ok (.isub, 1) := by decide +kernel
theorem d2_31 : decode method_3_code 31 = .ok (.iload_n 1, 1) := by decide +kernel
theorem d2_32 : decode method_3_code 32 = .ok (.isub, 1) := by decide +kernel
theorem d2_33 : decode method_3_code 33 = .ok (.istore 7, 2) := by decide +kernel
theorem d2_35 : decode method_3_code 35 = .ok (.iload 4, 2) := by decide +kernel
theorem d2_37 : decode method_3_code 37 = .ok (.i2l, 1) := by decide +kernel
theorem d2_38 : decode method_3_code 38 = .ok (.aload 6, 2) := by decide +kernel
theorem d2_40 : decode method_3_code 40 = .ok (.iload 7, 2) := by decide +kernel
theorem d2_42 : decode method_3_code 42 = .ok (.laload, 1) := by decide +kernel
theorem d2_43 : decode method_3_code 43 = .ok (.ldiv, 1) := by decide +kernel
theorem d2_44 : decode method_3_code 44 = .ok (.ldc2_w 7, 3) := by decide +kernel
theorem d2_47 : decode method_3_code 47 = .ok (.lrem, 1) := by decide +kernel
theorem d2_48 : decode method_3_code 48 = .ok (.lstore 8, 2) := by decide +kernel
theorem d2_50 : decode method_3_code 50 = .ok (.aload_n 0, 1) := by decide +kernel
theorem d2_51 : decode method_3_code 51 = .ok (.iload_n 1, 1) := by decide +kernel
theorem d2_52 : decode method_3_code 52 = .ok (.baload, 1) := by decide +kernel
theorem d2_53 : decode method_3_code 53 = .ok (.bipush 48, 2) := by decide +kernel
theorem d2_55 : decode method_3_code 55 = .ok (.lload 8, 2) := by decide +kernel
theorem d2_57 : decode method_3_code 57 = .ok (.l2i, 1) := by decide +kernel
theorem d2_58 : decode method_3_code 58 = .ok (.iadd, 1) := by decide +kernel
theorem d2_59 : decode method_3_code 59 = .ok (.i2b, 1) := by decide +kernel
theorem d2_60 : decode method_3_code 60 = .ok (.if_icmp .ne 7, 3) := by decide +kernel
theorem d2_63 : decode method_3_code 63 = .ok (.iconst 1, 1) := by decide +kernel
theorem d2_64 : decode method_3_code 64 = .ok (.goto 4, 3) := by decide +kernel
theorem d2_67 : decode method_3_code 67 = .ok (.iconst 0, 1) := by decide +kernel
theorem d2_68 : decode method_3_code 68 = .ok (.ireturn, 1) := by decide +kernel
set_option maxRecDepth 65536 in
set_option maxHeartbeats 40000000 in
theorem rm2 (l : Launch) (Z : State) (a0 : Array Value) (hw : ∀ d ∈ tables_1, d.before a0 Z = true) (ws : List Jvm.Cond) (o0 : Addr) (p1 : Int32) (sn d : Nat) (p4 p5 : Int32) (o6 : Addr) (bs : List Int32) (kc kp : ClassId) (h0 : Heap) (n0 : Nat) (Z0 : n0 ≤ h0.size) (V0 : Arv Z h0 o0 kc .byte (16 : Int32) (bs.map Value.int) (.int (0 : Int32))) (V6 : Arv Z h0 o6 kp .long (11 : Int32) (pw.map Value.long) (.long (0 : Int64))) (hp : ¬ p1 < 0 ∧ p1 < 16) (hsd : sn + d ≤ 16 ∧ d ≤ 10) :
    MetFree l (⟨"com/example/cytobridge/cytobridge/profile/TimeStampWriteDigitsPinLaw", "at", "([BIIIIB[J)Z"⟩ : MethodName) (head1 (Jvm.Cond.code (⟨"com/example/cytobridge/cytobridge/profile/TimeStampWriteDigitsPinLaw", "at", "([BIIIIB[J)Z"⟩ : MethodName) method_3_code 10 (some .boolean) :: ws) ({ frames := 0, cells := 0, slots := 0, locals := 0 } : Room)) (fun a U => a = #[(.ref o0), (.int p1), (.int (Int32.ofNat sn)), (.int (Int32.ofNat d)), (.int p4), (.int p5), (.ref o6)] ∧ Z.Warmed39 U.vm ∧ U.heap = h0) (fun _ _ _ _ _ => True) (fun _ U o U' => ∃ v L, o = .returned v ∧ QV (some (.int (f2 bs sn d p1 p4 p5))) (PureP n0 h0) v U'.heap L ∧ FrameEnd U o U' L ({ frames := 0, cells := 0, slots := 0, locals := 0 } : Room).cells ({ frames := 0, cells := 0, slots := 0, locals := 0 } : Room).slots) := by
  refine MetFree.of_bodySF (plainFor_of_name pn_1) hisR ?_
  intro p e s m args below meth c s₁ Bd hml0 hP hK
  obtain ⟨rfl, hZ, hh⟩ := hP
  have hx := Bd.exec
  have hby := Bd.bytes
  have hml : c.maxLocals = 10 := hml0
  have hown : s.vm.findClass "com/example/cytobridge/cytobridge/profile/TimeStampWriteDigitsPinLaw" = some m.cls := findClass_of_methodNamed Bd.named
  have hnm := (name_of_methodNamed Bd.named Bd.method).1
  have hlk : meth.locks = false := BodyLoose.notSynchronized Bd
  have X0 : Stand p l e ({ frames := 0, cells := 0, slots := 0, locals := 0 } : Room) s m #[(.ref o0), (.int p1), (.int (Int32.ofNat sn)), (.int (Int32.ofNat d)), (.int p4), (.int p5), (.ref o6)] below meth c s₁ [] 0 0 := Stand.of_body Bd
  have e0 : s₁.heap = h0 := by rw [← hh, Bd.state]; rfl
  have N0 := Fr.nil n0
  refine Got.body (ef_2 m o0 p1 (Int32.ofNat sn) (Int32.ofNat d) p4 p5 o6) ?_
  have J12 : ∀ (T_12 : State) (L_12 : List Loc), Stand p l e ({ frames := 0, cells := 0, slots := 0, locals := 0 } : Room) s m #[(.ref o0), (.int p1), (.int (Int32.ofNat sn)), (.int (Int32.ofNat d)), (.int p4), (.int p5), (.ref o6)] below meth c T_12 L_12 0 0 → T_12.heap = h0 → Fr n0 L_12 → Got p e below s (PureP n0 h0) 0 0 (some (.int (f2_12 bs sn d p1 p4 p5 ))) T_12 (mkF m 12 #[.val (.ref o0), .val (.int p1), .val (.int (Int32.ofNat sn)), .val (.int (Int32.ofNat d)), .val (.int p4), .val (.int p5), .val (.ref o6), .unset, .unset, .unset] []) := by
    intro T_12 L_12 X_12 e_12 N_12 
    refine Got.step (T' := T_12) (g' := (mkF m 14 #[.val (.ref o0), .val (.int p1), .val (.int (Int32.ofNat sn)), .val (.int (Int32.ofNat d)), .val (.int p4), .val (.int p5), .val (.ref o6), .unset, .unset, .unset] [(.int p1), (.ref o0)])) (fun tq kt => ?_) ?_
    · show Steps p.tables e below (T_12.setTop (mkF m 12 #[.val (.ref o0), .val (.int p1), .val (.int (Int32.ofNat sn)), .val (.int (Int32.ofNat d)), .val (.int p4), .val (.int p5), .val (.ref o6), .unset, .unset, .unset] [])) _
      refine XS.aloadN X_12.here hx rfl (hb hby d2_12) rfl rfl ?_
      show Steps p.tables e below (T_12.setTop (mkF m 13 #[.val (.ref o0), .val (.int p1), .val (.int (Int32.ofNat sn)), .val (.int (Int32.ofNat d)), .val (.int p4), .val (.int p5), .val (.ref o6), .unset, .unset, .unset] [(.ref o0)])) _
      refine XS.iloadN X_12.here hx rfl (hb hby d2_13) rfl ?_
      exact kt
    obtain ⟨cl9, Ar9, q9, S9, M9, H9, G9⟩ := (id V0)
    have hin9 : ¬ (p1 < 0 ∨ cl9.slots.size ≤ (p1).toNatClampNeg) := inb_of S9 hp
    refine Got.step (T' := T_12) (fun tq kt => X_12.baloadBytes hx (j := p1) (v := (.int (bs.getD (p1).toNatClampNeg 0))) (by rw [e_12]; exact Ar9.1) (State.isArrayOf_alike hZ.alike Ar9.2.1) Ar9.2.2 hin9 (H9.at hin9 (own_getD _ _)) (g := (mkF m 14 #[.val (.ref o0), .val (.int p1), .val (.int (Int32.ofNat sn)), .val (.int (Int32.ofNat d)), .val (.int p4), .val (.int p5), .val (.ref o6), .unset, .unset, .unset] [(.int p1), (.ref o0)])) rfl rfl (hb hby d2_14) tq kt) ?_
    show Got p e below s _ _ _ _ T_12 (mkF m 15 #[.val (.ref o0), .val (.int p1), .val (.int (Int32.ofNat sn)), .val (.int (Int32.ofNat d)), .val (.int p4), .val (.int p5), .val (.ref o6), .unset, .unset, .unset] [(.int (bs.getD (p1).toNatClampNeg 0))])
    refine Got.step (T' := T_12) (g' := (mkF m 17 #[.val (.ref o0), .val (.int p1), .val (.int (Int32.ofNat sn)), .val (.int (Int32.ofNat d)), .val (.int p4), .val (.int p5), .val (.ref o6), .unset, .unset, .unset] [(.int p5), (.int (bs.getD (p1).toNatClampNeg 0))])) (fun tq kt => ?_) ?_
    · show Steps p.tables e below (T_12.setTop (mkF m 15 #[.val (.ref o0), .val (.int p1), .val (.int (Int32.ofNat sn)), .val (.int (Int32.ofNat d)), .val (.int p4), .val (.int p5), .val (.ref o6), .unset, .unset, .unset] [(.int (bs.getD (p1).toNatClampNeg 0))])) _
      refine XS.iload X_12.here hx rfl (hb hby d2_15) rfl ?_
      exact kt
    refine Got.ite (q := ((bs.getD (p1).toNatClampNeg 0) = p5)) (fun hc10 => ?_) (fun hc10 => ?_)
    · refine Got.step (T' := T_12) (g' := (mkF m 25 #[.val (.ref o0), .val (.int p1), .val (.int (Int32.ofNat sn)), .val (.int (Int32.ofNat d)), .val (.int p4), .val (.int p5), .val (.ref o6), .unset, .unset, .unset] [(.int (1 : Int32))])) (fun tq kt => ?_) ?_
      · show Steps p.tables e below (T_12.setTop (mkF m 17 #[.val (.ref o0), .val (.int p1), .val (.int (Int32.ofNat sn)), .val (.int (Int32.ofNat d)), .val (.int p4), .val (.int p5), .val (.ref o6), .unset, .unset, .unset] [(.int p5), (.int (bs.getD (p1).toNatClampNeg 0))])) _
        refine XS.icmpNo X_12.here hx rfl (hb hby d2_17) rfl (XT.ii_ne_f hc10) ?_
        show Steps p.tables e below (T_12.setTop (mkF m 20 #[.val (.ref o0), .val (.int p1), .val (.int (Int32.ofNat sn)), .val (.int (Int32.ofNat d)), .val (.int p4), .val (.int p5), .val (.ref o6), .unset, .unset, .unset] [])) _
        refine XS.iconst X_12.here hx rfl (hb hby d2_20) ?_
        show Steps p.tables e below (T_12.setTop (mkF m 21 #[.val (.ref o0), .val (.int p1), .val (.int (Int32.ofNat sn)), .val (.int (Int32.ofNat d)), .val (.int p4), .val (.int p5), .val (.ref o6), .unset, .unset, .unset] [(.int (1 : Int32))])) _
        refine XS.goto X_12.here hx rfl (pc0 := 21) (pc' := 25) rfl (hb hby d2_21) (by decide) (by decide) ?_
        exact kt
      exact Got.retN (y := (1 : Int32)) (t := .boolean) X_12 hx Bd.returns (by simp) hlk (hb hby d2_25) (by decide) ⟨N_12, e_12⟩ (by decide) (by decide)
    · refine Got.step (T' := T_12) (g' := (mkF m 25 #[.val (.ref o0), .val (.int p1), .val (.int (Int32.ofNat sn)), .val (.int (Int32.ofNat d)), .val (.int p4), .val (.int p5), .val (.ref o6), .unset, .unset, .unset] [(.int (0 : Int32))])) (fun tq kt => ?_) ?_
      · show Steps p.tables e below (T_12.setTop (mkF m 17 #[.val (.ref o0), .val (.int p1), .val (.int (Int32.ofNat sn)), .val (.int (Int32.ofNat d)), .val (.int p4), .val (.int p5), .val (.ref o6), .unset, .unset, .unset] [(.int p5), (.int (bs.getD (p1).toNatClampNeg 0))])) _
        refine XS.icmpYes X_12.here hx rfl (pc0 := 17) (pc' := 24) rfl (hb hby d2_17) rfl (XT.ii_ne_t hc10) (by decide) (by decide) ?_
        show Steps p.tables e below (T_12.setTop (mkF m 24 #[.val (.ref o0), .val (.int p1), .val (.int (Int32.ofNat sn)), .val (.int (Int32.ofNat d)), .val (.int p4), .val (.int p5), .val (.ref o6), .unset, .unset, .unset] [])) _
        refine XS.iconst X_12.here hx rfl (hb hby d2_24) ?_
        exact kt
      exact Got.retN (y := (0 : Int32)) (t := .boolean) X_12 hx Bd.returns (by simp) hlk (hb hby d2_25) (by decide) ⟨N_12, e_12⟩ (by decide) (by decide)
  refine Got.step (T' := s₁) (g' := (mkF m 2 #[.val (.ref o0), .val (.int p1), .val (.int (Int32.ofNat sn)), .val (.int (Int32.ofNat d)), .val (.int p4), .val (.int p5), .val (.ref o6), .unset, .unset, .unset] [(.int (Int32.ofNat sn)), (.int p1)])) (fun tq kt => ?_) ?_
  · show Steps p.tables e below (s₁.setTop (mkF m 0 #[.val (.ref o0), .val (.int p1), .val (.int (Int32.ofNat sn)), .val (.int (Int32.ofNat d)), .val (.int p4), .val (.int p5), .val (.ref o6), .unset, .unset, .unset] [])) _
    refine XS.iloadN X0.here hx rfl (hb hby d2_0) rfl ?_
    show Steps p.tables e below (s₁.setTop (mkF m 1 #[.val (.ref o0), .val (.int p1), .val (.int (Int32.ofNat sn)), .val (.int (Int32.ofNat d)), .val (.int p4), .val (.int p5), .val (.ref o6), .unset, .unset, .unset] [(.int p1)])) _
    refine XS.iloadN X0.here hx rfl (hb hby d2_1) rfl ?_
    exact kt
  refine Got.ite (q := (p1 < (Int32.ofNat sn))) (fun hc4 => ?_) (fun hc4 => ?_)
  · refine Got.step (T' := s₁) (g' := (mkF m 12 #[.val (.ref o0), .val (.int p1), .val (.int (Int32.ofNat sn)), .val (.int (Int32.ofNat d)), .val (.int p4), .val (.int p5), .val (.ref o6), .unset, .unset, .unset] [])) (fun tq kt => ?_) ?_
    · show Steps p.tables e below (s₁.setTop (mkF m 2 #[.val (.ref o0), .val (.int p1), .val (.int (Int32.ofNat sn)), .val (.int (Int32.ofNat d)), .val (.int p4), .val (.int p5), .val (.ref o6), .unset, .unset, .unset] [(.int (Int32.ofNat sn)), (.int p1)])) _
      refine XS.icmpYes X0.here hx rfl (pc0 := 2) (pc' := 12) rfl (hb hby d2_2) rfl (XT.ii_lt_t hc4) (by decide) (by decide) ?_
      exact kt
    exact J12 _ _ X0 e0 N0 
  · refine Got.step (T' := s₁) (g' := (mkF m 9 #[.val (.ref o0), .val (.int p1), .val (.int (Int32.ofNat sn)), .val (.int (Int32.ofNat d)), .val (.int p4), .val (.int p5), .val (.ref o6), .unset, .unset, .unset] [(.int ((Int32.ofNat sn) + (Int32.ofNat d))), (.int p1)])) (fun tq kt => ?_) ?_
    · show Steps p.tables e below (s₁.setTop (mkF m 2 #[.val (.ref o0), .val (.int p1), .val (.int (Int32.ofNat sn)), .val (.int (Int32.ofNat d)), .val (.int p4), .val (.int p5), .val (.ref o6), .unset, .unset, .unset] [(.int (Int32.ofNat sn)), (.int p1)])) _
      refine XS.icmpNo X0.here hx rfl (hb hby d2_2) rfl (XT.ii_lt_f hc4) ?_
      show Steps p.tables e below (s₁.setTop (mkF m 5 #[.val (.ref o0), .val (.int p1), .val (.int (Int32.ofNat sn)), .val (.int (Int32.ofNat d)), .val (.int p4), .val (.int p5), .val (.ref o6), .unset, .unset, .unset] [])) _
      refine XS.iloadN X0.here hx rfl (hb hby d2_5) rfl ?_
      show Steps p.tables e below (s₁.setTop (mkF m 6 #[.val (.ref o0), .val (.int p1), .val (.int (Int32.ofNat sn)), .val (.int (Int32.ofNat d)), .val (.int p4), .val (.int p5), .val (.ref o6), .unset, .unset, .unset] [(.int p1)])) _
      refine XS.iloadN X0.here hx rfl (hb hby d2_6) rfl ?_
      show Steps p.tables e below (s₁.setTop (mkF m 7 #[.val (.ref o0), .val (.int p1), .val (.int (Int32.ofNat sn)), .val (.int (Int32.ofNat d)), .val (.int p4), .val (.int p5), .val (.ref o6), .unset, .unset, .unset] [(.int (Int32.ofNat sn)), (.int p1)])) _
      refine XS.iloadN X0.here hx rfl (hb hby d2_7) rfl ?_
      show Steps p.tables e below (s₁.setTop (mkF m 8 #[.val (.ref o0), .val (.int p1), .val (.int (Int32.ofNat sn)), .val (.int (Int32.ofNat d)), .val (.int p4), .val (.int p5), .val (.ref o6), .unset, .unset, .unset] [(.int (Int32.ofNat d)), (.int (Int32.ofNat sn)), (.int p1)])) _
      refine XS.iadd X0.here hx rfl (hb hby d2_8) rfl ?_
      exact kt
    refine Got.ite (q := (p1 < ((Int32.ofNat sn) + (Int32.ofNat d)))) (fun hc5 => ?_) (fun hc5 => ?_)
    · refine Got.step (T' := s₁) (g' := (mkF m 42 #[.val (.ref o0), .val (.int p1), .val (.int (Int32.ofNat sn)), .val (.int (Int32.ofNat d)), .val (.int p4), .val (.int p5), .val (.ref o6), .val (.int ((((Int32.ofNat sn) + (Int32.ofNat d)) - (1 : Int32)) - p1)), .unset, .unset] [(.int ((((Int32.ofNat sn) + (Int32.ofNat d)) - (1 : Int32)) - p1)), (.ref o6), (.long (p4.toInt64))])) (fun tq kt => ?_) ?_
      · show Steps p.tables e below (s₁.setTop (mkF m 9 #[.val (.ref o0), .val (.int p1), .val (.int (Int32.ofNat sn)), .val (.int (Int32.ofNat d)), .val (.int p4), .val (.int p5), .val (.ref o6), .unset, .unset, .unset] [(.int ((Int32.ofNat sn) + (Int32.ofNat d))), (.int p1)])) _
        refine XS.icmpYes X0.here hx rfl (pc0 := 9) (pc' := 26) rfl (hb hby d2_9) rfl (XT.ii_lt_t hc5) (by decide) (by decide) ?_
        show Steps p.tables e below (s₁.setTop (mkF m 26 #[.val (.ref o0), .val (.int p1), .val (.int (Int32.ofNat sn)), .val (.int (Int32.ofNat d)), .val (.int p4), .val (.int p5), .val (.ref o6), .unset, .unset, .unset] [])) _
        refine XS.iloadN X0.here hx rfl (hb hby d2_26) rfl ?_
        show Steps p.tables e below (s₁.setTop (mkF m 27 #[.val (.ref o0), .val (.int p1), .val (.int (Int32.ofNat sn)), .val (.int (Int32.ofNat d)), .val (.int p4), .val (.int p5), .val (.ref o6), .unset, .unset, .unset] [(.int (Int32.ofNat sn))])) _
        refine XS.iloadN X0.here hx rfl (hb hby d2_27) rfl ?_
        show Steps p.tables e below (s₁.setTop (mkF m 28 #[.val (.ref o0), .val (.int p1), .val (.int (Int32.ofNat sn)), .val (.int (Int32.ofNat d)), .val (.int p4), .val (.int p5), .val (.ref o6), .unset, .unset, .unset] [(.int (Int32.ofNat d)), (.int (Int32.ofNat sn))])) _
        refine XS.iadd X0.here hx rfl (hb hby d2_28) rfl ?_
        show Steps p.tables e below (s₁.setTop (mkF m 29 #[.val (.ref o0), .val (.int p1), .val (.int (Int32.ofNat sn)), .val (.int (Int32.ofNat d)), .val (.int p4), .val (.int p5), .val (.ref o6), .unset, .unset, .unset] [(.int ((Int32.ofNat sn) + (Int32.ofNat d)))])) _
        refine XS.iconst X0.here hx rfl (hb hby d2_29) ?_
        show Steps p.tables e below (s₁.setTop (mkF m 30 #[.val (.ref o0), .val (.int p1), .val (.int (Int32.ofNat sn)), .val (.int (Int32.ofNat d)), .val (.int p4), .val (.int p5), .val (.ref o6), .unset, .unset, .unset] [(.int (1 : Int32)), (.int ((Int32.ofNat sn) + (Int32.ofNat d)))])) _
        refine XS.isub X0.here hx rfl (hb hby d2_30) rfl ?_
        show Steps p.tables e below (s₁.setTop (mkF m 31 #[.val (.ref o0), .val (.int p1), .val (.int (Int32.ofNat sn)), .val (.int (Int32.ofNat d)), .val (.int p4), .val (.int p5), .val (.ref o6), .unset, .unset, .unset] [(.int (((Int32.ofNat sn) + (Int32.ofNat d)) - (1 : Int32)))])) _
        refine XS.iloadN X0.here hx rfl (hb hby d2_31) rfl ?_
        show Steps p.tables e below (s₁.setTop (mkF m 32 #[.val (.ref o0), .val (.int p1), .val (.int (Int32.ofNat sn)), .val (.int (Int32.ofNat d)), .val (.int p4), .val (.int p5), .val (.ref o6), .unset, .unset, .unset] [(.int p1), (.int (((Int32.ofNat sn) + (Int32.ofNat d)) - (1 : Int32)))])) _
        refine XS.isub X0.here hx rfl (hb hby d2_32) rfl ?_
        show Steps p.tables e below (s₁.setTop (mkF m 33 #[.val (.ref o0), .val (.int p1), .val (.int (Int32.ofNat sn)), .val (.int (Int32.ofNat d)), .val (.int p4), .val (.int p5), .val (.ref o6), .unset, .unset, .unset] [(.int ((((Int32.ofNat sn) + (Int32.ofNat d)) - (1 : Int32)) - p1))])) _
        refine XS.istore X0.here hx rfl (hb hby d2_33) rfl (l' := #[.val (.ref o0), .val (.int p1), .val (.int (Int32.ofNat sn)), .val (.int (Int32.ofNat d)), .val (.int p4), .val (.int p5), .val (.ref o6), .val (.int ((((Int32.ofNat sn) + (Int32.ofNat d)) - (1 : Int32)) - p1)), .unset, .unset]) rfl ?_
        show Steps p.tables e below (s₁.setTop (mkF m 35 #[.val (.ref o0), .val (.int p1), .val (.int (Int32.ofNat sn)), .val (.int (Int32.ofNat d)), .val (.int p4), .val (.int p5), .val (.ref o6), .val (.int ((((Int32.ofNat sn) + (Int32.ofNat d)) - (1 : Int32)) - p1)), .unset, .unset] [])) _
        refine XS.iload X0.here hx rfl (hb hby d2_35) rfl ?_
        show Steps p.tables e below (s₁.setTop (mkF m 37 #[.val (.ref o0), .val (.int p1), .val (.int (Int32.ofNat sn)), .val (.int (Int32.ofNat d)), .val (.int p4), .val (.int p5), .val (.ref o6), .val (.int ((((Int32.ofNat sn) + (Int32.ofNat d)) - (1 : Int32)) - p1)), .unset, .unset] [(.int p4)])) _
        refine XS.i2l X0.here hx rfl (hb hby d2_37) rfl ?_
        show Steps p.tables e below (s₁.setTop (mkF m 38 #[.val (.ref o0), .val (.int p1), .val (.int (Int32.ofNat sn)), .val (.int (Int32.ofNat d)), .val (.int p4), .val (.int p5), .val (.ref o6), .val (.int ((((Int32.ofNat sn) + (Int32.ofNat d)) - (1 : Int32)) - p1)), .unset, .unset] [(.long (p4.toInt64))])) _
        refine XS.aload X0.here hx rfl (hb hby d2_38) rfl rfl ?_
        show Steps p.tables e below (s₁.setTop (mkF m 40 #[.val (.ref o0), .val (.int p1), .val (.int (Int32.ofNat sn)), .val (.int (Int32.ofNat d)), .val (.int p4), .val (.int p5), .val (.ref o6), .val (.int ((((Int32.ofNat sn) + (Int32.ofNat d)) - (1 : Int32)) - p1)), .unset, .unset] [(.ref o6), (.long (p4.toInt64))])) _
        refine XS.iload X0.here hx rfl (hb hby d2_40) rfl ?_
        exact kt
      obtain ⟨cl6, Ar6, q6, S6, M6, H6, G6⟩ := (id V6)
      have hin6 : ¬ (((((Int32.ofNat sn) + (Int32.ofNat d)) - (1 : Int32)) - p1) < 0 ∨ cl6.slots.size ≤ (((((Int32.ofNat sn) + (Int32.ofNat d)) - (1 : Int32)) - p1)).toNatClampNeg) := inb_of S6 (own_k hsd hp hc4 hc5).1
      refine Got.step (T' := s₁) (fun tq kt => X0.laload hx (j := ((((Int32.ofNat sn) + (Int32.ofNat d)) - (1 : Int32)) - p1)) (v := (.long (pw.getD (((((Int32.ofNat sn) + (Int32.ofNat d)) - (1 : Int32)) - p1)).toNatClampNeg 0))) (by rw [e0]; exact Ar6.1) (State.isArrayOf_alike hZ.alike Ar6.2.1) Ar6.2.2 hin6 (H6.at hin6 (own_getL _ _)) (g := (mkF m 42 #[.val (.ref o0), .val (.int p1), .val (.int (Int32.ofNat sn)), .val (.int (Int32.ofNat d)), .val (.int p4), .val (.int p5), .val (.ref o6), .val (.int ((((Int32.ofNat sn) + (Int32.ofNat d)) - (1 : Int32)) - p1)), .unset, .unset] [(.int ((((Int32.ofNat sn) + (Int32.ofNat d)) - (1 : Int32)) - p1)), (.ref o6), (.long (p4.toInt64))])) rfl rfl (hb hby d2_42) tq kt) ?_
      show Got p e below s _ _ _ _ s₁ (mkF m 43 #[.val (.ref o0), .val (.int p1), .val (.int (Int32.ofNat sn)), .val (.int (Int32.ofNat d)), .val (.int p4), .val (.int p5), .val (.ref o6), .val (.int ((((Int32.ofNat sn) + (Int32.ofNat d)) - (1 : Int32)) - p1)), .unset, .unset] [(.long (pw.getD (((((Int32.ofNat sn) + (Int32.ofNat d)) - (1 : Int32)) - p1)).toNatClampNeg 0)), (.long (p4.toInt64))])
      refine Got.step (T' := s₁) (g' := (mkF m 52 #[.val (.ref o0), .val (.int p1), .val (.int (Int32.ofNat sn)), .val (.int (Int32.ofNat d)), .val (.int p4), .val (.int p5), .val (.ref o6), .val (.int ((((Int32.ofNat sn) + (Int32.ofNat d)) - (1 : Int32)) - p1)), .val (.long (((p4.toInt64) / (pw.getD (((((Int32.ofNat sn) + (Int32.ofNat d)) - (1 : Int32)) - p1)).toNatClampNeg 0)) % (10 : Int64))), .second] [(.int p1), (.ref o0)])) (fun tq kt => ?_) ?_
      · show Steps p.tables e below (s₁.setTop (mkF m 43 #[.val (.ref o0), .val (.int p1), .val (.int (Int32.ofNat sn)), .val (.int (Int32.ofNat d)), .val (.int p4), .val (.int p5), .val (.ref o6), .val (.int ((((Int32.ofNat sn) + (Int32.ofNat d)) - (1 : Int32)) - p1)), .unset, .unset] [(.long (pw.getD (((((Int32.ofNat sn) + (Int32.ofNat d)) - (1 : Int32)) - p1)).toNatClampNeg 0)), (.long (p4.toInt64))])) _
        refine XS.ldiv X0.here hx rfl (hb hby d2_43) rfl (own_k hsd hp hc4 hc5).2 ?_
        show Steps p.tables e below (s₁.setTop (mkF m 44 #[.val (.ref o0), .val (.int p1), .val (.int (Int32.ofNat sn)), .val (.int (Int32.ofNat d)), .val (.int p4), .val (.int p5), .val (.ref o6), .val (.int ((((Int32.ofNat sn) + (Int32.ofNat d)) - (1 : Int32)) - p1)), .unset, .unset] [(.long ((p4.toInt64) / (pw.getD (((((Int32.ofNat sn) + (Int32.ofNat d)) - (1 : Int32)) - p1)).toNatClampNeg 0)))])) _
        refine X0.ldc2J hx hown (mvT hZ (hw _ (List.mem_of_getElem? (i := 1) rfl))) rfl (hb hby d2_44) ?_
        show Steps p.tables e below (s₁.setTop (mkF m 47 #[.val (.ref o0), .val (.int p1), .val (.int (Int32.ofNat sn)), .val (.int (Int32.ofNat d)), .val (.int p4), .val (.int p5), .val (.ref o6), .val (.int ((((Int32.ofNat sn) + (Int32.ofNat d)) - (1 : Int32)) - p1)), .unset, .unset] [(.long (10 : Int64)), (.long ((p4.toInt64) / (pw.getD (((((Int32.ofNat sn) + (Int32.ofNat d)) - (1 : Int32)) - p1)).toNatClampNeg 0)))])) _
        refine remJ X0 hx rfl (hb hby d2_47) rfl (by decide) ?_
        show Steps p.tables e below (s₁.setTop (mkF m 48 #[.val (.ref o0), .val (.int p1), .val (.int (Int32.ofNat sn)), .val (.int (Int32.ofNat d)), .val (.int p4), .val (.int p5), .val (.ref o6), .val (.int ((((Int32.ofNat sn) + (Int32.ofNat d)) - (1 : Int32)) - p1)), .unset, .unset] [(.long (((p4.toInt64) / (pw.getD (((((Int32.ofNat sn) + (Int32.ofNat d)) - (1 : Int32)) - p1)).toNatClampNeg 0)) % (10 : Int64)))])) _
        refine XS.lstore X0.here hx rfl (hb hby d2_48) rfl (l' := #[.val (.ref o0), .val (.int p1), .val (.int (Int32.ofNat sn)), .val (.int (Int32.ofNat d)), .val (.int p4), .val (.int p5), .val (.ref o6), .val (.int ((((Int32.ofNat sn) + (Int32.ofNat d)) - (1 : Int32)) - p1)), .val (.long (((p4.toInt64) / (pw.getD (((((Int32.ofNat sn) + (Int32.ofNat d)) - (1 : Int32)) - p1)).toNatClampNeg 0)) % (10 : Int64))), .second]) rfl ?_
        show Steps p.tables e below (s₁.setTop (mkF m 50 #[.val (.ref o0), .val (.int p1), .val (.int (Int32.ofNat sn)), .val (.int (Int32.ofNat d)), .val (.int p4), .val (.int p5), .val (.ref o6), .val (.int ((((Int32.ofNat sn) + (Int32.ofNat d)) - (1 : Int32)) - p1)), .val (.long (((p4.toInt64) / (pw.getD (((((Int32.ofNat sn) + (Int32.ofNat d)) - (1 : Int32)) - p1)).toNatClampNeg 0)) % (10 : Int64))), .second] [])) _
        refine XS.aloadN X0.here hx rfl (hb hby d2_50) rfl rfl ?_
        show Steps p.tables e below (s₁.setTop (mkF m 51 #[.val (.ref o0), .val (.int p1), .val (.int (Int32.ofNat sn)), .val (.int (Int32.ofNat d)), .val (.int p4), .val (.int p5), .val (.ref o6), .val (.int ((((Int32.ofNat sn) + (Int32.ofNat d)) - (1 : Int32)) - p1)), .val (.long (((p4.toInt64) / (pw.getD (((((Int32.ofNat sn) + (Int32.ofNat d)) - (1 : Int32)) - p1)).toNatClampNeg 0)) % (10 : Int64))), .second] [(.ref o0)])) _
        refine XS.iloadN X0.here hx rfl (hb hby d2_51) rfl ?_
        exact kt
      obtain ⟨cl7, Ar7, q7, S7, M7, H7, G7⟩ := (id V0)
      have hin7 : ¬ (p1 < 0 ∨ cl7.slots.size ≤ (p1).toNatClampNeg) := inb_of S7 hp
      refine Got.step (T' := s₁) (fun tq kt => X0.baloadBytes hx (j := p1) (v := (.int (bs.getD (p1).toNatClampNeg 0))) (by rw [e0]; exact Ar7.1) (State.isArrayOf_alike hZ.alike Ar7.2.1) Ar7.2.2 hin7 (H7.at hin7 (own_getD _ _)) (g := (mkF m 52 #[.val (.ref o0), .val (.int p1), .val (.int (Int32.ofNat sn)), .val (.int (Int32.ofNat d)), .val (.int p4), .val (.int p5), .val (.ref o6), .val (.int ((((Int32.ofNat sn) + (Int32.ofNat d)) - (1 : Int32)) - p1)), .val (.long (((p4.toInt64) / (pw.getD (((((Int32.ofNat sn) + (Int32.ofNat d)) - (1 : Int32)) - p1)).toNatClampNeg 0)) % (10 : Int64))), .second] [(.int p1), (.ref o0)])) rfl rfl (hb hby d2_52) tq kt) ?_
      show Got p e below s _ _ _ _ s₁ (mkF m 53 #[.val (.ref o0), .val (.int p1), .val (.int (Int32.ofNat sn)), .val (.int (Int32.ofNat d)), .val (.int p4), .val (.int p5), .val (.ref o6), .val (.int ((((Int32.ofNat sn) + (Int32.ofNat d)) - (1 : Int32)) - p1)), .val (.long (((p4.toInt64) / (pw.getD (((((Int32.ofNat sn) + (Int32.ofNat d)) - (1 : Int32)) - p1)).toNatClampNeg 0)) % (10 : Int64))), .second] [(.int (bs.getD (p1).toNatClampNeg 0))])
      refine Got.step (T' := s₁) (g' := (mkF m 60 #[.val (.ref o0), .val (.int p1), .val (.int (Int32.ofNat sn)), .val (.int (Int32.ofNat d)), .val (.int p4), .val (.int p5), .val (.ref o6), .val (.int ((((Int32.ofNat sn) + (Int32.ofNat d)) - (1 : Int32)) - p1)), .val (.long (((p4.toInt64) / (pw.getD (((((Int32.ofNat sn) + (Int32.ofNat d)) - (1 : Int32)) - p1)).toNatClampNeg 0)) % (10 : Int64))), .second] [(.int (((48 : Int32) + ((((p4.toInt64) / (pw.getD (((((Int32.ofNat sn) + (Int32.ofNat d)) - (1 : Int32)) - p1)).toNatClampNeg 0)) % (10 : Int64)).toInt32)).toInt8.toInt32)), (.int (bs.getD (p1).toNatClampNeg 0))])) (fun tq kt => ?_) ?_
      · show Steps p.tables e below (s₁.setTop (mkF m 53 #[.val (.ref o0), .val (.int p1), .val (.int (Int32.ofNat sn)), .val (.int (Int32.ofNat d)), .val (.int p4), .val (.int p5), .val (.ref o6), .val (.int ((((Int32.ofNat sn) + (Int32.ofNat d)) - (1 : Int32)) - p1)), .val (.long (((p4.toInt64) / (pw.getD (((((Int32.ofNat sn) + (Int32.ofNat d)) - (1 : Int32)) - p1)).toNatClampNeg 0)) % (10 : Int64))), .second] [(.int (bs.getD (p1).toNatClampNeg 0))])) _
        refine XS.bipush X0.here hx rfl (hb hby d2_53) ?_
        show Steps p.tables e below (s₁.setTop (mkF m 55 #[.val (.ref o0), .val (.int p1), .val (.int (Int32.ofNat sn)), .val (.int (Int32.ofNat d)), .val (.int p4), .val (.int p5), .val (.ref o6), .val (.int ((((Int32.ofNat sn) + (Int32.ofNat d)) - (1 : Int32)) - p1)), .val (.long (((p4.toInt64) / (pw.getD (((((Int32.ofNat sn) + (Int32.ofNat d)) - (1 : Int32)) - p1)).toNatClampNeg 0)) % (10 : Int64))), .second] [(.int (48 : Int32)), (.int (bs.getD (p1).toNatClampNeg 0))])) _
        refine XS.lload X0.here hx rfl (hb hby d2_55) rfl ?_
        show Steps p.tables e below (s₁.setTop (mkF m 57 #[.val (.ref o0), .val (.int p1), .val (.int (Int32.ofNat sn)), .val (.int (Int32.ofNat d)), .val (.int p4), .val (.int p5), .val (.ref o6), .val (.int ((((Int32.ofNat sn) + (Int32.ofNat d)) - (1 : Int32)) - p1)), .val (.long (((p4.toInt64) / (pw.getD (((((Int32.ofNat sn) + (Int32.ofNat d)) - (1 : Int32)) - p1)).toNatClampNeg 0)) % (10 : Int64))), .second] [(.long (((p4.toInt64) / (pw.getD (((((Int32.ofNat sn) + (Int32.ofNat d)) - (1 : Int32)) - p1)).toNatClampNeg 0)) % (10 : Int64))), (.int (48 : Int32)), (.int (bs.getD (p1).toNatClampNeg 0))])) _
        refine XS.l2i X0.here hx rfl (hb hby d2_57) rfl ?_
        show Steps p.tables e below (s₁.setTop (mkF m 58 #[.val (.ref o0), .val (.int p1), .val (.int (Int32.ofNat sn)), .val (.int (Int32.ofNat d)), .val (.int p4), .val (.int p5), .val (.ref o6), .val (.int ((((Int32.ofNat sn) + (Int32.ofNat d)) - (1 : Int32)) - p1)), .val (.long (((p4.toInt64) / (pw.getD (((((Int32.ofNat sn) + (Int32.ofNat d)) - (1 : Int32)) - p1)).toNatClampNeg 0)) % (10 : Int64))), .second] [(.int ((((p4.toInt64) / (pw.getD (((((Int32.ofNat sn) + (Int32.ofNat d)) - (1 : Int32)) - p1)).toNatClampNeg 0)) % (10 : Int64)).toInt32)), (.int (48 : Int32)), (.int (bs.getD (p1).toNatClampNeg 0))])) _
        refine XS.iadd X0.here hx rfl (hb hby d2_58) rfl ?_
        show Steps p.tables e below (s₁.setTop (mkF m 59 #[.val (.ref o0), .val (.int p1), .val (.int (Int32.ofNat sn)), .val (.int (Int32.ofNat d)), .val (.int p4), .val (.int p5), .val (.ref o6), .val (.int ((((Int32.ofNat sn) + (Int32.ofNat d)) - (1 : Int32)) - p1)), .val (.long (((p4.toInt64) / (pw.getD (((((Int32.ofNat sn) + (Int32.ofNat d)) - (1 : Int32)) - p1)).toNatClampNeg 0)) % (10 : Int64))), .second] [(.int ((48 : Int32) + ((((p4.toInt64) / (pw.getD (((((Int32.ofNat sn) + (Int32.ofNat d)) - (1 : Int32)) - p1)).toNatClampNeg 0)) % (10 : Int64)).toInt32))), (.int (bs.getD (p1).toNatClampNeg 0))])) _
        refine XS.i2b X0.here hx rfl (hb hby d2_59) rfl ?_
        exact kt
      refine Got.ite (q := ((bs.getD (p1).toNatClampNeg 0) = (((48 : Int32) + ((((p4.toInt64) / (pw.getD (((((Int32.ofNat sn) + (Int32.ofNat d)) - (1 : Int32)) - p1)).toNatClampNeg 0)) % (10 : Int64)).toInt32)).toInt8.toInt32))) (fun hc8 => ?_) (fun hc8 => ?_)
      · refine Got.step (T' := s₁) (g' := (mkF m 68 #[.val (.ref o0), .val (.int p1), .val (.int (Int32.ofNat sn)), .val (.int (Int32.ofNat d)), .val (.int p4), .val (.int p5), .val (.ref o6), .val (.int ((((Int32.ofNat sn) + (Int32.ofNat d)) - (1 : Int32)) - p1)), .val (.long (((p4.toInt64) / (pw.getD (((((Int32.ofNat sn) + (Int32.ofNat d)) - (1 : Int32)) - p1)).toNatClampNeg 0)) % (10 : Int64))), .second] [(.int (1 : Int32))])) (fun tq kt => ?_) ?_
        · show Steps p.tables e below (s₁.setTop (mkF m 60 #[.val (.ref o0), .val (.int p1), .val (.int (Int32.ofNat sn)), .val (.int (Int32.ofNat d)), .val (.int p4), .val (.int p5), .val (.ref o6), .val (.int ((((Int32.ofNat sn) + (Int32.ofNat d)) - (1 : Int32)) - p1)), .val (.long (((p4.toInt64) / (pw.getD (((((Int32.ofNat sn) + (Int32.ofNat d)) - (1 : Int32)) - p1)).toNatClampNeg 0)) % (10 : Int64))), .second] [(.int (((48 : Int32) + ((((p4.toInt64) / (pw.getD (((((Int32.ofNat sn) + (Int32.ofNat d)) - (1 : Int32)) - p1)).toNatClampNeg 0)) % (10 : Int64)).toInt32)).toInt8.toInt32)), (.int (bs.getD (p1).toNatClampNeg 0))])) _
          refine XS.icmpNo X0.here hx rfl (hb hby d2_60) rfl (XT.ii_ne_f hc8) ?_
          show Steps p.tables e below (s₁.setTop (mkF m 63 #[.val (.ref o0), .val (.int p1), .val (.int (Int32.ofNat sn)), .val (.int (Int32.ofNat d)), .val (.int p4), .val (.int p5), .val (.ref o6), .val (.int ((((Int32.ofNat sn) + (Int32.ofNat d)) - (1 : Int32)) - p1)), .val (.long (((p4.toInt64) / (pw.getD (((((Int32.ofNat sn) + (Int32.ofNat d)) - (1 : Int32)) - p1)).toNatClampNeg 0)) % (10 : Int64))), .second] [])) _
          refine XS.iconst X0.here hx rfl (hb hby d2_63) ?_
          show Steps p.tables e below (s₁.setTop (mkF m 64 #[.val (.ref o0), .val (.int p1), .val (.int (Int32.ofNat sn)), .val (.int (Int32.ofNat d)), .val (.int p4), .val (.int p5), .val (.ref o6), .val (.int ((((Int32.ofNat sn) + (Int32.ofNat d)) - (1 : Int32)) - p1)), .val (.long (((p4.toInt64) / (pw.getD (((((Int32.ofNat sn) + (Int32.ofNat d)) - (1 : Int32)) - p1)).toNatClampNeg 0)) % (10 : Int64))), .second] [(.int (1 : Int32))])) _
          refine XS.goto X0.here hx rfl (pc0 := 64) (pc' := 68) rfl (hb hby d2_64) (by decide) (by decide) ?_
          exact kt
        exact Got.retN (y := (1 : Int32)) (t := .boolean) X0 hx Bd.returns (by simp) hlk (hb hby d2_68) (by decide) ⟨N0, e0⟩ (by decide) (by decide)
      · refine Got.step (T' := s₁) (g' := (mkF m 68 #[.val (.ref o0), .val (.int p1), .val (.int (Int32.ofNat sn)), .val (.int (Int32.ofNat d)), .val (.int p4), .val (.int p5), .val (.ref o6), .val (.int ((((Int32.ofNat sn) + (Int32.ofNat d)) - (1 : Int32)) - p1)), .val (.long (((p4.toInt64) / (pw.getD (((((Int32.ofNat sn) + (Int32.ofNat d)) - (1 : Int32)) - p1)).toNatClampNeg 0)) % (10 : Int64))), .second] [(.int (0 : Int32))])) (fun tq kt => ?_) ?_
        · show Steps p.tables e below (s₁.setTop (mkF m 60 #[.val (.ref o0), .val (.int p1), .val (.int (Int32.ofNat sn)), .val (.int (Int32.ofNat d)), .val (.int p4), .val (.int p5), .val (.ref o6), .val (.int ((((Int32.ofNat sn) + (Int32.ofNat d)) - (1 : Int32)) - p1)), .val (.long (((p4.toInt64) / (pw.getD (((((Int32.ofNat sn) + (Int32.ofNat d)) - (1 : Int32)) - p1)).toNatClampNeg 0)) % (10 : Int64))), .second] [(.int (((48 : Int32) + ((((p4.toInt64) / (pw.getD (((((Int32.ofNat sn) + (Int32.ofNat d)) - (1 : Int32)) - p1)).toNatClampNeg 0)) % (10 : Int64)).toInt32)).toInt8.toInt32)), (.int (bs.getD (p1).toNatClampNeg 0))])) _
          refine XS.icmpYes X0.here hx rfl (pc0 := 60) (pc' := 67) rfl (hb hby d2_60) rfl (XT.ii_ne_t hc8) (by decide) (by decide) ?_
          show Steps p.tables e below (s₁.setTop (mkF m 67 #[.val (.ref o0), .val (.int p1), .val (.int (Int32.ofNat sn)), .val (.int (Int32.ofNat d)), .val (.int p4), .val (.int p5), .val (.ref o6), .val (.int ((((Int32.ofNat sn) + (Int32.ofNat d)) - (1 : Int32)) - p1)), .val (.long (((p4.toInt64) / (pw.getD (((((Int32.ofNat sn) + (Int32.ofNat d)) - (1 : Int32)) - p1)).toNatClampNeg 0)) % (10 : Int64))), .second] [])) _
          refine XS.iconst X0.here hx rfl (hb hby d2_67) ?_
          exact kt
        exact Got.retN (y := (0 : Int32)) (t := .boolean) X0 hx Bd.returns (by simp) hlk (hb hby d2_68) (by decide) ⟨N0, e0⟩ (by decide) (by decide)
    · refine Got.step (T' := s₁) (g' := (mkF m 12 #[.val (.ref o0), .val (.int p1), .val (.int (Int32.ofNat sn)), .val (.int (Int32.ofNat d)), .val (.int p4), .val (.int p5), .val (.ref o6), .unset, .unset, .unset] [])) (fun tq kt => ?_) ?_
      · show Steps p.tables e below (s₁.setTop (mkF m 9 #[.val (.ref o0), .val (.int p1), .val (.int (Int32.ofNat sn)), .val (.int (Int32.ofNat d)), .val (.int p4), .val (.int p5), .val (.ref o6), .unset, .unset, .unset] [(.int ((Int32.ofNat sn) + (Int32.ofNat d))), (.int p1)])) _
        refine XS.icmpNo X0.here hx rfl (hb hby d2_9) rfl (XT.ii_lt_f hc5) ?_
        exact kt
      exact J12 _ _ X0 e0 N0 
theorem own_dd (p : Int32) : ∃ d : Nat, d < 11 ∧ ((p &&& (2147483647 : Int32)) % (11 : Int32)) = Int32.ofNat d := by
  have h1 := c_mask p 2147483647 31 (by decide) (by decide)
  have h2 := (c_irem (p &&& 2147483647) 11 11 rfl).1 (by omega)
  refine ⟨((p &&& (2147483647 : Int32)) % (11 : Int32)).toInt.toNat, by omega, ?_⟩
  rw [← Int32.toInt_inj, own_i (by omega)]; omega
theorem own_17 {d : Nat} (hd : d < 11) : ((17 : Int32) - Int32.ofNat d).toInt = 17 - (d : Int) := by
  have z : (17 : Int32).toInt = 17 := rfl
  have e := own_i (i := d) (by omega)
  rw [XT.sub32 (by unfold XT.fits32; omega), e, z]
theorem own_nz17 {d : Nat} (hd : d < 11) : ((17 : Int32) - Int32.ofNat d) ≠ 0 := fun h => by
  have e := own_17 hd
  rw [h] at e
  have z : (0 : Int32).toInt = 0 := rfl
  omega
theorem own_sn (p : Int32) {d : Nat} (hd : d < 11) : ∃ sn : Nat, sn + d ≤ 16 ∧ ((p &&& (2147483647 : Int32)) % ((17 : Int32) - Int32.ofNat d)) = Int32.ofNat sn := by
  have h1 := c_mask p 2147483647 31 (by decide) (by decide)
  have e := own_17 hd
  have h2 := (c_iremV (p &&& 2147483647) ((17 : Int32) - Int32.ofNat d)).1 (by omega) (by omega)
  refine ⟨((p &&& (2147483647 : Int32)) % ((17 : Int32) - Int32.ofNat d)).toInt.toNat, by omega, ?_⟩
  rw [← Int32.toInt_inj, own_i (by omega)]; omega
theorem own_in11 {d : Nat} (hd : d < 11) : ¬ Int32.ofNat d < 0 ∧ Int32.ofNat d < 11 := by
  have z : (0 : Int32).toInt = 0 := rfl
  have z6 : (11 : Int32).toInt = 11 := rfl
  rw [Int32.lt_iff_toInt_lt, Int32.lt_iff_toInt_lt, own_i (by omega), z, z6]; omega
theorem own_nzp {d : Nat} (hd : d < 11) : (pw.getD (Int32.ofNat d).toNatClampNeg 0) ≠ 0 := by rw [own_n32 (by omega)]; exact own_pz _ hd
theorem own_vv (p1 : Int32) {d : Nat} {vv : Int32} (hd : d < 11) (hvv : vv = ((((p1 &&& (2147483647 : Int32)).toInt64) % (pw.getD (Int32.ofNat d).toNatClampNeg 0)).toInt32)) : 0 ≤ vv.toInt := by
  have h1 := c_mask p1 2147483647 31 (by decide) (by decide)
  have e1 := Int32.toInt_toInt64 (p1 &&& 2147483647)
  rw [own_n32 (by omega)] at hvv
  have e2 := own_pw d hd
  have pos : (0 : Int) < 10 ^ d := Int.pow_pos (by decide)
  have e3 : (((p1 &&& (2147483647 : Int32)).toInt64) % (pw.getD d 0)).toInt = (p1 &&& 2147483647).toInt % 10 ^ d := by
    rw [Int64.toInt_mod, e1, e2, Int.tmod_eq_emod_of_nonneg (by omega)]
  have b1 := Int.emod_nonneg (p1 &&& 2147483647).toInt (b := 10 ^ d) (by omega)
  have b2 : (p1 &&& 2147483647).toInt % 10 ^ d ≤ (p1 &&& 2147483647).toInt := by
    have q := Int.emod_add_mul_ediv (p1 &&& 2147483647).toInt (10 ^ d)
    have r : 0 ≤ 10 ^ d * ((p1 &&& 2147483647).toInt / 10 ^ d) := Int.mul_nonneg (by omega) (Int.ediv_nonneg (by omega) (by omega))
    omega
  rw [hvv, XT.narrowInt (by unfold XT.fits32; omega), e3]
  exact b1
def itd : Nat → Int32 → Int32
  | 0, v => v
  | k + 1, v => itd k (v / (10 : Int32))
theorem own_wr_len (sn : Nat) : ∀ (k : Nat) (r : Int32) (bs : List Int32), (wr sn k r bs).length = bs.length
  | 0, _, _ => rfl
  | k + 1, r, bs => by
    show (wr sn k _ (bs.set _ _)).length = _
    rw [own_wr_len sn k, List.length_set]
theorem own_wr_out (sn i : Nat) : ∀ (k : Nat) (r : Int32) (bs : List Int32), (i < sn ∨ sn + k ≤ i) → (wr sn k r bs).getD i 0 = bs.getD i 0
  | 0, _, _, _ => rfl
  | k + 1, r, bs, h => by
    show (wr sn k _ (bs.set _ _)).getD i 0 = _
    rw [own_wr_out sn i k _ _ (by omega), List.getD_eq_getElem?_getD, List.getD_eq_getElem?_getD, List.getElem?_set_ne (by omega)]
theorem own_wr_in (sn i : Nat) : ∀ (k : Nat) (r : Int32) (bs : List Int32), sn ≤ i → i < sn + k → sn + k ≤ bs.length → (wr sn k r bs).getD i 0 = (((48 : Int32) + ((itd (sn + k - 1 - i) r) % (10 : Int32))).toInt8.toInt32)
  | 0, _, _, h1, h2, _ => by omega
  | k + 1, r, bs, h1, h2, h3 => by
    show (wr sn k _ (bs.set _ _)).getD i 0 = _
    by_cases e : i = sn + k
    · rw [own_wr_out sn i k _ _ (by omega), show sn + (k + 1) - 1 - i = 0 by omega, e, List.getD_eq_getElem?_getD, List.getElem?_set_self (by omega)]
      rfl
    · rw [own_wr_in sn i k _ _ h1 (by omega) (by rw [List.length_set]; omega), show sn + (k + 1) - 1 - i = (sn + k - 1 - i) + 1 by omega]
      rfl
theorem own_itd : ∀ (k : Nat) (v : Int32), 0 ≤ v.toInt → (itd k v).toInt = v.toInt / 10 ^ k
  | 0, v, _ => by show v.toInt = v.toInt / 10 ^ 0; rw [Int.pow_zero, Int.ediv_one]
  | k + 1, v, h => by
    show (itd k (v / 10)).toInt = _
    have e := (c_idiv v 10 10 rfl (by decide)).1 h
    rw [own_itd k _ (by rw [e]; omega), e, Int.pow_succ, Int.mul_comm, ← Int.ediv_ediv_of_nonneg (by decide)]
theorem own_dig {v : Int32} (k : Nat) (hk : k < 11) (hv : 0 ≤ v.toInt) : ((itd k v) % (10 : Int32)) = (((v.toInt64) / (pw.getD k 0)) % (10 : Int64)).toInt32 := by
  have e1 := own_itd k v hv
  have pos : (0 : Int) < 10 ^ k := Int.pow_pos (by decide)
  have n1 : 0 ≤ v.toInt / 10 ^ k := Int.ediv_nonneg hv (by omega)
  have e2 := (c_irem (itd k v) 10 10 rfl).1 (by rw [e1]; exact n1)
  have e3 := (c_ldiv v.toInt64 (pw.getD k 0) (10 ^ k) (own_pw k hk) (fun h => by have := own_pw k hk; rw [h] at this; have z : (-1 : Int64).toInt = -1 := rfl; omega)).1 (by rw [Int32.toInt_toInt64]; exact hv)
  rw [Int32.toInt_toInt64] at e3
  have z : (10 : Int64).toInt = 10 := rfl
  have e4 : (((v.toInt64) / (pw.getD k 0)) % (10 : Int64)).toInt = v.toInt / 10 ^ k % 10 := by
    rw [Int64.toInt_mod, e3, z, Int.tmod_eq_emod_of_nonneg n1]
  rw [← Int32.toInt_inj, XT.narrowInt (by unfold XT.fits32; rw [e4]; omega), e2, e1, e4]
theorem own_at_ne {sn d i : Nat} {v fb : Int32} (hsd : sn + d ≤ 16 ∧ d ≤ 10) (hv : 0 ≤ v.toInt) (hi : i < 16) : ¬ (f2 (wr sn d v (List.replicate 16 fb)) sn d (Int32.ofNat i) v fb) = 0 := by
  have ei := own_i (i := i) (by omega)
  have es := own_i (i := sn) (by omega)
  have esd : (Int32.ofNat sn + Int32.ofNat d).toInt = ((sn + d : Nat) : Int) := by rw [← Int32.ofNat_add, own_i (by omega)]
  have out : (i < sn ∨ sn + d ≤ i) → f2_12 (wr sn d v (List.replicate 16 fb)) sn d (Int32.ofNat i) v fb = 1 := fun h => by
    unfold f2_12
    rw [own_n32 (by omega), own_wr_out sn i d v _ h, List.getD_eq_getElem?_getD, List.getElem?_replicate, if_pos hi]
    exact if_pos rfl
  unfold f2
  by_cases h1 : Int32.ofNat i < Int32.ofNat sn
  · rw [if_pos h1]
    rw [Int32.lt_iff_toInt_lt, ei, es] at h1
    rw [out (Or.inl (by omega))]; decide
  · rw [if_neg h1]
    by_cases h2 : Int32.ofNat i < Int32.ofNat sn + Int32.ofNat d
    · rw [if_pos h2]
      obtain ⟨k1, k2, k3⟩ := own_K hsd (own_in hi) h1 h2
      rw [ei] at k1 k2 k3
      have ek : (((Int32.ofNat sn + Int32.ofNat d) - (1 : Int32)) - Int32.ofNat i).toNatClampNeg = sn + d - 1 - i := by rw [Int32.toNatClampNeg, k1]; omega
      rw [ek, own_n32 (by omega), own_wr_in sn i d v _ (by omega) (by omega) (by rw [List.length_replicate]; omega), own_dig _ (by omega) hv, if_pos rfl]
      decide
    · rw [if_neg h2]
      rw [Int32.lt_iff_toInt_lt, ei, esd] at h2
      rw [out (Or.inr (by omega))]; decide

theorem pd_0 : parseMethodDescriptor "([BIII)V" = some ⟨[(.array .byte), .int, .int, .int], none⟩ := by decide +kernel
theorem pd_1 : parseMethodDescriptor "([BIIIIB[J)Z" = some ⟨[(.array .byte), .int, .int, .int, .int, .byte, (.array .long)], some .boolean⟩ := by decide +kernel
theorem ef_0 (m : MethodId) (x0 : Int32) (x1 : Int32) (x2 : Int32) (x3 : Int32) : entryFrame m #[(.int x0), (.int x1), (.int x2), (.int x3)] maxLocals = mkF m 0 #[.val (.int x0), .val (.int x1), .val (.int x2), .val (.int x3), .unset, .unset, .unset, .unset, .unset, .unset] [] := by first | (simp [entryFrame, mkF, argsToLocals, Value.category, maxLocals]; done) | rfl
set_option maxRecDepth 65536 in
set_option maxHeartbeats 40000000 in
theorem rm0 (l : Launch) (Z : State) (a0 : Array Value) (hw : ∀ d ∈ tables_1, d.before a0 Z = true) (ws : List Jvm.Cond) (p0 p1 p2 p3 : Int32) (h0 : Heap) (n0 : Nat) (Z0 : n0 ≤ h0.size)  :
    MetFree l x (head1 (Jvm.Cond.code x code maxLocals ret :: ws) room_1) (fun a U => a = #[(.int p0), (.int p1), (.int p2), (.int p3)] ∧ Z.Warmed39 U.vm ∧ U.heap = h0) (fun _ _ _ _ _ => True) (fun _ U o U' => ∃ v L, o = .returned v ∧ QV (some (.int (1 : Int32))) (fun _ L => Fr n0 L) v U'.heap L ∧ FrameEnd U o U' L room_1.cells room_1.slots) := by
  refine MetFree.of_bodySF (plainFor_of_name pn_1) hisR ?_
  intro p e s m args below meth c s₁ Bd hml0 hP hK
  obtain ⟨rfl, hZ, hh⟩ := hP
  have hx := Bd.exec
  have hby := Bd.bytes
  have hml : c.maxLocals = 10 := hml0
  have hown : s.vm.findClass "com/example/cytobridge/cytobridge/profile/TimeStampWriteDigitsPinLaw" = some m.cls := findClass_of_methodNamed Bd.named
  have hnm := (name_of_methodNamed Bd.named Bd.method).1
  have hlk : meth.locks = false := BodyLoose.notSynchronized Bd
  have X0 : Stand p l e room_1 s m #[(.int p0), (.int p1), (.int p2), (.int p3)] below meth c s₁ [] 0 0 := Stand.of_body Bd
  have e0 : s₁.heap = h0 := by rw [← hh, Bd.state]; rfl
  have N0 := Fr.nil n0
  refine Got.body (ef_0 m p0 p1 p2 p3) ?_
  refine Got.step (T' := s₁) (g' := (mkF m 2 #[.val (.int p0), .val (.int p1), .val (.int p2), .val (.int p3), .unset, .unset, .unset, .unset, .unset, .unset] [(.int (11 : Int32))])) (fun tq kt => ?_) ?_
  · show Steps p.tables e below (s₁.setTop (mkF m 0 #[.val (.int p0), .val (.int p1), .val (.int p2), .val (.int p3), .unset, .unset, .unset, .unset, .unset, .unset] [])) _
    refine XS.bipush X0.here hx rfl (hb hby at_0) ?_
    exact kt
  obtain ⟨T11, h11, k11, X11, e11, E11, A11, st11⟩ := newP X0 hx hZ (hw _ (List.mem_of_getElem? (i := 0) rfl)) e0 (g := (mkF m 2 #[.val (.int p0), .val (.int p1), .val (.int p2), .val (.int p3), .unset, .unset, .unset, .unset, .unset, .unset] [(.int (11 : Int32))])) rfl (hb hby at_2) rfl (by decide) (cap := 11) (by decide) (by decide) (by decide) (by decide)
  obtain ⟨b11, g11⟩ : ∃ z, z = h0.size := ⟨_, rfl⟩
  rw [← g11] at A11 st11
  have gn_b11 : n0 ≤ b11 := by rw [g11]; exact Z0
  have Z0_12 : n0 ≤ h11.size := (Nat.le_trans Z0 E11.1)
  have V11 : Arv Z h11 b11 k11 .long (11 : Int32) [(.long (0 : Int64)), (.long (0 : Int64)), (.long (0 : Int64)), (.long (0 : Int64)), (.long (0 : Int64)), (.long (0 : Int64)), (.long (0 : Int64)), (.long (0 : Int64)), (.long (0 : Int64)), (.long (0 : Int64)), (.long (0 : Int64))] (.long (0 : Int64)) := (Arv.new A11 (by decide)).pad (pad_rep [] (.long (0 : Int64)) 11)
  refine Got.step st11 ?_
  show Got p e below s _ _ _ _ T11 (mkF m 4 #[.val (.int p0), .val (.int p1), .val (.int p2), .val (.int p3), .unset, .unset, .unset, .unset, .unset, .unset] [(.ref b11)])
  refine Got.step (T' := T11) (g' := (mkF m 7 #[.val (.int p0), .val (.int p1), .val (.int p2), .val (.int p3), .unset, .unset, .unset, .unset, .unset, .unset] [(.long (1 : Int64)), (.int (0 : Int32)), (.ref b11), (.ref b11)])) (fun tq kt => ?_) ?_
  · show Steps p.tables e below (T11.setTop (mkF m 4 #[.val (.int p0), .val (.int p1), .val (.int p2), .val (.int p3), .unset, .unset, .unset, .unset, .unset, .unset] [(.ref b11)])) _
    refine XS.dup X11.here hx rfl (hb hby at_4) rfl rfl ?_
    show Steps p.tables e below (T11.setTop (mkF m 5 #[.val (.int p0), .val (.int p1), .val (.int p2), .val (.int p3), .unset, .unset, .unset, .unset, .unset, .unset] [(.ref b11), (.ref b11)])) _
    refine XS.iconst X11.here hx rfl (hb hby at_5) ?_
    show Steps p.tables e below (T11.setTop (mkF m 6 #[.val (.int p0), .val (.int p1), .val (.int p2), .val (.int p3), .unset, .unset, .unset, .unset, .unset, .unset] [(.int (0 : Int32)), (.ref b11), (.ref b11)])) _
    refine XS.lconst X11.here hx rfl (hb hby at_6) ?_
    exact kt
  obtain ⟨cl13, Ar13, q13, S13, M13, H13, G13⟩ := (id V11)
  have hin13 : ¬ ((0 : Int32) < 0 ∨ cl13.slots.size ≤ ((0 : Int32)).toNatClampNeg) := inb_of S13 ⟨by decide, by decide⟩
  obtain ⟨T13, h13, X13, e13, W13, st13⟩ := stJ X11 hx hZ e11 Ar13 (j := (0 : Int32)) hin13 (g := (mkF m 7 #[.val (.int p0), .val (.int p1), .val (.int p2), .val (.int p3), .unset, .unset, .unset, .unset, .unset, .unset] [(.long (1 : Int64)), (.int (0 : Int32)), (.ref b11), (.ref b11)])) rfl rfl (hb hby at_7)
  have Z0_14 : n0 ≤ h13.size := (Nat.le_trans Z0_12 (Keep.of_wr W13).1)
  have V13 : Arv Z h13 b11 k11 .long (11 : Int32) [(.long (1 : Int64)), (.long (0 : Int64)), (.long (0 : Int64)), (.long (0 : Int64)), (.long (0 : Int64)), (.long (0 : Int64)), (.long (0 : Int64)), (.long (0 : Int64)), (.long (0 : Int64)), (.long (0 : Int64)), (.long (0 : Int64))] (.long (0 : Int64)) := Arv.set Ar13 q13 S13 M13 H13 G13 rfl W13 0 rfl (Nat.le_of_ble_eq_true rfl)
  have N13 := Fr.snoc X13 N0 gn_b11
  refine Got.step st13 ?_
  show Got p e below s _ _ _ _ T13 (mkF m 8 #[.val (.int p0), .val (.int p1), .val (.int p2), .val (.int p3), .unset, .unset, .unset, .unset, .unset, .unset] [(.ref b11)])
  refine Got.step (T' := T13) (g' := (mkF m 13 #[.val (.int p0), .val (.int p1), .val (.int p2), .val (.int p3), .unset, .unset, .unset, .unset, .unset, .unset] [(.long (10 : Int64)), (.int (1 : Int32)), (.ref b11), (.ref b11)])) (fun tq kt => ?_) ?_
  · show Steps p.tables e below (T13.setTop (mkF m 8 #[.val (.int p0), .val (.int p1), .val (.int p2), .val (.int p3), .unset, .unset, .unset, .unset, .unset, .unset] [(.ref b11)])) _
    refine XS.dup X13.here hx rfl (hb hby at_8) rfl rfl ?_
    show Steps p.tables e below (T13.setTop (mkF m 9 #[.val (.int p0), .val (.int p1), .val (.int p2), .val (.int p3), .unset, .unset, .unset, .unset, .unset, .unset] [(.ref b11), (.ref b11)])) _
    refine XS.iconst X13.here hx rfl (hb hby at_9) ?_
    show Steps p.tables e below (T13.setTop (mkF m 10 #[.val (.int p0), .val (.int p1), .val (.int p2), .val (.int p3), .unset, .unset, .unset, .unset, .unset, .unset] [(.int (1 : Int32)), (.ref b11), (.ref b11)])) _
    refine X13.ldc2J hx hown (mvT hZ (hw _ (List.mem_of_getElem? (i := 1) rfl))) rfl (hb hby at_10) ?_
    exact kt
  obtain ⟨cl15, Ar15, q15, S15, M15, H15, G15⟩ := (id V13)
  have hin15 : ¬ ((1 : Int32) < 0 ∨ cl15.slots.size ≤ ((1 : Int32)).toNatClampNeg) := inb_of S15 ⟨by decide, by decide⟩
  obtain ⟨T15, h15, X15, e15, W15, st15⟩ := stJ X13 hx hZ e13 Ar15 (j := (1 : Int32)) hin15 (g := (mkF m 13 #[.val (.int p0), .val (.int p1), .val (.int p2), .val (.int p3), .unset, .unset, .unset, .unset, .unset, .unset] [(.long (10 : Int64)), (.int (1 : Int32)), (.ref b11), (.ref b11)])) rfl rfl (hb hby at_13)
  have Z0_16 : n0 ≤ h15.size := (Nat.le_trans Z0_14 (Keep.of_wr W15).1)
  have V15 : Arv Z h15 b11 k11 .long (11 : Int32) [(.long (1 : Int64)), (.long (10 : Int64)), (.long (0 : Int64)), (.long (0 : Int64)), (.long (0 : Int64)), (.long (0 : Int64)), (.long (0 : Int64)), (.long (0 : Int64)), (.long (0 : Int64)), (.long (0 : Int64)), (.long (0 : Int64))] (.long (0 : Int64)) := Arv.set Ar15 q15 S15 M15 H15 G15 rfl W15 1 rfl (Nat.le_of_ble_eq_true rfl)
  have N15 := Fr.snoc X15 N13 gn_b11
  refine Got.step st15 ?_
  show Got p e below s _ _ _ _ T15 (mkF m 14 #[.val (.int p0), .val (.int p1), .val (.int p2), .val (.int p3), .unset, .unset, .unset, .unset, .unset, .unset] [(.ref b11)])
  refine Got.step (T' := T15) (g' := (mkF m 19 #[.val (.int p0), .val (.int p1), .val (.int p2), .val (.int p3), .unset, .unset, .unset, .unset, .unset, .unset] [(.long (100 : Int64)), (.int (2 : Int32)), (.ref b11), (.ref b11)])) (fun tq kt => ?_) ?_
  · show Steps p.tables e below (T15.setTop (mkF m 14 #[.val (.int p0), .val (.int p1), .val (.int p2), .val (.int p3), .unset, .unset, .unset, .unset, .unset, .unset] [(.ref b11)])) _
    refine XS.dup X15.here hx rfl (hb hby at_14) rfl rfl ?_
    show Steps p.tables e below (T15.setTop (mkF m 15 #[.val (.int p0), .val (.int p1), .val (.int p2), .val (.int p3), .unset, .unset, .unset, .unset, .unset, .unset] [(.ref b11), (.ref b11)])) _
    refine XS.iconst X15.here hx rfl (hb hby at_15) ?_
    show Steps p.tables e below (T15.setTop (mkF m 16 #[.val (.int p0), .val (.int p1), .val (.int p2), .val (.int p3), .unset, .unset, .unset, .unset, .unset, .unset] [(.int (2 : Int32)), (.ref b11), (.ref b11)])) _
    refine X15.ldc2J hx hown (mvT hZ (hw _ (List.mem_of_getElem? (i := 2) rfl))) rfl (hb hby at_16) ?_
    exact kt
  obtain ⟨cl17, Ar17, q17, S17, M17, H17, G17⟩ := (id V15)
  have hin17 : ¬ ((2 : Int32) < 0 ∨ cl17.slots.size ≤ ((2 : Int32)).toNatClampNeg) := inb_of S17 ⟨by decide, by decide⟩
  obtain ⟨T17, h17, X17, e17, W17, st17⟩ := stJ X15 hx hZ e15 Ar17 (j := (2 : Int32)) hin17 (g := (mkF m 19 #[.val (.int p0), .val (.int p1), .val (.int p2), .val (.int p3), .unset, .unset, .unset, .unset, .unset, .unset] [(.long (100 : Int64)), (.int (2 : Int32)), (.ref b11), (.ref b11)])) rfl rfl (hb hby at_19)
  have Z0_18 : n0 ≤ h17.size := (Nat.le_trans Z0_16 (Keep.of_wr W17).1)
  have V17 : Arv Z h17 b11 k11 .long (11 : Int32) [(.long (1 : Int64)), (.long (10 : Int64)), (.long (100 : Int64)), (.long (0 : Int64)), (.long (0 : Int64)), (.long (0 : Int64)), (.long (0 : Int64)), (.long (0 : Int64)), (.long (0 : Int64)), (.long (0 : Int64)), (.long (0 : Int64))] (.long (0 : Int64)) := Arv.set Ar17 q17 S17 M17 H17 G17 rfl W17 2 rfl (Nat.le_of_ble_eq_true rfl)
  have N17 := Fr.snoc X17 N15 gn_b11
  refine Got.step st17 ?_
  show Got p e below s _ _ _ _ T17 (mkF m 20 #[.val (.int p0), .val (.int p1), .val (.int p2), .val (.int p3), .unset, .unset, .unset, .unset, .unset, .unset] [(.ref b11)])
  refine Got.step (T' := T17) (g' := (mkF m 25 #[.val (.int p0), .val (.int p1), .val (.int p2), .val (.int p3), .unset, .unset, .unset, .unset, .unset, .unset] [(.long (1000 : Int64)), (.int (3 : Int32)), (.ref b11), (.ref b11)])) (fun tq kt => ?_) ?_
  · show Steps p.tables e below (T17.setTop (mkF m 20 #[.val (.int p0), .val (.int p1), .val (.int p2), .val (.int p3), .unset, .unset, .unset, .unset, .unset, .unset] [(.ref b11)])) _
    refine XS.dup X17.here hx rfl (hb hby at_20) rfl rfl ?_
    show Steps p.tables e below (T17.setTop (mkF m 21 #[.val (.int p0), .val (.int p1), .val (.int p2), .val (.int p3), .unset, .unset, .unset, .unset, .unset, .unset] [(.ref b11), (.ref b11)])) _
    refine XS.iconst X17.here hx rfl (hb hby at_21) ?_
    show Steps p.tables e below (T17.setTop (mkF m 22 #[.val (.int p0), .val (.int p1), .val (.int p2), .val (.int p3), .unset, .unset, .unset, .unset, .unset, .unset] [(.int (3 : Int32)), (.ref b11), (.ref b11)])) _
    refine X17.ldc2J hx hown (mvT hZ (hw _ (List.mem_of_getElem? (i := 3) rfl))) rfl (hb hby at_22) ?_
    exact kt
  obtain ⟨cl19, Ar19, q19, S19, M19, H19, G19⟩ := (id V17)
  have hin19 : ¬ ((3 : Int32) < 0 ∨ cl19.slots.size ≤ ((3 : Int32)).toNatClampNeg) := inb_of S19 ⟨by decide, by decide⟩
  obtain ⟨T19, h19, X19, e19, W19, st19⟩ := stJ X17 hx hZ e17 Ar19 (j := (3 : Int32)) hin19 (g := (mkF m 25 #[.val (.int p0), .val (.int p1), .val (.int p2), .val (.int p3), .unset, .unset, .unset, .unset, .unset, .unset] [(.long (1000 : Int64)), (.int (3 : Int32)), (.ref b11), (.ref b11)])) rfl rfl (hb hby at_25)
  have Z0_20 : n0 ≤ h19.size := (Nat.le_trans Z0_18 (Keep.of_wr W19).1)
  have V19 : Arv Z h19 b11 k11 .long (11 : Int32) [(.long (1 : Int64)), (.long (10 : Int64)), (.long (100 : Int64)), (.long (1000 : Int64)), (.long (0 : Int64)), (.long (0 : Int64)), (.long (0 : Int64)), (.long (0 : Int64)), (.long (0 : Int64)), (.long (0 : Int64)), (.long (0 : Int64))] (.long (0 : Int64)) := Arv.set Ar19 q19 S19 M19 H19 G19 rfl W19 3 rfl (Nat.le_of_ble_eq_true rfl)
  have N19 := Fr.snoc X19 N17 gn_b11
  refine Got.step st19 ?_
  show Got p e below s _ _ _ _ T19 (mkF m 26 #[.val (.int p0), .val (.int p1), .val (.int p2), .val (.int p3), .unset, .unset, .unset, .unset, .unset, .unset] [(.ref b11)])
  refine Got.step (T' := T19) (g' := (mkF m 31 #[.val (.int p0), .val (.int p1), .val (.int p2), .val (.int p3), .unset, .unset, .unset, .unset, .unset, .unset] [(.long (10000 : Int64)), (.int (4 : Int32)), (.ref b11), (.ref b11)])) (fun tq kt => ?_) ?_
  · show Steps p.tables e below (T19.setTop (mkF m 26 #[.val (.int p0), .val (.int p1), .val (.int p2), .val (.int p3), .unset, .unset, .unset, .unset, .unset, .unset] [(.ref b11)])) _
    refine XS.dup X19.here hx rfl (hb hby at_26) rfl rfl ?_
    show Steps p.tables e below (T19.setTop (mkF m 27 #[.val (.int p0), .val (.int p1), .val (.int p2), .val (.int p3), .unset, .unset, .unset, .unset, .unset, .unset] [(.ref b11), (.ref b11)])) _
    refine XS.iconst X19.here hx rfl (hb hby at_27) ?_
    show Steps p.tables e below (T19.setTop (mkF m 28 #[.val (.int p0), .val (.int p1), .val (.int p2), .val (.int p3), .unset, .unset, .unset, .unset, .unset, .unset] [(.int (4 : Int32)), (.ref b11), (.ref b11)])) _
    refine X19.ldc2J hx hown (mvT hZ (hw _ (List.mem_of_getElem? (i := 4) rfl))) rfl (hb hby at_28) ?_
    exact kt
  obtain ⟨cl21, Ar21, q21, S21, M21, H21, G21⟩ := (id V19)
  have hin21 : ¬ ((4 : Int32) < 0 ∨ cl21.slots.size ≤ ((4 : Int32)).toNatClampNeg) := inb_of S21 ⟨by decide, by decide⟩
  obtain ⟨T21, h21, X21, e21, W21, st21⟩ := stJ X19 hx hZ e19 Ar21 (j := (4 : Int32)) hin21 (g := (mkF m 31 #[.val (.int p0), .val (.int p1), .val (.int p2), .val (.int p3), .unset, .unset, .unset, .unset, .unset, .unset] [(.long (10000 : Int64)), (.int (4 : Int32)), (.ref b11), (.ref b11)])) rfl rfl (hb hby at_31)
  have Z0_22 : n0 ≤ h21.size := (Nat.le_trans Z0_20 (Keep.of_wr W21).1)
  have V21 : Arv Z h21 b11 k11 .long (11 : Int32) [(.long (1 : Int64)), (.long (10 : Int64)), (.long (100 : Int64)), (.long (1000 : Int64)), (.long (10000 : Int64)), (.long (0 : Int64)), (.long (0 : Int64)), (.long (0 : Int64)), (.long (0 : Int64)), (.long (0 : Int64)), (.long (0 : Int64))] (.long (0 : Int64)) := Arv.set Ar21 q21 S21 M21 H21 G21 rfl W21 4 rfl (Nat.le_of_ble_eq_true rfl)
  have N21 := Fr.snoc X21 N19 gn_b11
  refine Got.step st21 ?_
  show Got p e below s _ _ _ _ T21 (mkF m 32 #[.val (.int p0), .val (.int p1), .val (.int p2), .val (.int p3), .unset, .unset, .unset, .unset, .unset, .unset] [(.ref b11)])
  refine Got.step (T' := T21) (g' := (mkF m 37 #[.val (.int p0), .val (.int p1), .val (.int p2), .val (.int p3), .unset, .unset, .unset, .unset, .unset, .unset] [(.long (100000 : Int64)), (.int (5 : Int32)), (.ref b11), (.ref b11)])) (fun tq kt => ?_) ?_
  · show Steps p.tables e below (T21.setTop (mkF m 32 #[.val (.int p0), .val (.int p1), .val (.int p2), .val (.int p3), .unset, .unset, .unset, .unset, .unset, .unset] [(.ref b11)])) _
    refine XS.dup X21.here hx rfl (hb hby at_32) rfl rfl ?_
    show Steps p.tables e below (T21.setTop (mkF m 33 #[.val (.int p0), .val (.int p1), .val (.int p2), .val (.int p3), .unset, .unset, .unset, .unset, .unset, .unset] [(.ref b11), (.ref b11)])) _
    refine XS.iconst X21.here hx rfl (hb hby at_33) ?_
    show Steps p.tables e below (T21.setTop (mkF m 34 #[.val (.int p0), .val (.int p1), .val (.int p2), .val (.int p3), .unset, .unset, .unset, .unset, .unset, .unset] [(.int (5 : Int32)), (.ref b11), (.ref b11)])) _
    refine X21.ldc2J hx hown (mvT hZ (hw _ (List.mem_of_getElem? (i := 5) rfl))) rfl (hb hby at_34) ?_
    exact kt
  obtain ⟨cl23, Ar23, q23, S23, M23, H23, G23⟩ := (id V21)
  have hin23 : ¬ ((5 : Int32) < 0 ∨ cl23.slots.size ≤ ((5 : Int32)).toNatClampNeg) := inb_of S23 ⟨by decide, by decide⟩
  obtain ⟨T23, h23, X23, e23, W23, st23⟩ := stJ X21 hx hZ e21 Ar23 (j := (5 : Int32)) hin23 (g := (mkF m 37 #[.val (.int p0), .val (.int p1), .val (.int p2), .val (.int p3), .unset, .unset, .unset, .unset, .unset, .unset] [(.long (100000 : Int64)), (.int (5 : Int32)), (.ref b11), (.ref b11)])) rfl rfl (hb hby at_37)
  have Z0_24 : n0 ≤ h23.size := (Nat.le_trans Z0_22 (Keep.of_wr W23).1)
  have V23 : Arv Z h23 b11 k11 .long (11 : Int32) [(.long (1 : Int64)), (.long (10 : Int64)), (.long (100 : Int64)), (.long (1000 : Int64)), (.long (10000 : Int64)), (.long (100000 : Int64)), (.long (0 : Int64)), (.long (0 : Int64)), (.long (0 : Int64)), (.long (0 : Int64)), (.long (0 : Int64))] (.long (0 : Int64)) := Arv.set Ar23 q23 S23 M23 H23 G23 rfl W23 5 rfl (Nat.le_of_ble_eq_true rfl)
  have N23 := Fr.snoc X23 N21 gn_b11
  refine Got.step st23 ?_
  show Got p e below s _ _ _ _ T23 (mkF m 38 #[.val (.int p0), .val (.int p1), .val (.int p2), .val (.int p3), .unset, .unset, .unset, .unset, .unset, .unset] [(.ref b11)])
  refine Got.step (T' := T23) (g' := (mkF m 44 #[.val (.int p0), .val (.int p1), .val (.int p2), .val (.int p3), .unset, .unset, .unset, .unset, .unset, .unset] [(.long (1000000 : Int64)), (.int (6 : Int32)), (.ref b11), (.ref b11)])) (fun tq kt => ?_) ?_
  · show Steps p.tables e below (T23.setTop (mkF m 38 #[.val (.int p0), .val (.int p1), .val (.int p2), .val (.int p3), .unset, .unset, .unset, .unset, .unset, .unset] [(.ref b11)])) _
    refine XS.dup X23.here hx rfl (hb hby at_38) rfl rfl ?_
    show Steps p.tables e below (T23.setTop (mkF m 39 #[.val (.int p0), .val (.int p1), .val (.int p2), .val (.int p3), .unset, .unset, .unset, .unset, .unset, .unset] [(.ref b11), (.ref b11)])) _
    refine XS.bipush X23.here hx rfl (hb hby at_39) ?_
    show Steps p.tables e below (T23.setTop (mkF m 41 #[.val (.int p0), .val (.int p1), .val (.int p2), .val (.int p3), .unset, .unset, .unset, .unset, .unset, .unset] [(.int (6 : Int32)), (.ref b11), (.ref b11)])) _
    refine X23.ldc2J hx hown (mvT hZ (hw _ (List.mem_of_getElem? (i := 6) rfl))) rfl (hb hby at_41) ?_
    exact kt
  obtain ⟨cl25, Ar25, q25, S25, M25, H25, G25⟩ := (id V23)
  have hin25 : ¬ ((6 : Int32) < 0 ∨ cl25.slots.size ≤ ((6 : Int32)).toNatClampNeg) := inb_of S25 ⟨by decide, by decide⟩
  obtain ⟨T25, h25, X25, e25, W25, st25⟩ := stJ X23 hx hZ e23 Ar25 (j := (6 : Int32)) hin25 (g := (mkF m 44 #[.val (.int p0), .val (.int p1), .val (.int p2), .val (.int p3), .unset, .unset, .unset, .unset, .unset, .unset] [(.long (1000000 : Int64)), (.int (6 : Int32)), (.ref b11), (.ref b11)])) rfl rfl (hb hby at_44)
  have Z0_26 : n0 ≤ h25.size := (Nat.le_trans Z0_24 (Keep.of_wr W25).1)
  have V25 : Arv Z h25 b11 k11 .long (11 : Int32) [(.long (1 : Int64)), (.long (10 : Int64)), (.long (100 : Int64)), (.long (1000 : Int64)), (.long (10000 : Int64)), (.long (100000 : Int64)), (.long (1000000 : Int64)), (.long (0 : Int64)), (.long (0 : Int64)), (.long (0 : Int64)), (.long (0 : Int64))] (.long (0 : Int64)) := Arv.set Ar25 q25 S25 M25 H25 G25 rfl W25 6 rfl (Nat.le_of_ble_eq_true rfl)
  have N25 := Fr.snoc X25 N23 gn_b11
  refine Got.step st25 ?_
  show Got p e below s _ _ _ _ T25 (mkF m 45 #[.val (.int p0), .val (.int p1), .val (.int p2), .val (.int p3), .unset, .unset, .unset, .unset, .unset, .unset] [(.ref b11)])
  refine Got.step (T' := T25) (g' := (mkF m 51 #[.val (.int p0), .val (.int p1), .val (.int p2), .val (.int p3), .unset, .unset, .unset, .unset, .unset, .unset] [(.long (10000000 : Int64)), (.int (7 : Int32)), (.ref b11), (.ref b11)])) (fun tq kt => ?_) ?_
  · show Steps p.tables e below (T25.setTop (mkF m 45 #[.val (.int p0), .val (.int p1), .val (.int p2), .val (.int p3), .unset, .unset, .unset, .unset, .unset, .unset] [(.ref b11)])) _
    refine XS.dup X25.here hx rfl (hb hby at_45) rfl rfl ?_
    show Steps p.tables e below (T25.setTop (mkF m 46 #[.val (.int p0), .val (.int p1), .val (.int p2), .val (.int p3), .unset, .unset, .unset, .unset, .unset, .unset] [(.ref b11), (.ref b11)])) _
    refine XS.bipush X25.here hx rfl (hb hby at_46) ?_
    show Steps p.tables e below (T25.setTop (mkF m 48 #[.val (.int p0), .val (.int p1), .val (.int p2), .val (.int p3), .unset, .unset, .unset, .unset, .unset, .unset] [(.int (7 : Int32)), (.ref b11), (.ref b11)])) _
    refine X25.ldc2J hx hown (mvT hZ (hw _ (List.mem_of_getElem? (i := 7) rfl))) rfl (hb hby at_48) ?_
    exact kt
  obtain ⟨cl27, Ar27, q27, S27, M27, H27, G27⟩ := (id V25)
  have hin27 : ¬ ((7 : Int32) < 0 ∨ cl27.slots.size ≤ ((7 : Int32)).toNatClampNeg) := inb_of S27 ⟨by decide, by decide⟩
  obtain ⟨T27, h27, X27, e27, W27, st27⟩ := stJ X25 hx hZ e25 Ar27 (j := (7 : Int32)) hin27 (g := (mkF m 51 #[.val (.int p0), .val (.int p1), .val (.int p2), .val (.int p3), .unset, .unset, .unset, .unset, .unset, .unset] [(.long (10000000 : Int64)), (.int (7 : Int32)), (.ref b11), (.ref b11)])) rfl rfl (hb hby at_51)
  have Z0_28 : n0 ≤ h27.size := (Nat.le_trans Z0_26 (Keep.of_wr W27).1)
  have V27 : Arv Z h27 b11 k11 .long (11 : Int32) [(.long (1 : Int64)), (.long (10 : Int64)), (.long (100 : Int64)), (.long (1000 : Int64)), (.long (10000 : Int64)), (.long (100000 : Int64)), (.long (1000000 : Int64)), (.long (10000000 : Int64)), (.long (0 : Int64)), (.long (0 : Int64)), (.long (0 : Int64))] (.long (0 : Int64)) := Arv.set Ar27 q27 S27 M27 H27 G27 rfl W27 7 rfl (Nat.le_of_ble_eq_true rfl)
  have N27 := Fr.snoc X27 N25 gn_b11
  refine Got.step st27 ?_
  show Got p e below s _ _ _ _ T27 (mkF m 52 #[.val (.int p0), .val (.int p1), .val (.int p2), .val (.int p3), .unset, .unset, .unset, .unset, .unset, .unset] [(.ref b11)])
  refine Got.step (T' := T27) (g' := (mkF m 58 #[.val (.int p0), .val (.int p1), .val (.int p2), .val (.int p3), .unset, .unset, .unset, .unset, .unset, .unset] [(.long (100000000 : Int64)), (.int (8 : Int32)), (.ref b11), (.ref b11)])) (fun tq kt => ?_) ?_
  · show Steps p.tables e below (T27.setTop (mkF m 52 #[.val (.int p0), .val (.int p1), .val (.int p2), .val (.int p3), .unset, .unset, .unset, .unset, .unset, .unset] [(.ref b11)])) _
    refine XS.dup X27.here hx rfl (hb hby at_52) rfl rfl ?_
    show Steps p.tables e below (T27.setTop (mkF m 53 #[.val (.int p0), .val (.int p1), .val (.int p2), .val (.int p3), .unset, .unset, .unset, .unset, .unset, .unset] [(.ref b11), (.ref b11)])) _
    refine XS.bipush X27.here hx rfl (hb hby at_53) ?_
    show Steps p.tables e below (T27.setTop (mkF m 55 #[.val (.int p0), .val (.int p1), .val (.int p2), .val (.int p3), .unset, .unset, .unset, .unset, .unset, .unset] [(.int (8 : Int32)), (.ref b11), (.ref b11)])) _
    refine X27.ldc2J hx hown (mvT hZ (hw _ (List.mem_of_getElem? (i := 8) rfl))) rfl (hb hby at_55) ?_
    exact kt
  obtain ⟨cl29, Ar29, q29, S29, M29, H29, G29⟩ := (id V27)
  have hin29 : ¬ ((8 : Int32) < 0 ∨ cl29.slots.size ≤ ((8 : Int32)).toNatClampNeg) := inb_of S29 ⟨by decide, by decide⟩
  obtain ⟨T29, h29, X29, e29, W29, st29⟩ := stJ X27 hx hZ e27 Ar29 (j := (8 : Int32)) hin29 (g := (mkF m 58 #[.val (.int p0), .val (.int p1), .val (.int p2), .val (.int p3), .unset, .unset, .unset, .unset, .unset, .unset] [(.long (100000000 : Int64)), (.int (8 : Int32)), (.ref b11), (.ref b11)])) rfl rfl (hb hby at_58)
  have Z0_30 : n0 ≤ h29.size := (Nat.le_trans Z0_28 (Keep.of_wr W29).1)
  have V29 : Arv Z h29 b11 k11 .long (11 : Int32) [(.long (1 : Int64)), (.long (10 : Int64)), (.long (100 : Int64)), (.long (1000 : Int64)), (.long (10000 : Int64)), (.long (100000 : Int64)), (.long (1000000 : Int64)), (.long (10000000 : Int64)), (.long (100000000 : Int64)), (.long (0 : Int64)), (.long (0 : Int64))] (.long (0 : Int64)) := Arv.set Ar29 q29 S29 M29 H29 G29 rfl W29 8 rfl (Nat.le_of_ble_eq_true rfl)
  have N29 := Fr.snoc X29 N27 gn_b11
  refine Got.step st29 ?_
  show Got p e below s _ _ _ _ T29 (mkF m 59 #[.val (.int p0), .val (.int p1), .val (.int p2), .val (.int p3), .unset, .unset, .unset, .unset, .unset, .unset] [(.ref b11)])
  refine Got.step (T' := T29) (g' := (mkF m 65 #[.val (.int p0), .val (.int p1), .val (.int p2), .val (.int p3), .unset, .unset, .unset, .unset, .unset, .unset] [(.long (1000000000 : Int64)), (.int (9 : Int32)), (.ref b11), (.ref b11)])) (fun tq kt => ?_) ?_
  · show Steps p.tables e below (T29.setTop (mkF m 59 #[.val (.int p0), .val (.int p1), .val (.int p2), .val (.int p3), .unset, .unset, .unset, .unset, .unset, .unset] [(.ref b11)])) _
    refine XS.dup X29.here hx rfl (hb hby at_59) rfl rfl ?_
    show Steps p.tables e below (T29.setTop (mkF m 60 #[.val (.int p0), .val (.int p1), .val (.int p2), .val (.int p3), .unset, .unset, .unset, .unset, .unset, .unset] [(.ref b11), (.ref b11)])) _
    refine XS.bipush X29.here hx rfl (hb hby at_60) ?_
    show Steps p.tables e below (T29.setTop (mkF m 62 #[.val (.int p0), .val (.int p1), .val (.int p2), .val (.int p3), .unset, .unset, .unset, .unset, .unset, .unset] [(.int (9 : Int32)), (.ref b11), (.ref b11)])) _
    refine X29.ldc2J hx hown (mvT hZ (hw _ (List.mem_of_getElem? (i := 9) rfl))) rfl (hb hby at_62) ?_
    exact kt
  obtain ⟨cl31, Ar31, q31, S31, M31, H31, G31⟩ := (id V29)
  have hin31 : ¬ ((9 : Int32) < 0 ∨ cl31.slots.size ≤ ((9 : Int32)).toNatClampNeg) := inb_of S31 ⟨by decide, by decide⟩
  obtain ⟨T31, h31, X31, e31, W31, st31⟩ := stJ X29 hx hZ e29 Ar31 (j := (9 : Int32)) hin31 (g := (mkF m 65 #[.val (.int p0), .val (.int p1), .val (.int p2), .val (.int p3), .unset, .unset, .unset, .unset, .unset, .unset] [(.long (1000000000 : Int64)), (.int (9 : Int32)), (.ref b11), (.ref b11)])) rfl rfl (hb hby at_65)
  have Z0_32 : n0 ≤ h31.size := (Nat.le_trans Z0_30 (Keep.of_wr W31).1)
  have V31 : Arv Z h31 b11 k11 .long (11 : Int32) [(.long (1 : Int64)), (.long (10 : Int64)), (.long (100 : Int64)), (.long (1000 : Int64)), (.long (10000 : Int64)), (.long (100000 : Int64)), (.long (1000000 : Int64)), (.long (10000000 : Int64)), (.long (100000000 : Int64)), (.long (1000000000 : Int64)), (.long (0 : Int64))] (.long (0 : Int64)) := Arv.set Ar31 q31 S31 M31 H31 G31 rfl W31 9 rfl (Nat.le_of_ble_eq_true rfl)
  have N31 := Fr.snoc X31 N29 gn_b11
  refine Got.step st31 ?_
  show Got p e below s _ _ _ _ T31 (mkF m 66 #[.val (.int p0), .val (.int p1), .val (.int p2), .val (.int p3), .unset, .unset, .unset, .unset, .unset, .unset] [(.ref b11)])
  refine Got.step (T' := T31) (g' := (mkF m 72 #[.val (.int p0), .val (.int p1), .val (.int p2), .val (.int p3), .unset, .unset, .unset, .unset, .unset, .unset] [(.long (10000000000 : Int64)), (.int (10 : Int32)), (.ref b11), (.ref b11)])) (fun tq kt => ?_) ?_
  · show Steps p.tables e below (T31.setTop (mkF m 66 #[.val (.int p0), .val (.int p1), .val (.int p2), .val (.int p3), .unset, .unset, .unset, .unset, .unset, .unset] [(.ref b11)])) _
    refine XS.dup X31.here hx rfl (hb hby at_66) rfl rfl ?_
    show Steps p.tables e below (T31.setTop (mkF m 67 #[.val (.int p0), .val (.int p1), .val (.int p2), .val (.int p3), .unset, .unset, .unset, .unset, .unset, .unset] [(.ref b11), (.ref b11)])) _
    refine XS.bipush X31.here hx rfl (hb hby at_67) ?_
    show Steps p.tables e below (T31.setTop (mkF m 69 #[.val (.int p0), .val (.int p1), .val (.int p2), .val (.int p3), .unset, .unset, .unset, .unset, .unset, .unset] [(.int (10 : Int32)), (.ref b11), (.ref b11)])) _
    refine X31.ldc2J hx hown (mvT hZ (hw _ (List.mem_of_getElem? (i := 10) rfl))) rfl (hb hby at_69) ?_
    exact kt
  obtain ⟨cl33, Ar33, q33, S33, M33, H33, G33⟩ := (id V31)
  have hin33 : ¬ ((10 : Int32) < 0 ∨ cl33.slots.size ≤ ((10 : Int32)).toNatClampNeg) := inb_of S33 ⟨by decide, by decide⟩
  obtain ⟨T33, h33, X33, e33, W33, st33⟩ := stJ X31 hx hZ e31 Ar33 (j := (10 : Int32)) hin33 (g := (mkF m 72 #[.val (.int p0), .val (.int p1), .val (.int p2), .val (.int p3), .unset, .unset, .unset, .unset, .unset, .unset] [(.long (10000000000 : Int64)), (.int (10 : Int32)), (.ref b11), (.ref b11)])) rfl rfl (hb hby at_72)
  have Z0_34 : n0 ≤ h33.size := (Nat.le_trans Z0_32 (Keep.of_wr W33).1)
  have V33 : Arv Z h33 b11 k11 .long (11 : Int32) [(.long (1 : Int64)), (.long (10 : Int64)), (.long (100 : Int64)), (.long (1000 : Int64)), (.long (10000 : Int64)), (.long (100000 : Int64)), (.long (1000000 : Int64)), (.long (10000000 : Int64)), (.long (100000000 : Int64)), (.long (1000000000 : Int64)), (.long (10000000000 : Int64))] (.long (0 : Int64)) := Arv.set Ar33 q33 S33 M33 H33 G33 rfl W33 10 rfl (Nat.le_of_ble_eq_true rfl)
  have N33 := Fr.snoc X33 N31 gn_b11
  refine Got.step st33 ?_
  show Got p e below s _ _ _ _ T33 (mkF m 73 #[.val (.int p0), .val (.int p1), .val (.int p2), .val (.int p3), .unset, .unset, .unset, .unset, .unset, .unset] [(.ref b11)])
  refine Got.step (T' := T33) (g' := (mkF m 84 #[.val (.int p0), .val (.int p1), .val (.int p2), .val (.int p3), .val (.ref b11), .val (.int ((p2 &&& (2147483647 : Int32)) % (11 : Int32))), .unset, .unset, .unset, .unset] [])) (fun tq kt => ?_) ?_
  · show Steps p.tables e below (T33.setTop (mkF m 73 #[.val (.int p0), .val (.int p1), .val (.int p2), .val (.int p3), .unset, .unset, .unset, .unset, .unset, .unset] [(.ref b11)])) _
    refine XS.astore X33.here hx rfl (hb hby at_73) rfl rfl (l' := #[.val (.int p0), .val (.int p1), .val (.int p2), .val (.int p3), .val (.ref b11), .unset, .unset, .unset, .unset, .unset]) rfl ?_
    show Steps p.tables e below (T33.setTop (mkF m 75 #[.val (.int p0), .val (.int p1), .val (.int p2), .val (.int p3), .val (.ref b11), .unset, .unset, .unset, .unset, .unset] [])) _
    refine XS.iloadN X33.here hx rfl (hb hby at_75) rfl ?_
    show Steps p.tables e below (T33.setTop (mkF m 76 #[.val (.int p0), .val (.int p1), .val (.int p2), .val (.int p3), .val (.ref b11), .unset, .unset, .unset, .unset, .unset] [(.int p2)])) _
    refine X33.ldcI hx hown (mvT hZ (hw _ (List.mem_of_getElem? (i := 11) rfl))) rfl (hb hby at_76) ?_
    show Steps p.tables e below (T33.setTop (mkF m 78 #[.val (.int p0), .val (.int p1), .val (.int p2), .val (.int p3), .val (.ref b11), .unset, .unset, .unset, .unset, .unset] [(.int (2147483647 : Int32)), (.int p2)])) _
    refine XS.iand X33.here hx rfl (hb hby at_78) rfl ?_
    show Steps p.tables e below (T33.setTop (mkF m 79 #[.val (.int p0), .val (.int p1), .val (.int p2), .val (.int p3), .val (.ref b11), .unset, .unset, .unset, .unset, .unset] [(.int (p2 &&& (2147483647 : Int32)))])) _
    refine XS.bipush X33.here hx rfl (hb hby at_79) ?_
    show Steps p.tables e below (T33.setTop (mkF m 81 #[.val (.int p0), .val (.int p1), .val (.int p2), .val (.int p3), .val (.ref b11), .unset, .unset, .unset, .unset, .unset] [(.int (11 : Int32)), (.int (p2 &&& (2147483647 : Int32)))])) _
    refine iremM X33 hx rfl (hb hby at_81) rfl (by decide) ?_
    show Steps p.tables e below (T33.setTop (mkF m 82 #[.val (.int p0), .val (.int p1), .val (.int p2), .val (.int p3), .val (.ref b11), .unset, .unset, .unset, .unset, .unset] [(.int ((p2 &&& (2147483647 : Int32)) % (11 : Int32)))])) _
    refine XS.istore X33.here hx rfl (hb hby at_82) rfl (l' := #[.val (.int p0), .val (.int p1), .val (.int p2), .val (.int p3), .val (.ref b11), .val (.int ((p2 &&& (2147483647 : Int32)) % (11 : Int32))), .unset, .unset, .unset, .unset]) rfl ?_
    exact kt
  obtain ⟨d, hd, ed⟩ := own_dd p2
  rw [ed]
  show Got p e below s _ _ _ _ T33 (mkF m 84 #[.val (.int p0), .val (.int p1), .val (.int p2), .val (.int p3), .val (.ref b11), .val (.int (Int32.ofNat d)), .unset, .unset, .unset, .unset] [])
  have Vpw : Arv Z h33 b11 k11 .long (11 : Int32) (pw.map Value.long) (.long (0 : Int64)) := V33
  refine Got.step (T' := T33) (g' := (mkF m 96 #[.val (.int p0), .val (.int p1), .val (.int p2), .val (.int p3), .val (.ref b11), .val (.int (Int32.ofNat d)), .val (.int ((p0 &&& (2147483647 : Int32)) % ((17 : Int32) - (Int32.ofNat d)))), .unset, .unset, .unset] [])) (fun tq kt => ?_) ?_
  · show Steps p.tables e below (T33.setTop (mkF m 84 #[.val (.int p0), .val (.int p1), .val (.int p2), .val (.int p3), .val (.ref b11), .val (.int (Int32.ofNat d)), .unset, .unset, .unset, .unset] [])) _
    refine XS.iloadN X33.here hx rfl (hb hby at_84) rfl ?_
    show Steps p.tables e below (T33.setTop (mkF m 85 #[.val (.int p0), .val (.int p1), .val (.int p2), .val (.int p3), .val (.ref b11), .val (.int (Int32.ofNat d)), .unset, .unset, .unset, .unset] [(.int p0)])) _
    refine X33.ldcI hx hown (mvT hZ (hw _ (List.mem_of_getElem? (i := 11) rfl))) rfl (hb hby at_85) ?_
    show Steps p.tables e below (T33.setTop (mkF m 87 #[.val (.int p0), .val (.int p1), .val (.int p2), .val (.int p3), .val (.ref b11), .val (.int (Int32.ofNat d)), .unset, .unset, .unset, .unset] [(.int (2147483647 : Int32)), (.int p0)])) _
    refine XS.iand X33.here hx rfl (hb hby at_87) rfl ?_
    show Steps p.tables e below (T33.setTop (mkF m 88 #[.val (.int p0), .val (.int p1), .val (.int p2), .val (.int p3), .val (.ref b11), .val (.int (Int32.ofNat d)), .unset, .unset, .unset, .unset] [(.int (p0 &&& (2147483647 : Int32)))])) _
    refine XS.bipush X33.here hx rfl (hb hby at_88) ?_
    show Steps p.tables e below (T33.setTop (mkF m 90 #[.val (.int p0), .val (.int p1), .val (.int p2), .val (.int p3), .val (.ref b11), .val (.int (Int32.ofNat d)), .unset, .unset, .unset, .unset] [(.int (17 : Int32)), (.int (p0 &&& (2147483647 : Int32)))])) _
    refine XS.iload X33.here hx rfl (hb hby at_90) rfl ?_
    show Steps p.tables e below (T33.setTop (mkF m 92 #[.val (.int p0), .val (.int p1), .val (.int p2), .val (.int p3), .val (.ref b11), .val (.int (Int32.ofNat d)), .unset, .unset, .unset, .unset] [(.int (Int32.ofNat d)), (.int (17 : Int32)), (.int (p0 &&& (2147483647 : Int32)))])) _
    refine XS.isub X33.here hx rfl (hb hby at_92) rfl ?_
    show Steps p.tables e below (T33.setTop (mkF m 93 #[.val (.int p0), .val (.int p1), .val (.int p2), .val (.int p3), .val (.ref b11), .val (.int (Int32.ofNat d)), .unset, .unset, .unset, .unset] [(.int ((17 : Int32) - (Int32.ofNat d))), (.int (p0 &&& (2147483647 : Int32)))])) _
    refine iremM X33 hx rfl (hb hby at_93) rfl (own_nz17 hd) ?_
    show Steps p.tables e below (T33.setTop (mkF m 94 #[.val (.int p0), .val (.int p1), .val (.int p2), .val (.int p3), .val (.ref b11), .val (.int (Int32.ofNat d)), .unset, .unset, .unset, .unset] [(.int ((p0 &&& (2147483647 : Int32)) % ((17 : Int32) - (Int32.ofNat d))))])) _
    refine XS.istore X33.here hx rfl (hb hby at_94) rfl (l' := #[.val (.int p0), .val (.int p1), .val (.int p2), .val (.int p3), .val (.ref b11), .val (.int (Int32.ofNat d)), .val (.int ((p0 &&& (2147483647 : Int32)) % ((17 : Int32) - (Int32.ofNat d)))), .unset, .unset, .unset]) rfl ?_
    exact kt
  obtain ⟨sn, hsd, es⟩ := own_sn p0 hd
  rw [es]
  show Got p e below s _ _ _ _ T33 (mkF m 96 #[.val (.int p0), .val (.int p1), .val (.int p2), .val (.int p3), .val (.ref b11), .val (.int (Int32.ofNat d)), .val (.int (Int32.ofNat sn)), .unset, .unset, .unset] [])
  have hsd2 : sn + d ≤ 16 ∧ d ≤ 10 := ⟨hsd, by omega⟩
  refine Got.step (T' := T33) (g' := (mkF m 105 #[.val (.int p0), .val (.int p1), .val (.int p2), .val (.int p3), .val (.ref b11), .val (.int (Int32.ofNat d)), .val (.int (Int32.ofNat sn)), .unset, .unset, .unset] [(.int (Int32.ofNat d)), (.ref b11), (.long ((p1 &&& (2147483647 : Int32)).toInt64))])) (fun tq kt => ?_) ?_
  · show Steps p.tables e below (T33.setTop (mkF m 96 #[.val (.int p0), .val (.int p1), .val (.int p2), .val (.int p3), .val (.ref b11), .val (.int (Int32.ofNat d)), .val (.int (Int32.ofNat sn)), .unset, .unset, .unset] [])) _
    refine XS.iloadN X33.here hx rfl (hb hby at_96) rfl ?_
    show Steps p.tables e below (T33.setTop (mkF m 97 #[.val (.int p0), .val (.int p1), .val (.int p2), .val (.int p3), .val (.ref b11), .val (.int (Int32.ofNat d)), .val (.int (Int32.ofNat sn)), .unset, .unset, .unset] [(.int p1)])) _
    refine X33.ldcI hx hown (mvT hZ (hw _ (List.mem_of_getElem? (i := 11) rfl))) rfl (hb hby at_97) ?_
    show Steps p.tables e below (T33.setTop (mkF m 99 #[.val (.int p0), .val (.int p1), .val (.int p2), .val (.int p3), .val (.ref b11), .val (.int (Int32.ofNat d)), .val (.int (Int32.ofNat sn)), .unset, .unset, .unset] [(.int (2147483647 : Int32)), (.int p1)])) _
    refine XS.iand X33.here hx rfl (hb hby at_99) rfl ?_
    show Steps p.tables e below (T33.setTop (mkF m 100 #[.val (.int p0), .val (.int p1), .val (.int p2), .val (.int p3), .val (.ref b11), .val (.int (Int32.ofNat d)), .val (.int (Int32.ofNat sn)), .unset, .unset, .unset] [(.int (p1 &&& (2147483647 : Int32)))])) _
    refine XS.i2l X33.here hx rfl (hb hby at_100) rfl ?_
    show Steps p.tables e below (T33.setTop (mkF m 101 #[.val (.int p0), .val (.int p1), .val (.int p2), .val (.int p3), .val (.ref b11), .val (.int (Int32.ofNat d)), .val (.int (Int32.ofNat sn)), .unset, .unset, .unset] [(.long ((p1 &&& (2147483647 : Int32)).toInt64))])) _
    refine XS.aload X33.here hx rfl (hb hby at_101) rfl rfl ?_
    show Steps p.tables e below (T33.setTop (mkF m 103 #[.val (.int p0), .val (.int p1), .val (.int p2), .val (.int p3), .val (.ref b11), .val (.int (Int32.ofNat d)), .val (.int (Int32.ofNat sn)), .unset, .unset, .unset] [(.ref b11), (.long ((p1 &&& (2147483647 : Int32)).toInt64))])) _
    refine XS.iload X33.here hx rfl (hb hby at_103) rfl ?_
    exact kt
  obtain ⟨cl35, Ar35, q35, S35, M35, H35, G35⟩ := (id Vpw)
  have hin35 : ¬ ((Int32.ofNat d) < 0 ∨ cl35.slots.size ≤ ((Int32.ofNat d)).toNatClampNeg) := inb_of S35 (own_in11 hd)
  refine Got.step (T' := T33) (fun tq kt => X33.laload hx (j := (Int32.ofNat d)) (v := (.long (pw.getD ((Int32.ofNat d)).toNatClampNeg 0))) (by rw [e33]; exact Ar35.1) (State.isArrayOf_alike hZ.alike Ar35.2.1) Ar35.2.2 hin35 (H35.at hin35 (own_getL _ _)) (g := (mkF m 105 #[.val (.int p0), .val (.int p1), .val (.int p2), .val (.int p3), .val (.ref b11), .val (.int (Int32.ofNat d)), .val (.int (Int32.ofNat sn)), .unset, .unset, .unset] [(.int (Int32.ofNat d)), (.ref b11), (.long ((p1 &&& (2147483647 : Int32)).toInt64))])) rfl rfl (hb hby at_105) tq kt) ?_
  show Got p e below s _ _ _ _ T33 (mkF m 106 #[.val (.int p0), .val (.int p1), .val (.int p2), .val (.int p3), .val (.ref b11), .val (.int (Int32.ofNat d)), .val (.int (Int32.ofNat sn)), .unset, .unset, .unset] [(.long (pw.getD ((Int32.ofNat d)).toNatClampNeg 0)), (.long ((p1 &&& (2147483647 : Int32)).toInt64))])
  refine Got.step (T' := T33) (g' := (mkF m 110 #[.val (.int p0), .val (.int p1), .val (.int p2), .val (.int p3), .val (.ref b11), .val (.int (Int32.ofNat d)), .val (.int (Int32.ofNat sn)), .val (.int ((((p1 &&& (2147483647 : Int32)).toInt64) % (pw.getD ((Int32.ofNat d)).toNatClampNeg 0)).toInt32)), .unset, .unset] [])) (fun tq kt => ?_) ?_
  · show Steps p.tables e below (T33.setTop (mkF m 106 #[.val (.int p0), .val (.int p1), .val (.int p2), .val (.int p3), .val (.ref b11), .val (.int (Int32.ofNat d)), .val (.int (Int32.ofNat sn)), .unset, .unset, .unset] [(.long (pw.getD ((Int32.ofNat d)).toNatClampNeg 0)), (.long ((p1 &&& (2147483647 : Int32)).toInt64))])) _
    refine remJ X33 hx rfl (hb hby at_106) rfl (own_nzp hd) ?_
    show Steps p.tables e below (T33.setTop (mkF m 107 #[.val (.int p0), .val (.int p1), .val (.int p2), .val (.int p3), .val (.ref b11), .val (.int (Int32.ofNat d)), .val (.int (Int32.ofNat sn)), .unset, .unset, .unset] [(.long (((p1 &&& (2147483647 : Int32)).toInt64) % (pw.getD ((Int32.ofNat d)).toNatClampNeg 0)))])) _
    refine XS.l2i X33.here hx rfl (hb hby at_107) rfl ?_
    show Steps p.tables e below (T33.setTop (mkF m 108 #[.val (.int p0), .val (.int p1), .val (.int p2), .val (.int p3), .val (.ref b11), .val (.int (Int32.ofNat d)), .val (.int (Int32.ofNat sn)), .unset, .unset, .unset] [(.int ((((p1 &&& (2147483647 : Int32)).toInt64) % (pw.getD ((Int32.ofNat d)).toNatClampNeg 0)).toInt32))])) _
    refine XS.istore X33.here hx rfl (hb hby at_108) rfl (l' := #[.val (.int p0), .val (.int p1), .val (.int p2), .val (.int p3), .val (.ref b11), .val (.int (Int32.ofNat d)), .val (.int (Int32.ofNat sn)), .val (.int ((((p1 &&& (2147483647 : Int32)).toInt64) % (pw.getD ((Int32.ofNat d)).toNatClampNeg 0)).toInt32)), .unset, .unset]) rfl ?_
    exact kt
  obtain ⟨vv, hvv⟩ : ∃ v : Int32, v = ((((p1 &&& (2147483647 : Int32)).toInt64) % (pw.getD ((Int32.ofNat d)).toNatClampNeg 0)).toInt32) := ⟨_, rfl⟩
  rw [← hvv]
  show Got p e below s _ _ _ _ T33 (mkF m 110 #[.val (.int p0), .val (.int p1), .val (.int p2), .val (.int p3), .val (.ref b11), .val (.int (Int32.ofNat d)), .val (.int (Int32.ofNat sn)), .val (.int vv), .unset, .unset] [])
  refine Got.step (T' := T33) (g' := (mkF m 116 #[.val (.int p0), .val (.int p1), .val (.int p2), .val (.int p3), .val (.ref b11), .val (.int (Int32.ofNat d)), .val (.int (Int32.ofNat sn)), .val (.int vv), .val (.int (p3.toInt8.toInt32)), .unset] [(.int (16 : Int32))])) (fun tq kt => ?_) ?_
  · show Steps p.tables e below (T33.setTop (mkF m 110 #[.val (.int p0), .val (.int p1), .val (.int p2), .val (.int p3), .val (.ref b11), .val (.int (Int32.ofNat d)), .val (.int (Int32.ofNat sn)), .val (.int vv), .unset, .unset] [])) _
    refine XS.iloadN X33.here hx rfl (hb hby at_110) rfl ?_
    show Steps p.tables e below (T33.setTop (mkF m 111 #[.val (.int p0), .val (.int p1), .val (.int p2), .val (.int p3), .val (.ref b11), .val (.int (Int32.ofNat d)), .val (.int (Int32.ofNat sn)), .val (.int vv), .unset, .unset] [(.int p3)])) _
    refine XS.i2b X33.here hx rfl (hb hby at_111) rfl ?_
    show Steps p.tables e below (T33.setTop (mkF m 112 #[.val (.int p0), .val (.int p1), .val (.int p2), .val (.int p3), .val (.ref b11), .val (.int (Int32.ofNat d)), .val (.int (Int32.ofNat sn)), .val (.int vv), .unset, .unset] [(.int (p3.toInt8.toInt32))])) _
    refine XS.istore X33.here hx rfl (hb hby at_112) rfl (l' := #[.val (.int p0), .val (.int p1), .val (.int p2), .val (.int p3), .val (.ref b11), .val (.int (Int32.ofNat d)), .val (.int (Int32.ofNat sn)), .val (.int vv), .val (.int (p3.toInt8.toInt32)), .unset]) rfl ?_
    show Steps p.tables e below (T33.setTop (mkF m 114 #[.val (.int p0), .val (.int p1), .val (.int p2), .val (.int p3), .val (.ref b11), .val (.int (Int32.ofNat d)), .val (.int (Int32.ofNat sn)), .val (.int vv), .val (.int (p3.toInt8.toInt32)), .unset] [])) _
    refine XS.bipush X33.here hx rfl (hb hby at_114) ?_
    exact kt
  obtain ⟨T36, h36, k36, X36, e36, E36, A36, st36⟩ := newP X33 hx hZ (hw _ (List.mem_of_getElem? (i := 12) rfl)) e33 (g := (mkF m 116 #[.val (.int p0), .val (.int p1), .val (.int p2), .val (.int p3), .val (.ref b11), .val (.int (Int32.ofNat d)), .val (.int (Int32.ofNat sn)), .val (.int vv), .val (.int (p3.toInt8.toInt32)), .unset] [(.int (16 : Int32))])) rfl (hb hby at_116) rfl (by decide) (cap := 16) (by decide) (by decide) (by decide) (by decide)
  obtain ⟨b36, g36⟩ : ∃ z, z = h33.size := ⟨_, rfl⟩
  rw [← g36] at A36 st36
  have ne_b11_b36 : b11 ≠ b36 := by rw [g36]; exact Nat.ne_of_lt Vpw.lt
  have gn_b36 : n0 ≤ b36 := by rw [g36]; exact Z0_34
  have Z0_37 : n0 ≤ h36.size := (Nat.le_trans Z0_34 E36.1)
  have Vpw_38 : Arv Z h36 b11 k11 .long (11 : Int32) (pw.map Value.long) (.long (0 : Int64)) := (Vpw.ext E36)
  have V36 : Arv Z h36 b36 k36 .byte (16 : Int32) [(.int (0 : Int32)), (.int (0 : Int32)), (.int (0 : Int32)), (.int (0 : Int32)), (.int (0 : Int32)), (.int (0 : Int32)), (.int (0 : Int32)), (.int (0 : Int32)), (.int (0 : Int32)), (.int (0 : Int32)), (.int (0 : Int32)), (.int (0 : Int32)), (.int (0 : Int32)), (.int (0 : Int32)), (.int (0 : Int32)), (.int (0 : Int32))] (.int (0 : Int32)) := (Arv.new A36 (by decide)).pad (pad_rep [] (.int (0 : Int32)) 16)
  refine Got.step st36 ?_
  show Got p e below s _ _ _ _ T36 (mkF m 118 #[.val (.int p0), .val (.int p1), .val (.int p2), .val (.int p3), .val (.ref b11), .val (.int (Int32.ofNat d)), .val (.int (Int32.ofNat sn)), .val (.int vv), .val (.int (p3.toInt8.toInt32)), .unset] [(.ref b36)])
  refine Got.step (T' := T36) (g' := (mkF m 122 #[.val (.int p0), .val (.int p1), .val (.int p2), .val (.int p3), .val (.ref b11), .val (.int (Int32.ofNat d)), .val (.int (Int32.ofNat sn)), .val (.int vv), .val (.int (p3.toInt8.toInt32)), .unset] [(.int (p3.toInt8.toInt32)), (.int (0 : Int32)), (.ref b36), (.ref b36)])) (fun tq kt => ?_) ?_
  · show Steps p.tables e below (T36.setTop (mkF m 118 #[.val (.int p0), .val (.int p1), .val (.int p2), .val (.int p3), .val (.ref b11), .val (.int (Int32.ofNat d)), .val (.int (Int32.ofNat sn)), .val (.int vv), .val (.int (p3.toInt8.toInt32)), .unset] [(.ref b36)])) _
    refine XS.dup X36.here hx rfl (hb hby at_118) rfl rfl ?_
    show Steps p.tables e below (T36.setTop (mkF m 119 #[.val (.int p0), .val (.int p1), .val (.int p2), .val (.int p3), .val (.ref b11), .val (.int (Int32.ofNat d)), .val (.int (Int32.ofNat sn)), .val (.int vv), .val (.int (p3.toInt8.toInt32)), .unset] [(.ref b36), (.ref b36)])) _
    refine XS.iconst X36.here hx rfl (hb hby at_119) ?_
    show Steps p.tables e below (T36.setTop (mkF m 120 #[.val (.int p0), .val (.int p1), .val (.int p2), .val (.int p3), .val (.ref b11), .val (.int (Int32.ofNat d)), .val (.int (Int32.ofNat sn)), .val (.int vv), .val (.int (p3.toInt8.toInt32)), .unset] [(.int (0 : Int32)), (.ref b36), (.ref b36)])) _
    refine XS.iload X36.here hx rfl (hb hby at_120) rfl ?_
    exact kt
  obtain ⟨cl39, Ar39, q39, S39, M39, H39, G39⟩ := (id V36)
  have hin39 : ¬ ((0 : Int32) < 0 ∨ cl39.slots.size ≤ ((0 : Int32)).toNatClampNeg) := inb_of S39 ⟨by decide, by decide⟩
  obtain ⟨T39, h39, X39, e39, W39, st39⟩ := stB X36 hx hZ e36 Ar39 (j := (0 : Int32)) hin39 (g := (mkF m 122 #[.val (.int p0), .val (.int p1), .val (.int p2), .val (.int p3), .val (.ref b11), .val (.int (Int32.ofNat d)), .val (.int (Int32.ofNat sn)), .val (.int vv), .val (.int (p3.toInt8.toInt32)), .unset] [(.int (p3.toInt8.toInt32)), (.int (0 : Int32)), (.ref b36), (.ref b36)])) rfl rfl (hb hby at_122)
  rw [narB] at W39
  have Z0_40 : n0 ≤ h39.size := (Nat.le_trans Z0_37 (Keep.of_wr W39).1)
  have Vpw_41 : Arv Z h39 b11 k11 .long (11 : Int32) (pw.map Value.long) (.long (0 : Int64)) := (Vpw_38.other W39 ne_b11_b36)
  have V39 : Arv Z h39 b36 k36 .byte (16 : Int32) [(.int (p3.toInt8.toInt32)), (.int (0 : Int32)), (.int (0 : Int32)), (.int (0 : Int32)), (.int (0 : Int32)), (.int (0 : Int32)), (.int (0 : Int32)), (.int (0 : Int32)), (.int (0 : Int32)), (.int (0 : Int32)), (.int (0 : Int32)), (.int (0 : Int32)), (.int (0 : Int32)), (.int (0 : Int32)), (.int (0 : Int32)), (.int (0 : Int32))] (.int (0 : Int32)) := Arv.set Ar39 q39 S39 M39 H39 G39 (fits_nar_byte _) W39 0 rfl (Nat.le_of_ble_eq_true rfl)
  have N39 := Fr.snoc X39 N33 gn_b36
  refine Got.step st39 ?_
  show Got p e below s _ _ _ _ T39 (mkF m 123 #[.val (.int p0), .val (.int p1), .val (.int p2), .val (.int p3), .val (.ref b11), .val (.int (Int32.ofNat d)), .val (.int (Int32.ofNat sn)), .val (.int vv), .val (.int (p3.toInt8.toInt32)), .unset] [(.ref b36)])
  refine Got.step (T' := T39) (g' := (mkF m 127 #[.val (.int p0), .val (.int p1), .val (.int p2), .val (.int p3), .val (.ref b11), .val (.int (Int32.ofNat d)), .val (.int (Int32.ofNat sn)), .val (.int vv), .val (.int (p3.toInt8.toInt32)), .unset] [(.int (p3.toInt8.toInt32)), (.int (1 : Int32)), (.ref b36), (.ref b36)])) (fun tq kt => ?_) ?_
  · show Steps p.tables e below (T39.setTop (mkF m 123 #[.val (.int p0), .val (.int p1), .val (.int p2), .val (.int p3), .val (.ref b11), .val (.int (Int32.ofNat d)), .val (.int (Int32.ofNat sn)), .val (.int vv), .val (.int (p3.toInt8.toInt32)), .unset] [(.ref b36)])) _
    refine XS.dup X39.here hx rfl (hb hby at_123) rfl rfl ?_
    show Steps p.tables e below (T39.setTop (mkF m 124 #[.val (.int p0), .val (.int p1), .val (.int p2), .val (.int p3), .val (.ref b11), .val (.int (Int32.ofNat d)), .val (.int (Int32.ofNat sn)), .val (.int vv), .val (.int (p3.toInt8.toInt32)), .unset] [(.ref b36), (.ref b36)])) _
    refine XS.iconst X39.here hx rfl (hb hby at_124) ?_
    show Steps p.tables e below (T39.setTop (mkF m 125 #[.val (.int p0), .val (.int p1), .val (.int p2), .val (.int p3), .val (.ref b11), .val (.int (Int32.ofNat d)), .val (.int (Int32.ofNat sn)), .val (.int vv), .val (.int (p3.toInt8.toInt32)), .unset] [(.int (1 : Int32)), (.ref b36), (.ref b36)])) _
    refine XS.iload X39.here hx rfl (hb hby at_125) rfl ?_
    exact kt
  obtain ⟨cl42, Ar42, q42, S42, M42, H42, G42⟩ := (id V39)
  have hin42 : ¬ ((1 : Int32) < 0 ∨ cl42.slots.size ≤ ((1 : Int32)).toNatClampNeg) := inb_of S42 ⟨by decide, by decide⟩
  obtain ⟨T42, h42, X42, e42, W42, st42⟩ := stB X39 hx hZ e39 Ar42 (j := (1 : Int32)) hin42 (g := (mkF m 127 #[.val (.int p0), .val (.int p1), .val (.int p2), .val (.int p3), .val (.ref b11), .val (.int (Int32.ofNat d)), .val (.int (Int32.ofNat sn)), .val (.int vv), .val (.int (p3.toInt8.toInt32)), .unset] [(.int (p3.toInt8.toInt32)), (.int (1 : Int32)), (.ref b36), (.ref b36)])) rfl rfl (hb hby at_127)
  rw [narB] at W42
  have Z0_43 : n0 ≤ h42.size := (Nat.le_trans Z0_40 (Keep.of_wr W42).1)
  have Vpw_44 : Arv Z h42 b11 k11 .long (11 : Int32) (pw.map Value.long) (.long (0 : Int64)) := (Vpw_41.other W42 ne_b11_b36)
  have V42 : Arv Z h42 b36 k36 .byte (16 : Int32) [(.int (p3.toInt8.toInt32)), (.int (p3.toInt8.toInt32)), (.int (0 : Int32)), (.int (0 : Int32)), (.int (0 : Int32)), (.int (0 : Int32)), (.int (0 : Int32)), (.int (0 : Int32)), (.int (0 : Int32)), (.int (0 : Int32)), (.int (0 : Int32)), (.int (0 : Int32)), (.int (0 : Int32)), (.int (0 : Int32)), (.int (0 : Int32)), (.int (0 : Int32))] (.int (0 : Int32)) := Arv.set Ar42 q42 S42 M42 H42 G42 (fits_nar_byte _) W42 1 rfl (Nat.le_of_ble_eq_true rfl)
  have N42 := Fr.snoc X42 N39 gn_b36
  refine Got.step st42 ?_
  show Got p e below s _ _ _ _ T42 (mkF m 128 #[.val (.int p0), .val (.int p1), .val (.int p2), .val (.int p3), .val (.ref b11), .val (.int (Int32.ofNat d)), .val (.int (Int32.ofNat sn)), .val (.int vv), .val (.int (p3.toInt8.toInt32)), .unset] [(.ref b36)])
  refine Got.step (T' := T42) (g' := (mkF m 132 #[.val (.int p0), .val (.int p1), .val (.int p2), .val (.int p3), .val (.ref b11), .val (.int (Int32.ofNat d)), .val (.int (Int32.ofNat sn)), .val (.int vv), .val (.int (p3.toInt8.toInt32)), .unset] [(.int (p3.toInt8.toInt32)), (.int (2 : Int32)), (.ref b36), (.ref b36)])) (fun tq kt => ?_) ?_
  · show Steps p.tables e below (T42.setTop (mkF m 128 #[.val (.int p0), .val (.int p1), .val (.int p2), .val (.int p3), .val (.ref b11), .val (.int (Int32.ofNat d)), .val (.int (Int32.ofNat sn)), .val (.int vv), .val (.int (p3.toInt8.toInt32)), .unset] [(.ref b36)])) _
    refine XS.dup X42.here hx rfl (hb hby at_128) rfl rfl ?_
    show Steps p.tables e below (T42.setTop (mkF m 129 #[.val (.int p0), .val (.int p1), .val (.int p2), .val (.int p3), .val (.ref b11), .val (.int (Int32.ofNat d)), .val (.int (Int32.ofNat sn)), .val (.int vv), .val (.int (p3.toInt8.toInt32)), .unset] [(.ref b36), (.ref b36)])) _
    refine XS.iconst X42.here hx rfl (hb hby at_129) ?_
    show Steps p.tables e below (T42.setTop (mkF m 130 #[.val (.int p0), .val (.int p1), .val (.int p2), .val (.int p3), .val (.ref b11), .val (.int (Int32.ofNat d)), .val (.int (Int32.ofNat sn)), .val (.int vv), .val (.int (p3.toInt8.toInt32)), .unset] [(.int (2 : Int32)), (.ref b36), (.ref b36)])) _
    refine XS.iload X42.here hx rfl (hb hby at_130) rfl ?_
    exact kt
  obtain ⟨cl45, Ar45, q45, S45, M45, H45, G45⟩ := (id V42)
  have hin45 : ¬ ((2 : Int32) < 0 ∨ cl45.slots.size ≤ ((2 : Int32)).toNatClampNeg) := inb_of S45 ⟨by decide, by decide⟩
  obtain ⟨T45, h45, X45, e45, W45, st45⟩ := stB X42 hx hZ e42 Ar45 (j := (2 : Int32)) hin45 (g := (mkF m 132 #[.val (.int p0), .val (.int p1), .val (.int p2), .val (.int p3), .val (.ref b11), .val (.int (Int32.ofNat d)), .val (.int (Int32.ofNat sn)), .val (.int vv), .val (.int (p3.toInt8.toInt32)), .unset] [(.int (p3.toInt8.toInt32)), (.int (2 : Int32)), (.ref b36), (.ref b36)])) rfl rfl (hb hby at_132)
  rw [narB] at W45
  have Z0_46 : n0 ≤ h45.size := (Nat.le_trans Z0_43 (Keep.of_wr W45).1)
  have Vpw_47 : Arv Z h45 b11 k11 .long (11 : Int32) (pw.map Value.long) (.long (0 : Int64)) := (Vpw_44.other W45 ne_b11_b36)
  have V45 : Arv Z h45 b36 k36 .byte (16 : Int32) [(.int (p3.toInt8.toInt32)), (.int (p3.toInt8.toInt32)), (.int (p3.toInt8.toInt32)), (.int (0 : Int32)), (.int (0 : Int32)), (.int (0 : Int32)), (.int (0 : Int32)), (.int (0 : Int32)), (.int (0 : Int32)), (.int (0 : Int32)), (.int (0 : Int32)), (.int (0 : Int32)), (.int (0 : Int32)), (.int (0 : Int32)), (.int (0 : Int32)), (.int (0 : Int32))] (.int (0 : Int32)) := Arv.set Ar45 q45 S45 M45 H45 G45 (fits_nar_byte _) W45 2 rfl (Nat.le_of_ble_eq_true rfl)
  have N45 := Fr.snoc X45 N42 gn_b36
  refine Got.step st45 ?_
  show Got p e below s _ _ _ _ T45 (mkF m 133 #[.val (.int p0), .val (.int p1), .val (.int p2), .val (.int p3), .val (.ref b11), .val (.int (Int32.ofNat d)), .val (.int (Int32.ofNat sn)), .val (.int vv), .val (.int (p3.toInt8.toInt32)), .unset] [(.ref b36)])
  refine Got.step (T' := T45) (g' := (mkF m 137 #[.val (.int p0), .val (.int p1), .val (.int p2), .val (.int p3), .val (.ref b11), .val (.int (Int32.ofNat d)), .val (.int (Int32.ofNat sn)), .val (.int vv), .val (.int (p3.toInt8.toInt32)), .unset] [(.int (p3.toInt8.toInt32)), (.int (3 : Int32)), (.ref b36), (.ref b36)])) (fun tq kt => ?_) ?_
  · show Steps p.tables e below (T45.setTop (mkF m 133 #[.val (.int p0), .val (.int p1), .val (.int p2), .val (.int p3), .val (.ref b11), .val (.int (Int32.ofNat d)), .val (.int (Int32.ofNat sn)), .val (.int vv), .val (.int (p3.toInt8.toInt32)), .unset] [(.ref b36)])) _
    refine XS.dup X45.here hx rfl (hb hby at_133) rfl rfl ?_
    show Steps p.tables e below (T45.setTop (mkF m 134 #[.val (.int p0), .val (.int p1), .val (.int p2), .val (.int p3), .val (.ref b11), .val (.int (Int32.ofNat d)), .val (.int (Int32.ofNat sn)), .val (.int vv), .val (.int (p3.toInt8.toInt32)), .unset] [(.ref b36), (.ref b36)])) _
    refine XS.iconst X45.here hx rfl (hb hby at_134) ?_
    show Steps p.tables e below (T45.setTop (mkF m 135 #[.val (.int p0), .val (.int p1), .val (.int p2), .val (.int p3), .val (.ref b11), .val (.int (Int32.ofNat d)), .val (.int (Int32.ofNat sn)), .val (.int vv), .val (.int (p3.toInt8.toInt32)), .unset] [(.int (3 : Int32)), (.ref b36), (.ref b36)])) _
    refine XS.iload X45.here hx rfl (hb hby at_135) rfl ?_
    exact kt
  obtain ⟨cl48, Ar48, q48, S48, M48, H48, G48⟩ := (id V45)
  have hin48 : ¬ ((3 : Int32) < 0 ∨ cl48.slots.size ≤ ((3 : Int32)).toNatClampNeg) := inb_of S48 ⟨by decide, by decide⟩
  obtain ⟨T48, h48, X48, e48, W48, st48⟩ := stB X45 hx hZ e45 Ar48 (j := (3 : Int32)) hin48 (g := (mkF m 137 #[.val (.int p0), .val (.int p1), .val (.int p2), .val (.int p3), .val (.ref b11), .val (.int (Int32.ofNat d)), .val (.int (Int32.ofNat sn)), .val (.int vv), .val (.int (p3.toInt8.toInt32)), .unset] [(.int (p3.toInt8.toInt32)), (.int (3 : Int32)), (.ref b36), (.ref b36)])) rfl rfl (hb hby at_137)
  rw [narB] at W48
  have Z0_49 : n0 ≤ h48.size := (Nat.le_trans Z0_46 (Keep.of_wr W48).1)
  have Vpw_50 : Arv Z h48 b11 k11 .long (11 : Int32) (pw.map Value.long) (.long (0 : Int64)) := (Vpw_47.other W48 ne_b11_b36)
  have V48 : Arv Z h48 b36 k36 .byte (16 : Int32) [(.int (p3.toInt8.toInt32)), (.int (p3.toInt8.toInt32)), (.int (p3.toInt8.toInt32)), (.int (p3.toInt8.toInt32)), (.int (0 : Int32)), (.int (0 : Int32)), (.int (0 : Int32)), (.int (0 : Int32)), (.int (0 : Int32)), (.int (0 : Int32)), (.int (0 : Int32)), (.int (0 : Int32)), (.int (0 : Int32)), (.int (0 : Int32)), (.int (0 : Int32)), (.int (0 : Int32))] (.int (0 : Int32)) := Arv.set Ar48 q48 S48 M48 H48 G48 (fits_nar_byte _) W48 3 rfl (Nat.le_of_ble_eq_true rfl)
  have N48 := Fr.snoc X48 N45 gn_b36
  refine Got.step st48 ?_
  show Got p e below s _ _ _ _ T48 (mkF m 138 #[.val (.int p0), .val (.int p1), .val (.int p2), .val (.int p3), .val (.ref b11), .val (.int (Int32.ofNat d)), .val (.int (Int32.ofNat sn)), .val (.int vv), .val (.int (p3.toInt8.toInt32)), .unset] [(.ref b36)])
  refine Got.step (T' := T48) (g' := (mkF m 142 #[.val (.int p0), .val (.int p1), .val (.int p2), .val (.int p3), .val (.ref b11), .val (.int (Int32.ofNat d)), .val (.int (Int32.ofNat sn)), .val (.int vv), .val (.int (p3.toInt8.toInt32)), .unset] [(.int (p3.toInt8.toInt32)), (.int (4 : Int32)), (.ref b36), (.ref b36)])) (fun tq kt => ?_) ?_
  · show Steps p.tables e below (T48.setTop (mkF m 138 #[.val (.int p0), .val (.int p1), .val (.int p2), .val (.int p3), .val (.ref b11), .val (.int (Int32.ofNat d)), .val (.int (Int32.ofNat sn)), .val (.int vv), .val (.int (p3.toInt8.toInt32)), .unset] [(.ref b36)])) _
    refine XS.dup X48.here hx rfl (hb hby at_138) rfl rfl ?_
    show Steps p.tables e below (T48.setTop (mkF m 139 #[.val (.int p0), .val (.int p1), .val (.int p2), .val (.int p3), .val (.ref b11), .val (.int (Int32.ofNat d)), .val (.int (Int32.ofNat sn)), .val (.int vv), .val (.int (p3.toInt8.toInt32)), .unset] [(.ref b36), (.ref b36)])) _
    refine XS.iconst X48.here hx rfl (hb hby at_139) ?_
    show Steps p.tables e below (T48.setTop (mkF m 140 #[.val (.int p0), .val (.int p1), .val (.int p2), .val (.int p3), .val (.ref b11), .val (.int (Int32.ofNat d)), .val (.int (Int32.ofNat sn)), .val (.int vv), .val (.int (p3.toInt8.toInt32)), .unset] [(.int (4 : Int32)), (.ref b36), (.ref b36)])) _
    refine XS.iload X48.here hx rfl (hb hby at_140) rfl ?_
    exact kt
  obtain ⟨cl51, Ar51, q51, S51, M51, H51, G51⟩ := (id V48)
  have hin51 : ¬ ((4 : Int32) < 0 ∨ cl51.slots.size ≤ ((4 : Int32)).toNatClampNeg) := inb_of S51 ⟨by decide, by decide⟩
  obtain ⟨T51, h51, X51, e51, W51, st51⟩ := stB X48 hx hZ e48 Ar51 (j := (4 : Int32)) hin51 (g := (mkF m 142 #[.val (.int p0), .val (.int p1), .val (.int p2), .val (.int p3), .val (.ref b11), .val (.int (Int32.ofNat d)), .val (.int (Int32.ofNat sn)), .val (.int vv), .val (.int (p3.toInt8.toInt32)), .unset] [(.int (p3.toInt8.toInt32)), (.int (4 : Int32)), (.ref b36), (.ref b36)])) rfl rfl (hb hby at_142)
  rw [narB] at W51
  have Z0_52 : n0 ≤ h51.size := (Nat.le_trans Z0_49 (Keep.of_wr W51).1)
  have Vpw_53 : Arv Z h51 b11 k11 .long (11 : Int32) (pw.map Value.long) (.long (0 : Int64)) := (Vpw_50.other W51 ne_b11_b36)
  have V51 : Arv Z h51 b36 k36 .byte (16 : Int32) [(.int (p3.toInt8.toInt32)), (.int (p3.toInt8.toInt32)), (.int (p3.toInt8.toInt32)), (.int (p3.toInt8.toInt32)), (.int (p3.toInt8.toInt32)), (.int (0 : Int32)), (.int (0 : Int32)), (.int (0 : Int32)), (.int (0 : Int32)), (.int (0 : Int32)), (.int (0 : Int32)), (.int (0 : Int32)), (.int (0 : Int32)), (.int (0 : Int32)), (.int (0 : Int32)), (.int (0 : Int32))] (.int (0 : Int32)) := Arv.set Ar51 q51 S51 M51 H51 G51 (fits_nar_byte _) W51 4 rfl (Nat.le_of_ble_eq_true rfl)
  have N51 := Fr.snoc X51 N48 gn_b36
  refine Got.step st51 ?_
  show Got p e below s _ _ _ _ T51 (mkF m 143 #[.val (.int p0), .val (.int p1), .val (.int p2), .val (.int p3), .val (.ref b11), .val (.int (Int32.ofNat d)), .val (.int (Int32.ofNat sn)), .val (.int vv), .val (.int (p3.toInt8.toInt32)), .unset] [(.ref b36)])
  refine Got.step (T' := T51) (g' := (mkF m 147 #[.val (.int p0), .val (.int p1), .val (.int p2), .val (.int p3), .val (.ref b11), .val (.int (Int32.ofNat d)), .val (.int (Int32.ofNat sn)), .val (.int vv), .val (.int (p3.toInt8.toInt32)), .unset] [(.int (p3.toInt8.toInt32)), (.int (5 : Int32)), (.ref b36), (.ref b36)])) (fun tq kt => ?_) ?_
  · show Steps p.tables e below (T51.setTop (mkF m 143 #[.val (.int p0), .val (.int p1), .val (.int p2), .val (.int p3), .val (.ref b11), .val (.int (Int32.ofNat d)), .val (.int (Int32.ofNat sn)), .val (.int vv), .val (.int (p3.toInt8.toInt32)), .unset] [(.ref b36)])) _
    refine XS.dup X51.here hx rfl (hb hby at_143) rfl rfl ?_
    show Steps p.tables e below (T51.setTop (mkF m 144 #[.val (.int p0), .val (.int p1), .val (.int p2), .val (.int p3), .val (.ref b11), .val (.int (Int32.ofNat d)), .val (.int (Int32.ofNat sn)), .val (.int vv), .val (.int (p3.toInt8.toInt32)), .unset] [(.ref b36), (.ref b36)])) _
    refine XS.iconst X51.here hx rfl (hb hby at_144) ?_
    show Steps p.tables e below (T51.setTop (mkF m 145 #[.val (.int p0), .val (.int p1), .val (.int p2), .val (.int p3), .val (.ref b11), .val (.int (Int32.ofNat d)), .val (.int (Int32.ofNat sn)), .val (.int vv), .val (.int (p3.toInt8.toInt32)), .unset] [(.int (5 : Int32)), (.ref b36), (.ref b36)])) _
    refine XS.iload X51.here hx rfl (hb hby at_145) rfl ?_
    exact kt
  obtain ⟨cl54, Ar54, q54, S54, M54, H54, G54⟩ := (id V51)
  have hin54 : ¬ ((5 : Int32) < 0 ∨ cl54.slots.size ≤ ((5 : Int32)).toNatClampNeg) := inb_of S54 ⟨by decide, by decide⟩
  obtain ⟨T54, h54, X54, e54, W54, st54⟩ := stB X51 hx hZ e51 Ar54 (j := (5 : Int32)) hin54 (g := (mkF m 147 #[.val (.int p0), .val (.int p1), .val (.int p2), .val (.int p3), .val (.ref b11), .val (.int (Int32.ofNat d)), .val (.int (Int32.ofNat sn)), .val (.int vv), .val (.int (p3.toInt8.toInt32)), .unset] [(.int (p3.toInt8.toInt32)), (.int (5 : Int32)), (.ref b36), (.ref b36)])) rfl rfl (hb hby at_147)
  rw [narB] at W54
  have Z0_55 : n0 ≤ h54.size := (Nat.le_trans Z0_52 (Keep.of_wr W54).1)
  have Vpw_56 : Arv Z h54 b11 k11 .long (11 : Int32) (pw.map Value.long) (.long (0 : Int64)) := (Vpw_53.other W54 ne_b11_b36)
  have V54 : Arv Z h54 b36 k36 .byte (16 : Int32) [(.int (p3.toInt8.toInt32)), (.int (p3.toInt8.toInt32)), (.int (p3.toInt8.toInt32)), (.int (p3.toInt8.toInt32)), (.int (p3.toInt8.toInt32)), (.int (p3.toInt8.toInt32)), (.int (0 : Int32)), (.int (0 : Int32)), (.int (0 : Int32)), (.int (0 : Int32)), (.int (0 : Int32)), (.int (0 : Int32)), (.int (0 : Int32)), (.int (0 : Int32)), (.int (0 : Int32)), (.int (0 : Int32))] (.int (0 : Int32)) := Arv.set Ar54 q54 S54 M54 H54 G54 (fits_nar_byte _) W54 5 rfl (Nat.le_of_ble_eq_true rfl)
  have N54 := Fr.snoc X54 N51 gn_b36
  refine Got.step st54 ?_
  show Got p e below s _ _ _ _ T54 (mkF m 148 #[.val (.int p0), .val (.int p1), .val (.int p2), .val (.int p3), .val (.ref b11), .val (.int (Int32.ofNat d)), .val (.int (Int32.ofNat sn)), .val (.int vv), .val (.int (p3.toInt8.toInt32)), .unset] [(.ref b36)])
  refine Got.step (T' := T54) (g' := (mkF m 153 #[.val (.int p0), .val (.int p1), .val (.int p2), .val (.int p3), .val (.ref b11), .val (.int (Int32.ofNat d)), .val (.int (Int32.ofNat sn)), .val (.int vv), .val (.int (p3.toInt8.toInt32)), .unset] [(.int (p3.toInt8.toInt32)), (.int (6 : Int32)), (.ref b36), (.ref b36)])) (fun tq kt => ?_) ?_
  · show Steps p.tables e below (T54.setTop (mkF m 148 #[.val (.int p0), .val (.int p1), .val (.int p2), .val (.int p3), .val (.ref b11), .val (.int (Int32.ofNat d)), .val (.int (Int32.ofNat sn)), .val (.int vv), .val (.int (p3.toInt8.toInt32)), .unset] [(.ref b36)])) _
    refine XS.dup X54.here hx rfl (hb hby at_148) rfl rfl ?_
    show Steps p.tables e below (T54.setTop (mkF m 149 #[.val (.int p0), .val (.int p1), .val (.int p2), .val (.int p3), .val (.ref b11), .val (.int (Int32.ofNat d)), .val (.int (Int32.ofNat sn)), .val (.int vv), .val (.int (p3.toInt8.toInt32)), .unset] [(.ref b36), (.ref b36)])) _
    refine XS.bipush X54.here hx rfl (hb hby at_149) ?_
    show Steps p.tables e below (T54.setTop (mkF m 151 #[.val (.int p0), .val (.int p1), .val (.int p2), .val (.int p3), .val (.ref b11), .val (.int (Int32.ofNat d)), .val (.int (Int32.ofNat sn)), .val (.int vv), .val (.int (p3.toInt8.toInt32)), .unset] [(.int (6 : Int32)), (.ref b36), (.ref b36)])) _
    refine XS.iload X54.here hx rfl (hb hby at_151) rfl ?_
    exact kt
  obtain ⟨cl57, Ar57, q57, S57, M57, H57, G57⟩ := (id V54)
  have hin57 : ¬ ((6 : Int32) < 0 ∨ cl57.slots.size ≤ ((6 : Int32)).toNatClampNeg) := inb_of S57 ⟨by decide, by decide⟩
  obtain ⟨T57, h57, X57, e57, W57, st57⟩ := stB X54 hx hZ e54 Ar57 (j := (6 : Int32)) hin57 (g := (mkF m 153 #[.val (.int p0), .val (.int p1), .val (.int p2), .val (.int p3), .val (.ref b11), .val (.int (Int32.ofNat d)), .val (.int (Int32.ofNat sn)), .val (.int vv), .val (.int (p3.toInt8.toInt32)), .unset] [(.int (p3.toInt8.toInt32)), (.int (6 : Int32)), (.ref b36), (.ref b36)])) rfl rfl (hb hby at_153)
  rw [narB] at W57
  have Z0_58 : n0 ≤ h57.size := (Nat.le_trans Z0_55 (Keep.of_wr W57).1)
  have Vpw_59 : Arv Z h57 b11 k11 .long (11 : Int32) (pw.map Value.long) (.long (0 : Int64)) := (Vpw_56.other W57 ne_b11_b36)
  have V57 : Arv Z h57 b36 k36 .byte (16 : Int32) [(.int (p3.toInt8.toInt32)), (.int (p3.toInt8.toInt32)), (.int (p3.toInt8.toInt32)), (.int (p3.toInt8.toInt32)), (.int (p3.toInt8.toInt32)), (.int (p3.toInt8.toInt32)), (.int (p3.toInt8.toInt32)), (.int (0 : Int32)), (.int (0 : Int32)), (.int (0 : Int32)), (.int (0 : Int32)), (.int (0 : Int32)), (.int (0 : Int32)), (.int (0 : Int32)), (.int (0 : Int32)), (.int (0 : Int32))] (.int (0 : Int32)) := Arv.set Ar57 q57 S57 M57 H57 G57 (fits_nar_byte _) W57 6 rfl (Nat.le_of_ble_eq_true rfl)
  have N57 := Fr.snoc X57 N54 gn_b36
  refine Got.step st57 ?_
  show Got p e below s _ _ _ _ T57 (mkF m 154 #[.val (.int p0), .val (.int p1), .val (.int p2), .val (.int p3), .val (.ref b11), .val (.int (Int32.ofNat d)), .val (.int (Int32.ofNat sn)), .val (.int vv), .val (.int (p3.toInt8.toInt32)), .unset] [(.ref b36)])
  refine Got.step (T' := T57) (g' := (mkF m 159 #[.val (.int p0), .val (.int p1), .val (.int p2), .val (.int p3), .val (.ref b11), .val (.int (Int32.ofNat d)), .val (.int (Int32.ofNat sn)), .val (.int vv), .val (.int (p3.toInt8.toInt32)), .unset] [(.int (p3.toInt8.toInt32)), (.int (7 : Int32)), (.ref b36), (.ref b36)])) (fun tq kt => ?_) ?_
  · show Steps p.tables e below (T57.setTop (mkF m 154 #[.val (.int p0), .val (.int p1), .val (.int p2), .val (.int p3), .val (.ref b11), .val (.int (Int32.ofNat d)), .val (.int (Int32.ofNat sn)), .val (.int vv), .val (.int (p3.toInt8.toInt32)), .unset] [(.ref b36)])) _
    refine XS.dup X57.here hx rfl (hb hby at_154) rfl rfl ?_
    show Steps p.tables e below (T57.setTop (mkF m 155 #[.val (.int p0), .val (.int p1), .val (.int p2), .val (.int p3), .val (.ref b11), .val (.int (Int32.ofNat d)), .val (.int (Int32.ofNat sn)), .val (.int vv), .val (.int (p3.toInt8.toInt32)), .unset] [(.ref b36), (.ref b36)])) _
    refine XS.bipush X57.here hx rfl (hb hby at_155) ?_
    show Steps p.tables e below (T57.setTop (mkF m 157 #[.val (.int p0), .val (.int p1), .val (.int p2), .val (.int p3), .val (.ref b11), .val (.int (Int32.ofNat d)), .val (.int (Int32.ofNat sn)), .val (.int vv), .val (.int (p3.toInt8.toInt32)), .unset] [(.int (7 : Int32)), (.ref b36), (.ref b36)])) _
    refine XS.iload X57.here hx rfl (hb hby at_157) rfl ?_
    exact kt
  obtain ⟨cl60, Ar60, q60, S60, M60, H60, G60⟩ := (id V57)
  have hin60 : ¬ ((7 : Int32) < 0 ∨ cl60.slots.size ≤ ((7 : Int32)).toNatClampNeg) := inb_of S60 ⟨by decide, by decide⟩
  obtain ⟨T60, h60, X60, e60, W60, st60⟩ := stB X57 hx hZ e57 Ar60 (j := (7 : Int32)) hin60 (g := (mkF m 159 #[.val (.int p0), .val (.int p1), .val (.int p2), .val (.int p3), .val (.ref b11), .val (.int (Int32.ofNat d)), .val (.int (Int32.ofNat sn)), .val (.int vv), .val (.int (p3.toInt8.toInt32)), .unset] [(.int (p3.toInt8.toInt32)), (.int (7 : Int32)), (.ref b36), (.ref b36)])) rfl rfl (hb hby at_159)
  rw [narB] at W60
  have Z0_61 : n0 ≤ h60.size := (Nat.le_trans Z0_58 (Keep.of_wr W60).1)
  have Vpw_62 : Arv Z h60 b11 k11 .long (11 : Int32) (pw.map Value.long) (.long (0 : Int64)) := (Vpw_59.other W60 ne_b11_b36)
  have V60 : Arv Z h60 b36 k36 .byte (16 : Int32) [(.int (p3.toInt8.toInt32)), (.int (p3.toInt8.toInt32)), (.int (p3.toInt8.toInt32)), (.int (p3.toInt8.toInt32)), (.int (p3.toInt8.toInt32)), (.int (p3.toInt8.toInt32)), (.int (p3.toInt8.toInt32)), (.int (p3.toInt8.toInt32)), (.int (0 : Int32)), (.int (0 : Int32)), (.int (0 : Int32)), (.int (0 : Int32)), (.int (0 : Int32)), (.int (0 : Int32)), (.int (0 : Int32)), (.int (0 : Int32))] (.int (0 : Int32)) := Arv.set Ar60 q60 S60 M60 H60 G60 (fits_nar_byte _) W60 7 rfl (Nat.le_of_ble_eq_true rfl)
  have N60 := Fr.snoc X60 N57 gn_b36
  refine Got.step st60 ?_
  show Got p e below s _ _ _ _ T60 (mkF m 160 #[.val (.int p0), .val (.int p1), .val (.int p2), .val (.int p3), .val (.ref b11), .val (.int (Int32.ofNat d)), .val (.int (Int32.ofNat sn)), .val (.int vv), .val (.int (p3.toInt8.toInt32)), .unset] [(.ref b36)])
  refine Got.step (T' := T60) (g' := (mkF m 165 #[.val (.int p0), .val (.int p1), .val (.int p2), .val (.int p3), .val (.ref b11), .val (.int (Int32.ofNat d)), .val (.int (Int32.ofNat sn)), .val (.int vv), .val (.int (p3.toInt8.toInt32)), .unset] [(.int (p3.toInt8.toInt32)), (.int (8 : Int32)), (.ref b36), (.ref b36)])) (fun tq kt => ?_) ?_
  · show Steps p.tables e below (T60.setTop (mkF m 160 #[.val (.int p0), .val (.int p1), .val (.int p2), .val (.int p3), .val (.ref b11), .val (.int (Int32.ofNat d)), .val (.int (Int32.ofNat sn)), .val (.int vv), .val (.int (p3.toInt8.toInt32)), .unset] [(.ref b36)])) _
    refine XS.dup X60.here hx rfl (hb hby at_160) rfl rfl ?_
    show Steps p.tables e below (T60.setTop (mkF m 161 #[.val (.int p0), .val (.int p1), .val (.int p2), .val (.int p3), .val (.ref b11), .val (.int (Int32.ofNat d)), .val (.int (Int32.ofNat sn)), .val (.int vv), .val (.int (p3.toInt8.toInt32)), .unset] [(.ref b36), (.ref b36)])) _
    refine XS.bipush X60.here hx rfl (hb hby at_161) ?_
    show Steps p.tables e below (T60.setTop (mkF m 163 #[.val (.int p0), .val (.int p1), .val (.int p2), .val (.int p3), .val (.ref b11), .val (.int (Int32.ofNat d)), .val (.int (Int32.ofNat sn)), .val (.int vv), .val (.int (p3.toInt8.toInt32)), .unset] [(.int (8 : Int32)), (.ref b36), (.ref b36)])) _
    refine XS.iload X60.here hx rfl (hb hby at_163) rfl ?_
    exact kt
  obtain ⟨cl63, Ar63, q63, S63, M63, H63, G63⟩ := (id V60)
  have hin63 : ¬ ((8 : Int32) < 0 ∨ cl63.slots.size ≤ ((8 : Int32)).toNatClampNeg) := inb_of S63 ⟨by decide, by decide⟩
  obtain ⟨T63, h63, X63, e63, W63, st63⟩ := stB X60 hx hZ e60 Ar63 (j := (8 : Int32)) hin63 (g := (mkF m 165 #[.val (.int p0), .val (.int p1), .val (.int p2), .val (.int p3), .val (.ref b11), .val (.int (Int32.ofNat d)), .val (.int (Int32.ofNat sn)), .val (.int vv), .val (.int (p3.toInt8.toInt32)), .unset] [(.int (p3.toInt8.toInt32)), (.int (8 : Int32)), (.ref b36), (.ref b36)])) rfl rfl (hb hby at_165)
  rw [narB] at W63
  have Z0_64 : n0 ≤ h63.size := (Nat.le_trans Z0_61 (Keep.of_wr W63).1)
  have Vpw_65 : Arv Z h63 b11 k11 .long (11 : Int32) (pw.map Value.long) (.long (0 : Int64)) := (Vpw_62.other W63 ne_b11_b36)
  have V63 : Arv Z h63 b36 k36 .byte (16 : Int32) [(.int (p3.toInt8.toInt32)), (.int (p3.toInt8.toInt32)), (.int (p3.toInt8.toInt32)), (.int (p3.toInt8.toInt32)), (.int (p3.toInt8.toInt32)), (.int (p3.toInt8.toInt32)), (.int (p3.toInt8.toInt32)), (.int (p3.toInt8.toInt32)), (.int (p3.toInt8.toInt32)), (.int (0 : Int32)), (.int (0 : Int32)), (.int (0 : Int32)), (.int (0 : Int32)), (.int (0 : Int32)), (.int (0 : Int32)), (.int (0 : Int32))] (.int (0 : Int32)) := Arv.set Ar63 q63 S63 M63 H63 G63 (fits_nar_byte _) W63 8 rfl (Nat.le_of_ble_eq_true rfl)
  have N63 := Fr.snoc X63 N60 gn_b36
  refine Got.step st63 ?_
  show Got p e below s _ _ _ _ T63 (mkF m 166 #[.val (.int p0), .val (.int p1), .val (.int p2), .val (.int p3), .val (.ref b11), .val (.int (Int32.ofNat d)), .val (.int (Int32.ofNat sn)), .val (.int vv), .val (.int (p3.toInt8.toInt32)), .unset] [(.ref b36)])
  refine Got.step (T' := T63) (g' := (mkF m 171 #[.val (.int p0), .val (.int p1), .val (.int p2), .val (.int p3), .val (.ref b11), .val (.int (Int32.ofNat d)), .val (.int (Int32.ofNat sn)), .val (.int vv), .val (.int (p3.toInt8.toInt32)), .unset] [(.int (p3.toInt8.toInt32)), (.int (9 : Int32)), (.ref b36), (.ref b36)])) (fun tq kt => ?_) ?_
  · show Steps p.tables e below (T63.setTop (mkF m 166 #[.val (.int p0), .val (.int p1), .val (.int p2), .val (.int p3), .val (.ref b11), .val (.int (Int32.ofNat d)), .val (.int (Int32.ofNat sn)), .val (.int vv), .val (.int (p3.toInt8.toInt32)), .unset] [(.ref b36)])) _
    refine XS.dup X63.here hx rfl (hb hby at_166) rfl rfl ?_
    show Steps p.tables e below (T63.setTop (mkF m 167 #[.val (.int p0), .val (.int p1), .val (.int p2), .val (.int p3), .val (.ref b11), .val (.int (Int32.ofNat d)), .val (.int (Int32.ofNat sn)), .val (.int vv), .val (.int (p3.toInt8.toInt32)), .unset] [(.ref b36), (.ref b36)])) _
    refine XS.bipush X63.here hx rfl (hb hby at_167) ?_
    show Steps p.tables e below (T63.setTop (mkF m 169 #[.val (.int p0), .val (.int p1), .val (.int p2), .val (.int p3), .val (.ref b11), .val (.int (Int32.ofNat d)), .val (.int (Int32.ofNat sn)), .val (.int vv), .val (.int (p3.toInt8.toInt32)), .unset] [(.int (9 : Int32)), (.ref b36), (.ref b36)])) _
    refine XS.iload X63.here hx rfl (hb hby at_169) rfl ?_
    exact kt
  obtain ⟨cl66, Ar66, q66, S66, M66, H66, G66⟩ := (id V63)
  have hin66 : ¬ ((9 : Int32) < 0 ∨ cl66.slots.size ≤ ((9 : Int32)).toNatClampNeg) := inb_of S66 ⟨by decide, by decide⟩
  obtain ⟨T66, h66, X66, e66, W66, st66⟩ := stB X63 hx hZ e63 Ar66 (j := (9 : Int32)) hin66 (g := (mkF m 171 #[.val (.int p0), .val (.int p1), .val (.int p2), .val (.int p3), .val (.ref b11), .val (.int (Int32.ofNat d)), .val (.int (Int32.ofNat sn)), .val (.int vv), .val (.int (p3.toInt8.toInt32)), .unset] [(.int (p3.toInt8.toInt32)), (.int (9 : Int32)), (.ref b36), (.ref b36)])) rfl rfl (hb hby at_171)
  rw [narB] at W66
  have Z0_67 : n0 ≤ h66.size := (Nat.le_trans Z0_64 (Keep.of_wr W66).1)
  have Vpw_68 : Arv Z h66 b11 k11 .long (11 : Int32) (pw.map Value.long) (.long (0 : Int64)) := (Vpw_65.other W66 ne_b11_b36)
  have V66 : Arv Z h66 b36 k36 .byte (16 : Int32) [(.int (p3.toInt8.toInt32)), (.int (p3.toInt8.toInt32)), (.int (p3.toInt8.toInt32)), (.int (p3.toInt8.toInt32)), (.int (p3.toInt8.toInt32)), (.int (p3.toInt8.toInt32)), (.int (p3.toInt8.toInt32)), (.int (p3.toInt8.toInt32)), (.int (p3.toInt8.toInt32)), (.int (p3.toInt8.toInt32)), (.int (0 : Int32)), (.int (0 : Int32)), (.int (0 : Int32)), (.int (0 : Int32)), (.int (0 : Int32)), (.int (0 : Int32))] (.int (0 : Int32)) := Arv.set Ar66 q66 S66 M66 H66 G66 (fits_nar_byte _) W66 9 rfl (Nat.le_of_ble_eq_true rfl)
  have N66 := Fr.snoc X66 N63 gn_b36
  refine Got.step st66 ?_
  show Got p e below s _ _ _ _ T66 (mkF m 172 #[.val (.int p0), .val (.int p1), .val (.int p2), .val (.int p3), .val (.ref b11), .val (.int (Int32.ofNat d)), .val (.int (Int32.ofNat sn)), .val (.int vv), .val (.int (p3.toInt8.toInt32)), .unset] [(.ref b36)])
  refine Got.step (T' := T66) (g' := (mkF m 177 #[.val (.int p0), .val (.int p1), .val (.int p2), .val (.int p3), .val (.ref b11), .val (.int (Int32.ofNat d)), .val (.int (Int32.ofNat sn)), .val (.int vv), .val (.int (p3.toInt8.toInt32)), .unset] [(.int (p3.toInt8.toInt32)), (.int (10 : Int32)), (.ref b36), (.ref b36)])) (fun tq kt => ?_) ?_
  · show Steps p.tables e below (T66.setTop (mkF m 172 #[.val (.int p0), .val (.int p1), .val (.int p2), .val (.int p3), .val (.ref b11), .val (.int (Int32.ofNat d)), .val (.int (Int32.ofNat sn)), .val (.int vv), .val (.int (p3.toInt8.toInt32)), .unset] [(.ref b36)])) _
    refine XS.dup X66.here hx rfl (hb hby at_172) rfl rfl ?_
    show Steps p.tables e below (T66.setTop (mkF m 173 #[.val (.int p0), .val (.int p1), .val (.int p2), .val (.int p3), .val (.ref b11), .val (.int (Int32.ofNat d)), .val (.int (Int32.ofNat sn)), .val (.int vv), .val (.int (p3.toInt8.toInt32)), .unset] [(.ref b36), (.ref b36)])) _
    refine XS.bipush X66.here hx rfl (hb hby at_173) ?_
    show Steps p.tables e below (T66.setTop (mkF m 175 #[.val (.int p0), .val (.int p1), .val (.int p2), .val (.int p3), .val (.ref b11), .val (.int (Int32.ofNat d)), .val (.int (Int32.ofNat sn)), .val (.int vv), .val (.int (p3.toInt8.toInt32)), .unset] [(.int (10 : Int32)), (.ref b36), (.ref b36)])) _
    refine XS.iload X66.here hx rfl (hb hby at_175) rfl ?_
    exact kt
  obtain ⟨cl69, Ar69, q69, S69, M69, H69, G69⟩ := (id V66)
  have hin69 : ¬ ((10 : Int32) < 0 ∨ cl69.slots.size ≤ ((10 : Int32)).toNatClampNeg) := inb_of S69 ⟨by decide, by decide⟩
  obtain ⟨T69, h69, X69, e69, W69, st69⟩ := stB X66 hx hZ e66 Ar69 (j := (10 : Int32)) hin69 (g := (mkF m 177 #[.val (.int p0), .val (.int p1), .val (.int p2), .val (.int p3), .val (.ref b11), .val (.int (Int32.ofNat d)), .val (.int (Int32.ofNat sn)), .val (.int vv), .val (.int (p3.toInt8.toInt32)), .unset] [(.int (p3.toInt8.toInt32)), (.int (10 : Int32)), (.ref b36), (.ref b36)])) rfl rfl (hb hby at_177)
  rw [narB] at W69
  have Z0_70 : n0 ≤ h69.size := (Nat.le_trans Z0_67 (Keep.of_wr W69).1)
  have Vpw_71 : Arv Z h69 b11 k11 .long (11 : Int32) (pw.map Value.long) (.long (0 : Int64)) := (Vpw_68.other W69 ne_b11_b36)
  have V69 : Arv Z h69 b36 k36 .byte (16 : Int32) [(.int (p3.toInt8.toInt32)), (.int (p3.toInt8.toInt32)), (.int (p3.toInt8.toInt32)), (.int (p3.toInt8.toInt32)), (.int (p3.toInt8.toInt32)), (.int (p3.toInt8.toInt32)), (.int (p3.toInt8.toInt32)), (.int (p3.toInt8.toInt32)), (.int (p3.toInt8.toInt32)), (.int (p3.toInt8.toInt32)), (.int (p3.toInt8.toInt32)), (.int (0 : Int32)), (.int (0 : Int32)), (.int (0 : Int32)), (.int (0 : Int32)), (.int (0 : Int32))] (.int (0 : Int32)) := Arv.set Ar69 q69 S69 M69 H69 G69 (fits_nar_byte _) W69 10 rfl (Nat.le_of_ble_eq_true rfl)
  have N69 := Fr.snoc X69 N66 gn_b36
  refine Got.step st69 ?_
  show Got p e below s _ _ _ _ T69 (mkF m 178 #[.val (.int p0), .val (.int p1), .val (.int p2), .val (.int p3), .val (.ref b11), .val (.int (Int32.ofNat d)), .val (.int (Int32.ofNat sn)), .val (.int vv), .val (.int (p3.toInt8.toInt32)), .unset] [(.ref b36)])
  refine Got.step (T' := T69) (g' := (mkF m 183 #[.val (.int p0), .val (.int p1), .val (.int p2), .val (.int p3), .val (.ref b11), .val (.int (Int32.ofNat d)), .val (.int (Int32.ofNat sn)), .val (.int vv), .val (.int (p3.toInt8.toInt32)), .unset] [(.int (p3.toInt8.toInt32)), (.int (11 : Int32)), (.ref b36), (.ref b36)])) (fun tq kt => ?_) ?_
  · show Steps p.tables e below (T69.setTop (mkF m 178 #[.val (.int p0), .val (.int p1), .val (.int p2), .val (.int p3), .val (.ref b11), .val (.int (Int32.ofNat d)), .val (.int (Int32.ofNat sn)), .val (.int vv), .val (.int (p3.toInt8.toInt32)), .unset] [(.ref b36)])) _
    refine XS.dup X69.here hx rfl (hb hby at_178) rfl rfl ?_
    show Steps p.tables e below (T69.setTop (mkF m 179 #[.val (.int p0), .val (.int p1), .val (.int p2), .val (.int p3), .val (.ref b11), .val (.int (Int32.ofNat d)), .val (.int (Int32.ofNat sn)), .val (.int vv), .val (.int (p3.toInt8.toInt32)), .unset] [(.ref b36), (.ref b36)])) _
    refine XS.bipush X69.here hx rfl (hb hby at_179) ?_
    show Steps p.tables e below (T69.setTop (mkF m 181 #[.val (.int p0), .val (.int p1), .val (.int p2), .val (.int p3), .val (.ref b11), .val (.int (Int32.ofNat d)), .val (.int (Int32.ofNat sn)), .val (.int vv), .val (.int (p3.toInt8.toInt32)), .unset] [(.int (11 : Int32)), (.ref b36), (.ref b36)])) _
    refine XS.iload X69.here hx rfl (hb hby at_181) rfl ?_
    exact kt
  obtain ⟨cl72, Ar72, q72, S72, M72, H72, G72⟩ := (id V69)
  have hin72 : ¬ ((11 : Int32) < 0 ∨ cl72.slots.size ≤ ((11 : Int32)).toNatClampNeg) := inb_of S72 ⟨by decide, by decide⟩
  obtain ⟨T72, h72, X72, e72, W72, st72⟩ := stB X69 hx hZ e69 Ar72 (j := (11 : Int32)) hin72 (g := (mkF m 183 #[.val (.int p0), .val (.int p1), .val (.int p2), .val (.int p3), .val (.ref b11), .val (.int (Int32.ofNat d)), .val (.int (Int32.ofNat sn)), .val (.int vv), .val (.int (p3.toInt8.toInt32)), .unset] [(.int (p3.toInt8.toInt32)), (.int (11 : Int32)), (.ref b36), (.ref b36)])) rfl rfl (hb hby at_183)
  rw [narB] at W72
  have Z0_73 : n0 ≤ h72.size := (Nat.le_trans Z0_70 (Keep.of_wr W72).1)
  have Vpw_74 : Arv Z h72 b11 k11 .long (11 : Int32) (pw.map Value.long) (.long (0 : Int64)) := (Vpw_71.other W72 ne_b11_b36)
  have V72 : Arv Z h72 b36 k36 .byte (16 : Int32) [(.int (p3.toInt8.toInt32)), (.int (p3.toInt8.toInt32)), (.int (p3.toInt8.toInt32)), (.int (p3.toInt8.toInt32)), (.int (p3.toInt8.toInt32)), (.int (p3.toInt8.toInt32)), (.int (p3.toInt8.toInt32)), (.int (p3.toInt8.toInt32)), (.int (p3.toInt8.toInt32)), (.int (p3.toInt8.toInt32)), (.int (p3.toInt8.toInt32)), (.int (p3.toInt8.toInt32)), (.int (0 : Int32)), (.int (0 : Int32)), (.int (0 : Int32)), (.int (0 : Int32))] (.int (0 : Int32)) := Arv.set Ar72 q72 S72 M72 H72 G72 (fits_nar_byte _) W72 11 rfl (Nat.le_of_ble_eq_true rfl)
  have N72 := Fr.snoc X72 N69 gn_b36
  refine Got.step st72 ?_
  show Got p e below s _ _ _ _ T72 (mkF m 184 #[.val (.int p0), .val (.int p1), .val (.int p2), .val (.int p3), .val (.ref b11), .val (.int (Int32.ofNat d)), .val (.int (Int32.ofNat sn)), .val (.int vv), .val (.int (p3.toInt8.toInt32)), .unset] [(.ref b36)])
  refine Got.step (T' := T72) (g' := (mkF m 189 #[.val (.int p0), .val (.int p1), .val (.int p2), .val (.int p3), .val (.ref b11), .val (.int (Int32.ofNat d)), .val (.int (Int32.ofNat sn)), .val (.int vv), .val (.int (p3.toInt8.toInt32)), .unset] [(.int (p3.toInt8.toInt32)), (.int (12 : Int32)), (.ref b36), (.ref b36)])) (fun tq kt => ?_) ?_
  · show Steps p.tables e below (T72.setTop (mkF m 184 #[.val (.int p0), .val (.int p1), .val (.int p2), .val (.int p3), .val (.ref b11), .val (.int (Int32.ofNat d)), .val (.int (Int32.ofNat sn)), .val (.int vv), .val (.int (p3.toInt8.toInt32)), .unset] [(.ref b36)])) _
    refine XS.dup X72.here hx rfl (hb hby at_184) rfl rfl ?_
    show Steps p.tables e below (T72.setTop (mkF m 185 #[.val (.int p0), .val (.int p1), .val (.int p2), .val (.int p3), .val (.ref b11), .val (.int (Int32.ofNat d)), .val (.int (Int32.ofNat sn)), .val (.int vv), .val (.int (p3.toInt8.toInt32)), .unset] [(.ref b36), (.ref b36)])) _
    refine XS.bipush X72.here hx rfl (hb hby at_185) ?_
    show Steps p.tables e below (T72.setTop (mkF m 187 #[.val (.int p0), .val (.int p1), .val (.int p2), .val (.int p3), .val (.ref b11), .val (.int (Int32.ofNat d)), .val (.int (Int32.ofNat sn)), .val (.int vv), .val (.int (p3.toInt8.toInt32)), .unset] [(.int (12 : Int32)), (.ref b36), (.ref b36)])) _
    refine XS.iload X72.here hx rfl (hb hby at_187) rfl ?_
    exact kt
  obtain ⟨cl75, Ar75, q75, S75, M75, H75, G75⟩ := (id V72)
  have hin75 : ¬ ((12 : Int32) < 0 ∨ cl75.slots.size ≤ ((12 : Int32)).toNatClampNeg) := inb_of S75 ⟨by decide, by decide⟩
  obtain ⟨T75, h75, X75, e75, W75, st75⟩ := stB X72 hx hZ e72 Ar75 (j := (12 : Int32)) hin75 (g := (mkF m 189 #[.val (.int p0), .val (.int p1), .val (.int p2), .val (.int p3), .val (.ref b11), .val (.int (Int32.ofNat d)), .val (.int (Int32.ofNat sn)), .val (.int vv), .val (.int (p3.toInt8.toInt32)), .unset] [(.int (p3.toInt8.toInt32)), (.int (12 : Int32)), (.ref b36), (.ref b36)])) rfl rfl (hb hby at_189)
  rw [narB] at W75
  have Z0_76 : n0 ≤ h75.size := (Nat.le_trans Z0_73 (Keep.of_wr W75).1)
  have Vpw_77 : Arv Z h75 b11 k11 .long (11 : Int32) (pw.map Value.long) (.long (0 : Int64)) := (Vpw_74.other W75 ne_b11_b36)
  have V75 : Arv Z h75 b36 k36 .byte (16 : Int32) [(.int (p3.toInt8.toInt32)), (.int (p3.toInt8.toInt32)), (.int (p3.toInt8.toInt32)), (.int (p3.toInt8.toInt32)), (.int (p3.toInt8.toInt32)), (.int (p3.toInt8.toInt32)), (.int (p3.toInt8.toInt32)), (.int (p3.toInt8.toInt32)), (.int (p3.toInt8.toInt32)), (.int (p3.toInt8.toInt32)), (.int (p3.toInt8.toInt32)), (.int (p3.toInt8.toInt32)), (.int (p3.toInt8.toInt32)), (.int (0 : Int32)), (.int (0 : Int32)), (.int (0 : Int32))] (.int (0 : Int32)) := Arv.set Ar75 q75 S75 M75 H75 G75 (fits_nar_byte _) W75 12 rfl (Nat.le_of_ble_eq_true rfl)
  have N75 := Fr.snoc X75 N72 gn_b36
  refine Got.step st75 ?_
  show Got p e below s _ _ _ _ T75 (mkF m 190 #[.val (.int p0), .val (.int p1), .val (.int p2), .val (.int p3), .val (.ref b11), .val (.int (Int32.ofNat d)), .val (.int (Int32.ofNat sn)), .val (.int vv), .val (.int (p3.toInt8.toInt32)), .unset] [(.ref b36)])
  refine Got.step (T' := T75) (g' := (mkF m 195 #[.val (.int p0), .val (.int p1), .val (.int p2), .val (.int p3), .val (.ref b11), .val (.int (Int32.ofNat d)), .val (.int (Int32.ofNat sn)), .val (.int vv), .val (.int (p3.toInt8.toInt32)), .unset] [(.int (p3.toInt8.toInt32)), (.int (13 : Int32)), (.ref b36), (.ref b36)])) (fun tq kt => ?_) ?_
  · show Steps p.tables e below (T75.setTop (mkF m 190 #[.val (.int p0), .val (.int p1), .val (.int p2), .val (.int p3), .val (.ref b11), .val (.int (Int32.ofNat d)), .val (.int (Int32.ofNat sn)), .val (.int vv), .val (.int (p3.toInt8.toInt32)), .unset] [(.ref b36)])) _
    refine XS.dup X75.here hx rfl (hb hby at_190) rfl rfl ?_
    show Steps p.tables e below (T75.setTop (mkF m 191 #[.val (.int p0), .val (.int p1), .val (.int p2), .val (.int p3), .val (.ref b11), .val (.int (Int32.ofNat d)), .val (.int (Int32.ofNat sn)), .val (.int vv), .val (.int (p3.toInt8.toInt32)), .unset] [(.ref b36), (.ref b36)])) _
    refine XS.bipush X75.here hx rfl (hb hby at_191) ?_
    show Steps p.tables e below (T75.setTop (mkF m 193 #[.val (.int p0), .val (.int p1), .val (.int p2), .val (.int p3), .val (.ref b11), .val (.int (Int32.ofNat d)), .val (.int (Int32.ofNat sn)), .val (.int vv), .val (.int (p3.toInt8.toInt32)), .unset] [(.int (13 : Int32)), (.ref b36), (.ref b36)])) _
    refine XS.iload X75.here hx rfl (hb hby at_193) rfl ?_
    exact kt
  obtain ⟨cl78, Ar78, q78, S78, M78, H78, G78⟩ := (id V75)
  have hin78 : ¬ ((13 : Int32) < 0 ∨ cl78.slots.size ≤ ((13 : Int32)).toNatClampNeg) := inb_of S78 ⟨by decide, by decide⟩
  obtain ⟨T78, h78, X78, e78, W78, st78⟩ := stB X75 hx hZ e75 Ar78 (j := (13 : Int32)) hin78 (g := (mkF m 195 #[.val (.int p0), .val (.int p1), .val (.int p2), .val (.int p3), .val (.ref b11), .val (.int (Int32.ofNat d)), .val (.int (Int32.ofNat sn)), .val (.int vv), .val (.int (p3.toInt8.toInt32)), .unset] [(.int (p3.toInt8.toInt32)), (.int (13 : Int32)), (.ref b36), (.ref b36)])) rfl rfl (hb hby at_195)
  rw [narB] at W78
  have Z0_79 : n0 ≤ h78.size := (Nat.le_trans Z0_76 (Keep.of_wr W78).1)
  have Vpw_80 : Arv Z h78 b11 k11 .long (11 : Int32) (pw.map Value.long) (.long (0 : Int64)) := (Vpw_77.other W78 ne_b11_b36)
  have V78 : Arv Z h78 b36 k36 .byte (16 : Int32) [(.int (p3.toInt8.toInt32)), (.int (p3.toInt8.toInt32)), (.int (p3.toInt8.toInt32)), (.int (p3.toInt8.toInt32)), (.int (p3.toInt8.toInt32)), (.int (p3.toInt8.toInt32)), (.int (p3.toInt8.toInt32)), (.int (p3.toInt8.toInt32)), (.int (p3.toInt8.toInt32)), (.int (p3.toInt8.toInt32)), (.int (p3.toInt8.toInt32)), (.int (p3.toInt8.toInt32)), (.int (p3.toInt8.toInt32)), (.int (p3.toInt8.toInt32)), (.int (0 : Int32)), (.int (0 : Int32))] (.int (0 : Int32)) := Arv.set Ar78 q78 S78 M78 H78 G78 (fits_nar_byte _) W78 13 rfl (Nat.le_of_ble_eq_true rfl)
  have N78 := Fr.snoc X78 N75 gn_b36
  refine Got.step st78 ?_
  show Got p e below s _ _ _ _ T78 (mkF m 196 #[.val (.int p0), .val (.int p1), .val (.int p2), .val (.int p3), .val (.ref b11), .val (.int (Int32.ofNat d)), .val (.int (Int32.ofNat sn)), .val (.int vv), .val (.int (p3.toInt8.toInt32)), .unset] [(.ref b36)])
  refine Got.step (T' := T78) (g' := (mkF m 201 #[.val (.int p0), .val (.int p1), .val (.int p2), .val (.int p3), .val (.ref b11), .val (.int (Int32.ofNat d)), .val (.int (Int32.ofNat sn)), .val (.int vv), .val (.int (p3.toInt8.toInt32)), .unset] [(.int (p3.toInt8.toInt32)), (.int (14 : Int32)), (.ref b36), (.ref b36)])) (fun tq kt => ?_) ?_
  · show Steps p.tables e below (T78.setTop (mkF m 196 #[.val (.int p0), .val (.int p1), .val (.int p2), .val (.int p3), .val (.ref b11), .val (.int (Int32.ofNat d)), .val (.int (Int32.ofNat sn)), .val (.int vv), .val (.int (p3.toInt8.toInt32)), .unset] [(.ref b36)])) _
    refine XS.dup X78.here hx rfl (hb hby at_196) rfl rfl ?_
    show Steps p.tables e below (T78.setTop (mkF m 197 #[.val (.int p0), .val (.int p1), .val (.int p2), .val (.int p3), .val (.ref b11), .val (.int (Int32.ofNat d)), .val (.int (Int32.ofNat sn)), .val (.int vv), .val (.int (p3.toInt8.toInt32)), .unset] [(.ref b36), (.ref b36)])) _
    refine XS.bipush X78.here hx rfl (hb hby at_197) ?_
    show Steps p.tables e below (T78.setTop (mkF m 199 #[.val (.int p0), .val (.int p1), .val (.int p2), .val (.int p3), .val (.ref b11), .val (.int (Int32.ofNat d)), .val (.int (Int32.ofNat sn)), .val (.int vv), .val (.int (p3.toInt8.toInt32)), .unset] [(.int (14 : Int32)), (.ref b36), (.ref b36)])) _
    refine XS.iload X78.here hx rfl (hb hby at_199) rfl ?_
    exact kt
  obtain ⟨cl81, Ar81, q81, S81, M81, H81, G81⟩ := (id V78)
  have hin81 : ¬ ((14 : Int32) < 0 ∨ cl81.slots.size ≤ ((14 : Int32)).toNatClampNeg) := inb_of S81 ⟨by decide, by decide⟩
  obtain ⟨T81, h81, X81, e81, W81, st81⟩ := stB X78 hx hZ e78 Ar81 (j := (14 : Int32)) hin81 (g := (mkF m 201 #[.val (.int p0), .val (.int p1), .val (.int p2), .val (.int p3), .val (.ref b11), .val (.int (Int32.ofNat d)), .val (.int (Int32.ofNat sn)), .val (.int vv), .val (.int (p3.toInt8.toInt32)), .unset] [(.int (p3.toInt8.toInt32)), (.int (14 : Int32)), (.ref b36), (.ref b36)])) rfl rfl (hb hby at_201)
  rw [narB] at W81
  have Z0_82 : n0 ≤ h81.size := (Nat.le_trans Z0_79 (Keep.of_wr W81).1)
  have Vpw_83 : Arv Z h81 b11 k11 .long (11 : Int32) (pw.map Value.long) (.long (0 : Int64)) := (Vpw_80.other W81 ne_b11_b36)
  have V81 : Arv Z h81 b36 k36 .byte (16 : Int32) [(.int (p3.toInt8.toInt32)), (.int (p3.toInt8.toInt32)), (.int (p3.toInt8.toInt32)), (.int (p3.toInt8.toInt32)), (.int (p3.toInt8.toInt32)), (.int (p3.toInt8.toInt32)), (.int (p3.toInt8.toInt32)), (.int (p3.toInt8.toInt32)), (.int (p3.toInt8.toInt32)), (.int (p3.toInt8.toInt32)), (.int (p3.toInt8.toInt32)), (.int (p3.toInt8.toInt32)), (.int (p3.toInt8.toInt32)), (.int (p3.toInt8.toInt32)), (.int (p3.toInt8.toInt32)), (.int (0 : Int32))] (.int (0 : Int32)) := Arv.set Ar81 q81 S81 M81 H81 G81 (fits_nar_byte _) W81 14 rfl (Nat.le_of_ble_eq_true rfl)
  have N81 := Fr.snoc X81 N78 gn_b36
  refine Got.step st81 ?_
  show Got p e below s _ _ _ _ T81 (mkF m 202 #[.val (.int p0), .val (.int p1), .val (.int p2), .val (.int p3), .val (.ref b11), .val (.int (Int32.ofNat d)), .val (.int (Int32.ofNat sn)), .val (.int vv), .val (.int (p3.toInt8.toInt32)), .unset] [(.ref b36)])
  refine Got.step (T' := T81) (g' := (mkF m 207 #[.val (.int p0), .val (.int p1), .val (.int p2), .val (.int p3), .val (.ref b11), .val (.int (Int32.ofNat d)), .val (.int (Int32.ofNat sn)), .val (.int vv), .val (.int (p3.toInt8.toInt32)), .unset] [(.int (p3.toInt8.toInt32)), (.int (15 : Int32)), (.ref b36), (.ref b36)])) (fun tq kt => ?_) ?_
  · show Steps p.tables e below (T81.setTop (mkF m 202 #[.val (.int p0), .val (.int p1), .val (.int p2), .val (.int p3), .val (.ref b11), .val (.int (Int32.ofNat d)), .val (.int (Int32.ofNat sn)), .val (.int vv), .val (.int (p3.toInt8.toInt32)), .unset] [(.ref b36)])) _
    refine XS.dup X81.here hx rfl (hb hby at_202) rfl rfl ?_
    show Steps p.tables e below (T81.setTop (mkF m 203 #[.val (.int p0), .val (.int p1), .val (.int p2), .val (.int p3), .val (.ref b11), .val (.int (Int32.ofNat d)), .val (.int (Int32.ofNat sn)), .val (.int vv), .val (.int (p3.toInt8.toInt32)), .unset] [(.ref b36), (.ref b36)])) _
    refine XS.bipush X81.here hx rfl (hb hby at_203) ?_
    show Steps p.tables e below (T81.setTop (mkF m 205 #[.val (.int p0), .val (.int p1), .val (.int p2), .val (.int p3), .val (.ref b11), .val (.int (Int32.ofNat d)), .val (.int (Int32.ofNat sn)), .val (.int vv), .val (.int (p3.toInt8.toInt32)), .unset] [(.int (15 : Int32)), (.ref b36), (.ref b36)])) _
    refine XS.iload X81.here hx rfl (hb hby at_205) rfl ?_
    exact kt
  obtain ⟨cl84, Ar84, q84, S84, M84, H84, G84⟩ := (id V81)
  have hin84 : ¬ ((15 : Int32) < 0 ∨ cl84.slots.size ≤ ((15 : Int32)).toNatClampNeg) := inb_of S84 ⟨by decide, by decide⟩
  obtain ⟨T84, h84, X84, e84, W84, st84⟩ := stB X81 hx hZ e81 Ar84 (j := (15 : Int32)) hin84 (g := (mkF m 207 #[.val (.int p0), .val (.int p1), .val (.int p2), .val (.int p3), .val (.ref b11), .val (.int (Int32.ofNat d)), .val (.int (Int32.ofNat sn)), .val (.int vv), .val (.int (p3.toInt8.toInt32)), .unset] [(.int (p3.toInt8.toInt32)), (.int (15 : Int32)), (.ref b36), (.ref b36)])) rfl rfl (hb hby at_207)
  rw [narB] at W84
  have Z0_85 : n0 ≤ h84.size := (Nat.le_trans Z0_82 (Keep.of_wr W84).1)
  have Vpw_86 : Arv Z h84 b11 k11 .long (11 : Int32) (pw.map Value.long) (.long (0 : Int64)) := (Vpw_83.other W84 ne_b11_b36)
  have V84 : Arv Z h84 b36 k36 .byte (16 : Int32) [(.int (p3.toInt8.toInt32)), (.int (p3.toInt8.toInt32)), (.int (p3.toInt8.toInt32)), (.int (p3.toInt8.toInt32)), (.int (p3.toInt8.toInt32)), (.int (p3.toInt8.toInt32)), (.int (p3.toInt8.toInt32)), (.int (p3.toInt8.toInt32)), (.int (p3.toInt8.toInt32)), (.int (p3.toInt8.toInt32)), (.int (p3.toInt8.toInt32)), (.int (p3.toInt8.toInt32)), (.int (p3.toInt8.toInt32)), (.int (p3.toInt8.toInt32)), (.int (p3.toInt8.toInt32)), (.int (p3.toInt8.toInt32))] (.int (0 : Int32)) := Arv.set Ar84 q84 S84 M84 H84 G84 (fits_nar_byte _) W84 15 rfl (Nat.le_of_ble_eq_true rfl)
  have N84 := Fr.snoc X84 N81 gn_b36
  refine Got.step st84 ?_
  show Got p e below s _ _ _ _ T84 (mkF m 208 #[.val (.int p0), .val (.int p1), .val (.int p2), .val (.int p3), .val (.ref b11), .val (.int (Int32.ofNat d)), .val (.int (Int32.ofNat sn)), .val (.int vv), .val (.int (p3.toInt8.toInt32)), .unset] [(.ref b36)])
  refine Got.step (T' := T84) (g' := (mkF m 210 #[.val (.int p0), .val (.int p1), .val (.int p2), .val (.int p3), .val (.ref b11), .val (.int (Int32.ofNat d)), .val (.int (Int32.ofNat sn)), .val (.int vv), .val (.int (p3.toInt8.toInt32)), .val (.ref b36)] [])) (fun tq kt => ?_) ?_
  · show Steps p.tables e below (T84.setTop (mkF m 208 #[.val (.int p0), .val (.int p1), .val (.int p2), .val (.int p3), .val (.ref b11), .val (.int (Int32.ofNat d)), .val (.int (Int32.ofNat sn)), .val (.int vv), .val (.int (p3.toInt8.toInt32)), .unset] [(.ref b36)])) _
    refine XS.astore X84.here hx rfl (hb hby at_208) rfl rfl (l' := #[.val (.int p0), .val (.int p1), .val (.int p2), .val (.int p3), .val (.ref b11), .val (.int (Int32.ofNat d)), .val (.int (Int32.ofNat sn)), .val (.int vv), .val (.int (p3.toInt8.toInt32)), .val (.ref b36)]) rfl ?_
    exact kt
  have Vby : Arv Z h84 b36 k36 .byte (16 : Int32) ((List.replicate 16 (p3.toInt8.toInt32)).map Value.int) (.int (0 : Int32)) := V84
  refine Got.step (T' := T84) (g' := (mkF m 218 #[.val (.int p0), .val (.int p1), .val (.int p2), .val (.int p3), .val (.ref b11), .val (.int (Int32.ofNat d)), .val (.int (Int32.ofNat sn)), .val (.int vv), .val (.int (p3.toInt8.toInt32)), .val (.ref b36)] [(.int (Int32.ofNat d)), (.int vv), (.int (Int32.ofNat sn)), (.ref b36)])) (fun tq kt => ?_) ?_
  · show Steps p.tables e below (T84.setTop (mkF m 210 #[.val (.int p0), .val (.int p1), .val (.int p2), .val (.int p3), .val (.ref b11), .val (.int (Int32.ofNat d)), .val (.int (Int32.ofNat sn)), .val (.int vv), .val (.int (p3.toInt8.toInt32)), .val (.ref b36)] [])) _
    refine XS.aload X84.here hx rfl (hb hby at_210) rfl rfl ?_
    show Steps p.tables e below (T84.setTop (mkF m 212 #[.val (.int p0), .val (.int p1), .val (.int p2), .val (.int p3), .val (.ref b11), .val (.int (Int32.ofNat d)), .val (.int (Int32.ofNat sn)), .val (.int vv), .val (.int (p3.toInt8.toInt32)), .val (.ref b36)] [(.ref b36)])) _
    refine XS.iload X84.here hx rfl (hb hby at_212) rfl ?_
    show Steps p.tables e below (T84.setTop (mkF m 214 #[.val (.int p0), .val (.int p1), .val (.int p2), .val (.int p3), .val (.ref b11), .val (.int (Int32.ofNat d)), .val (.int (Int32.ofNat sn)), .val (.int vv), .val (.int (p3.toInt8.toInt32)), .val (.ref b36)] [(.int (Int32.ofNat sn)), (.ref b36)])) _
    refine XS.iload X84.here hx rfl (hb hby at_214) rfl ?_
    show Steps p.tables e below (T84.setTop (mkF m 216 #[.val (.int p0), .val (.int p1), .val (.int p2), .val (.int p3), .val (.ref b11), .val (.int (Int32.ofNat d)), .val (.int (Int32.ofNat sn)), .val (.int vv), .val (.int (p3.toInt8.toInt32)), .val (.ref b36)] [(.int vv), (.int (Int32.ofNat sn)), (.ref b36)])) _
    refine XS.iload X84.here hx rfl (hb hby at_216) rfl ?_
    exact kt
  obtain ⟨_, _, ⟨T87, L87, k87, n87⟩, -, X87, ⟨Lc87, hQ87, l87, y87, z87⟩, st87⟩ := Jvm.LawKit.callS X84 hx (y := (⟨"com/example/cytobridge/cytobridge/profile/TimeStamp", "writeDigits", "([BIII)V"⟩ : MethodName)) hown (mvT hZ (hw _ (List.mem_of_getElem? (i := 13) rfl))) (mvT hZ (hw _ (List.mem_of_getElem? (i := 14) rfl))) (mvT hZ (hw _ (List.mem_of_getElem? (i := 15) rfl))) (mvT hZ (hw _ (List.mem_of_getElem? (i := 16) rfl))) (by decide) (backOf (W := 0) (rm1 l Z a0 hw [] b36 sn d vv (List.replicate 16 (p3.toInt8.toInt32)) k36 h84 n0 Z0_85 gn_b36 Vby (by rfl) hsd) hZ (hw _ (List.mem_of_getElem? (i := 16) rfl)) (hw _ (List.mem_of_getElem? (i := 15) rfl)) (by decide) (by decide)) (g := (mkF m 218 #[.val (.int p0), .val (.int p1), .val (.int p2), .val (.int p3), .val (.ref b11), .val (.int (Int32.ofNat d)), .val (.int (Int32.ofNat sn)), .val (.int vv), .val (.int (p3.toInt8.toInt32)), .val (.ref b36)] [(.int (Int32.ofNat d)), (.int vv), (.int (Int32.ofNat sn)), (.ref b36)])) rfl (by rw [hml]; rfl) (argsL := [(.ref b36), (.int (Int32.ofNat sn)), (.int vv), (.int (Int32.ofNat d))]) (rest := []) (lenOf pd_0 rfl) rfl (by show 2 * 0 + _ ≤ _; exact Nat.le_of_eq rfl) (hb hby at_218) (fun _ _ => ⟨rfl, e84, (by decide : 2 + 0 ≤ _), (by decide : 27 + 0 ≤ _)⟩)
  dsimp only [Pt.U, Pt.locs, Pt.cells, Pt.slots] at X87 l87 y87 z87 st87 hQ87
  subst y87 z87
  obtain ⟨h87, e87⟩ : ∃ z, T87.heap = z := ⟨_, rfl⟩
  rw [e87] at hQ87
  obtain ⟨rfl, Nq87, K87, V87⟩ := hQ87
  have N87 : Fr n0 L87 := by rw [l87]; exact Fr.app N84 Nq87
  have Z0_88 : n0 ≤ h87.size := (Nat.le_trans Z0_85 K87.1)
  have Vpw_89 : Arv Z h87 b11 k11 .long (11 : Int32) (pw.map Value.long) (.long (0 : Int64)) := (Vpw_86.keep K87 (ninS ne_b11_b36 nin0))
  refine Got.step st87 ?_
  show Got p e below s _ _ _ _ T87 (mkF m 221 #[.val (.int p0), .val (.int p1), .val (.int p2), .val (.int p3), .val (.ref b11), .val (.int (Int32.ofNat d)), .val (.int (Int32.ofNat sn)), .val (.int vv), .val (.int (p3.toInt8.toInt32)), .val (.ref b36)] [])
  refine Got.step (T' := T87) (g' := (mkF m 234 #[.val (.int p0), .val (.int p1), .val (.int p2), .val (.int p3), .val (.ref b11), .val (.int (Int32.ofNat d)), .val (.int (Int32.ofNat sn)), .val (.int vv), .val (.int (p3.toInt8.toInt32)), .val (.ref b36)] [(.ref b11), (.int (p3.toInt8.toInt32)), (.int vv), (.int (Int32.ofNat d)), (.int (Int32.ofNat sn)), (.int (0 : Int32)), (.ref b36)])) (fun tq kt => ?_) ?_
  · show Steps p.tables e below (T87.setTop (mkF m 221 #[.val (.int p0), .val (.int p1), .val (.int p2), .val (.int p3), .val (.ref b11), .val (.int (Int32.ofNat d)), .val (.int (Int32.ofNat sn)), .val (.int vv), .val (.int (p3.toInt8.toInt32)), .val (.ref b36)] [])) _
    refine XS.aload X87.here hx rfl (hb hby at_221) rfl rfl ?_
    show Steps p.tables e below (T87.setTop (mkF m 223 #[.val (.int p0), .val (.int p1), .val (.int p2), .val (.int p3), .val (.ref b11), .val (.int (Int32.ofNat d)), .val (.int (Int32.ofNat sn)), .val (.int vv), .val (.int (p3.toInt8.toInt32)), .val (.ref b36)] [(.ref b36)])) _
    refine XS.iconst X87.here hx rfl (hb hby at_223) ?_
    show Steps p.tables e below (T87.setTop (mkF m 224 #[.val (.int p0), .val (.int p1), .val (.int p2), .val (.int p3), .val (.ref b11), .val (.int (Int32.ofNat d)), .val (.int (Int32.ofNat sn)), .val (.int vv), .val (.int (p3.toInt8.toInt32)), .val (.ref b36)] [(.int (0 : Int32)), (.ref b36)])) _
    refine XS.iload X87.here hx rfl (hb hby at_224) rfl ?_
    show Steps p.tables e below (T87.setTop (mkF m 226 #[.val (.int p0), .val (.int p1), .val (.int p2), .val (.int p3), .val (.ref b11), .val (.int (Int32.ofNat d)), .val (.int (Int32.ofNat sn)), .val (.int vv), .val (.int (p3.toInt8.toInt32)), .val (.ref b36)] [(.int (Int32.ofNat sn)), (.int (0 : Int32)), (.ref b36)])) _
    refine XS.iload X87.here hx rfl (hb hby at_226) rfl ?_
    show Steps p.tables e below (T87.setTop (mkF m 228 #[.val (.int p0), .val (.int p1), .val (.int p2), .val (.int p3), .val (.ref b11), .val (.int (Int32.ofNat d)), .val (.int (Int32.ofNat sn)), .val (.int vv), .val (.int (p3.toInt8.toInt32)), .val (.ref b36)] [(.int (Int32.ofNat d)), (.int (Int32.ofNat sn)), (.int (0 : Int32)), (.ref b36)])) _
    refine XS.iload X87.here hx rfl (hb hby at_228) rfl ?_
    show Steps p.tables e below (T87.setTop (mkF m 230 #[.val (.int p0), .val (.int p1), .val (.int p2), .val (.int p3), .val (.ref b11), .val (.int (Int32.ofNat d)), .val (.int (Int32.ofNat sn)), .val (.int vv), .val (.int (p3.toInt8.toInt32)), .val (.ref b36)] [(.int vv), (.int (Int32.ofNat d)), (.int (Int32.ofNat sn)), (.int (0 : Int32)), (.ref b36)])) _
    refine XS.iload X87.here hx rfl (hb hby at_230) rfl ?_
    show Steps p.tables e below (T87.setTop (mkF m 232 #[.val (.int p0), .val (.int p1), .val (.int p2), .val (.int p3), .val (.ref b11), .val (.int (Int32.ofNat d)), .val (.int (Int32.ofNat sn)), .val (.int vv), .val (.int (p3.toInt8.toInt32)), .val (.ref b36)] [(.int (p3.toInt8.toInt32)), (.int vv), (.int (Int32.ofNat d)), (.int (Int32.ofNat sn)), (.int (0 : Int32)), (.ref b36)])) _
    refine XS.aload X87.here hx rfl (hb hby at_232) rfl rfl ?_
    exact kt
  obtain ⟨_, _, ⟨T90, L90, k90, n90⟩, -, X90, ⟨Lc90, hQ90, l90, y90, z90⟩, st90⟩ := Jvm.LawKit.callS X87 hx (y := (⟨"com/example/cytobridge/cytobridge/profile/TimeStampWriteDigitsPinLaw", "at", "([BIIIIB[J)Z"⟩ : MethodName)) hown (mvT hZ (hw _ (List.mem_of_getElem? (i := 17) rfl))) (mvT hZ (hw _ (List.mem_of_getElem? (i := 18) rfl))) (mvT hZ (hw _ (List.mem_of_getElem? (i := 19) rfl))) (mvT hZ (hw _ (List.mem_of_getElem? (i := 20) rfl))) (by decide) (backOf (W := 0) (rm2 l Z a0 hw [] b36 (0 : Int32) sn d vv (p3.toInt8.toInt32) b11 (wr sn d vv (List.replicate 16 (p3.toInt8.toInt32))) k36 k11 h87 n0 Z0_88 V87 Vpw_89 (by decide) hsd2) hZ (hw _ (List.mem_of_getElem? (i := 20) rfl)) (hw _ (List.mem_of_getElem? (i := 19) rfl)) (by decide) (by decide)) (g := (mkF m 234 #[.val (.int p0), .val (.int p1), .val (.int p2), .val (.int p3), .val (.ref b11), .val (.int (Int32.ofNat d)), .val (.int (Int32.ofNat sn)), .val (.int vv), .val (.int (p3.toInt8.toInt32)), .val (.ref b36)] [(.ref b11), (.int (p3.toInt8.toInt32)), (.int vv), (.int (Int32.ofNat d)), (.int (Int32.ofNat sn)), (.int (0 : Int32)), (.ref b36)])) rfl (by rw [hml]; rfl) (argsL := [(.ref b36), (.int (0 : Int32)), (.int (Int32.ofNat sn)), (.int (Int32.ofNat d)), (.int vv), (.int (p3.toInt8.toInt32)), (.ref b11)]) (rest := []) (lenOf pd_1 rfl) rfl (by show 2 * 0 + _ ≤ _; exact Nat.le_of_eq rfl) (hb hby at_234) (fun _ _ => ⟨rfl, e87, (by decide : 2 + 0 ≤ _), (by decide : 27 + 0 ≤ _)⟩)
  dsimp only [Pt.U, Pt.locs, Pt.cells, Pt.slots] at X90 l90 y90 z90 st90 hQ90
  subst y90 z90
  obtain ⟨rfl, Nq90, e90⟩ := hQ90
  have N90 : Fr n0 L90 := by rw [l90]; exact Fr.app N87 Nq90
  refine Got.step st90 ?_
  show Got p e below s _ _ _ _ T90 (mkF m 237 #[.val (.int p0), .val (.int p1), .val (.int p2), .val (.int p3), .val (.ref b11), .val (.int (Int32.ofNat d)), .val (.int (Int32.ofNat sn)), .val (.int vv), .val (.int (p3.toInt8.toInt32)), .val (.ref b36)] [(.int (f2 (wr sn d vv (List.replicate 16 (p3.toInt8.toInt32))) sn d (0 : Int32) vv (p3.toInt8.toInt32)))])
  refine Got.step (T' := T90) (g' := (mkF m 253 #[.val (.int p0), .val (.int p1), .val (.int p2), .val (.int p3), .val (.ref b11), .val (.int (Int32.ofNat d)), .val (.int (Int32.ofNat sn)), .val (.int vv), .val (.int (p3.toInt8.toInt32)), .val (.ref b36)] [(.ref b11), (.int (p3.toInt8.toInt32)), (.int vv), (.int (Int32.ofNat d)), (.int (Int32.ofNat sn)), (.int (1 : Int32)), (.ref b36)])) (fun tq kt => ?_) ?_
  · show Steps p.tables e below (T90.setTop (mkF m 237 #[.val (.int p0), .val (.int p1), .val (.int p2), .val (.int p3), .val (.ref b11), .val (.int (Int32.ofNat d)), .val (.int (Int32.ofNat sn)), .val (.int vv), .val (.int (p3.toInt8.toInt32)), .val (.ref b36)] [(.int (f2 (wr sn d vv (List.replicate 16 (p3.toInt8.toInt32))) sn d (0 : Int32) vv (p3.toInt8.toInt32)))])) _
    refine XS.ifNo X90.here hx rfl (hb hby at_237) rfl (XT.i0_eq_f (own_at_ne (i := 0) hsd2 (own_vv p1 hd hvv) (by decide))) ?_
    show Steps p.tables e below (T90.setTop (mkF m 240 #[.val (.int p0), .val (.int p1), .val (.int p2), .val (.int p3), .val (.ref b11), .val (.int (Int32.ofNat d)), .val (.int (Int32.ofNat sn)), .val (.int vv), .val (.int (p3.toInt8.toInt32)), .val (.ref b36)] [])) _
    refine XS.aload X90.here hx rfl (hb hby at_240) rfl rfl ?_
    show Steps p.tables e below (T90.setTop (mkF m 242 #[.val (.int p0), .val (.int p1), .val (.int p2), .val (.int p3), .val (.ref b11), .val (.int (Int32.ofNat d)), .val (.int (Int32.ofNat sn)), .val (.int vv), .val (.int (p3.toInt8.toInt32)), .val (.ref b36)] [(.ref b36)])) _
    refine XS.iconst X90.here hx rfl (hb hby at_242) ?_
    show Steps p.tables e below (T90.setTop (mkF m 243 #[.val (.int p0), .val (.int p1), .val (.int p2), .val (.int p3), .val (.ref b11), .val (.int (Int32.ofNat d)), .val (.int (Int32.ofNat sn)), .val (.int vv), .val (.int (p3.toInt8.toInt32)), .val (.ref b36)] [(.int (1 : Int32)), (.ref b36)])) _
    refine XS.iload X90.here hx rfl (hb hby at_243) rfl ?_
    show Steps p.tables e below (T90.setTop (mkF m 245 #[.val (.int p0), .val (.int p1), .val (.int p2), .val (.int p3), .val (.ref b11), .val (.int (Int32.ofNat d)), .val (.int (Int32.ofNat sn)), .val (.int vv), .val (.int (p3.toInt8.toInt32)), .val (.ref b36)] [(.int (Int32.ofNat sn)), (.int (1 : Int32)), (.ref b36)])) _
    refine XS.iload X90.here hx rfl (hb hby at_245) rfl ?_
    show Steps p.tables e below (T90.setTop (mkF m 247 #[.val (.int p0), .val (.int p1), .val (.int p2), .val (.int p3), .val (.ref b11), .val (.int (Int32.ofNat d)), .val (.int (Int32.ofNat sn)), .val (.int vv), .val (.int (p3.toInt8.toInt32)), .val (.ref b36)] [(.int (Int32.ofNat d)), (.int (Int32.ofNat sn)), (.int (1 : Int32)), (.ref b36)])) _
    refine XS.iload X90.here hx rfl (hb hby at_247) rfl ?_
    show Steps p.tables e below (T90.setTop (mkF m 249 #[.val (.int p0), .val (.int p1), .val (.int p2), .val (.int p3), .val (.ref b11), .val (.int (Int32.ofNat d)), .val (.int (Int32.ofNat sn)), .val (.int vv), .val (.int (p3.toInt8.toInt32)), .val (.ref b36)] [(.int vv), (.int (Int32.ofNat d)), (.int (Int32.ofNat sn)), (.int (1 : Int32)), (.ref b36)])) _
    refine XS.iload X90.here hx rfl (hb hby at_249) rfl ?_
    show Steps p.tables e below (T90.setTop (mkF m 251 #[.val (.int p0), .val (.int p1), .val (.int p2), .val (.int p3), .val (.ref b11), .val (.int (Int32.ofNat d)), .val (.int (Int32.ofNat sn)), .val (.int vv), .val (.int (p3.toInt8.toInt32)), .val (.ref b36)] [(.int (p3.toInt8.toInt32)), (.int vv), (.int (Int32.ofNat d)), (.int (Int32.ofNat sn)), (.int (1 : Int32)), (.ref b36)])) _
    refine XS.aload X90.here hx rfl (hb hby at_251) rfl rfl ?_
    exact kt
  obtain ⟨_, _, ⟨T91, L91, k91, n91⟩, -, X91, ⟨Lc91, hQ91, l91, y91, z91⟩, st91⟩ := Jvm.LawKit.callS X90 hx (y := (⟨"com/example/cytobridge/cytobridge/profile/TimeStampWriteDigitsPinLaw", "at", "([BIIIIB[J)Z"⟩ : MethodName)) hown (mvT hZ (hw _ (List.mem_of_getElem? (i := 17) rfl))) (mvT hZ (hw _ (List.mem_of_getElem? (i := 18) rfl))) (mvT hZ (hw _ (List.mem_of_getElem? (i := 19) rfl))) (mvT hZ (hw _ (List.mem_of_getElem? (i := 20) rfl))) (by decide) (backOf (W := 0) (rm2 l Z a0 hw [] b36 (1 : Int32) sn d vv (p3.toInt8.toInt32) b11 (wr sn d vv (List.replicate 16 (p3.toInt8.toInt32))) k36 k11 h87 n0 Z0_88 V87 Vpw_89 (by decide) hsd2) hZ (hw _ (List.mem_of_getElem? (i := 20) rfl)) (hw _ (List.mem_of_getElem? (i := 19) rfl)) (by decide) (by decide)) (g := (mkF m 253 #[.val (.int p0), .val (.int p1), .val (.int p2), .val (.int p3), .val (.ref b11), .val (.int (Int32.ofNat d)), .val (.int (Int32.ofNat sn)), .val (.int vv), .val (.int (p3.toInt8.toInt32)), .val (.ref b36)] [(.ref b11), (.int (p3.toInt8.toInt32)), (.int vv), (.int (Int32.ofNat d)), (.int (Int32.ofNat sn)), (.int (1 : Int32)), (.ref b36)])) rfl (by rw [hml]; rfl) (argsL := [(.ref b36), (.int (1 : Int32)), (.int (Int32.ofNat sn)), (.int (Int32.ofNat d)), (.int vv), (.int (p3.toInt8.toInt32)), (.ref b11)]) (rest := []) (lenOf pd_1 rfl) rfl (by show 2 * 0 + _ ≤ _; exact Nat.le_of_eq rfl) (hb hby at_253) (fun _ _ => ⟨rfl, e90, (by decide : 2 + 0 ≤ _), (by decide : 27 + 0 ≤ _)⟩)
  dsimp only [Pt.U, Pt.locs, Pt.cells, Pt.slots] at X91 l91 y91 z91 st91 hQ91
  subst y91 z91
  obtain ⟨rfl, Nq91, e91⟩ := hQ91
  have N91 : Fr n0 L91 := by rw [l91]; exact Fr.app N90 Nq91
  refine Got.step st91 ?_
  show Got p e below s _ _ _ _ T91 (mkF m 256 #[.val (.int p0), .val (.int p1), .val (.int p2), .val (.int p3), .val (.ref b11), .val (.int (Int32.ofNat d)), .val (.int (Int32.ofNat sn)), .val (.int vv), .val (.int (p3.toInt8.toInt32)), .val (.ref b36)] [(.int (f2 (wr sn d vv (List.replicate 16 (p3.toInt8.toInt32))) sn d (1 : Int32) vv (p3.toInt8.toInt32)))])
  refine Got.step (T' := T91) (g' := (mkF m 272 #[.val (.int p0), .val (.int p1), .val (.int p2), .val (.int p3), .val (.ref b11), .val (.int (Int32.ofNat d)), .val (.int (Int32.ofNat sn)), .val (.int vv), .val (.int (p3.toInt8.toInt32)), .val (.ref b36)] [(.ref b11), (.int (p3.toInt8.toInt32)), (.int vv), (.int (Int32.ofNat d)), (.int (Int32.ofNat sn)), (.int (2 : Int32)), (.ref b36)])) (fun tq kt => ?_) ?_
  · show Steps p.tables e below (T91.setTop (mkF m 256 #[.val (.int p0), .val (.int p1), .val (.int p2), .val (.int p3), .val (.ref b11), .val (.int (Int32.ofNat d)), .val (.int (Int32.ofNat sn)), .val (.int vv), .val (.int (p3.toInt8.toInt32)), .val (.ref b36)] [(.int (f2 (wr sn d vv (List.replicate 16 (p3.toInt8.toInt32))) sn d (1 : Int32) vv (p3.toInt8.toInt32)))])) _
    refine XS.ifNo X91.here hx rfl (hb hby at_256) rfl (XT.i0_eq_f (own_at_ne (i := 1) hsd2 (own_vv p1 hd hvv) (by decide))) ?_
    show Steps p.tables e below (T91.setTop (mkF m 259 #[.val (.int p0), .val (.int p1), .val (.int p2), .val (.int p3), .val (.ref b11), .val (.int (Int32.ofNat d)), .val (.int (Int32.ofNat sn)), .val (.int vv), .val (.int (p3.toInt8.toInt32)), .val (.ref b36)] [])) _
    refine XS.aload X91.here hx rfl (hb hby at_259) rfl rfl ?_
    show Steps p.tables e below (T91.setTop (mkF m 261 #[.val (.int p0), .val (.int p1), .val (.int p2), .val (.int p3), .val (.ref b11), .val (.int (Int32.ofNat d)), .val (.int (Int32.ofNat sn)), .val (.int vv), .val (.int (p3.toInt8.toInt32)), .val (.ref b36)] [(.ref b36)])) _
    refine XS.iconst X91.here hx rfl (hb hby at_261) ?_
    show Steps p.tables e below (T91.setTop (mkF m 262 #[.val (.int p0), .val (.int p1), .val (.int p2), .val (.int p3), .val (.ref b11), .val (.int (Int32.ofNat d)), .val (.int (Int32.ofNat sn)), .val (.int vv), .val (.int (p3.toInt8.toInt32)), .val (.ref b36)] [(.int (2 : Int32)), (.ref b36)])) _
    refine XS.iload X91.here hx rfl (hb hby at_262) rfl ?_
    show Steps p.tables e below (T91.setTop (mkF m 264 #[.val (.int p0), .val (.int p1), .val (.int p2), .val (.int p3), .val (.ref b11), .val (.int (Int32.ofNat d)), .val (.int (Int32.ofNat sn)), .val (.int vv), .val (.int (p3.toInt8.toInt32)), .val (.ref b36)] [(.int (Int32.ofNat sn)), (.int (2 : Int32)), (.ref b36)])) _
    refine XS.iload X91.here hx rfl (hb hby at_264) rfl ?_
    show Steps p.tables e below (T91.setTop (mkF m 266 #[.val (.int p0), .val (.int p1), .val (.int p2), .val (.int p3), .val (.ref b11), .val (.int (Int32.ofNat d)), .val (.int (Int32.ofNat sn)), .val (.int vv), .val (.int (p3.toInt8.toInt32)), .val (.ref b36)] [(.int (Int32.ofNat d)), (.int (Int32.ofNat sn)), (.int (2 : Int32)), (.ref b36)])) _
    refine XS.iload X91.here hx rfl (hb hby at_266) rfl ?_
    show Steps p.tables e below (T91.setTop (mkF m 268 #[.val (.int p0), .val (.int p1), .val (.int p2), .val (.int p3), .val (.ref b11), .val (.int (Int32.ofNat d)), .val (.int (Int32.ofNat sn)), .val (.int vv), .val (.int (p3.toInt8.toInt32)), .val (.ref b36)] [(.int vv), (.int (Int32.ofNat d)), (.int (Int32.ofNat sn)), (.int (2 : Int32)), (.ref b36)])) _
    refine XS.iload X91.here hx rfl (hb hby at_268) rfl ?_
    show Steps p.tables e below (T91.setTop (mkF m 270 #[.val (.int p0), .val (.int p1), .val (.int p2), .val (.int p3), .val (.ref b11), .val (.int (Int32.ofNat d)), .val (.int (Int32.ofNat sn)), .val (.int vv), .val (.int (p3.toInt8.toInt32)), .val (.ref b36)] [(.int (p3.toInt8.toInt32)), (.int vv), (.int (Int32.ofNat d)), (.int (Int32.ofNat sn)), (.int (2 : Int32)), (.ref b36)])) _
    refine XS.aload X91.here hx rfl (hb hby at_270) rfl rfl ?_
    exact kt
  obtain ⟨_, _, ⟨T92, L92, k92, n92⟩, -, X92, ⟨Lc92, hQ92, l92, y92, z92⟩, st92⟩ := Jvm.LawKit.callS X91 hx (y := (⟨"com/example/cytobridge/cytobridge/profile/TimeStampWriteDigitsPinLaw", "at", "([BIIIIB[J)Z"⟩ : MethodName)) hown (mvT hZ (hw _ (List.mem_of_getElem? (i := 17) rfl))) (mvT hZ (hw _ (List.mem_of_getElem? (i := 18) rfl))) (mvT hZ (hw _ (List.mem_of_getElem? (i := 19) rfl))) (mvT hZ (hw _ (List.mem_of_getElem? (i := 20) rfl))) (by decide) (backOf (W := 0) (rm2 l Z a0 hw [] b36 (2 : Int32) sn d vv (p3.toInt8.toInt32) b11 (wr sn d vv (List.replicate 16 (p3.toInt8.toInt32))) k36 k11 h87 n0 Z0_88 V87 Vpw_89 (by decide) hsd2) hZ (hw _ (List.mem_of_getElem? (i := 20) rfl)) (hw _ (List.mem_of_getElem? (i := 19) rfl)) (by decide) (by decide)) (g := (mkF m 272 #[.val (.int p0), .val (.int p1), .val (.int p2), .val (.int p3), .val (.ref b11), .val (.int (Int32.ofNat d)), .val (.int (Int32.ofNat sn)), .val (.int vv), .val (.int (p3.toInt8.toInt32)), .val (.ref b36)] [(.ref b11), (.int (p3.toInt8.toInt32)), (.int vv), (.int (Int32.ofNat d)), (.int (Int32.ofNat sn)), (.int (2 : Int32)), (.ref b36)])) rfl (by rw [hml]; rfl) (argsL := [(.ref b36), (.int (2 : Int32)), (.int (Int32.ofNat sn)), (.int (Int32.ofNat d)), (.int vv), (.int (p3.toInt8.toInt32)), (.ref b11)]) (rest := []) (lenOf pd_1 rfl) rfl (by show 2 * 0 + _ ≤ _; exact Nat.le_of_eq rfl) (hb hby at_272) (fun _ _ => ⟨rfl, e91, (by decide : 2 + 0 ≤ _), (by decide : 27 + 0 ≤ _)⟩)
  dsimp only [Pt.U, Pt.locs, Pt.cells, Pt.slots] at X92 l92 y92 z92 st92 hQ92
  subst y92 z92
  obtain ⟨rfl, Nq92, e92⟩ := hQ92
  have N92 : Fr n0 L92 := by rw [l92]; exact Fr.app N91 Nq92
  refine Got.step st92 ?_
  show Got p e below s _ _ _ _ T92 (mkF m 275 #[.val (.int p0), .val (.int p1), .val (.int p2), .val (.int p3), .val (.ref b11), .val (.int (Int32.ofNat d)), .val (.int (Int32.ofNat sn)), .val (.int vv), .val (.int (p3.toInt8.toInt32)), .val (.ref b36)] [(.int (f2 (wr sn d vv (List.replicate 16 (p3.toInt8.toInt32))) sn d (2 : Int32) vv (p3.toInt8.toInt32)))])
  refine Got.step (T' := T92) (g' := (mkF m 291 #[.val (.int p0), .val (.int p1), .val (.int p2), .val (.int p3), .val (.ref b11), .val (.int (Int32.ofNat d)), .val (.int (Int32.ofNat sn)), .val (.int vv), .val (.int (p3.toInt8.toInt32)), .val (.ref b36)] [(.ref b11), (.int (p3.toInt8.toInt32)), (.int vv), (.int (Int32.ofNat d)), (.int (Int32.ofNat sn)), (.int (3 : Int32)), (.ref b36)])) (fun tq kt => ?_) ?_
  · show Steps p.tables e below (T92.setTop (mkF m 275 #[.val (.int p0), .val (.int p1), .val (.int p2), .val (.int p3), .val (.ref b11), .val (.int (Int32.ofNat d)), .val (.int (Int32.ofNat sn)), .val (.int vv), .val (.int (p3.toInt8.toInt32)), .val (.ref b36)] [(.int (f2 (wr sn d vv (List.replicate 16 (p3.toInt8.toInt32))) sn d (2 : Int32) vv (p3.toInt8.toInt32)))])) _
    refine XS.ifNo X92.here hx rfl (hb hby at_275) rfl (XT.i0_eq_f (own_at_ne (i := 2) hsd2 (own_vv p1 hd hvv) (by decide))) ?_
    show Steps p.tables e below (T92.setTop (mkF m 278 #[.val (.int p0), .val (.int p1), .val (.int p2), .val (.int p3), .val (.ref b11), .val (.int (Int32.ofNat d)), .val (.int (Int32.ofNat sn)), .val (.int vv), .val (.int (p3.toInt8.toInt32)), .val (.ref b36)] [])) _
    refine XS.aload X92.here hx rfl (hb hby at_278) rfl rfl ?_
    show Steps p.tables e below (T92.setTop (mkF m 280 #[.val (.int p0), .val (.int p1), .val (.int p2), .val (.int p3), .val (.ref b11), .val (.int (Int32.ofNat d)), .val (.int (Int32.ofNat sn)), .val (.int vv), .val (.int (p3.toInt8.toInt32)), .val (.ref b36)] [(.ref b36)])) _
    refine XS.iconst X92.here hx rfl (hb hby at_280) ?_
    show Steps p.tables e below (T92.setTop (mkF m 281 #[.val (.int p0), .val (.int p1), .val (.int p2), .val (.int p3), .val (.ref b11), .val (.int (Int32.ofNat d)), .val (.int (Int32.ofNat sn)), .val (.int vv), .val (.int (p3.toInt8.toInt32)), .val (.ref b36)] [(.int (3 : Int32)), (.ref b36)])) _
    refine XS.iload X92.here hx rfl (hb hby at_281) rfl ?_
    show Steps p.tables e below (T92.setTop (mkF m 283 #[.val (.int p0), .val (.int p1), .val (.int p2), .val (.int p3), .val (.ref b11), .val (.int (Int32.ofNat d)), .val (.int (Int32.ofNat sn)), .val (.int vv), .val (.int (p3.toInt8.toInt32)), .val (.ref b36)] [(.int (Int32.ofNat sn)), (.int (3 : Int32)), (.ref b36)])) _
    refine XS.iload X92.here hx rfl (hb hby at_283) rfl ?_
    show Steps p.tables e below (T92.setTop (mkF m 285 #[.val (.int p0), .val (.int p1), .val (.int p2), .val (.int p3), .val (.ref b11), .val (.int (Int32.ofNat d)), .val (.int (Int32.ofNat sn)), .val (.int vv), .val (.int (p3.toInt8.toInt32)), .val (.ref b36)] [(.int (Int32.ofNat d)), (.int (Int32.ofNat sn)), (.int (3 : Int32)), (.ref b36)])) _
    refine XS.iload X92.here hx rfl (hb hby at_285) rfl ?_
    show Steps p.tables e below (T92.setTop (mkF m 287 #[.val (.int p0), .val (.int p1), .val (.int p2), .val (.int p3), .val (.ref b11), .val (.int (Int32.ofNat d)), .val (.int (Int32.ofNat sn)), .val (.int vv), .val (.int (p3.toInt8.toInt32)), .val (.ref b36)] [(.int vv), (.int (Int32.ofNat d)), (.int (Int32.ofNat sn)), (.int (3 : Int32)), (.ref b36)])) _
    refine XS.iload X92.here hx rfl (hb hby at_287) rfl ?_
    show Steps p.tables e below (T92.setTop (mkF m 289 #[.val (.int p0), .val (.int p1), .val (.int p2), .val (.int p3), .val (.ref b11), .val (.int (Int32.ofNat d)), .val (.int (Int32.ofNat sn)), .val (.int vv), .val (.int (p3.toInt8.toInt32)), .val (.ref b36)] [(.int (p3.toInt8.toInt32)), (.int vv), (.int (Int32.ofNat d)), (.int (Int32.ofNat sn)), (.int (3 : Int32)), (.ref b36)])) _
    refine XS.aload X92.here hx rfl (hb hby at_289) rfl rfl ?_
    exact kt
  obtain ⟨_, _, ⟨T93, L93, k93, n93⟩, -, X93, ⟨Lc93, hQ93, l93, y93, z93⟩, st93⟩ := Jvm.LawKit.callS X92 hx (y := (⟨"com/example/cytobridge/cytobridge/profile/TimeStampWriteDigitsPinLaw", "at", "([BIIIIB[J)Z"⟩ : MethodName)) hown (mvT hZ (hw _ (List.mem_of_getElem? (i := 17) rfl))) (mvT hZ (hw _ (List.mem_of_getElem? (i := 18) rfl))) (mvT hZ (hw _ (List.mem_of_getElem? (i := 19) rfl))) (mvT hZ (hw _ (List.mem_of_getElem? (i := 20) rfl))) (by decide) (backOf (W := 0) (rm2 l Z a0 hw [] b36 (3 : Int32) sn d vv (p3.toInt8.toInt32) b11 (wr sn d vv (List.replicate 16 (p3.toInt8.toInt32))) k36 k11 h87 n0 Z0_88 V87 Vpw_89 (by decide) hsd2) hZ (hw _ (List.mem_of_getElem? (i := 20) rfl)) (hw _ (List.mem_of_getElem? (i := 19) rfl)) (by decide) (by decide)) (g := (mkF m 291 #[.val (.int p0), .val (.int p1), .val (.int p2), .val (.int p3), .val (.ref b11), .val (.int (Int32.ofNat d)), .val (.int (Int32.ofNat sn)), .val (.int vv), .val (.int (p3.toInt8.toInt32)), .val (.ref b36)] [(.ref b11), (.int (p3.toInt8.toInt32)), (.int vv), (.int (Int32.ofNat d)), (.int (Int32.ofNat sn)), (.int (3 : Int32)), (.ref b36)])) rfl (by rw [hml]; rfl) (argsL := [(.ref b36), (.int (3 : Int32)), (.int (Int32.ofNat sn)), (.int (Int32.ofNat d)), (.int vv), (.int (p3.toInt8.toInt32)), (.ref b11)]) (rest := []) (lenOf pd_1 rfl) rfl (by show 2 * 0 + _ ≤ _; exact Nat.le_of_eq rfl) (hb hby at_291) (fun _ _ => ⟨rfl, e92, (by decide : 2 + 0 ≤ _), (by decide : 27 + 0 ≤ _)⟩)
  dsimp only [Pt.U, Pt.locs, Pt.cells, Pt.slots] at X93 l93 y93 z93 st93 hQ93
  subst y93 z93
  obtain ⟨rfl, Nq93, e93⟩ := hQ93
  have N93 : Fr n0 L93 := by rw [l93]; exact Fr.app N92 Nq93
  refine Got.step st93 ?_
  show Got p e below s _ _ _ _ T93 (mkF m 294 #[.val (.int p0), .val (.int p1), .val (.int p2), .val (.int p3), .val (.ref b11), .val (.int (Int32.ofNat d)), .val (.int (Int32.ofNat sn)), .val (.int vv), .val (.int (p3.toInt8.toInt32)), .val (.ref b36)] [(.int (f2 (wr sn d vv (List.replicate 16 (p3.toInt8.toInt32))) sn d (3 : Int32) vv (p3.toInt8.toInt32)))])
  refine Got.step (T' := T93) (g' := (mkF m 310 #[.val (.int p0), .val (.int p1), .val (.int p2), .val (.int p3), .val (.ref b11), .val (.int (Int32.ofNat d)), .val (.int (Int32.ofNat sn)), .val (.int vv), .val (.int (p3.toInt8.toInt32)), .val (.ref b36)] [(.ref b11), (.int (p3.toInt8.toInt32)), (.int vv), (.int (Int32.ofNat d)), (.int (Int32.ofNat sn)), (.int (4 : Int32)), (.ref b36)])) (fun tq kt => ?_) ?_
  · show Steps p.tables e below (T93.setTop (mkF m 294 #[.val (.int p0), .val (.int p1), .val (.int p2), .val (.int p3), .val (.ref b11), .val (.int (Int32.ofNat d)), .val (.int (Int32.ofNat sn)), .val (.int vv), .val (.int (p3.toInt8.toInt32)), .val (.ref b36)] [(.int (f2 (wr sn d vv (List.replicate 16 (p3.toInt8.toInt32))) sn d (3 : Int32) vv (p3.toInt8.toInt32)))])) _
    refine XS.ifNo X93.here hx rfl (hb hby at_294) rfl (XT.i0_eq_f (own_at_ne (i := 3) hsd2 (own_vv p1 hd hvv) (by decide))) ?_
    show Steps p.tables e below (T93.setTop (mkF m 297 #[.val (.int p0), .val (.int p1), .val (.int p2), .val (.int p3), .val (.ref b11), .val (.int (Int32.ofNat d)), .val (.int (Int32.ofNat sn)), .val (.int vv), .val (.int (p3.toInt8.toInt32)), .val (.ref b36)] [])) _
    refine XS.aload X93.here hx rfl (hb hby at_297) rfl rfl ?_
    show Steps p.tables e below (T93.setTop (mkF m 299 #[.val (.int p0), .val (.int p1), .val (.int p2), .val (.int p3), .val (.ref b11), .val (.int (Int32.ofNat d)), .val (.int (Int32.ofNat sn)), .val (.int vv), .val (.int (p3.toInt8.toInt32)), .val (.ref b36)] [(.ref b36)])) _
    refine XS.iconst X93.here hx rfl (hb hby at_299) ?_
    show Steps p.tables e below (T93.setTop (mkF m 300 #[.val (.int p0), .val (.int p1), .val (.int p2), .val (.int p3), .val (.ref b11), .val (.int (Int32.ofNat d)), .val (.int (Int32.ofNat sn)), .val (.int vv), .val (.int (p3.toInt8.toInt32)), .val (.ref b36)] [(.int (4 : Int32)), (.ref b36)])) _
    refine XS.iload X93.here hx rfl (hb hby at_300) rfl ?_
    show Steps p.tables e below (T93.setTop (mkF m 302 #[.val (.int p0), .val (.int p1), .val (.int p2), .val (.int p3), .val (.ref b11), .val (.int (Int32.ofNat d)), .val (.int (Int32.ofNat sn)), .val (.int vv), .val (.int (p3.toInt8.toInt32)), .val (.ref b36)] [(.int (Int32.ofNat sn)), (.int (4 : Int32)), (.ref b36)])) _
    refine XS.iload X93.here hx rfl (hb hby at_302) rfl ?_
    show Steps p.tables e below (T93.setTop (mkF m 304 #[.val (.int p0), .val (.int p1), .val (.int p2), .val (.int p3), .val (.ref b11), .val (.int (Int32.ofNat d)), .val (.int (Int32.ofNat sn)), .val (.int vv), .val (.int (p3.toInt8.toInt32)), .val (.ref b36)] [(.int (Int32.ofNat d)), (.int (Int32.ofNat sn)), (.int (4 : Int32)), (.ref b36)])) _
    refine XS.iload X93.here hx rfl (hb hby at_304) rfl ?_
    show Steps p.tables e below (T93.setTop (mkF m 306 #[.val (.int p0), .val (.int p1), .val (.int p2), .val (.int p3), .val (.ref b11), .val (.int (Int32.ofNat d)), .val (.int (Int32.ofNat sn)), .val (.int vv), .val (.int (p3.toInt8.toInt32)), .val (.ref b36)] [(.int vv), (.int (Int32.ofNat d)), (.int (Int32.ofNat sn)), (.int (4 : Int32)), (.ref b36)])) _
    refine XS.iload X93.here hx rfl (hb hby at_306) rfl ?_
    show Steps p.tables e below (T93.setTop (mkF m 308 #[.val (.int p0), .val (.int p1), .val (.int p2), .val (.int p3), .val (.ref b11), .val (.int (Int32.ofNat d)), .val (.int (Int32.ofNat sn)), .val (.int vv), .val (.int (p3.toInt8.toInt32)), .val (.ref b36)] [(.int (p3.toInt8.toInt32)), (.int vv), (.int (Int32.ofNat d)), (.int (Int32.ofNat sn)), (.int (4 : Int32)), (.ref b36)])) _
    refine XS.aload X93.here hx rfl (hb hby at_308) rfl rfl ?_
    exact kt
  obtain ⟨_, _, ⟨T94, L94, k94, n94⟩, -, X94, ⟨Lc94, hQ94, l94, y94, z94⟩, st94⟩ := Jvm.LawKit.callS X93 hx (y := (⟨"com/example/cytobridge/cytobridge/profile/TimeStampWriteDigitsPinLaw", "at", "([BIIIIB[J)Z"⟩ : MethodName)) hown (mvT hZ (hw _ (List.mem_of_getElem? (i := 17) rfl))) (mvT hZ (hw _ (List.mem_of_getElem? (i := 18) rfl))) (mvT hZ (hw _ (List.mem_of_getElem? (i := 19) rfl))) (mvT hZ (hw _ (List.mem_of_getElem? (i := 20) rfl))) (by decide) (backOf (W := 0) (rm2 l Z a0 hw [] b36 (4 : Int32) sn d vv (p3.toInt8.toInt32) b11 (wr sn d vv (List.replicate 16 (p3.toInt8.toInt32))) k36 k11 h87 n0 Z0_88 V87 Vpw_89 (by decide) hsd2) hZ (hw _ (List.mem_of_getElem? (i := 20) rfl)) (hw _ (List.mem_of_getElem? (i := 19) rfl)) (by decide) (by decide)) (g := (mkF m 310 #[.val (.int p0), .val (.int p1), .val (.int p2), .val (.int p3), .val (.ref b11), .val (.int (Int32.ofNat d)), .val (.int (Int32.ofNat sn)), .val (.int vv), .val (.int (p3.toInt8.toInt32)), .val (.ref b36)] [(.ref b11), (.int (p3.toInt8.toInt32)), (.int vv), (.int (Int32.ofNat d)), (.int (Int32.ofNat sn)), (.int (4 : Int32)), (.ref b36)])) rfl (by rw [hml]; rfl) (argsL := [(.ref b36), (.int (4 : Int32)), (.int (Int32.ofNat sn)), (.int (Int32.ofNat d)), (.int vv), (.int (p3.toInt8.toInt32)), (.ref b11)]) (rest := []) (lenOf pd_1 rfl) rfl (by show 2 * 0 + _ ≤ _; exact Nat.le_of_eq rfl) (hb hby at_310) (fun _ _ => ⟨rfl, e93, (by decide : 2 + 0 ≤ _), (by decide : 27 + 0 ≤ _)⟩)
  dsimp only [Pt.U, Pt.locs, Pt.cells, Pt.slots] at X94 l94 y94 z94 st94 hQ94
  subst y94 z94
  obtain ⟨rfl, Nq94, e94⟩ := hQ94
  have N94 : Fr n0 L94 := by rw [l94]; exact Fr.app N93 Nq94
  refine Got.step st94 ?_
  show Got p e below s _ _ _ _ T94 (mkF m 313 #[.val (.int p0), .val (.int p1), .val (.int p2), .val (.int p3), .val (.ref b11), .val (.int (Int32.ofNat d)), .val (.int (Int32.ofNat sn)), .val (.int vv), .val (.int (p3.toInt8.toInt32)), .val (.ref b36)] [(.int (f2 (wr sn d vv (List.replicate 16 (p3.toInt8.toInt32))) sn d (4 : Int32) vv (p3.toInt8.toInt32)))])
  refine Got.step (T' := T94) (g' := (mkF m 329 #[.val (.int p0), .val (.int p1), .val (.int p2), .val (.int p3), .val (.ref b11), .val (.int (Int32.ofNat d)), .val (.int (Int32.ofNat sn)), .val (.int vv), .val (.int (p3.toInt8.toInt32)), .val (.ref b36)] [(.ref b11), (.int (p3.toInt8.toInt32)), (.int vv), (.int (Int32.ofNat d)), (.int (Int32.ofNat sn)), (.int (5 : Int32)), (.ref b36)])) (fun tq kt => ?_) ?_
  · show Steps p.tables e below (T94.setTop (mkF m 313 #[.val (.int p0), .val (.int p1), .val (.int p2), .val (.int p3), .val (.ref b11), .val (.int (Int32.ofNat d)), .val (.int (Int32.ofNat sn)), .val (.int vv), .val (.int (p3.toInt8.toInt32)), .val (.ref b36)] [(.int (f2 (wr sn d vv (List.replicate 16 (p3.toInt8.toInt32))) sn d (4 : Int32) vv (p3.toInt8.toInt32)))])) _
    refine XS.ifNo X94.here hx rfl (hb hby at_313) rfl (XT.i0_eq_f (own_at_ne (i := 4) hsd2 (own_vv p1 hd hvv) (by decide))) ?_
    show Steps p.tables e below (T94.setTop (mkF m 316 #[.val (.int p0), .val (.int p1), .val (.int p2), .val (.int p3), .val (.ref b11), .val (.int (Int32.ofNat d)), .val (.int (Int32.ofNat sn)), .val (.int vv), .val (.int (p3.toInt8.toInt32)), .val (.ref b36)] [])) _
    refine XS.aload X94.here hx rfl (hb hby at_316) rfl rfl ?_
    show Steps p.tables e below (T94.setTop (mkF m 318 #[.val (.int p0), .val (.int p1), .val (.int p2), .val (.int p3), .val (.ref b11), .val (.int (Int32.ofNat d)), .val (.int (Int32.ofNat sn)), .val (.int vv), .val (.int (p3.toInt8.toInt32)), .val (.ref b36)] [(.ref b36)])) _
    refine XS.iconst X94.here hx rfl (hb hby at_318) ?_
    show Steps p.tables e below (T94.setTop (mkF m 319 #[.val (.int p0), .val (.int p1), .val (.int p2), .val (.int p3), .val (.ref b11), .val (.int (Int32.ofNat d)), .val (.int (Int32.ofNat sn)), .val (.int vv), .val (.int (p3.toInt8.toInt32)), .val (.ref b36)] [(.int (5 : Int32)), (.ref b36)])) _
    refine XS.iload X94.here hx rfl (hb hby at_319) rfl ?_
    show Steps p.tables e below (T94.setTop (mkF m 321 #[.val (.int p0), .val (.int p1), .val (.int p2), .val (.int p3), .val (.ref b11), .val (.int (Int32.ofNat d)), .val (.int (Int32.ofNat sn)), .val (.int vv), .val (.int (p3.toInt8.toInt32)), .val (.ref b36)] [(.int (Int32.ofNat sn)), (.int (5 : Int32)), (.ref b36)])) _
    refine XS.iload X94.here hx rfl (hb hby at_321) rfl ?_
    show Steps p.tables e below (T94.setTop (mkF m 323 #[.val (.int p0), .val (.int p1), .val (.int p2), .val (.int p3), .val (.ref b11), .val (.int (Int32.ofNat d)), .val (.int (Int32.ofNat sn)), .val (.int vv), .val (.int (p3.toInt8.toInt32)), .val (.ref b36)] [(.int (Int32.ofNat d)), (.int (Int32.ofNat sn)), (.int (5 : Int32)), (.ref b36)])) _
    refine XS.iload X94.here hx rfl (hb hby at_323) rfl ?_
    show Steps p.tables e below (T94.setTop (mkF m 325 #[.val (.int p0), .val (.int p1), .val (.int p2), .val (.int p3), .val (.ref b11), .val (.int (Int32.ofNat d)), .val (.int (Int32.ofNat sn)), .val (.int vv), .val (.int (p3.toInt8.toInt32)), .val (.ref b36)] [(.int vv), (.int (Int32.ofNat d)), (.int (Int32.ofNat sn)), (.int (5 : Int32)), (.ref b36)])) _
    refine XS.iload X94.here hx rfl (hb hby at_325) rfl ?_
    show Steps p.tables e below (T94.setTop (mkF m 327 #[.val (.int p0), .val (.int p1), .val (.int p2), .val (.int p3), .val (.ref b11), .val (.int (Int32.ofNat d)), .val (.int (Int32.ofNat sn)), .val (.int vv), .val (.int (p3.toInt8.toInt32)), .val (.ref b36)] [(.int (p3.toInt8.toInt32)), (.int vv), (.int (Int32.ofNat d)), (.int (Int32.ofNat sn)), (.int (5 : Int32)), (.ref b36)])) _
    refine XS.aload X94.here hx rfl (hb hby at_327) rfl rfl ?_
    exact kt
  obtain ⟨_, _, ⟨T95, L95, k95, n95⟩, -, X95, ⟨Lc95, hQ95, l95, y95, z95⟩, st95⟩ := Jvm.LawKit.callS X94 hx (y := (⟨"com/example/cytobridge/cytobridge/profile/TimeStampWriteDigitsPinLaw", "at", "([BIIIIB[J)Z"⟩ : MethodName)) hown (mvT hZ (hw _ (List.mem_of_getElem? (i := 17) rfl))) (mvT hZ (hw _ (List.mem_of_getElem? (i := 18) rfl))) (mvT hZ (hw _ (List.mem_of_getElem? (i := 19) rfl))) (mvT hZ (hw _ (List.mem_of_getElem? (i := 20) rfl))) (by decide) (backOf (W := 0) (rm2 l Z a0 hw [] b36 (5 : Int32) sn d vv (p3.toInt8.toInt32) b11 (wr sn d vv (List.replicate 16 (p3.toInt8.toInt32))) k36 k11 h87 n0 Z0_88 V87 Vpw_89 (by decide) hsd2) hZ (hw _ (List.mem_of_getElem? (i := 20) rfl)) (hw _ (List.mem_of_getElem? (i := 19) rfl)) (by decide) (by decide)) (g := (mkF m 329 #[.val (.int p0), .val (.int p1), .val (.int p2), .val (.int p3), .val (.ref b11), .val (.int (Int32.ofNat d)), .val (.int (Int32.ofNat sn)), .val (.int vv), .val (.int (p3.toInt8.toInt32)), .val (.ref b36)] [(.ref b11), (.int (p3.toInt8.toInt32)), (.int vv), (.int (Int32.ofNat d)), (.int (Int32.ofNat sn)), (.int (5 : Int32)), (.ref b36)])) rfl (by rw [hml]; rfl) (argsL := [(.ref b36), (.int (5 : Int32)), (.int (Int32.ofNat sn)), (.int (Int32.ofNat d)), (.int vv), (.int (p3.toInt8.toInt32)), (.ref b11)]) (rest := []) (lenOf pd_1 rfl) rfl (by show 2 * 0 + _ ≤ _; exact Nat.le_of_eq rfl) (hb hby at_329) (fun _ _ => ⟨rfl, e94, (by decide : 2 + 0 ≤ _), (by decide : 27 + 0 ≤ _)⟩)
  dsimp only [Pt.U, Pt.locs, Pt.cells, Pt.slots] at X95 l95 y95 z95 st95 hQ95
  subst y95 z95
  obtain ⟨rfl, Nq95, e95⟩ := hQ95
  have N95 : Fr n0 L95 := by rw [l95]; exact Fr.app N94 Nq95
  refine Got.step st95 ?_
  show Got p e below s _ _ _ _ T95 (mkF m 332 #[.val (.int p0), .val (.int p1), .val (.int p2), .val (.int p3), .val (.ref b11), .val (.int (Int32.ofNat d)), .val (.int (Int32.ofNat sn)), .val (.int vv), .val (.int (p3.toInt8.toInt32)), .val (.ref b36)] [(.int (f2 (wr sn d vv (List.replicate 16 (p3.toInt8.toInt32))) sn d (5 : Int32) vv (p3.toInt8.toInt32)))])
  refine Got.step (T' := T95) (g' := (mkF m 349 #[.val (.int p0), .val (.int p1), .val (.int p2), .val (.int p3), .val (.ref b11), .val (.int (Int32.ofNat d)), .val (.int (Int32.ofNat sn)), .val (.int vv), .val (.int (p3.toInt8.toInt32)), .val (.ref b36)] [(.ref b11), (.int (p3.toInt8.toInt32)), (.int vv), (.int (Int32.ofNat d)), (.int (Int32.ofNat sn)), (.int (6 : Int32)), (.ref b36)])) (fun tq kt => ?_) ?_
  · show Steps p.tables e below (T95.setTop (mkF m 332 #[.val (.int p0), .val (.int p1), .val (.int p2), .val (.int p3), .val (.ref b11), .val (.int (Int32.ofNat d)), .val (.int (Int32.ofNat sn)), .val (.int vv), .val (.int (p3.toInt8.toInt32)), .val (.ref b36)] [(.int (f2 (wr sn d vv (List.replicate 16 (p3.toInt8.toInt32))) sn d (5 : Int32) vv (p3.toInt8.toInt32)))])) _
    refine XS.ifNo X95.here hx rfl (hb hby at_332) rfl (XT.i0_eq_f (own_at_ne (i := 5) hsd2 (own_vv p1 hd hvv) (by decide))) ?_
    show Steps p.tables e below (T95.setTop (mkF m 335 #[.val (.int p0), .val (.int p1), .val (.int p2), .val (.int p3), .val (.ref b11), .val (.int (Int32.ofNat d)), .val (.int (Int32.ofNat sn)), .val (.int vv), .val (.int (p3.toInt8.toInt32)), .val (.ref b36)] [])) _
    refine XS.aload X95.here hx rfl (hb hby at_335) rfl rfl ?_
    show Steps p.tables e below (T95.setTop (mkF m 337 #[.val (.int p0), .val (.int p1), .val (.int p2), .val (.int p3), .val (.ref b11), .val (.int (Int32.ofNat d)), .val (.int (Int32.ofNat sn)), .val (.int vv), .val (.int (p3.toInt8.toInt32)), .val (.ref b36)] [(.ref b36)])) _
    refine XS.bipush X95.here hx rfl (hb hby at_337) ?_
    show Steps p.tables e below (T95.setTop (mkF m 339 #[.val (.int p0), .val (.int p1), .val (.int p2), .val (.int p3), .val (.ref b11), .val (.int (Int32.ofNat d)), .val (.int (Int32.ofNat sn)), .val (.int vv), .val (.int (p3.toInt8.toInt32)), .val (.ref b36)] [(.int (6 : Int32)), (.ref b36)])) _
    refine XS.iload X95.here hx rfl (hb hby at_339) rfl ?_
    show Steps p.tables e below (T95.setTop (mkF m 341 #[.val (.int p0), .val (.int p1), .val (.int p2), .val (.int p3), .val (.ref b11), .val (.int (Int32.ofNat d)), .val (.int (Int32.ofNat sn)), .val (.int vv), .val (.int (p3.toInt8.toInt32)), .val (.ref b36)] [(.int (Int32.ofNat sn)), (.int (6 : Int32)), (.ref b36)])) _
    refine XS.iload X95.here hx rfl (hb hby at_341) rfl ?_
    show Steps p.tables e below (T95.setTop (mkF m 343 #[.val (.int p0), .val (.int p1), .val (.int p2), .val (.int p3), .val (.ref b11), .val (.int (Int32.ofNat d)), .val (.int (Int32.ofNat sn)), .val (.int vv), .val (.int (p3.toInt8.toInt32)), .val (.ref b36)] [(.int (Int32.ofNat d)), (.int (Int32.ofNat sn)), (.int (6 : Int32)), (.ref b36)])) _
    refine XS.iload X95.here hx rfl (hb hby at_343) rfl ?_
    show Steps p.tables e below (T95.setTop (mkF m 345 #[.val (.int p0), .val (.int p1), .val (.int p2), .val (.int p3), .val (.ref b11), .val (.int (Int32.ofNat d)), .val (.int (Int32.ofNat sn)), .val (.int vv), .val (.int (p3.toInt8.toInt32)), .val (.ref b36)] [(.int vv), (.int (Int32.ofNat d)), (.int (Int32.ofNat sn)), (.int (6 : Int32)), (.ref b36)])) _
    refine XS.iload X95.here hx rfl (hb hby at_345) rfl ?_
    show Steps p.tables e below (T95.setTop (mkF m 347 #[.val (.int p0), .val (.int p1), .val (.int p2), .val (.int p3), .val (.ref b11), .val (.int (Int32.ofNat d)), .val (.int (Int32.ofNat sn)), .val (.int vv), .val (.int (p3.toInt8.toInt32)), .val (.ref b36)] [(.int (p3.toInt8.toInt32)), (.int vv), (.int (Int32.ofNat d)), (.int (Int32.ofNat sn)), (.int (6 : Int32)), (.ref b36)])) _
    refine XS.aload X95.here hx rfl (hb hby at_347) rfl rfl ?_
    exact kt
  obtain ⟨_, _, ⟨T96, L96, k96, n96⟩, -, X96, ⟨Lc96, hQ96, l96, y96, z96⟩, st96⟩ := Jvm.LawKit.callS X95 hx (y := (⟨"com/example/cytobridge/cytobridge/profile/TimeStampWriteDigitsPinLaw", "at", "([BIIIIB[J)Z"⟩ : MethodName)) hown (mvT hZ (hw _ (List.mem_of_getElem? (i := 17) rfl))) (mvT hZ (hw _ (List.mem_of_getElem? (i := 18) rfl))) (mvT hZ (hw _ (List.mem_of_getElem? (i := 19) rfl))) (mvT hZ (hw _ (List.mem_of_getElem? (i := 20) rfl))) (by decide) (backOf (W := 0) (rm2 l Z a0 hw [] b36 (6 : Int32) sn d vv (p3.toInt8.toInt32) b11 (wr sn d vv (List.replicate 16 (p3.toInt8.toInt32))) k36 k11 h87 n0 Z0_88 V87 Vpw_89 (by decide) hsd2) hZ (hw _ (List.mem_of_getElem? (i := 20) rfl)) (hw _ (List.mem_of_getElem? (i := 19) rfl)) (by decide) (by decide)) (g := (mkF m 349 #[.val (.int p0), .val (.int p1), .val (.int p2), .val (.int p3), .val (.ref b11), .val (.int (Int32.ofNat d)), .val (.int (Int32.ofNat sn)), .val (.int vv), .val (.int (p3.toInt8.toInt32)), .val (.ref b36)] [(.ref b11), (.int (p3.toInt8.toInt32)), (.int vv), (.int (Int32.ofNat d)), (.int (Int32.ofNat sn)), (.int (6 : Int32)), (.ref b36)])) rfl (by rw [hml]; rfl) (argsL := [(.ref b36), (.int (6 : Int32)), (.int (Int32.ofNat sn)), (.int (Int32.ofNat d)), (.int vv), (.int (p3.toInt8.toInt32)), (.ref b11)]) (rest := []) (lenOf pd_1 rfl) rfl (by show 2 * 0 + _ ≤ _; exact Nat.le_of_eq rfl) (hb hby at_349) (fun _ _ => ⟨rfl, e95, (by decide : 2 + 0 ≤ _), (by decide : 27 + 0 ≤ _)⟩)
  dsimp only [Pt.U, Pt.locs, Pt.cells, Pt.slots] at X96 l96 y96 z96 st96 hQ96
  subst y96 z96
  obtain ⟨rfl, Nq96, e96⟩ := hQ96
  have N96 : Fr n0 L96 := by rw [l96]; exact Fr.app N95 Nq96
  refine Got.step st96 ?_
  show Got p e below s _ _ _ _ T96 (mkF m 352 #[.val (.int p0), .val (.int p1), .val (.int p2), .val (.int p3), .val (.ref b11), .val (.int (Int32.ofNat d)), .val (.int (Int32.ofNat sn)), .val (.int vv), .val (.int (p3.toInt8.toInt32)), .val (.ref b36)] [(.int (f2 (wr sn d vv (List.replicate 16 (p3.toInt8.toInt32))) sn d (6 : Int32) vv (p3.toInt8.toInt32)))])
  refine Got.step (T' := T96) (g' := (mkF m 369 #[.val (.int p0), .val (.int p1), .val (.int p2), .val (.int p3), .val (.ref b11), .val (.int (Int32.ofNat d)), .val (.int (Int32.ofNat sn)), .val (.int vv), .val (.int (p3.toInt8.toInt32)), .val (.ref b36)] [(.ref b11), (.int (p3.toInt8.toInt32)), (.int vv), (.int (Int32.ofNat d)), (.int (Int32.ofNat sn)), (.int (7 : Int32)), (.ref b36)])) (fun tq kt => ?_) ?_
  · show Steps p.tables e below (T96.setTop (mkF m 352 #[.val (.int p0), .val (.int p1), .val (.int p2), .val (.int p3), .val (.ref b11), .val (.int (Int32.ofNat d)), .val (.int (Int32.ofNat sn)), .val (.int vv), .val (.int (p3.toInt8.toInt32)), .val (.ref b36)] [(.int (f2 (wr sn d vv (List.replicate 16 (p3.toInt8.toInt32))) sn d (6 : Int32) vv (p3.toInt8.toInt32)))])) _
    refine XS.ifNo X96.here hx rfl (hb hby at_352) rfl (XT.i0_eq_f (own_at_ne (i := 6) hsd2 (own_vv p1 hd hvv) (by decide))) ?_
    show Steps p.tables e below (T96.setTop (mkF m 355 #[.val (.int p0), .val (.int p1), .val (.int p2), .val (.int p3), .val (.ref b11), .val (.int (Int32.ofNat d)), .val (.int (Int32.ofNat sn)), .val (.int vv), .val (.int (p3.toInt8.toInt32)), .val (.ref b36)] [])) _
    refine XS.aload X96.here hx rfl (hb hby at_355) rfl rfl ?_
    show Steps p.tables e below (T96.setTop (mkF m 357 #[.val (.int p0), .val (.int p1), .val (.int p2), .val (.int p3), .val (.ref b11), .val (.int (Int32.ofNat d)), .val (.int (Int32.ofNat sn)), .val (.int vv), .val (.int (p3.toInt8.toInt32)), .val (.ref b36)] [(.ref b36)])) _
    refine XS.bipush X96.here hx rfl (hb hby at_357) ?_
    show Steps p.tables e below (T96.setTop (mkF m 359 #[.val (.int p0), .val (.int p1), .val (.int p2), .val (.int p3), .val (.ref b11), .val (.int (Int32.ofNat d)), .val (.int (Int32.ofNat sn)), .val (.int vv), .val (.int (p3.toInt8.toInt32)), .val (.ref b36)] [(.int (7 : Int32)), (.ref b36)])) _
    refine XS.iload X96.here hx rfl (hb hby at_359) rfl ?_
    show Steps p.tables e below (T96.setTop (mkF m 361 #[.val (.int p0), .val (.int p1), .val (.int p2), .val (.int p3), .val (.ref b11), .val (.int (Int32.ofNat d)), .val (.int (Int32.ofNat sn)), .val (.int vv), .val (.int (p3.toInt8.toInt32)), .val (.ref b36)] [(.int (Int32.ofNat sn)), (.int (7 : Int32)), (.ref b36)])) _
    refine XS.iload X96.here hx rfl (hb hby at_361) rfl ?_
    show Steps p.tables e below (T96.setTop (mkF m 363 #[.val (.int p0), .val (.int p1), .val (.int p2), .val (.int p3), .val (.ref b11), .val (.int (Int32.ofNat d)), .val (.int (Int32.ofNat sn)), .val (.int vv), .val (.int (p3.toInt8.toInt32)), .val (.ref b36)] [(.int (Int32.ofNat d)), (.int (Int32.ofNat sn)), (.int (7 : Int32)), (.ref b36)])) _
    refine XS.iload X96.here hx rfl (hb hby at_363) rfl ?_
    show Steps p.tables e below (T96.setTop (mkF m 365 #[.val (.int p0), .val (.int p1), .val (.int p2), .val (.int p3), .val (.ref b11), .val (.int (Int32.ofNat d)), .val (.int (Int32.ofNat sn)), .val (.int vv), .val (.int (p3.toInt8.toInt32)), .val (.ref b36)] [(.int vv), (.int (Int32.ofNat d)), (.int (Int32.ofNat sn)), (.int (7 : Int32)), (.ref b36)])) _
    refine XS.iload X96.here hx rfl (hb hby at_365) rfl ?_
    show Steps p.tables e below (T96.setTop (mkF m 367 #[.val (.int p0), .val (.int p1), .val (.int p2), .val (.int p3), .val (.ref b11), .val (.int (Int32.ofNat d)), .val (.int (Int32.ofNat sn)), .val (.int vv), .val (.int (p3.toInt8.toInt32)), .val (.ref b36)] [(.int (p3.toInt8.toInt32)), (.int vv), (.int (Int32.ofNat d)), (.int (Int32.ofNat sn)), (.int (7 : Int32)), (.ref b36)])) _
    refine XS.aload X96.here hx rfl (hb hby at_367) rfl rfl ?_
    exact kt
  obtain ⟨_, _, ⟨T97, L97, k97, n97⟩, -, X97, ⟨Lc97, hQ97, l97, y97, z97⟩, st97⟩ := Jvm.LawKit.callS X96 hx (y := (⟨"com/example/cytobridge/cytobridge/profile/TimeStampWriteDigitsPinLaw", "at", "([BIIIIB[J)Z"⟩ : MethodName)) hown (mvT hZ (hw _ (List.mem_of_getElem? (i := 17) rfl))) (mvT hZ (hw _ (List.mem_of_getElem? (i := 18) rfl))) (mvT hZ (hw _ (List.mem_of_getElem? (i := 19) rfl))) (mvT hZ (hw _ (List.mem_of_getElem? (i := 20) rfl))) (by decide) (backOf (W := 0) (rm2 l Z a0 hw [] b36 (7 : Int32) sn d vv (p3.toInt8.toInt32) b11 (wr sn d vv (List.replicate 16 (p3.toInt8.toInt32))) k36 k11 h87 n0 Z0_88 V87 Vpw_89 (by decide) hsd2) hZ (hw _ (List.mem_of_getElem? (i := 20) rfl)) (hw _ (List.mem_of_getElem? (i := 19) rfl)) (by decide) (by decide)) (g := (mkF m 369 #[.val (.int p0), .val (.int p1), .val (.int p2), .val (.int p3), .val (.ref b11), .val (.int (Int32.ofNat d)), .val (.int (Int32.ofNat sn)), .val (.int vv), .val (.int (p3.toInt8.toInt32)), .val (.ref b36)] [(.ref b11), (.int (p3.toInt8.toInt32)), (.int vv), (.int (Int32.ofNat d)), (.int (Int32.ofNat sn)), (.int (7 : Int32)), (.ref b36)])) rfl (by rw [hml]; rfl) (argsL := [(.ref b36), (.int (7 : Int32)), (.int (Int32.ofNat sn)), (.int (Int32.ofNat d)), (.int vv), (.int (p3.toInt8.toInt32)), (.ref b11)]) (rest := []) (lenOf pd_1 rfl) rfl (by show 2 * 0 + _ ≤ _; exact Nat.le_of_eq rfl) (hb hby at_369) (fun _ _ => ⟨rfl, e96, (by decide : 2 + 0 ≤ _), (by decide : 27 + 0 ≤ _)⟩)
  dsimp only [Pt.U, Pt.locs, Pt.cells, Pt.slots] at X97 l97 y97 z97 st97 hQ97
  subst y97 z97
  obtain ⟨rfl, Nq97, e97⟩ := hQ97
  have N97 : Fr n0 L97 := by rw [l97]; exact Fr.app N96 Nq97
  refine Got.step st97 ?_
  show Got p e below s _ _ _ _ T97 (mkF m 372 #[.val (.int p0), .val (.int p1), .val (.int p2), .val (.int p3), .val (.ref b11), .val (.int (Int32.ofNat d)), .val (.int (Int32.ofNat sn)), .val (.int vv), .val (.int (p3.toInt8.toInt32)), .val (.ref b36)] [(.int (f2 (wr sn d vv (List.replicate 16 (p3.toInt8.toInt32))) sn d (7 : Int32) vv (p3.toInt8.toInt32)))])
  refine Got.step (T' := T97) (g' := (mkF m 389 #[.val (.int p0), .val (.int p1), .val (.int p2), .val (.int p3), .val (.ref b11), .val (.int (Int32.ofNat d)), .val (.int (Int32.ofNat sn)), .val (.int vv), .val (.int (p3.toInt8.toInt32)), .val (.ref b36)] [(.ref b11), (.int (p3.toInt8.toInt32)), (.int vv), (.int (Int32.ofNat d)), (.int (Int32.ofNat sn)), (.int (8 : Int32)), (.ref b36)])) (fun tq kt => ?_) ?_
  · show Steps p.tables e below (T97.setTop (mkF m 372 #[.val (.int p0), .val (.int p1), .val (.int p2), .val (.int p3), .val (.ref b11), .val (.int (Int32.ofNat d)), .val (.int (Int32.ofNat sn)), .val (.int vv), .val (.int (p3.toInt8.toInt32)), .val (.ref b36)] [(.int (f2 (wr sn d vv (List.replicate 16 (p3.toInt8.toInt32))) sn d (7 : Int32) vv (p3.toInt8.toInt32)))])) _
    refine XS.ifNo X97.here hx rfl (hb hby at_372) rfl (XT.i0_eq_f (own_at_ne (i := 7) hsd2 (own_vv p1 hd hvv) (by decide))) ?_
    show Steps p.tables e below (T97.setTop (mkF m 375 #[.val (.int p0), .val (.int p1), .val (.int p2), .val (.int p3), .val (.ref b11), .val (.int (Int32.ofNat d)), .val (.int (Int32.ofNat sn)), .val (.int vv), .val (.int (p3.toInt8.toInt32)), .val (.ref b36)] [])) _
    refine XS.aload X97.here hx rfl (hb hby at_375) rfl rfl ?_
    show Steps p.tables e below (T97.setTop (mkF m 377 #[.val (.int p0), .val (.int p1), .val (.int p2), .val (.int p3), .val (.ref b11), .val (.int (Int32.ofNat d)), .val (.int (Int32.ofNat sn)), .val (.int vv), .val (.int (p3.toInt8.toInt32)), .val (.ref b36)] [(.ref b36)])) _
    refine XS.bipush X97.here hx rfl (hb hby at_377) ?_
    show Steps p.tables e below (T97.setTop (mkF m 379 #[.val (.int p0), .val (.int p1), .val (.int p2), .val (.int p3), .val (.ref b11), .val (.int (Int32.ofNat d)), .val (.int (Int32.ofNat sn)), .val (.int vv), .val (.int (p3.toInt8.toInt32)), .val (.ref b36)] [(.int (8 : Int32)), (.ref b36)])) _
    refine XS.iload X97.here hx rfl (hb hby at_379) rfl ?_
    show Steps p.tables e below (T97.setTop (mkF m 381 #[.val (.int p0), .val (.int p1), .val (.int p2), .val (.int p3), .val (.ref b11), .val (.int (Int32.ofNat d)), .val (.int (Int32.ofNat sn)), .val (.int vv), .val (.int (p3.toInt8.toInt32)), .val (.ref b36)] [(.int (Int32.ofNat sn)), (.int (8 : Int32)), (.ref b36)])) _
    refine XS.iload X97.here hx rfl (hb hby at_381) rfl ?_
    show Steps p.tables e below (T97.setTop (mkF m 383 #[.val (.int p0), .val (.int p1), .val (.int p2), .val (.int p3), .val (.ref b11), .val (.int (Int32.ofNat d)), .val (.int (Int32.ofNat sn)), .val (.int vv), .val (.int (p3.toInt8.toInt32)), .val (.ref b36)] [(.int (Int32.ofNat d)), (.int (Int32.ofNat sn)), (.int (8 : Int32)), (.ref b36)])) _
    refine XS.iload X97.here hx rfl (hb hby at_383) rfl ?_
    show Steps p.tables e below (T97.setTop (mkF m 385 #[.val (.int p0), .val (.int p1), .val (.int p2), .val (.int p3), .val (.ref b11), .val (.int (Int32.ofNat d)), .val (.int (Int32.ofNat sn)), .val (.int vv), .val (.int (p3.toInt8.toInt32)), .val (.ref b36)] [(.int vv), (.int (Int32.ofNat d)), (.int (Int32.ofNat sn)), (.int (8 : Int32)), (.ref b36)])) _
    refine XS.iload X97.here hx rfl (hb hby at_385) rfl ?_
    show Steps p.tables e below (T97.setTop (mkF m 387 #[.val (.int p0), .val (.int p1), .val (.int p2), .val (.int p3), .val (.ref b11), .val (.int (Int32.ofNat d)), .val (.int (Int32.ofNat sn)), .val (.int vv), .val (.int (p3.toInt8.toInt32)), .val (.ref b36)] [(.int (p3.toInt8.toInt32)), (.int vv), (.int (Int32.ofNat d)), (.int (Int32.ofNat sn)), (.int (8 : Int32)), (.ref b36)])) _
    refine XS.aload X97.here hx rfl (hb hby at_387) rfl rfl ?_
    exact kt
  obtain ⟨_, _, ⟨T98, L98, k98, n98⟩, -, X98, ⟨Lc98, hQ98, l98, y98, z98⟩, st98⟩ := Jvm.LawKit.callS X97 hx (y := (⟨"com/example/cytobridge/cytobridge/profile/TimeStampWriteDigitsPinLaw", "at", "([BIIIIB[J)Z"⟩ : MethodName)) hown (mvT hZ (hw _ (List.mem_of_getElem? (i := 17) rfl))) (mvT hZ (hw _ (List.mem_of_getElem? (i := 18) rfl))) (mvT hZ (hw _ (List.mem_of_getElem? (i := 19) rfl))) (mvT hZ (hw _ (List.mem_of_getElem? (i := 20) rfl))) (by decide) (backOf (W := 0) (rm2 l Z a0 hw [] b36 (8 : Int32) sn d vv (p3.toInt8.toInt32) b11 (wr sn d vv (List.replicate 16 (p3.toInt8.toInt32))) k36 k11 h87 n0 Z0_88 V87 Vpw_89 (by decide) hsd2) hZ (hw _ (List.mem_of_getElem? (i := 20) rfl)) (hw _ (List.mem_of_getElem? (i := 19) rfl)) (by decide) (by decide)) (g := (mkF m 389 #[.val (.int p0), .val (.int p1), .val (.int p2), .val (.int p3), .val (.ref b11), .val (.int (Int32.ofNat d)), .val (.int (Int32.ofNat sn)), .val (.int vv), .val (.int (p3.toInt8.toInt32)), .val (.ref b36)] [(.ref b11), (.int (p3.toInt8.toInt32)), (.int vv), (.int (Int32.ofNat d)), (.int (Int32.ofNat sn)), (.int (8 : Int32)), (.ref b36)])) rfl (by rw [hml]; rfl) (argsL := [(.ref b36), (.int (8 : Int32)), (.int (Int32.ofNat sn)), (.int (Int32.ofNat d)), (.int vv), (.int (p3.toInt8.toInt32)), (.ref b11)]) (rest := []) (lenOf pd_1 rfl) rfl (by show 2 * 0 + _ ≤ _; exact Nat.le_of_eq rfl) (hb hby at_389) (fun _ _ => ⟨rfl, e97, (by decide : 2 + 0 ≤ _), (by decide : 27 + 0 ≤ _)⟩)
  dsimp only [Pt.U, Pt.locs, Pt.cells, Pt.slots] at X98 l98 y98 z98 st98 hQ98
  subst y98 z98
  obtain ⟨rfl, Nq98, e98⟩ := hQ98
  have N98 : Fr n0 L98 := by rw [l98]; exact Fr.app N97 Nq98
  refine Got.step st98 ?_
  show Got p e below s _ _ _ _ T98 (mkF m 392 #[.val (.int p0), .val (.int p1), .val (.int p2), .val (.int p3), .val (.ref b11), .val (.int (Int32.ofNat d)), .val (.int (Int32.ofNat sn)), .val (.int vv), .val (.int (p3.toInt8.toInt32)), .val (.ref b36)] [(.int (f2 (wr sn d vv (List.replicate 16 (p3.toInt8.toInt32))) sn d (8 : Int32) vv (p3.toInt8.toInt32)))])
  refine Got.step (T' := T98) (g' := (mkF m 409 #[.val (.int p0), .val (.int p1), .val (.int p2), .val (.int p3), .val (.ref b11), .val (.int (Int32.ofNat d)), .val (.int (Int32.ofNat sn)), .val (.int vv), .val (.int (p3.toInt8.toInt32)), .val (.ref b36)] [(.ref b11), (.int (p3.toInt8.toInt32)), (.int vv), (.int (Int32.ofNat d)), (.int (Int32.ofNat sn)), (.int (9 : Int32)), (.ref b36)])) (fun tq kt => ?_) ?_
  · show Steps p.tables e below (T98.setTop (mkF m 392 #[.val (.int p0), .val (.int p1), .val (.int p2), .val (.int p3), .val (.ref b11), .val (.int (Int32.ofNat d)), .val (.int (Int32.ofNat sn)), .val (.int vv), .val (.int (p3.toInt8.toInt32)), .val (.ref b36)] [(.int (f2 (wr sn d vv (List.replicate 16 (p3.toInt8.toInt32))) sn d (8 : Int32) vv (p3.toInt8.toInt32)))])) _
    refine XS.ifNo X98.here hx rfl (hb hby at_392) rfl (XT.i0_eq_f (own_at_ne (i := 8) hsd2 (own_vv p1 hd hvv) (by decide))) ?_
    show Steps p.tables e below (T98.setTop (mkF m 395 #[.val (.int p0), .val (.int p1), .val (.int p2), .val (.int p3), .val (.ref b11), .val (.int (Int32.ofNat d)), .val (.int (Int32.ofNat sn)), .val (.int vv), .val (.int (p3.toInt8.toInt32)), .val (.ref b36)] [])) _
    refine XS.aload X98.here hx rfl (hb hby at_395) rfl rfl ?_
    show Steps p.tables e below (T98.setTop (mkF m 397 #[.val (.int p0), .val (.int p1), .val (.int p2), .val (.int p3), .val (.ref b11), .val (.int (Int32.ofNat d)), .val (.int (Int32.ofNat sn)), .val (.int vv), .val (.int (p3.toInt8.toInt32)), .val (.ref b36)] [(.ref b36)])) _
    refine XS.bipush X98.here hx rfl (hb hby at_397) ?_
    show Steps p.tables e below (T98.setTop (mkF m 399 #[.val (.int p0), .val (.int p1), .val (.int p2), .val (.int p3), .val (.ref b11), .val (.int (Int32.ofNat d)), .val (.int (Int32.ofNat sn)), .val (.int vv), .val (.int (p3.toInt8.toInt32)), .val (.ref b36)] [(.int (9 : Int32)), (.ref b36)])) _
    refine XS.iload X98.here hx rfl (hb hby at_399) rfl ?_
    show Steps p.tables e below (T98.setTop (mkF m 401 #[.val (.int p0), .val (.int p1), .val (.int p2), .val (.int p3), .val (.ref b11), .val (.int (Int32.ofNat d)), .val (.int (Int32.ofNat sn)), .val (.int vv), .val (.int (p3.toInt8.toInt32)), .val (.ref b36)] [(.int (Int32.ofNat sn)), (.int (9 : Int32)), (.ref b36)])) _
    refine XS.iload X98.here hx rfl (hb hby at_401) rfl ?_
    show Steps p.tables e below (T98.setTop (mkF m 403 #[.val (.int p0), .val (.int p1), .val (.int p2), .val (.int p3), .val (.ref b11), .val (.int (Int32.ofNat d)), .val (.int (Int32.ofNat sn)), .val (.int vv), .val (.int (p3.toInt8.toInt32)), .val (.ref b36)] [(.int (Int32.ofNat d)), (.int (Int32.ofNat sn)), (.int (9 : Int32)), (.ref b36)])) _
    refine XS.iload X98.here hx rfl (hb hby at_403) rfl ?_
    show Steps p.tables e below (T98.setTop (mkF m 405 #[.val (.int p0), .val (.int p1), .val (.int p2), .val (.int p3), .val (.ref b11), .val (.int (Int32.ofNat d)), .val (.int (Int32.ofNat sn)), .val (.int vv), .val (.int (p3.toInt8.toInt32)), .val (.ref b36)] [(.int vv), (.int (Int32.ofNat d)), (.int (Int32.ofNat sn)), (.int (9 : Int32)), (.ref b36)])) _
    refine XS.iload X98.here hx rfl (hb hby at_405) rfl ?_
    show Steps p.tables e below (T98.setTop (mkF m 407 #[.val (.int p0), .val (.int p1), .val (.int p2), .val (.int p3), .val (.ref b11), .val (.int (Int32.ofNat d)), .val (.int (Int32.ofNat sn)), .val (.int vv), .val (.int (p3.toInt8.toInt32)), .val (.ref b36)] [(.int (p3.toInt8.toInt32)), (.int vv), (.int (Int32.ofNat d)), (.int (Int32.ofNat sn)), (.int (9 : Int32)), (.ref b36)])) _
    refine XS.aload X98.here hx rfl (hb hby at_407) rfl rfl ?_
    exact kt
  obtain ⟨_, _, ⟨T99, L99, k99, n99⟩, -, X99, ⟨Lc99, hQ99, l99, y99, z99⟩, st99⟩ := Jvm.LawKit.callS X98 hx (y := (⟨"com/example/cytobridge/cytobridge/profile/TimeStampWriteDigitsPinLaw", "at", "([BIIIIB[J)Z"⟩ : MethodName)) hown (mvT hZ (hw _ (List.mem_of_getElem? (i := 17) rfl))) (mvT hZ (hw _ (List.mem_of_getElem? (i := 18) rfl))) (mvT hZ (hw _ (List.mem_of_getElem? (i := 19) rfl))) (mvT hZ (hw _ (List.mem_of_getElem? (i := 20) rfl))) (by decide) (backOf (W := 0) (rm2 l Z a0 hw [] b36 (9 : Int32) sn d vv (p3.toInt8.toInt32) b11 (wr sn d vv (List.replicate 16 (p3.toInt8.toInt32))) k36 k11 h87 n0 Z0_88 V87 Vpw_89 (by decide) hsd2) hZ (hw _ (List.mem_of_getElem? (i := 20) rfl)) (hw _ (List.mem_of_getElem? (i := 19) rfl)) (by decide) (by decide)) (g := (mkF m 409 #[.val (.int p0), .val (.int p1), .val (.int p2), .val (.int p3), .val (.ref b11), .val (.int (Int32.ofNat d)), .val (.int (Int32.ofNat sn)), .val (.int vv), .val (.int (p3.toInt8.toInt32)), .val (.ref b36)] [(.ref b11), (.int (p3.toInt8.toInt32)), (.int vv), (.int (Int32.ofNat d)), (.int (Int32.ofNat sn)), (.int (9 : Int32)), (.ref b36)])) rfl (by rw [hml]; rfl) (argsL := [(.ref b36), (.int (9 : Int32)), (.int (Int32.ofNat sn)), (.int (Int32.ofNat d)), (.int vv), (.int (p3.toInt8.toInt32)), (.ref b11)]) (rest := []) (lenOf pd_1 rfl) rfl (by show 2 * 0 + _ ≤ _; exact Nat.le_of_eq rfl) (hb hby at_409) (fun _ _ => ⟨rfl, e98, (by decide : 2 + 0 ≤ _), (by decide : 27 + 0 ≤ _)⟩)
  dsimp only [Pt.U, Pt.locs, Pt.cells, Pt.slots] at X99 l99 y99 z99 st99 hQ99
  subst y99 z99
  obtain ⟨rfl, Nq99, e99⟩ := hQ99
  have N99 : Fr n0 L99 := by rw [l99]; exact Fr.app N98 Nq99
  refine Got.step st99 ?_
  show Got p e below s _ _ _ _ T99 (mkF m 412 #[.val (.int p0), .val (.int p1), .val (.int p2), .val (.int p3), .val (.ref b11), .val (.int (Int32.ofNat d)), .val (.int (Int32.ofNat sn)), .val (.int vv), .val (.int (p3.toInt8.toInt32)), .val (.ref b36)] [(.int (f2 (wr sn d vv (List.replicate 16 (p3.toInt8.toInt32))) sn d (9 : Int32) vv (p3.toInt8.toInt32)))])
  refine Got.step (T' := T99) (g' := (mkF m 429 #[.val (.int p0), .val (.int p1), .val (.int p2), .val (.int p3), .val (.ref b11), .val (.int (Int32.ofNat d)), .val (.int (Int32.ofNat sn)), .val (.int vv), .val (.int (p3.toInt8.toInt32)), .val (.ref b36)] [(.ref b11), (.int (p3.toInt8.toInt32)), (.int vv), (.int (Int32.ofNat d)), (.int (Int32.ofNat sn)), (.int (10 : Int32)), (.ref b36)])) (fun tq kt => ?_) ?_
  · show Steps p.tables e below (T99.setTop (mkF m 412 #[.val (.int p0), .val (.int p1), .val (.int p2), .val (.int p3), .val (.ref b11), .val (.int (Int32.ofNat d)), .val (.int (Int32.ofNat sn)), .val (.int vv), .val (.int (p3.toInt8.toInt32)), .val (.ref b36)] [(.int (f2 (wr sn d vv (List.replicate 16 (p3.toInt8.toInt32))) sn d (9 : Int32) vv (p3.toInt8.toInt32)))])) _
    refine XS.ifNo X99.here hx rfl (hb hby at_412) rfl (XT.i0_eq_f (own_at_ne (i := 9) hsd2 (own_vv p1 hd hvv) (by decide))) ?_
    show Steps p.tables e below (T99.setTop (mkF m 415 #[.val (.int p0), .val (.int p1), .val (.int p2), .val (.int p3), .val (.ref b11), .val (.int (Int32.ofNat d)), .val (.int (Int32.ofNat sn)), .val (.int vv), .val (.int (p3.toInt8.toInt32)), .val (.ref b36)] [])) _
    refine XS.aload X99.here hx rfl (hb hby at_415) rfl rfl ?_
    show Steps p.tables e below (T99.setTop (mkF m 417 #[.val (.int p0), .val (.int p1), .val (.int p2), .val (.int p3), .val (.ref b11), .val (.int (Int32.ofNat d)), .val (.int (Int32.ofNat sn)), .val (.int vv), .val (.int (p3.toInt8.toInt32)), .val (.ref b36)] [(.ref b36)])) _
    refine XS.bipush X99.here hx rfl (hb hby at_417) ?_
    show Steps p.tables e below (T99.setTop (mkF m 419 #[.val (.int p0), .val (.int p1), .val (.int p2), .val (.int p3), .val (.ref b11), .val (.int (Int32.ofNat d)), .val (.int (Int32.ofNat sn)), .val (.int vv), .val (.int (p3.toInt8.toInt32)), .val (.ref b36)] [(.int (10 : Int32)), (.ref b36)])) _
    refine XS.iload X99.here hx rfl (hb hby at_419) rfl ?_
    show Steps p.tables e below (T99.setTop (mkF m 421 #[.val (.int p0), .val (.int p1), .val (.int p2), .val (.int p3), .val (.ref b11), .val (.int (Int32.ofNat d)), .val (.int (Int32.ofNat sn)), .val (.int vv), .val (.int (p3.toInt8.toInt32)), .val (.ref b36)] [(.int (Int32.ofNat sn)), (.int (10 : Int32)), (.ref b36)])) _
    refine XS.iload X99.here hx rfl (hb hby at_421) rfl ?_
    show Steps p.tables e below (T99.setTop (mkF m 423 #[.val (.int p0), .val (.int p1), .val (.int p2), .val (.int p3), .val (.ref b11), .val (.int (Int32.ofNat d)), .val (.int (Int32.ofNat sn)), .val (.int vv), .val (.int (p3.toInt8.toInt32)), .val (.ref b36)] [(.int (Int32.ofNat d)), (.int (Int32.ofNat sn)), (.int (10 : Int32)), (.ref b36)])) _
    refine XS.iload X99.here hx rfl (hb hby at_423) rfl ?_
    show Steps p.tables e below (T99.setTop (mkF m 425 #[.val (.int p0), .val (.int p1), .val (.int p2), .val (.int p3), .val (.ref b11), .val (.int (Int32.ofNat d)), .val (.int (Int32.ofNat sn)), .val (.int vv), .val (.int (p3.toInt8.toInt32)), .val (.ref b36)] [(.int vv), (.int (Int32.ofNat d)), (.int (Int32.ofNat sn)), (.int (10 : Int32)), (.ref b36)])) _
    refine XS.iload X99.here hx rfl (hb hby at_425) rfl ?_
    show Steps p.tables e below (T99.setTop (mkF m 427 #[.val (.int p0), .val (.int p1), .val (.int p2), .val (.int p3), .val (.ref b11), .val (.int (Int32.ofNat d)), .val (.int (Int32.ofNat sn)), .val (.int vv), .val (.int (p3.toInt8.toInt32)), .val (.ref b36)] [(.int (p3.toInt8.toInt32)), (.int vv), (.int (Int32.ofNat d)), (.int (Int32.ofNat sn)), (.int (10 : Int32)), (.ref b36)])) _
    refine XS.aload X99.here hx rfl (hb hby at_427) rfl rfl ?_
    exact kt
  obtain ⟨_, _, ⟨T100, L100, k100, n100⟩, -, X100, ⟨Lc100, hQ100, l100, y100, z100⟩, st100⟩ := Jvm.LawKit.callS X99 hx (y := (⟨"com/example/cytobridge/cytobridge/profile/TimeStampWriteDigitsPinLaw", "at", "([BIIIIB[J)Z"⟩ : MethodName)) hown (mvT hZ (hw _ (List.mem_of_getElem? (i := 17) rfl))) (mvT hZ (hw _ (List.mem_of_getElem? (i := 18) rfl))) (mvT hZ (hw _ (List.mem_of_getElem? (i := 19) rfl))) (mvT hZ (hw _ (List.mem_of_getElem? (i := 20) rfl))) (by decide) (backOf (W := 0) (rm2 l Z a0 hw [] b36 (10 : Int32) sn d vv (p3.toInt8.toInt32) b11 (wr sn d vv (List.replicate 16 (p3.toInt8.toInt32))) k36 k11 h87 n0 Z0_88 V87 Vpw_89 (by decide) hsd2) hZ (hw _ (List.mem_of_getElem? (i := 20) rfl)) (hw _ (List.mem_of_getElem? (i := 19) rfl)) (by decide) (by decide)) (g := (mkF m 429 #[.val (.int p0), .val (.int p1), .val (.int p2), .val (.int p3), .val (.ref b11), .val (.int (Int32.ofNat d)), .val (.int (Int32.ofNat sn)), .val (.int vv), .val (.int (p3.toInt8.toInt32)), .val (.ref b36)] [(.ref b11), (.int (p3.toInt8.toInt32)), (.int vv), (.int (Int32.ofNat d)), (.int (Int32.ofNat sn)), (.int (10 : Int32)), (.ref b36)])) rfl (by rw [hml]; rfl) (argsL := [(.ref b36), (.int (10 : Int32)), (.int (Int32.ofNat sn)), (.int (Int32.ofNat d)), (.int vv), (.int (p3.toInt8.toInt32)), (.ref b11)]) (rest := []) (lenOf pd_1 rfl) rfl (by show 2 * 0 + _ ≤ _; exact Nat.le_of_eq rfl) (hb hby at_429) (fun _ _ => ⟨rfl, e99, (by decide : 2 + 0 ≤ _), (by decide : 27 + 0 ≤ _)⟩)
  dsimp only [Pt.U, Pt.locs, Pt.cells, Pt.slots] at X100 l100 y100 z100 st100 hQ100
  subst y100 z100
  obtain ⟨rfl, Nq100, e100⟩ := hQ100
  have N100 : Fr n0 L100 := by rw [l100]; exact Fr.app N99 Nq100
  refine Got.step st100 ?_
  show Got p e below s _ _ _ _ T100 (mkF m 432 #[.val (.int p0), .val (.int p1), .val (.int p2), .val (.int p3), .val (.ref b11), .val (.int (Int32.ofNat d)), .val (.int (Int32.ofNat sn)), .val (.int vv), .val (.int (p3.toInt8.toInt32)), .val (.ref b36)] [(.int (f2 (wr sn d vv (List.replicate 16 (p3.toInt8.toInt32))) sn d (10 : Int32) vv (p3.toInt8.toInt32)))])
  refine Got.step (T' := T100) (g' := (mkF m 449 #[.val (.int p0), .val (.int p1), .val (.int p2), .val (.int p3), .val (.ref b11), .val (.int (Int32.ofNat d)), .val (.int (Int32.ofNat sn)), .val (.int vv), .val (.int (p3.toInt8.toInt32)), .val (.ref b36)] [(.ref b11), (.int (p3.toInt8.toInt32)), (.int vv), (.int (Int32.ofNat d)), (.int (Int32.ofNat sn)), (.int (11 : Int32)), (.ref b36)])) (fun tq kt => ?_) ?_
  · show Steps p.tables e below (T100.setTop (mkF m 432 #[.val (.int p0), .val (.int p1), .val (.int p2), .val (.int p3), .val (.ref b11), .val (.int (Int32.ofNat d)), .val (.int (Int32.ofNat sn)), .val (.int vv), .val (.int (p3.toInt8.toInt32)), .val (.ref b36)] [(.int (f2 (wr sn d vv (List.replicate 16 (p3.toInt8.toInt32))) sn d (10 : Int32) vv (p3.toInt8.toInt32)))])) _
    refine XS.ifNo X100.here hx rfl (hb hby at_432) rfl (XT.i0_eq_f (own_at_ne (i := 10) hsd2 (own_vv p1 hd hvv) (by decide))) ?_
    show Steps p.tables e below (T100.setTop (mkF m 435 #[.val (.int p0), .val (.int p1), .val (.int p2), .val (.int p3), .val (.ref b11), .val (.int (Int32.ofNat d)), .val (.int (Int32.ofNat sn)), .val (.int vv), .val (.int (p3.toInt8.toInt32)), .val (.ref b36)] [])) _
    refine XS.aload X100.here hx rfl (hb hby at_435) rfl rfl ?_
    show Steps p.tables e below (T100.setTop (mkF m 437 #[.val (.int p0), .val (.int p1), .val (.int p2), .val (.int p3), .val (.ref b11), .val (.int (Int32.ofNat d)), .val (.int (Int32.ofNat sn)), .val (.int vv), .val (.int (p3.toInt8.toInt32)), .val (.ref b36)] [(.ref b36)])) _
    refine XS.bipush X100.here hx rfl (hb hby at_437) ?_
    show Steps p.tables e below (T100.setTop (mkF m 439 #[.val (.int p0), .val (.int p1), .val (.int p2), .val (.int p3), .val (.ref b11), .val (.int (Int32.ofNat d)), .val (.int (Int32.ofNat sn)), .val (.int vv), .val (.int (p3.toInt8.toInt32)), .val (.ref b36)] [(.int (11 : Int32)), (.ref b36)])) _
    refine XS.iload X100.here hx rfl (hb hby at_439) rfl ?_
    show Steps p.tables e below (T100.setTop (mkF m 441 #[.val (.int p0), .val (.int p1), .val (.int p2), .val (.int p3), .val (.ref b11), .val (.int (Int32.ofNat d)), .val (.int (Int32.ofNat sn)), .val (.int vv), .val (.int (p3.toInt8.toInt32)), .val (.ref b36)] [(.int (Int32.ofNat sn)), (.int (11 : Int32)), (.ref b36)])) _
    refine XS.iload X100.here hx rfl (hb hby at_441) rfl ?_
    show Steps p.tables e below (T100.setTop (mkF m 443 #[.val (.int p0), .val (.int p1), .val (.int p2), .val (.int p3), .val (.ref b11), .val (.int (Int32.ofNat d)), .val (.int (Int32.ofNat sn)), .val (.int vv), .val (.int (p3.toInt8.toInt32)), .val (.ref b36)] [(.int (Int32.ofNat d)), (.int (Int32.ofNat sn)), (.int (11 : Int32)), (.ref b36)])) _
    refine XS.iload X100.here hx rfl (hb hby at_443) rfl ?_
    show Steps p.tables e below (T100.setTop (mkF m 445 #[.val (.int p0), .val (.int p1), .val (.int p2), .val (.int p3), .val (.ref b11), .val (.int (Int32.ofNat d)), .val (.int (Int32.ofNat sn)), .val (.int vv), .val (.int (p3.toInt8.toInt32)), .val (.ref b36)] [(.int vv), (.int (Int32.ofNat d)), (.int (Int32.ofNat sn)), (.int (11 : Int32)), (.ref b36)])) _
    refine XS.iload X100.here hx rfl (hb hby at_445) rfl ?_
    show Steps p.tables e below (T100.setTop (mkF m 447 #[.val (.int p0), .val (.int p1), .val (.int p2), .val (.int p3), .val (.ref b11), .val (.int (Int32.ofNat d)), .val (.int (Int32.ofNat sn)), .val (.int vv), .val (.int (p3.toInt8.toInt32)), .val (.ref b36)] [(.int (p3.toInt8.toInt32)), (.int vv), (.int (Int32.ofNat d)), (.int (Int32.ofNat sn)), (.int (11 : Int32)), (.ref b36)])) _
    refine XS.aload X100.here hx rfl (hb hby at_447) rfl rfl ?_
    exact kt
  obtain ⟨_, _, ⟨T101, L101, k101, n101⟩, -, X101, ⟨Lc101, hQ101, l101, y101, z101⟩, st101⟩ := Jvm.LawKit.callS X100 hx (y := (⟨"com/example/cytobridge/cytobridge/profile/TimeStampWriteDigitsPinLaw", "at", "([BIIIIB[J)Z"⟩ : MethodName)) hown (mvT hZ (hw _ (List.mem_of_getElem? (i := 17) rfl))) (mvT hZ (hw _ (List.mem_of_getElem? (i := 18) rfl))) (mvT hZ (hw _ (List.mem_of_getElem? (i := 19) rfl))) (mvT hZ (hw _ (List.mem_of_getElem? (i := 20) rfl))) (by decide) (backOf (W := 0) (rm2 l Z a0 hw [] b36 (11 : Int32) sn d vv (p3.toInt8.toInt32) b11 (wr sn d vv (List.replicate 16 (p3.toInt8.toInt32))) k36 k11 h87 n0 Z0_88 V87 Vpw_89 (by decide) hsd2) hZ (hw _ (List.mem_of_getElem? (i := 20) rfl)) (hw _ (List.mem_of_getElem? (i := 19) rfl)) (by decide) (by decide)) (g := (mkF m 449 #[.val (.int p0), .val (.int p1), .val (.int p2), .val (.int p3), .val (.ref b11), .val (.int (Int32.ofNat d)), .val (.int (Int32.ofNat sn)), .val (.int vv), .val (.int (p3.toInt8.toInt32)), .val (.ref b36)] [(.ref b11), (.int (p3.toInt8.toInt32)), (.int vv), (.int (Int32.ofNat d)), (.int (Int32.ofNat sn)), (.int (11 : Int32)), (.ref b36)])) rfl (by rw [hml]; rfl) (argsL := [(.ref b36), (.int (11 : Int32)), (.int (Int32.ofNat sn)), (.int (Int32.ofNat d)), (.int vv), (.int (p3.toInt8.toInt32)), (.ref b11)]) (rest := []) (lenOf pd_1 rfl) rfl (by show 2 * 0 + _ ≤ _; exact Nat.le_of_eq rfl) (hb hby at_449) (fun _ _ => ⟨rfl, e100, (by decide : 2 + 0 ≤ _), (by decide : 27 + 0 ≤ _)⟩)
  dsimp only [Pt.U, Pt.locs, Pt.cells, Pt.slots] at X101 l101 y101 z101 st101 hQ101
  subst y101 z101
  obtain ⟨rfl, Nq101, e101⟩ := hQ101
  have N101 : Fr n0 L101 := by rw [l101]; exact Fr.app N100 Nq101
  refine Got.step st101 ?_
  show Got p e below s _ _ _ _ T101 (mkF m 452 #[.val (.int p0), .val (.int p1), .val (.int p2), .val (.int p3), .val (.ref b11), .val (.int (Int32.ofNat d)), .val (.int (Int32.ofNat sn)), .val (.int vv), .val (.int (p3.toInt8.toInt32)), .val (.ref b36)] [(.int (f2 (wr sn d vv (List.replicate 16 (p3.toInt8.toInt32))) sn d (11 : Int32) vv (p3.toInt8.toInt32)))])
  refine Got.step (T' := T101) (g' := (mkF m 469 #[.val (.int p0), .val (.int p1), .val (.int p2), .val (.int p3), .val (.ref b11), .val (.int (Int32.ofNat d)), .val (.int (Int32.ofNat sn)), .val (.int vv), .val (.int (p3.toInt8.toInt32)), .val (.ref b36)] [(.ref b11), (.int (p3.toInt8.toInt32)), (.int vv), (.int (Int32.ofNat d)), (.int (Int32.ofNat sn)), (.int (12 : Int32)), (.ref b36)])) (fun tq kt => ?_) ?_
  · show Steps p.tables e below (T101.setTop (mkF m 452 #[.val (.int p0), .val (.int p1), .val (.int p2), .val (.int p3), .val (.ref b11), .val (.int (Int32.ofNat d)), .val (.int (Int32.ofNat sn)), .val (.int vv), .val (.int (p3.toInt8.toInt32)), .val (.ref b36)] [(.int (f2 (wr sn d vv (List.replicate 16 (p3.toInt8.toInt32))) sn d (11 : Int32) vv (p3.toInt8.toInt32)))])) _
    refine XS.ifNo X101.here hx rfl (hb hby at_452) rfl (XT.i0_eq_f (own_at_ne (i := 11) hsd2 (own_vv p1 hd hvv) (by decide))) ?_
    show Steps p.tables e below (T101.setTop (mkF m 455 #[.val (.int p0), .val (.int p1), .val (.int p2), .val (.int p3), .val (.ref b11), .val (.int (Int32.ofNat d)), .val (.int (Int32.ofNat sn)), .val (.int vv), .val (.int (p3.toInt8.toInt32)), .val (.ref b36)] [])) _
    refine XS.aload X101.here hx rfl (hb hby at_455) rfl rfl ?_
    show Steps p.tables e below (T101.setTop (mkF m 457 #[.val (.int p0), .val (.int p1), .val (.int p2), .val (.int p3), .val (.ref b11), .val (.int (Int32.ofNat d)), .val (.int (Int32.ofNat sn)), .val (.int vv), .val (.int (p3.toInt8.toInt32)), .val (.ref b36)] [(.ref b36)])) _
    refine XS.bipush X101.here hx rfl (hb hby at_457) ?_
    show Steps p.tables e below (T101.setTop (mkF m 459 #[.val (.int p0), .val (.int p1), .val (.int p2), .val (.int p3), .val (.ref b11), .val (.int (Int32.ofNat d)), .val (.int (Int32.ofNat sn)), .val (.int vv), .val (.int (p3.toInt8.toInt32)), .val (.ref b36)] [(.int (12 : Int32)), (.ref b36)])) _
    refine XS.iload X101.here hx rfl (hb hby at_459) rfl ?_
    show Steps p.tables e below (T101.setTop (mkF m 461 #[.val (.int p0), .val (.int p1), .val (.int p2), .val (.int p3), .val (.ref b11), .val (.int (Int32.ofNat d)), .val (.int (Int32.ofNat sn)), .val (.int vv), .val (.int (p3.toInt8.toInt32)), .val (.ref b36)] [(.int (Int32.ofNat sn)), (.int (12 : Int32)), (.ref b36)])) _
    refine XS.iload X101.here hx rfl (hb hby at_461) rfl ?_
    show Steps p.tables e below (T101.setTop (mkF m 463 #[.val (.int p0), .val (.int p1), .val (.int p2), .val (.int p3), .val (.ref b11), .val (.int (Int32.ofNat d)), .val (.int (Int32.ofNat sn)), .val (.int vv), .val (.int (p3.toInt8.toInt32)), .val (.ref b36)] [(.int (Int32.ofNat d)), (.int (Int32.ofNat sn)), (.int (12 : Int32)), (.ref b36)])) _
    refine XS.iload X101.here hx rfl (hb hby at_463) rfl ?_
    show Steps p.tables e below (T101.setTop (mkF m 465 #[.val (.int p0), .val (.int p1), .val (.int p2), .val (.int p3), .val (.ref b11), .val (.int (Int32.ofNat d)), .val (.int (Int32.ofNat sn)), .val (.int vv), .val (.int (p3.toInt8.toInt32)), .val (.ref b36)] [(.int vv), (.int (Int32.ofNat d)), (.int (Int32.ofNat sn)), (.int (12 : Int32)), (.ref b36)])) _
    refine XS.iload X101.here hx rfl (hb hby at_465) rfl ?_
    show Steps p.tables e below (T101.setTop (mkF m 467 #[.val (.int p0), .val (.int p1), .val (.int p2), .val (.int p3), .val (.ref b11), .val (.int (Int32.ofNat d)), .val (.int (Int32.ofNat sn)), .val (.int vv), .val (.int (p3.toInt8.toInt32)), .val (.ref b36)] [(.int (p3.toInt8.toInt32)), (.int vv), (.int (Int32.ofNat d)), (.int (Int32.ofNat sn)), (.int (12 : Int32)), (.ref b36)])) _
    refine XS.aload X101.here hx rfl (hb hby at_467) rfl rfl ?_
    exact kt
  obtain ⟨_, _, ⟨T102, L102, k102, n102⟩, -, X102, ⟨Lc102, hQ102, l102, y102, z102⟩, st102⟩ := Jvm.LawKit.callS X101 hx (y := (⟨"com/example/cytobridge/cytobridge/profile/TimeStampWriteDigitsPinLaw", "at", "([BIIIIB[J)Z"⟩ : MethodName)) hown (mvT hZ (hw _ (List.mem_of_getElem? (i := 17) rfl))) (mvT hZ (hw _ (List.mem_of_getElem? (i := 18) rfl))) (mvT hZ (hw _ (List.mem_of_getElem? (i := 19) rfl))) (mvT hZ (hw _ (List.mem_of_getElem? (i := 20) rfl))) (by decide) (backOf (W := 0) (rm2 l Z a0 hw [] b36 (12 : Int32) sn d vv (p3.toInt8.toInt32) b11 (wr sn d vv (List.replicate 16 (p3.toInt8.toInt32))) k36 k11 h87 n0 Z0_88 V87 Vpw_89 (by decide) hsd2) hZ (hw _ (List.mem_of_getElem? (i := 20) rfl)) (hw _ (List.mem_of_getElem? (i := 19) rfl)) (by decide) (by decide)) (g := (mkF m 469 #[.val (.int p0), .val (.int p1), .val (.int p2), .val (.int p3), .val (.ref b11), .val (.int (Int32.ofNat d)), .val (.int (Int32.ofNat sn)), .val (.int vv), .val (.int (p3.toInt8.toInt32)), .val (.ref b36)] [(.ref b11), (.int (p3.toInt8.toInt32)), (.int vv), (.int (Int32.ofNat d)), (.int (Int32.ofNat sn)), (.int (12 : Int32)), (.ref b36)])) rfl (by rw [hml]; rfl) (argsL := [(.ref b36), (.int (12 : Int32)), (.int (Int32.ofNat sn)), (.int (Int32.ofNat d)), (.int vv), (.int (p3.toInt8.toInt32)), (.ref b11)]) (rest := []) (lenOf pd_1 rfl) rfl (by show 2 * 0 + _ ≤ _; exact Nat.le_of_eq rfl) (hb hby at_469) (fun _ _ => ⟨rfl, e101, (by decide : 2 + 0 ≤ _), (by decide : 27 + 0 ≤ _)⟩)
  dsimp only [Pt.U, Pt.locs, Pt.cells, Pt.slots] at X102 l102 y102 z102 st102 hQ102
  subst y102 z102
  obtain ⟨rfl, Nq102, e102⟩ := hQ102
  have N102 : Fr n0 L102 := by rw [l102]; exact Fr.app N101 Nq102
  refine Got.step st102 ?_
  show Got p e below s _ _ _ _ T102 (mkF m 472 #[.val (.int p0), .val (.int p1), .val (.int p2), .val (.int p3), .val (.ref b11), .val (.int (Int32.ofNat d)), .val (.int (Int32.ofNat sn)), .val (.int vv), .val (.int (p3.toInt8.toInt32)), .val (.ref b36)] [(.int (f2 (wr sn d vv (List.replicate 16 (p3.toInt8.toInt32))) sn d (12 : Int32) vv (p3.toInt8.toInt32)))])
  refine Got.step (T' := T102) (g' := (mkF m 489 #[.val (.int p0), .val (.int p1), .val (.int p2), .val (.int p3), .val (.ref b11), .val (.int (Int32.ofNat d)), .val (.int (Int32.ofNat sn)), .val (.int vv), .val (.int (p3.toInt8.toInt32)), .val (.ref b36)] [(.ref b11), (.int (p3.toInt8.toInt32)), (.int vv), (.int (Int32.ofNat d)), (.int (Int32.ofNat sn)), (.int (13 : Int32)), (.ref b36)])) (fun tq kt => ?_) ?_
  · show Steps p.tables e below (T102.setTop (mkF m 472 #[.val (.int p0), .val (.int p1), .val (.int p2), .val (.int p3), .val (.ref b11), .val (.int (Int32.ofNat d)), .val (.int (Int32.ofNat sn)), .val (.int vv), .val (.int (p3.toInt8.toInt32)), .val (.ref b36)] [(.int (f2 (wr sn d vv (List.replicate 16 (p3.toInt8.toInt32))) sn d (12 : Int32) vv (p3.toInt8.toInt32)))])) _
    refine XS.ifNo X102.here hx rfl (hb hby at_472) rfl (XT.i0_eq_f (own_at_ne (i := 12) hsd2 (own_vv p1 hd hvv) (by decide))) ?_
    show Steps p.tables e below (T102.setTop (mkF m 475 #[.val (.int p0), .val (.int p1), .val (.int p2), .val (.int p3), .val (.ref b11), .val (.int (Int32.ofNat d)), .val (.int (Int32.ofNat sn)), .val (.int vv), .val (.int (p3.toInt8.toInt32)), .val (.ref b36)] [])) _
    refine XS.aload X102.here hx rfl (hb hby at_475) rfl rfl ?_
    show Steps p.tables e below (T102.setTop (mkF m 477 #[.val (.int p0), .val (.int p1), .val (.int p2), .val (.int p3), .val (.ref b11), .val (.int (Int32.ofNat d)), .val (.int (Int32.ofNat sn)), .val (.int vv), .val (.int (p3.toInt8.toInt32)), .val (.ref b36)] [(.ref b36)])) _
    refine XS.bipush X102.here hx rfl (hb hby at_477) ?_
    show Steps p.tables e below (T102.setTop (mkF m 479 #[.val (.int p0), .val (.int p1), .val (.int p2), .val (.int p3), .val (.ref b11), .val (.int (Int32.ofNat d)), .val (.int (Int32.ofNat sn)), .val (.int vv), .val (.int (p3.toInt8.toInt32)), .val (.ref b36)] [(.int (13 : Int32)), (.ref b36)])) _
    refine XS.iload X102.here hx rfl (hb hby at_479) rfl ?_
    show Steps p.tables e below (T102.setTop (mkF m 481 #[.val (.int p0), .val (.int p1), .val (.int p2), .val (.int p3), .val (.ref b11), .val (.int (Int32.ofNat d)), .val (.int (Int32.ofNat sn)), .val (.int vv), .val (.int (p3.toInt8.toInt32)), .val (.ref b36)] [(.int (Int32.ofNat sn)), (.int (13 : Int32)), (.ref b36)])) _
    refine XS.iload X102.here hx rfl (hb hby at_481) rfl ?_
    show Steps p.tables e below (T102.setTop (mkF m 483 #[.val (.int p0), .val (.int p1), .val (.int p2), .val (.int p3), .val (.ref b11), .val (.int (Int32.ofNat d)), .val (.int (Int32.ofNat sn)), .val (.int vv), .val (.int (p3.toInt8.toInt32)), .val (.ref b36)] [(.int (Int32.ofNat d)), (.int (Int32.ofNat sn)), (.int (13 : Int32)), (.ref b36)])) _
    refine XS.iload X102.here hx rfl (hb hby at_483) rfl ?_
    show Steps p.tables e below (T102.setTop (mkF m 485 #[.val (.int p0), .val (.int p1), .val (.int p2), .val (.int p3), .val (.ref b11), .val (.int (Int32.ofNat d)), .val (.int (Int32.ofNat sn)), .val (.int vv), .val (.int (p3.toInt8.toInt32)), .val (.ref b36)] [(.int vv), (.int (Int32.ofNat d)), (.int (Int32.ofNat sn)), (.int (13 : Int32)), (.ref b36)])) _
    refine XS.iload X102.here hx rfl (hb hby at_485) rfl ?_
    show Steps p.tables e below (T102.setTop (mkF m 487 #[.val (.int p0), .val (.int p1), .val (.int p2), .val (.int p3), .val (.ref b11), .val (.int (Int32.ofNat d)), .val (.int (Int32.ofNat sn)), .val (.int vv), .val (.int (p3.toInt8.toInt32)), .val (.ref b36)] [(.int (p3.toInt8.toInt32)), (.int vv), (.int (Int32.ofNat d)), (.int (Int32.ofNat sn)), (.int (13 : Int32)), (.ref b36)])) _
    refine XS.aload X102.here hx rfl (hb hby at_487) rfl rfl ?_
    exact kt
  obtain ⟨_, _, ⟨T103, L103, k103, n103⟩, -, X103, ⟨Lc103, hQ103, l103, y103, z103⟩, st103⟩ := Jvm.LawKit.callS X102 hx (y := (⟨"com/example/cytobridge/cytobridge/profile/TimeStampWriteDigitsPinLaw", "at", "([BIIIIB[J)Z"⟩ : MethodName)) hown (mvT hZ (hw _ (List.mem_of_getElem? (i := 17) rfl))) (mvT hZ (hw _ (List.mem_of_getElem? (i := 18) rfl))) (mvT hZ (hw _ (List.mem_of_getElem? (i := 19) rfl))) (mvT hZ (hw _ (List.mem_of_getElem? (i := 20) rfl))) (by decide) (backOf (W := 0) (rm2 l Z a0 hw [] b36 (13 : Int32) sn d vv (p3.toInt8.toInt32) b11 (wr sn d vv (List.replicate 16 (p3.toInt8.toInt32))) k36 k11 h87 n0 Z0_88 V87 Vpw_89 (by decide) hsd2) hZ (hw _ (List.mem_of_getElem? (i := 20) rfl)) (hw _ (List.mem_of_getElem? (i := 19) rfl)) (by decide) (by decide)) (g := (mkF m 489 #[.val (.int p0), .val (.int p1), .val (.int p2), .val (.int p3), .val (.ref b11), .val (.int (Int32.ofNat d)), .val (.int (Int32.ofNat sn)), .val (.int vv), .val (.int (p3.toInt8.toInt32)), .val (.ref b36)] [(.ref b11), (.int (p3.toInt8.toInt32)), (.int vv), (.int (Int32.ofNat d)), (.int (Int32.ofNat sn)), (.int (13 : Int32)), (.ref b36)])) rfl (by rw [hml]; rfl) (argsL := [(.ref b36), (.int (13 : Int32)), (.int (Int32.ofNat sn)), (.int (Int32.ofNat d)), (.int vv), (.int (p3.toInt8.toInt32)), (.ref b11)]) (rest := []) (lenOf pd_1 rfl) rfl (by show 2 * 0 + _ ≤ _; exact Nat.le_of_eq rfl) (hb hby at_489) (fun _ _ => ⟨rfl, e102, (by decide : 2 + 0 ≤ _), (by decide : 27 + 0 ≤ _)⟩)
  dsimp only [Pt.U, Pt.locs, Pt.cells, Pt.slots] at X103 l103 y103 z103 st103 hQ103
  subst y103 z103
  obtain ⟨rfl, Nq103, e103⟩ := hQ103
  have N103 : Fr n0 L103 := by rw [l103]; exact Fr.app N102 Nq103
  refine Got.step st103 ?_
  show Got p e below s _ _ _ _ T103 (mkF m 492 #[.val (.int p0), .val (.int p1), .val (.int p2), .val (.int p3), .val (.ref b11), .val (.int (Int32.ofNat d)), .val (.int (Int32.ofNat sn)), .val (.int vv), .val (.int (p3.toInt8.toInt32)), .val (.ref b36)] [(.int (f2 (wr sn d vv (List.replicate 16 (p3.toInt8.toInt32))) sn d (13 : Int32) vv (p3.toInt8.toInt32)))])
  refine Got.step (T' := T103) (g' := (mkF m 509 #[.val (.int p0), .val (.int p1), .val (.int p2), .val (.int p3), .val (.ref b11), .val (.int (Int32.ofNat d)), .val (.int (Int32.ofNat sn)), .val (.int vv), .val (.int (p3.toInt8.toInt32)), .val (.ref b36)] [(.ref b11), (.int (p3.toInt8.toInt32)), (.int vv), (.int (Int32.ofNat d)), (.int (Int32.ofNat sn)), (.int (14 : Int32)), (.ref b36)])) (fun tq kt => ?_) ?_
  · show Steps p.tables e below (T103.setTop (mkF m 492 #[.val (.int p0), .val (.int p1), .val (.int p2), .val (.int p3), .val (.ref b11), .val (.int (Int32.ofNat d)), .val (.int (Int32.ofNat sn)), .val (.int vv), .val (.int (p3.toInt8.toInt32)), .val (.ref b36)] [(.int (f2 (wr sn d vv (List.replicate 16 (p3.toInt8.toInt32))) sn d (13 : Int32) vv (p3.toInt8.toInt32)))])) _
    refine XS.ifNo X103.here hx rfl (hb hby at_492) rfl (XT.i0_eq_f (own_at_ne (i := 13) hsd2 (own_vv p1 hd hvv) (by decide))) ?_
    show Steps p.tables e below (T103.setTop (mkF m 495 #[.val (.int p0), .val (.int p1), .val (.int p2), .val (.int p3), .val (.ref b11), .val (.int (Int32.ofNat d)), .val (.int (Int32.ofNat sn)), .val (.int vv), .val (.int (p3.toInt8.toInt32)), .val (.ref b36)] [])) _
    refine XS.aload X103.here hx rfl (hb hby at_495) rfl rfl ?_
    show Steps p.tables e below (T103.setTop (mkF m 497 #[.val (.int p0), .val (.int p1), .val (.int p2), .val (.int p3), .val (.ref b11), .val (.int (Int32.ofNat d)), .val (.int (Int32.ofNat sn)), .val (.int vv), .val (.int (p3.toInt8.toInt32)), .val (.ref b36)] [(.ref b36)])) _
    refine XS.bipush X103.here hx rfl (hb hby at_497) ?_
    show Steps p.tables e below (T103.setTop (mkF m 499 #[.val (.int p0), .val (.int p1), .val (.int p2), .val (.int p3), .val (.ref b11), .val (.int (Int32.ofNat d)), .val (.int (Int32.ofNat sn)), .val (.int vv), .val (.int (p3.toInt8.toInt32)), .val (.ref b36)] [(.int (14 : Int32)), (.ref b36)])) _
    refine XS.iload X103.here hx rfl (hb hby at_499) rfl ?_
    show Steps p.tables e below (T103.setTop (mkF m 501 #[.val (.int p0), .val (.int p1), .val (.int p2), .val (.int p3), .val (.ref b11), .val (.int (Int32.ofNat d)), .val (.int (Int32.ofNat sn)), .val (.int vv), .val (.int (p3.toInt8.toInt32)), .val (.ref b36)] [(.int (Int32.ofNat sn)), (.int (14 : Int32)), (.ref b36)])) _
    refine XS.iload X103.here hx rfl (hb hby at_501) rfl ?_
    show Steps p.tables e below (T103.setTop (mkF m 503 #[.val (.int p0), .val (.int p1), .val (.int p2), .val (.int p3), .val (.ref b11), .val (.int (Int32.ofNat d)), .val (.int (Int32.ofNat sn)), .val (.int vv), .val (.int (p3.toInt8.toInt32)), .val (.ref b36)] [(.int (Int32.ofNat d)), (.int (Int32.ofNat sn)), (.int (14 : Int32)), (.ref b36)])) _
    refine XS.iload X103.here hx rfl (hb hby at_503) rfl ?_
    show Steps p.tables e below (T103.setTop (mkF m 505 #[.val (.int p0), .val (.int p1), .val (.int p2), .val (.int p3), .val (.ref b11), .val (.int (Int32.ofNat d)), .val (.int (Int32.ofNat sn)), .val (.int vv), .val (.int (p3.toInt8.toInt32)), .val (.ref b36)] [(.int vv), (.int (Int32.ofNat d)), (.int (Int32.ofNat sn)), (.int (14 : Int32)), (.ref b36)])) _
    refine XS.iload X103.here hx rfl (hb hby at_505) rfl ?_
    show Steps p.tables e below (T103.setTop (mkF m 507 #[.val (.int p0), .val (.int p1), .val (.int p2), .val (.int p3), .val (.ref b11), .val (.int (Int32.ofNat d)), .val (.int (Int32.ofNat sn)), .val (.int vv), .val (.int (p3.toInt8.toInt32)), .val (.ref b36)] [(.int (p3.toInt8.toInt32)), (.int vv), (.int (Int32.ofNat d)), (.int (Int32.ofNat sn)), (.int (14 : Int32)), (.ref b36)])) _
    refine XS.aload X103.here hx rfl (hb hby at_507) rfl rfl ?_
    exact kt
  obtain ⟨_, _, ⟨T104, L104, k104, n104⟩, -, X104, ⟨Lc104, hQ104, l104, y104, z104⟩, st104⟩ := Jvm.LawKit.callS X103 hx (y := (⟨"com/example/cytobridge/cytobridge/profile/TimeStampWriteDigitsPinLaw", "at", "([BIIIIB[J)Z"⟩ : MethodName)) hown (mvT hZ (hw _ (List.mem_of_getElem? (i := 17) rfl))) (mvT hZ (hw _ (List.mem_of_getElem? (i := 18) rfl))) (mvT hZ (hw _ (List.mem_of_getElem? (i := 19) rfl))) (mvT hZ (hw _ (List.mem_of_getElem? (i := 20) rfl))) (by decide) (backOf (W := 0) (rm2 l Z a0 hw [] b36 (14 : Int32) sn d vv (p3.toInt8.toInt32) b11 (wr sn d vv (List.replicate 16 (p3.toInt8.toInt32))) k36 k11 h87 n0 Z0_88 V87 Vpw_89 (by decide) hsd2) hZ (hw _ (List.mem_of_getElem? (i := 20) rfl)) (hw _ (List.mem_of_getElem? (i := 19) rfl)) (by decide) (by decide)) (g := (mkF m 509 #[.val (.int p0), .val (.int p1), .val (.int p2), .val (.int p3), .val (.ref b11), .val (.int (Int32.ofNat d)), .val (.int (Int32.ofNat sn)), .val (.int vv), .val (.int (p3.toInt8.toInt32)), .val (.ref b36)] [(.ref b11), (.int (p3.toInt8.toInt32)), (.int vv), (.int (Int32.ofNat d)), (.int (Int32.ofNat sn)), (.int (14 : Int32)), (.ref b36)])) rfl (by rw [hml]; rfl) (argsL := [(.ref b36), (.int (14 : Int32)), (.int (Int32.ofNat sn)), (.int (Int32.ofNat d)), (.int vv), (.int (p3.toInt8.toInt32)), (.ref b11)]) (rest := []) (lenOf pd_1 rfl) rfl (by show 2 * 0 + _ ≤ _; exact Nat.le_of_eq rfl) (hb hby at_509) (fun _ _ => ⟨rfl, e103, (by decide : 2 + 0 ≤ _), (by decide : 27 + 0 ≤ _)⟩)
  dsimp only [Pt.U, Pt.locs, Pt.cells, Pt.slots] at X104 l104 y104 z104 st104 hQ104
  subst y104 z104
  obtain ⟨rfl, Nq104, e104⟩ := hQ104
  have N104 : Fr n0 L104 := by rw [l104]; exact Fr.app N103 Nq104
  refine Got.step st104 ?_
  show Got p e below s _ _ _ _ T104 (mkF m 512 #[.val (.int p0), .val (.int p1), .val (.int p2), .val (.int p3), .val (.ref b11), .val (.int (Int32.ofNat d)), .val (.int (Int32.ofNat sn)), .val (.int vv), .val (.int (p3.toInt8.toInt32)), .val (.ref b36)] [(.int (f2 (wr sn d vv (List.replicate 16 (p3.toInt8.toInt32))) sn d (14 : Int32) vv (p3.toInt8.toInt32)))])
  refine Got.step (T' := T104) (g' := (mkF m 529 #[.val (.int p0), .val (.int p1), .val (.int p2), .val (.int p3), .val (.ref b11), .val (.int (Int32.ofNat d)), .val (.int (Int32.ofNat sn)), .val (.int vv), .val (.int (p3.toInt8.toInt32)), .val (.ref b36)] [(.ref b11), (.int (p3.toInt8.toInt32)), (.int vv), (.int (Int32.ofNat d)), (.int (Int32.ofNat sn)), (.int (15 : Int32)), (.ref b36)])) (fun tq kt => ?_) ?_
  · show Steps p.tables e below (T104.setTop (mkF m 512 #[.val (.int p0), .val (.int p1), .val (.int p2), .val (.int p3), .val (.ref b11), .val (.int (Int32.ofNat d)), .val (.int (Int32.ofNat sn)), .val (.int vv), .val (.int (p3.toInt8.toInt32)), .val (.ref b36)] [(.int (f2 (wr sn d vv (List.replicate 16 (p3.toInt8.toInt32))) sn d (14 : Int32) vv (p3.toInt8.toInt32)))])) _
    refine XS.ifNo X104.here hx rfl (hb hby at_512) rfl (XT.i0_eq_f (own_at_ne (i := 14) hsd2 (own_vv p1 hd hvv) (by decide))) ?_
    show Steps p.tables e below (T104.setTop (mkF m 515 #[.val (.int p0), .val (.int p1), .val (.int p2), .val (.int p3), .val (.ref b11), .val (.int (Int32.ofNat d)), .val (.int (Int32.ofNat sn)), .val (.int vv), .val (.int (p3.toInt8.toInt32)), .val (.ref b36)] [])) _
    refine XS.aload X104.here hx rfl (hb hby at_515) rfl rfl ?_
    show Steps p.tables e below (T104.setTop (mkF m 517 #[.val (.int p0), .val (.int p1), .val (.int p2), .val (.int p3), .val (.ref b11), .val (.int (Int32.ofNat d)), .val (.int (Int32.ofNat sn)), .val (.int vv), .val (.int (p3.toInt8.toInt32)), .val (.ref b36)] [(.ref b36)])) _
    refine XS.bipush X104.here hx rfl (hb hby at_517) ?_
    show Steps p.tables e below (T104.setTop (mkF m 519 #[.val (.int p0), .val (.int p1), .val (.int p2), .val (.int p3), .val (.ref b11), .val (.int (Int32.ofNat d)), .val (.int (Int32.ofNat sn)), .val (.int vv), .val (.int (p3.toInt8.toInt32)), .val (.ref b36)] [(.int (15 : Int32)), (.ref b36)])) _
    refine XS.iload X104.here hx rfl (hb hby at_519) rfl ?_
    show Steps p.tables e below (T104.setTop (mkF m 521 #[.val (.int p0), .val (.int p1), .val (.int p2), .val (.int p3), .val (.ref b11), .val (.int (Int32.ofNat d)), .val (.int (Int32.ofNat sn)), .val (.int vv), .val (.int (p3.toInt8.toInt32)), .val (.ref b36)] [(.int (Int32.ofNat sn)), (.int (15 : Int32)), (.ref b36)])) _
    refine XS.iload X104.here hx rfl (hb hby at_521) rfl ?_
    show Steps p.tables e below (T104.setTop (mkF m 523 #[.val (.int p0), .val (.int p1), .val (.int p2), .val (.int p3), .val (.ref b11), .val (.int (Int32.ofNat d)), .val (.int (Int32.ofNat sn)), .val (.int vv), .val (.int (p3.toInt8.toInt32)), .val (.ref b36)] [(.int (Int32.ofNat d)), (.int (Int32.ofNat sn)), (.int (15 : Int32)), (.ref b36)])) _
    refine XS.iload X104.here hx rfl (hb hby at_523) rfl ?_
    show Steps p.tables e below (T104.setTop (mkF m 525 #[.val (.int p0), .val (.int p1), .val (.int p2), .val (.int p3), .val (.ref b11), .val (.int (Int32.ofNat d)), .val (.int (Int32.ofNat sn)), .val (.int vv), .val (.int (p3.toInt8.toInt32)), .val (.ref b36)] [(.int vv), (.int (Int32.ofNat d)), (.int (Int32.ofNat sn)), (.int (15 : Int32)), (.ref b36)])) _
    refine XS.iload X104.here hx rfl (hb hby at_525) rfl ?_
    show Steps p.tables e below (T104.setTop (mkF m 527 #[.val (.int p0), .val (.int p1), .val (.int p2), .val (.int p3), .val (.ref b11), .val (.int (Int32.ofNat d)), .val (.int (Int32.ofNat sn)), .val (.int vv), .val (.int (p3.toInt8.toInt32)), .val (.ref b36)] [(.int (p3.toInt8.toInt32)), (.int vv), (.int (Int32.ofNat d)), (.int (Int32.ofNat sn)), (.int (15 : Int32)), (.ref b36)])) _
    refine XS.aload X104.here hx rfl (hb hby at_527) rfl rfl ?_
    exact kt
  obtain ⟨_, _, ⟨T105, L105, k105, n105⟩, -, X105, ⟨Lc105, hQ105, l105, y105, z105⟩, st105⟩ := Jvm.LawKit.callS X104 hx (y := (⟨"com/example/cytobridge/cytobridge/profile/TimeStampWriteDigitsPinLaw", "at", "([BIIIIB[J)Z"⟩ : MethodName)) hown (mvT hZ (hw _ (List.mem_of_getElem? (i := 17) rfl))) (mvT hZ (hw _ (List.mem_of_getElem? (i := 18) rfl))) (mvT hZ (hw _ (List.mem_of_getElem? (i := 19) rfl))) (mvT hZ (hw _ (List.mem_of_getElem? (i := 20) rfl))) (by decide) (backOf (W := 0) (rm2 l Z a0 hw [] b36 (15 : Int32) sn d vv (p3.toInt8.toInt32) b11 (wr sn d vv (List.replicate 16 (p3.toInt8.toInt32))) k36 k11 h87 n0 Z0_88 V87 Vpw_89 (by decide) hsd2) hZ (hw _ (List.mem_of_getElem? (i := 20) rfl)) (hw _ (List.mem_of_getElem? (i := 19) rfl)) (by decide) (by decide)) (g := (mkF m 529 #[.val (.int p0), .val (.int p1), .val (.int p2), .val (.int p3), .val (.ref b11), .val (.int (Int32.ofNat d)), .val (.int (Int32.ofNat sn)), .val (.int vv), .val (.int (p3.toInt8.toInt32)), .val (.ref b36)] [(.ref b11), (.int (p3.toInt8.toInt32)), (.int vv), (.int (Int32.ofNat d)), (.int (Int32.ofNat sn)), (.int (15 : Int32)), (.ref b36)])) rfl (by rw [hml]; rfl) (argsL := [(.ref b36), (.int (15 : Int32)), (.int (Int32.ofNat sn)), (.int (Int32.ofNat d)), (.int vv), (.int (p3.toInt8.toInt32)), (.ref b11)]) (rest := []) (lenOf pd_1 rfl) rfl (by show 2 * 0 + _ ≤ _; exact Nat.le_of_eq rfl) (hb hby at_529) (fun _ _ => ⟨rfl, e104, (by decide : 2 + 0 ≤ _), (by decide : 27 + 0 ≤ _)⟩)
  dsimp only [Pt.U, Pt.locs, Pt.cells, Pt.slots] at X105 l105 y105 z105 st105 hQ105
  subst y105 z105
  obtain ⟨rfl, Nq105, e105⟩ := hQ105
  have N105 : Fr n0 L105 := by rw [l105]; exact Fr.app N104 Nq105
  refine Got.step st105 ?_
  show Got p e below s _ _ _ _ T105 (mkF m 532 #[.val (.int p0), .val (.int p1), .val (.int p2), .val (.int p3), .val (.ref b11), .val (.int (Int32.ofNat d)), .val (.int (Int32.ofNat sn)), .val (.int vv), .val (.int (p3.toInt8.toInt32)), .val (.ref b36)] [(.int (f2 (wr sn d vv (List.replicate 16 (p3.toInt8.toInt32))) sn d (15 : Int32) vv (p3.toInt8.toInt32)))])
  refine Got.step (T' := T105) (g' := (mkF m 540 #[.val (.int p0), .val (.int p1), .val (.int p2), .val (.int p3), .val (.ref b11), .val (.int (Int32.ofNat d)), .val (.int (Int32.ofNat sn)), .val (.int vv), .val (.int (p3.toInt8.toInt32)), .val (.ref b36)] [(.int (1 : Int32))])) (fun tq kt => ?_) ?_
  · show Steps p.tables e below (T105.setTop (mkF m 532 #[.val (.int p0), .val (.int p1), .val (.int p2), .val (.int p3), .val (.ref b11), .val (.int (Int32.ofNat d)), .val (.int (Int32.ofNat sn)), .val (.int vv), .val (.int (p3.toInt8.toInt32)), .val (.ref b36)] [(.int (f2 (wr sn d vv (List.replicate 16 (p3.toInt8.toInt32))) sn d (15 : Int32) vv (p3.toInt8.toInt32)))])) _
    refine XS.ifNo X105.here hx rfl (hb hby at_532) rfl (XT.i0_eq_f (own_at_ne (i := 15) hsd2 (own_vv p1 hd hvv) (by decide))) ?_
    show Steps p.tables e below (T105.setTop (mkF m 535 #[.val (.int p0), .val (.int p1), .val (.int p2), .val (.int p3), .val (.ref b11), .val (.int (Int32.ofNat d)), .val (.int (Int32.ofNat sn)), .val (.int vv), .val (.int (p3.toInt8.toInt32)), .val (.ref b36)] [])) _
    refine XS.iconst X105.here hx rfl (hb hby at_535) ?_
    show Steps p.tables e below (T105.setTop (mkF m 536 #[.val (.int p0), .val (.int p1), .val (.int p2), .val (.int p3), .val (.ref b11), .val (.int (Int32.ofNat d)), .val (.int (Int32.ofNat sn)), .val (.int vv), .val (.int (p3.toInt8.toInt32)), .val (.ref b36)] [(.int (1 : Int32))])) _
    refine XS.goto X105.here hx rfl (pc0 := 536) (pc' := 540) rfl (hb hby at_536) (by decide) (by decide) ?_
    exact kt
  exact Got.retN (y := (1 : Int32)) (t := .boolean) X105 hx Bd.returns (by simp) hlk (hb hby at_540) (by decide) N105 (by decide) (by decide)
set_option maxRecDepth 65536 in
set_option maxHeartbeats 40000000 in
theorem comes_1 {Post : Tables → Env → Array Value → State → Outcome → State → Prop} (hpost : ∀ tb e args s v u, (limb_1_1.after args s (.returned v) u = true ∧ limb_1_2.after args s (.returned v) u = true ∧ True) → FrameEnd s (.returned v) u (Jvm.fieldLocs frame_1_writes args s ++ Jvm.arrayLocs frame_1_arrays args s ++ Jvm.staticLocs frame_1_statics s) 16 128 → Post tb e args s (.returned v) u) :
    ArmFor flags0 classFile x code maxLocals ret World_1 tables_1 room_1 Calls_1 rest_1 Pre_1 Post := by
  intro l hfl _ _ p e ha hc hk s m args below hf hA hF happ hP
  obtain ⟨hcalls, hrest, hpre⟩ := hP
  obtain ⟨-, -, -, hnamed, -, -, -, hat⟩ := (Spec.applies_iff hf).mp happ
  obtain ⟨hg, hn⟩ := and_e (Cond.before_iff.mp (show (Jvm.Cond.and given_1 narrow_1).before args s = true from hpre))
  obtain ⟨h1, g0⟩ := and_e hg
  obtain ⟨c0, g1⟩ := and_e g0
  obtain ⟨c1, g2⟩ := and_e g1
  obtain ⟨c2, g3⟩ := and_e g2
  obtain ⟨w0, w1, w2, w3, rfl⟩ : ∃ w0 w1 w2 w3 : Value, args = #[w0, w1, w2, w3] := by
    have hs : args.size = 4 := by simpa [Cond.value, given_1] using h1
    obtain ⟨L⟩ := args
    match L, hs with
    | [w0, w1, w2, w3], _ => exact ⟨w0, w1, w2, w3, rfl⟩
  have hw := fun d (hd : d ∈ tables_1) => atoms_spec (ws := Jvm.Cond.code x code maxLocals ret :: tables_1) hat d (List.mem_cons_of_mem _ hd)
  obtain ⟨i0, e0⟩ := is_v c0
  obtain rfl : w0 = (.int i0) := Option.some.inj e0
  obtain ⟨i1, e1⟩ := is_v c1
  obtain rfl : w1 = (.int i1) := Option.some.inj e1
  obtain ⟨i2, e2⟩ := is_v c2
  obtain rfl : w2 = (.int i2) := Option.some.inj e2
  obtain ⟨i3, e3⟩ := is_v g3
  obtain rfl : w3 = (.int i3) := Option.some.inj e3
  obtain ⟨n, o, h1, h2, h3, vq, L, rfl, ⟨hv, N⟩, hq⟩ := rm0 l s _ hw tables_1 i0 i1 i2 i3  s.heap s.heap.size (Nat.le_refl _)  p e ha hc hk s m _ below hf ((Spec.applies_iff_loose hf).mp happ).1 ⟨rfl, State.Warmed39.refl s, rfl⟩ trivial
  subst hv
  refine ⟨n, _, h1, h2, h3, hpost _ _ _ _ _ _ ⟨Cond.after_iff.mpr rfl, Cond.after_iff.mpr (eq_i res_at (Term.int_eval (1)) rfl), trivial⟩ ⟨hq.1, hq.2.1, (hq.2.2.sift fun y hy => Or.inr (N y hy)).mono (by decide) (by decide)⟩⟩
theorem main_1_1 : Claimed_1_1 := comes_1 fun _ _ _ _ _ _ h hF => ⟨h.1, hF⟩
theorem main_1_2 : Claimed_1_2 := comes_1 fun _ _ _ _ _ _ h hF => ⟨h.2.1, hF⟩
end Jvm.Pilot.@@N@@
namespace Jvm.Pilot.@@N@@
open Jvm Jvm.ClassFile Sem Op Lib Jvm.Free Jvm.Stand Jvm.Pilot.@@N@@.Jvm.D
/-! MADE BY PROGRAM (witnessworld.py) out of the Statement's table words and the real class files: 11 classes; the members and pool entries that the words name. The judged class is class 1, her method 1. -/
namespace start1
open Jvm.ClassFile
def u (s : String) : CpInfo := .utf8 (stringToUtf16 s)
/-- a pool by its gaps: so many unusable entries, then the entry; so many at the end -/
def gap : Nat → List CpInfo → List CpInfo
  | 0, r => r
  | n + 1, r => .unusable :: gap n r
def poolList (es : List (Nat × CpInfo)) (last : Nat) : List CpInfo := es.foldr (fun e r => gap e.1 (e.2 :: r)) (gap last [])
def pool (es : List (Nat × CpInfo)) (last : Nat) : Array CpInfo := ⟨poolList es last⟩
def fileOf (pool : Array CpInfo) (this : Nat) (attrs : Array Attribute := #[]) (ms : Array MethodInfo := #[]) (fl : Nat := 33) (sup : Nat := 0) (ifs : Array Nat := #[]) (fds : Array FieldInfo := #[]) : ClassFile where
  minorVersion := 0
  majorVersion := 65
  constantPool := pool
  accessFlags := fl
  thisClass := this
  superClass := sup
  interfaces := ifs
  fields := fds
  methods := ms
  attributes := attrs
def plain (name : String) (sup : Option ClassId) : Class where
  name := name
  kind := .ordinary
  loader := none
  accessFlags := 33
  super := sup
  interfaces := #[]
  cf := none
  fields := #[]
  methods := #[]
  instanceTypes := #[]
  staticTypes := #[]
  resolved := #[]
  callSites := []
  init := .initialized
  statics := none
  mirror := none

def pool0 : Array CpInfo := pool [(5, u "<init>"), (0, u "()V"), (1, .class_ 10), (1, u "java/lang/Object")] 113

def k0m0 : Method := { name := "<init>", desc := "()V", sig := { parameters := [], returnType := none }, accessFlags := 1, code := none }
/-- java/lang/Object -/
def k0 : Class := { plain "java/lang/Object" none with
  accessFlags := 33
  interfaces := #[]
  cf := some (fileOf pool0 8 #[] #[{ accessFlags := 1, nameIndex := 5, descriptorIndex := 6, attributes := #[] }] 33 0 #[] #[])
  fields := #[]
  methods := #[k0m0]
  instanceTypes := #[]
  staticTypes := #[]
  resolved := Array.replicate 124 none
  statics := none }

def pool1 : Array CpInfo := pool [(2, .class_ 4), (1, u "java/lang/Object"), (0, u "<init>"), (0, u "()V"), (0, .long 10), (1, .long 100), (1, .long 1000), (1, .long 10000), (1, .long 100000), (1, .long 1000000), (1, .long 10000000), (1, .long 100000000), (1, .long 1000000000), (1, .long 10000000000), (1, .integer 2147483647), (0, .methodref 29 30), (0, .class_ 31), (0, .nameAndType 32 33), (0, u "com/example/cytobridge/cytobridge/profile/TimeStamp"), (0, u "writeDigits"), (0, u "([BIII)V"), (0, .methodref 35 36), (0, .class_ 37), (0, .nameAndType 38 39), (0, u "com/example/cytobridge/cytobridge/profile/TimeStampWriteDigitsPinLaw"), (0, u "at"), (0, u "([BIIIIB[J)Z"), (2, u "law"), (0, u "(IIII)Z")] 7

def k1m0 : Method := { name := "<init>", desc := "()V", sig := { parameters := [], returnType := none }, accessFlags := 2, code := none }
def k1c1 : Code := { maxStack := 7, maxLocals := 10, code := code, exceptionTable := #[], attributes := #[] }
def k1m1 : Method := { name := "law", desc := "(IIII)Z", sig := { parameters := [.int, .int, .int, .int], returnType := some .boolean }, accessFlags := 9, code := some k1c1 }
def k1c2 : Code := { maxStack := 4, maxLocals := 10, code := method_3_code, exceptionTable := #[], attributes := #[] }
def k1m2 : Method := { name := "at", desc := "([BIIIIB[J)Z", sig := { parameters := [(.array .byte), .int, .int, .int, .int, .byte, (.array .long)], returnType := some .boolean }, accessFlags := 10, code := some k1c2 }
/-- com/example/cytobridge/cytobridge/profile/TimeStampWriteDigitsPinLaw -/
def k1 : Class := { plain "com/example/cytobridge/cytobridge/profile/TimeStampWriteDigitsPinLaw" (some 0) with
  accessFlags := 49
  interfaces := #[]
  cf := some (fileOf pool1 35 #[] #[{ accessFlags := 2, nameIndex := 5, descriptorIndex := 6, attributes := #[] }, { accessFlags := 9, nameIndex := 42, descriptorIndex := 43, attributes := #[] }, { accessFlags := 10, nameIndex := 38, descriptorIndex := 39, attributes := #[] }] 49 2 #[] #[])
  fields := #[]
  methods := #[k1m0, k1m1, k1m2]
  instanceTypes := #[]
  staticTypes := #[]
  resolved := Array.replicate 51 none
  statics := none }

def pool2 : Array CpInfo := pool [(1, .class_ 2), (0, u "com/example/cytobridge/cytobridge/profile/TimeStamp"), (1, .class_ 6), (1, u "java/lang/Object"), (0, u "<init>"), (0, u "()V"), (16, u "TO_THE_MILLISECOND"), (0, u "Ljava/time/format/DateTimeFormatter;"), (7, u "writeDigits"), (0, u "([BIII)V"), (35, .class_ 73), (1, u "com/example/cytobridge/cytobridge/profile/TimeStamp$Form"), (73, u "DATE"), (0, u "I"), (2, u "TO_THE_SECOND"), (1, u "TO_THE_MILLISECOND_LENGTH"), (1, u "MAX_FOUR_DIGIT_YEAR"), (1, u "NANOS_PER_MILLISECOND")] 14

def k2m0 : Method := { name := "<init>", desc := "()V", sig := { parameters := [], returnType := none }, accessFlags := 2, code := none }
def k2c1 : Code := { maxStack := 5, maxLocals := 6, code := prog_53_method_4_code, exceptionTable := #[], attributes := #[] }
def k2m1 : Method := { name := "writeDigits", desc := "([BIII)V", sig := { parameters := [(.array .byte), .int, .int, .int], returnType := none }, accessFlags := 9, code := some k2c1 }
/-- com/example/cytobridge/cytobridge/profile/TimeStamp -/
def k2 : Class := { plain "com/example/cytobridge/cytobridge/profile/TimeStamp" (some 0) with
  accessFlags := 49
  interfaces := #[]
  cf := some (fileOf pool2 1 #[.nestMembers #[71]] #[{ accessFlags := 2, nameIndex := 7, descriptorIndex := 8, attributes := #[] }, { accessFlags := 9, nameIndex := 34, descriptorIndex := 35, attributes := #[] }] 49 4 #[] #[{ accessFlags := 26, nameIndex := 147, descriptorIndex := 148, attributes := #[] }, { accessFlags := 26, nameIndex := 151, descriptorIndex := 148, attributes := #[] }, { accessFlags := 26, nameIndex := 25, descriptorIndex := 26, attributes := #[] }, { accessFlags := 26, nameIndex := 153, descriptorIndex := 148, attributes := #[] }, { accessFlags := 26, nameIndex := 155, descriptorIndex := 148, attributes := #[] }, { accessFlags := 26, nameIndex := 157, descriptorIndex := 148, attributes := #[] }])
  fields := #[{ name := "DATE", type := .int, accessFlags := 26, slot := 0, constantValue := 0 }, { name := "TO_THE_SECOND", type := .int, accessFlags := 26, slot := 1, constantValue := 0 }, { name := "TO_THE_MILLISECOND", type := (.object "java/time/format/DateTimeFormatter"), accessFlags := 26, slot := 2, constantValue := 0 }, { name := "TO_THE_MILLISECOND_LENGTH", type := .int, accessFlags := 26, slot := 3, constantValue := 0 }, { name := "MAX_FOUR_DIGIT_YEAR", type := .int, accessFlags := 26, slot := 4, constantValue := 0 }, { name := "NANOS_PER_MILLISECOND", type := .int, accessFlags := 26, slot := 5, constantValue := 0 }]
  methods := #[k2m0, k2m1]
  instanceTypes := #[]
  staticTypes := #[.int, .int, (.object "java/time/format/DateTimeFormatter"), .int, .int, .int]
  resolved := Array.replicate 172 none
  statics := none }

def pool3 : Array CpInfo := pool [(1, u "java/lang/Cloneable"), (0, .class_ 1), (0, u "java/lang/Object"), (0, .class_ 3)] 3

/-- java/lang/Cloneable -/
def k3 : Class := { plain "java/lang/Cloneable" (some 0) with
  accessFlags := 1537
  interfaces := #[]
  cf := some (fileOf pool3 2 #[] #[] 1537 4 #[] #[])
  fields := #[]
  methods := #[]
  instanceTypes := #[]
  staticTypes := #[]
  resolved := Array.replicate 8 none
  statics := none }

def pool4 : Array CpInfo := pool [(1, u "java/io/Serializable"), (0, .class_ 1), (0, u "java/lang/Object"), (0, .class_ 3)] 3

/-- java/io/Serializable -/
def k4 : Class := { plain "java/io/Serializable" (some 0) with
  accessFlags := 1537
  interfaces := #[]
  cf := some (fileOf pool4 2 #[] #[] 1537 4 #[] #[])
  fields := #[]
  methods := #[]
  instanceTypes := #[]
  staticTypes := #[]
  resolved := Array.replicate 8 none
  statics := none }

/-- the primitive byte -/
def k5 : Class := { plain "byte" none with kind := .primitive 'B', accessFlags := 0x411 }
/-- [B -/
def k6 : Class := { plain "[B" (some 0) with kind := .array 5 .byte, interfaces := #[3, 4], accessFlags := 1041 }

/-- the primitive int -/
def k7 : Class := { plain "int" none with kind := .primitive 'I', accessFlags := 0x411 }
/-- [I -/
def k8 : Class := { plain "[I" (some 0) with kind := .array 7 .int, interfaces := #[3, 4], accessFlags := 1041 }

/-- the primitive long -/
def k9 : Class := { plain "long" none with kind := .primitive 'J', accessFlags := 0x411 }
/-- [J -/
def k10 : Class := { plain "[J" (some 0) with kind := .array 9 .long, interfaces := #[3, 4], accessFlags := 1041 }

def heap : Heap := #[]
def classes : Array Class := #[k0, k1, k2, k3, k4, k5, k6, k7, k8, k9, k10]
def interned : List (Array UInt16 × Addr) := []
def slotsUsed : Nat := 0
def theMethod : MethodId := ⟨1, 1⟩
def args0 : Array Value := #[.int 5, .int 3, .int 4, .int 9]
def aboutOver (below : List Frame) : State where
  vm := { classes := classes, interned := interned.toArray }
  heap := heap
  slotsUsed := slotsUsed
  threads := #[{ frames := .invoking theMethod args0 :: below }]
def below0 : List Frame := [.native { method := ⟨0, 0⟩, args := #[] }]
def about1 : State := aboutOver below0
def p0 : Program := .bare "" "" ""
def e0 : Env := launch0.env 0 0 0
theorem w_frames : about1.frames = Frame.invoking theMethod args0 :: below0 := rfl
set_option maxRecDepth 65536 in
theorem w_args : argsFit about1.vm theMethod args0 = true := by decide +kernel
set_option maxRecDepth 65536 in
theorem w_heap : heapFits about1 = true := by decide +kernel
set_option maxRecDepth 65536 in
theorem w_runnable : about1.curStatus? = some .runnable := by decide +kernel
set_option maxRecDepth 65536 in
theorem w_alone : about1.alone = true := by decide +kernel
set_option maxRecDepth 65536 in
theorem w_named : about1.methodNamed? x = some theMethod := by decide +kernel
set_option maxRecDepth 65536 in
theorem w_hears : about1.hears theMethod below0 = true := by decide +kernel
set_option maxRecDepth 65536 in
theorem w_ripe : about1.ripe theMethod args0 below0 = true := by decide +kernel
theorem w_running : about1.status = .running := rfl
set_option maxRecDepth 65536 in
theorem w_room : about1.hasRoom e0.platform room_1 = true :=
  launch0.hasRoom_least _ room_1 (by decide +kernel) (by decide +kernel) (by decide +kernel) (by decide +kernel) (by decide +kernel) (by decide +kernel)
theorem allAtoms_all (ts : List Jvm.Cond) (a : Array Jvm.Value) (st : Jvm.State) : (allAtoms ts).before a st = ts.all (fun c => c.before a st) := by
  induction ts with
  | nil => rfl
  | cons c t ih =>
    show (Jvm.Cond.and c (allAtoms t)).before a st = _
    rw [Jvm.Cond.before_and, ih, List.all_cons]
def words1 : List Jvm.Cond := Jvm.Cond.code x code maxLocals ret :: tables_1
/-- a 'code' word, met by the world's own term for the bytes: nothing is compared byte by byte -/
theorem code_word {y : MethodName} {bytes : ByteArray} {mx : Nat} {rt : Option FieldType} {a : Array Value} {s : State} {m : MethodId} {meth : Method} {c : Code} (h1 : s.methodNamed? y = some m) (h2 : s.vm.method? m = some meth) (h3 : meth.code = some c) (h4 : c.code = bytes)
    (h5 : (c.maxLocals == mx && c.exceptionTable.isEmpty && decide (c.maxStack ≤ mostOperands) && decide (meth.sig.returnType = rt) && !meth.locks && decide (parseMethodDescriptor y.desc = some meth.sig)) = true) : (Jvm.Cond.code y bytes mx rt).before a s = true := by
  simp only [Bool.and_eq_true, beq_iff_eq, Bool.not_eq_true', decide_eq_true_eq] at h5
  obtain ⟨⟨⟨⟨⟨g1, g2⟩, g3⟩, g4⟩, g5⟩, g6⟩ := h5
  simp [Cond.before, Cond.holds, Cond.value, h1, h2, h3, h4, g1, g2, g3, g4, g5, g6]
def isCode : Jvm.Cond → Bool
  | .code _ _ _ _ => true
  | _ => false
theorem all_split {L : List Jvm.Cond} {P : Jvm.Cond → Bool} (h1 : L.all (fun c => isCode c || P c) = true) (h2 : ∀ c ∈ L.filter isCode, P c = true) : L.all P = true := by
  refine List.all_eq_true.mpr fun c hc => ?_
  have h := List.all_eq_true.mp h1 c hc
  rcases Bool.eq_false_or_eq_true (isCode c) with hi | hi
  · exact h2 c (List.mem_filter.mpr ⟨hc, hi⟩)
  · simpa [hi] using h
set_option maxRecDepth 65536 in
theorem w_c0 : (Jvm.Cond.code x code maxLocals ret).before args0 about1 = true := code_word (m := ⟨1, 1⟩) (meth := k1m1) (c := k1c1) (by decide +kernel) rfl rfl rfl (by decide +kernel)
set_option maxRecDepth 65536 in
theorem w_c1 : (Jvm.Cond.code ({ cls := "com/example/cytobridge/cytobridge/profile/TimeStamp", name := "writeDigits", desc := "([BIII)V" } : Jvm.MethodName) prog_53_method_4_code (6 : Nat) (Option.none : Option Jvm.ClassFile.FieldType)).before args0 about1 = true := code_word (m := ⟨2, 1⟩) (meth := k2m1) (c := k2c1) (by decide +kernel) rfl rfl rfl (by decide +kernel)
set_option maxRecDepth 65536 in
theorem w_c2 : (Jvm.Cond.code ({ cls := "com/example/cytobridge/cytobridge/profile/TimeStampWriteDigitsPinLaw", name := "at", desc := "([BIIIIB[J)Z" } : Jvm.MethodName) method_3_code (10 : Nat) (Option.some Jvm.ClassFile.FieldType.boolean)).before args0 about1 = true := code_word (m := ⟨1, 2⟩) (meth := k1m2) (c := k1c2) (by decide +kernel) rfl rfl rfl (by decide +kernel)
def codes1 : List Jvm.Cond := [Jvm.Cond.code x code maxLocals ret, Jvm.Cond.code ({ cls := "com/example/cytobridge/cytobridge/profile/TimeStamp", name := "writeDigits", desc := "([BIII)V" } : Jvm.MethodName) prog_53_method_4_code (6 : Nat) (Option.none : Option Jvm.ClassFile.FieldType), Jvm.Cond.code ({ cls := "com/example/cytobridge/cytobridge/profile/TimeStampWriteDigitsPinLaw", name := "at", desc := "([BIIIIB[J)Z" } : Jvm.MethodName) method_3_code (10 : Nat) (Option.some Jvm.ClassFile.FieldType.boolean)]
set_option maxRecDepth 65536 in
theorem codes_eq : words1.filter isCode = codes1 := rfl
theorem w_codes : ∀ c ∈ words1.filter isCode, c.before args0 about1 = true := by
  rw [codes_eq]
  intro c hc
  simp only [codes1, List.mem_cons, List.not_mem_nil, or_false] at hc
  rcases hc with rfl | rfl | rfl
  · exact w_c0
  · exact w_c1
  · exact w_c2
set_option maxRecDepth 65536 in
theorem w_t1 : words1.all (fun c => isCode c || c.before args0 about1) = true := by decide +kernel
theorem w_tables : (allAtoms (Jvm.Cond.code x code maxLocals ret :: tables_1)).before args0 about1 = true := by
  rw [allAtoms_all]
  show words1.all (fun c => c.before args0 about1) = true
  refine all_split ?_ w_codes
  rw [w_t1]
set_option maxRecDepth 65536 in
theorem w_case : (Jvm.Cond.and given_1 narrow_1).before args0 about1 = true := by decide +kernel
theorem w_applies : (headSpec (Jvm.Cond.code x code maxLocals ret :: tables_1) room_1).applies x e0.platform about1 = true :=
  (Spec.applies_iff w_frames).mpr ⟨w_running, w_runnable, w_alone, w_named, w_hears, w_ripe, w_room, w_tables⟩
theorem atStart : AtStart classFile x code maxLocals ret World_1 tables_1 room_1 Calls_1 rest_1 Pre_1 launch0 p0 e0 about1 theMethod args0 below0 :=
  ⟨lists_1, trivial, launch0.admits_env _ _ _, launch0.least_env, fairChoices_fair.cas, fairChoices_fair.clock, w_frames, w_args, w_heap, w_applies, trivial, trivial, w_case⟩
end start1
theorem witness_1 : WitnessClaimed_1 := ⟨start1.p0, start1.e0, start1.about1, start1.theMethod, start1.args0, start1.below0, start1.atStart⟩
end Jvm.Pilot.@@N@@
