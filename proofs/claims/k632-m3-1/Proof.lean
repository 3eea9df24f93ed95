import JvmDerived
import JvmDerived.Pilot.@@N@@Statement
import JvmDerived.Pilot.@@N@@Code
set_option linter.unusedVariables false
set_option linter.unusedSimpArgs false
namespace Jvm.RoadKit
open Sem ClassFile Op Lib Jvm.Stand Jvm.Free Jvm.LawKit
section New
variable {p : Program} {l : Launch} {e : Env} {R : Room} {s : State} {m : MethodId} {args : Array Value} {below : List Frame} {meth : Method} {c : Code} {T T' : State} {locs : List Loc} {cells slots : Nat}
/-- what a body leaves: the value, and what is known of the heap and of the places written -/
def QV (w : Option Value) (P : Heap → List Loc → Prop) (v : Option Value) (h : Heap) (L : List Loc) : Prop := v = w ∧ P h L
/-- a body that writes nothing -/
def PureP (n0 : Nat) (h0 : Heap) (h : Heap) (L : List Loc) : Prop := Fr n0 L ∧ h = h0
/-- from here the body returns w and leaves P -/
def Got (p : Program) (e : Env) (below : List Frame) (s : State) (P : Heap → List Loc → Prop) (ck cs : Nat) (w : Option Value) (T : State) (g : JFrame) : Prop :=
  ∃ s₂ L, Steps p.tables e below (T.setTop g) s₂ ∧ s₂.status = .running ∧ Ended s₂ below (.returned w) ∧ P s₂.heap L ∧ FrameEnd s (.returned w) s₂ L ck cs
variable {P : Heap → List Loc → Prop} {ck cs : Nat} {w : Option Value} {g g' : JFrame}
theorem Got.step (h : ∀ t, Steps p.tables e below (T'.setTop g') t → Steps p.tables e below (T.setTop g) t) (k : Got p e below s P ck cs w T' g') : Got p e below s P ck cs w T g := by
  obtain ⟨s₂, L, h1, r⟩ := k
  exact ⟨s₂, L, h _ h1, r⟩
theorem Got.hop (h : Steps p.tables e below (T.setTop g) (T'.setTop g')) (k : Got p e below s P ck cs w T' g') : Got p e below s P ck cs w T g := Got.step (fun _ q => h.trans q) k
theorem Got.ite {q : Prop} [Decidable q] {x y : Int32} (h1 : q → Got p e below s P ck cs (some (.int x)) T g) (h2 : ¬ q → Got p e below s P ck cs (some (.int y)) T g) : Got p e below s P ck cs (some (.int (if q then x else y))) T g := by
  by_cases h : q
  · rw [if_pos h]; exact h1 h
  · rw [if_neg h]; exact h2 h
theorem Got.iteJ {q : Prop} [Decidable q] {x y : Int64} (h1 : q → Got p e below s P ck cs (some (.long x)) T g) (h2 : ¬ q → Got p e below s P ck cs (some (.long y)) T g) : Got p e below s P ck cs (some (.long (if q then x else y))) T g := by
  by_cases h : q
  · rw [if_pos h]; exact h1 h
  · rw [if_neg h]; exact h2 h
theorem Got.iteR {q : Prop} [Decidable q] {x y : Addr} (h1 : q → Got p e below s P ck cs (some (.ref x)) T g) (h2 : ¬ q → Got p e below s P ck cs (some (.ref y)) T g) : Got p e below s P ck cs (some (.ref (if q then x else y))) T g := by
  by_cases h : q
  · rw [if_pos h]; exact h1 h
  · rw [if_neg h]; exact h2 h
theorem Got.body {n : Nat} {as' : Array Value} (hg : entryFrame m as' n = g) (k : Got p e below s P ck cs w T g) :
    ∃ s₂ o, Steps p.tables e below (T.setTop (entryFrame m as' n)) s₂ ∧ s₂.status = .running ∧ Ended s₂ below o ∧ ∃ v L, o = .returned v ∧ QV w P v s₂.heap L ∧ FrameEnd s o s₂ L ck cs := by
  obtain ⟨s₂, L, h1, h2, h3, h4, h5⟩ := k
  exact ⟨s₂, _, by rw [hg]; exact h1, h2, h3, w, L, rfl, ⟨rfl, h4⟩, h5⟩
theorem Got.retN (X : Stand p l e R s m args below meth c T locs cells slots) (hx : p.tables.exec = Jvm.exec) {t : FieldType} (hret : meth.sig.returnType = some t) (ht : t = .boolean ∨ t = .byte ∨ t = .char ∨ t = .short) (hlk : meth.locks = false) {pc : Nat} {Ls : Array Slot} {z y : Int32} {rest : List Value}
    (hd : decode c.code pc = .ok (.ireturn, 1)) (hy : nar t z = y) (hP : P T.heap locs) (hc : cells ≤ ck) (hs : slots ≤ cs) : Got p e below s P ck cs (some (.int y)) T (mkF m pc Ls (.int z :: rest)) := by
  subst hy
  obtain ⟨fs, hr, hrun, hended, hW, hsame⟩ := X.leave (v := some (.int (nar t z))) (fun h => by rw [hret] at h; cases h) hlk
  exact ⟨_, locs, Jvm.RoadKit.retN X hx hret ht hd hr, hrun, hended, hP, ⟨_, rfl⟩, hW, hsame.mono hc hs⟩
theorem Got.retI (X : Stand p l e R s m args below meth c T locs cells slots) (hx : p.tables.exec = Jvm.exec) (hret : meth.sig.returnType = some .int) (hlk : meth.locks = false) {pc : Nat} {Ls : Array Slot} {z y : Int32} {rest : List Value}
    (hd : decode c.code pc = .ok (.ireturn, 1)) (hy : z = y) (hP : P T.heap locs) (hc : cells ≤ ck) (hs : slots ≤ cs) : Got p e below s P ck cs (some (.int y)) T (mkF m pc Ls (.int z :: rest)) := by
  subst hy
  obtain ⟨fs, hr, hrun, hended, hW, hsame⟩ := X.leave (v := some (.int z)) (fun h => by rw [hret] at h; cases h) hlk
  exact ⟨_, locs, retOut X hx hret rfl (Or.inl ⟨rfl, Or.inl rfl, z, rfl⟩) hd hr, hrun, hended, hP, ⟨_, rfl⟩, hW, hsame.mono hc hs⟩
theorem Got.retJ (X : Stand p l e R s m args below meth c T locs cells slots) (hx : p.tables.exec = Jvm.exec) (hret : meth.sig.returnType = some .long) (hlk : meth.locks = false) {pc : Nat} {Ls : Array Slot} {z y : Int64}
    (hd : decode c.code pc = .ok (.lreturn, 1)) (hy : z = y) (hP : P T.heap locs) (hc : cells ≤ ck) (hs : slots ≤ cs) : Got p e below s P ck cs (some (.long y)) T (mkF m pc Ls [.long z]) := by
  subst hy
  obtain ⟨fs, hr, hrun, hended, hW, hsame⟩ := X.leave (v := some (.long z)) (fun h => by rw [hret] at h; cases h) hlk
  exact ⟨_, locs, X.lreturnOut hx hret hd hr, hrun, hended, hP, ⟨_, rfl⟩, hW, hsame.mono hc hs⟩
theorem Got.retV (X : Stand p l e R s m args below meth c T locs cells slots) (hx : p.tables.exec = Jvm.exec) (hret : meth.sig.returnType = none) (hlk : meth.locks = false) {pc : Nat} {Ls : Array Slot}
    (hd : decode c.code pc = .ok (.return_, 1)) (hP : P T.heap locs) (hc : cells ≤ ck) (hs : slots ≤ cs) : Got p e below s P ck cs none T (mkF m pc Ls []) := by
  obtain ⟨fs, hr, hrun, hended, hW, hsame⟩ := X.leave (v := none) (fun _ => rfl) hlk
  exact ⟨_, locs, X.returnOut hx hret hd hr, hrun, hended, hP, ⟨_, rfl⟩, hW, hsame.mono hc hs⟩
theorem Got.retA (X : Stand p l e R s m args below meth c T locs cells slots) (hx : p.tables.exec = Jvm.exec) {t : FieldType} (hret : meth.sig.returnType = some t) (ht : t.isReference = true) (hlk : meth.locks = false) {pc : Nat} {Ls : Array Slot} {a : Addr} {rest : List Value}
    (hd : decode c.code pc = .ok (.areturn, 1)) (hn : narrow t (.ref a) = .ref a) (hP : P T.heap locs) (hc : cells ≤ ck) (hs : slots ≤ cs) : Got p e below s P ck cs (some (.ref a)) T (mkF m pc Ls (.ref a :: rest)) := by
  obtain ⟨fs, hr, hrun, hended, hW, hsame⟩ := X.leave (v := some (.ref a)) (fun h => by rw [hret] at h; cases h) hlk
  exact ⟨_, locs, retOut X hx hret hn (Or.inr (Or.inr (Or.inr (Or.inr ⟨rfl, ht, rfl⟩)))) hd hr, hrun, hended, hP, ⟨_, rfl⟩, hW, hsame.mono hc hs⟩
theorem remJ {g : JFrame} {target : State} (X : Stand p l e R s m args below meth c T locs cells slots) (hx : p.tables.exec = Jvm.exec) (hg : g.method = m) {x y : Int64} {rest : List Value} (hd : decode c.code g.pc = .ok (.lrem, 1)) (hs : g.stack = .long y :: .long x :: rest) (hy : y ≠ 0)
    (hr : Steps p.tables e below (T.setTop { g with pc := g.pc + 1, stack := .long (x % y) :: rest }) target) : Steps p.tables e below (T.setTop g) target := by
  rw [← lrem_mod x y] at hr
  exact XS.lrem X.here hx hg hd hs hy hr
theorem one_unset : One .unset := Or.inl rfl
theorem one_int (x : Int32) : One (.val (.int x)) := Or.inr ⟨_, rfl, rfl⟩
theorem one_ref (x : Addr) : One (.val (.ref x)) := Or.inr ⟨_, rfl, rfl⟩
theorem narB (x : Int32) : nar .byte x.toInt8.toInt32 = x.toInt8.toInt32 := by simp [nar]
end New
end Jvm.RoadKit
namespace Jvm.Pilot.@@N@@
open Jvm Jvm.ClassFile Sem Op Lib Jvm.Free Jvm.Stand Jvm.LawKit Jvm.RoadKit Bundle Jvm.Pilot.@@N@@.Jvm.D
theorem own_i {i : Nat} (h : i < 2147483648) : (Int32.ofNat i).toInt = i := Int32.toInt_ofNat_of_lt h
theorem own_n32 {i : Nat} (h : i < 2147483648) : (Int32.ofNat i).toNatClampNeg = i := by rw [Int32.toNatClampNeg, own_i h]; rfl
theorem own_one (i : Nat) : Int32.ofNat i + (1 : Int32) = Int32.ofNat (i + 1) := (Int32.ofNat_add i 1).symm
def own_tb (t : List Nat) : List Value := t.map fun n => Value.int (Int32.ofNat n)
theorem own_inj {i j : Nat} (hi : i < 2147483648) (hj : j < 2147483648) (h : Int32.ofNat i = Int32.ofNat j) : i = j := by
  have e := congrArg Int32.toInt h
  rw [own_i hi, own_i hj] at e; omega
theorem own_nN {N : Nat} (hN : 1 ≤ N ∧ N ≤ 4) : ¬ (Int32.ofNat N) = 0 := fun h => by
  have e := own_inj (i := N) (j := 0) (by omega) (by omega) h
  omega
theorem own_sb {n k : Nat} (h : k ≤ n) (hn : n < 2147483648) : Int32.ofNat n - Int32.ofNat k = Int32.ofNat (n - k) := by
  rw [← Int32.toInt_inj, XT.sub32 (by unfold XT.fits32; rw [own_i (by omega), own_i (by omega)]; omega), own_i (by omega), own_i (by omega), own_i (by omega)]
  omega
theorem own_bd {n m : Nat} (h : n < m) (hm : m < 2147483648) : ¬ (Int32.ofNat n) < 0 ∧ (Int32.ofNat n) < (Int32.ofNat m) := by
  have z : (0 : Int32).toInt = 0 := rfl
  rw [Int32.lt_iff_toInt_lt, Int32.lt_iff_toInt_lt, z, own_i (by omega), own_i (by omega)]; omega
theorem own_gt (t : List Nat) {n : Nat} (h : n < 2147483648) : (own_tb t).getD (Int32.ofNat n).toNatClampNeg (.int (0 : Int32)) = .int (Int32.ofNat (t.getD n 0)) := by
  rw [own_n32 h, own_tb, List.getD_eq_getElem?_getD, List.getD_eq_getElem?_getD, List.getElem?_map]
  cases t[n]? <;> rfl
theorem own_gi (t : List Int32) {n : Nat} (h : n < 2147483648) : (t.map Value.int).getD (Int32.ofNat n).toNatClampNeg (.int (0 : Int32)) = .int (t.getD n 0) := by
  rw [own_n32 h, List.getD_eq_getElem?_getD, List.getD_eq_getElem?_getD, List.getElem?_map]
  cases t[n]? <;> rfl

def f1 (p0 : Int32)  : Int32 := (if p0 = 0 then (0 : Int32) else (if p0 = (1 : Int32) then (1 : Int32) else (if p0 = (2 : Int32) then (256 : Int32) else (-2147483648 : Int32))))
theorem ef_1 (m : MethodId) (x0 : Int32) : entryFrame m #[(.int x0)] 1 = mkF m 0 #[.val (.int x0)] [] := by first | (simp [entryFrame, mkF, argsToLocals, Value.category]; done) | rfl
theorem pn_0 : plainName "com/example/sidestep/sidestep/CompiledPatternAdvancePinLaw" = true := by first | (simp [plainName, overriddenIn]; done) | decide +kernel
theorem d1_0 : decode method_2_code 0 = .ok (.iload_n 0, 1) := by decide +kernel
theorem d1_1 : decode method_2_code 1 = .ok (.ifCond .ne 5, 3) := by decide +kernel
theorem d1_4 : decode method_2_code 4 = .ok (.iconst 0, 1) := by decide +kernel
theorem d1_5 : decode method_2_code 5 = .ok (.ireturn, 1) := by decide +kernel
theorem d1_6 : decode method_2_code 6 = .ok (.iload_n 0, 1) := by decide +kernel
theorem d1_7 : decode method_2_code 7 = .ok (.iconst 1, 1) := by decide +kernel
theorem d1_8 : decode method_2_code 8 = .ok (.if_icmp .ne 5, 3) := by decide +kernel
theorem d1_11 : decode method_2_code 11 = .ok (.iconst 1, 1) := by decide +kernel
theorem d1_12 : decode method_2_code 12 = .ok (.ireturn, 1) := by decide +kernel
theorem d1_13 : decode method_2_code 13 = .ok (.iload_n 0, 1) := by decide +kernel
theorem d1_14 : decode method_2_code 14 = .ok (.iconst 2, 1) := by decide +kernel
theorem d1_15 : decode method_2_code 15 = .ok (.if_icmp .ne 7, 3) := by decide +kernel
theorem d1_18 : decode method_2_code 18 = .ok (.sipush 256, 3) := by decide +kernel
theorem d1_21 : decode method_2_code 21 = .ok (.ireturn, 1) := by decide +kernel
theorem d1_22 : decode method_2_code 22 = .ok (.ldc 9, 2) := by decide +kernel
theorem d1_24 : decode method_2_code 24 = .ok (.ireturn, 1) := by decide +kernel
set_option maxRecDepth 65536 in
set_option maxHeartbeats 40000000 in
theorem rm1 (l : Launch) (Z : State) (a0 : Array Value) (hw : ∀ d ∈ tables_1, d.before a0 Z = true) (ws : List Jvm.Cond) (p0 : Int32)  (h0 : Heap) (n0 : Nat) (Z0 : n0 ≤ h0.size)  :
    MetFree l (⟨"com/example/sidestep/sidestep/CompiledPatternAdvancePinLaw", "off", "(I)I"⟩ : MethodName) (head1 (Jvm.Cond.code (⟨"com/example/sidestep/sidestep/CompiledPatternAdvancePinLaw", "off", "(I)I"⟩ : MethodName) method_2_code 1 (some .int) :: ws) ({ frames := 0, cells := 0, slots := 0, locals := 0 } : Room)) (fun a U => a = #[(.int p0)] ∧ Z.Warmed39 U.vm ∧ U.heap = h0) (fun _ _ _ _ _ => True) (fun _ U o U' => ∃ v L, o = .returned v ∧ QV (some (.int (f1 p0))) (PureP n0 h0) v U'.heap L ∧ FrameEnd U o U' L ({ frames := 0, cells := 0, slots := 0, locals := 0 } : Room).cells ({ frames := 0, cells := 0, slots := 0, locals := 0 } : Room).slots) := by
  refine MetFree.of_bodySF (plainFor_of_name pn_0) hisR ?_
  intro p e s m args below meth c s₁ Bd hml0 hP hK
  obtain ⟨rfl, hZ, hh⟩ := hP
  have hx := Bd.exec
  have hby := Bd.bytes
  have hml : c.maxLocals = 1 := hml0
  have hown : s.vm.findClass "com/example/sidestep/sidestep/CompiledPatternAdvancePinLaw" = some m.cls := findClass_of_methodNamed Bd.named
  have hnm := (name_of_methodNamed Bd.named Bd.method).1
  have hlk : meth.locks = false := BodyLoose.notSynchronized Bd
  have X0 : Stand p l e ({ frames := 0, cells := 0, slots := 0, locals := 0 } : Room) s m #[(.int p0)] below meth c s₁ [] 0 0 := Stand.of_body Bd
  have e0 : s₁.heap = h0 := by rw [← hh, Bd.state]; rfl
  have N0 := Fr.nil n0
  refine Got.body (ef_1 m p0) ?_
  refine Got.step (T' := s₁) (g' := (mkF m 1 #[.val (.int p0)] [(.int p0)])) (fun tq kt => ?_) ?_
  · show Steps p.tables e below (s₁.setTop (mkF m 0 #[.val (.int p0)] [])) _
    refine XS.iloadN X0.here hx rfl (hb hby d1_0) rfl ?_
    exact kt
  refine Got.ite (q := (p0 = 0)) (fun hc1 => ?_) (fun hc1 => ?_)
  · refine Got.step (T' := s₁) (g' := (mkF m 5 #[.val (.int p0)] [(.int (0 : Int32))])) (fun tq kt => ?_) ?_
    · show Steps p.tables e below (s₁.setTop (mkF m 1 #[.val (.int p0)] [(.int p0)])) _
      refine XS.ifNo X0.here hx rfl (hb hby d1_1) rfl (XT.i0_ne_f hc1) ?_
      show Steps p.tables e below (s₁.setTop (mkF m 4 #[.val (.int p0)] [])) _
      refine XS.iconst X0.here hx rfl (hb hby d1_4) ?_
      exact kt
    exact Got.retI (y := (0 : Int32)) X0 hx Bd.returns hlk (hb hby d1_5) rfl ⟨N0, e0⟩ (by decide) (by decide)
  · refine Got.step (T' := s₁) (g' := (mkF m 8 #[.val (.int p0)] [(.int (1 : Int32)), (.int p0)])) (fun tq kt => ?_) ?_
    · show Steps p.tables e below (s₁.setTop (mkF m 1 #[.val (.int p0)] [(.int p0)])) _
      refine XS.ifYes X0.here hx rfl (pc0 := 1) (pc' := 6) rfl (hb hby d1_1) rfl (XT.i0_ne_t hc1) (by decide) (by decide) ?_
      show Steps p.tables e below (s₁.setTop (mkF m 6 #[.val (.int p0)] [])) _
      refine XS.iloadN X0.here hx rfl (hb hby d1_6) rfl ?_
      show Steps p.tables e below (s₁.setTop (mkF m 7 #[.val (.int p0)] [(.int p0)])) _
      refine XS.iconst X0.here hx rfl (hb hby d1_7) ?_
      exact kt
    refine Got.ite (q := (p0 = (1 : Int32))) (fun hc2 => ?_) (fun hc2 => ?_)
    · refine Got.step (T' := s₁) (g' := (mkF m 12 #[.val (.int p0)] [(.int (1 : Int32))])) (fun tq kt => ?_) ?_
      · show Steps p.tables e below (s₁.setTop (mkF m 8 #[.val (.int p0)] [(.int (1 : Int32)), (.int p0)])) _
        refine XS.icmpNo X0.here hx rfl (hb hby d1_8) rfl (XT.ii_ne_f hc2) ?_
        show Steps p.tables e below (s₁.setTop (mkF m 11 #[.val (.int p0)] [])) _
        refine XS.iconst X0.here hx rfl (hb hby d1_11) ?_
        exact kt
      exact Got.retI (y := (1 : Int32)) X0 hx Bd.returns hlk (hb hby d1_12) rfl ⟨N0, e0⟩ (by decide) (by decide)
    · refine Got.step (T' := s₁) (g' := (mkF m 15 #[.val (.int p0)] [(.int (2 : Int32)), (.int p0)])) (fun tq kt => ?_) ?_
      · show Steps p.tables e below (s₁.setTop (mkF m 8 #[.val (.int p0)] [(.int (1 : Int32)), (.int p0)])) _
        refine XS.icmpYes X0.here hx rfl (pc0 := 8) (pc' := 13) rfl (hb hby d1_8) rfl (XT.ii_ne_t hc2) (by decide) (by decide) ?_
        show Steps p.tables e below (s₁.setTop (mkF m 13 #[.val (.int p0)] [])) _
        refine XS.iloadN X0.here hx rfl (hb hby d1_13) rfl ?_
        show Steps p.tables e below (s₁.setTop (mkF m 14 #[.val (.int p0)] [(.int p0)])) _
        refine XS.iconst X0.here hx rfl (hb hby d1_14) ?_
        exact kt
      refine Got.ite (q := (p0 = (2 : Int32))) (fun hc3 => ?_) (fun hc3 => ?_)
      · refine Got.step (T' := s₁) (g' := (mkF m 21 #[.val (.int p0)] [(.int (256 : Int32))])) (fun tq kt => ?_) ?_
        · show Steps p.tables e below (s₁.setTop (mkF m 15 #[.val (.int p0)] [(.int (2 : Int32)), (.int p0)])) _
          refine XS.icmpNo X0.here hx rfl (hb hby d1_15) rfl (XT.ii_ne_f hc3) ?_
          show Steps p.tables e below (s₁.setTop (mkF m 18 #[.val (.int p0)] [])) _
          refine XS.sipush X0.here hx rfl (hb hby d1_18) ?_
          exact kt
        exact Got.retI (y := (256 : Int32)) X0 hx Bd.returns hlk (hb hby d1_21) rfl ⟨N0, e0⟩ (by decide) (by decide)
      · refine Got.step (T' := s₁) (g' := (mkF m 24 #[.val (.int p0)] [(.int (-2147483648 : Int32))])) (fun tq kt => ?_) ?_
        · show Steps p.tables e below (s₁.setTop (mkF m 15 #[.val (.int p0)] [(.int (2 : Int32)), (.int p0)])) _
          refine XS.icmpYes X0.here hx rfl (pc0 := 15) (pc' := 22) rfl (hb hby d1_15) rfl (XT.ii_ne_t hc3) (by decide) (by decide) ?_
          show Steps p.tables e below (s₁.setTop (mkF m 22 #[.val (.int p0)] [])) _
          refine X0.ldcI hx hown (mvT hZ (hw _ (List.mem_of_getElem? (i := 38) rfl))) rfl (hb hby d1_22) ?_
          exact kt
        exact Got.retI (y := (-2147483648 : Int32)) X0 hx Bd.returns hlk (hb hby d1_24) rfl ⟨N0, e0⟩ (by decide) (by decide)
def f2 (p0 : Int32) (p1 : Int32)  : Int32 := (if p1 < p0 then p1 else p0)
theorem ef_2 (m : MethodId) (x0 : Int32) (x1 : Int32) : entryFrame m #[(.int x0), (.int x1)] 2 = mkF m 0 #[.val (.int x0), .val (.int x1)] [] := by first | (simp [entryFrame, mkF, argsToLocals, Value.category]; done) | rfl
theorem d2_0 : decode jdk_29_method_69_code 0 = .ok (.iload_n 0, 1) := by decide +kernel
theorem d2_1 : decode jdk_29_method_69_code 1 = .ok (.iload_n 1, 1) := by decide +kernel
theorem d2_2 : decode jdk_29_method_69_code 2 = .ok (.if_icmp .gt 7, 3) := by decide +kernel
theorem d2_5 : decode jdk_29_method_69_code 5 = .ok (.iload_n 0, 1) := by decide +kernel
theorem d2_6 : decode jdk_29_method_69_code 6 = .ok (.goto 4, 3) := by decide +kernel
theorem d2_9 : decode jdk_29_method_69_code 9 = .ok (.iload_n 1, 1) := by decide +kernel
theorem d2_10 : decode jdk_29_method_69_code 10 = .ok (.ireturn, 1) := by decide +kernel
set_option maxRecDepth 65536 in
set_option maxHeartbeats 40000000 in
theorem rm2 (l : Launch) (Z : State) (a0 : Array Value) (hw : ∀ d ∈ tables_1, d.before a0 Z = true) (ws : List Jvm.Cond) (p0 : Int32) (p1 : Int32)  (h0 : Heap) (n0 : Nat) (Z0 : n0 ≤ h0.size)  :
    MetFree l (⟨"java/lang/Math", "min", "(II)I"⟩ : MethodName) (head1 (Jvm.Cond.code (⟨"java/lang/Math", "min", "(II)I"⟩ : MethodName) jdk_29_method_69_code 2 (some .int) :: ws) ({ frames := 0, cells := 0, slots := 0, locals := 0 } : Room)) (fun a U => a = #[(.int p0), (.int p1)] ∧ Z.Warmed39 U.vm ∧ U.heap = h0) (fun _ _ _ _ _ => True) (fun _ U o U' => ∃ v L, o = .returned v ∧ QV (some (.int (f2 p0 p1))) (PureP n0 h0) v U'.heap L ∧ FrameEnd U o U' L ({ frames := 0, cells := 0, slots := 0, locals := 0 } : Room).cells ({ frames := 0, cells := 0, slots := 0, locals := 0 } : Room).slots) := by
  refine MetFree.of_bodySF (Jvm.Free.JP.mathPlain rfl (by decide +kernel)) hisR ?_
  intro p e s m args below meth c s₁ Bd hml0 hP hK
  obtain ⟨rfl, hZ, hh⟩ := hP
  have hx := Bd.exec
  have hby := Bd.bytes
  have hml : c.maxLocals = 2 := hml0
  have hown : s.vm.findClass "java/lang/Math" = some m.cls := findClass_of_methodNamed Bd.named
  have hnm := (name_of_methodNamed Bd.named Bd.method).1
  have hlk : meth.locks = false := BodyLoose.notSynchronized Bd
  have X0 : Stand p l e ({ frames := 0, cells := 0, slots := 0, locals := 0 } : Room) s m #[(.int p0), (.int p1)] below meth c s₁ [] 0 0 := Stand.of_body Bd
  have e0 : s₁.heap = h0 := by rw [← hh, Bd.state]; rfl
  have N0 := Fr.nil n0
  refine Got.body (ef_2 m p0 p1) ?_
  refine Got.step (T' := s₁) (g' := (mkF m 2 #[.val (.int p0), .val (.int p1)] [(.int p1), (.int p0)])) (fun tq kt => ?_) ?_
  · show Steps p.tables e below (s₁.setTop (mkF m 0 #[.val (.int p0), .val (.int p1)] [])) _
    refine XS.iloadN X0.here hx rfl (hb hby d2_0) rfl ?_
    show Steps p.tables e below (s₁.setTop (mkF m 1 #[.val (.int p0), .val (.int p1)] [(.int p0)])) _
    refine XS.iloadN X0.here hx rfl (hb hby d2_1) rfl ?_
    exact kt
  refine Got.ite (q := (p1 < p0)) (fun hc4 => ?_) (fun hc4 => ?_)
  · refine Got.step (T' := s₁) (g' := (mkF m 10 #[.val (.int p0), .val (.int p1)] [(.int p1)])) (fun tq kt => ?_) ?_
    · show Steps p.tables e below (s₁.setTop (mkF m 2 #[.val (.int p0), .val (.int p1)] [(.int p1), (.int p0)])) _
      refine XS.icmpYes X0.here hx rfl (pc0 := 2) (pc' := 9) rfl (hb hby d2_2) rfl (XT.ii_gt_t hc4) (by decide) (by decide) ?_
      show Steps p.tables e below (s₁.setTop (mkF m 9 #[.val (.int p0), .val (.int p1)] [])) _
      refine XS.iloadN X0.here hx rfl (hb hby d2_9) rfl ?_
      exact kt
    exact Got.retI (y := p1) X0 hx Bd.returns hlk (hb hby d2_10) rfl ⟨N0, e0⟩ (by decide) (by decide)
  · refine Got.step (T' := s₁) (g' := (mkF m 10 #[.val (.int p0), .val (.int p1)] [(.int p0)])) (fun tq kt => ?_) ?_
    · show Steps p.tables e below (s₁.setTop (mkF m 2 #[.val (.int p0), .val (.int p1)] [(.int p1), (.int p0)])) _
      refine XS.icmpNo X0.here hx rfl (hb hby d2_2) rfl (XT.ii_gt_f hc4) ?_
      show Steps p.tables e below (s₁.setTop (mkF m 5 #[.val (.int p0), .val (.int p1)] [])) _
      refine XS.iloadN X0.here hx rfl (hb hby d2_5) rfl ?_
      show Steps p.tables e below (s₁.setTop (mkF m 6 #[.val (.int p0), .val (.int p1)] [(.int p0)])) _
      refine XS.goto X0.here hx rfl (pc0 := 6) (pc' := 10) rfl (hb hby d2_6) (by decide) (by decide) ?_
      exact kt
    exact Got.retI (y := p0) X0 hx Bd.returns hlk (hb hby d2_10) rfl ⟨N0, e0⟩ (by decide) (by decide)
def ptab1 (u0 u1 u2 u3 : Int32) : List Nat := [0, 0, 0, 0]
theorem ef_P1 (m : MethodId) (x0 : Addr) : entryFrame m #[(.ref x0)] 4 = mkF m 0 #[.val (.ref x0), .unset, .unset, .unset] [] := by first | (simp [entryFrame, mkF, argsToLocals, Value.category]; done) | rfl
theorem pn_1 : plainName "com/example/sidestep/sidestep/CompiledPattern" = true := by first | (simp [plainName, overriddenIn]; done) | decide +kernel
theorem d6_0 : decode prog_4_method_10_code 0 = .ok (.aload_n 0, 1) := by decide +kernel
theorem d6_1 : decode prog_4_method_10_code 1 = .ok (.arraylength, 1) := by decide +kernel
theorem d6_2 : decode prog_4_method_10_code 2 = .ok (.newarray .int, 2) := by decide +kernel
theorem d6_4 : decode prog_4_method_10_code 4 = .ok (.astore_n 1, 1) := by decide +kernel
theorem d6_5 : decode prog_4_method_10_code 5 = .ok (.iconst 0, 1) := by decide +kernel
theorem d6_6 : decode prog_4_method_10_code 6 = .ok (.istore_n 2, 1) := by decide +kernel
theorem d6_7 : decode prog_4_method_10_code 7 = .ok (.iconst 1, 1) := by decide +kernel
theorem d6_8 : decode prog_4_method_10_code 8 = .ok (.istore_n 3, 1) := by decide +kernel
theorem d6_9 : decode prog_4_method_10_code 9 = .ok (.iload_n 3, 1) := by decide +kernel
theorem d6_10 : decode prog_4_method_10_code 10 = .ok (.aload_n 0, 1) := by decide +kernel
theorem d6_11 : decode prog_4_method_10_code 11 = .ok (.arraylength, 1) := by decide +kernel
theorem d6_12 : decode prog_4_method_10_code 12 = .ok (.if_icmp .ge 47, 3) := by decide +kernel
theorem d6_59 : decode prog_4_method_10_code 59 = .ok (.aload_n 1, 1) := by decide +kernel
theorem d6_60 : decode prog_4_method_10_code 60 = .ok (.areturn, 1) := by decide +kernel
set_option maxRecDepth 65536 in
set_option maxHeartbeats 40000000 in
theorem rmP1 (l : Launch) (Z : State) (a0 : Array Value) (hw : ∀ d ∈ tables_1, d.before a0 Z = true) (ws : List Jvm.Cond) (o0 : Addr) (u0 u1 u2 u3 : Int32) (ku : ClassId) (h0 : Heap) (n0 : Nat) (Z0 : n0 ≤ h0.size) (V0 : Arv Z h0 o0 ku .int (1 : Int32) [(.int u0), (.int u1), (.int u2), (.int u3)] (.int (0 : Int32))) :
    MetFree l (⟨"com/example/sidestep/sidestep/CompiledPattern", "prefixTable", "([I)[I"⟩ : MethodName) (head1 (Jvm.Cond.code (⟨"com/example/sidestep/sidestep/CompiledPattern", "prefixTable", "([I)[I"⟩ : MethodName) prog_4_method_10_code 4 (some (.array .int)) :: ws) ({ frames := 0, cells := 1, slots := 4, locals := 0 } : Room)) (fun a U => a = #[(.ref o0)] ∧ Z.Warmed39 U.vm ∧ U.heap = h0) (fun _ _ _ _ _ => True) (fun _ U o U' => ∃ v L, o = .returned v ∧ QV (some (.ref h0.size)) (fun h L => Fr n0 L ∧ Keep h0 h [] ∧ ∃ k : ClassId, Arv Z h h0.size k .int (1 : Int32) (own_tb (ptab1 u0 u1 u2 u3)) (.int (0 : Int32))) v U'.heap L ∧ FrameEnd U o U' L ({ frames := 0, cells := 1, slots := 4, locals := 0 } : Room).cells ({ frames := 0, cells := 1, slots := 4, locals := 0 } : Room).slots) := by
  refine MetFree.of_bodySF (plainFor_of_name pn_1) hisR ?_
  intro p e s m args below meth c s₁ Bd hml0 hP hK
  obtain ⟨rfl, hZ, hh⟩ := hP
  have hx := Bd.exec
  have hby := Bd.bytes
  have hml : c.maxLocals = 4 := hml0
  have hown : s.vm.findClass "com/example/sidestep/sidestep/CompiledPattern" = some m.cls := findClass_of_methodNamed Bd.named
  have hnm := (name_of_methodNamed Bd.named Bd.method).1
  have hlk : meth.locks = false := BodyLoose.notSynchronized Bd
  have X0 : Stand p l e ({ frames := 0, cells := 1, slots := 4, locals := 0 } : Room) s m #[(.ref o0)] below meth c s₁ [] 0 0 := Stand.of_body Bd
  have e0 : s₁.heap = h0 := by rw [← hh, Bd.state]; rfl
  have N0 := Fr.nil n0
  refine Got.body (ef_P1 m o0) ?_
  have K0 := Keep.refl h0 []
  refine Got.step (T' := s₁) (g' := (mkF m 1 #[.val (.ref o0), .unset, .unset, .unset] [(.ref o0)])) (fun tq kt => ?_) ?_
  · show Steps p.tables e below (s₁.setTop (mkF m 0 #[.val (.ref o0), .unset, .unset, .unset] [])) _
    refine XS.aloadN X0.here hx rfl (hb hby d6_0) rfl rfl ?_
    exact kt
  obtain ⟨cl5, Ar5, q5, S5, M5, H5, G5⟩ := (id V0)
  refine Got.step (T' := s₁) (fun tq kt => X0.arraylength hx (cell := cl5) (by rw [e0]; exact Ar5.1) (State.isArrayOf_alike hZ.alike Ar5.2.1) (g := (mkF m 1 #[.val (.ref o0), .unset, .unset, .unset] [(.ref o0)])) rfl (rest := []) rfl (hb hby d6_1) tq kt) ?_
  rw [len_of S5 M5]
  show Got p e below s _ _ _ _ s₁ (mkF m 2 #[.val (.ref o0), .unset, .unset, .unset] [(.int (1 : Int32))])
  obtain ⟨T6, h6, k6, X6, e6, E6, A6, st6⟩ := newP X0 hx hZ (hw _ (List.mem_of_getElem? (i := 0) rfl)) e0 (g := (mkF m 2 #[.val (.ref o0), .unset, .unset, .unset] [(.int (1 : Int32))])) rfl (hb hby d6_2) rfl (by decide) (cap := 4) (by decide) (by decide) (by decide) (by decide)
  obtain ⟨b6, g6⟩ : ∃ z, z = h0.size := ⟨_, rfl⟩
  rw [← g6] at A6 st6
  have ne_o0_b6 : o0 ≠ b6 := by rw [g6]; exact Nat.ne_of_lt V0.lt
  have gn_b6 : n0 ≤ b6 := by rw [g6]; exact Z0
  have sz_b6 : h0.size ≤ b6 := by rw [g6]; exact K0.1
  have Z0_7 : n0 ≤ h6.size := (Nat.le_trans Z0 E6.1)
  have K0_8 : Keep h0 h6 [] := (K0.ext E6)
  have V0_9 : Arv Z h6 o0 ku .int (1 : Int32) [(.int u0), (.int u1), (.int u2), (.int u3)] (.int (0 : Int32)) := (V0.ext E6)
  have V6 : Arv Z h6 b6 k6 .int (1 : Int32) [(.int (0 : Int32)), (.int (0 : Int32)), (.int (0 : Int32)), (.int (0 : Int32))] (.int (0 : Int32)) := (Arv.new A6 (by decide)).pad (pad_rep [] (.int (0 : Int32)) 4)
  refine Got.step st6 ?_
  show Got p e below s _ _ _ _ T6 (mkF m 4 #[.val (.ref o0), .unset, .unset, .unset] [(.ref b6)])
  refine Got.step (T' := T6) (g' := (mkF m 11 #[.val (.ref o0), .val (.ref b6), .val (.int (0 : Int32)), .val (.int (1 : Int32))] [(.ref o0), (.int (1 : Int32))])) (fun tq kt => ?_) ?_
  · show Steps p.tables e below (T6.setTop (mkF m 4 #[.val (.ref o0), .unset, .unset, .unset] [(.ref b6)])) _
    refine XS.astoreN X6.here hx rfl (hb hby d6_4) rfl rfl (l' := #[.val (.ref o0), .val (.ref b6), .unset, .unset]) rfl ?_
    show Steps p.tables e below (T6.setTop (mkF m 5 #[.val (.ref o0), .val (.ref b6), .unset, .unset] [])) _
    refine XS.iconst X6.here hx rfl (hb hby d6_5) ?_
    show Steps p.tables e below (T6.setTop (mkF m 6 #[.val (.ref o0), .val (.ref b6), .unset, .unset] [(.int (0 : Int32))])) _
    refine XS.istoreN X6.here hx rfl (hb hby d6_6) rfl (l' := #[.val (.ref o0), .val (.ref b6), .val (.int (0 : Int32)), .unset]) rfl ?_
    show Steps p.tables e below (T6.setTop (mkF m 7 #[.val (.ref o0), .val (.ref b6), .val (.int (0 : Int32)), .unset] [])) _
    refine XS.iconst X6.here hx rfl (hb hby d6_7) ?_
    show Steps p.tables e below (T6.setTop (mkF m 8 #[.val (.ref o0), .val (.ref b6), .val (.int (0 : Int32)), .unset] [(.int (1 : Int32))])) _
    refine XS.istoreN X6.here hx rfl (hb hby d6_8) rfl (l' := #[.val (.ref o0), .val (.ref b6), .val (.int (0 : Int32)), .val (.int (1 : Int32))]) rfl ?_
    show Steps p.tables e below (T6.setTop (mkF m 9 #[.val (.ref o0), .val (.ref b6), .val (.int (0 : Int32)), .val (.int (1 : Int32))] [])) _
    refine XS.iloadN X6.here hx rfl (hb hby d6_9) rfl ?_
    show Steps p.tables e below (T6.setTop (mkF m 10 #[.val (.ref o0), .val (.ref b6), .val (.int (0 : Int32)), .val (.int (1 : Int32))] [(.int (1 : Int32))])) _
    refine XS.aloadN X6.here hx rfl (hb hby d6_10) rfl rfl ?_
    exact kt
  obtain ⟨cl10, Ar10, q10, S10, M10, H10, G10⟩ := (id V0_9)
  refine Got.step (T' := T6) (fun tq kt => X6.arraylength hx (cell := cl10) (by rw [e6]; exact Ar10.1) (State.isArrayOf_alike hZ.alike Ar10.2.1) (g := (mkF m 11 #[.val (.ref o0), .val (.ref b6), .val (.int (0 : Int32)), .val (.int (1 : Int32))] [(.ref o0), (.int (1 : Int32))])) rfl (rest := [(.int (1 : Int32))]) rfl (hb hby d6_11) tq kt) ?_
  rw [len_of S10 M10]
  show Got p e below s _ _ _ _ T6 (mkF m 12 #[.val (.ref o0), .val (.ref b6), .val (.int (0 : Int32)), .val (.int (1 : Int32))] [(.int (1 : Int32)), (.int (1 : Int32))])
  refine Got.step (T' := T6) (g' := (mkF m 60 #[.val (.ref o0), .val (.ref b6), .val (.int (0 : Int32)), .val (.int (1 : Int32))] [(.ref b6)])) (fun tq kt => ?_) ?_
  · show Steps p.tables e below (T6.setTop (mkF m 12 #[.val (.ref o0), .val (.ref b6), .val (.int (0 : Int32)), .val (.int (1 : Int32))] [(.int (1 : Int32)), (.int (1 : Int32))])) _
    refine XS.icmpYes X6.here hx rfl (pc0 := 12) (pc' := 59) rfl (hb hby d6_12) rfl (XT.ii_ge_t Int32.lt_irrefl) (by decide) (by decide) ?_
    show Steps p.tables e below (T6.setTop (mkF m 59 #[.val (.ref o0), .val (.ref b6), .val (.int (0 : Int32)), .val (.int (1 : Int32))] [])) _
    refine XS.aloadN X6.here hx rfl (hb hby d6_59) rfl rfl ?_
    exact kt
  rw [← g6]
  exact Got.retA X6 hx Bd.returns rfl hlk (hb hby d6_60) rfl ⟨N0, by rw [e6]; exact K0_8, k6, by rw [e6]; unfold ptab1; exact V6⟩ (by decide) (by decide)
def ptab2 (u0 u1 u2 u3 : Int32) : List Nat := (if u1 = u0 then [0, 1, 0, 0] else [0, 0, 0, 0])
theorem ef_P2 (m : MethodId) (x0 : Addr) : entryFrame m #[(.ref x0)] 4 = mkF m 0 #[.val (.ref x0), .unset, .unset, .unset] [] := by first | (simp [entryFrame, mkF, argsToLocals, Value.category]; done) | rfl
theorem d6_15 : decode prog_4_method_10_code 15 = .ok (.iload_n 2, 1) := by decide +kernel
theorem d6_16 : decode prog_4_method_10_code 16 = .ok (.ifCond .le 21, 3) := by decide +kernel
theorem d6_37 : decode prog_4_method_10_code 37 = .ok (.aload_n 0, 1) := by decide +kernel
theorem d6_38 : decode prog_4_method_10_code 38 = .ok (.iload_n 3, 1) := by decide +kernel
theorem d6_39 : decode prog_4_method_10_code 39 = .ok (.iaload, 1) := by decide +kernel
theorem d6_40 : decode prog_4_method_10_code 40 = .ok (.aload_n 0, 1) := by decide +kernel
theorem d6_41 : decode prog_4_method_10_code 41 = .ok (.iload_n 2, 1) := by decide +kernel
theorem d6_42 : decode prog_4_method_10_code 42 = .ok (.iaload, 1) := by decide +kernel
theorem d6_43 : decode prog_4_method_10_code 43 = .ok (.if_icmp .ne 6, 3) := by decide +kernel
theorem d6_46 : decode prog_4_method_10_code 46 = .ok (.iinc 2 1, 3) := by decide +kernel
theorem d6_49 : decode prog_4_method_10_code 49 = .ok (.aload_n 1, 1) := by decide +kernel
theorem d6_50 : decode prog_4_method_10_code 50 = .ok (.iload_n 3, 1) := by decide +kernel
theorem d6_51 : decode prog_4_method_10_code 51 = .ok (.iload_n 2, 1) := by decide +kernel
theorem d6_52 : decode prog_4_method_10_code 52 = .ok (.iastore, 1) := by decide +kernel
theorem d6_53 : decode prog_4_method_10_code 53 = .ok (.iinc 3 1, 3) := by decide +kernel
theorem d6_56 : decode prog_4_method_10_code 56 = .ok (.goto (-47), 3) := by decide +kernel
set_option maxRecDepth 65536 in
set_option maxHeartbeats 40000000 in
theorem rmP2 (l : Launch) (Z : State) (a0 : Array Value) (hw : ∀ d ∈ tables_1, d.before a0 Z = true) (ws : List Jvm.Cond) (o0 : Addr) (u0 u1 u2 u3 : Int32) (ku : ClassId) (h0 : Heap) (n0 : Nat) (Z0 : n0 ≤ h0.size) (V0 : Arv Z h0 o0 ku .int (2 : Int32) [(.int u0), (.int u1), (.int u2), (.int u3)] (.int (0 : Int32))) :
    MetFree l (⟨"com/example/sidestep/sidestep/CompiledPattern", "prefixTable", "([I)[I"⟩ : MethodName) (head1 (Jvm.Cond.code (⟨"com/example/sidestep/sidestep/CompiledPattern", "prefixTable", "([I)[I"⟩ : MethodName) prog_4_method_10_code 4 (some (.array .int)) :: ws) ({ frames := 0, cells := 1, slots := 4, locals := 0 } : Room)) (fun a U => a = #[(.ref o0)] ∧ Z.Warmed39 U.vm ∧ U.heap = h0) (fun _ _ _ _ _ => True) (fun _ U o U' => ∃ v L, o = .returned v ∧ QV (some (.ref h0.size)) (fun h L => Fr n0 L ∧ Keep h0 h [] ∧ ∃ k : ClassId, Arv Z h h0.size k .int (2 : Int32) (own_tb (ptab2 u0 u1 u2 u3)) (.int (0 : Int32))) v U'.heap L ∧ FrameEnd U o U' L ({ frames := 0, cells := 1, slots := 4, locals := 0 } : Room).cells ({ frames := 0, cells := 1, slots := 4, locals := 0 } : Room).slots) := by
  refine MetFree.of_bodySF (plainFor_of_name pn_1) hisR ?_
  intro p e s m args below meth c s₁ Bd hml0 hP hK
  obtain ⟨rfl, hZ, hh⟩ := hP
  have hx := Bd.exec
  have hby := Bd.bytes
  have hml : c.maxLocals = 4 := hml0
  have hown : s.vm.findClass "com/example/sidestep/sidestep/CompiledPattern" = some m.cls := findClass_of_methodNamed Bd.named
  have hnm := (name_of_methodNamed Bd.named Bd.method).1
  have hlk : meth.locks = false := BodyLoose.notSynchronized Bd
  have X0 : Stand p l e ({ frames := 0, cells := 1, slots := 4, locals := 0 } : Room) s m #[(.ref o0)] below meth c s₁ [] 0 0 := Stand.of_body Bd
  have e0 : s₁.heap = h0 := by rw [← hh, Bd.state]; rfl
  have N0 := Fr.nil n0
  refine Got.body (ef_P2 m o0) ?_
  have K0 := Keep.refl h0 []
  refine Got.step (T' := s₁) (g' := (mkF m 1 #[.val (.ref o0), .unset, .unset, .unset] [(.ref o0)])) (fun tq kt => ?_) ?_
  · show Steps p.tables e below (s₁.setTop (mkF m 0 #[.val (.ref o0), .unset, .unset, .unset] [])) _
    refine XS.aloadN X0.here hx rfl (hb hby d6_0) rfl rfl ?_
    exact kt
  obtain ⟨cl11, Ar11, q11, S11, M11, H11, G11⟩ := (id V0)
  refine Got.step (T' := s₁) (fun tq kt => X0.arraylength hx (cell := cl11) (by rw [e0]; exact Ar11.1) (State.isArrayOf_alike hZ.alike Ar11.2.1) (g := (mkF m 1 #[.val (.ref o0), .unset, .unset, .unset] [(.ref o0)])) rfl (rest := []) rfl (hb hby d6_1) tq kt) ?_
  rw [len_of S11 M11]
  show Got p e below s _ _ _ _ s₁ (mkF m 2 #[.val (.ref o0), .unset, .unset, .unset] [(.int (2 : Int32))])
  obtain ⟨T12, h12, k12, X12, e12, E12, A12, st12⟩ := newP X0 hx hZ (hw _ (List.mem_of_getElem? (i := 0) rfl)) e0 (g := (mkF m 2 #[.val (.ref o0), .unset, .unset, .unset] [(.int (2 : Int32))])) rfl (hb hby d6_2) rfl (by decide) (cap := 4) (by decide) (by decide) (by decide) (by decide)
  obtain ⟨b12, g12⟩ : ∃ z, z = h0.size := ⟨_, rfl⟩
  rw [← g12] at A12 st12
  have ne_o0_b12 : o0 ≠ b12 := by rw [g12]; exact Nat.ne_of_lt V0.lt
  have gn_b12 : n0 ≤ b12 := by rw [g12]; exact Z0
  have sz_b12 : h0.size ≤ b12 := by rw [g12]; exact K0.1
  have Z0_13 : n0 ≤ h12.size := (Nat.le_trans Z0 E12.1)
  have K0_14 : Keep h0 h12 [] := (K0.ext E12)
  have V0_15 : Arv Z h12 o0 ku .int (2 : Int32) [(.int u0), (.int u1), (.int u2), (.int u3)] (.int (0 : Int32)) := (V0.ext E12)
  have V12 : Arv Z h12 b12 k12 .int (2 : Int32) [(.int (0 : Int32)), (.int (0 : Int32)), (.int (0 : Int32)), (.int (0 : Int32))] (.int (0 : Int32)) := (Arv.new A12 (by decide)).pad (pad_rep [] (.int (0 : Int32)) 4)
  refine Got.step st12 ?_
  show Got p e below s _ _ _ _ T12 (mkF m 4 #[.val (.ref o0), .unset, .unset, .unset] [(.ref b12)])
  refine Got.step (T' := T12) (g' := (mkF m 11 #[.val (.ref o0), .val (.ref b12), .val (.int (0 : Int32)), .val (.int (1 : Int32))] [(.ref o0), (.int (1 : Int32))])) (fun tq kt => ?_) ?_
  · show Steps p.tables e below (T12.setTop (mkF m 4 #[.val (.ref o0), .unset, .unset, .unset] [(.ref b12)])) _
    refine XS.astoreN X12.here hx rfl (hb hby d6_4) rfl rfl (l' := #[.val (.ref o0), .val (.ref b12), .unset, .unset]) rfl ?_
    show Steps p.tables e below (T12.setTop (mkF m 5 #[.val (.ref o0), .val (.ref b12), .unset, .unset] [])) _
    refine XS.iconst X12.here hx rfl (hb hby d6_5) ?_
    show Steps p.tables e below (T12.setTop (mkF m 6 #[.val (.ref o0), .val (.ref b12), .unset, .unset] [(.int (0 : Int32))])) _
    refine XS.istoreN X12.here hx rfl (hb hby d6_6) rfl (l' := #[.val (.ref o0), .val (.ref b12), .val (.int (0 : Int32)), .unset]) rfl ?_
    show Steps p.tables e below (T12.setTop (mkF m 7 #[.val (.ref o0), .val (.ref b12), .val (.int (0 : Int32)), .unset] [])) _
    refine XS.iconst X12.here hx rfl (hb hby d6_7) ?_
    show Steps p.tables e below (T12.setTop (mkF m 8 #[.val (.ref o0), .val (.ref b12), .val (.int (0 : Int32)), .unset] [(.int (1 : Int32))])) _
    refine XS.istoreN X12.here hx rfl (hb hby d6_8) rfl (l' := #[.val (.ref o0), .val (.ref b12), .val (.int (0 : Int32)), .val (.int (1 : Int32))]) rfl ?_
    show Steps p.tables e below (T12.setTop (mkF m 9 #[.val (.ref o0), .val (.ref b12), .val (.int (0 : Int32)), .val (.int (1 : Int32))] [])) _
    refine XS.iloadN X12.here hx rfl (hb hby d6_9) rfl ?_
    show Steps p.tables e below (T12.setTop (mkF m 10 #[.val (.ref o0), .val (.ref b12), .val (.int (0 : Int32)), .val (.int (1 : Int32))] [(.int (1 : Int32))])) _
    refine XS.aloadN X12.here hx rfl (hb hby d6_10) rfl rfl ?_
    exact kt
  obtain ⟨cl16, Ar16, q16, S16, M16, H16, G16⟩ := (id V0_15)
  refine Got.step (T' := T12) (fun tq kt => X12.arraylength hx (cell := cl16) (by rw [e12]; exact Ar16.1) (State.isArrayOf_alike hZ.alike Ar16.2.1) (g := (mkF m 11 #[.val (.ref o0), .val (.ref b12), .val (.int (0 : Int32)), .val (.int (1 : Int32))] [(.ref o0), (.int (1 : Int32))])) rfl (rest := [(.int (1 : Int32))]) rfl (hb hby d6_11) tq kt) ?_
  rw [len_of S16 M16]
  show Got p e below s _ _ _ _ T12 (mkF m 12 #[.val (.ref o0), .val (.ref b12), .val (.int (0 : Int32)), .val (.int (1 : Int32))] [(.int (2 : Int32)), (.int (1 : Int32))])
  refine Got.step (T' := T12) (g' := (mkF m 39 #[.val (.ref o0), .val (.ref b12), .val (.int (0 : Int32)), .val (.int (1 : Int32))] [(.int (1 : Int32)), (.ref o0)])) (fun tq kt => ?_) ?_
  · show Steps p.tables e below (T12.setTop (mkF m 12 #[.val (.ref o0), .val (.ref b12), .val (.int (0 : Int32)), .val (.int (1 : Int32))] [(.int (2 : Int32)), (.int (1 : Int32))])) _
    refine XS.icmpNo X12.here hx rfl (hb hby d6_12) rfl (XT.ii_ge_f (by decide)) ?_
    show Steps p.tables e below (T12.setTop (mkF m 15 #[.val (.ref o0), .val (.ref b12), .val (.int (0 : Int32)), .val (.int (1 : Int32))] [])) _
    refine XS.iloadN X12.here hx rfl (hb hby d6_15) rfl ?_
    show Steps p.tables e below (T12.setTop (mkF m 16 #[.val (.ref o0), .val (.ref b12), .val (.int (0 : Int32)), .val (.int (1 : Int32))] [(.int (0 : Int32))])) _
    refine XS.ifYes X12.here hx rfl (pc0 := 16) (pc' := 37) rfl (hb hby d6_16) rfl (XT.i0_le_t (by decide)) (by decide) (by decide) ?_
    show Steps p.tables e below (T12.setTop (mkF m 37 #[.val (.ref o0), .val (.ref b12), .val (.int (0 : Int32)), .val (.int (1 : Int32))] [])) _
    refine XS.aloadN X12.here hx rfl (hb hby d6_37) rfl rfl ?_
    show Steps p.tables e below (T12.setTop (mkF m 38 #[.val (.ref o0), .val (.ref b12), .val (.int (0 : Int32)), .val (.int (1 : Int32))] [(.ref o0)])) _
    refine XS.iloadN X12.here hx rfl (hb hby d6_38) rfl ?_
    exact kt
  obtain ⟨cl17, Ar17, q17, S17, M17, H17, G17⟩ := (id V0_15)
  have hin17 : ¬ ((1 : Int32) < 0 ∨ cl17.slots.size ≤ ((1 : Int32)).toNatClampNeg) := inb_of S17 ⟨by decide, by decide⟩
  refine Got.step (T' := T12) (fun tq kt => X12.iaload hx (j := (1 : Int32)) (v := (.int u1)) (by rw [e12]; exact Ar17.1) (State.isArrayOf_alike hZ.alike Ar17.2.1) Ar17.2.2 hin17 (H17.at hin17 rfl) (g := (mkF m 39 #[.val (.ref o0), .val (.ref b12), .val (.int (0 : Int32)), .val (.int (1 : Int32))] [(.int (1 : Int32)), (.ref o0)])) rfl rfl (hb hby d6_39) tq kt) ?_
  show Got p e below s _ _ _ _ T12 (mkF m 40 #[.val (.ref o0), .val (.ref b12), .val (.int (0 : Int32)), .val (.int (1 : Int32))] [(.int u1)])
  refine Got.step (T' := T12) (g' := (mkF m 42 #[.val (.ref o0), .val (.ref b12), .val (.int (0 : Int32)), .val (.int (1 : Int32))] [(.int (0 : Int32)), (.ref o0), (.int u1)])) (fun tq kt => ?_) ?_
  · show Steps p.tables e below (T12.setTop (mkF m 40 #[.val (.ref o0), .val (.ref b12), .val (.int (0 : Int32)), .val (.int (1 : Int32))] [(.int u1)])) _
    refine XS.aloadN X12.here hx rfl (hb hby d6_40) rfl rfl ?_
    show Steps p.tables e below (T12.setTop (mkF m 41 #[.val (.ref o0), .val (.ref b12), .val (.int (0 : Int32)), .val (.int (1 : Int32))] [(.ref o0), (.int u1)])) _
    refine XS.iloadN X12.here hx rfl (hb hby d6_41) rfl ?_
    exact kt
  obtain ⟨cl18, Ar18, q18, S18, M18, H18, G18⟩ := (id V0_15)
  have hin18 : ¬ ((0 : Int32) < 0 ∨ cl18.slots.size ≤ ((0 : Int32)).toNatClampNeg) := inb_of S18 ⟨by decide, by decide⟩
  refine Got.step (T' := T12) (fun tq kt => X12.iaload hx (j := (0 : Int32)) (v := (.int u0)) (by rw [e12]; exact Ar18.1) (State.isArrayOf_alike hZ.alike Ar18.2.1) Ar18.2.2 hin18 (H18.at hin18 rfl) (g := (mkF m 42 #[.val (.ref o0), .val (.ref b12), .val (.int (0 : Int32)), .val (.int (1 : Int32))] [(.int (0 : Int32)), (.ref o0), (.int u1)])) rfl rfl (hb hby d6_42) tq kt) ?_
  show Got p e below s _ _ _ _ T12 (mkF m 43 #[.val (.ref o0), .val (.ref b12), .val (.int (0 : Int32)), .val (.int (1 : Int32))] [(.int u0), (.int u1)])
  by_cases hc19 : (u1 = u0)
  · refine Got.step (T' := T12) (g' := (mkF m 52 #[.val (.ref o0), .val (.ref b12), .val (.int (1 : Int32)), .val (.int (1 : Int32))] [(.int (1 : Int32)), (.int (1 : Int32)), (.ref b12)])) (fun tq kt => ?_) ?_
    · show Steps p.tables e below (T12.setTop (mkF m 43 #[.val (.ref o0), .val (.ref b12), .val (.int (0 : Int32)), .val (.int (1 : Int32))] [(.int u0), (.int u1)])) _
      refine XS.icmpNo X12.here hx rfl (hb hby d6_43) rfl (XT.ii_ne_f hc19) ?_
      show Steps p.tables e below (T12.setTop (mkF m 46 #[.val (.ref o0), .val (.ref b12), .val (.int (0 : Int32)), .val (.int (1 : Int32))] [])) _
      refine XS.iinc X12.here hx rfl (hb hby d6_46) rfl (l' := #[.val (.ref o0), .val (.ref b12), .val (.int ((0 : Int32) + (1 : Int32))), .val (.int (1 : Int32))]) rfl ?_
      show Steps p.tables e below (T12.setTop (mkF m 49 #[.val (.ref o0), .val (.ref b12), .val (.int (1 : Int32)), .val (.int (1 : Int32))] [])) _
      refine XS.aloadN X12.here hx rfl (hb hby d6_49) rfl rfl ?_
      show Steps p.tables e below (T12.setTop (mkF m 50 #[.val (.ref o0), .val (.ref b12), .val (.int (1 : Int32)), .val (.int (1 : Int32))] [(.ref b12)])) _
      refine XS.iloadN X12.here hx rfl (hb hby d6_50) rfl ?_
      show Steps p.tables e below (T12.setTop (mkF m 51 #[.val (.ref o0), .val (.ref b12), .val (.int (1 : Int32)), .val (.int (1 : Int32))] [(.int (1 : Int32)), (.ref b12)])) _
      refine XS.iloadN X12.here hx rfl (hb hby d6_51) rfl ?_
      exact kt
    obtain ⟨cl20, Ar20, q20, S20, M20, H20, G20⟩ := (id V12)
    have hin20 : ¬ ((1 : Int32) < 0 ∨ cl20.slots.size ≤ ((1 : Int32)).toNatClampNeg) := inb_of S20 ⟨by decide, by decide⟩
    obtain ⟨T20, h20, X20, e20, W20, st20⟩ := stI X12 hx hZ e12 Ar20 (j := (1 : Int32)) hin20 (g := (mkF m 52 #[.val (.ref o0), .val (.ref b12), .val (.int (1 : Int32)), .val (.int (1 : Int32))] [(.int (1 : Int32)), (.int (1 : Int32)), (.ref b12)])) rfl rfl (hb hby d6_52)
    have Z0_21 : n0 ≤ h20.size := (Nat.le_trans Z0_13 (Keep.of_wr W20).1)
    have K0_22 : Keep h0 h20 [] := (K0_14.wr W20 (Or.inr sz_b12))
    have V0_23 : Arv Z h20 o0 ku .int (2 : Int32) [(.int u0), (.int u1), (.int u2), (.int u3)] (.int (0 : Int32)) := (V0_15.other W20 ne_o0_b12)
    have V20 : Arv Z h20 b12 k12 .int (2 : Int32) [(.int (0 : Int32)), (.int (1 : Int32)), (.int (0 : Int32)), (.int (0 : Int32))] (.int (0 : Int32)) := Arv.set Ar20 q20 S20 M20 H20 G20 rfl W20 1 rfl (Nat.le_of_ble_eq_true rfl)
    have N20 := Fr.snoc X20 N0 gn_b12
    refine Got.step st20 ?_
    show Got p e below s _ _ _ _ T20 (mkF m 53 #[.val (.ref o0), .val (.ref b12), .val (.int (1 : Int32)), .val (.int (1 : Int32))] [])
    refine Got.step (T' := T20) (g' := (mkF m 11 #[.val (.ref o0), .val (.ref b12), .val (.int (1 : Int32)), .val (.int (2 : Int32))] [(.ref o0), (.int (2 : Int32))])) (fun tq kt => ?_) ?_
    · show Steps p.tables e below (T20.setTop (mkF m 53 #[.val (.ref o0), .val (.ref b12), .val (.int (1 : Int32)), .val (.int (1 : Int32))] [])) _
      refine XS.iinc X20.here hx rfl (hb hby d6_53) rfl (l' := #[.val (.ref o0), .val (.ref b12), .val (.int (1 : Int32)), .val (.int ((1 : Int32) + (1 : Int32)))]) rfl ?_
      show Steps p.tables e below (T20.setTop (mkF m 56 #[.val (.ref o0), .val (.ref b12), .val (.int (1 : Int32)), .val (.int (2 : Int32))] [])) _
      refine XS.goto X20.here hx rfl (pc0 := 56) (pc' := 9) rfl (hb hby d6_56) (by decide) (by decide) ?_
      show Steps p.tables e below (T20.setTop (mkF m 9 #[.val (.ref o0), .val (.ref b12), .val (.int (1 : Int32)), .val (.int (2 : Int32))] [])) _
      refine XS.iloadN X20.here hx rfl (hb hby d6_9) rfl ?_
      show Steps p.tables e below (T20.setTop (mkF m 10 #[.val (.ref o0), .val (.ref b12), .val (.int (1 : Int32)), .val (.int (2 : Int32))] [(.int (2 : Int32))])) _
      refine XS.aloadN X20.here hx rfl (hb hby d6_10) rfl rfl ?_
      exact kt
    obtain ⟨cl24, Ar24, q24, S24, M24, H24, G24⟩ := (id V0_23)
    refine Got.step (T' := T20) (fun tq kt => X20.arraylength hx (cell := cl24) (by rw [e20]; exact Ar24.1) (State.isArrayOf_alike hZ.alike Ar24.2.1) (g := (mkF m 11 #[.val (.ref o0), .val (.ref b12), .val (.int (1 : Int32)), .val (.int (2 : Int32))] [(.ref o0), (.int (2 : Int32))])) rfl (rest := [(.int (2 : Int32))]) rfl (hb hby d6_11) tq kt) ?_
    rw [len_of S24 M24]
    show Got p e below s _ _ _ _ T20 (mkF m 12 #[.val (.ref o0), .val (.ref b12), .val (.int (1 : Int32)), .val (.int (2 : Int32))] [(.int (2 : Int32)), (.int (2 : Int32))])
    refine Got.step (T' := T20) (g' := (mkF m 60 #[.val (.ref o0), .val (.ref b12), .val (.int (1 : Int32)), .val (.int (2 : Int32))] [(.ref b12)])) (fun tq kt => ?_) ?_
    · show Steps p.tables e below (T20.setTop (mkF m 12 #[.val (.ref o0), .val (.ref b12), .val (.int (1 : Int32)), .val (.int (2 : Int32))] [(.int (2 : Int32)), (.int (2 : Int32))])) _
      refine XS.icmpYes X20.here hx rfl (pc0 := 12) (pc' := 59) rfl (hb hby d6_12) rfl (XT.ii_ge_t Int32.lt_irrefl) (by decide) (by decide) ?_
      show Steps p.tables e below (T20.setTop (mkF m 59 #[.val (.ref o0), .val (.ref b12), .val (.int (1 : Int32)), .val (.int (2 : Int32))] [])) _
      refine XS.aloadN X20.here hx rfl (hb hby d6_59) rfl rfl ?_
      exact kt
    rw [← g12]
    exact Got.retA X20 hx Bd.returns rfl hlk (hb hby d6_60) rfl ⟨N20, by rw [e20]; exact K0_22, k12, by rw [e20]; unfold ptab2; rw [(if_pos hc19)]; exact V20⟩ (by decide) (by decide)
  · refine Got.step (T' := T12) (g' := (mkF m 52 #[.val (.ref o0), .val (.ref b12), .val (.int (0 : Int32)), .val (.int (1 : Int32))] [(.int (0 : Int32)), (.int (1 : Int32)), (.ref b12)])) (fun tq kt => ?_) ?_
    · show Steps p.tables e below (T12.setTop (mkF m 43 #[.val (.ref o0), .val (.ref b12), .val (.int (0 : Int32)), .val (.int (1 : Int32))] [(.int u0), (.int u1)])) _
      refine XS.icmpYes X12.here hx rfl (pc0 := 43) (pc' := 49) rfl (hb hby d6_43) rfl (XT.ii_ne_t hc19) (by decide) (by decide) ?_
      show Steps p.tables e below (T12.setTop (mkF m 49 #[.val (.ref o0), .val (.ref b12), .val (.int (0 : Int32)), .val (.int (1 : Int32))] [])) _
      refine XS.aloadN X12.here hx rfl (hb hby d6_49) rfl rfl ?_
      show Steps p.tables e below (T12.setTop (mkF m 50 #[.val (.ref o0), .val (.ref b12), .val (.int (0 : Int32)), .val (.int (1 : Int32))] [(.ref b12)])) _
      refine XS.iloadN X12.here hx rfl (hb hby d6_50) rfl ?_
      show Steps p.tables e below (T12.setTop (mkF m 51 #[.val (.ref o0), .val (.ref b12), .val (.int (0 : Int32)), .val (.int (1 : Int32))] [(.int (1 : Int32)), (.ref b12)])) _
      refine XS.iloadN X12.here hx rfl (hb hby d6_51) rfl ?_
      exact kt
    obtain ⟨cl25, Ar25, q25, S25, M25, H25, G25⟩ := (id V12)
    have hin25 : ¬ ((1 : Int32) < 0 ∨ cl25.slots.size ≤ ((1 : Int32)).toNatClampNeg) := inb_of S25 ⟨by decide, by decide⟩
    obtain ⟨T25, h25, X25, e25, W25, st25⟩ := stI X12 hx hZ e12 Ar25 (j := (1 : Int32)) hin25 (g := (mkF m 52 #[.val (.ref o0), .val (.ref b12), .val (.int (0 : Int32)), .val (.int (1 : Int32))] [(.int (0 : Int32)), (.int (1 : Int32)), (.ref b12)])) rfl rfl (hb hby d6_52)
    have Z0_26 : n0 ≤ h25.size := (Nat.le_trans Z0_13 (Keep.of_wr W25).1)
    have K0_27 : Keep h0 h25 [] := (K0_14.wr W25 (Or.inr sz_b12))
    have V0_28 : Arv Z h25 o0 ku .int (2 : Int32) [(.int u0), (.int u1), (.int u2), (.int u3)] (.int (0 : Int32)) := (V0_15.other W25 ne_o0_b12)
    have V25 : Arv Z h25 b12 k12 .int (2 : Int32) [(.int (0 : Int32)), (.int (0 : Int32)), (.int (0 : Int32)), (.int (0 : Int32))] (.int (0 : Int32)) := Arv.set Ar25 q25 S25 M25 H25 G25 rfl W25 1 rfl (Nat.le_of_ble_eq_true rfl)
    have N25 := Fr.snoc X25 N0 gn_b12
    refine Got.step st25 ?_
    show Got p e below s _ _ _ _ T25 (mkF m 53 #[.val (.ref o0), .val (.ref b12), .val (.int (0 : Int32)), .val (.int (1 : Int32))] [])
    refine Got.step (T' := T25) (g' := (mkF m 11 #[.val (.ref o0), .val (.ref b12), .val (.int (0 : Int32)), .val (.int (2 : Int32))] [(.ref o0), (.int (2 : Int32))])) (fun tq kt => ?_) ?_
    · show Steps p.tables e below (T25.setTop (mkF m 53 #[.val (.ref o0), .val (.ref b12), .val (.int (0 : Int32)), .val (.int (1 : Int32))] [])) _
      refine XS.iinc X25.here hx rfl (hb hby d6_53) rfl (l' := #[.val (.ref o0), .val (.ref b12), .val (.int (0 : Int32)), .val (.int ((1 : Int32) + (1 : Int32)))]) rfl ?_
      show Steps p.tables e below (T25.setTop (mkF m 56 #[.val (.ref o0), .val (.ref b12), .val (.int (0 : Int32)), .val (.int (2 : Int32))] [])) _
      refine XS.goto X25.here hx rfl (pc0 := 56) (pc' := 9) rfl (hb hby d6_56) (by decide) (by decide) ?_
      show Steps p.tables e below (T25.setTop (mkF m 9 #[.val (.ref o0), .val (.ref b12), .val (.int (0 : Int32)), .val (.int (2 : Int32))] [])) _
      refine XS.iloadN X25.here hx rfl (hb hby d6_9) rfl ?_
      show Steps p.tables e below (T25.setTop (mkF m 10 #[.val (.ref o0), .val (.ref b12), .val (.int (0 : Int32)), .val (.int (2 : Int32))] [(.int (2 : Int32))])) _
      refine XS.aloadN X25.here hx rfl (hb hby d6_10) rfl rfl ?_
      exact kt
    obtain ⟨cl29, Ar29, q29, S29, M29, H29, G29⟩ := (id V0_28)
    refine Got.step (T' := T25) (fun tq kt => X25.arraylength hx (cell := cl29) (by rw [e25]; exact Ar29.1) (State.isArrayOf_alike hZ.alike Ar29.2.1) (g := (mkF m 11 #[.val (.ref o0), .val (.ref b12), .val (.int (0 : Int32)), .val (.int (2 : Int32))] [(.ref o0), (.int (2 : Int32))])) rfl (rest := [(.int (2 : Int32))]) rfl (hb hby d6_11) tq kt) ?_
    rw [len_of S29 M29]
    show Got p e below s _ _ _ _ T25 (mkF m 12 #[.val (.ref o0), .val (.ref b12), .val (.int (0 : Int32)), .val (.int (2 : Int32))] [(.int (2 : Int32)), (.int (2 : Int32))])
    refine Got.step (T' := T25) (g' := (mkF m 60 #[.val (.ref o0), .val (.ref b12), .val (.int (0 : Int32)), .val (.int (2 : Int32))] [(.ref b12)])) (fun tq kt => ?_) ?_
    · show Steps p.tables e below (T25.setTop (mkF m 12 #[.val (.ref o0), .val (.ref b12), .val (.int (0 : Int32)), .val (.int (2 : Int32))] [(.int (2 : Int32)), (.int (2 : Int32))])) _
      refine XS.icmpYes X25.here hx rfl (pc0 := 12) (pc' := 59) rfl (hb hby d6_12) rfl (XT.ii_ge_t Int32.lt_irrefl) (by decide) (by decide) ?_
      show Steps p.tables e below (T25.setTop (mkF m 59 #[.val (.ref o0), .val (.ref b12), .val (.int (0 : Int32)), .val (.int (2 : Int32))] [])) _
      refine XS.aloadN X25.here hx rfl (hb hby d6_59) rfl rfl ?_
      exact kt
    rw [← g12]
    exact Got.retA X25 hx Bd.returns rfl hlk (hb hby d6_60) rfl ⟨N25, by rw [e25]; exact K0_27, k12, by rw [e25]; unfold ptab2; rw [(if_neg hc19)]; exact V25⟩ (by decide) (by decide)
def ptab3 (u0 u1 u2 u3 : Int32) : List Nat := (if u1 = u0 then (if u2 = u1 then (if u2 = u1 then [0, 1, 2, 0] else [0, 1, 1, 0]) else (if u2 = u0 then [0, 1, 1, 0] else [0, 1, 0, 0])) else (if u2 = u0 then [0, 0, 1, 0] else [0, 0, 0, 0]))
theorem ef_P3 (m : MethodId) (x0 : Addr) : entryFrame m #[(.ref x0)] 4 = mkF m 0 #[.val (.ref x0), .unset, .unset, .unset] [] := by first | (simp [entryFrame, mkF, argsToLocals, Value.category]; done) | rfl
theorem d6_19 : decode prog_4_method_10_code 19 = .ok (.aload_n 0, 1) := by decide +kernel
theorem d6_20 : decode prog_4_method_10_code 20 = .ok (.iload_n 3, 1) := by decide +kernel
theorem d6_21 : decode prog_4_method_10_code 21 = .ok (.iaload, 1) := by decide +kernel
theorem d6_22 : decode prog_4_method_10_code 22 = .ok (.aload_n 0, 1) := by decide +kernel
theorem d6_23 : decode prog_4_method_10_code 23 = .ok (.iload_n 2, 1) := by decide +kernel
theorem d6_24 : decode prog_4_method_10_code 24 = .ok (.iaload, 1) := by decide +kernel
theorem d6_25 : decode prog_4_method_10_code 25 = .ok (.if_icmp .eq 12, 3) := by decide +kernel
theorem d6_28 : decode prog_4_method_10_code 28 = .ok (.aload_n 1, 1) := by decide +kernel
theorem d6_29 : decode prog_4_method_10_code 29 = .ok (.iload_n 2, 1) := by decide +kernel
theorem d6_30 : decode prog_4_method_10_code 30 = .ok (.iconst 1, 1) := by decide +kernel
theorem d6_31 : decode prog_4_method_10_code 31 = .ok (.isub, 1) := by decide +kernel
theorem d6_32 : decode prog_4_method_10_code 32 = .ok (.iaload, 1) := by decide +kernel
theorem d6_33 : decode prog_4_method_10_code 33 = .ok (.istore_n 2, 1) := by decide +kernel
theorem d6_34 : decode prog_4_method_10_code 34 = .ok (.goto (-19), 3) := by decide +kernel
set_option maxRecDepth 65536 in
set_option maxHeartbeats 40000000 in
theorem rmP3 (l : Launch) (Z : State) (a0 : Array Value) (hw : ∀ d ∈ tables_1, d.before a0 Z = true) (ws : List Jvm.Cond) (o0 : Addr) (u0 u1 u2 u3 : Int32) (ku : ClassId) (h0 : Heap) (n0 : Nat) (Z0 : n0 ≤ h0.size) (V0 : Arv Z h0 o0 ku .int (3 : Int32) [(.int u0), (.int u1), (.int u2), (.int u3)] (.int (0 : Int32))) :
    MetFree l (⟨"com/example/sidestep/sidestep/CompiledPattern", "prefixTable", "([I)[I"⟩ : MethodName) (head1 (Jvm.Cond.code (⟨"com/example/sidestep/sidestep/CompiledPattern", "prefixTable", "([I)[I"⟩ : MethodName) prog_4_method_10_code 4 (some (.array .int)) :: ws) ({ frames := 0, cells := 1, slots := 4, locals := 0 } : Room)) (fun a U => a = #[(.ref o0)] ∧ Z.Warmed39 U.vm ∧ U.heap = h0) (fun _ _ _ _ _ => True) (fun _ U o U' => ∃ v L, o = .returned v ∧ QV (some (.ref h0.size)) (fun h L => Fr n0 L ∧ Keep h0 h [] ∧ ∃ k : ClassId, Arv Z h h0.size k .int (3 : Int32) (own_tb (ptab3 u0 u1 u2 u3)) (.int (0 : Int32))) v U'.heap L ∧ FrameEnd U o U' L ({ frames := 0, cells := 1, slots := 4, locals := 0 } : Room).cells ({ frames := 0, cells := 1, slots := 4, locals := 0 } : Room).slots) := by
  refine MetFree.of_bodySF (plainFor_of_name pn_1) hisR ?_
  intro p e s m args below meth c s₁ Bd hml0 hP hK
  obtain ⟨rfl, hZ, hh⟩ := hP
  have hx := Bd.exec
  have hby := Bd.bytes
  have hml : c.maxLocals = 4 := hml0
  have hown : s.vm.findClass "com/example/sidestep/sidestep/CompiledPattern" = some m.cls := findClass_of_methodNamed Bd.named
  have hnm := (name_of_methodNamed Bd.named Bd.method).1
  have hlk : meth.locks = false := BodyLoose.notSynchronized Bd
  have X0 : Stand p l e ({ frames := 0, cells := 1, slots := 4, locals := 0 } : Room) s m #[(.ref o0)] below meth c s₁ [] 0 0 := Stand.of_body Bd
  have e0 : s₁.heap = h0 := by rw [← hh, Bd.state]; rfl
  have N0 := Fr.nil n0
  refine Got.body (ef_P3 m o0) ?_
  have K0 := Keep.refl h0 []
  refine Got.step (T' := s₁) (g' := (mkF m 1 #[.val (.ref o0), .unset, .unset, .unset] [(.ref o0)])) (fun tq kt => ?_) ?_
  · show Steps p.tables e below (s₁.setTop (mkF m 0 #[.val (.ref o0), .unset, .unset, .unset] [])) _
    refine XS.aloadN X0.here hx rfl (hb hby d6_0) rfl rfl ?_
    exact kt
  obtain ⟨cl30, Ar30, q30, S30, M30, H30, G30⟩ := (id V0)
  refine Got.step (T' := s₁) (fun tq kt => X0.arraylength hx (cell := cl30) (by rw [e0]; exact Ar30.1) (State.isArrayOf_alike hZ.alike Ar30.2.1) (g := (mkF m 1 #[.val (.ref o0), .unset, .unset, .unset] [(.ref o0)])) rfl (rest := []) rfl (hb hby d6_1) tq kt) ?_
  rw [len_of S30 M30]
  show Got p e below s _ _ _ _ s₁ (mkF m 2 #[.val (.ref o0), .unset, .unset, .unset] [(.int (3 : Int32))])
  obtain ⟨T31, h31, k31, X31, e31, E31, A31, st31⟩ := newP X0 hx hZ (hw _ (List.mem_of_getElem? (i := 0) rfl)) e0 (g := (mkF m 2 #[.val (.ref o0), .unset, .unset, .unset] [(.int (3 : Int32))])) rfl (hb hby d6_2) rfl (by decide) (cap := 4) (by decide) (by decide) (by decide) (by decide)
  obtain ⟨b31, g31⟩ : ∃ z, z = h0.size := ⟨_, rfl⟩
  rw [← g31] at A31 st31
  have ne_o0_b31 : o0 ≠ b31 := by rw [g31]; exact Nat.ne_of_lt V0.lt
  have gn_b31 : n0 ≤ b31 := by rw [g31]; exact Z0
  have sz_b31 : h0.size ≤ b31 := by rw [g31]; exact K0.1
  have Z0_32 : n0 ≤ h31.size := (Nat.le_trans Z0 E31.1)
  have K0_33 : Keep h0 h31 [] := (K0.ext E31)
  have V0_34 : Arv Z h31 o0 ku .int (3 : Int32) [(.int u0), (.int u1), (.int u2), (.int u3)] (.int (0 : Int32)) := (V0.ext E31)
  have V31 : Arv Z h31 b31 k31 .int (3 : Int32) [(.int (0 : Int32)), (.int (0 : Int32)), (.int (0 : Int32)), (.int (0 : Int32))] (.int (0 : Int32)) := (Arv.new A31 (by decide)).pad (pad_rep [] (.int (0 : Int32)) 4)
  refine Got.step st31 ?_
  show Got p e below s _ _ _ _ T31 (mkF m 4 #[.val (.ref o0), .unset, .unset, .unset] [(.ref b31)])
  refine Got.step (T' := T31) (g' := (mkF m 11 #[.val (.ref o0), .val (.ref b31), .val (.int (0 : Int32)), .val (.int (1 : Int32))] [(.ref o0), (.int (1 : Int32))])) (fun tq kt => ?_) ?_
  · show Steps p.tables e below (T31.setTop (mkF m 4 #[.val (.ref o0), .unset, .unset, .unset] [(.ref b31)])) _
    refine XS.astoreN X31.here hx rfl (hb hby d6_4) rfl rfl (l' := #[.val (.ref o0), .val (.ref b31), .unset, .unset]) rfl ?_
    show Steps p.tables e below (T31.setTop (mkF m 5 #[.val (.ref o0), .val (.ref b31), .unset, .unset] [])) _
    refine XS.iconst X31.here hx rfl (hb hby d6_5) ?_
    show Steps p.tables e below (T31.setTop (mkF m 6 #[.val (.ref o0), .val (.ref b31), .unset, .unset] [(.int (0 : Int32))])) _
    refine XS.istoreN X31.here hx rfl (hb hby d6_6) rfl (l' := #[.val (.ref o0), .val (.ref b31), .val (.int (0 : Int32)), .unset]) rfl ?_
    show Steps p.tables e below (T31.setTop (mkF m 7 #[.val (.ref o0), .val (.ref b31), .val (.int (0 : Int32)), .unset] [])) _
    refine XS.iconst X31.here hx rfl (hb hby d6_7) ?_
    show Steps p.tables e below (T31.setTop (mkF m 8 #[.val (.ref o0), .val (.ref b31), .val (.int (0 : Int32)), .unset] [(.int (1 : Int32))])) _
    refine XS.istoreN X31.here hx rfl (hb hby d6_8) rfl (l' := #[.val (.ref o0), .val (.ref b31), .val (.int (0 : Int32)), .val (.int (1 : Int32))]) rfl ?_
    show Steps p.tables e below (T31.setTop (mkF m 9 #[.val (.ref o0), .val (.ref b31), .val (.int (0 : Int32)), .val (.int (1 : Int32))] [])) _
    refine XS.iloadN X31.here hx rfl (hb hby d6_9) rfl ?_
    show Steps p.tables e below (T31.setTop (mkF m 10 #[.val (.ref o0), .val (.ref b31), .val (.int (0 : Int32)), .val (.int (1 : Int32))] [(.int (1 : Int32))])) _
    refine XS.aloadN X31.here hx rfl (hb hby d6_10) rfl rfl ?_
    exact kt
  obtain ⟨cl35, Ar35, q35, S35, M35, H35, G35⟩ := (id V0_34)
  refine Got.step (T' := T31) (fun tq kt => X31.arraylength hx (cell := cl35) (by rw [e31]; exact Ar35.1) (State.isArrayOf_alike hZ.alike Ar35.2.1) (g := (mkF m 11 #[.val (.ref o0), .val (.ref b31), .val (.int (0 : Int32)), .val (.int (1 : Int32))] [(.ref o0), (.int (1 : Int32))])) rfl (rest := [(.int (1 : Int32))]) rfl (hb hby d6_11) tq kt) ?_
  rw [len_of S35 M35]
  show Got p e below s _ _ _ _ T31 (mkF m 12 #[.val (.ref o0), .val (.ref b31), .val (.int (0 : Int32)), .val (.int (1 : Int32))] [(.int (3 : Int32)), (.int (1 : Int32))])
  refine Got.step (T' := T31) (g' := (mkF m 39 #[.val (.ref o0), .val (.ref b31), .val (.int (0 : Int32)), .val (.int (1 : Int32))] [(.int (1 : Int32)), (.ref o0)])) (fun tq kt => ?_) ?_
  · show Steps p.tables e below (T31.setTop (mkF m 12 #[.val (.ref o0), .val (.ref b31), .val (.int (0 : Int32)), .val (.int (1 : Int32))] [(.int (3 : Int32)), (.int (1 : Int32))])) _
    refine XS.icmpNo X31.here hx rfl (hb hby d6_12) rfl (XT.ii_ge_f (by decide)) ?_
    show Steps p.tables e below (T31.setTop (mkF m 15 #[.val (.ref o0), .val (.ref b31), .val (.int (0 : Int32)), .val (.int (1 : Int32))] [])) _
    refine XS.iloadN X31.here hx rfl (hb hby d6_15) rfl ?_
    show Steps p.tables e below (T31.setTop (mkF m 16 #[.val (.ref o0), .val (.ref b31), .val (.int (0 : Int32)), .val (.int (1 : Int32))] [(.int (0 : Int32))])) _
    refine XS.ifYes X31.here hx rfl (pc0 := 16) (pc' := 37) rfl (hb hby d6_16) rfl (XT.i0_le_t (by decide)) (by decide) (by decide) ?_
    show Steps p.tables e below (T31.setTop (mkF m 37 #[.val (.ref o0), .val (.ref b31), .val (.int (0 : Int32)), .val (.int (1 : Int32))] [])) _
    refine XS.aloadN X31.here hx rfl (hb hby d6_37) rfl rfl ?_
    show Steps p.tables e below (T31.setTop (mkF m 38 #[.val (.ref o0), .val (.ref b31), .val (.int (0 : Int32)), .val (.int (1 : Int32))] [(.ref o0)])) _
    refine XS.iloadN X31.here hx rfl (hb hby d6_38) rfl ?_
    exact kt
  obtain ⟨cl36, Ar36, q36, S36, M36, H36, G36⟩ := (id V0_34)
  have hin36 : ¬ ((1 : Int32) < 0 ∨ cl36.slots.size ≤ ((1 : Int32)).toNatClampNeg) := inb_of S36 ⟨by decide, by decide⟩
  refine Got.step (T' := T31) (fun tq kt => X31.iaload hx (j := (1 : Int32)) (v := (.int u1)) (by rw [e31]; exact Ar36.1) (State.isArrayOf_alike hZ.alike Ar36.2.1) Ar36.2.2 hin36 (H36.at hin36 rfl) (g := (mkF m 39 #[.val (.ref o0), .val (.ref b31), .val (.int (0 : Int32)), .val (.int (1 : Int32))] [(.int (1 : Int32)), (.ref o0)])) rfl rfl (hb hby d6_39) tq kt) ?_
  show Got p e below s _ _ _ _ T31 (mkF m 40 #[.val (.ref o0), .val (.ref b31), .val (.int (0 : Int32)), .val (.int (1 : Int32))] [(.int u1)])
  refine Got.step (T' := T31) (g' := (mkF m 42 #[.val (.ref o0), .val (.ref b31), .val (.int (0 : Int32)), .val (.int (1 : Int32))] [(.int (0 : Int32)), (.ref o0), (.int u1)])) (fun tq kt => ?_) ?_
  · show Steps p.tables e below (T31.setTop (mkF m 40 #[.val (.ref o0), .val (.ref b31), .val (.int (0 : Int32)), .val (.int (1 : Int32))] [(.int u1)])) _
    refine XS.aloadN X31.here hx rfl (hb hby d6_40) rfl rfl ?_
    show Steps p.tables e below (T31.setTop (mkF m 41 #[.val (.ref o0), .val (.ref b31), .val (.int (0 : Int32)), .val (.int (1 : Int32))] [(.ref o0), (.int u1)])) _
    refine XS.iloadN X31.here hx rfl (hb hby d6_41) rfl ?_
    exact kt
  obtain ⟨cl37, Ar37, q37, S37, M37, H37, G37⟩ := (id V0_34)
  have hin37 : ¬ ((0 : Int32) < 0 ∨ cl37.slots.size ≤ ((0 : Int32)).toNatClampNeg) := inb_of S37 ⟨by decide, by decide⟩
  refine Got.step (T' := T31) (fun tq kt => X31.iaload hx (j := (0 : Int32)) (v := (.int u0)) (by rw [e31]; exact Ar37.1) (State.isArrayOf_alike hZ.alike Ar37.2.1) Ar37.2.2 hin37 (H37.at hin37 rfl) (g := (mkF m 42 #[.val (.ref o0), .val (.ref b31), .val (.int (0 : Int32)), .val (.int (1 : Int32))] [(.int (0 : Int32)), (.ref o0), (.int u1)])) rfl rfl (hb hby d6_42) tq kt) ?_
  show Got p e below s _ _ _ _ T31 (mkF m 43 #[.val (.ref o0), .val (.ref b31), .val (.int (0 : Int32)), .val (.int (1 : Int32))] [(.int u0), (.int u1)])
  by_cases hc38 : (u1 = u0)
  · refine Got.step (T' := T31) (g' := (mkF m 52 #[.val (.ref o0), .val (.ref b31), .val (.int (1 : Int32)), .val (.int (1 : Int32))] [(.int (1 : Int32)), (.int (1 : Int32)), (.ref b31)])) (fun tq kt => ?_) ?_
    · show Steps p.tables e below (T31.setTop (mkF m 43 #[.val (.ref o0), .val (.ref b31), .val (.int (0 : Int32)), .val (.int (1 : Int32))] [(.int u0), (.int u1)])) _
      refine XS.icmpNo X31.here hx rfl (hb hby d6_43) rfl (XT.ii_ne_f hc38) ?_
      show Steps p.tables e below (T31.setTop (mkF m 46 #[.val (.ref o0), .val (.ref b31), .val (.int (0 : Int32)), .val (.int (1 : Int32))] [])) _
      refine XS.iinc X31.here hx rfl (hb hby d6_46) rfl (l' := #[.val (.ref o0), .val (.ref b31), .val (.int ((0 : Int32) + (1 : Int32))), .val (.int (1 : Int32))]) rfl ?_
      show Steps p.tables e below (T31.setTop (mkF m 49 #[.val (.ref o0), .val (.ref b31), .val (.int (1 : Int32)), .val (.int (1 : Int32))] [])) _
      refine XS.aloadN X31.here hx rfl (hb hby d6_49) rfl rfl ?_
      show Steps p.tables e below (T31.setTop (mkF m 50 #[.val (.ref o0), .val (.ref b31), .val (.int (1 : Int32)), .val (.int (1 : Int32))] [(.ref b31)])) _
      refine XS.iloadN X31.here hx rfl (hb hby d6_50) rfl ?_
      show Steps p.tables e below (T31.setTop (mkF m 51 #[.val (.ref o0), .val (.ref b31), .val (.int (1 : Int32)), .val (.int (1 : Int32))] [(.int (1 : Int32)), (.ref b31)])) _
      refine XS.iloadN X31.here hx rfl (hb hby d6_51) rfl ?_
      exact kt
    obtain ⟨cl39, Ar39, q39, S39, M39, H39, G39⟩ := (id V31)
    have hin39 : ¬ ((1 : Int32) < 0 ∨ cl39.slots.size ≤ ((1 : Int32)).toNatClampNeg) := inb_of S39 ⟨by decide, by decide⟩
    obtain ⟨T39, h39, X39, e39, W39, st39⟩ := stI X31 hx hZ e31 Ar39 (j := (1 : Int32)) hin39 (g := (mkF m 52 #[.val (.ref o0), .val (.ref b31), .val (.int (1 : Int32)), .val (.int (1 : Int32))] [(.int (1 : Int32)), (.int (1 : Int32)), (.ref b31)])) rfl rfl (hb hby d6_52)
    have Z0_40 : n0 ≤ h39.size := (Nat.le_trans Z0_32 (Keep.of_wr W39).1)
    have K0_41 : Keep h0 h39 [] := (K0_33.wr W39 (Or.inr sz_b31))
    have V0_42 : Arv Z h39 o0 ku .int (3 : Int32) [(.int u0), (.int u1), (.int u2), (.int u3)] (.int (0 : Int32)) := (V0_34.other W39 ne_o0_b31)
    have V39 : Arv Z h39 b31 k31 .int (3 : Int32) [(.int (0 : Int32)), (.int (1 : Int32)), (.int (0 : Int32)), (.int (0 : Int32))] (.int (0 : Int32)) := Arv.set Ar39 q39 S39 M39 H39 G39 rfl W39 1 rfl (Nat.le_of_ble_eq_true rfl)
    have N39 := Fr.snoc X39 N0 gn_b31
    refine Got.step st39 ?_
    show Got p e below s _ _ _ _ T39 (mkF m 53 #[.val (.ref o0), .val (.ref b31), .val (.int (1 : Int32)), .val (.int (1 : Int32))] [])
    refine Got.step (T' := T39) (g' := (mkF m 11 #[.val (.ref o0), .val (.ref b31), .val (.int (1 : Int32)), .val (.int (2 : Int32))] [(.ref o0), (.int (2 : Int32))])) (fun tq kt => ?_) ?_
    · show Steps p.tables e below (T39.setTop (mkF m 53 #[.val (.ref o0), .val (.ref b31), .val (.int (1 : Int32)), .val (.int (1 : Int32))] [])) _
      refine XS.iinc X39.here hx rfl (hb hby d6_53) rfl (l' := #[.val (.ref o0), .val (.ref b31), .val (.int (1 : Int32)), .val (.int ((1 : Int32) + (1 : Int32)))]) rfl ?_
      show Steps p.tables e below (T39.setTop (mkF m 56 #[.val (.ref o0), .val (.ref b31), .val (.int (1 : Int32)), .val (.int (2 : Int32))] [])) _
      refine XS.goto X39.here hx rfl (pc0 := 56) (pc' := 9) rfl (hb hby d6_56) (by decide) (by decide) ?_
      show Steps p.tables e below (T39.setTop (mkF m 9 #[.val (.ref o0), .val (.ref b31), .val (.int (1 : Int32)), .val (.int (2 : Int32))] [])) _
      refine XS.iloadN X39.here hx rfl (hb hby d6_9) rfl ?_
      show Steps p.tables e below (T39.setTop (mkF m 10 #[.val (.ref o0), .val (.ref b31), .val (.int (1 : Int32)), .val (.int (2 : Int32))] [(.int (2 : Int32))])) _
      refine XS.aloadN X39.here hx rfl (hb hby d6_10) rfl rfl ?_
      exact kt
    obtain ⟨cl43, Ar43, q43, S43, M43, H43, G43⟩ := (id V0_42)
    refine Got.step (T' := T39) (fun tq kt => X39.arraylength hx (cell := cl43) (by rw [e39]; exact Ar43.1) (State.isArrayOf_alike hZ.alike Ar43.2.1) (g := (mkF m 11 #[.val (.ref o0), .val (.ref b31), .val (.int (1 : Int32)), .val (.int (2 : Int32))] [(.ref o0), (.int (2 : Int32))])) rfl (rest := [(.int (2 : Int32))]) rfl (hb hby d6_11) tq kt) ?_
    rw [len_of S43 M43]
    show Got p e below s _ _ _ _ T39 (mkF m 12 #[.val (.ref o0), .val (.ref b31), .val (.int (1 : Int32)), .val (.int (2 : Int32))] [(.int (3 : Int32)), (.int (2 : Int32))])
    refine Got.step (T' := T39) (g' := (mkF m 21 #[.val (.ref o0), .val (.ref b31), .val (.int (1 : Int32)), .val (.int (2 : Int32))] [(.int (2 : Int32)), (.ref o0)])) (fun tq kt => ?_) ?_
    · show Steps p.tables e below (T39.setTop (mkF m 12 #[.val (.ref o0), .val (.ref b31), .val (.int (1 : Int32)), .val (.int (2 : Int32))] [(.int (3 : Int32)), (.int (2 : Int32))])) _
      refine XS.icmpNo X39.here hx rfl (hb hby d6_12) rfl (XT.ii_ge_f (by decide)) ?_
      show Steps p.tables e below (T39.setTop (mkF m 15 #[.val (.ref o0), .val (.ref b31), .val (.int (1 : Int32)), .val (.int (2 : Int32))] [])) _
      refine XS.iloadN X39.here hx rfl (hb hby d6_15) rfl ?_
      show Steps p.tables e below (T39.setTop (mkF m 16 #[.val (.ref o0), .val (.ref b31), .val (.int (1 : Int32)), .val (.int (2 : Int32))] [(.int (1 : Int32))])) _
      refine XS.ifNo X39.here hx rfl (hb hby d6_16) rfl (XT.i0_le_f (by decide)) ?_
      show Steps p.tables e below (T39.setTop (mkF m 19 #[.val (.ref o0), .val (.ref b31), .val (.int (1 : Int32)), .val (.int (2 : Int32))] [])) _
      refine XS.aloadN X39.here hx rfl (hb hby d6_19) rfl rfl ?_
      show Steps p.tables e below (T39.setTop (mkF m 20 #[.val (.ref o0), .val (.ref b31), .val (.int (1 : Int32)), .val (.int (2 : Int32))] [(.ref o0)])) _
      refine XS.iloadN X39.here hx rfl (hb hby d6_20) rfl ?_
      exact kt
    obtain ⟨cl44, Ar44, q44, S44, M44, H44, G44⟩ := (id V0_42)
    have hin44 : ¬ ((2 : Int32) < 0 ∨ cl44.slots.size ≤ ((2 : Int32)).toNatClampNeg) := inb_of S44 ⟨by decide, by decide⟩
    refine Got.step (T' := T39) (fun tq kt => X39.iaload hx (j := (2 : Int32)) (v := (.int u2)) (by rw [e39]; exact Ar44.1) (State.isArrayOf_alike hZ.alike Ar44.2.1) Ar44.2.2 hin44 (H44.at hin44 rfl) (g := (mkF m 21 #[.val (.ref o0), .val (.ref b31), .val (.int (1 : Int32)), .val (.int (2 : Int32))] [(.int (2 : Int32)), (.ref o0)])) rfl rfl (hb hby d6_21) tq kt) ?_
    show Got p e below s _ _ _ _ T39 (mkF m 22 #[.val (.ref o0), .val (.ref b31), .val (.int (1 : Int32)), .val (.int (2 : Int32))] [(.int u2)])
    refine Got.step (T' := T39) (g' := (mkF m 24 #[.val (.ref o0), .val (.ref b31), .val (.int (1 : Int32)), .val (.int (2 : Int32))] [(.int (1 : Int32)), (.ref o0), (.int u2)])) (fun tq kt => ?_) ?_
    · show Steps p.tables e below (T39.setTop (mkF m 22 #[.val (.ref o0), .val (.ref b31), .val (.int (1 : Int32)), .val (.int (2 : Int32))] [(.int u2)])) _
      refine XS.aloadN X39.here hx rfl (hb hby d6_22) rfl rfl ?_
      show Steps p.tables e below (T39.setTop (mkF m 23 #[.val (.ref o0), .val (.ref b31), .val (.int (1 : Int32)), .val (.int (2 : Int32))] [(.ref o0), (.int u2)])) _
      refine XS.iloadN X39.here hx rfl (hb hby d6_23) rfl ?_
      exact kt
    obtain ⟨cl45, Ar45, q45, S45, M45, H45, G45⟩ := (id V0_42)
    have hin45 : ¬ ((1 : Int32) < 0 ∨ cl45.slots.size ≤ ((1 : Int32)).toNatClampNeg) := inb_of S45 ⟨by decide, by decide⟩
    refine Got.step (T' := T39) (fun tq kt => X39.iaload hx (j := (1 : Int32)) (v := (.int u1)) (by rw [e39]; exact Ar45.1) (State.isArrayOf_alike hZ.alike Ar45.2.1) Ar45.2.2 hin45 (H45.at hin45 rfl) (g := (mkF m 24 #[.val (.ref o0), .val (.ref b31), .val (.int (1 : Int32)), .val (.int (2 : Int32))] [(.int (1 : Int32)), (.ref o0), (.int u2)])) rfl rfl (hb hby d6_24) tq kt) ?_
    show Got p e below s _ _ _ _ T39 (mkF m 25 #[.val (.ref o0), .val (.ref b31), .val (.int (1 : Int32)), .val (.int (2 : Int32))] [(.int u1), (.int u2)])
    by_cases hc46 : (u2 = u1)
    · refine Got.step (T' := T39) (g' := (mkF m 39 #[.val (.ref o0), .val (.ref b31), .val (.int (1 : Int32)), .val (.int (2 : Int32))] [(.int (2 : Int32)), (.ref o0)])) (fun tq kt => ?_) ?_
      · show Steps p.tables e below (T39.setTop (mkF m 25 #[.val (.ref o0), .val (.ref b31), .val (.int (1 : Int32)), .val (.int (2 : Int32))] [(.int u1), (.int u2)])) _
        refine XS.icmpYes X39.here hx rfl (pc0 := 25) (pc' := 37) rfl (hb hby d6_25) rfl (XT.ii_eq_t hc46) (by decide) (by decide) ?_
        show Steps p.tables e below (T39.setTop (mkF m 37 #[.val (.ref o0), .val (.ref b31), .val (.int (1 : Int32)), .val (.int (2 : Int32))] [])) _
        refine XS.aloadN X39.here hx rfl (hb hby d6_37) rfl rfl ?_
        show Steps p.tables e below (T39.setTop (mkF m 38 #[.val (.ref o0), .val (.ref b31), .val (.int (1 : Int32)), .val (.int (2 : Int32))] [(.ref o0)])) _
        refine XS.iloadN X39.here hx rfl (hb hby d6_38) rfl ?_
        exact kt
      obtain ⟨cl47, Ar47, q47, S47, M47, H47, G47⟩ := (id V0_42)
      have hin47 : ¬ ((2 : Int32) < 0 ∨ cl47.slots.size ≤ ((2 : Int32)).toNatClampNeg) := inb_of S47 ⟨by decide, by decide⟩
      refine Got.step (T' := T39) (fun tq kt => X39.iaload hx (j := (2 : Int32)) (v := (.int u2)) (by rw [e39]; exact Ar47.1) (State.isArrayOf_alike hZ.alike Ar47.2.1) Ar47.2.2 hin47 (H47.at hin47 rfl) (g := (mkF m 39 #[.val (.ref o0), .val (.ref b31), .val (.int (1 : Int32)), .val (.int (2 : Int32))] [(.int (2 : Int32)), (.ref o0)])) rfl rfl (hb hby d6_39) tq kt) ?_
      show Got p e below s _ _ _ _ T39 (mkF m 40 #[.val (.ref o0), .val (.ref b31), .val (.int (1 : Int32)), .val (.int (2 : Int32))] [(.int u2)])
      refine Got.step (T' := T39) (g' := (mkF m 42 #[.val (.ref o0), .val (.ref b31), .val (.int (1 : Int32)), .val (.int (2 : Int32))] [(.int (1 : Int32)), (.ref o0), (.int u2)])) (fun tq kt => ?_) ?_
      · show Steps p.tables e below (T39.setTop (mkF m 40 #[.val (.ref o0), .val (.ref b31), .val (.int (1 : Int32)), .val (.int (2 : Int32))] [(.int u2)])) _
        refine XS.aloadN X39.here hx rfl (hb hby d6_40) rfl rfl ?_
        show Steps p.tables e below (T39.setTop (mkF m 41 #[.val (.ref o0), .val (.ref b31), .val (.int (1 : Int32)), .val (.int (2 : Int32))] [(.ref o0), (.int u2)])) _
        refine XS.iloadN X39.here hx rfl (hb hby d6_41) rfl ?_
        exact kt
      obtain ⟨cl48, Ar48, q48, S48, M48, H48, G48⟩ := (id V0_42)
      have hin48 : ¬ ((1 : Int32) < 0 ∨ cl48.slots.size ≤ ((1 : Int32)).toNatClampNeg) := inb_of S48 ⟨by decide, by decide⟩
      refine Got.step (T' := T39) (fun tq kt => X39.iaload hx (j := (1 : Int32)) (v := (.int u1)) (by rw [e39]; exact Ar48.1) (State.isArrayOf_alike hZ.alike Ar48.2.1) Ar48.2.2 hin48 (H48.at hin48 rfl) (g := (mkF m 42 #[.val (.ref o0), .val (.ref b31), .val (.int (1 : Int32)), .val (.int (2 : Int32))] [(.int (1 : Int32)), (.ref o0), (.int u2)])) rfl rfl (hb hby d6_42) tq kt) ?_
      show Got p e below s _ _ _ _ T39 (mkF m 43 #[.val (.ref o0), .val (.ref b31), .val (.int (1 : Int32)), .val (.int (2 : Int32))] [(.int u1), (.int u2)])
      by_cases hc49 : (u2 = u1)
      · refine Got.step (T' := T39) (g' := (mkF m 52 #[.val (.ref o0), .val (.ref b31), .val (.int (2 : Int32)), .val (.int (2 : Int32))] [(.int (2 : Int32)), (.int (2 : Int32)), (.ref b31)])) (fun tq kt => ?_) ?_
        · show Steps p.tables e below (T39.setTop (mkF m 43 #[.val (.ref o0), .val (.ref b31), .val (.int (1 : Int32)), .val (.int (2 : Int32))] [(.int u1), (.int u2)])) _
          refine XS.icmpNo X39.here hx rfl (hb hby d6_43) rfl (XT.ii_ne_f hc49) ?_
          show Steps p.tables e below (T39.setTop (mkF m 46 #[.val (.ref o0), .val (.ref b31), .val (.int (1 : Int32)), .val (.int (2 : Int32))] [])) _
          refine XS.iinc X39.here hx rfl (hb hby d6_46) rfl (l' := #[.val (.ref o0), .val (.ref b31), .val (.int ((1 : Int32) + (1 : Int32))), .val (.int (2 : Int32))]) rfl ?_
          show Steps p.tables e below (T39.setTop (mkF m 49 #[.val (.ref o0), .val (.ref b31), .val (.int (2 : Int32)), .val (.int (2 : Int32))] [])) _
          refine XS.aloadN X39.here hx rfl (hb hby d6_49) rfl rfl ?_
          show Steps p.tables e below (T39.setTop (mkF m 50 #[.val (.ref o0), .val (.ref b31), .val (.int (2 : Int32)), .val (.int (2 : Int32))] [(.ref b31)])) _
          refine XS.iloadN X39.here hx rfl (hb hby d6_50) rfl ?_
          show Steps p.tables e below (T39.setTop (mkF m 51 #[.val (.ref o0), .val (.ref b31), .val (.int (2 : Int32)), .val (.int (2 : Int32))] [(.int (2 : Int32)), (.ref b31)])) _
          refine XS.iloadN X39.here hx rfl (hb hby d6_51) rfl ?_
          exact kt
        obtain ⟨cl50, Ar50, q50, S50, M50, H50, G50⟩ := (id V39)
        have hin50 : ¬ ((2 : Int32) < 0 ∨ cl50.slots.size ≤ ((2 : Int32)).toNatClampNeg) := inb_of S50 ⟨by decide, by decide⟩
        obtain ⟨T50, h50, X50, e50, W50, st50⟩ := stI X39 hx hZ e39 Ar50 (j := (2 : Int32)) hin50 (g := (mkF m 52 #[.val (.ref o0), .val (.ref b31), .val (.int (2 : Int32)), .val (.int (2 : Int32))] [(.int (2 : Int32)), (.int (2 : Int32)), (.ref b31)])) rfl rfl (hb hby d6_52)
        have Z0_51 : n0 ≤ h50.size := (Nat.le_trans Z0_40 (Keep.of_wr W50).1)
        have K0_52 : Keep h0 h50 [] := (K0_41.wr W50 (Or.inr sz_b31))
        have V0_53 : Arv Z h50 o0 ku .int (3 : Int32) [(.int u0), (.int u1), (.int u2), (.int u3)] (.int (0 : Int32)) := (V0_42.other W50 ne_o0_b31)
        have V50 : Arv Z h50 b31 k31 .int (3 : Int32) [(.int (0 : Int32)), (.int (1 : Int32)), (.int (2 : Int32)), (.int (0 : Int32))] (.int (0 : Int32)) := Arv.set Ar50 q50 S50 M50 H50 G50 rfl W50 2 rfl (Nat.le_of_ble_eq_true rfl)
        have N50 := Fr.snoc X50 N39 gn_b31
        refine Got.step st50 ?_
        show Got p e below s _ _ _ _ T50 (mkF m 53 #[.val (.ref o0), .val (.ref b31), .val (.int (2 : Int32)), .val (.int (2 : Int32))] [])
        refine Got.step (T' := T50) (g' := (mkF m 11 #[.val (.ref o0), .val (.ref b31), .val (.int (2 : Int32)), .val (.int (3 : Int32))] [(.ref o0), (.int (3 : Int32))])) (fun tq kt => ?_) ?_
        · show Steps p.tables e below (T50.setTop (mkF m 53 #[.val (.ref o0), .val (.ref b31), .val (.int (2 : Int32)), .val (.int (2 : Int32))] [])) _
          refine XS.iinc X50.here hx rfl (hb hby d6_53) rfl (l' := #[.val (.ref o0), .val (.ref b31), .val (.int (2 : Int32)), .val (.int ((2 : Int32) + (1 : Int32)))]) rfl ?_
          show Steps p.tables e below (T50.setTop (mkF m 56 #[.val (.ref o0), .val (.ref b31), .val (.int (2 : Int32)), .val (.int (3 : Int32))] [])) _
          refine XS.goto X50.here hx rfl (pc0 := 56) (pc' := 9) rfl (hb hby d6_56) (by decide) (by decide) ?_
          show Steps p.tables e below (T50.setTop (mkF m 9 #[.val (.ref o0), .val (.ref b31), .val (.int (2 : Int32)), .val (.int (3 : Int32))] [])) _
          refine XS.iloadN X50.here hx rfl (hb hby d6_9) rfl ?_
          show Steps p.tables e below (T50.setTop (mkF m 10 #[.val (.ref o0), .val (.ref b31), .val (.int (2 : Int32)), .val (.int (3 : Int32))] [(.int (3 : Int32))])) _
          refine XS.aloadN X50.here hx rfl (hb hby d6_10) rfl rfl ?_
          exact kt
        obtain ⟨cl54, Ar54, q54, S54, M54, H54, G54⟩ := (id V0_53)
        refine Got.step (T' := T50) (fun tq kt => X50.arraylength hx (cell := cl54) (by rw [e50]; exact Ar54.1) (State.isArrayOf_alike hZ.alike Ar54.2.1) (g := (mkF m 11 #[.val (.ref o0), .val (.ref b31), .val (.int (2 : Int32)), .val (.int (3 : Int32))] [(.ref o0), (.int (3 : Int32))])) rfl (rest := [(.int (3 : Int32))]) rfl (hb hby d6_11) tq kt) ?_
        rw [len_of S54 M54]
        show Got p e below s _ _ _ _ T50 (mkF m 12 #[.val (.ref o0), .val (.ref b31), .val (.int (2 : Int32)), .val (.int (3 : Int32))] [(.int (3 : Int32)), (.int (3 : Int32))])
        refine Got.step (T' := T50) (g' := (mkF m 60 #[.val (.ref o0), .val (.ref b31), .val (.int (2 : Int32)), .val (.int (3 : Int32))] [(.ref b31)])) (fun tq kt => ?_) ?_
        · show Steps p.tables e below (T50.setTop (mkF m 12 #[.val (.ref o0), .val (.ref b31), .val (.int (2 : Int32)), .val (.int (3 : Int32))] [(.int (3 : Int32)), (.int (3 : Int32))])) _
          refine XS.icmpYes X50.here hx rfl (pc0 := 12) (pc' := 59) rfl (hb hby d6_12) rfl (XT.ii_ge_t Int32.lt_irrefl) (by decide) (by decide) ?_
          show Steps p.tables e below (T50.setTop (mkF m 59 #[.val (.ref o0), .val (.ref b31), .val (.int (2 : Int32)), .val (.int (3 : Int32))] [])) _
          refine XS.aloadN X50.here hx rfl (hb hby d6_59) rfl rfl ?_
          exact kt
        rw [← g31]
        exact Got.retA X50 hx Bd.returns rfl hlk (hb hby d6_60) rfl ⟨N50, by rw [e50]; exact K0_52, k31, by rw [e50]; unfold ptab3; rw [((if_pos hc38).trans ((if_pos hc46).trans (if_pos hc49)))]; exact V50⟩ (by decide) (by decide)
      · refine Got.step (T' := T39) (g' := (mkF m 52 #[.val (.ref o0), .val (.ref b31), .val (.int (1 : Int32)), .val (.int (2 : Int32))] [(.int (1 : Int32)), (.int (2 : Int32)), (.ref b31)])) (fun tq kt => ?_) ?_
        · show Steps p.tables e below (T39.setTop (mkF m 43 #[.val (.ref o0), .val (.ref b31), .val (.int (1 : Int32)), .val (.int (2 : Int32))] [(.int u1), (.int u2)])) _
          refine XS.icmpYes X39.here hx rfl (pc0 := 43) (pc' := 49) rfl (hb hby d6_43) rfl (XT.ii_ne_t hc49) (by decide) (by decide) ?_
          show Steps p.tables e below (T39.setTop (mkF m 49 #[.val (.ref o0), .val (.ref b31), .val (.int (1 : Int32)), .val (.int (2 : Int32))] [])) _
          refine XS.aloadN X39.here hx rfl (hb hby d6_49) rfl rfl ?_
          show Steps p.tables e below (T39.setTop (mkF m 50 #[.val (.ref o0), .val (.ref b31), .val (.int (1 : Int32)), .val (.int (2 : Int32))] [(.ref b31)])) _
          refine XS.iloadN X39.here hx rfl (hb hby d6_50) rfl ?_
          show Steps p.tables e below (T39.setTop (mkF m 51 #[.val (.ref o0), .val (.ref b31), .val (.int (1 : Int32)), .val (.int (2 : Int32))] [(.int (2 : Int32)), (.ref b31)])) _
          refine XS.iloadN X39.here hx rfl (hb hby d6_51) rfl ?_
          exact kt
        obtain ⟨cl55, Ar55, q55, S55, M55, H55, G55⟩ := (id V39)
        have hin55 : ¬ ((2 : Int32) < 0 ∨ cl55.slots.size ≤ ((2 : Int32)).toNatClampNeg) := inb_of S55 ⟨by decide, by decide⟩
        obtain ⟨T55, h55, X55, e55, W55, st55⟩ := stI X39 hx hZ e39 Ar55 (j := (2 : Int32)) hin55 (g := (mkF m 52 #[.val (.ref o0), .val (.ref b31), .val (.int (1 : Int32)), .val (.int (2 : Int32))] [(.int (1 : Int32)), (.int (2 : Int32)), (.ref b31)])) rfl rfl (hb hby d6_52)
        have Z0_56 : n0 ≤ h55.size := (Nat.le_trans Z0_40 (Keep.of_wr W55).1)
        have K0_57 : Keep h0 h55 [] := (K0_41.wr W55 (Or.inr sz_b31))
        have V0_58 : Arv Z h55 o0 ku .int (3 : Int32) [(.int u0), (.int u1), (.int u2), (.int u3)] (.int (0 : Int32)) := (V0_42.other W55 ne_o0_b31)
        have V55 : Arv Z h55 b31 k31 .int (3 : Int32) [(.int (0 : Int32)), (.int (1 : Int32)), (.int (1 : Int32)), (.int (0 : Int32))] (.int (0 : Int32)) := Arv.set Ar55 q55 S55 M55 H55 G55 rfl W55 2 rfl (Nat.le_of_ble_eq_true rfl)
        have N55 := Fr.snoc X55 N39 gn_b31
        refine Got.step st55 ?_
        show Got p e below s _ _ _ _ T55 (mkF m 53 #[.val (.ref o0), .val (.ref b31), .val (.int (1 : Int32)), .val (.int (2 : Int32))] [])
        refine Got.step (T' := T55) (g' := (mkF m 11 #[.val (.ref o0), .val (.ref b31), .val (.int (1 : Int32)), .val (.int (3 : Int32))] [(.ref o0), (.int (3 : Int32))])) (fun tq kt => ?_) ?_
        · show Steps p.tables e below (T55.setTop (mkF m 53 #[.val (.ref o0), .val (.ref b31), .val (.int (1 : Int32)), .val (.int (2 : Int32))] [])) _
          refine XS.iinc X55.here hx rfl (hb hby d6_53) rfl (l' := #[.val (.ref o0), .val (.ref b31), .val (.int (1 : Int32)), .val (.int ((2 : Int32) + (1 : Int32)))]) rfl ?_
          show Steps p.tables e below (T55.setTop (mkF m 56 #[.val (.ref o0), .val (.ref b31), .val (.int (1 : Int32)), .val (.int (3 : Int32))] [])) _
          refine XS.goto X55.here hx rfl (pc0 := 56) (pc' := 9) rfl (hb hby d6_56) (by decide) (by decide) ?_
          show Steps p.tables e below (T55.setTop (mkF m 9 #[.val (.ref o0), .val (.ref b31), .val (.int (1 : Int32)), .val (.int (3 : Int32))] [])) _
          refine XS.iloadN X55.here hx rfl (hb hby d6_9) rfl ?_
          show Steps p.tables e below (T55.setTop (mkF m 10 #[.val (.ref o0), .val (.ref b31), .val (.int (1 : Int32)), .val (.int (3 : Int32))] [(.int (3 : Int32))])) _
          refine XS.aloadN X55.here hx rfl (hb hby d6_10) rfl rfl ?_
          exact kt
        obtain ⟨cl59, Ar59, q59, S59, M59, H59, G59⟩ := (id V0_58)
        refine Got.step (T' := T55) (fun tq kt => X55.arraylength hx (cell := cl59) (by rw [e55]; exact Ar59.1) (State.isArrayOf_alike hZ.alike Ar59.2.1) (g := (mkF m 11 #[.val (.ref o0), .val (.ref b31), .val (.int (1 : Int32)), .val (.int (3 : Int32))] [(.ref o0), (.int (3 : Int32))])) rfl (rest := [(.int (3 : Int32))]) rfl (hb hby d6_11) tq kt) ?_
        rw [len_of S59 M59]
        show Got p e below s _ _ _ _ T55 (mkF m 12 #[.val (.ref o0), .val (.ref b31), .val (.int (1 : Int32)), .val (.int (3 : Int32))] [(.int (3 : Int32)), (.int (3 : Int32))])
        refine Got.step (T' := T55) (g' := (mkF m 60 #[.val (.ref o0), .val (.ref b31), .val (.int (1 : Int32)), .val (.int (3 : Int32))] [(.ref b31)])) (fun tq kt => ?_) ?_
        · show Steps p.tables e below (T55.setTop (mkF m 12 #[.val (.ref o0), .val (.ref b31), .val (.int (1 : Int32)), .val (.int (3 : Int32))] [(.int (3 : Int32)), (.int (3 : Int32))])) _
          refine XS.icmpYes X55.here hx rfl (pc0 := 12) (pc' := 59) rfl (hb hby d6_12) rfl (XT.ii_ge_t Int32.lt_irrefl) (by decide) (by decide) ?_
          show Steps p.tables e below (T55.setTop (mkF m 59 #[.val (.ref o0), .val (.ref b31), .val (.int (1 : Int32)), .val (.int (3 : Int32))] [])) _
          refine XS.aloadN X55.here hx rfl (hb hby d6_59) rfl rfl ?_
          exact kt
        rw [← g31]
        exact Got.retA X55 hx Bd.returns rfl hlk (hb hby d6_60) rfl ⟨N55, by rw [e55]; exact K0_57, k31, by rw [e55]; unfold ptab3; rw [((if_pos hc38).trans ((if_pos hc46).trans (if_neg hc49)))]; exact V55⟩ (by decide) (by decide)
    · refine Got.step (T' := T39) (g' := (mkF m 32 #[.val (.ref o0), .val (.ref b31), .val (.int (1 : Int32)), .val (.int (2 : Int32))] [(.int (0 : Int32)), (.ref b31)])) (fun tq kt => ?_) ?_
      · show Steps p.tables e below (T39.setTop (mkF m 25 #[.val (.ref o0), .val (.ref b31), .val (.int (1 : Int32)), .val (.int (2 : Int32))] [(.int u1), (.int u2)])) _
        refine XS.icmpNo X39.here hx rfl (hb hby d6_25) rfl (XT.ii_eq_f hc46) ?_
        show Steps p.tables e below (T39.setTop (mkF m 28 #[.val (.ref o0), .val (.ref b31), .val (.int (1 : Int32)), .val (.int (2 : Int32))] [])) _
        refine XS.aloadN X39.here hx rfl (hb hby d6_28) rfl rfl ?_
        show Steps p.tables e below (T39.setTop (mkF m 29 #[.val (.ref o0), .val (.ref b31), .val (.int (1 : Int32)), .val (.int (2 : Int32))] [(.ref b31)])) _
        refine XS.iloadN X39.here hx rfl (hb hby d6_29) rfl ?_
        show Steps p.tables e below (T39.setTop (mkF m 30 #[.val (.ref o0), .val (.ref b31), .val (.int (1 : Int32)), .val (.int (2 : Int32))] [(.int (1 : Int32)), (.ref b31)])) _
        refine XS.iconst X39.here hx rfl (hb hby d6_30) ?_
        show Steps p.tables e below (T39.setTop (mkF m 31 #[.val (.ref o0), .val (.ref b31), .val (.int (1 : Int32)), .val (.int (2 : Int32))] [(.int (1 : Int32)), (.int (1 : Int32)), (.ref b31)])) _
        refine XS.isub X39.here hx rfl (hb hby d6_31) rfl ?_
        exact kt
      obtain ⟨cl60, Ar60, q60, S60, M60, H60, G60⟩ := (id V39)
      have hin60 : ¬ ((0 : Int32) < 0 ∨ cl60.slots.size ≤ ((0 : Int32)).toNatClampNeg) := inb_of S60 ⟨by decide, by decide⟩
      refine Got.step (T' := T39) (fun tq kt => X39.iaload hx (j := (0 : Int32)) (v := (.int (0 : Int32))) (by rw [e39]; exact Ar60.1) (State.isArrayOf_alike hZ.alike Ar60.2.1) Ar60.2.2 hin60 (H60.at hin60 rfl) (g := (mkF m 32 #[.val (.ref o0), .val (.ref b31), .val (.int (1 : Int32)), .val (.int (2 : Int32))] [(.int (0 : Int32)), (.ref b31)])) rfl rfl (hb hby d6_32) tq kt) ?_
      show Got p e below s _ _ _ _ T39 (mkF m 33 #[.val (.ref o0), .val (.ref b31), .val (.int (1 : Int32)), .val (.int (2 : Int32))] [(.int (0 : Int32))])
      refine Got.step (T' := T39) (g' := (mkF m 39 #[.val (.ref o0), .val (.ref b31), .val (.int (0 : Int32)), .val (.int (2 : Int32))] [(.int (2 : Int32)), (.ref o0)])) (fun tq kt => ?_) ?_
      · show Steps p.tables e below (T39.setTop (mkF m 33 #[.val (.ref o0), .val (.ref b31), .val (.int (1 : Int32)), .val (.int (2 : Int32))] [(.int (0 : Int32))])) _
        refine XS.istoreN X39.here hx rfl (hb hby d6_33) rfl (l' := #[.val (.ref o0), .val (.ref b31), .val (.int (0 : Int32)), .val (.int (2 : Int32))]) rfl ?_
        show Steps p.tables e below (T39.setTop (mkF m 34 #[.val (.ref o0), .val (.ref b31), .val (.int (0 : Int32)), .val (.int (2 : Int32))] [])) _
        refine XS.goto X39.here hx rfl (pc0 := 34) (pc' := 15) rfl (hb hby d6_34) (by decide) (by decide) ?_
        show Steps p.tables e below (T39.setTop (mkF m 15 #[.val (.ref o0), .val (.ref b31), .val (.int (0 : Int32)), .val (.int (2 : Int32))] [])) _
        refine XS.iloadN X39.here hx rfl (hb hby d6_15) rfl ?_
        show Steps p.tables e below (T39.setTop (mkF m 16 #[.val (.ref o0), .val (.ref b31), .val (.int (0 : Int32)), .val (.int (2 : Int32))] [(.int (0 : Int32))])) _
        refine XS.ifYes X39.here hx rfl (pc0 := 16) (pc' := 37) rfl (hb hby d6_16) rfl (XT.i0_le_t (by decide)) (by decide) (by decide) ?_
        show Steps p.tables e below (T39.setTop (mkF m 37 #[.val (.ref o0), .val (.ref b31), .val (.int (0 : Int32)), .val (.int (2 : Int32))] [])) _
        refine XS.aloadN X39.here hx rfl (hb hby d6_37) rfl rfl ?_
        show Steps p.tables e below (T39.setTop (mkF m 38 #[.val (.ref o0), .val (.ref b31), .val (.int (0 : Int32)), .val (.int (2 : Int32))] [(.ref o0)])) _
        refine XS.iloadN X39.here hx rfl (hb hby d6_38) rfl ?_
        exact kt
      obtain ⟨cl61, Ar61, q61, S61, M61, H61, G61⟩ := (id V0_42)
      have hin61 : ¬ ((2 : Int32) < 0 ∨ cl61.slots.size ≤ ((2 : Int32)).toNatClampNeg) := inb_of S61 ⟨by decide, by decide⟩
      refine Got.step (T' := T39) (fun tq kt => X39.iaload hx (j := (2 : Int32)) (v := (.int u2)) (by rw [e39]; exact Ar61.1) (State.isArrayOf_alike hZ.alike Ar61.2.1) Ar61.2.2 hin61 (H61.at hin61 rfl) (g := (mkF m 39 #[.val (.ref o0), .val (.ref b31), .val (.int (0 : Int32)), .val (.int (2 : Int32))] [(.int (2 : Int32)), (.ref o0)])) rfl rfl (hb hby d6_39) tq kt) ?_
      show Got p e below s _ _ _ _ T39 (mkF m 40 #[.val (.ref o0), .val (.ref b31), .val (.int (0 : Int32)), .val (.int (2 : Int32))] [(.int u2)])
      refine Got.step (T' := T39) (g' := (mkF m 42 #[.val (.ref o0), .val (.ref b31), .val (.int (0 : Int32)), .val (.int (2 : Int32))] [(.int (0 : Int32)), (.ref o0), (.int u2)])) (fun tq kt => ?_) ?_
      · show Steps p.tables e below (T39.setTop (mkF m 40 #[.val (.ref o0), .val (.ref b31), .val (.int (0 : Int32)), .val (.int (2 : Int32))] [(.int u2)])) _
        refine XS.aloadN X39.here hx rfl (hb hby d6_40) rfl rfl ?_
        show Steps p.tables e below (T39.setTop (mkF m 41 #[.val (.ref o0), .val (.ref b31), .val (.int (0 : Int32)), .val (.int (2 : Int32))] [(.ref o0), (.int u2)])) _
        refine XS.iloadN X39.here hx rfl (hb hby d6_41) rfl ?_
        exact kt
      obtain ⟨cl62, Ar62, q62, S62, M62, H62, G62⟩ := (id V0_42)
      have hin62 : ¬ ((0 : Int32) < 0 ∨ cl62.slots.size ≤ ((0 : Int32)).toNatClampNeg) := inb_of S62 ⟨by decide, by decide⟩
      refine Got.step (T' := T39) (fun tq kt => X39.iaload hx (j := (0 : Int32)) (v := (.int u0)) (by rw [e39]; exact Ar62.1) (State.isArrayOf_alike hZ.alike Ar62.2.1) Ar62.2.2 hin62 (H62.at hin62 rfl) (g := (mkF m 42 #[.val (.ref o0), .val (.ref b31), .val (.int (0 : Int32)), .val (.int (2 : Int32))] [(.int (0 : Int32)), (.ref o0), (.int u2)])) rfl rfl (hb hby d6_42) tq kt) ?_
      show Got p e below s _ _ _ _ T39 (mkF m 43 #[.val (.ref o0), .val (.ref b31), .val (.int (0 : Int32)), .val (.int (2 : Int32))] [(.int u0), (.int u2)])
      by_cases hc63 : (u2 = u0)
      · refine Got.step (T' := T39) (g' := (mkF m 52 #[.val (.ref o0), .val (.ref b31), .val (.int (1 : Int32)), .val (.int (2 : Int32))] [(.int (1 : Int32)), (.int (2 : Int32)), (.ref b31)])) (fun tq kt => ?_) ?_
        · show Steps p.tables e below (T39.setTop (mkF m 43 #[.val (.ref o0), .val (.ref b31), .val (.int (0 : Int32)), .val (.int (2 : Int32))] [(.int u0), (.int u2)])) _
          refine XS.icmpNo X39.here hx rfl (hb hby d6_43) rfl (XT.ii_ne_f hc63) ?_
          show Steps p.tables e below (T39.setTop (mkF m 46 #[.val (.ref o0), .val (.ref b31), .val (.int (0 : Int32)), .val (.int (2 : Int32))] [])) _
          refine XS.iinc X39.here hx rfl (hb hby d6_46) rfl (l' := #[.val (.ref o0), .val (.ref b31), .val (.int ((0 : Int32) + (1 : Int32))), .val (.int (2 : Int32))]) rfl ?_
          show Steps p.tables e below (T39.setTop (mkF m 49 #[.val (.ref o0), .val (.ref b31), .val (.int (1 : Int32)), .val (.int (2 : Int32))] [])) _
          refine XS.aloadN X39.here hx rfl (hb hby d6_49) rfl rfl ?_
          show Steps p.tables e below (T39.setTop (mkF m 50 #[.val (.ref o0), .val (.ref b31), .val (.int (1 : Int32)), .val (.int (2 : Int32))] [(.ref b31)])) _
          refine XS.iloadN X39.here hx rfl (hb hby d6_50) rfl ?_
          show Steps p.tables e below (T39.setTop (mkF m 51 #[.val (.ref o0), .val (.ref b31), .val (.int (1 : Int32)), .val (.int (2 : Int32))] [(.int (2 : Int32)), (.ref b31)])) _
          refine XS.iloadN X39.here hx rfl (hb hby d6_51) rfl ?_
          exact kt
        obtain ⟨cl64, Ar64, q64, S64, M64, H64, G64⟩ := (id V39)
        have hin64 : ¬ ((2 : Int32) < 0 ∨ cl64.slots.size ≤ ((2 : Int32)).toNatClampNeg) := inb_of S64 ⟨by decide, by decide⟩
        obtain ⟨T64, h64, X64, e64, W64, st64⟩ := stI X39 hx hZ e39 Ar64 (j := (2 : Int32)) hin64 (g := (mkF m 52 #[.val (.ref o0), .val (.ref b31), .val (.int (1 : Int32)), .val (.int (2 : Int32))] [(.int (1 : Int32)), (.int (2 : Int32)), (.ref b31)])) rfl rfl (hb hby d6_52)
        have Z0_65 : n0 ≤ h64.size := (Nat.le_trans Z0_40 (Keep.of_wr W64).1)
        have K0_66 : Keep h0 h64 [] := (K0_41.wr W64 (Or.inr sz_b31))
        have V0_67 : Arv Z h64 o0 ku .int (3 : Int32) [(.int u0), (.int u1), (.int u2), (.int u3)] (.int (0 : Int32)) := (V0_42.other W64 ne_o0_b31)
        have V64 : Arv Z h64 b31 k31 .int (3 : Int32) [(.int (0 : Int32)), (.int (1 : Int32)), (.int (1 : Int32)), (.int (0 : Int32))] (.int (0 : Int32)) := Arv.set Ar64 q64 S64 M64 H64 G64 rfl W64 2 rfl (Nat.le_of_ble_eq_true rfl)
        have N64 := Fr.snoc X64 N39 gn_b31
        refine Got.step st64 ?_
        show Got p e below s _ _ _ _ T64 (mkF m 53 #[.val (.ref o0), .val (.ref b31), .val (.int (1 : Int32)), .val (.int (2 : Int32))] [])
        refine Got.step (T' := T64) (g' := (mkF m 11 #[.val (.ref o0), .val (.ref b31), .val (.int (1 : Int32)), .val (.int (3 : Int32))] [(.ref o0), (.int (3 : Int32))])) (fun tq kt => ?_) ?_
        · show Steps p.tables e below (T64.setTop (mkF m 53 #[.val (.ref o0), .val (.ref b31), .val (.int (1 : Int32)), .val (.int (2 : Int32))] [])) _
          refine XS.iinc X64.here hx rfl (hb hby d6_53) rfl (l' := #[.val (.ref o0), .val (.ref b31), .val (.int (1 : Int32)), .val (.int ((2 : Int32) + (1 : Int32)))]) rfl ?_
          show Steps p.tables e below (T64.setTop (mkF m 56 #[.val (.ref o0), .val (.ref b31), .val (.int (1 : Int32)), .val (.int (3 : Int32))] [])) _
          refine XS.goto X64.here hx rfl (pc0 := 56) (pc' := 9) rfl (hb hby d6_56) (by decide) (by decide) ?_
          show Steps p.tables e below (T64.setTop (mkF m 9 #[.val (.ref o0), .val (.ref b31), .val (.int (1 : Int32)), .val (.int (3 : Int32))] [])) _
          refine XS.iloadN X64.here hx rfl (hb hby d6_9) rfl ?_
          show Steps p.tables e below (T64.setTop (mkF m 10 #[.val (.ref o0), .val (.ref b31), .val (.int (1 : Int32)), .val (.int (3 : Int32))] [(.int (3 : Int32))])) _
          refine XS.aloadN X64.here hx rfl (hb hby d6_10) rfl rfl ?_
          exact kt
        obtain ⟨cl68, Ar68, q68, S68, M68, H68, G68⟩ := (id V0_67)
        refine Got.step (T' := T64) (fun tq kt => X64.arraylength hx (cell := cl68) (by rw [e64]; exact Ar68.1) (State.isArrayOf_alike hZ.alike Ar68.2.1) (g := (mkF m 11 #[.val (.ref o0), .val (.ref b31), .val (.int (1 : Int32)), .val (.int (3 : Int32))] [(.ref o0), (.int (3 : Int32))])) rfl (rest := [(.int (3 : Int32))]) rfl (hb hby d6_11) tq kt) ?_
        rw [len_of S68 M68]
        show Got p e below s _ _ _ _ T64 (mkF m 12 #[.val (.ref o0), .val (.ref b31), .val (.int (1 : Int32)), .val (.int (3 : Int32))] [(.int (3 : Int32)), (.int (3 : Int32))])
        refine Got.step (T' := T64) (g' := (mkF m 60 #[.val (.ref o0), .val (.ref b31), .val (.int (1 : Int32)), .val (.int (3 : Int32))] [(.ref b31)])) (fun tq kt => ?_) ?_
        · show Steps p.tables e below (T64.setTop (mkF m 12 #[.val (.ref o0), .val (.ref b31), .val (.int (1 : Int32)), .val (.int (3 : Int32))] [(.int (3 : Int32)), (.int (3 : Int32))])) _
          refine XS.icmpYes X64.here hx rfl (pc0 := 12) (pc' := 59) rfl (hb hby d6_12) rfl (XT.ii_ge_t Int32.lt_irrefl) (by decide) (by decide) ?_
          show Steps p.tables e below (T64.setTop (mkF m 59 #[.val (.ref o0), .val (.ref b31), .val (.int (1 : Int32)), .val (.int (3 : Int32))] [])) _
          refine XS.aloadN X64.here hx rfl (hb hby d6_59) rfl rfl ?_
          exact kt
        rw [← g31]
        exact Got.retA X64 hx Bd.returns rfl hlk (hb hby d6_60) rfl ⟨N64, by rw [e64]; exact K0_66, k31, by rw [e64]; unfold ptab3; rw [((if_pos hc38).trans ((if_neg hc46).trans (if_pos hc63)))]; exact V64⟩ (by decide) (by decide)
      · refine Got.step (T' := T39) (g' := (mkF m 52 #[.val (.ref o0), .val (.ref b31), .val (.int (0 : Int32)), .val (.int (2 : Int32))] [(.int (0 : Int32)), (.int (2 : Int32)), (.ref b31)])) (fun tq kt => ?_) ?_
        · show Steps p.tables e below (T39.setTop (mkF m 43 #[.val (.ref o0), .val (.ref b31), .val (.int (0 : Int32)), .val (.int (2 : Int32))] [(.int u0), (.int u2)])) _
          refine XS.icmpYes X39.here hx rfl (pc0 := 43) (pc' := 49) rfl (hb hby d6_43) rfl (XT.ii_ne_t hc63) (by decide) (by decide) ?_
          show Steps p.tables e below (T39.setTop (mkF m 49 #[.val (.ref o0), .val (.ref b31), .val (.int (0 : Int32)), .val (.int (2 : Int32))] [])) _
          refine XS.aloadN X39.here hx rfl (hb hby d6_49) rfl rfl ?_
          show Steps p.tables e below (T39.setTop (mkF m 50 #[.val (.ref o0), .val (.ref b31), .val (.int (0 : Int32)), .val (.int (2 : Int32))] [(.ref b31)])) _
          refine XS.iloadN X39.here hx rfl (hb hby d6_50) rfl ?_
          show Steps p.tables e below (T39.setTop (mkF m 51 #[.val (.ref o0), .val (.ref b31), .val (.int (0 : Int32)), .val (.int (2 : Int32))] [(.int (2 : Int32)), (.ref b31)])) _
          refine XS.iloadN X39.here hx rfl (hb hby d6_51) rfl ?_
          exact kt
        obtain ⟨cl69, Ar69, q69, S69, M69, H69, G69⟩ := (id V39)
        have hin69 : ¬ ((2 : Int32) < 0 ∨ cl69.slots.size ≤ ((2 : Int32)).toNatClampNeg) := inb_of S69 ⟨by decide, by decide⟩
        obtain ⟨T69, h69, X69, e69, W69, st69⟩ := stI X39 hx hZ e39 Ar69 (j := (2 : Int32)) hin69 (g := (mkF m 52 #[.val (.ref o0), .val (.ref b31), .val (.int (0 : Int32)), .val (.int (2 : Int32))] [(.int (0 : Int32)), (.int (2 : Int32)), (.ref b31)])) rfl rfl (hb hby d6_52)
        have Z0_70 : n0 ≤ h69.size := (Nat.le_trans Z0_40 (Keep.of_wr W69).1)
        have K0_71 : Keep h0 h69 [] := (K0_41.wr W69 (Or.inr sz_b31))
        have V0_72 : Arv Z h69 o0 ku .int (3 : Int32) [(.int u0), (.int u1), (.int u2), (.int u3)] (.int (0 : Int32)) := (V0_42.other W69 ne_o0_b31)
        have V69 : Arv Z h69 b31 k31 .int (3 : Int32) [(.int (0 : Int32)), (.int (1 : Int32)), (.int (0 : Int32)), (.int (0 : Int32))] (.int (0 : Int32)) := Arv.set Ar69 q69 S69 M69 H69 G69 rfl W69 2 rfl (Nat.le_of_ble_eq_true rfl)
        have N69 := Fr.snoc X69 N39 gn_b31
        refine Got.step st69 ?_
        show Got p e below s _ _ _ _ T69 (mkF m 53 #[.val (.ref o0), .val (.ref b31), .val (.int (0 : Int32)), .val (.int (2 : Int32))] [])
        refine Got.step (T' := T69) (g' := (mkF m 11 #[.val (.ref o0), .val (.ref b31), .val (.int (0 : Int32)), .val (.int (3 : Int32))] [(.ref o0), (.int (3 : Int32))])) (fun tq kt => ?_) ?_
        · show Steps p.tables e below (T69.setTop (mkF m 53 #[.val (.ref o0), .val (.ref b31), .val (.int (0 : Int32)), .val (.int (2 : Int32))] [])) _
          refine XS.iinc X69.here hx rfl (hb hby d6_53) rfl (l' := #[.val (.ref o0), .val (.ref b31), .val (.int (0 : Int32)), .val (.int ((2 : Int32) + (1 : Int32)))]) rfl ?_
          show Steps p.tables e below (T69.setTop (mkF m 56 #[.val (.ref o0), .val (.ref b31), .val (.int (0 : Int32)), .val (.int (3 : Int32))] [])) _
          refine XS.goto X69.here hx rfl (pc0 := 56) (pc' := 9) rfl (hb hby d6_56) (by decide) (by decide) ?_
          show Steps p.tables e below (T69.setTop (mkF m 9 #[.val (.ref o0), .val (.ref b31), .val (.int (0 : Int32)), .val (.int (3 : Int32))] [])) _
          refine XS.iloadN X69.here hx rfl (hb hby d6_9) rfl ?_
          show Steps p.tables e below (T69.setTop (mkF m 10 #[.val (.ref o0), .val (.ref b31), .val (.int (0 : Int32)), .val (.int (3 : Int32))] [(.int (3 : Int32))])) _
          refine XS.aloadN X69.here hx rfl (hb hby d6_10) rfl rfl ?_
          exact kt
        obtain ⟨cl73, Ar73, q73, S73, M73, H73, G73⟩ := (id V0_72)
        refine Got.step (T' := T69) (fun tq kt => X69.arraylength hx (cell := cl73) (by rw [e69]; exact Ar73.1) (State.isArrayOf_alike hZ.alike Ar73.2.1) (g := (mkF m 11 #[.val (.ref o0), .val (.ref b31), .val (.int (0 : Int32)), .val (.int (3 : Int32))] [(.ref o0), (.int (3 : Int32))])) rfl (rest := [(.int (3 : Int32))]) rfl (hb hby d6_11) tq kt) ?_
        rw [len_of S73 M73]
        show Got p e below s _ _ _ _ T69 (mkF m 12 #[.val (.ref o0), .val (.ref b31), .val (.int (0 : Int32)), .val (.int (3 : Int32))] [(.int (3 : Int32)), (.int (3 : Int32))])
        refine Got.step (T' := T69) (g' := (mkF m 60 #[.val (.ref o0), .val (.ref b31), .val (.int (0 : Int32)), .val (.int (3 : Int32))] [(.ref b31)])) (fun tq kt => ?_) ?_
        · show Steps p.tables e below (T69.setTop (mkF m 12 #[.val (.ref o0), .val (.ref b31), .val (.int (0 : Int32)), .val (.int (3 : Int32))] [(.int (3 : Int32)), (.int (3 : Int32))])) _
          refine XS.icmpYes X69.here hx rfl (pc0 := 12) (pc' := 59) rfl (hb hby d6_12) rfl (XT.ii_ge_t Int32.lt_irrefl) (by decide) (by decide) ?_
          show Steps p.tables e below (T69.setTop (mkF m 59 #[.val (.ref o0), .val (.ref b31), .val (.int (0 : Int32)), .val (.int (3 : Int32))] [])) _
          refine XS.aloadN X69.here hx rfl (hb hby d6_59) rfl rfl ?_
          exact kt
        rw [← g31]
        exact Got.retA X69 hx Bd.returns rfl hlk (hb hby d6_60) rfl ⟨N69, by rw [e69]; exact K0_71, k31, by rw [e69]; unfold ptab3; rw [((if_pos hc38).trans ((if_neg hc46).trans (if_neg hc63)))]; exact V69⟩ (by decide) (by decide)
  · refine Got.step (T' := T31) (g' := (mkF m 52 #[.val (.ref o0), .val (.ref b31), .val (.int (0 : Int32)), .val (.int (1 : Int32))] [(.int (0 : Int32)), (.int (1 : Int32)), (.ref b31)])) (fun tq kt => ?_) ?_
    · show Steps p.tables e below (T31.setTop (mkF m 43 #[.val (.ref o0), .val (.ref b31), .val (.int (0 : Int32)), .val (.int (1 : Int32))] [(.int u0), (.int u1)])) _
      refine XS.icmpYes X31.here hx rfl (pc0 := 43) (pc' := 49) rfl (hb hby d6_43) rfl (XT.ii_ne_t hc38) (by decide) (by decide) ?_
      show Steps p.tables e below (T31.setTop (mkF m 49 #[.val (.ref o0), .val (.ref b31), .val (.int (0 : Int32)), .val (.int (1 : Int32))] [])) _
      refine XS.aloadN X31.here hx rfl (hb hby d6_49) rfl rfl ?_
      show Steps p.tables e below (T31.setTop (mkF m 50 #[.val (.ref o0), .val (.ref b31), .val (.int (0 : Int32)), .val (.int (1 : Int32))] [(.ref b31)])) _
      refine XS.iloadN X31.here hx rfl (hb hby d6_50) rfl ?_
      show Steps p.tables e below (T31.setTop (mkF m 51 #[.val (.ref o0), .val (.ref b31), .val (.int (0 : Int32)), .val (.int (1 : Int32))] [(.int (1 : Int32)), (.ref b31)])) _
      refine XS.iloadN X31.here hx rfl (hb hby d6_51) rfl ?_
      exact kt
    obtain ⟨cl74, Ar74, q74, S74, M74, H74, G74⟩ := (id V31)
    have hin74 : ¬ ((1 : Int32) < 0 ∨ cl74.slots.size ≤ ((1 : Int32)).toNatClampNeg) := inb_of S74 ⟨by decide, by decide⟩
    obtain ⟨T74, h74, X74, e74, W74, st74⟩ := stI X31 hx hZ e31 Ar74 (j := (1 : Int32)) hin74 (g := (mkF m 52 #[.val (.ref o0), .val (.ref b31), .val (.int (0 : Int32)), .val (.int (1 : Int32))] [(.int (0 : Int32)), (.int (1 : Int32)), (.ref b31)])) rfl rfl (hb hby d6_52)
    have Z0_75 : n0 ≤ h74.size := (Nat.le_trans Z0_32 (Keep.of_wr W74).1)
    have K0_76 : Keep h0 h74 [] := (K0_33.wr W74 (Or.inr sz_b31))
    have V0_77 : Arv Z h74 o0 ku .int (3 : Int32) [(.int u0), (.int u1), (.int u2), (.int u3)] (.int (0 : Int32)) := (V0_34.other W74 ne_o0_b31)
    have V74 : Arv Z h74 b31 k31 .int (3 : Int32) [(.int (0 : Int32)), (.int (0 : Int32)), (.int (0 : Int32)), (.int (0 : Int32))] (.int (0 : Int32)) := Arv.set Ar74 q74 S74 M74 H74 G74 rfl W74 1 rfl (Nat.le_of_ble_eq_true rfl)
    have N74 := Fr.snoc X74 N0 gn_b31
    refine Got.step st74 ?_
    show Got p e below s _ _ _ _ T74 (mkF m 53 #[.val (.ref o0), .val (.ref b31), .val (.int (0 : Int32)), .val (.int (1 : Int32))] [])
    refine Got.step (T' := T74) (g' := (mkF m 11 #[.val (.ref o0), .val (.ref b31), .val (.int (0 : Int32)), .val (.int (2 : Int32))] [(.ref o0), (.int (2 : Int32))])) (fun tq kt => ?_) ?_
    · show Steps p.tables e below (T74.setTop (mkF m 53 #[.val (.ref o0), .val (.ref b31), .val (.int (0 : Int32)), .val (.int (1 : Int32))] [])) _
      refine XS.iinc X74.here hx rfl (hb hby d6_53) rfl (l' := #[.val (.ref o0), .val (.ref b31), .val (.int (0 : Int32)), .val (.int ((1 : Int32) + (1 : Int32)))]) rfl ?_
      show Steps p.tables e below (T74.setTop (mkF m 56 #[.val (.ref o0), .val (.ref b31), .val (.int (0 : Int32)), .val (.int (2 : Int32))] [])) _
      refine XS.goto X74.here hx rfl (pc0 := 56) (pc' := 9) rfl (hb hby d6_56) (by decide) (by decide) ?_
      show Steps p.tables e below (T74.setTop (mkF m 9 #[.val (.ref o0), .val (.ref b31), .val (.int (0 : Int32)), .val (.int (2 : Int32))] [])) _
      refine XS.iloadN X74.here hx rfl (hb hby d6_9) rfl ?_
      show Steps p.tables e below (T74.setTop (mkF m 10 #[.val (.ref o0), .val (.ref b31), .val (.int (0 : Int32)), .val (.int (2 : Int32))] [(.int (2 : Int32))])) _
      refine XS.aloadN X74.here hx rfl (hb hby d6_10) rfl rfl ?_
      exact kt
    obtain ⟨cl78, Ar78, q78, S78, M78, H78, G78⟩ := (id V0_77)
    refine Got.step (T' := T74) (fun tq kt => X74.arraylength hx (cell := cl78) (by rw [e74]; exact Ar78.1) (State.isArrayOf_alike hZ.alike Ar78.2.1) (g := (mkF m 11 #[.val (.ref o0), .val (.ref b31), .val (.int (0 : Int32)), .val (.int (2 : Int32))] [(.ref o0), (.int (2 : Int32))])) rfl (rest := [(.int (2 : Int32))]) rfl (hb hby d6_11) tq kt) ?_
    rw [len_of S78 M78]
    show Got p e below s _ _ _ _ T74 (mkF m 12 #[.val (.ref o0), .val (.ref b31), .val (.int (0 : Int32)), .val (.int (2 : Int32))] [(.int (3 : Int32)), (.int (2 : Int32))])
    refine Got.step (T' := T74) (g' := (mkF m 39 #[.val (.ref o0), .val (.ref b31), .val (.int (0 : Int32)), .val (.int (2 : Int32))] [(.int (2 : Int32)), (.ref o0)])) (fun tq kt => ?_) ?_
    · show Steps p.tables e below (T74.setTop (mkF m 12 #[.val (.ref o0), .val (.ref b31), .val (.int (0 : Int32)), .val (.int (2 : Int32))] [(.int (3 : Int32)), (.int (2 : Int32))])) _
      refine XS.icmpNo X74.here hx rfl (hb hby d6_12) rfl (XT.ii_ge_f (by decide)) ?_
      show Steps p.tables e below (T74.setTop (mkF m 15 #[.val (.ref o0), .val (.ref b31), .val (.int (0 : Int32)), .val (.int (2 : Int32))] [])) _
      refine XS.iloadN X74.here hx rfl (hb hby d6_15) rfl ?_
      show Steps p.tables e below (T74.setTop (mkF m 16 #[.val (.ref o0), .val (.ref b31), .val (.int (0 : Int32)), .val (.int (2 : Int32))] [(.int (0 : Int32))])) _
      refine XS.ifYes X74.here hx rfl (pc0 := 16) (pc' := 37) rfl (hb hby d6_16) rfl (XT.i0_le_t (by decide)) (by decide) (by decide) ?_
      show Steps p.tables e below (T74.setTop (mkF m 37 #[.val (.ref o0), .val (.ref b31), .val (.int (0 : Int32)), .val (.int (2 : Int32))] [])) _
      refine XS.aloadN X74.here hx rfl (hb hby d6_37) rfl rfl ?_
      show Steps p.tables e below (T74.setTop (mkF m 38 #[.val (.ref o0), .val (.ref b31), .val (.int (0 : Int32)), .val (.int (2 : Int32))] [(.ref o0)])) _
      refine XS.iloadN X74.here hx rfl (hb hby d6_38) rfl ?_
      exact kt
    obtain ⟨cl79, Ar79, q79, S79, M79, H79, G79⟩ := (id V0_77)
    have hin79 : ¬ ((2 : Int32) < 0 ∨ cl79.slots.size ≤ ((2 : Int32)).toNatClampNeg) := inb_of S79 ⟨by decide, by decide⟩
    refine Got.step (T' := T74) (fun tq kt => X74.iaload hx (j := (2 : Int32)) (v := (.int u2)) (by rw [e74]; exact Ar79.1) (State.isArrayOf_alike hZ.alike Ar79.2.1) Ar79.2.2 hin79 (H79.at hin79 rfl) (g := (mkF m 39 #[.val (.ref o0), .val (.ref b31), .val (.int (0 : Int32)), .val (.int (2 : Int32))] [(.int (2 : Int32)), (.ref o0)])) rfl rfl (hb hby d6_39) tq kt) ?_
    show Got p e below s _ _ _ _ T74 (mkF m 40 #[.val (.ref o0), .val (.ref b31), .val (.int (0 : Int32)), .val (.int (2 : Int32))] [(.int u2)])
    refine Got.step (T' := T74) (g' := (mkF m 42 #[.val (.ref o0), .val (.ref b31), .val (.int (0 : Int32)), .val (.int (2 : Int32))] [(.int (0 : Int32)), (.ref o0), (.int u2)])) (fun tq kt => ?_) ?_
    · show Steps p.tables e below (T74.setTop (mkF m 40 #[.val (.ref o0), .val (.ref b31), .val (.int (0 : Int32)), .val (.int (2 : Int32))] [(.int u2)])) _
      refine XS.aloadN X74.here hx rfl (hb hby d6_40) rfl rfl ?_
      show Steps p.tables e below (T74.setTop (mkF m 41 #[.val (.ref o0), .val (.ref b31), .val (.int (0 : Int32)), .val (.int (2 : Int32))] [(.ref o0), (.int u2)])) _
      refine XS.iloadN X74.here hx rfl (hb hby d6_41) rfl ?_
      exact kt
    obtain ⟨cl80, Ar80, q80, S80, M80, H80, G80⟩ := (id V0_77)
    have hin80 : ¬ ((0 : Int32) < 0 ∨ cl80.slots.size ≤ ((0 : Int32)).toNatClampNeg) := inb_of S80 ⟨by decide, by decide⟩
    refine Got.step (T' := T74) (fun tq kt => X74.iaload hx (j := (0 : Int32)) (v := (.int u0)) (by rw [e74]; exact Ar80.1) (State.isArrayOf_alike hZ.alike Ar80.2.1) Ar80.2.2 hin80 (H80.at hin80 rfl) (g := (mkF m 42 #[.val (.ref o0), .val (.ref b31), .val (.int (0 : Int32)), .val (.int (2 : Int32))] [(.int (0 : Int32)), (.ref o0), (.int u2)])) rfl rfl (hb hby d6_42) tq kt) ?_
    show Got p e below s _ _ _ _ T74 (mkF m 43 #[.val (.ref o0), .val (.ref b31), .val (.int (0 : Int32)), .val (.int (2 : Int32))] [(.int u0), (.int u2)])
    by_cases hc81 : (u2 = u0)
    · refine Got.step (T' := T74) (g' := (mkF m 52 #[.val (.ref o0), .val (.ref b31), .val (.int (1 : Int32)), .val (.int (2 : Int32))] [(.int (1 : Int32)), (.int (2 : Int32)), (.ref b31)])) (fun tq kt => ?_) ?_
      · show Steps p.tables e below (T74.setTop (mkF m 43 #[.val (.ref o0), .val (.ref b31), .val (.int (0 : Int32)), .val (.int (2 : Int32))] [(.int u0), (.int u2)])) _
        refine XS.icmpNo X74.here hx rfl (hb hby d6_43) rfl (XT.ii_ne_f hc81) ?_
        show Steps p.tables e below (T74.setTop (mkF m 46 #[.val (.ref o0), .val (.ref b31), .val (.int (0 : Int32)), .val (.int (2 : Int32))] [])) _
        refine XS.iinc X74.here hx rfl (hb hby d6_46) rfl (l' := #[.val (.ref o0), .val (.ref b31), .val (.int ((0 : Int32) + (1 : Int32))), .val (.int (2 : Int32))]) rfl ?_
        show Steps p.tables e below (T74.setTop (mkF m 49 #[.val (.ref o0), .val (.ref b31), .val (.int (1 : Int32)), .val (.int (2 : Int32))] [])) _
        refine XS.aloadN X74.here hx rfl (hb hby d6_49) rfl rfl ?_
        show Steps p.tables e below (T74.setTop (mkF m 50 #[.val (.ref o0), .val (.ref b31), .val (.int (1 : Int32)), .val (.int (2 : Int32))] [(.ref b31)])) _
        refine XS.iloadN X74.here hx rfl (hb hby d6_50) rfl ?_
        show Steps p.tables e below (T74.setTop (mkF m 51 #[.val (.ref o0), .val (.ref b31), .val (.int (1 : Int32)), .val (.int (2 : Int32))] [(.int (2 : Int32)), (.ref b31)])) _
        refine XS.iloadN X74.here hx rfl (hb hby d6_51) rfl ?_
        exact kt
      obtain ⟨cl82, Ar82, q82, S82, M82, H82, G82⟩ := (id V74)
      have hin82 : ¬ ((2 : Int32) < 0 ∨ cl82.slots.size ≤ ((2 : Int32)).toNatClampNeg) := inb_of S82 ⟨by decide, by decide⟩
      obtain ⟨T82, h82, X82, e82, W82, st82⟩ := stI X74 hx hZ e74 Ar82 (j := (2 : Int32)) hin82 (g := (mkF m 52 #[.val (.ref o0), .val (.ref b31), .val (.int (1 : Int32)), .val (.int (2 : Int32))] [(.int (1 : Int32)), (.int (2 : Int32)), (.ref b31)])) rfl rfl (hb hby d6_52)
      have Z0_83 : n0 ≤ h82.size := (Nat.le_trans Z0_75 (Keep.of_wr W82).1)
      have K0_84 : Keep h0 h82 [] := (K0_76.wr W82 (Or.inr sz_b31))
      have V0_85 : Arv Z h82 o0 ku .int (3 : Int32) [(.int u0), (.int u1), (.int u2), (.int u3)] (.int (0 : Int32)) := (V0_77.other W82 ne_o0_b31)
      have V82 : Arv Z h82 b31 k31 .int (3 : Int32) [(.int (0 : Int32)), (.int (0 : Int32)), (.int (1 : Int32)), (.int (0 : Int32))] (.int (0 : Int32)) := Arv.set Ar82 q82 S82 M82 H82 G82 rfl W82 2 rfl (Nat.le_of_ble_eq_true rfl)
      have N82 := Fr.snoc X82 N74 gn_b31
      refine Got.step st82 ?_
      show Got p e below s _ _ _ _ T82 (mkF m 53 #[.val (.ref o0), .val (.ref b31), .val (.int (1 : Int32)), .val (.int (2 : Int32))] [])
      refine Got.step (T' := T82) (g' := (mkF m 11 #[.val (.ref o0), .val (.ref b31), .val (.int (1 : Int32)), .val (.int (3 : Int32))] [(.ref o0), (.int (3 : Int32))])) (fun tq kt => ?_) ?_
      · show Steps p.tables e below (T82.setTop (mkF m 53 #[.val (.ref o0), .val (.ref b31), .val (.int (1 : Int32)), .val (.int (2 : Int32))] [])) _
        refine XS.iinc X82.here hx rfl (hb hby d6_53) rfl (l' := #[.val (.ref o0), .val (.ref b31), .val (.int (1 : Int32)), .val (.int ((2 : Int32) + (1 : Int32)))]) rfl ?_
        show Steps p.tables e below (T82.setTop (mkF m 56 #[.val (.ref o0), .val (.ref b31), .val (.int (1 : Int32)), .val (.int (3 : Int32))] [])) _
        refine XS.goto X82.here hx rfl (pc0 := 56) (pc' := 9) rfl (hb hby d6_56) (by decide) (by decide) ?_
        show Steps p.tables e below (T82.setTop (mkF m 9 #[.val (.ref o0), .val (.ref b31), .val (.int (1 : Int32)), .val (.int (3 : Int32))] [])) _
        refine XS.iloadN X82.here hx rfl (hb hby d6_9) rfl ?_
        show Steps p.tables e below (T82.setTop (mkF m 10 #[.val (.ref o0), .val (.ref b31), .val (.int (1 : Int32)), .val (.int (3 : Int32))] [(.int (3 : Int32))])) _
        refine XS.aloadN X82.here hx rfl (hb hby d6_10) rfl rfl ?_
        exact kt
      obtain ⟨cl86, Ar86, q86, S86, M86, H86, G86⟩ := (id V0_85)
      refine Got.step (T' := T82) (fun tq kt => X82.arraylength hx (cell := cl86) (by rw [e82]; exact Ar86.1) (State.isArrayOf_alike hZ.alike Ar86.2.1) (g := (mkF m 11 #[.val (.ref o0), .val (.ref b31), .val (.int (1 : Int32)), .val (.int (3 : Int32))] [(.ref o0), (.int (3 : Int32))])) rfl (rest := [(.int (3 : Int32))]) rfl (hb hby d6_11) tq kt) ?_
      rw [len_of S86 M86]
      show Got p e below s _ _ _ _ T82 (mkF m 12 #[.val (.ref o0), .val (.ref b31), .val (.int (1 : Int32)), .val (.int (3 : Int32))] [(.int (3 : Int32)), (.int (3 : Int32))])
      refine Got.step (T' := T82) (g' := (mkF m 60 #[.val (.ref o0), .val (.ref b31), .val (.int (1 : Int32)), .val (.int (3 : Int32))] [(.ref b31)])) (fun tq kt => ?_) ?_
      · show Steps p.tables e below (T82.setTop (mkF m 12 #[.val (.ref o0), .val (.ref b31), .val (.int (1 : Int32)), .val (.int (3 : Int32))] [(.int (3 : Int32)), (.int (3 : Int32))])) _
        refine XS.icmpYes X82.here hx rfl (pc0 := 12) (pc' := 59) rfl (hb hby d6_12) rfl (XT.ii_ge_t Int32.lt_irrefl) (by decide) (by decide) ?_
        show Steps p.tables e below (T82.setTop (mkF m 59 #[.val (.ref o0), .val (.ref b31), .val (.int (1 : Int32)), .val (.int (3 : Int32))] [])) _
        refine XS.aloadN X82.here hx rfl (hb hby d6_59) rfl rfl ?_
        exact kt
      rw [← g31]
      exact Got.retA X82 hx Bd.returns rfl hlk (hb hby d6_60) rfl ⟨N82, by rw [e82]; exact K0_84, k31, by rw [e82]; unfold ptab3; rw [((if_neg hc38).trans (if_pos hc81))]; exact V82⟩ (by decide) (by decide)
    · refine Got.step (T' := T74) (g' := (mkF m 52 #[.val (.ref o0), .val (.ref b31), .val (.int (0 : Int32)), .val (.int (2 : Int32))] [(.int (0 : Int32)), (.int (2 : Int32)), (.ref b31)])) (fun tq kt => ?_) ?_
      · show Steps p.tables e below (T74.setTop (mkF m 43 #[.val (.ref o0), .val (.ref b31), .val (.int (0 : Int32)), .val (.int (2 : Int32))] [(.int u0), (.int u2)])) _
        refine XS.icmpYes X74.here hx rfl (pc0 := 43) (pc' := 49) rfl (hb hby d6_43) rfl (XT.ii_ne_t hc81) (by decide) (by decide) ?_
        show Steps p.tables e below (T74.setTop (mkF m 49 #[.val (.ref o0), .val (.ref b31), .val (.int (0 : Int32)), .val (.int (2 : Int32))] [])) _
        refine XS.aloadN X74.here hx rfl (hb hby d6_49) rfl rfl ?_
        show Steps p.tables e below (T74.setTop (mkF m 50 #[.val (.ref o0), .val (.ref b31), .val (.int (0 : Int32)), .val (.int (2 : Int32))] [(.ref b31)])) _
        refine XS.iloadN X74.here hx rfl (hb hby d6_50) rfl ?_
        show Steps p.tables e below (T74.setTop (mkF m 51 #[.val (.ref o0), .val (.ref b31), .val (.int (0 : Int32)), .val (.int (2 : Int32))] [(.int (2 : Int32)), (.ref b31)])) _
        refine XS.iloadN X74.here hx rfl (hb hby d6_51) rfl ?_
        exact kt
      obtain ⟨cl87, Ar87, q87, S87, M87, H87, G87⟩ := (id V74)
      have hin87 : ¬ ((2 : Int32) < 0 ∨ cl87.slots.size ≤ ((2 : Int32)).toNatClampNeg) := inb_of S87 ⟨by decide, by decide⟩
      obtain ⟨T87, h87, X87, e87, W87, st87⟩ := stI X74 hx hZ e74 Ar87 (j := (2 : Int32)) hin87 (g := (mkF m 52 #[.val (.ref o0), .val (.ref b31), .val (.int (0 : Int32)), .val (.int (2 : Int32))] [(.int (0 : Int32)), (.int (2 : Int32)), (.ref b31)])) rfl rfl (hb hby d6_52)
      have Z0_88 : n0 ≤ h87.size := (Nat.le_trans Z0_75 (Keep.of_wr W87).1)
      have K0_89 : Keep h0 h87 [] := (K0_76.wr W87 (Or.inr sz_b31))
      have V0_90 : Arv Z h87 o0 ku .int (3 : Int32) [(.int u0), (.int u1), (.int u2), (.int u3)] (.int (0 : Int32)) := (V0_77.other W87 ne_o0_b31)
      have V87 : Arv Z h87 b31 k31 .int (3 : Int32) [(.int (0 : Int32)), (.int (0 : Int32)), (.int (0 : Int32)), (.int (0 : Int32))] (.int (0 : Int32)) := Arv.set Ar87 q87 S87 M87 H87 G87 rfl W87 2 rfl (Nat.le_of_ble_eq_true rfl)
      have N87 := Fr.snoc X87 N74 gn_b31
      refine Got.step st87 ?_
      show Got p e below s _ _ _ _ T87 (mkF m 53 #[.val (.ref o0), .val (.ref b31), .val (.int (0 : Int32)), .val (.int (2 : Int32))] [])
      refine Got.step (T' := T87) (g' := (mkF m 11 #[.val (.ref o0), .val (.ref b31), .val (.int (0 : Int32)), .val (.int (3 : Int32))] [(.ref o0), (.int (3 : Int32))])) (fun tq kt => ?_) ?_
      · show Steps p.tables e below (T87.setTop (mkF m 53 #[.val (.ref o0), .val (.ref b31), .val (.int (0 : Int32)), .val (.int (2 : Int32))] [])) _
        refine XS.iinc X87.here hx rfl (hb hby d6_53) rfl (l' := #[.val (.ref o0), .val (.ref b31), .val (.int (0 : Int32)), .val (.int ((2 : Int32) + (1 : Int32)))]) rfl ?_
        show Steps p.tables e below (T87.setTop (mkF m 56 #[.val (.ref o0), .val (.ref b31), .val (.int (0 : Int32)), .val (.int (3 : Int32))] [])) _
        refine XS.goto X87.here hx rfl (pc0 := 56) (pc' := 9) rfl (hb hby d6_56) (by decide) (by decide) ?_
        show Steps p.tables e below (T87.setTop (mkF m 9 #[.val (.ref o0), .val (.ref b31), .val (.int (0 : Int32)), .val (.int (3 : Int32))] [])) _
        refine XS.iloadN X87.here hx rfl (hb hby d6_9) rfl ?_
        show Steps p.tables e below (T87.setTop (mkF m 10 #[.val (.ref o0), .val (.ref b31), .val (.int (0 : Int32)), .val (.int (3 : Int32))] [(.int (3 : Int32))])) _
        refine XS.aloadN X87.here hx rfl (hb hby d6_10) rfl rfl ?_
        exact kt
      obtain ⟨cl91, Ar91, q91, S91, M91, H91, G91⟩ := (id V0_90)
      refine Got.step (T' := T87) (fun tq kt => X87.arraylength hx (cell := cl91) (by rw [e87]; exact Ar91.1) (State.isArrayOf_alike hZ.alike Ar91.2.1) (g := (mkF m 11 #[.val (.ref o0), .val (.ref b31), .val (.int (0 : Int32)), .val (.int (3 : Int32))] [(.ref o0), (.int (3 : Int32))])) rfl (rest := [(.int (3 : Int32))]) rfl (hb hby d6_11) tq kt) ?_
      rw [len_of S91 M91]
      show Got p e below s _ _ _ _ T87 (mkF m 12 #[.val (.ref o0), .val (.ref b31), .val (.int (0 : Int32)), .val (.int (3 : Int32))] [(.int (3 : Int32)), (.int (3 : Int32))])
      refine Got.step (T' := T87) (g' := (mkF m 60 #[.val (.ref o0), .val (.ref b31), .val (.int (0 : Int32)), .val (.int (3 : Int32))] [(.ref b31)])) (fun tq kt => ?_) ?_
      · show Steps p.tables e below (T87.setTop (mkF m 12 #[.val (.ref o0), .val (.ref b31), .val (.int (0 : Int32)), .val (.int (3 : Int32))] [(.int (3 : Int32)), (.int (3 : Int32))])) _
        refine XS.icmpYes X87.here hx rfl (pc0 := 12) (pc' := 59) rfl (hb hby d6_12) rfl (XT.ii_ge_t Int32.lt_irrefl) (by decide) (by decide) ?_
        show Steps p.tables e below (T87.setTop (mkF m 59 #[.val (.ref o0), .val (.ref b31), .val (.int (0 : Int32)), .val (.int (3 : Int32))] [])) _
        refine XS.aloadN X87.here hx rfl (hb hby d6_59) rfl rfl ?_
        exact kt
      rw [← g31]
      exact Got.retA X87 hx Bd.returns rfl hlk (hb hby d6_60) rfl ⟨N87, by rw [e87]; exact K0_89, k31, by rw [e87]; unfold ptab3; rw [((if_neg hc38).trans (if_neg hc81))]; exact V87⟩ (by decide) (by decide)
def ptab4 (u0 u1 u2 u3 : Int32) : List Nat := (if u1 = u0 then (if u2 = u1 then (if u2 = u1 then (if u3 = u2 then (if u3 = u2 then [0, 1, 2, 3] else [0, 1, 2, 2]) else (if u3 = u1 then (if u3 = u1 then [0, 1, 2, 2] else [0, 1, 2, 1]) else (if u3 = u0 then [0, 1, 2, 1] else [0, 1, 2, 0]))) else (if u3 = u1 then (if u3 = u1 then [0, 1, 1, 2] else [0, 1, 1, 1]) else (if u3 = u0 then [0, 1, 1, 1] else [0, 1, 1, 0]))) else (if u2 = u0 then (if u3 = u1 then (if u3 = u1 then [0, 1, 1, 2] else [0, 1, 1, 1]) else (if u3 = u0 then [0, 1, 1, 1] else [0, 1, 1, 0])) else (if u3 = u0 then [0, 1, 0, 1] else [0, 1, 0, 0]))) else (if u2 = u0 then (if u3 = u1 then (if u3 = u1 then [0, 0, 1, 2] else [0, 0, 1, 1]) else (if u3 = u0 then [0, 0, 1, 1] else [0, 0, 1, 0])) else (if u3 = u0 then [0, 0, 0, 1] else [0, 0, 0, 0])))
theorem ef_P4 (m : MethodId) (x0 : Addr) : entryFrame m #[(.ref x0)] 4 = mkF m 0 #[.val (.ref x0), .unset, .unset, .unset] [] := by first | (simp [entryFrame, mkF, argsToLocals, Value.category]; done) | rfl
set_option maxRecDepth 65536 in
set_option maxHeartbeats 40000000 in
theorem rmP4 (l : Launch) (Z : State) (a0 : Array Value) (hw : ∀ d ∈ tables_1, d.before a0 Z = true) (ws : List Jvm.Cond) (o0 : Addr) (u0 u1 u2 u3 : Int32) (ku : ClassId) (h0 : Heap) (n0 : Nat) (Z0 : n0 ≤ h0.size) (V0 : Arv Z h0 o0 ku .int (4 : Int32) [(.int u0), (.int u1), (.int u2), (.int u3)] (.int (0 : Int32))) :
    MetFree l (⟨"com/example/sidestep/sidestep/CompiledPattern", "prefixTable", "([I)[I"⟩ : MethodName) (head1 (Jvm.Cond.code (⟨"com/example/sidestep/sidestep/CompiledPattern", "prefixTable", "([I)[I"⟩ : MethodName) prog_4_method_10_code 4 (some (.array .int)) :: ws) ({ frames := 0, cells := 1, slots := 4, locals := 0 } : Room)) (fun a U => a = #[(.ref o0)] ∧ Z.Warmed39 U.vm ∧ U.heap = h0) (fun _ _ _ _ _ => True) (fun _ U o U' => ∃ v L, o = .returned v ∧ QV (some (.ref h0.size)) (fun h L => Fr n0 L ∧ Keep h0 h [] ∧ ∃ k : ClassId, Arv Z h h0.size k .int (4 : Int32) (own_tb (ptab4 u0 u1 u2 u3)) (.int (0 : Int32))) v U'.heap L ∧ FrameEnd U o U' L ({ frames := 0, cells := 1, slots := 4, locals := 0 } : Room).cells ({ frames := 0, cells := 1, slots := 4, locals := 0 } : Room).slots) := by
  refine MetFree.of_bodySF (plainFor_of_name pn_1) hisR ?_
  intro p e s m args below meth c s₁ Bd hml0 hP hK
  obtain ⟨rfl, hZ, hh⟩ := hP
  have hx := Bd.exec
  have hby := Bd.bytes
  have hml : c.maxLocals = 4 := hml0
  have hown : s.vm.findClass "com/example/sidestep/sidestep/CompiledPattern" = some m.cls := findClass_of_methodNamed Bd.named
  have hnm := (name_of_methodNamed Bd.named Bd.method).1
  have hlk : meth.locks = false := BodyLoose.notSynchronized Bd
  have X0 : Stand p l e ({ frames := 0, cells := 1, slots := 4, locals := 0 } : Room) s m #[(.ref o0)] below meth c s₁ [] 0 0 := Stand.of_body Bd
  have e0 : s₁.heap = h0 := by rw [← hh, Bd.state]; rfl
  have N0 := Fr.nil n0
  refine Got.body (ef_P4 m o0) ?_
  have K0 := Keep.refl h0 []
  refine Got.step (T' := s₁) (g' := (mkF m 1 #[.val (.ref o0), .unset, .unset, .unset] [(.ref o0)])) (fun tq kt => ?_) ?_
  · show Steps p.tables e below (s₁.setTop (mkF m 0 #[.val (.ref o0), .unset, .unset, .unset] [])) _
    refine XS.aloadN X0.here hx rfl (hb hby d6_0) rfl rfl ?_
    exact kt
  obtain ⟨cl92, Ar92, q92, S92, M92, H92, G92⟩ := (id V0)
  refine Got.step (T' := s₁) (fun tq kt => X0.arraylength hx (cell := cl92) (by rw [e0]; exact Ar92.1) (State.isArrayOf_alike hZ.alike Ar92.2.1) (g := (mkF m 1 #[.val (.ref o0), .unset, .unset, .unset] [(.ref o0)])) rfl (rest := []) rfl (hb hby d6_1) tq kt) ?_
  rw [len_of S92 M92]
  show Got p e below s _ _ _ _ s₁ (mkF m 2 #[.val (.ref o0), .unset, .unset, .unset] [(.int (4 : Int32))])
  obtain ⟨T93, h93, k93, X93, e93, E93, A93, st93⟩ := newP X0 hx hZ (hw _ (List.mem_of_getElem? (i := 0) rfl)) e0 (g := (mkF m 2 #[.val (.ref o0), .unset, .unset, .unset] [(.int (4 : Int32))])) rfl (hb hby d6_2) rfl (by decide) (cap := 4) (by decide) (by decide) (by decide) (by decide)
  obtain ⟨b93, g93⟩ : ∃ z, z = h0.size := ⟨_, rfl⟩
  rw [← g93] at A93 st93
  have ne_o0_b93 : o0 ≠ b93 := by rw [g93]; exact Nat.ne_of_lt V0.lt
  have gn_b93 : n0 ≤ b93 := by rw [g93]; exact Z0
  have sz_b93 : h0.size ≤ b93 := by rw [g93]; exact K0.1
  have Z0_94 : n0 ≤ h93.size := (Nat.le_trans Z0 E93.1)
  have K0_95 : Keep h0 h93 [] := (K0.ext E93)
  have V0_96 : Arv Z h93 o0 ku .int (4 : Int32) [(.int u0), (.int u1), (.int u2), (.int u3)] (.int (0 : Int32)) := (V0.ext E93)
  have V93 : Arv Z h93 b93 k93 .int (4 : Int32) [(.int (0 : Int32)), (.int (0 : Int32)), (.int (0 : Int32)), (.int (0 : Int32))] (.int (0 : Int32)) := (Arv.new A93 (by decide)).pad (pad_rep [] (.int (0 : Int32)) 4)
  refine Got.step st93 ?_
  show Got p e below s _ _ _ _ T93 (mkF m 4 #[.val (.ref o0), .unset, .unset, .unset] [(.ref b93)])
  refine Got.step (T' := T93) (g' := (mkF m 11 #[.val (.ref o0), .val (.ref b93), .val (.int (0 : Int32)), .val (.int (1 : Int32))] [(.ref o0), (.int (1 : Int32))])) (fun tq kt => ?_) ?_
  · show Steps p.tables e below (T93.setTop (mkF m 4 #[.val (.ref o0), .unset, .unset, .unset] [(.ref b93)])) _
    refine XS.astoreN X93.here hx rfl (hb hby d6_4) rfl rfl (l' := #[.val (.ref o0), .val (.ref b93), .unset, .unset]) rfl ?_
    show Steps p.tables e below (T93.setTop (mkF m 5 #[.val (.ref o0), .val (.ref b93), .unset, .unset] [])) _
    refine XS.iconst X93.here hx rfl (hb hby d6_5) ?_
    show Steps p.tables e below (T93.setTop (mkF m 6 #[.val (.ref o0), .val (.ref b93), .unset, .unset] [(.int (0 : Int32))])) _
    refine XS.istoreN X93.here hx rfl (hb hby d6_6) rfl (l' := #[.val (.ref o0), .val (.ref b93), .val (.int (0 : Int32)), .unset]) rfl ?_
    show Steps p.tables e below (T93.setTop (mkF m 7 #[.val (.ref o0), .val (.ref b93), .val (.int (0 : Int32)), .unset] [])) _
    refine XS.iconst X93.here hx rfl (hb hby d6_7) ?_
    show Steps p.tables e below (T93.setTop (mkF m 8 #[.val (.ref o0), .val (.ref b93), .val (.int (0 : Int32)), .unset] [(.int (1 : Int32))])) _
    refine XS.istoreN X93.here hx rfl (hb hby d6_8) rfl (l' := #[.val (.ref o0), .val (.ref b93), .val (.int (0 : Int32)), .val (.int (1 : Int32))]) rfl ?_
    show Steps p.tables e below (T93.setTop (mkF m 9 #[.val (.ref o0), .val (.ref b93), .val (.int (0 : Int32)), .val (.int (1 : Int32))] [])) _
    refine XS.iloadN X93.here hx rfl (hb hby d6_9) rfl ?_
    show Steps p.tables e below (T93.setTop (mkF m 10 #[.val (.ref o0), .val (.ref b93), .val (.int (0 : Int32)), .val (.int (1 : Int32))] [(.int (1 : Int32))])) _
    refine XS.aloadN X93.here hx rfl (hb hby d6_10) rfl rfl ?_
    exact kt
  obtain ⟨cl97, Ar97, q97, S97, M97, H97, G97⟩ := (id V0_96)
  refine Got.step (T' := T93) (fun tq kt => X93.arraylength hx (cell := cl97) (by rw [e93]; exact Ar97.1) (State.isArrayOf_alike hZ.alike Ar97.2.1) (g := (mkF m 11 #[.val (.ref o0), .val (.ref b93), .val (.int (0 : Int32)), .val (.int (1 : Int32))] [(.ref o0), (.int (1 : Int32))])) rfl (rest := [(.int (1 : Int32))]) rfl (hb hby d6_11) tq kt) ?_
  rw [len_of S97 M97]
  show Got p e below s _ _ _ _ T93 (mkF m 12 #[.val (.ref o0), .val (.ref b93), .val (.int (0 : Int32)), .val (.int (1 : Int32))] [(.int (4 : Int32)), (.int (1 : Int32))])
  refine Got.step (T' := T93) (g' := (mkF m 39 #[.val (.ref o0), .val (.ref b93), .val (.int (0 : Int32)), .val (.int (1 : Int32))] [(.int (1 : Int32)), (.ref o0)])) (fun tq kt => ?_) ?_
  · show Steps p.tables e below (T93.setTop (mkF m 12 #[.val (.ref o0), .val (.ref b93), .val (.int (0 : Int32)), .val (.int (1 : Int32))] [(.int (4 : Int32)), (.int (1 : Int32))])) _
    refine XS.icmpNo X93.here hx rfl (hb hby d6_12) rfl (XT.ii_ge_f (by decide)) ?_
    show Steps p.tables e below (T93.setTop (mkF m 15 #[.val (.ref o0), .val (.ref b93), .val (.int (0 : Int32)), .val (.int (1 : Int32))] [])) _
    refine XS.iloadN X93.here hx rfl (hb hby d6_15) rfl ?_
    show Steps p.tables e below (T93.setTop (mkF m 16 #[.val (.ref o0), .val (.ref b93), .val (.int (0 : Int32)), .val (.int (1 : Int32))] [(.int (0 : Int32))])) _
    refine XS.ifYes X93.here hx rfl (pc0 := 16) (pc' := 37) rfl (hb hby d6_16) rfl (XT.i0_le_t (by decide)) (by decide) (by decide) ?_
    show Steps p.tables e below (T93.setTop (mkF m 37 #[.val (.ref o0), .val (.ref b93), .val (.int (0 : Int32)), .val (.int (1 : Int32))] [])) _
    refine XS.aloadN X93.here hx rfl (hb hby d6_37) rfl rfl ?_
    show Steps p.tables e below (T93.setTop (mkF m 38 #[.val (.ref o0), .val (.ref b93), .val (.int (0 : Int32)), .val (.int (1 : Int32))] [(.ref o0)])) _
    refine XS.iloadN X93.here hx rfl (hb hby d6_38) rfl ?_
    exact kt
  obtain ⟨cl98, Ar98, q98, S98, M98, H98, G98⟩ := (id V0_96)
  have hin98 : ¬ ((1 : Int32) < 0 ∨ cl98.slots.size ≤ ((1 : Int32)).toNatClampNeg) := inb_of S98 ⟨by decide, by decide⟩
  refine Got.step (T' := T93) (fun tq kt => X93.iaload hx (j := (1 : Int32)) (v := (.int u1)) (by rw [e93]; exact Ar98.1) (State.isArrayOf_alike hZ.alike Ar98.2.1) Ar98.2.2 hin98 (H98.at hin98 rfl) (g := (mkF m 39 #[.val (.ref o0), .val (.ref b93), .val (.int (0 : Int32)), .val (.int (1 : Int32))] [(.int (1 : Int32)), (.ref o0)])) rfl rfl (hb hby d6_39) tq kt) ?_
  show Got p e below s _ _ _ _ T93 (mkF m 40 #[.val (.ref o0), .val (.ref b93), .val (.int (0 : Int32)), .val (.int (1 : Int32))] [(.int u1)])
  refine Got.step (T' := T93) (g' := (mkF m 42 #[.val (.ref o0), .val (.ref b93), .val (.int (0 : Int32)), .val (.int (1 : Int32))] [(.int (0 : Int32)), (.ref o0), (.int u1)])) (fun tq kt => ?_) ?_
  · show Steps p.tables e below (T93.setTop (mkF m 40 #[.val (.ref o0), .val (.ref b93), .val (.int (0 : Int32)), .val (.int (1 : Int32))] [(.int u1)])) _
    refine XS.aloadN X93.here hx rfl (hb hby d6_40) rfl rfl ?_
    show Steps p.tables e below (T93.setTop (mkF m 41 #[.val (.ref o0), .val (.ref b93), .val (.int (0 : Int32)), .val (.int (1 : Int32))] [(.ref o0), (.int u1)])) _
    refine XS.iloadN X93.here hx rfl (hb hby d6_41) rfl ?_
    exact kt
  obtain ⟨cl99, Ar99, q99, S99, M99, H99, G99⟩ := (id V0_96)
  have hin99 : ¬ ((0 : Int32) < 0 ∨ cl99.slots.size ≤ ((0 : Int32)).toNatClampNeg) := inb_of S99 ⟨by decide, by decide⟩
  refine Got.step (T' := T93) (fun tq kt => X93.iaload hx (j := (0 : Int32)) (v := (.int u0)) (by rw [e93]; exact Ar99.1) (State.isArrayOf_alike hZ.alike Ar99.2.1) Ar99.2.2 hin99 (H99.at hin99 rfl) (g := (mkF m 42 #[.val (.ref o0), .val (.ref b93), .val (.int (0 : Int32)), .val (.int (1 : Int32))] [(.int (0 : Int32)), (.ref o0), (.int u1)])) rfl rfl (hb hby d6_42) tq kt) ?_
  show Got p e below s _ _ _ _ T93 (mkF m 43 #[.val (.ref o0), .val (.ref b93), .val (.int (0 : Int32)), .val (.int (1 : Int32))] [(.int u0), (.int u1)])
  by_cases hc100 : (u1 = u0)
  · refine Got.step (T' := T93) (g' := (mkF m 52 #[.val (.ref o0), .val (.ref b93), .val (.int (1 : Int32)), .val (.int (1 : Int32))] [(.int (1 : Int32)), (.int (1 : Int32)), (.ref b93)])) (fun tq kt => ?_) ?_
    · show Steps p.tables e below (T93.setTop (mkF m 43 #[.val (.ref o0), .val (.ref b93), .val (.int (0 : Int32)), .val (.int (1 : Int32))] [(.int u0), (.int u1)])) _
      refine XS.icmpNo X93.here hx rfl (hb hby d6_43) rfl (XT.ii_ne_f hc100) ?_
      show Steps p.tables e below (T93.setTop (mkF m 46 #[.val (.ref o0), .val (.ref b93), .val (.int (0 : Int32)), .val (.int (1 : Int32))] [])) _
      refine XS.iinc X93.here hx rfl (hb hby d6_46) rfl (l' := #[.val (.ref o0), .val (.ref b93), .val (.int ((0 : Int32) + (1 : Int32))), .val (.int (1 : Int32))]) rfl ?_
      show Steps p.tables e below (T93.setTop (mkF m 49 #[.val (.ref o0), .val (.ref b93), .val (.int (1 : Int32)), .val (.int (1 : Int32))] [])) _
      refine XS.aloadN X93.here hx rfl (hb hby d6_49) rfl rfl ?_
      show Steps p.tables e below (T93.setTop (mkF m 50 #[.val (.ref o0), .val (.ref b93), .val (.int (1 : Int32)), .val (.int (1 : Int32))] [(.ref b93)])) _
      refine XS.iloadN X93.here hx rfl (hb hby d6_50) rfl ?_
      show Steps p.tables e below (T93.setTop (mkF m 51 #[.val (.ref o0), .val (.ref b93), .val (.int (1 : Int32)), .val (.int (1 : Int32))] [(.int (1 : Int32)), (.ref b93)])) _
      refine XS.iloadN X93.here hx rfl (hb hby d6_51) rfl ?_
      exact kt
    obtain ⟨cl101, Ar101, q101, S101, M101, H101, G101⟩ := (id V93)
    have hin101 : ¬ ((1 : Int32) < 0 ∨ cl101.slots.size ≤ ((1 : Int32)).toNatClampNeg) := inb_of S101 ⟨by decide, by decide⟩
    obtain ⟨T101, h101, X101, e101, W101, st101⟩ := stI X93 hx hZ e93 Ar101 (j := (1 : Int32)) hin101 (g := (mkF m 52 #[.val (.ref o0), .val (.ref b93), .val (.int (1 : Int32)), .val (.int (1 : Int32))] [(.int (1 : Int32)), (.int (1 : Int32)), (.ref b93)])) rfl rfl (hb hby d6_52)
    have Z0_102 : n0 ≤ h101.size := (Nat.le_trans Z0_94 (Keep.of_wr W101).1)
    have K0_103 : Keep h0 h101 [] := (K0_95.wr W101 (Or.inr sz_b93))
    have V0_104 : Arv Z h101 o0 ku .int (4 : Int32) [(.int u0), (.int u1), (.int u2), (.int u3)] (.int (0 : Int32)) := (V0_96.other W101 ne_o0_b93)
    have V101 : Arv Z h101 b93 k93 .int (4 : Int32) [(.int (0 : Int32)), (.int (1 : Int32)), (.int (0 : Int32)), (.int (0 : Int32))] (.int (0 : Int32)) := Arv.set Ar101 q101 S101 M101 H101 G101 rfl W101 1 rfl (Nat.le_of_ble_eq_true rfl)
    have N101 := Fr.snoc X101 N0 gn_b93
    refine Got.step st101 ?_
    show Got p e below s _ _ _ _ T101 (mkF m 53 #[.val (.ref o0), .val (.ref b93), .val (.int (1 : Int32)), .val (.int (1 : Int32))] [])
    refine Got.step (T' := T101) (g' := (mkF m 11 #[.val (.ref o0), .val (.ref b93), .val (.int (1 : Int32)), .val (.int (2 : Int32))] [(.ref o0), (.int (2 : Int32))])) (fun tq kt => ?_) ?_
    · show Steps p.tables e below (T101.setTop (mkF m 53 #[.val (.ref o0), .val (.ref b93), .val (.int (1 : Int32)), .val (.int (1 : Int32))] [])) _
      refine XS.iinc X101.here hx rfl (hb hby d6_53) rfl (l' := #[.val (.ref o0), .val (.ref b93), .val (.int (1 : Int32)), .val (.int ((1 : Int32) + (1 : Int32)))]) rfl ?_
      show Steps p.tables e below (T101.setTop (mkF m 56 #[.val (.ref o0), .val (.ref b93), .val (.int (1 : Int32)), .val (.int (2 : Int32))] [])) _
      refine XS.goto X101.here hx rfl (pc0 := 56) (pc' := 9) rfl (hb hby d6_56) (by decide) (by decide) ?_
      show Steps p.tables e below (T101.setTop (mkF m 9 #[.val (.ref o0), .val (.ref b93), .val (.int (1 : Int32)), .val (.int (2 : Int32))] [])) _
      refine XS.iloadN X101.here hx rfl (hb hby d6_9) rfl ?_
      show Steps p.tables e below (T101.setTop (mkF m 10 #[.val (.ref o0), .val (.ref b93), .val (.int (1 : Int32)), .val (.int (2 : Int32))] [(.int (2 : Int32))])) _
      refine XS.aloadN X101.here hx rfl (hb hby d6_10) rfl rfl ?_
      exact kt
    obtain ⟨cl105, Ar105, q105, S105, M105, H105, G105⟩ := (id V0_104)
    refine Got.step (T' := T101) (fun tq kt => X101.arraylength hx (cell := cl105) (by rw [e101]; exact Ar105.1) (State.isArrayOf_alike hZ.alike Ar105.2.1) (g := (mkF m 11 #[.val (.ref o0), .val (.ref b93), .val (.int (1 : Int32)), .val (.int (2 : Int32))] [(.ref o0), (.int (2 : Int32))])) rfl (rest := [(.int (2 : Int32))]) rfl (hb hby d6_11) tq kt) ?_
    rw [len_of S105 M105]
    show Got p e below s _ _ _ _ T101 (mkF m 12 #[.val (.ref o0), .val (.ref b93), .val (.int (1 : Int32)), .val (.int (2 : Int32))] [(.int (4 : Int32)), (.int (2 : Int32))])
    refine Got.step (T' := T101) (g' := (mkF m 21 #[.val (.ref o0), .val (.ref b93), .val (.int (1 : Int32)), .val (.int (2 : Int32))] [(.int (2 : Int32)), (.ref o0)])) (fun tq kt => ?_) ?_
    · show Steps p.tables e below (T101.setTop (mkF m 12 #[.val (.ref o0), .val (.ref b93), .val (.int (1 : Int32)), .val (.int (2 : Int32))] [(.int (4 : Int32)), (.int (2 : Int32))])) _
      refine XS.icmpNo X101.here hx rfl (hb hby d6_12) rfl (XT.ii_ge_f (by decide)) ?_
      show Steps p.tables e below (T101.setTop (mkF m 15 #[.val (.ref o0), .val (.ref b93), .val (.int (1 : Int32)), .val (.int (2 : Int32))] [])) _
      refine XS.iloadN X101.here hx rfl (hb hby d6_15) rfl ?_
      show Steps p.tables e below (T101.setTop (mkF m 16 #[.val (.ref o0), .val (.ref b93), .val (.int (1 : Int32)), .val (.int (2 : Int32))] [(.int (1 : Int32))])) _
      refine XS.ifNo X101.here hx rfl (hb hby d6_16) rfl (XT.i0_le_f (by decide)) ?_
      show Steps p.tables e below (T101.setTop (mkF m 19 #[.val (.ref o0), .val (.ref b93), .val (.int (1 : Int32)), .val (.int (2 : Int32))] [])) _
      refine XS.aloadN X101.here hx rfl (hb hby d6_19) rfl rfl ?_
      show Steps p.tables e below (T101.setTop (mkF m 20 #[.val (.ref o0), .val (.ref b93), .val (.int (1 : Int32)), .val (.int (2 : Int32))] [(.ref o0)])) _
      refine XS.iloadN X101.here hx rfl (hb hby d6_20) rfl ?_
      exact kt
    obtain ⟨cl106, Ar106, q106, S106, M106, H106, G106⟩ := (id V0_104)
    have hin106 : ¬ ((2 : Int32) < 0 ∨ cl106.slots.size ≤ ((2 : Int32)).toNatClampNeg) := inb_of S106 ⟨by decide, by decide⟩
    refine Got.step (T' := T101) (fun tq kt => X101.iaload hx (j := (2 : Int32)) (v := (.int u2)) (by rw [e101]; exact Ar106.1) (State.isArrayOf_alike hZ.alike Ar106.2.1) Ar106.2.2 hin106 (H106.at hin106 rfl) (g := (mkF m 21 #[.val (.ref o0), .val (.ref b93), .val (.int (1 : Int32)), .val (.int (2 : Int32))] [(.int (2 : Int32)), (.ref o0)])) rfl rfl (hb hby d6_21) tq kt) ?_
    show Got p e below s _ _ _ _ T101 (mkF m 22 #[.val (.ref o0), .val (.ref b93), .val (.int (1 : Int32)), .val (.int (2 : Int32))] [(.int u2)])
    refine Got.step (T' := T101) (g' := (mkF m 24 #[.val (.ref o0), .val (.ref b93), .val (.int (1 : Int32)), .val (.int (2 : Int32))] [(.int (1 : Int32)), (.ref o0), (.int u2)])) (fun tq kt => ?_) ?_
    · show Steps p.tables e below (T101.setTop (mkF m 22 #[.val (.ref o0), .val (.ref b93), .val (.int (1 : Int32)), .val (.int (2 : Int32))] [(.int u2)])) _
      refine XS.aloadN X101.here hx rfl (hb hby d6_22) rfl rfl ?_
      show Steps p.tables e below (T101.setTop (mkF m 23 #[.val (.ref o0), .val (.ref b93), .val (.int (1 : Int32)), .val (.int (2 : Int32))] [(.ref o0), (.int u2)])) _
      refine XS.iloadN X101.here hx rfl (hb hby d6_23) rfl ?_
      exact kt
    obtain ⟨cl107, Ar107, q107, S107, M107, H107, G107⟩ := (id V0_104)
    have hin107 : ¬ ((1 : Int32) < 0 ∨ cl107.slots.size ≤ ((1 : Int32)).toNatClampNeg) := inb_of S107 ⟨by decide, by decide⟩
    refine Got.step (T' := T101) (fun tq kt => X101.iaload hx (j := (1 : Int32)) (v := (.int u1)) (by rw [e101]; exact Ar107.1) (State.isArrayOf_alike hZ.alike Ar107.2.1) Ar107.2.2 hin107 (H107.at hin107 rfl) (g := (mkF m 24 #[.val (.ref o0), .val (.ref b93), .val (.int (1 : Int32)), .val (.int (2 : Int32))] [(.int (1 : Int32)), (.ref o0), (.int u2)])) rfl rfl (hb hby d6_24) tq kt) ?_
    show Got p e below s _ _ _ _ T101 (mkF m 25 #[.val (.ref o0), .val (.ref b93), .val (.int (1 : Int32)), .val (.int (2 : Int32))] [(.int u1), (.int u2)])
    by_cases hc108 : (u2 = u1)
    · refine Got.step (T' := T101) (g' := (mkF m 39 #[.val (.ref o0), .val (.ref b93), .val (.int (1 : Int32)), .val (.int (2 : Int32))] [(.int (2 : Int32)), (.ref o0)])) (fun tq kt => ?_) ?_
      · show Steps p.tables e below (T101.setTop (mkF m 25 #[.val (.ref o0), .val (.ref b93), .val (.int (1 : Int32)), .val (.int (2 : Int32))] [(.int u1), (.int u2)])) _
        refine XS.icmpYes X101.here hx rfl (pc0 := 25) (pc' := 37) rfl (hb hby d6_25) rfl (XT.ii_eq_t hc108) (by decide) (by decide) ?_
        show Steps p.tables e below (T101.setTop (mkF m 37 #[.val (.ref o0), .val (.ref b93), .val (.int (1 : Int32)), .val (.int (2 : Int32))] [])) _
        refine XS.aloadN X101.here hx rfl (hb hby d6_37) rfl rfl ?_
        show Steps p.tables e below (T101.setTop (mkF m 38 #[.val (.ref o0), .val (.ref b93), .val (.int (1 : Int32)), .val (.int (2 : Int32))] [(.ref o0)])) _
        refine XS.iloadN X101.here hx rfl (hb hby d6_38) rfl ?_
        exact kt
      obtain ⟨cl109, Ar109, q109, S109, M109, H109, G109⟩ := (id V0_104)
      have hin109 : ¬ ((2 : Int32) < 0 ∨ cl109.slots.size ≤ ((2 : Int32)).toNatClampNeg) := inb_of S109 ⟨by decide, by decide⟩
      refine Got.step (T' := T101) (fun tq kt => X101.iaload hx (j := (2 : Int32)) (v := (.int u2)) (by rw [e101]; exact Ar109.1) (State.isArrayOf_alike hZ.alike Ar109.2.1) Ar109.2.2 hin109 (H109.at hin109 rfl) (g := (mkF m 39 #[.val (.ref o0), .val (.ref b93), .val (.int (1 : Int32)), .val (.int (2 : Int32))] [(.int (2 : Int32)), (.ref o0)])) rfl rfl (hb hby d6_39) tq kt) ?_
      show Got p e below s _ _ _ _ T101 (mkF m 40 #[.val (.ref o0), .val (.ref b93), .val (.int (1 : Int32)), .val (.int (2 : Int32))] [(.int u2)])
      refine Got.step (T' := T101) (g' := (mkF m 42 #[.val (.ref o0), .val (.ref b93), .val (.int (1 : Int32)), .val (.int (2 : Int32))] [(.int (1 : Int32)), (.ref o0), (.int u2)])) (fun tq kt => ?_) ?_
      · show Steps p.tables e below (T101.setTop (mkF m 40 #[.val (.ref o0), .val (.ref b93), .val (.int (1 : Int32)), .val (.int (2 : Int32))] [(.int u2)])) _
        refine XS.aloadN X101.here hx rfl (hb hby d6_40) rfl rfl ?_
        show Steps p.tables e below (T101.setTop (mkF m 41 #[.val (.ref o0), .val (.ref b93), .val (.int (1 : Int32)), .val (.int (2 : Int32))] [(.ref o0), (.int u2)])) _
        refine XS.iloadN X101.here hx rfl (hb hby d6_41) rfl ?_
        exact kt
      obtain ⟨cl110, Ar110, q110, S110, M110, H110, G110⟩ := (id V0_104)
      have hin110 : ¬ ((1 : Int32) < 0 ∨ cl110.slots.size ≤ ((1 : Int32)).toNatClampNeg) := inb_of S110 ⟨by decide, by decide⟩
      refine Got.step (T' := T101) (fun tq kt => X101.iaload hx (j := (1 : Int32)) (v := (.int u1)) (by rw [e101]; exact Ar110.1) (State.isArrayOf_alike hZ.alike Ar110.2.1) Ar110.2.2 hin110 (H110.at hin110 rfl) (g := (mkF m 42 #[.val (.ref o0), .val (.ref b93), .val (.int (1 : Int32)), .val (.int (2 : Int32))] [(.int (1 : Int32)), (.ref o0), (.int u2)])) rfl rfl (hb hby d6_42) tq kt) ?_
      show Got p e below s _ _ _ _ T101 (mkF m 43 #[.val (.ref o0), .val (.ref b93), .val (.int (1 : Int32)), .val (.int (2 : Int32))] [(.int u1), (.int u2)])
      by_cases hc111 : (u2 = u1)
      · refine Got.step (T' := T101) (g' := (mkF m 52 #[.val (.ref o0), .val (.ref b93), .val (.int (2 : Int32)), .val (.int (2 : Int32))] [(.int (2 : Int32)), (.int (2 : Int32)), (.ref b93)])) (fun tq kt => ?_) ?_
        · show Steps p.tables e below (T101.setTop (mkF m 43 #[.val (.ref o0), .val (.ref b93), .val (.int (1 : Int32)), .val (.int (2 : Int32))] [(.int u1), (.int u2)])) _
          refine XS.icmpNo X101.here hx rfl (hb hby d6_43) rfl (XT.ii_ne_f hc111) ?_
          show Steps p.tables e below (T101.setTop (mkF m 46 #[.val (.ref o0), .val (.ref b93), .val (.int (1 : Int32)), .val (.int (2 : Int32))] [])) _
          refine XS.iinc X101.here hx rfl (hb hby d6_46) rfl (l' := #[.val (.ref o0), .val (.ref b93), .val (.int ((1 : Int32) + (1 : Int32))), .val (.int (2 : Int32))]) rfl ?_
          show Steps p.tables e below (T101.setTop (mkF m 49 #[.val (.ref o0), .val (.ref b93), .val (.int (2 : Int32)), .val (.int (2 : Int32))] [])) _
          refine XS.aloadN X101.here hx rfl (hb hby d6_49) rfl rfl ?_
          show Steps p.tables e below (T101.setTop (mkF m 50 #[.val (.ref o0), .val (.ref b93), .val (.int (2 : Int32)), .val (.int (2 : Int32))] [(.ref b93)])) _
          refine XS.iloadN X101.here hx rfl (hb hby d6_50) rfl ?_
          show Steps p.tables e below (T101.setTop (mkF m 51 #[.val (.ref o0), .val (.ref b93), .val (.int (2 : Int32)), .val (.int (2 : Int32))] [(.int (2 : Int32)), (.ref b93)])) _
          refine XS.iloadN X101.here hx rfl (hb hby d6_51) rfl ?_
          exact kt
        obtain ⟨cl112, Ar112, q112, S112, M112, H112, G112⟩ := (id V101)
        have hin112 : ¬ ((2 : Int32) < 0 ∨ cl112.slots.size ≤ ((2 : Int32)).toNatClampNeg) := inb_of S112 ⟨by decide, by decide⟩
        obtain ⟨T112, h112, X112, e112, W112, st112⟩ := stI X101 hx hZ e101 Ar112 (j := (2 : Int32)) hin112 (g := (mkF m 52 #[.val (.ref o0), .val (.ref b93), .val (.int (2 : Int32)), .val (.int (2 : Int32))] [(.int (2 : Int32)), (.int (2 : Int32)), (.ref b93)])) rfl rfl (hb hby d6_52)
        have Z0_113 : n0 ≤ h112.size := (Nat.le_trans Z0_102 (Keep.of_wr W112).1)
        have K0_114 : Keep h0 h112 [] := (K0_103.wr W112 (Or.inr sz_b93))
        have V0_115 : Arv Z h112 o0 ku .int (4 : Int32) [(.int u0), (.int u1), (.int u2), (.int u3)] (.int (0 : Int32)) := (V0_104.other W112 ne_o0_b93)
        have V112 : Arv Z h112 b93 k93 .int (4 : Int32) [(.int (0 : Int32)), (.int (1 : Int32)), (.int (2 : Int32)), (.int (0 : Int32))] (.int (0 : Int32)) := Arv.set Ar112 q112 S112 M112 H112 G112 rfl W112 2 rfl (Nat.le_of_ble_eq_true rfl)
        have N112 := Fr.snoc X112 N101 gn_b93
        refine Got.step st112 ?_
        show Got p e below s _ _ _ _ T112 (mkF m 53 #[.val (.ref o0), .val (.ref b93), .val (.int (2 : Int32)), .val (.int (2 : Int32))] [])
        refine Got.step (T' := T112) (g' := (mkF m 11 #[.val (.ref o0), .val (.ref b93), .val (.int (2 : Int32)), .val (.int (3 : Int32))] [(.ref o0), (.int (3 : Int32))])) (fun tq kt => ?_) ?_
        · show Steps p.tables e below (T112.setTop (mkF m 53 #[.val (.ref o0), .val (.ref b93), .val (.int (2 : Int32)), .val (.int (2 : Int32))] [])) _
          refine XS.iinc X112.here hx rfl (hb hby d6_53) rfl (l' := #[.val (.ref o0), .val (.ref b93), .val (.int (2 : Int32)), .val (.int ((2 : Int32) + (1 : Int32)))]) rfl ?_
          show Steps p.tables e below (T112.setTop (mkF m 56 #[.val (.ref o0), .val (.ref b93), .val (.int (2 : Int32)), .val (.int (3 : Int32))] [])) _
          refine XS.goto X112.here hx rfl (pc0 := 56) (pc' := 9) rfl (hb hby d6_56) (by decide) (by decide) ?_
          show Steps p.tables e below (T112.setTop (mkF m 9 #[.val (.ref o0), .val (.ref b93), .val (.int (2 : Int32)), .val (.int (3 : Int32))] [])) _
          refine XS.iloadN X112.here hx rfl (hb hby d6_9) rfl ?_
          show Steps p.tables e below (T112.setTop (mkF m 10 #[.val (.ref o0), .val (.ref b93), .val (.int (2 : Int32)), .val (.int (3 : Int32))] [(.int (3 : Int32))])) _
          refine XS.aloadN X112.here hx rfl (hb hby d6_10) rfl rfl ?_
          exact kt
        obtain ⟨cl116, Ar116, q116, S116, M116, H116, G116⟩ := (id V0_115)
        refine Got.step (T' := T112) (fun tq kt => X112.arraylength hx (cell := cl116) (by rw [e112]; exact Ar116.1) (State.isArrayOf_alike hZ.alike Ar116.2.1) (g := (mkF m 11 #[.val (.ref o0), .val (.ref b93), .val (.int (2 : Int32)), .val (.int (3 : Int32))] [(.ref o0), (.int (3 : Int32))])) rfl (rest := [(.int (3 : Int32))]) rfl (hb hby d6_11) tq kt) ?_
        rw [len_of S116 M116]
        show Got p e below s _ _ _ _ T112 (mkF m 12 #[.val (.ref o0), .val (.ref b93), .val (.int (2 : Int32)), .val (.int (3 : Int32))] [(.int (4 : Int32)), (.int (3 : Int32))])
        refine Got.step (T' := T112) (g' := (mkF m 21 #[.val (.ref o0), .val (.ref b93), .val (.int (2 : Int32)), .val (.int (3 : Int32))] [(.int (3 : Int32)), (.ref o0)])) (fun tq kt => ?_) ?_
        · show Steps p.tables e below (T112.setTop (mkF m 12 #[.val (.ref o0), .val (.ref b93), .val (.int (2 : Int32)), .val (.int (3 : Int32))] [(.int (4 : Int32)), (.int (3 : Int32))])) _
          refine XS.icmpNo X112.here hx rfl (hb hby d6_12) rfl (XT.ii_ge_f (by decide)) ?_
          show Steps p.tables e below (T112.setTop (mkF m 15 #[.val (.ref o0), .val (.ref b93), .val (.int (2 : Int32)), .val (.int (3 : Int32))] [])) _
          refine XS.iloadN X112.here hx rfl (hb hby d6_15) rfl ?_
          show Steps p.tables e below (T112.setTop (mkF m 16 #[.val (.ref o0), .val (.ref b93), .val (.int (2 : Int32)), .val (.int (3 : Int32))] [(.int (2 : Int32))])) _
          refine XS.ifNo X112.here hx rfl (hb hby d6_16) rfl (XT.i0_le_f (by decide)) ?_
          show Steps p.tables e below (T112.setTop (mkF m 19 #[.val (.ref o0), .val (.ref b93), .val (.int (2 : Int32)), .val (.int (3 : Int32))] [])) _
          refine XS.aloadN X112.here hx rfl (hb hby d6_19) rfl rfl ?_
          show Steps p.tables e below (T112.setTop (mkF m 20 #[.val (.ref o0), .val (.ref b93), .val (.int (2 : Int32)), .val (.int (3 : Int32))] [(.ref o0)])) _
          refine XS.iloadN X112.here hx rfl (hb hby d6_20) rfl ?_
          exact kt
        obtain ⟨cl117, Ar117, q117, S117, M117, H117, G117⟩ := (id V0_115)
        have hin117 : ¬ ((3 : Int32) < 0 ∨ cl117.slots.size ≤ ((3 : Int32)).toNatClampNeg) := inb_of S117 ⟨by decide, by decide⟩
        refine Got.step (T' := T112) (fun tq kt => X112.iaload hx (j := (3 : Int32)) (v := (.int u3)) (by rw [e112]; exact Ar117.1) (State.isArrayOf_alike hZ.alike Ar117.2.1) Ar117.2.2 hin117 (H117.at hin117 rfl) (g := (mkF m 21 #[.val (.ref o0), .val (.ref b93), .val (.int (2 : Int32)), .val (.int (3 : Int32))] [(.int (3 : Int32)), (.ref o0)])) rfl rfl (hb hby d6_21) tq kt) ?_
        show Got p e below s _ _ _ _ T112 (mkF m 22 #[.val (.ref o0), .val (.ref b93), .val (.int (2 : Int32)), .val (.int (3 : Int32))] [(.int u3)])
        refine Got.step (T' := T112) (g' := (mkF m 24 #[.val (.ref o0), .val (.ref b93), .val (.int (2 : Int32)), .val (.int (3 : Int32))] [(.int (2 : Int32)), (.ref o0), (.int u3)])) (fun tq kt => ?_) ?_
        · show Steps p.tables e below (T112.setTop (mkF m 22 #[.val (.ref o0), .val (.ref b93), .val (.int (2 : Int32)), .val (.int (3 : Int32))] [(.int u3)])) _
          refine XS.aloadN X112.here hx rfl (hb hby d6_22) rfl rfl ?_
          show Steps p.tables e below (T112.setTop (mkF m 23 #[.val (.ref o0), .val (.ref b93), .val (.int (2 : Int32)), .val (.int (3 : Int32))] [(.ref o0), (.int u3)])) _
          refine XS.iloadN X112.here hx rfl (hb hby d6_23) rfl ?_
          exact kt
        obtain ⟨cl118, Ar118, q118, S118, M118, H118, G118⟩ := (id V0_115)
        have hin118 : ¬ ((2 : Int32) < 0 ∨ cl118.slots.size ≤ ((2 : Int32)).toNatClampNeg) := inb_of S118 ⟨by decide, by decide⟩
        refine Got.step (T' := T112) (fun tq kt => X112.iaload hx (j := (2 : Int32)) (v := (.int u2)) (by rw [e112]; exact Ar118.1) (State.isArrayOf_alike hZ.alike Ar118.2.1) Ar118.2.2 hin118 (H118.at hin118 rfl) (g := (mkF m 24 #[.val (.ref o0), .val (.ref b93), .val (.int (2 : Int32)), .val (.int (3 : Int32))] [(.int (2 : Int32)), (.ref o0), (.int u3)])) rfl rfl (hb hby d6_24) tq kt) ?_
        show Got p e below s _ _ _ _ T112 (mkF m 25 #[.val (.ref o0), .val (.ref b93), .val (.int (2 : Int32)), .val (.int (3 : Int32))] [(.int u2), (.int u3)])
        by_cases hc119 : (u3 = u2)
        · refine Got.step (T' := T112) (g' := (mkF m 39 #[.val (.ref o0), .val (.ref b93), .val (.int (2 : Int32)), .val (.int (3 : Int32))] [(.int (3 : Int32)), (.ref o0)])) (fun tq kt => ?_) ?_
          · show Steps p.tables e below (T112.setTop (mkF m 25 #[.val (.ref o0), .val (.ref b93), .val (.int (2 : Int32)), .val (.int (3 : Int32))] [(.int u2), (.int u3)])) _
            refine XS.icmpYes X112.here hx rfl (pc0 := 25) (pc' := 37) rfl (hb hby d6_25) rfl (XT.ii_eq_t hc119) (by decide) (by decide) ?_
            show Steps p.tables e below (T112.setTop (mkF m 37 #[.val (.ref o0), .val (.ref b93), .val (.int (2 : Int32)), .val (.int (3 : Int32))] [])) _
            refine XS.aloadN X112.here hx rfl (hb hby d6_37) rfl rfl ?_
            show Steps p.tables e below (T112.setTop (mkF m 38 #[.val (.ref o0), .val (.ref b93), .val (.int (2 : Int32)), .val (.int (3 : Int32))] [(.ref o0)])) _
            refine XS.iloadN X112.here hx rfl (hb hby d6_38) rfl ?_
            exact kt
          obtain ⟨cl120, Ar120, q120, S120, M120, H120, G120⟩ := (id V0_115)
          have hin120 : ¬ ((3 : Int32) < 0 ∨ cl120.slots.size ≤ ((3 : Int32)).toNatClampNeg) := inb_of S120 ⟨by decide, by decide⟩
          refine Got.step (T' := T112) (fun tq kt => X112.iaload hx (j := (3 : Int32)) (v := (.int u3)) (by rw [e112]; exact Ar120.1) (State.isArrayOf_alike hZ.alike Ar120.2.1) Ar120.2.2 hin120 (H120.at hin120 rfl) (g := (mkF m 39 #[.val (.ref o0), .val (.ref b93), .val (.int (2 : Int32)), .val (.int (3 : Int32))] [(.int (3 : Int32)), (.ref o0)])) rfl rfl (hb hby d6_39) tq kt) ?_
          show Got p e below s _ _ _ _ T112 (mkF m 40 #[.val (.ref o0), .val (.ref b93), .val (.int (2 : Int32)), .val (.int (3 : Int32))] [(.int u3)])
          refine Got.step (T' := T112) (g' := (mkF m 42 #[.val (.ref o0), .val (.ref b93), .val (.int (2 : Int32)), .val (.int (3 : Int32))] [(.int (2 : Int32)), (.ref o0), (.int u3)])) (fun tq kt => ?_) ?_
          · show Steps p.tables e below (T112.setTop (mkF m 40 #[.val (.ref o0), .val (.ref b93), .val (.int (2 : Int32)), .val (.int (3 : Int32))] [(.int u3)])) _
            refine XS.aloadN X112.here hx rfl (hb hby d6_40) rfl rfl ?_
            show Steps p.tables e below (T112.setTop (mkF m 41 #[.val (.ref o0), .val (.ref b93), .val (.int (2 : Int32)), .val (.int (3 : Int32))] [(.ref o0), (.int u3)])) _
            refine XS.iloadN X112.here hx rfl (hb hby d6_41) rfl ?_
            exact kt
          obtain ⟨cl121, Ar121, q121, S121, M121, H121, G121⟩ := (id V0_115)
          have hin121 : ¬ ((2 : Int32) < 0 ∨ cl121.slots.size ≤ ((2 : Int32)).toNatClampNeg) := inb_of S121 ⟨by decide, by decide⟩
          refine Got.step (T' := T112) (fun tq kt => X112.iaload hx (j := (2 : Int32)) (v := (.int u2)) (by rw [e112]; exact Ar121.1) (State.isArrayOf_alike hZ.alike Ar121.2.1) Ar121.2.2 hin121 (H121.at hin121 rfl) (g := (mkF m 42 #[.val (.ref o0), .val (.ref b93), .val (.int (2 : Int32)), .val (.int (3 : Int32))] [(.int (2 : Int32)), (.ref o0), (.int u3)])) rfl rfl (hb hby d6_42) tq kt) ?_
          show Got p e below s _ _ _ _ T112 (mkF m 43 #[.val (.ref o0), .val (.ref b93), .val (.int (2 : Int32)), .val (.int (3 : Int32))] [(.int u2), (.int u3)])
          by_cases hc122 : (u3 = u2)
          · refine Got.step (T' := T112) (g' := (mkF m 52 #[.val (.ref o0), .val (.ref b93), .val (.int (3 : Int32)), .val (.int (3 : Int32))] [(.int (3 : Int32)), (.int (3 : Int32)), (.ref b93)])) (fun tq kt => ?_) ?_
            · show Steps p.tables e below (T112.setTop (mkF m 43 #[.val (.ref o0), .val (.ref b93), .val (.int (2 : Int32)), .val (.int (3 : Int32))] [(.int u2), (.int u3)])) _
              refine XS.icmpNo X112.here hx rfl (hb hby d6_43) rfl (XT.ii_ne_f hc122) ?_
              show Steps p.tables e below (T112.setTop (mkF m 46 #[.val (.ref o0), .val (.ref b93), .val (.int (2 : Int32)), .val (.int (3 : Int32))] [])) _
              refine XS.iinc X112.here hx rfl (hb hby d6_46) rfl (l' := #[.val (.ref o0), .val (.ref b93), .val (.int ((2 : Int32) + (1 : Int32))), .val (.int (3 : Int32))]) rfl ?_
              show Steps p.tables e below (T112.setTop (mkF m 49 #[.val (.ref o0), .val (.ref b93), .val (.int (3 : Int32)), .val (.int (3 : Int32))] [])) _
              refine XS.aloadN X112.here hx rfl (hb hby d6_49) rfl rfl ?_
              show Steps p.tables e below (T112.setTop (mkF m 50 #[.val (.ref o0), .val (.ref b93), .val (.int (3 : Int32)), .val (.int (3 : Int32))] [(.ref b93)])) _
              refine XS.iloadN X112.here hx rfl (hb hby d6_50) rfl ?_
              show Steps p.tables e below (T112.setTop (mkF m 51 #[.val (.ref o0), .val (.ref b93), .val (.int (3 : Int32)), .val (.int (3 : Int32))] [(.int (3 : Int32)), (.ref b93)])) _
              refine XS.iloadN X112.here hx rfl (hb hby d6_51) rfl ?_
              exact kt
            obtain ⟨cl123, Ar123, q123, S123, M123, H123, G123⟩ := (id V112)
            have hin123 : ¬ ((3 : Int32) < 0 ∨ cl123.slots.size ≤ ((3 : Int32)).toNatClampNeg) := inb_of S123 ⟨by decide, by decide⟩
            obtain ⟨T123, h123, X123, e123, W123, st123⟩ := stI X112 hx hZ e112 Ar123 (j := (3 : Int32)) hin123 (g := (mkF m 52 #[.val (.ref o0), .val (.ref b93), .val (.int (3 : Int32)), .val (.int (3 : Int32))] [(.int (3 : Int32)), (.int (3 : Int32)), (.ref b93)])) rfl rfl (hb hby d6_52)
            have Z0_124 : n0 ≤ h123.size := (Nat.le_trans Z0_113 (Keep.of_wr W123).1)
            have K0_125 : Keep h0 h123 [] := (K0_114.wr W123 (Or.inr sz_b93))
            have V0_126 : Arv Z h123 o0 ku .int (4 : Int32) [(.int u0), (.int u1), (.int u2), (.int u3)] (.int (0 : Int32)) := (V0_115.other W123 ne_o0_b93)
            have V123 : Arv Z h123 b93 k93 .int (4 : Int32) [(.int (0 : Int32)), (.int (1 : Int32)), (.int (2 : Int32)), (.int (3 : Int32))] (.int (0 : Int32)) := Arv.set Ar123 q123 S123 M123 H123 G123 rfl W123 3 rfl (Nat.le_of_ble_eq_true rfl)
            have N123 := Fr.snoc X123 N112 gn_b93
            refine Got.step st123 ?_
            show Got p e below s _ _ _ _ T123 (mkF m 53 #[.val (.ref o0), .val (.ref b93), .val (.int (3 : Int32)), .val (.int (3 : Int32))] [])
            refine Got.step (T' := T123) (g' := (mkF m 11 #[.val (.ref o0), .val (.ref b93), .val (.int (3 : Int32)), .val (.int (4 : Int32))] [(.ref o0), (.int (4 : Int32))])) (fun tq kt => ?_) ?_
            · show Steps p.tables e below (T123.setTop (mkF m 53 #[.val (.ref o0), .val (.ref b93), .val (.int (3 : Int32)), .val (.int (3 : Int32))] [])) _
              refine XS.iinc X123.here hx rfl (hb hby d6_53) rfl (l' := #[.val (.ref o0), .val (.ref b93), .val (.int (3 : Int32)), .val (.int ((3 : Int32) + (1 : Int32)))]) rfl ?_
              show Steps p.tables e below (T123.setTop (mkF m 56 #[.val (.ref o0), .val (.ref b93), .val (.int (3 : Int32)), .val (.int (4 : Int32))] [])) _
              refine XS.goto X123.here hx rfl (pc0 := 56) (pc' := 9) rfl (hb hby d6_56) (by decide) (by decide) ?_
              show Steps p.tables e below (T123.setTop (mkF m 9 #[.val (.ref o0), .val (.ref b93), .val (.int (3 : Int32)), .val (.int (4 : Int32))] [])) _
              refine XS.iloadN X123.here hx rfl (hb hby d6_9) rfl ?_
              show Steps p.tables e below (T123.setTop (mkF m 10 #[.val (.ref o0), .val (.ref b93), .val (.int (3 : Int32)), .val (.int (4 : Int32))] [(.int (4 : Int32))])) _
              refine XS.aloadN X123.here hx rfl (hb hby d6_10) rfl rfl ?_
              exact kt
            obtain ⟨cl127, Ar127, q127, S127, M127, H127, G127⟩ := (id V0_126)
            refine Got.step (T' := T123) (fun tq kt => X123.arraylength hx (cell := cl127) (by rw [e123]; exact Ar127.1) (State.isArrayOf_alike hZ.alike Ar127.2.1) (g := (mkF m 11 #[.val (.ref o0), .val (.ref b93), .val (.int (3 : Int32)), .val (.int (4 : Int32))] [(.ref o0), (.int (4 : Int32))])) rfl (rest := [(.int (4 : Int32))]) rfl (hb hby d6_11) tq kt) ?_
            rw [len_of S127 M127]
            show Got p e below s _ _ _ _ T123 (mkF m 12 #[.val (.ref o0), .val (.ref b93), .val (.int (3 : Int32)), .val (.int (4 : Int32))] [(.int (4 : Int32)), (.int (4 : Int32))])
            refine Got.step (T' := T123) (g' := (mkF m 60 #[.val (.ref o0), .val (.ref b93), .val (.int (3 : Int32)), .val (.int (4 : Int32))] [(.ref b93)])) (fun tq kt => ?_) ?_
            · show Steps p.tables e below (T123.setTop (mkF m 12 #[.val (.ref o0), .val (.ref b93), .val (.int (3 : Int32)), .val (.int (4 : Int32))] [(.int (4 : Int32)), (.int (4 : Int32))])) _
              refine XS.icmpYes X123.here hx rfl (pc0 := 12) (pc' := 59) rfl (hb hby d6_12) rfl (XT.ii_ge_t Int32.lt_irrefl) (by decide) (by decide) ?_
              show Steps p.tables e below (T123.setTop (mkF m 59 #[.val (.ref o0), .val (.ref b93), .val (.int (3 : Int32)), .val (.int (4 : Int32))] [])) _
              refine XS.aloadN X123.here hx rfl (hb hby d6_59) rfl rfl ?_
              exact kt
            rw [← g93]
            exact Got.retA X123 hx Bd.returns rfl hlk (hb hby d6_60) rfl ⟨N123, by rw [e123]; exact K0_125, k93, by rw [e123]; unfold ptab4; rw [((if_pos hc100).trans ((if_pos hc108).trans ((if_pos hc111).trans ((if_pos hc119).trans (if_pos hc122)))))]; exact V123⟩ (by decide) (by decide)
          · refine Got.step (T' := T112) (g' := (mkF m 52 #[.val (.ref o0), .val (.ref b93), .val (.int (2 : Int32)), .val (.int (3 : Int32))] [(.int (2 : Int32)), (.int (3 : Int32)), (.ref b93)])) (fun tq kt => ?_) ?_
            · show Steps p.tables e below (T112.setTop (mkF m 43 #[.val (.ref o0), .val (.ref b93), .val (.int (2 : Int32)), .val (.int (3 : Int32))] [(.int u2), (.int u3)])) _
              refine XS.icmpYes X112.here hx rfl (pc0 := 43) (pc' := 49) rfl (hb hby d6_43) rfl (XT.ii_ne_t hc122) (by decide) (by decide) ?_
              show Steps p.tables e below (T112.setTop (mkF m 49 #[.val (.ref o0), .val (.ref b93), .val (.int (2 : Int32)), .val (.int (3 : Int32))] [])) _
              refine XS.aloadN X112.here hx rfl (hb hby d6_49) rfl rfl ?_
              show Steps p.tables e below (T112.setTop (mkF m 50 #[.val (.ref o0), .val (.ref b93), .val (.int (2 : Int32)), .val (.int (3 : Int32))] [(.ref b93)])) _
              refine XS.iloadN X112.here hx rfl (hb hby d6_50) rfl ?_
              show Steps p.tables e below (T112.setTop (mkF m 51 #[.val (.ref o0), .val (.ref b93), .val (.int (2 : Int32)), .val (.int (3 : Int32))] [(.int (3 : Int32)), (.ref b93)])) _
              refine XS.iloadN X112.here hx rfl (hb hby d6_51) rfl ?_
              exact kt
            obtain ⟨cl128, Ar128, q128, S128, M128, H128, G128⟩ := (id V112)
            have hin128 : ¬ ((3 : Int32) < 0 ∨ cl128.slots.size ≤ ((3 : Int32)).toNatClampNeg) := inb_of S128 ⟨by decide, by decide⟩
            obtain ⟨T128, h128, X128, e128, W128, st128⟩ := stI X112 hx hZ e112 Ar128 (j := (3 : Int32)) hin128 (g := (mkF m 52 #[.val (.ref o0), .val (.ref b93), .val (.int (2 : Int32)), .val (.int (3 : Int32))] [(.int (2 : Int32)), (.int (3 : Int32)), (.ref b93)])) rfl rfl (hb hby d6_52)
            have Z0_129 : n0 ≤ h128.size := (Nat.le_trans Z0_113 (Keep.of_wr W128).1)
            have K0_130 : Keep h0 h128 [] := (K0_114.wr W128 (Or.inr sz_b93))
            have V0_131 : Arv Z h128 o0 ku .int (4 : Int32) [(.int u0), (.int u1), (.int u2), (.int u3)] (.int (0 : Int32)) := (V0_115.other W128 ne_o0_b93)
            have V128 : Arv Z h128 b93 k93 .int (4 : Int32) [(.int (0 : Int32)), (.int (1 : Int32)), (.int (2 : Int32)), (.int (2 : Int32))] (.int (0 : Int32)) := Arv.set Ar128 q128 S128 M128 H128 G128 rfl W128 3 rfl (Nat.le_of_ble_eq_true rfl)
            have N128 := Fr.snoc X128 N112 gn_b93
            refine Got.step st128 ?_
            show Got p e below s _ _ _ _ T128 (mkF m 53 #[.val (.ref o0), .val (.ref b93), .val (.int (2 : Int32)), .val (.int (3 : Int32))] [])
            refine Got.step (T' := T128) (g' := (mkF m 11 #[.val (.ref o0), .val (.ref b93), .val (.int (2 : Int32)), .val (.int (4 : Int32))] [(.ref o0), (.int (4 : Int32))])) (fun tq kt => ?_) ?_
            · show Steps p.tables e below (T128.setTop (mkF m 53 #[.val (.ref o0), .val (.ref b93), .val (.int (2 : Int32)), .val (.int (3 : Int32))] [])) _
              refine XS.iinc X128.here hx rfl (hb hby d6_53) rfl (l' := #[.val (.ref o0), .val (.ref b93), .val (.int (2 : Int32)), .val (.int ((3 : Int32) + (1 : Int32)))]) rfl ?_
              show Steps p.tables e below (T128.setTop (mkF m 56 #[.val (.ref o0), .val (.ref b93), .val (.int (2 : Int32)), .val (.int (4 : Int32))] [])) _
              refine XS.goto X128.here hx rfl (pc0 := 56) (pc' := 9) rfl (hb hby d6_56) (by decide) (by decide) ?_
              show Steps p.tables e below (T128.setTop (mkF m 9 #[.val (.ref o0), .val (.ref b93), .val (.int (2 : Int32)), .val (.int (4 : Int32))] [])) _
              refine XS.iloadN X128.here hx rfl (hb hby d6_9) rfl ?_
              show Steps p.tables e below (T128.setTop (mkF m 10 #[.val (.ref o0), .val (.ref b93), .val (.int (2 : Int32)), .val (.int (4 : Int32))] [(.int (4 : Int32))])) _
              refine XS.aloadN X128.here hx rfl (hb hby d6_10) rfl rfl ?_
              exact kt
            obtain ⟨cl132, Ar132, q132, S132, M132, H132, G132⟩ := (id V0_131)
            refine Got.step (T' := T128) (fun tq kt => X128.arraylength hx (cell := cl132) (by rw [e128]; exact Ar132.1) (State.isArrayOf_alike hZ.alike Ar132.2.1) (g := (mkF m 11 #[.val (.ref o0), .val (.ref b93), .val (.int (2 : Int32)), .val (.int (4 : Int32))] [(.ref o0), (.int (4 : Int32))])) rfl (rest := [(.int (4 : Int32))]) rfl (hb hby d6_11) tq kt) ?_
            rw [len_of S132 M132]
            show Got p e below s _ _ _ _ T128 (mkF m 12 #[.val (.ref o0), .val (.ref b93), .val (.int (2 : Int32)), .val (.int (4 : Int32))] [(.int (4 : Int32)), (.int (4 : Int32))])
            refine Got.step (T' := T128) (g' := (mkF m 60 #[.val (.ref o0), .val (.ref b93), .val (.int (2 : Int32)), .val (.int (4 : Int32))] [(.ref b93)])) (fun tq kt => ?_) ?_
            · show Steps p.tables e below (T128.setTop (mkF m 12 #[.val (.ref o0), .val (.ref b93), .val (.int (2 : Int32)), .val (.int (4 : Int32))] [(.int (4 : Int32)), (.int (4 : Int32))])) _
              refine XS.icmpYes X128.here hx rfl (pc0 := 12) (pc' := 59) rfl (hb hby d6_12) rfl (XT.ii_ge_t Int32.lt_irrefl) (by decide) (by decide) ?_
              show Steps p.tables e below (T128.setTop (mkF m 59 #[.val (.ref o0), .val (.ref b93), .val (.int (2 : Int32)), .val (.int (4 : Int32))] [])) _
              refine XS.aloadN X128.here hx rfl (hb hby d6_59) rfl rfl ?_
              exact kt
            rw [← g93]
            exact Got.retA X128 hx Bd.returns rfl hlk (hb hby d6_60) rfl ⟨N128, by rw [e128]; exact K0_130, k93, by rw [e128]; unfold ptab4; rw [((if_pos hc100).trans ((if_pos hc108).trans ((if_pos hc111).trans ((if_pos hc119).trans (if_neg hc122)))))]; exact V128⟩ (by decide) (by decide)
        · refine Got.step (T' := T112) (g' := (mkF m 32 #[.val (.ref o0), .val (.ref b93), .val (.int (2 : Int32)), .val (.int (3 : Int32))] [(.int (1 : Int32)), (.ref b93)])) (fun tq kt => ?_) ?_
          · show Steps p.tables e below (T112.setTop (mkF m 25 #[.val (.ref o0), .val (.ref b93), .val (.int (2 : Int32)), .val (.int (3 : Int32))] [(.int u2), (.int u3)])) _
            refine XS.icmpNo X112.here hx rfl (hb hby d6_25) rfl (XT.ii_eq_f hc119) ?_
            show Steps p.tables e below (T112.setTop (mkF m 28 #[.val (.ref o0), .val (.ref b93), .val (.int (2 : Int32)), .val (.int (3 : Int32))] [])) _
            refine XS.aloadN X112.here hx rfl (hb hby d6_28) rfl rfl ?_
            show Steps p.tables e below (T112.setTop (mkF m 29 #[.val (.ref o0), .val (.ref b93), .val (.int (2 : Int32)), .val (.int (3 : Int32))] [(.ref b93)])) _
            refine XS.iloadN X112.here hx rfl (hb hby d6_29) rfl ?_
            show Steps p.tables e below (T112.setTop (mkF m 30 #[.val (.ref o0), .val (.ref b93), .val (.int (2 : Int32)), .val (.int (3 : Int32))] [(.int (2 : Int32)), (.ref b93)])) _
            refine XS.iconst X112.here hx rfl (hb hby d6_30) ?_
            show Steps p.tables e below (T112.setTop (mkF m 31 #[.val (.ref o0), .val (.ref b93), .val (.int (2 : Int32)), .val (.int (3 : Int32))] [(.int (1 : Int32)), (.int (2 : Int32)), (.ref b93)])) _
            refine XS.isub X112.here hx rfl (hb hby d6_31) rfl ?_
            exact kt
          obtain ⟨cl133, Ar133, q133, S133, M133, H133, G133⟩ := (id V112)
          have hin133 : ¬ ((1 : Int32) < 0 ∨ cl133.slots.size ≤ ((1 : Int32)).toNatClampNeg) := inb_of S133 ⟨by decide, by decide⟩
          refine Got.step (T' := T112) (fun tq kt => X112.iaload hx (j := (1 : Int32)) (v := (.int (1 : Int32))) (by rw [e112]; exact Ar133.1) (State.isArrayOf_alike hZ.alike Ar133.2.1) Ar133.2.2 hin133 (H133.at hin133 rfl) (g := (mkF m 32 #[.val (.ref o0), .val (.ref b93), .val (.int (2 : Int32)), .val (.int (3 : Int32))] [(.int (1 : Int32)), (.ref b93)])) rfl rfl (hb hby d6_32) tq kt) ?_
          show Got p e below s _ _ _ _ T112 (mkF m 33 #[.val (.ref o0), .val (.ref b93), .val (.int (2 : Int32)), .val (.int (3 : Int32))] [(.int (1 : Int32))])
          refine Got.step (T' := T112) (g' := (mkF m 21 #[.val (.ref o0), .val (.ref b93), .val (.int (1 : Int32)), .val (.int (3 : Int32))] [(.int (3 : Int32)), (.ref o0)])) (fun tq kt => ?_) ?_
          · show Steps p.tables e below (T112.setTop (mkF m 33 #[.val (.ref o0), .val (.ref b93), .val (.int (2 : Int32)), .val (.int (3 : Int32))] [(.int (1 : Int32))])) _
            refine XS.istoreN X112.here hx rfl (hb hby d6_33) rfl (l' := #[.val (.ref o0), .val (.ref b93), .val (.int (1 : Int32)), .val (.int (3 : Int32))]) rfl ?_
            show Steps p.tables e below (T112.setTop (mkF m 34 #[.val (.ref o0), .val (.ref b93), .val (.int (1 : Int32)), .val (.int (3 : Int32))] [])) _
            refine XS.goto X112.here hx rfl (pc0 := 34) (pc' := 15) rfl (hb hby d6_34) (by decide) (by decide) ?_
            show Steps p.tables e below (T112.setTop (mkF m 15 #[.val (.ref o0), .val (.ref b93), .val (.int (1 : Int32)), .val (.int (3 : Int32))] [])) _
            refine XS.iloadN X112.here hx rfl (hb hby d6_15) rfl ?_
            show Steps p.tables e below (T112.setTop (mkF m 16 #[.val (.ref o0), .val (.ref b93), .val (.int (1 : Int32)), .val (.int (3 : Int32))] [(.int (1 : Int32))])) _
            refine XS.ifNo X112.here hx rfl (hb hby d6_16) rfl (XT.i0_le_f (by decide)) ?_
            show Steps p.tables e below (T112.setTop (mkF m 19 #[.val (.ref o0), .val (.ref b93), .val (.int (1 : Int32)), .val (.int (3 : Int32))] [])) _
            refine XS.aloadN X112.here hx rfl (hb hby d6_19) rfl rfl ?_
            show Steps p.tables e below (T112.setTop (mkF m 20 #[.val (.ref o0), .val (.ref b93), .val (.int (1 : Int32)), .val (.int (3 : Int32))] [(.ref o0)])) _
            refine XS.iloadN X112.here hx rfl (hb hby d6_20) rfl ?_
            exact kt
          obtain ⟨cl134, Ar134, q134, S134, M134, H134, G134⟩ := (id V0_115)
          have hin134 : ¬ ((3 : Int32) < 0 ∨ cl134.slots.size ≤ ((3 : Int32)).toNatClampNeg) := inb_of S134 ⟨by decide, by decide⟩
          refine Got.step (T' := T112) (fun tq kt => X112.iaload hx (j := (3 : Int32)) (v := (.int u3)) (by rw [e112]; exact Ar134.1) (State.isArrayOf_alike hZ.alike Ar134.2.1) Ar134.2.2 hin134 (H134.at hin134 rfl) (g := (mkF m 21 #[.val (.ref o0), .val (.ref b93), .val (.int (1 : Int32)), .val (.int (3 : Int32))] [(.int (3 : Int32)), (.ref o0)])) rfl rfl (hb hby d6_21) tq kt) ?_
          show Got p e below s _ _ _ _ T112 (mkF m 22 #[.val (.ref o0), .val (.ref b93), .val (.int (1 : Int32)), .val (.int (3 : Int32))] [(.int u3)])
          refine Got.step (T' := T112) (g' := (mkF m 24 #[.val (.ref o0), .val (.ref b93), .val (.int (1 : Int32)), .val (.int (3 : Int32))] [(.int (1 : Int32)), (.ref o0), (.int u3)])) (fun tq kt => ?_) ?_
          · show Steps p.tables e below (T112.setTop (mkF m 22 #[.val (.ref o0), .val (.ref b93), .val (.int (1 : Int32)), .val (.int (3 : Int32))] [(.int u3)])) _
            refine XS.aloadN X112.here hx rfl (hb hby d6_22) rfl rfl ?_
            show Steps p.tables e below (T112.setTop (mkF m 23 #[.val (.ref o0), .val (.ref b93), .val (.int (1 : Int32)), .val (.int (3 : Int32))] [(.ref o0), (.int u3)])) _
            refine XS.iloadN X112.here hx rfl (hb hby d6_23) rfl ?_
            exact kt
          obtain ⟨cl135, Ar135, q135, S135, M135, H135, G135⟩ := (id V0_115)
          have hin135 : ¬ ((1 : Int32) < 0 ∨ cl135.slots.size ≤ ((1 : Int32)).toNatClampNeg) := inb_of S135 ⟨by decide, by decide⟩
          refine Got.step (T' := T112) (fun tq kt => X112.iaload hx (j := (1 : Int32)) (v := (.int u1)) (by rw [e112]; exact Ar135.1) (State.isArrayOf_alike hZ.alike Ar135.2.1) Ar135.2.2 hin135 (H135.at hin135 rfl) (g := (mkF m 24 #[.val (.ref o0), .val (.ref b93), .val (.int (1 : Int32)), .val (.int (3 : Int32))] [(.int (1 : Int32)), (.ref o0), (.int u3)])) rfl rfl (hb hby d6_24) tq kt) ?_
          show Got p e below s _ _ _ _ T112 (mkF m 25 #[.val (.ref o0), .val (.ref b93), .val (.int (1 : Int32)), .val (.int (3 : Int32))] [(.int u1), (.int u3)])
          by_cases hc136 : (u3 = u1)
          · refine Got.step (T' := T112) (g' := (mkF m 39 #[.val (.ref o0), .val (.ref b93), .val (.int (1 : Int32)), .val (.int (3 : Int32))] [(.int (3 : Int32)), (.ref o0)])) (fun tq kt => ?_) ?_
            · show Steps p.tables e below (T112.setTop (mkF m 25 #[.val (.ref o0), .val (.ref b93), .val (.int (1 : Int32)), .val (.int (3 : Int32))] [(.int u1), (.int u3)])) _
              refine XS.icmpYes X112.here hx rfl (pc0 := 25) (pc' := 37) rfl (hb hby d6_25) rfl (XT.ii_eq_t hc136) (by decide) (by decide) ?_
              show Steps p.tables e below (T112.setTop (mkF m 37 #[.val (.ref o0), .val (.ref b93), .val (.int (1 : Int32)), .val (.int (3 : Int32))] [])) _
              refine XS.aloadN X112.here hx rfl (hb hby d6_37) rfl rfl ?_
              show Steps p.tables e below (T112.setTop (mkF m 38 #[.val (.ref o0), .val (.ref b93), .val (.int (1 : Int32)), .val (.int (3 : Int32))] [(.ref o0)])) _
              refine XS.iloadN X112.here hx rfl (hb hby d6_38) rfl ?_
              exact kt
            obtain ⟨cl137, Ar137, q137, S137, M137, H137, G137⟩ := (id V0_115)
            have hin137 : ¬ ((3 : Int32) < 0 ∨ cl137.slots.size ≤ ((3 : Int32)).toNatClampNeg) := inb_of S137 ⟨by decide, by decide⟩
            refine Got.step (T' := T112) (fun tq kt => X112.iaload hx (j := (3 : Int32)) (v := (.int u3)) (by rw [e112]; exact Ar137.1) (State.isArrayOf_alike hZ.alike Ar137.2.1) Ar137.2.2 hin137 (H137.at hin137 rfl) (g := (mkF m 39 #[.val (.ref o0), .val (.ref b93), .val (.int (1 : Int32)), .val (.int (3 : Int32))] [(.int (3 : Int32)), (.ref o0)])) rfl rfl (hb hby d6_39) tq kt) ?_
            show Got p e below s _ _ _ _ T112 (mkF m 40 #[.val (.ref o0), .val (.ref b93), .val (.int (1 : Int32)), .val (.int (3 : Int32))] [(.int u3)])
            refine Got.step (T' := T112) (g' := (mkF m 42 #[.val (.ref o0), .val (.ref b93), .val (.int (1 : Int32)), .val (.int (3 : Int32))] [(.int (1 : Int32)), (.ref o0), (.int u3)])) (fun tq kt => ?_) ?_
            · show Steps p.tables e below (T112.setTop (mkF m 40 #[.val (.ref o0), .val (.ref b93), .val (.int (1 : Int32)), .val (.int (3 : Int32))] [(.int u3)])) _
              refine XS.aloadN X112.here hx rfl (hb hby d6_40) rfl rfl ?_
              show Steps p.tables e below (T112.setTop (mkF m 41 #[.val (.ref o0), .val (.ref b93), .val (.int (1 : Int32)), .val (.int (3 : Int32))] [(.ref o0), (.int u3)])) _
              refine XS.iloadN X112.here hx rfl (hb hby d6_41) rfl ?_
              exact kt
            obtain ⟨cl138, Ar138, q138, S138, M138, H138, G138⟩ := (id V0_115)
            have hin138 : ¬ ((1 : Int32) < 0 ∨ cl138.slots.size ≤ ((1 : Int32)).toNatClampNeg) := inb_of S138 ⟨by decide, by decide⟩
            refine Got.step (T' := T112) (fun tq kt => X112.iaload hx (j := (1 : Int32)) (v := (.int u1)) (by rw [e112]; exact Ar138.1) (State.isArrayOf_alike hZ.alike Ar138.2.1) Ar138.2.2 hin138 (H138.at hin138 rfl) (g := (mkF m 42 #[.val (.ref o0), .val (.ref b93), .val (.int (1 : Int32)), .val (.int (3 : Int32))] [(.int (1 : Int32)), (.ref o0), (.int u3)])) rfl rfl (hb hby d6_42) tq kt) ?_
            show Got p e below s _ _ _ _ T112 (mkF m 43 #[.val (.ref o0), .val (.ref b93), .val (.int (1 : Int32)), .val (.int (3 : Int32))] [(.int u1), (.int u3)])
            by_cases hc139 : (u3 = u1)
            · refine Got.step (T' := T112) (g' := (mkF m 52 #[.val (.ref o0), .val (.ref b93), .val (.int (2 : Int32)), .val (.int (3 : Int32))] [(.int (2 : Int32)), (.int (3 : Int32)), (.ref b93)])) (fun tq kt => ?_) ?_
              · show Steps p.tables e below (T112.setTop (mkF m 43 #[.val (.ref o0), .val (.ref b93), .val (.int (1 : Int32)), .val (.int (3 : Int32))] [(.int u1), (.int u3)])) _
                refine XS.icmpNo X112.here hx rfl (hb hby d6_43) rfl (XT.ii_ne_f hc139) ?_
                show Steps p.tables e below (T112.setTop (mkF m 46 #[.val (.ref o0), .val (.ref b93), .val (.int (1 : Int32)), .val (.int (3 : Int32))] [])) _
                refine XS.iinc X112.here hx rfl (hb hby d6_46) rfl (l' := #[.val (.ref o0), .val (.ref b93), .val (.int ((1 : Int32) + (1 : Int32))), .val (.int (3 : Int32))]) rfl ?_
                show Steps p.tables e below (T112.setTop (mkF m 49 #[.val (.ref o0), .val (.ref b93), .val (.int (2 : Int32)), .val (.int (3 : Int32))] [])) _
                refine XS.aloadN X112.here hx rfl (hb hby d6_49) rfl rfl ?_
                show Steps p.tables e below (T112.setTop (mkF m 50 #[.val (.ref o0), .val (.ref b93), .val (.int (2 : Int32)), .val (.int (3 : Int32))] [(.ref b93)])) _
                refine XS.iloadN X112.here hx rfl (hb hby d6_50) rfl ?_
                show Steps p.tables e below (T112.setTop (mkF m 51 #[.val (.ref o0), .val (.ref b93), .val (.int (2 : Int32)), .val (.int (3 : Int32))] [(.int (3 : Int32)), (.ref b93)])) _
                refine XS.iloadN X112.here hx rfl (hb hby d6_51) rfl ?_
                exact kt
              obtain ⟨cl140, Ar140, q140, S140, M140, H140, G140⟩ := (id V112)
              have hin140 : ¬ ((3 : Int32) < 0 ∨ cl140.slots.size ≤ ((3 : Int32)).toNatClampNeg) := inb_of S140 ⟨by decide, by decide⟩
              obtain ⟨T140, h140, X140, e140, W140, st140⟩ := stI X112 hx hZ e112 Ar140 (j := (3 : Int32)) hin140 (g := (mkF m 52 #[.val (.ref o0), .val (.ref b93), .val (.int (2 : Int32)), .val (.int (3 : Int32))] [(.int (2 : Int32)), (.int (3 : Int32)), (.ref b93)])) rfl rfl (hb hby d6_52)
              have Z0_141 : n0 ≤ h140.size := (Nat.le_trans Z0_113 (Keep.of_wr W140).1)
              have K0_142 : Keep h0 h140 [] := (K0_114.wr W140 (Or.inr sz_b93))
              have V0_143 : Arv Z h140 o0 ku .int (4 : Int32) [(.int u0), (.int u1), (.int u2), (.int u3)] (.int (0 : Int32)) := (V0_115.other W140 ne_o0_b93)
              have V140 : Arv Z h140 b93 k93 .int (4 : Int32) [(.int (0 : Int32)), (.int (1 : Int32)), (.int (2 : Int32)), (.int (2 : Int32))] (.int (0 : Int32)) := Arv.set Ar140 q140 S140 M140 H140 G140 rfl W140 3 rfl (Nat.le_of_ble_eq_true rfl)
              have N140 := Fr.snoc X140 N112 gn_b93
              refine Got.step st140 ?_
              show Got p e below s _ _ _ _ T140 (mkF m 53 #[.val (.ref o0), .val (.ref b93), .val (.int (2 : Int32)), .val (.int (3 : Int32))] [])
              refine Got.step (T' := T140) (g' := (mkF m 11 #[.val (.ref o0), .val (.ref b93), .val (.int (2 : Int32)), .val (.int (4 : Int32))] [(.ref o0), (.int (4 : Int32))])) (fun tq kt => ?_) ?_
              · show Steps p.tables e below (T140.setTop (mkF m 53 #[.val (.ref o0), .val (.ref b93), .val (.int (2 : Int32)), .val (.int (3 : Int32))] [])) _
                refine XS.iinc X140.here hx rfl (hb hby d6_53) rfl (l' := #[.val (.ref o0), .val (.ref b93), .val (.int (2 : Int32)), .val (.int ((3 : Int32) + (1 : Int32)))]) rfl ?_
                show Steps p.tables e below (T140.setTop (mkF m 56 #[.val (.ref o0), .val (.ref b93), .val (.int (2 : Int32)), .val (.int (4 : Int32))] [])) _
                refine XS.goto X140.here hx rfl (pc0 := 56) (pc' := 9) rfl (hb hby d6_56) (by decide) (by decide) ?_
                show Steps p.tables e below (T140.setTop (mkF m 9 #[.val (.ref o0), .val (.ref b93), .val (.int (2 : Int32)), .val (.int (4 : Int32))] [])) _
                refine XS.iloadN X140.here hx rfl (hb hby d6_9) rfl ?_
                show Steps p.tables e below (T140.setTop (mkF m 10 #[.val (.ref o0), .val (.ref b93), .val (.int (2 : Int32)), .val (.int (4 : Int32))] [(.int (4 : Int32))])) _
                refine XS.aloadN X140.here hx rfl (hb hby d6_10) rfl rfl ?_
                exact kt
              obtain ⟨cl144, Ar144, q144, S144, M144, H144, G144⟩ := (id V0_143)
              refine Got.step (T' := T140) (fun tq kt => X140.arraylength hx (cell := cl144) (by rw [e140]; exact Ar144.1) (State.isArrayOf_alike hZ.alike Ar144.2.1) (g := (mkF m 11 #[.val (.ref o0), .val (.ref b93), .val (.int (2 : Int32)), .val (.int (4 : Int32))] [(.ref o0), (.int (4 : Int32))])) rfl (rest := [(.int (4 : Int32))]) rfl (hb hby d6_11) tq kt) ?_
              rw [len_of S144 M144]
              show Got p e below s _ _ _ _ T140 (mkF m 12 #[.val (.ref o0), .val (.ref b93), .val (.int (2 : Int32)), .val (.int (4 : Int32))] [(.int (4 : Int32)), (.int (4 : Int32))])
              refine Got.step (T' := T140) (g' := (mkF m 60 #[.val (.ref o0), .val (.ref b93), .val (.int (2 : Int32)), .val (.int (4 : Int32))] [(.ref b93)])) (fun tq kt => ?_) ?_
              · show Steps p.tables e below (T140.setTop (mkF m 12 #[.val (.ref o0), .val (.ref b93), .val (.int (2 : Int32)), .val (.int (4 : Int32))] [(.int (4 : Int32)), (.int (4 : Int32))])) _
                refine XS.icmpYes X140.here hx rfl (pc0 := 12) (pc' := 59) rfl (hb hby d6_12) rfl (XT.ii_ge_t Int32.lt_irrefl) (by decide) (by decide) ?_
                show Steps p.tables e below (T140.setTop (mkF m 59 #[.val (.ref o0), .val (.ref b93), .val (.int (2 : Int32)), .val (.int (4 : Int32))] [])) _
                refine XS.aloadN X140.here hx rfl (hb hby d6_59) rfl rfl ?_
                exact kt
              rw [← g93]
              exact Got.retA X140 hx Bd.returns rfl hlk (hb hby d6_60) rfl ⟨N140, by rw [e140]; exact K0_142, k93, by rw [e140]; unfold ptab4; rw [((if_pos hc100).trans ((if_pos hc108).trans ((if_pos hc111).trans ((if_neg hc119).trans ((if_pos hc136).trans (if_pos hc139))))))]; exact V140⟩ (by decide) (by decide)
            · refine Got.step (T' := T112) (g' := (mkF m 52 #[.val (.ref o0), .val (.ref b93), .val (.int (1 : Int32)), .val (.int (3 : Int32))] [(.int (1 : Int32)), (.int (3 : Int32)), (.ref b93)])) (fun tq kt => ?_) ?_
              · show Steps p.tables e below (T112.setTop (mkF m 43 #[.val (.ref o0), .val (.ref b93), .val (.int (1 : Int32)), .val (.int (3 : Int32))] [(.int u1), (.int u3)])) _
                refine XS.icmpYes X112.here hx rfl (pc0 := 43) (pc' := 49) rfl (hb hby d6_43) rfl (XT.ii_ne_t hc139) (by decide) (by decide) ?_
                show Steps p.tables e below (T112.setTop (mkF m 49 #[.val (.ref o0), .val (.ref b93), .val (.int (1 : Int32)), .val (.int (3 : Int32))] [])) _
                refine XS.aloadN X112.here hx rfl (hb hby d6_49) rfl rfl ?_
                show Steps p.tables e below (T112.setTop (mkF m 50 #[.val (.ref o0), .val (.ref b93), .val (.int (1 : Int32)), .val (.int (3 : Int32))] [(.ref b93)])) _
                refine XS.iloadN X112.here hx rfl (hb hby d6_50) rfl ?_
                show Steps p.tables e below (T112.setTop (mkF m 51 #[.val (.ref o0), .val (.ref b93), .val (.int (1 : Int32)), .val (.int (3 : Int32))] [(.int (3 : Int32)), (.ref b93)])) _
                refine XS.iloadN X112.here hx rfl (hb hby d6_51) rfl ?_
                exact kt
              obtain ⟨cl145, Ar145, q145, S145, M145, H145, G145⟩ := (id V112)
              have hin145 : ¬ ((3 : Int32) < 0 ∨ cl145.slots.size ≤ ((3 : Int32)).toNatClampNeg) := inb_of S145 ⟨by decide, by decide⟩
              obtain ⟨T145, h145, X145, e145, W145, st145⟩ := stI X112 hx hZ e112 Ar145 (j := (3 : Int32)) hin145 (g := (mkF m 52 #[.val (.ref o0), .val (.ref b93), .val (.int (1 : Int32)), .val (.int (3 : Int32))] [(.int (1 : Int32)), (.int (3 : Int32)), (.ref b93)])) rfl rfl (hb hby d6_52)
              have Z0_146 : n0 ≤ h145.size := (Nat.le_trans Z0_113 (Keep.of_wr W145).1)
              have K0_147 : Keep h0 h145 [] := (K0_114.wr W145 (Or.inr sz_b93))
              have V0_148 : Arv Z h145 o0 ku .int (4 : Int32) [(.int u0), (.int u1), (.int u2), (.int u3)] (.int (0 : Int32)) := (V0_115.other W145 ne_o0_b93)
              have V145 : Arv Z h145 b93 k93 .int (4 : Int32) [(.int (0 : Int32)), (.int (1 : Int32)), (.int (2 : Int32)), (.int (1 : Int32))] (.int (0 : Int32)) := Arv.set Ar145 q145 S145 M145 H145 G145 rfl W145 3 rfl (Nat.le_of_ble_eq_true rfl)
              have N145 := Fr.snoc X145 N112 gn_b93
              refine Got.step st145 ?_
              show Got p e below s _ _ _ _ T145 (mkF m 53 #[.val (.ref o0), .val (.ref b93), .val (.int (1 : Int32)), .val (.int (3 : Int32))] [])
              refine Got.step (T' := T145) (g' := (mkF m 11 #[.val (.ref o0), .val (.ref b93), .val (.int (1 : Int32)), .val (.int (4 : Int32))] [(.ref o0), (.int (4 : Int32))])) (fun tq kt => ?_) ?_
              · show Steps p.tables e below (T145.setTop (mkF m 53 #[.val (.ref o0), .val (.ref b93), .val (.int (1 : Int32)), .val (.int (3 : Int32))] [])) _
                refine XS.iinc X145.here hx rfl (hb hby d6_53) rfl (l' := #[.val (.ref o0), .val (.ref b93), .val (.int (1 : Int32)), .val (.int ((3 : Int32) + (1 : Int32)))]) rfl ?_
                show Steps p.tables e below (T145.setTop (mkF m 56 #[.val (.ref o0), .val (.ref b93), .val (.int (1 : Int32)), .val (.int (4 : Int32))] [])) _
                refine XS.goto X145.here hx rfl (pc0 := 56) (pc' := 9) rfl (hb hby d6_56) (by decide) (by decide) ?_
                show Steps p.tables e below (T145.setTop (mkF m 9 #[.val (.ref o0), .val (.ref b93), .val (.int (1 : Int32)), .val (.int (4 : Int32))] [])) _
                refine XS.iloadN X145.here hx rfl (hb hby d6_9) rfl ?_
                show Steps p.tables e below (T145.setTop (mkF m 10 #[.val (.ref o0), .val (.ref b93), .val (.int (1 : Int32)), .val (.int (4 : Int32))] [(.int (4 : Int32))])) _
                refine XS.aloadN X145.here hx rfl (hb hby d6_10) rfl rfl ?_
                exact kt
              obtain ⟨cl149, Ar149, q149, S149, M149, H149, G149⟩ := (id V0_148)
              refine Got.step (T' := T145) (fun tq kt => X145.arraylength hx (cell := cl149) (by rw [e145]; exact Ar149.1) (State.isArrayOf_alike hZ.alike Ar149.2.1) (g := (mkF m 11 #[.val (.ref o0), .val (.ref b93), .val (.int (1 : Int32)), .val (.int (4 : Int32))] [(.ref o0), (.int (4 : Int32))])) rfl (rest := [(.int (4 : Int32))]) rfl (hb hby d6_11) tq kt) ?_
              rw [len_of S149 M149]
              show Got p e below s _ _ _ _ T145 (mkF m 12 #[.val (.ref o0), .val (.ref b93), .val (.int (1 : Int32)), .val (.int (4 : Int32))] [(.int (4 : Int32)), (.int (4 : Int32))])
              refine Got.step (T' := T145) (g' := (mkF m 60 #[.val (.ref o0), .val (.ref b93), .val (.int (1 : Int32)), .val (.int (4 : Int32))] [(.ref b93)])) (fun tq kt => ?_) ?_
              · show Steps p.tables e below (T145.setTop (mkF m 12 #[.val (.ref o0), .val (.ref b93), .val (.int (1 : Int32)), .val (.int (4 : Int32))] [(.int (4 : Int32)), (.int (4 : Int32))])) _
                refine XS.icmpYes X145.here hx rfl (pc0 := 12) (pc' := 59) rfl (hb hby d6_12) rfl (XT.ii_ge_t Int32.lt_irrefl) (by decide) (by decide) ?_
                show Steps p.tables e below (T145.setTop (mkF m 59 #[.val (.ref o0), .val (.ref b93), .val (.int (1 : Int32)), .val (.int (4 : Int32))] [])) _
                refine XS.aloadN X145.here hx rfl (hb hby d6_59) rfl rfl ?_
                exact kt
              rw [← g93]
              exact Got.retA X145 hx Bd.returns rfl hlk (hb hby d6_60) rfl ⟨N145, by rw [e145]; exact K0_147, k93, by rw [e145]; unfold ptab4; rw [((if_pos hc100).trans ((if_pos hc108).trans ((if_pos hc111).trans ((if_neg hc119).trans ((if_pos hc136).trans (if_neg hc139))))))]; exact V145⟩ (by decide) (by decide)
          · refine Got.step (T' := T112) (g' := (mkF m 32 #[.val (.ref o0), .val (.ref b93), .val (.int (1 : Int32)), .val (.int (3 : Int32))] [(.int (0 : Int32)), (.ref b93)])) (fun tq kt => ?_) ?_
            · show Steps p.tables e below (T112.setTop (mkF m 25 #[.val (.ref o0), .val (.ref b93), .val (.int (1 : Int32)), .val (.int (3 : Int32))] [(.int u1), (.int u3)])) _
              refine XS.icmpNo X112.here hx rfl (hb hby d6_25) rfl (XT.ii_eq_f hc136) ?_
              show Steps p.tables e below (T112.setTop (mkF m 28 #[.val (.ref o0), .val (.ref b93), .val (.int (1 : Int32)), .val (.int (3 : Int32))] [])) _
              refine XS.aloadN X112.here hx rfl (hb hby d6_28) rfl rfl ?_
              show Steps p.tables e below (T112.setTop (mkF m 29 #[.val (.ref o0), .val (.ref b93), .val (.int (1 : Int32)), .val (.int (3 : Int32))] [(.ref b93)])) _
              refine XS.iloadN X112.here hx rfl (hb hby d6_29) rfl ?_
              show Steps p.tables e below (T112.setTop (mkF m 30 #[.val (.ref o0), .val (.ref b93), .val (.int (1 : Int32)), .val (.int (3 : Int32))] [(.int (1 : Int32)), (.ref b93)])) _
              refine XS.iconst X112.here hx rfl (hb hby d6_30) ?_
              show Steps p.tables e below (T112.setTop (mkF m 31 #[.val (.ref o0), .val (.ref b93), .val (.int (1 : Int32)), .val (.int (3 : Int32))] [(.int (1 : Int32)), (.int (1 : Int32)), (.ref b93)])) _
              refine XS.isub X112.here hx rfl (hb hby d6_31) rfl ?_
              exact kt
            obtain ⟨cl150, Ar150, q150, S150, M150, H150, G150⟩ := (id V112)
            have hin150 : ¬ ((0 : Int32) < 0 ∨ cl150.slots.size ≤ ((0 : Int32)).toNatClampNeg) := inb_of S150 ⟨by decide, by decide⟩
            refine Got.step (T' := T112) (fun tq kt => X112.iaload hx (j := (0 : Int32)) (v := (.int (0 : Int32))) (by rw [e112]; exact Ar150.1) (State.isArrayOf_alike hZ.alike Ar150.2.1) Ar150.2.2 hin150 (H150.at hin150 rfl) (g := (mkF m 32 #[.val (.ref o0), .val (.ref b93), .val (.int (1 : Int32)), .val (.int (3 : Int32))] [(.int (0 : Int32)), (.ref b93)])) rfl rfl (hb hby d6_32) tq kt) ?_
            show Got p e below s _ _ _ _ T112 (mkF m 33 #[.val (.ref o0), .val (.ref b93), .val (.int (1 : Int32)), .val (.int (3 : Int32))] [(.int (0 : Int32))])
            refine Got.step (T' := T112) (g' := (mkF m 39 #[.val (.ref o0), .val (.ref b93), .val (.int (0 : Int32)), .val (.int (3 : Int32))] [(.int (3 : Int32)), (.ref o0)])) (fun tq kt => ?_) ?_
            · show Steps p.tables e below (T112.setTop (mkF m 33 #[.val (.ref o0), .val (.ref b93), .val (.int (1 : Int32)), .val (.int (3 : Int32))] [(.int (0 : Int32))])) _
              refine XS.istoreN X112.here hx rfl (hb hby d6_33) rfl (l' := #[.val (.ref o0), .val (.ref b93), .val (.int (0 : Int32)), .val (.int (3 : Int32))]) rfl ?_
              show Steps p.tables e below (T112.setTop (mkF m 34 #[.val (.ref o0), .val (.ref b93), .val (.int (0 : Int32)), .val (.int (3 : Int32))] [])) _
              refine XS.goto X112.here hx rfl (pc0 := 34) (pc' := 15) rfl (hb hby d6_34) (by decide) (by decide) ?_
              show Steps p.tables e below (T112.setTop (mkF m 15 #[.val (.ref o0), .val (.ref b93), .val (.int (0 : Int32)), .val (.int (3 : Int32))] [])) _
              refine XS.iloadN X112.here hx rfl (hb hby d6_15) rfl ?_
              show Steps p.tables e below (T112.setTop (mkF m 16 #[.val (.ref o0), .val (.ref b93), .val (.int (0 : Int32)), .val (.int (3 : Int32))] [(.int (0 : Int32))])) _
              refine XS.ifYes X112.here hx rfl (pc0 := 16) (pc' := 37) rfl (hb hby d6_16) rfl (XT.i0_le_t (by decide)) (by decide) (by decide) ?_
              show Steps p.tables e below (T112.setTop (mkF m 37 #[.val (.ref o0), .val (.ref b93), .val (.int (0 : Int32)), .val (.int (3 : Int32))] [])) _
              refine XS.aloadN X112.here hx rfl (hb hby d6_37) rfl rfl ?_
              show Steps p.tables e below (T112.setTop (mkF m 38 #[.val (.ref o0), .val (.ref b93), .val (.int (0 : Int32)), .val (.int (3 : Int32))] [(.ref o0)])) _
              refine XS.iloadN X112.here hx rfl (hb hby d6_38) rfl ?_
              exact kt
            obtain ⟨cl151, Ar151, q151, S151, M151, H151, G151⟩ := (id V0_115)
            have hin151 : ¬ ((3 : Int32) < 0 ∨ cl151.slots.size ≤ ((3 : Int32)).toNatClampNeg) := inb_of S151 ⟨by decide, by decide⟩
            refine Got.step (T' := T112) (fun tq kt => X112.iaload hx (j := (3 : Int32)) (v := (.int u3)) (by rw [e112]; exact Ar151.1) (State.isArrayOf_alike hZ.alike Ar151.2.1) Ar151.2.2 hin151 (H151.at hin151 rfl) (g := (mkF m 39 #[.val (.ref o0), .val (.ref b93), .val (.int (0 : Int32)), .val (.int (3 : Int32))] [(.int (3 : Int32)), (.ref o0)])) rfl rfl (hb hby d6_39) tq kt) ?_
            show Got p e below s _ _ _ _ T112 (mkF m 40 #[.val (.ref o0), .val (.ref b93), .val (.int (0 : Int32)), .val (.int (3 : Int32))] [(.int u3)])
            refine Got.step (T' := T112) (g' := (mkF m 42 #[.val (.ref o0), .val (.ref b93), .val (.int (0 : Int32)), .val (.int (3 : Int32))] [(.int (0 : Int32)), (.ref o0), (.int u3)])) (fun tq kt => ?_) ?_
            · show Steps p.tables e below (T112.setTop (mkF m 40 #[.val (.ref o0), .val (.ref b93), .val (.int (0 : Int32)), .val (.int (3 : Int32))] [(.int u3)])) _
              refine XS.aloadN X112.here hx rfl (hb hby d6_40) rfl rfl ?_
              show Steps p.tables e below (T112.setTop (mkF m 41 #[.val (.ref o0), .val (.ref b93), .val (.int (0 : Int32)), .val (.int (3 : Int32))] [(.ref o0), (.int u3)])) _
              refine XS.iloadN X112.here hx rfl (hb hby d6_41) rfl ?_
              exact kt
            obtain ⟨cl152, Ar152, q152, S152, M152, H152, G152⟩ := (id V0_115)
            have hin152 : ¬ ((0 : Int32) < 0 ∨ cl152.slots.size ≤ ((0 : Int32)).toNatClampNeg) := inb_of S152 ⟨by decide, by decide⟩
            refine Got.step (T' := T112) (fun tq kt => X112.iaload hx (j := (0 : Int32)) (v := (.int u0)) (by rw [e112]; exact Ar152.1) (State.isArrayOf_alike hZ.alike Ar152.2.1) Ar152.2.2 hin152 (H152.at hin152 rfl) (g := (mkF m 42 #[.val (.ref o0), .val (.ref b93), .val (.int (0 : Int32)), .val (.int (3 : Int32))] [(.int (0 : Int32)), (.ref o0), (.int u3)])) rfl rfl (hb hby d6_42) tq kt) ?_
            show Got p e below s _ _ _ _ T112 (mkF m 43 #[.val (.ref o0), .val (.ref b93), .val (.int (0 : Int32)), .val (.int (3 : Int32))] [(.int u0), (.int u3)])
            by_cases hc153 : (u3 = u0)
            · refine Got.step (T' := T112) (g' := (mkF m 52 #[.val (.ref o0), .val (.ref b93), .val (.int (1 : Int32)), .val (.int (3 : Int32))] [(.int (1 : Int32)), (.int (3 : Int32)), (.ref b93)])) (fun tq kt => ?_) ?_
              · show Steps p.tables e below (T112.setTop (mkF m 43 #[.val (.ref o0), .val (.ref b93), .val (.int (0 : Int32)), .val (.int (3 : Int32))] [(.int u0), (.int u3)])) _
                refine XS.icmpNo X112.here hx rfl (hb hby d6_43) rfl (XT.ii_ne_f hc153) ?_
                show Steps p.tables e below (T112.setTop (mkF m 46 #[.val (.ref o0), .val (.ref b93), .val (.int (0 : Int32)), .val (.int (3 : Int32))] [])) _
                refine XS.iinc X112.here hx rfl (hb hby d6_46) rfl (l' := #[.val (.ref o0), .val (.ref b93), .val (.int ((0 : Int32) + (1 : Int32))), .val (.int (3 : Int32))]) rfl ?_
                show Steps p.tables e below (T112.setTop (mkF m 49 #[.val (.ref o0), .val (.ref b93), .val (.int (1 : Int32)), .val (.int (3 : Int32))] [])) _
                refine XS.aloadN X112.here hx rfl (hb hby d6_49) rfl rfl ?_
                show Steps p.tables e below (T112.setTop (mkF m 50 #[.val (.ref o0), .val (.ref b93), .val (.int (1 : Int32)), .val (.int (3 : Int32))] [(.ref b93)])) _
                refine XS.iloadN X112.here hx rfl (hb hby d6_50) rfl ?_
                show Steps p.tables e below (T112.setTop (mkF m 51 #[.val (.ref o0), .val (.ref b93), .val (.int (1 : Int32)), .val (.int (3 : Int32))] [(.int (3 : Int32)), (.ref b93)])) _
                refine XS.iloadN X112.here hx rfl (hb hby d6_51) rfl ?_
                exact kt
              obtain ⟨cl154, Ar154, q154, S154, M154, H154, G154⟩ := (id V112)
              have hin154 : ¬ ((3 : Int32) < 0 ∨ cl154.slots.size ≤ ((3 : Int32)).toNatClampNeg) := inb_of S154 ⟨by decide, by decide⟩
              obtain ⟨T154, h154, X154, e154, W154, st154⟩ := stI X112 hx hZ e112 Ar154 (j := (3 : Int32)) hin154 (g := (mkF m 52 #[.val (.ref o0), .val (.ref b93), .val (.int (1 : Int32)), .val (.int (3 : Int32))] [(.int (1 : Int32)), (.int (3 : Int32)), (.ref b93)])) rfl rfl (hb hby d6_52)
              have Z0_155 : n0 ≤ h154.size := (Nat.le_trans Z0_113 (Keep.of_wr W154).1)
              have K0_156 : Keep h0 h154 [] := (K0_114.wr W154 (Or.inr sz_b93))
              have V0_157 : Arv Z h154 o0 ku .int (4 : Int32) [(.int u0), (.int u1), (.int u2), (.int u3)] (.int (0 : Int32)) := (V0_115.other W154 ne_o0_b93)
              have V154 : Arv Z h154 b93 k93 .int (4 : Int32) [(.int (0 : Int32)), (.int (1 : Int32)), (.int (2 : Int32)), (.int (1 : Int32))] (.int (0 : Int32)) := Arv.set Ar154 q154 S154 M154 H154 G154 rfl W154 3 rfl (Nat.le_of_ble_eq_true rfl)
              have N154 := Fr.snoc X154 N112 gn_b93
              refine Got.step st154 ?_
              show Got p e below s _ _ _ _ T154 (mkF m 53 #[.val (.ref o0), .val (.ref b93), .val (.int (1 : Int32)), .val (.int (3 : Int32))] [])
              refine Got.step (T' := T154) (g' := (mkF m 11 #[.val (.ref o0), .val (.ref b93), .val (.int (1 : Int32)), .val (.int (4 : Int32))] [(.ref o0), (.int (4 : Int32))])) (fun tq kt => ?_) ?_
              · show Steps p.tables e below (T154.setTop (mkF m 53 #[.val (.ref o0), .val (.ref b93), .val (.int (1 : Int32)), .val (.int (3 : Int32))] [])) _
                refine XS.iinc X154.here hx rfl (hb hby d6_53) rfl (l' := #[.val (.ref o0), .val (.ref b93), .val (.int (1 : Int32)), .val (.int ((3 : Int32) + (1 : Int32)))]) rfl ?_
                show Steps p.tables e below (T154.setTop (mkF m 56 #[.val (.ref o0), .val (.ref b93), .val (.int (1 : Int32)), .val (.int (4 : Int32))] [])) _
                refine XS.goto X154.here hx rfl (pc0 := 56) (pc' := 9) rfl (hb hby d6_56) (by decide) (by decide) ?_
                show Steps p.tables e below (T154.setTop (mkF m 9 #[.val (.ref o0), .val (.ref b93), .val (.int (1 : Int32)), .val (.int (4 : Int32))] [])) _
                refine XS.iloadN X154.here hx rfl (hb hby d6_9) rfl ?_
                show Steps p.tables e below (T154.setTop (mkF m 10 #[.val (.ref o0), .val (.ref b93), .val (.int (1 : Int32)), .val (.int (4 : Int32))] [(.int (4 : Int32))])) _
                refine XS.aloadN X154.here hx rfl (hb hby d6_10) rfl rfl ?_
                exact kt
              obtain ⟨cl158, Ar158, q158, S158, M158, H158, G158⟩ := (id V0_157)
              refine Got.step (T' := T154) (fun tq kt => X154.arraylength hx (cell := cl158) (by rw [e154]; exact Ar158.1) (State.isArrayOf_alike hZ.alike Ar158.2.1) (g := (mkF m 11 #[.val (.ref o0), .val (.ref b93), .val (.int (1 : Int32)), .val (.int (4 : Int32))] [(.ref o0), (.int (4 : Int32))])) rfl (rest := [(.int (4 : Int32))]) rfl (hb hby d6_11) tq kt) ?_
              rw [len_of S158 M158]
              show Got p e below s _ _ _ _ T154 (mkF m 12 #[.val (.ref o0), .val (.ref b93), .val (.int (1 : Int32)), .val (.int (4 : Int32))] [(.int (4 : Int32)), (.int (4 : Int32))])
              refine Got.step (T' := T154) (g' := (mkF m 60 #[.val (.ref o0), .val (.ref b93), .val (.int (1 : Int32)), .val (.int (4 : Int32))] [(.ref b93)])) (fun tq kt => ?_) ?_
              · show Steps p.tables e below (T154.setTop (mkF m 12 #[.val (.ref o0), .val (.ref b93), .val (.int (1 : Int32)), .val (.int (4 : Int32))] [(.int (4 : Int32)), (.int (4 : Int32))])) _
                refine XS.icmpYes X154.here hx rfl (pc0 := 12) (pc' := 59) rfl (hb hby d6_12) rfl (XT.ii_ge_t Int32.lt_irrefl) (by decide) (by decide) ?_
                show Steps p.tables e below (T154.setTop (mkF m 59 #[.val (.ref o0), .val (.ref b93), .val (.int (1 : Int32)), .val (.int (4 : Int32))] [])) _
                refine XS.aloadN X154.here hx rfl (hb hby d6_59) rfl rfl ?_
                exact kt
              rw [← g93]
              exact Got.retA X154 hx Bd.returns rfl hlk (hb hby d6_60) rfl ⟨N154, by rw [e154]; exact K0_156, k93, by rw [e154]; unfold ptab4; rw [((if_pos hc100).trans ((if_pos hc108).trans ((if_pos hc111).trans ((if_neg hc119).trans ((if_neg hc136).trans (if_pos hc153))))))]; exact V154⟩ (by decide) (by decide)
            · refine Got.step (T' := T112) (g' := (mkF m 52 #[.val (.ref o0), .val (.ref b93), .val (.int (0 : Int32)), .val (.int (3 : Int32))] [(.int (0 : Int32)), (.int (3 : Int32)), (.ref b93)])) (fun tq kt => ?_) ?_
              · show Steps p.tables e below (T112.setTop (mkF m 43 #[.val (.ref o0), .val (.ref b93), .val (.int (0 : Int32)), .val (.int (3 : Int32))] [(.int u0), (.int u3)])) _
                refine XS.icmpYes X112.here hx rfl (pc0 := 43) (pc' := 49) rfl (hb hby d6_43) rfl (XT.ii_ne_t hc153) (by decide) (by decide) ?_
                show Steps p.tables e below (T112.setTop (mkF m 49 #[.val (.ref o0), .val (.ref b93), .val (.int (0 : Int32)), .val (.int (3 : Int32))] [])) _
                refine XS.aloadN X112.here hx rfl (hb hby d6_49) rfl rfl ?_
                show Steps p.tables e below (T112.setTop (mkF m 50 #[.val (.ref o0), .val (.ref b93), .val (.int (0 : Int32)), .val (.int (3 : Int32))] [(.ref b93)])) _
                refine XS.iloadN X112.here hx rfl (hb hby d6_50) rfl ?_
                show Steps p.tables e below (T112.setTop (mkF m 51 #[.val (.ref o0), .val (.ref b93), .val (.int (0 : Int32)), .val (.int (3 : Int32))] [(.int (3 : Int32)), (.ref b93)])) _
                refine XS.iloadN X112.here hx rfl (hb hby d6_51) rfl ?_
                exact kt
              obtain ⟨cl159, Ar159, q159, S159, M159, H159, G159⟩ := (id V112)
              have hin159 : ¬ ((3 : Int32) < 0 ∨ cl159.slots.size ≤ ((3 : Int32)).toNatClampNeg) := inb_of S159 ⟨by decide, by decide⟩
              obtain ⟨T159, h159, X159, e159, W159, st159⟩ := stI X112 hx hZ e112 Ar159 (j := (3 : Int32)) hin159 (g := (mkF m 52 #[.val (.ref o0), .val (.ref b93), .val (.int (0 : Int32)), .val (.int (3 : Int32))] [(.int (0 : Int32)), (.int (3 : Int32)), (.ref b93)])) rfl rfl (hb hby d6_52)
              have Z0_160 : n0 ≤ h159.size := (Nat.le_trans Z0_113 (Keep.of_wr W159).1)
              have K0_161 : Keep h0 h159 [] := (K0_114.wr W159 (Or.inr sz_b93))
              have V0_162 : Arv Z h159 o0 ku .int (4 : Int32) [(.int u0), (.int u1), (.int u2), (.int u3)] (.int (0 : Int32)) := (V0_115.other W159 ne_o0_b93)
              have V159 : Arv Z h159 b93 k93 .int (4 : Int32) [(.int (0 : Int32)), (.int (1 : Int32)), (.int (2 : Int32)), (.int (0 : Int32))] (.int (0 : Int32)) := Arv.set Ar159 q159 S159 M159 H159 G159 rfl W159 3 rfl (Nat.le_of_ble_eq_true rfl)
              have N159 := Fr.snoc X159 N112 gn_b93
              refine Got.step st159 ?_
              show Got p e below s _ _ _ _ T159 (mkF m 53 #[.val (.ref o0), .val (.ref b93), .val (.int (0 : Int32)), .val (.int (3 : Int32))] [])
              refine Got.step (T' := T159) (g' := (mkF m 11 #[.val (.ref o0), .val (.ref b93), .val (.int (0 : Int32)), .val (.int (4 : Int32))] [(.ref o0), (.int (4 : Int32))])) (fun tq kt => ?_) ?_
              · show Steps p.tables e below (T159.setTop (mkF m 53 #[.val (.ref o0), .val (.ref b93), .val (.int (0 : Int32)), .val (.int (3 : Int32))] [])) _
                refine XS.iinc X159.here hx rfl (hb hby d6_53) rfl (l' := #[.val (.ref o0), .val (.ref b93), .val (.int (0 : Int32)), .val (.int ((3 : Int32) + (1 : Int32)))]) rfl ?_
                show Steps p.tables e below (T159.setTop (mkF m 56 #[.val (.ref o0), .val (.ref b93), .val (.int (0 : Int32)), .val (.int (4 : Int32))] [])) _
                refine XS.goto X159.here hx rfl (pc0 := 56) (pc' := 9) rfl (hb hby d6_56) (by decide) (by decide) ?_
                show Steps p.tables e below (T159.setTop (mkF m 9 #[.val (.ref o0), .val (.ref b93), .val (.int (0 : Int32)), .val (.int (4 : Int32))] [])) _
                refine XS.iloadN X159.here hx rfl (hb hby d6_9) rfl ?_
                show Steps p.tables e below (T159.setTop (mkF m 10 #[.val (.ref o0), .val (.ref b93), .val (.int (0 : Int32)), .val (.int (4 : Int32))] [(.int (4 : Int32))])) _
                refine XS.aloadN X159.here hx rfl (hb hby d6_10) rfl rfl ?_
                exact kt
              obtain ⟨cl163, Ar163, q163, S163, M163, H163, G163⟩ := (id V0_162)
              refine Got.step (T' := T159) (fun tq kt => X159.arraylength hx (cell := cl163) (by rw [e159]; exact Ar163.1) (State.isArrayOf_alike hZ.alike Ar163.2.1) (g := (mkF m 11 #[.val (.ref o0), .val (.ref b93), .val (.int (0 : Int32)), .val (.int (4 : Int32))] [(.ref o0), (.int (4 : Int32))])) rfl (rest := [(.int (4 : Int32))]) rfl (hb hby d6_11) tq kt) ?_
              rw [len_of S163 M163]
              show Got p e below s _ _ _ _ T159 (mkF m 12 #[.val (.ref o0), .val (.ref b93), .val (.int (0 : Int32)), .val (.int (4 : Int32))] [(.int (4 : Int32)), (.int (4 : Int32))])
              refine Got.step (T' := T159) (g' := (mkF m 60 #[.val (.ref o0), .val (.ref b93), .val (.int (0 : Int32)), .val (.int (4 : Int32))] [(.ref b93)])) (fun tq kt => ?_) ?_
              · show Steps p.tables e below (T159.setTop (mkF m 12 #[.val (.ref o0), .val (.ref b93), .val (.int (0 : Int32)), .val (.int (4 : Int32))] [(.int (4 : Int32)), (.int (4 : Int32))])) _
                refine XS.icmpYes X159.here hx rfl (pc0 := 12) (pc' := 59) rfl (hb hby d6_12) rfl (XT.ii_ge_t Int32.lt_irrefl) (by decide) (by decide) ?_
                show Steps p.tables e below (T159.setTop (mkF m 59 #[.val (.ref o0), .val (.ref b93), .val (.int (0 : Int32)), .val (.int (4 : Int32))] [])) _
                refine XS.aloadN X159.here hx rfl (hb hby d6_59) rfl rfl ?_
                exact kt
              rw [← g93]
              exact Got.retA X159 hx Bd.returns rfl hlk (hb hby d6_60) rfl ⟨N159, by rw [e159]; exact K0_161, k93, by rw [e159]; unfold ptab4; rw [((if_pos hc100).trans ((if_pos hc108).trans ((if_pos hc111).trans ((if_neg hc119).trans ((if_neg hc136).trans (if_neg hc153))))))]; exact V159⟩ (by decide) (by decide)
      · refine Got.step (T' := T101) (g' := (mkF m 52 #[.val (.ref o0), .val (.ref b93), .val (.int (1 : Int32)), .val (.int (2 : Int32))] [(.int (1 : Int32)), (.int (2 : Int32)), (.ref b93)])) (fun tq kt => ?_) ?_
        · show Steps p.tables e below (T101.setTop (mkF m 43 #[.val (.ref o0), .val (.ref b93), .val (.int (1 : Int32)), .val (.int (2 : Int32))] [(.int u1), (.int u2)])) _
          refine XS.icmpYes X101.here hx rfl (pc0 := 43) (pc' := 49) rfl (hb hby d6_43) rfl (XT.ii_ne_t hc111) (by decide) (by decide) ?_
          show Steps p.tables e below (T101.setTop (mkF m 49 #[.val (.ref o0), .val (.ref b93), .val (.int (1 : Int32)), .val (.int (2 : Int32))] [])) _
          refine XS.aloadN X101.here hx rfl (hb hby d6_49) rfl rfl ?_
          show Steps p.tables e below (T101.setTop (mkF m 50 #[.val (.ref o0), .val (.ref b93), .val (.int (1 : Int32)), .val (.int (2 : Int32))] [(.ref b93)])) _
          refine XS.iloadN X101.here hx rfl (hb hby d6_50) rfl ?_
          show Steps p.tables e below (T101.setTop (mkF m 51 #[.val (.ref o0), .val (.ref b93), .val (.int (1 : Int32)), .val (.int (2 : Int32))] [(.int (2 : Int32)), (.ref b93)])) _
          refine XS.iloadN X101.here hx rfl (hb hby d6_51) rfl ?_
          exact kt
        obtain ⟨cl164, Ar164, q164, S164, M164, H164, G164⟩ := (id V101)
        have hin164 : ¬ ((2 : Int32) < 0 ∨ cl164.slots.size ≤ ((2 : Int32)).toNatClampNeg) := inb_of S164 ⟨by decide, by decide⟩
        obtain ⟨T164, h164, X164, e164, W164, st164⟩ := stI X101 hx hZ e101 Ar164 (j := (2 : Int32)) hin164 (g := (mkF m 52 #[.val (.ref o0), .val (.ref b93), .val (.int (1 : Int32)), .val (.int (2 : Int32))] [(.int (1 : Int32)), (.int (2 : Int32)), (.ref b93)])) rfl rfl (hb hby d6_52)
        have Z0_165 : n0 ≤ h164.size := (Nat.le_trans Z0_102 (Keep.of_wr W164).1)
        have K0_166 : Keep h0 h164 [] := (K0_103.wr W164 (Or.inr sz_b93))
        have V0_167 : Arv Z h164 o0 ku .int (4 : Int32) [(.int u0), (.int u1), (.int u2), (.int u3)] (.int (0 : Int32)) := (V0_104.other W164 ne_o0_b93)
        have V164 : Arv Z h164 b93 k93 .int (4 : Int32) [(.int (0 : Int32)), (.int (1 : Int32)), (.int (1 : Int32)), (.int (0 : Int32))] (.int (0 : Int32)) := Arv.set Ar164 q164 S164 M164 H164 G164 rfl W164 2 rfl (Nat.le_of_ble_eq_true rfl)
        have N164 := Fr.snoc X164 N101 gn_b93
        refine Got.step st164 ?_
        show Got p e below s _ _ _ _ T164 (mkF m 53 #[.val (.ref o0), .val (.ref b93), .val (.int (1 : Int32)), .val (.int (2 : Int32))] [])
        refine Got.step (T' := T164) (g' := (mkF m 11 #[.val (.ref o0), .val (.ref b93), .val (.int (1 : Int32)), .val (.int (3 : Int32))] [(.ref o0), (.int (3 : Int32))])) (fun tq kt => ?_) ?_
        · show Steps p.tables e below (T164.setTop (mkF m 53 #[.val (.ref o0), .val (.ref b93), .val (.int (1 : Int32)), .val (.int (2 : Int32))] [])) _
          refine XS.iinc X164.here hx rfl (hb hby d6_53) rfl (l' := #[.val (.ref o0), .val (.ref b93), .val (.int (1 : Int32)), .val (.int ((2 : Int32) + (1 : Int32)))]) rfl ?_
          show Steps p.tables e below (T164.setTop (mkF m 56 #[.val (.ref o0), .val (.ref b93), .val (.int (1 : Int32)), .val (.int (3 : Int32))] [])) _
          refine XS.goto X164.here hx rfl (pc0 := 56) (pc' := 9) rfl (hb hby d6_56) (by decide) (by decide) ?_
          show Steps p.tables e below (T164.setTop (mkF m 9 #[.val (.ref o0), .val (.ref b93), .val (.int (1 : Int32)), .val (.int (3 : Int32))] [])) _
          refine XS.iloadN X164.here hx rfl (hb hby d6_9) rfl ?_
          show Steps p.tables e below (T164.setTop (mkF m 10 #[.val (.ref o0), .val (.ref b93), .val (.int (1 : Int32)), .val (.int (3 : Int32))] [(.int (3 : Int32))])) _
          refine XS.aloadN X164.here hx rfl (hb hby d6_10) rfl rfl ?_
          exact kt
        obtain ⟨cl168, Ar168, q168, S168, M168, H168, G168⟩ := (id V0_167)
        refine Got.step (T' := T164) (fun tq kt => X164.arraylength hx (cell := cl168) (by rw [e164]; exact Ar168.1) (State.isArrayOf_alike hZ.alike Ar168.2.1) (g := (mkF m 11 #[.val (.ref o0), .val (.ref b93), .val (.int (1 : Int32)), .val (.int (3 : Int32))] [(.ref o0), (.int (3 : Int32))])) rfl (rest := [(.int (3 : Int32))]) rfl (hb hby d6_11) tq kt) ?_
        rw [len_of S168 M168]
        show Got p e below s _ _ _ _ T164 (mkF m 12 #[.val (.ref o0), .val (.ref b93), .val (.int (1 : Int32)), .val (.int (3 : Int32))] [(.int (4 : Int32)), (.int (3 : Int32))])
        refine Got.step (T' := T164) (g' := (mkF m 21 #[.val (.ref o0), .val (.ref b93), .val (.int (1 : Int32)), .val (.int (3 : Int32))] [(.int (3 : Int32)), (.ref o0)])) (fun tq kt => ?_) ?_
        · show Steps p.tables e below (T164.setTop (mkF m 12 #[.val (.ref o0), .val (.ref b93), .val (.int (1 : Int32)), .val (.int (3 : Int32))] [(.int (4 : Int32)), (.int (3 : Int32))])) _
          refine XS.icmpNo X164.here hx rfl (hb hby d6_12) rfl (XT.ii_ge_f (by decide)) ?_
          show Steps p.tables e below (T164.setTop (mkF m 15 #[.val (.ref o0), .val (.ref b93), .val (.int (1 : Int32)), .val (.int (3 : Int32))] [])) _
          refine XS.iloadN X164.here hx rfl (hb hby d6_15) rfl ?_
          show Steps p.tables e below (T164.setTop (mkF m 16 #[.val (.ref o0), .val (.ref b93), .val (.int (1 : Int32)), .val (.int (3 : Int32))] [(.int (1 : Int32))])) _
          refine XS.ifNo X164.here hx rfl (hb hby d6_16) rfl (XT.i0_le_f (by decide)) ?_
          show Steps p.tables e below (T164.setTop (mkF m 19 #[.val (.ref o0), .val (.ref b93), .val (.int (1 : Int32)), .val (.int (3 : Int32))] [])) _
          refine XS.aloadN X164.here hx rfl (hb hby d6_19) rfl rfl ?_
          show Steps p.tables e below (T164.setTop (mkF m 20 #[.val (.ref o0), .val (.ref b93), .val (.int (1 : Int32)), .val (.int (3 : Int32))] [(.ref o0)])) _
          refine XS.iloadN X164.here hx rfl (hb hby d6_20) rfl ?_
          exact kt
        obtain ⟨cl169, Ar169, q169, S169, M169, H169, G169⟩ := (id V0_167)
        have hin169 : ¬ ((3 : Int32) < 0 ∨ cl169.slots.size ≤ ((3 : Int32)).toNatClampNeg) := inb_of S169 ⟨by decide, by decide⟩
        refine Got.step (T' := T164) (fun tq kt => X164.iaload hx (j := (3 : Int32)) (v := (.int u3)) (by rw [e164]; exact Ar169.1) (State.isArrayOf_alike hZ.alike Ar169.2.1) Ar169.2.2 hin169 (H169.at hin169 rfl) (g := (mkF m 21 #[.val (.ref o0), .val (.ref b93), .val (.int (1 : Int32)), .val (.int (3 : Int32))] [(.int (3 : Int32)), (.ref o0)])) rfl rfl (hb hby d6_21) tq kt) ?_
        show Got p e below s _ _ _ _ T164 (mkF m 22 #[.val (.ref o0), .val (.ref b93), .val (.int (1 : Int32)), .val (.int (3 : Int32))] [(.int u3)])
        refine Got.step (T' := T164) (g' := (mkF m 24 #[.val (.ref o0), .val (.ref b93), .val (.int (1 : Int32)), .val (.int (3 : Int32))] [(.int (1 : Int32)), (.ref o0), (.int u3)])) (fun tq kt => ?_) ?_
        · show Steps p.tables e below (T164.setTop (mkF m 22 #[.val (.ref o0), .val (.ref b93), .val (.int (1 : Int32)), .val (.int (3 : Int32))] [(.int u3)])) _
          refine XS.aloadN X164.here hx rfl (hb hby d6_22) rfl rfl ?_
          show Steps p.tables e below (T164.setTop (mkF m 23 #[.val (.ref o0), .val (.ref b93), .val (.int (1 : Int32)), .val (.int (3 : Int32))] [(.ref o0), (.int u3)])) _
          refine XS.iloadN X164.here hx rfl (hb hby d6_23) rfl ?_
          exact kt
        obtain ⟨cl170, Ar170, q170, S170, M170, H170, G170⟩ := (id V0_167)
        have hin170 : ¬ ((1 : Int32) < 0 ∨ cl170.slots.size ≤ ((1 : Int32)).toNatClampNeg) := inb_of S170 ⟨by decide, by decide⟩
        refine Got.step (T' := T164) (fun tq kt => X164.iaload hx (j := (1 : Int32)) (v := (.int u1)) (by rw [e164]; exact Ar170.1) (State.isArrayOf_alike hZ.alike Ar170.2.1) Ar170.2.2 hin170 (H170.at hin170 rfl) (g := (mkF m 24 #[.val (.ref o0), .val (.ref b93), .val (.int (1 : Int32)), .val (.int (3 : Int32))] [(.int (1 : Int32)), (.ref o0), (.int u3)])) rfl rfl (hb hby d6_24) tq kt) ?_
        show Got p e below s _ _ _ _ T164 (mkF m 25 #[.val (.ref o0), .val (.ref b93), .val (.int (1 : Int32)), .val (.int (3 : Int32))] [(.int u1), (.int u3)])
        by_cases hc171 : (u3 = u1)
        · refine Got.step (T' := T164) (g' := (mkF m 39 #[.val (.ref o0), .val (.ref b93), .val (.int (1 : Int32)), .val (.int (3 : Int32))] [(.int (3 : Int32)), (.ref o0)])) (fun tq kt => ?_) ?_
          · show Steps p.tables e below (T164.setTop (mkF m 25 #[.val (.ref o0), .val (.ref b93), .val (.int (1 : Int32)), .val (.int (3 : Int32))] [(.int u1), (.int u3)])) _
            refine XS.icmpYes X164.here hx rfl (pc0 := 25) (pc' := 37) rfl (hb hby d6_25) rfl (XT.ii_eq_t hc171) (by decide) (by decide) ?_
            show Steps p.tables e below (T164.setTop (mkF m 37 #[.val (.ref o0), .val (.ref b93), .val (.int (1 : Int32)), .val (.int (3 : Int32))] [])) _
            refine XS.aloadN X164.here hx rfl (hb hby d6_37) rfl rfl ?_
            show Steps p.tables e below (T164.setTop (mkF m 38 #[.val (.ref o0), .val (.ref b93), .val (.int (1 : Int32)), .val (.int (3 : Int32))] [(.ref o0)])) _
            refine XS.iloadN X164.here hx rfl (hb hby d6_38) rfl ?_
            exact kt
          obtain ⟨cl172, Ar172, q172, S172, M172, H172, G172⟩ := (id V0_167)
          have hin172 : ¬ ((3 : Int32) < 0 ∨ cl172.slots.size ≤ ((3 : Int32)).toNatClampNeg) := inb_of S172 ⟨by decide, by decide⟩
          refine Got.step (T' := T164) (fun tq kt => X164.iaload hx (j := (3 : Int32)) (v := (.int u3)) (by rw [e164]; exact Ar172.1) (State.isArrayOf_alike hZ.alike Ar172.2.1) Ar172.2.2 hin172 (H172.at hin172 rfl) (g := (mkF m 39 #[.val (.ref o0), .val (.ref b93), .val (.int (1 : Int32)), .val (.int (3 : Int32))] [(.int (3 : Int32)), (.ref o0)])) rfl rfl (hb hby d6_39) tq kt) ?_
          show Got p e below s _ _ _ _ T164 (mkF m 40 #[.val (.ref o0), .val (.ref b93), .val (.int (1 : Int32)), .val (.int (3 : Int32))] [(.int u3)])
          refine Got.step (T' := T164) (g' := (mkF m 42 #[.val (.ref o0), .val (.ref b93), .val (.int (1 : Int32)), .val (.int (3 : Int32))] [(.int (1 : Int32)), (.ref o0), (.int u3)])) (fun tq kt => ?_) ?_
          · show Steps p.tables e below (T164.setTop (mkF m 40 #[.val (.ref o0), .val (.ref b93), .val (.int (1 : Int32)), .val (.int (3 : Int32))] [(.int u3)])) _
            refine XS.aloadN X164.here hx rfl (hb hby d6_40) rfl rfl ?_
            show Steps p.tables e below (T164.setTop (mkF m 41 #[.val (.ref o0), .val (.ref b93), .val (.int (1 : Int32)), .val (.int (3 : Int32))] [(.ref o0), (.int u3)])) _
            refine XS.iloadN X164.here hx rfl (hb hby d6_41) rfl ?_
            exact kt
          obtain ⟨cl173, Ar173, q173, S173, M173, H173, G173⟩ := (id V0_167)
          have hin173 : ¬ ((1 : Int32) < 0 ∨ cl173.slots.size ≤ ((1 : Int32)).toNatClampNeg) := inb_of S173 ⟨by decide, by decide⟩
          refine Got.step (T' := T164) (fun tq kt => X164.iaload hx (j := (1 : Int32)) (v := (.int u1)) (by rw [e164]; exact Ar173.1) (State.isArrayOf_alike hZ.alike Ar173.2.1) Ar173.2.2 hin173 (H173.at hin173 rfl) (g := (mkF m 42 #[.val (.ref o0), .val (.ref b93), .val (.int (1 : Int32)), .val (.int (3 : Int32))] [(.int (1 : Int32)), (.ref o0), (.int u3)])) rfl rfl (hb hby d6_42) tq kt) ?_
          show Got p e below s _ _ _ _ T164 (mkF m 43 #[.val (.ref o0), .val (.ref b93), .val (.int (1 : Int32)), .val (.int (3 : Int32))] [(.int u1), (.int u3)])
          by_cases hc174 : (u3 = u1)
          · refine Got.step (T' := T164) (g' := (mkF m 52 #[.val (.ref o0), .val (.ref b93), .val (.int (2 : Int32)), .val (.int (3 : Int32))] [(.int (2 : Int32)), (.int (3 : Int32)), (.ref b93)])) (fun tq kt => ?_) ?_
            · show Steps p.tables e below (T164.setTop (mkF m 43 #[.val (.ref o0), .val (.ref b93), .val (.int (1 : Int32)), .val (.int (3 : Int32))] [(.int u1), (.int u3)])) _
              refine XS.icmpNo X164.here hx rfl (hb hby d6_43) rfl (XT.ii_ne_f hc174) ?_
              show Steps p.tables e below (T164.setTop (mkF m 46 #[.val (.ref o0), .val (.ref b93), .val (.int (1 : Int32)), .val (.int (3 : Int32))] [])) _
              refine XS.iinc X164.here hx rfl (hb hby d6_46) rfl (l' := #[.val (.ref o0), .val (.ref b93), .val (.int ((1 : Int32) + (1 : Int32))), .val (.int (3 : Int32))]) rfl ?_
              show Steps p.tables e below (T164.setTop (mkF m 49 #[.val (.ref o0), .val (.ref b93), .val (.int (2 : Int32)), .val (.int (3 : Int32))] [])) _
              refine XS.aloadN X164.here hx rfl (hb hby d6_49) rfl rfl ?_
              show Steps p.tables e below (T164.setTop (mkF m 50 #[.val (.ref o0), .val (.ref b93), .val (.int (2 : Int32)), .val (.int (3 : Int32))] [(.ref b93)])) _
              refine XS.iloadN X164.here hx rfl (hb hby d6_50) rfl ?_
              show Steps p.tables e below (T164.setTop (mkF m 51 #[.val (.ref o0), .val (.ref b93), .val (.int (2 : Int32)), .val (.int (3 : Int32))] [(.int (3 : Int32)), (.ref b93)])) _
              refine XS.iloadN X164.here hx rfl (hb hby d6_51) rfl ?_
              exact kt
            obtain ⟨cl175, Ar175, q175, S175, M175, H175, G175⟩ := (id V164)
            have hin175 : ¬ ((3 : Int32) < 0 ∨ cl175.slots.size ≤ ((3 : Int32)).toNatClampNeg) := inb_of S175 ⟨by decide, by decide⟩
            obtain ⟨T175, h175, X175, e175, W175, st175⟩ := stI X164 hx hZ e164 Ar175 (j := (3 : Int32)) hin175 (g := (mkF m 52 #[.val (.ref o0), .val (.ref b93), .val (.int (2 : Int32)), .val (.int (3 : Int32))] [(.int (2 : Int32)), (.int (3 : Int32)), (.ref b93)])) rfl rfl (hb hby d6_52)
            have Z0_176 : n0 ≤ h175.size := (Nat.le_trans Z0_165 (Keep.of_wr W175).1)
            have K0_177 : Keep h0 h175 [] := (K0_166.wr W175 (Or.inr sz_b93))
            have V0_178 : Arv Z h175 o0 ku .int (4 : Int32) [(.int u0), (.int u1), (.int u2), (.int u3)] (.int (0 : Int32)) := (V0_167.other W175 ne_o0_b93)
            have V175 : Arv Z h175 b93 k93 .int (4 : Int32) [(.int (0 : Int32)), (.int (1 : Int32)), (.int (1 : Int32)), (.int (2 : Int32))] (.int (0 : Int32)) := Arv.set Ar175 q175 S175 M175 H175 G175 rfl W175 3 rfl (Nat.le_of_ble_eq_true rfl)
            have N175 := Fr.snoc X175 N164 gn_b93
            refine Got.step st175 ?_
            show Got p e below s _ _ _ _ T175 (mkF m 53 #[.val (.ref o0), .val (.ref b93), .val (.int (2 : Int32)), .val (.int (3 : Int32))] [])
            refine Got.step (T' := T175) (g' := (mkF m 11 #[.val (.ref o0), .val (.ref b93), .val (.int (2 : Int32)), .val (.int (4 : Int32))] [(.ref o0), (.int (4 : Int32))])) (fun tq kt => ?_) ?_
            · show Steps p.tables e below (T175.setTop (mkF m 53 #[.val (.ref o0), .val (.ref b93), .val (.int (2 : Int32)), .val (.int (3 : Int32))] [])) _
              refine XS.iinc X175.here hx rfl (hb hby d6_53) rfl (l' := #[.val (.ref o0), .val (.ref b93), .val (.int (2 : Int32)), .val (.int ((3 : Int32) + (1 : Int32)))]) rfl ?_
              show Steps p.tables e below (T175.setTop (mkF m 56 #[.val (.ref o0), .val (.ref b93), .val (.int (2 : Int32)), .val (.int (4 : Int32))] [])) _
              refine XS.goto X175.here hx rfl (pc0 := 56) (pc' := 9) rfl (hb hby d6_56) (by decide) (by decide) ?_
              show Steps p.tables e below (T175.setTop (mkF m 9 #[.val (.ref o0), .val (.ref b93), .val (.int (2 : Int32)), .val (.int (4 : Int32))] [])) _
              refine XS.iloadN X175.here hx rfl (hb hby d6_9) rfl ?_
              show Steps p.tables e below (T175.setTop (mkF m 10 #[.val (.ref o0), .val (.ref b93), .val (.int (2 : Int32)), .val (.int (4 : Int32))] [(.int (4 : Int32))])) _
              refine XS.aloadN X175.here hx rfl (hb hby d6_10) rfl rfl ?_
              exact kt
            obtain ⟨cl179, Ar179, q179, S179, M179, H179, G179⟩ := (id V0_178)
            refine Got.step (T' := T175) (fun tq kt => X175.arraylength hx (cell := cl179) (by rw [e175]; exact Ar179.1) (State.isArrayOf_alike hZ.alike Ar179.2.1) (g := (mkF m 11 #[.val (.ref o0), .val (.ref b93), .val (.int (2 : Int32)), .val (.int (4 : Int32))] [(.ref o0), (.int (4 : Int32))])) rfl (rest := [(.int (4 : Int32))]) rfl (hb hby d6_11) tq kt) ?_
            rw [len_of S179 M179]
            show Got p e below s _ _ _ _ T175 (mkF m 12 #[.val (.ref o0), .val (.ref b93), .val (.int (2 : Int32)), .val (.int (4 : Int32))] [(.int (4 : Int32)), (.int (4 : Int32))])
            refine Got.step (T' := T175) (g' := (mkF m 60 #[.val (.ref o0), .val (.ref b93), .val (.int (2 : Int32)), .val (.int (4 : Int32))] [(.ref b93)])) (fun tq kt => ?_) ?_
            · show Steps p.tables e below (T175.setTop (mkF m 12 #[.val (.ref o0), .val (.ref b93), .val (.int (2 : Int32)), .val (.int (4 : Int32))] [(.int (4 : Int32)), (.int (4 : Int32))])) _
              refine XS.icmpYes X175.here hx rfl (pc0 := 12) (pc' := 59) rfl (hb hby d6_12) rfl (XT.ii_ge_t Int32.lt_irrefl) (by decide) (by decide) ?_
              show Steps p.tables e below (T175.setTop (mkF m 59 #[.val (.ref o0), .val (.ref b93), .val (.int (2 : Int32)), .val (.int (4 : Int32))] [])) _
              refine XS.aloadN X175.here hx rfl (hb hby d6_59) rfl rfl ?_
              exact kt
            rw [← g93]
            exact Got.retA X175 hx Bd.returns rfl hlk (hb hby d6_60) rfl ⟨N175, by rw [e175]; exact K0_177, k93, by rw [e175]; unfold ptab4; rw [((if_pos hc100).trans ((if_pos hc108).trans ((if_neg hc111).trans ((if_pos hc171).trans (if_pos hc174)))))]; exact V175⟩ (by decide) (by decide)
          · refine Got.step (T' := T164) (g' := (mkF m 52 #[.val (.ref o0), .val (.ref b93), .val (.int (1 : Int32)), .val (.int (3 : Int32))] [(.int (1 : Int32)), (.int (3 : Int32)), (.ref b93)])) (fun tq kt => ?_) ?_
            · show Steps p.tables e below (T164.setTop (mkF m 43 #[.val (.ref o0), .val (.ref b93), .val (.int (1 : Int32)), .val (.int (3 : Int32))] [(.int u1), (.int u3)])) _
              refine XS.icmpYes X164.here hx rfl (pc0 := 43) (pc' := 49) rfl (hb hby d6_43) rfl (XT.ii_ne_t hc174) (by decide) (by decide) ?_
              show Steps p.tables e below (T164.setTop (mkF m 49 #[.val (.ref o0), .val (.ref b93), .val (.int (1 : Int32)), .val (.int (3 : Int32))] [])) _
              refine XS.aloadN X164.here hx rfl (hb hby d6_49) rfl rfl ?_
              show Steps p.tables e below (T164.setTop (mkF m 50 #[.val (.ref o0), .val (.ref b93), .val (.int (1 : Int32)), .val (.int (3 : Int32))] [(.ref b93)])) _
              refine XS.iloadN X164.here hx rfl (hb hby d6_50) rfl ?_
              show Steps p.tables e below (T164.setTop (mkF m 51 #[.val (.ref o0), .val (.ref b93), .val (.int (1 : Int32)), .val (.int (3 : Int32))] [(.int (3 : Int32)), (.ref b93)])) _
              refine XS.iloadN X164.here hx rfl (hb hby d6_51) rfl ?_
              exact kt
            obtain ⟨cl180, Ar180, q180, S180, M180, H180, G180⟩ := (id V164)
            have hin180 : ¬ ((3 : Int32) < 0 ∨ cl180.slots.size ≤ ((3 : Int32)).toNatClampNeg) := inb_of S180 ⟨by decide, by decide⟩
            obtain ⟨T180, h180, X180, e180, W180, st180⟩ := stI X164 hx hZ e164 Ar180 (j := (3 : Int32)) hin180 (g := (mkF m 52 #[.val (.ref o0), .val (.ref b93), .val (.int (1 : Int32)), .val (.int (3 : Int32))] [(.int (1 : Int32)), (.int (3 : Int32)), (.ref b93)])) rfl rfl (hb hby d6_52)
            have Z0_181 : n0 ≤ h180.size := (Nat.le_trans Z0_165 (Keep.of_wr W180).1)
            have K0_182 : Keep h0 h180 [] := (K0_166.wr W180 (Or.inr sz_b93))
            have V0_183 : Arv Z h180 o0 ku .int (4 : Int32) [(.int u0), (.int u1), (.int u2), (.int u3)] (.int (0 : Int32)) := (V0_167.other W180 ne_o0_b93)
            have V180 : Arv Z h180 b93 k93 .int (4 : Int32) [(.int (0 : Int32)), (.int (1 : Int32)), (.int (1 : Int32)), (.int (1 : Int32))] (.int (0 : Int32)) := Arv.set Ar180 q180 S180 M180 H180 G180 rfl W180 3 rfl (Nat.le_of_ble_eq_true rfl)
            have N180 := Fr.snoc X180 N164 gn_b93
            refine Got.step st180 ?_
            show Got p e below s _ _ _ _ T180 (mkF m 53 #[.val (.ref o0), .val (.ref b93), .val (.int (1 : Int32)), .val (.int (3 : Int32))] [])
            refine Got.step (T' := T180) (g' := (mkF m 11 #[.val (.ref o0), .val (.ref b93), .val (.int (1 : Int32)), .val (.int (4 : Int32))] [(.ref o0), (.int (4 : Int32))])) (fun tq kt => ?_) ?_
            · show Steps p.tables e below (T180.setTop (mkF m 53 #[.val (.ref o0), .val (.ref b93), .val (.int (1 : Int32)), .val (.int (3 : Int32))] [])) _
              refine XS.iinc X180.here hx rfl (hb hby d6_53) rfl (l' := #[.val (.ref o0), .val (.ref b93), .val (.int (1 : Int32)), .val (.int ((3 : Int32) + (1 : Int32)))]) rfl ?_
              show Steps p.tables e below (T180.setTop (mkF m 56 #[.val (.ref o0), .val (.ref b93), .val (.int (1 : Int32)), .val (.int (4 : Int32))] [])) _
              refine XS.goto X180.here hx rfl (pc0 := 56) (pc' := 9) rfl (hb hby d6_56) (by decide) (by decide) ?_
              show Steps p.tables e below (T180.setTop (mkF m 9 #[.val (.ref o0), .val (.ref b93), .val (.int (1 : Int32)), .val (.int (4 : Int32))] [])) _
              refine XS.iloadN X180.here hx rfl (hb hby d6_9) rfl ?_
              show Steps p.tables e below (T180.setTop (mkF m 10 #[.val (.ref o0), .val (.ref b93), .val (.int (1 : Int32)), .val (.int (4 : Int32))] [(.int (4 : Int32))])) _
              refine XS.aloadN X180.here hx rfl (hb hby d6_10) rfl rfl ?_
              exact kt
            obtain ⟨cl184, Ar184, q184, S184, M184, H184, G184⟩ := (id V0_183)
            refine Got.step (T' := T180) (fun tq kt => X180.arraylength hx (cell := cl184) (by rw [e180]; exact Ar184.1) (State.isArrayOf_alike hZ.alike Ar184.2.1) (g := (mkF m 11 #[.val (.ref o0), .val (.ref b93), .val (.int (1 : Int32)), .val (.int (4 : Int32))] [(.ref o0), (.int (4 : Int32))])) rfl (rest := [(.int (4 : Int32))]) rfl (hb hby d6_11) tq kt) ?_
            rw [len_of S184 M184]
            show Got p e below s _ _ _ _ T180 (mkF m 12 #[.val (.ref o0), .val (.ref b93), .val (.int (1 : Int32)), .val (.int (4 : Int32))] [(.int (4 : Int32)), (.int (4 : Int32))])
            refine Got.step (T' := T180) (g' := (mkF m 60 #[.val (.ref o0), .val (.ref b93), .val (.int (1 : Int32)), .val (.int (4 : Int32))] [(.ref b93)])) (fun tq kt => ?_) ?_
            · show Steps p.tables e below (T180.setTop (mkF m 12 #[.val (.ref o0), .val (.ref b93), .val (.int (1 : Int32)), .val (.int (4 : Int32))] [(.int (4 : Int32)), (.int (4 : Int32))])) _
              refine XS.icmpYes X180.here hx rfl (pc0 := 12) (pc' := 59) rfl (hb hby d6_12) rfl (XT.ii_ge_t Int32.lt_irrefl) (by decide) (by decide) ?_
              show Steps p.tables e below (T180.setTop (mkF m 59 #[.val (.ref o0), .val (.ref b93), .val (.int (1 : Int32)), .val (.int (4 : Int32))] [])) _
              refine XS.aloadN X180.here hx rfl (hb hby d6_59) rfl rfl ?_
              exact kt
            rw [← g93]
            exact Got.retA X180 hx Bd.returns rfl hlk (hb hby d6_60) rfl ⟨N180, by rw [e180]; exact K0_182, k93, by rw [e180]; unfold ptab4; rw [((if_pos hc100).trans ((if_pos hc108).trans ((if_neg hc111).trans ((if_pos hc171).trans (if_neg hc174)))))]; exact V180⟩ (by decide) (by decide)
        · refine Got.step (T' := T164) (g' := (mkF m 32 #[.val (.ref o0), .val (.ref b93), .val (.int (1 : Int32)), .val (.int (3 : Int32))] [(.int (0 : Int32)), (.ref b93)])) (fun tq kt => ?_) ?_
          · show Steps p.tables e below (T164.setTop (mkF m 25 #[.val (.ref o0), .val (.ref b93), .val (.int (1 : Int32)), .val (.int (3 : Int32))] [(.int u1), (.int u3)])) _
            refine XS.icmpNo X164.here hx rfl (hb hby d6_25) rfl (XT.ii_eq_f hc171) ?_
            show Steps p.tables e below (T164.setTop (mkF m 28 #[.val (.ref o0), .val (.ref b93), .val (.int (1 : Int32)), .val (.int (3 : Int32))] [])) _
            refine XS.aloadN X164.here hx rfl (hb hby d6_28) rfl rfl ?_
            show Steps p.tables e below (T164.setTop (mkF m 29 #[.val (.ref o0), .val (.ref b93), .val (.int (1 : Int32)), .val (.int (3 : Int32))] [(.ref b93)])) _
            refine XS.iloadN X164.here hx rfl (hb hby d6_29) rfl ?_
            show Steps p.tables e below (T164.setTop (mkF m 30 #[.val (.ref o0), .val (.ref b93), .val (.int (1 : Int32)), .val (.int (3 : Int32))] [(.int (1 : Int32)), (.ref b93)])) _
            refine XS.iconst X164.here hx rfl (hb hby d6_30) ?_
            show Steps p.tables e below (T164.setTop (mkF m 31 #[.val (.ref o0), .val (.ref b93), .val (.int (1 : Int32)), .val (.int (3 : Int32))] [(.int (1 : Int32)), (.int (1 : Int32)), (.ref b93)])) _
            refine XS.isub X164.here hx rfl (hb hby d6_31) rfl ?_
            exact kt
          obtain ⟨cl185, Ar185, q185, S185, M185, H185, G185⟩ := (id V164)
          have hin185 : ¬ ((0 : Int32) < 0 ∨ cl185.slots.size ≤ ((0 : Int32)).toNatClampNeg) := inb_of S185 ⟨by decide, by decide⟩
          refine Got.step (T' := T164) (fun tq kt => X164.iaload hx (j := (0 : Int32)) (v := (.int (0 : Int32))) (by rw [e164]; exact Ar185.1) (State.isArrayOf_alike hZ.alike Ar185.2.1) Ar185.2.2 hin185 (H185.at hin185 rfl) (g := (mkF m 32 #[.val (.ref o0), .val (.ref b93), .val (.int (1 : Int32)), .val (.int (3 : Int32))] [(.int (0 : Int32)), (.ref b93)])) rfl rfl (hb hby d6_32) tq kt) ?_
          show Got p e below s _ _ _ _ T164 (mkF m 33 #[.val (.ref o0), .val (.ref b93), .val (.int (1 : Int32)), .val (.int (3 : Int32))] [(.int (0 : Int32))])
          refine Got.step (T' := T164) (g' := (mkF m 39 #[.val (.ref o0), .val (.ref b93), .val (.int (0 : Int32)), .val (.int (3 : Int32))] [(.int (3 : Int32)), (.ref o0)])) (fun tq kt => ?_) ?_
          · show Steps p.tables e below (T164.setTop (mkF m 33 #[.val (.ref o0), .val (.ref b93), .val (.int (1 : Int32)), .val (.int (3 : Int32))] [(.int (0 : Int32))])) _
            refine XS.istoreN X164.here hx rfl (hb hby d6_33) rfl (l' := #[.val (.ref o0), .val (.ref b93), .val (.int (0 : Int32)), .val (.int (3 : Int32))]) rfl ?_
            show Steps p.tables e below (T164.setTop (mkF m 34 #[.val (.ref o0), .val (.ref b93), .val (.int (0 : Int32)), .val (.int (3 : Int32))] [])) _
            refine XS.goto X164.here hx rfl (pc0 := 34) (pc' := 15) rfl (hb hby d6_34) (by decide) (by decide) ?_
            show Steps p.tables e below (T164.setTop (mkF m 15 #[.val (.ref o0), .val (.ref b93), .val (.int (0 : Int32)), .val (.int (3 : Int32))] [])) _
            refine XS.iloadN X164.here hx rfl (hb hby d6_15) rfl ?_
            show Steps p.tables e below (T164.setTop (mkF m 16 #[.val (.ref o0), .val (.ref b93), .val (.int (0 : Int32)), .val (.int (3 : Int32))] [(.int (0 : Int32))])) _
            refine XS.ifYes X164.here hx rfl (pc0 := 16) (pc' := 37) rfl (hb hby d6_16) rfl (XT.i0_le_t (by decide)) (by decide) (by decide) ?_
            show Steps p.tables e below (T164.setTop (mkF m 37 #[.val (.ref o0), .val (.ref b93), .val (.int (0 : Int32)), .val (.int (3 : Int32))] [])) _
            refine XS.aloadN X164.here hx rfl (hb hby d6_37) rfl rfl ?_
            show Steps p.tables e below (T164.setTop (mkF m 38 #[.val (.ref o0), .val (.ref b93), .val (.int (0 : Int32)), .val (.int (3 : Int32))] [(.ref o0)])) _
            refine XS.iloadN X164.here hx rfl (hb hby d6_38) rfl ?_
            exact kt
          obtain ⟨cl186, Ar186, q186, S186, M186, H186, G186⟩ := (id V0_167)
          have hin186 : ¬ ((3 : Int32) < 0 ∨ cl186.slots.size ≤ ((3 : Int32)).toNatClampNeg) := inb_of S186 ⟨by decide, by decide⟩
          refine Got.step (T' := T164) (fun tq kt => X164.iaload hx (j := (3 : Int32)) (v := (.int u3)) (by rw [e164]; exact Ar186.1) (State.isArrayOf_alike hZ.alike Ar186.2.1) Ar186.2.2 hin186 (H186.at hin186 rfl) (g := (mkF m 39 #[.val (.ref o0), .val (.ref b93), .val (.int (0 : Int32)), .val (.int (3 : Int32))] [(.int (3 : Int32)), (.ref o0)])) rfl rfl (hb hby d6_39) tq kt) ?_
          show Got p e below s _ _ _ _ T164 (mkF m 40 #[.val (.ref o0), .val (.ref b93), .val (.int (0 : Int32)), .val (.int (3 : Int32))] [(.int u3)])
          refine Got.step (T' := T164) (g' := (mkF m 42 #[.val (.ref o0), .val (.ref b93), .val (.int (0 : Int32)), .val (.int (3 : Int32))] [(.int (0 : Int32)), (.ref o0), (.int u3)])) (fun tq kt => ?_) ?_
          · show Steps p.tables e below (T164.setTop (mkF m 40 #[.val (.ref o0), .val (.ref b93), .val (.int (0 : Int32)), .val (.int (3 : Int32))] [(.int u3)])) _
            refine XS.aloadN X164.here hx rfl (hb hby d6_40) rfl rfl ?_
            show Steps p.tables e below (T164.setTop (mkF m 41 #[.val (.ref o0), .val (.ref b93), .val (.int (0 : Int32)), .val (.int (3 : Int32))] [(.ref o0), (.int u3)])) _
            refine XS.iloadN X164.here hx rfl (hb hby d6_41) rfl ?_
            exact kt
          obtain ⟨cl187, Ar187, q187, S187, M187, H187, G187⟩ := (id V0_167)
          have hin187 : ¬ ((0 : Int32) < 0 ∨ cl187.slots.size ≤ ((0 : Int32)).toNatClampNeg) := inb_of S187 ⟨by decide, by decide⟩
          refine Got.step (T' := T164) (fun tq kt => X164.iaload hx (j := (0 : Int32)) (v := (.int u0)) (by rw [e164]; exact Ar187.1) (State.isArrayOf_alike hZ.alike Ar187.2.1) Ar187.2.2 hin187 (H187.at hin187 rfl) (g := (mkF m 42 #[.val (.ref o0), .val (.ref b93), .val (.int (0 : Int32)), .val (.int (3 : Int32))] [(.int (0 : Int32)), (.ref o0), (.int u3)])) rfl rfl (hb hby d6_42) tq kt) ?_
          show Got p e below s _ _ _ _ T164 (mkF m 43 #[.val (.ref o0), .val (.ref b93), .val (.int (0 : Int32)), .val (.int (3 : Int32))] [(.int u0), (.int u3)])
          by_cases hc188 : (u3 = u0)
          · refine Got.step (T' := T164) (g' := (mkF m 52 #[.val (.ref o0), .val (.ref b93), .val (.int (1 : Int32)), .val (.int (3 : Int32))] [(.int (1 : Int32)), (.int (3 : Int32)), (.ref b93)])) (fun tq kt => ?_) ?_
            · show Steps p.tables e below (T164.setTop (mkF m 43 #[.val (.ref o0), .val (.ref b93), .val (.int (0 : Int32)), .val (.int (3 : Int32))] [(.int u0), (.int u3)])) _
              refine XS.icmpNo X164.here hx rfl (hb hby d6_43) rfl (XT.ii_ne_f hc188) ?_
              show Steps p.tables e below (T164.setTop (mkF m 46 #[.val (.ref o0), .val (.ref b93), .val (.int (0 : Int32)), .val (.int (3 : Int32))] [])) _
              refine XS.iinc X164.here hx rfl (hb hby d6_46) rfl (l' := #[.val (.ref o0), .val (.ref b93), .val (.int ((0 : Int32) + (1 : Int32))), .val (.int (3 : Int32))]) rfl ?_
              show Steps p.tables e below (T164.setTop (mkF m 49 #[.val (.ref o0), .val (.ref b93), .val (.int (1 : Int32)), .val (.int (3 : Int32))] [])) _
              refine XS.aloadN X164.here hx rfl (hb hby d6_49) rfl rfl ?_
              show Steps p.tables e below (T164.setTop (mkF m 50 #[.val (.ref o0), .val (.ref b93), .val (.int (1 : Int32)), .val (.int (3 : Int32))] [(.ref b93)])) _
              refine XS.iloadN X164.here hx rfl (hb hby d6_50) rfl ?_
              show Steps p.tables e below (T164.setTop (mkF m 51 #[.val (.ref o0), .val (.ref b93), .val (.int (1 : Int32)), .val (.int (3 : Int32))] [(.int (3 : Int32)), (.ref b93)])) _
              refine XS.iloadN X164.here hx rfl (hb hby d6_51) rfl ?_
              exact kt
            obtain ⟨cl189, Ar189, q189, S189, M189, H189, G189⟩ := (id V164)
            have hin189 : ¬ ((3 : Int32) < 0 ∨ cl189.slots.size ≤ ((3 : Int32)).toNatClampNeg) := inb_of S189 ⟨by decide, by decide⟩
            obtain ⟨T189, h189, X189, e189, W189, st189⟩ := stI X164 hx hZ e164 Ar189 (j := (3 : Int32)) hin189 (g := (mkF m 52 #[.val (.ref o0), .val (.ref b93), .val (.int (1 : Int32)), .val (.int (3 : Int32))] [(.int (1 : Int32)), (.int (3 : Int32)), (.ref b93)])) rfl rfl (hb hby d6_52)
            have Z0_190 : n0 ≤ h189.size := (Nat.le_trans Z0_165 (Keep.of_wr W189).1)
            have K0_191 : Keep h0 h189 [] := (K0_166.wr W189 (Or.inr sz_b93))
            have V0_192 : Arv Z h189 o0 ku .int (4 : Int32) [(.int u0), (.int u1), (.int u2), (.int u3)] (.int (0 : Int32)) := (V0_167.other W189 ne_o0_b93)
            have V189 : Arv Z h189 b93 k93 .int (4 : Int32) [(.int (0 : Int32)), (.int (1 : Int32)), (.int (1 : Int32)), (.int (1 : Int32))] (.int (0 : Int32)) := Arv.set Ar189 q189 S189 M189 H189 G189 rfl W189 3 rfl (Nat.le_of_ble_eq_true rfl)
            have N189 := Fr.snoc X189 N164 gn_b93
            refine Got.step st189 ?_
            show Got p e below s _ _ _ _ T189 (mkF m 53 #[.val (.ref o0), .val (.ref b93), .val (.int (1 : Int32)), .val (.int (3 : Int32))] [])
            refine Got.step (T' := T189) (g' := (mkF m 11 #[.val (.ref o0), .val (.ref b93), .val (.int (1 : Int32)), .val (.int (4 : Int32))] [(.ref o0), (.int (4 : Int32))])) (fun tq kt => ?_) ?_
            · show Steps p.tables e below (T189.setTop (mkF m 53 #[.val (.ref o0), .val (.ref b93), .val (.int (1 : Int32)), .val (.int (3 : Int32))] [])) _
              refine XS.iinc X189.here hx rfl (hb hby d6_53) rfl (l' := #[.val (.ref o0), .val (.ref b93), .val (.int (1 : Int32)), .val (.int ((3 : Int32) + (1 : Int32)))]) rfl ?_
              show Steps p.tables e below (T189.setTop (mkF m 56 #[.val (.ref o0), .val (.ref b93), .val (.int (1 : Int32)), .val (.int (4 : Int32))] [])) _
              refine XS.goto X189.here hx rfl (pc0 := 56) (pc' := 9) rfl (hb hby d6_56) (by decide) (by decide) ?_
              show Steps p.tables e below (T189.setTop (mkF m 9 #[.val (.ref o0), .val (.ref b93), .val (.int (1 : Int32)), .val (.int (4 : Int32))] [])) _
              refine XS.iloadN X189.here hx rfl (hb hby d6_9) rfl ?_
              show Steps p.tables e below (T189.setTop (mkF m 10 #[.val (.ref o0), .val (.ref b93), .val (.int (1 : Int32)), .val (.int (4 : Int32))] [(.int (4 : Int32))])) _
              refine XS.aloadN X189.here hx rfl (hb hby d6_10) rfl rfl ?_
              exact kt
            obtain ⟨cl193, Ar193, q193, S193, M193, H193, G193⟩ := (id V0_192)
            refine Got.step (T' := T189) (fun tq kt => X189.arraylength hx (cell := cl193) (by rw [e189]; exact Ar193.1) (State.isArrayOf_alike hZ.alike Ar193.2.1) (g := (mkF m 11 #[.val (.ref o0), .val (.ref b93), .val (.int (1 : Int32)), .val (.int (4 : Int32))] [(.ref o0), (.int (4 : Int32))])) rfl (rest := [(.int (4 : Int32))]) rfl (hb hby d6_11) tq kt) ?_
            rw [len_of S193 M193]
            show Got p e below s _ _ _ _ T189 (mkF m 12 #[.val (.ref o0), .val (.ref b93), .val (.int (1 : Int32)), .val (.int (4 : Int32))] [(.int (4 : Int32)), (.int (4 : Int32))])
            refine Got.step (T' := T189) (g' := (mkF m 60 #[.val (.ref o0), .val (.ref b93), .val (.int (1 : Int32)), .val (.int (4 : Int32))] [(.ref b93)])) (fun tq kt => ?_) ?_
            · show Steps p.tables e below (T189.setTop (mkF m 12 #[.val (.ref o0), .val (.ref b93), .val (.int (1 : Int32)), .val (.int (4 : Int32))] [(.int (4 : Int32)), (.int (4 : Int32))])) _
              refine XS.icmpYes X189.here hx rfl (pc0 := 12) (pc' := 59) rfl (hb hby d6_12) rfl (XT.ii_ge_t Int32.lt_irrefl) (by decide) (by decide) ?_
              show Steps p.tables e below (T189.setTop (mkF m 59 #[.val (.ref o0), .val (.ref b93), .val (.int (1 : Int32)), .val (.int (4 : Int32))] [])) _
              refine XS.aloadN X189.here hx rfl (hb hby d6_59) rfl rfl ?_
              exact kt
            rw [← g93]
            exact Got.retA X189 hx Bd.returns rfl hlk (hb hby d6_60) rfl ⟨N189, by rw [e189]; exact K0_191, k93, by rw [e189]; unfold ptab4; rw [((if_pos hc100).trans ((if_pos hc108).trans ((if_neg hc111).trans ((if_neg hc171).trans (if_pos hc188)))))]; exact V189⟩ (by decide) (by decide)
          · refine Got.step (T' := T164) (g' := (mkF m 52 #[.val (.ref o0), .val (.ref b93), .val (.int (0 : Int32)), .val (.int (3 : Int32))] [(.int (0 : Int32)), (.int (3 : Int32)), (.ref b93)])) (fun tq kt => ?_) ?_
            · show Steps p.tables e below (T164.setTop (mkF m 43 #[.val (.ref o0), .val (.ref b93), .val (.int (0 : Int32)), .val (.int (3 : Int32))] [(.int u0), (.int u3)])) _
              refine XS.icmpYes X164.here hx rfl (pc0 := 43) (pc' := 49) rfl (hb hby d6_43) rfl (XT.ii_ne_t hc188) (by decide) (by decide) ?_
              show Steps p.tables e below (T164.setTop (mkF m 49 #[.val (.ref o0), .val (.ref b93), .val (.int (0 : Int32)), .val (.int (3 : Int32))] [])) _
              refine XS.aloadN X164.here hx rfl (hb hby d6_49) rfl rfl ?_
              show Steps p.tables e below (T164.setTop (mkF m 50 #[.val (.ref o0), .val (.ref b93), .val (.int (0 : Int32)), .val (.int (3 : Int32))] [(.ref b93)])) _
              refine XS.iloadN X164.here hx rfl (hb hby d6_50) rfl ?_
              show Steps p.tables e below (T164.setTop (mkF m 51 #[.val (.ref o0), .val (.ref b93), .val (.int (0 : Int32)), .val (.int (3 : Int32))] [(.int (3 : Int32)), (.ref b93)])) _
              refine XS.iloadN X164.here hx rfl (hb hby d6_51) rfl ?_
              exact kt
            obtain ⟨cl194, Ar194, q194, S194, M194, H194, G194⟩ := (id V164)
            have hin194 : ¬ ((3 : Int32) < 0 ∨ cl194.slots.size ≤ ((3 : Int32)).toNatClampNeg) := inb_of S194 ⟨by decide, by decide⟩
            obtain ⟨T194, h194, X194, e194, W194, st194⟩ := stI X164 hx hZ e164 Ar194 (j := (3 : Int32)) hin194 (g := (mkF m 52 #[.val (.ref o0), .val (.ref b93), .val (.int (0 : Int32)), .val (.int (3 : Int32))] [(.int (0 : Int32)), (.int (3 : Int32)), (.ref b93)])) rfl rfl (hb hby d6_52)
            have Z0_195 : n0 ≤ h194.size := (Nat.le_trans Z0_165 (Keep.of_wr W194).1)
            have K0_196 : Keep h0 h194 [] := (K0_166.wr W194 (Or.inr sz_b93))
            have V0_197 : Arv Z h194 o0 ku .int (4 : Int32) [(.int u0), (.int u1), (.int u2), (.int u3)] (.int (0 : Int32)) := (V0_167.other W194 ne_o0_b93)
            have V194 : Arv Z h194 b93 k93 .int (4 : Int32) [(.int (0 : Int32)), (.int (1 : Int32)), (.int (1 : Int32)), (.int (0 : Int32))] (.int (0 : Int32)) := Arv.set Ar194 q194 S194 M194 H194 G194 rfl W194 3 rfl (Nat.le_of_ble_eq_true rfl)
            have N194 := Fr.snoc X194 N164 gn_b93
            refine Got.step st194 ?_
            show Got p e below s _ _ _ _ T194 (mkF m 53 #[.val (.ref o0), .val (.ref b93), .val (.int (0 : Int32)), .val (.int (3 : Int32))] [])
            refine Got.step (T' := T194) (g' := (mkF m 11 #[.val (.ref o0), .val (.ref b93), .val (.int (0 : Int32)), .val (.int (4 : Int32))] [(.ref o0), (.int (4 : Int32))])) (fun tq kt => ?_) ?_
            · show Steps p.tables e below (T194.setTop (mkF m 53 #[.val (.ref o0), .val (.ref b93), .val (.int (0 : Int32)), .val (.int (3 : Int32))] [])) _
              refine XS.iinc X194.here hx rfl (hb hby d6_53) rfl (l' := #[.val (.ref o0), .val (.ref b93), .val (.int (0 : Int32)), .val (.int ((3 : Int32) + (1 : Int32)))]) rfl ?_
              show Steps p.tables e below (T194.setTop (mkF m 56 #[.val (.ref o0), .val (.ref b93), .val (.int (0 : Int32)), .val (.int (4 : Int32))] [])) _
              refine XS.goto X194.here hx rfl (pc0 := 56) (pc' := 9) rfl (hb hby d6_56) (by decide) (by decide) ?_
              show Steps p.tables e below (T194.setTop (mkF m 9 #[.val (.ref o0), .val (.ref b93), .val (.int (0 : Int32)), .val (.int (4 : Int32))] [])) _
              refine XS.iloadN X194.here hx rfl (hb hby d6_9) rfl ?_
              show Steps p.tables e below (T194.setTop (mkF m 10 #[.val (.ref o0), .val (.ref b93), .val (.int (0 : Int32)), .val (.int (4 : Int32))] [(.int (4 : Int32))])) _
              refine XS.aloadN X194.here hx rfl (hb hby d6_10) rfl rfl ?_
              exact kt
            obtain ⟨cl198, Ar198, q198, S198, M198, H198, G198⟩ := (id V0_197)
            refine Got.step (T' := T194) (fun tq kt => X194.arraylength hx (cell := cl198) (by rw [e194]; exact Ar198.1) (State.isArrayOf_alike hZ.alike Ar198.2.1) (g := (mkF m 11 #[.val (.ref o0), .val (.ref b93), .val (.int (0 : Int32)), .val (.int (4 : Int32))] [(.ref o0), (.int (4 : Int32))])) rfl (rest := [(.int (4 : Int32))]) rfl (hb hby d6_11) tq kt) ?_
            rw [len_of S198 M198]
            show Got p e below s _ _ _ _ T194 (mkF m 12 #[.val (.ref o0), .val (.ref b93), .val (.int (0 : Int32)), .val (.int (4 : Int32))] [(.int (4 : Int32)), (.int (4 : Int32))])
            refine Got.step (T' := T194) (g' := (mkF m 60 #[.val (.ref o0), .val (.ref b93), .val (.int (0 : Int32)), .val (.int (4 : Int32))] [(.ref b93)])) (fun tq kt => ?_) ?_
            · show Steps p.tables e below (T194.setTop (mkF m 12 #[.val (.ref o0), .val (.ref b93), .val (.int (0 : Int32)), .val (.int (4 : Int32))] [(.int (4 : Int32)), (.int (4 : Int32))])) _
              refine XS.icmpYes X194.here hx rfl (pc0 := 12) (pc' := 59) rfl (hb hby d6_12) rfl (XT.ii_ge_t Int32.lt_irrefl) (by decide) (by decide) ?_
              show Steps p.tables e below (T194.setTop (mkF m 59 #[.val (.ref o0), .val (.ref b93), .val (.int (0 : Int32)), .val (.int (4 : Int32))] [])) _
              refine XS.aloadN X194.here hx rfl (hb hby d6_59) rfl rfl ?_
              exact kt
            rw [← g93]
            exact Got.retA X194 hx Bd.returns rfl hlk (hb hby d6_60) rfl ⟨N194, by rw [e194]; exact K0_196, k93, by rw [e194]; unfold ptab4; rw [((if_pos hc100).trans ((if_pos hc108).trans ((if_neg hc111).trans ((if_neg hc171).trans (if_neg hc188)))))]; exact V194⟩ (by decide) (by decide)
    · refine Got.step (T' := T101) (g' := (mkF m 32 #[.val (.ref o0), .val (.ref b93), .val (.int (1 : Int32)), .val (.int (2 : Int32))] [(.int (0 : Int32)), (.ref b93)])) (fun tq kt => ?_) ?_
      · show Steps p.tables e below (T101.setTop (mkF m 25 #[.val (.ref o0), .val (.ref b93), .val (.int (1 : Int32)), .val (.int (2 : Int32))] [(.int u1), (.int u2)])) _
        refine XS.icmpNo X101.here hx rfl (hb hby d6_25) rfl (XT.ii_eq_f hc108) ?_
        show Steps p.tables e below (T101.setTop (mkF m 28 #[.val (.ref o0), .val (.ref b93), .val (.int (1 : Int32)), .val (.int (2 : Int32))] [])) _
        refine XS.aloadN X101.here hx rfl (hb hby d6_28) rfl rfl ?_
        show Steps p.tables e below (T101.setTop (mkF m 29 #[.val (.ref o0), .val (.ref b93), .val (.int (1 : Int32)), .val (.int (2 : Int32))] [(.ref b93)])) _
        refine XS.iloadN X101.here hx rfl (hb hby d6_29) rfl ?_
        show Steps p.tables e below (T101.setTop (mkF m 30 #[.val (.ref o0), .val (.ref b93), .val (.int (1 : Int32)), .val (.int (2 : Int32))] [(.int (1 : Int32)), (.ref b93)])) _
        refine XS.iconst X101.here hx rfl (hb hby d6_30) ?_
        show Steps p.tables e below (T101.setTop (mkF m 31 #[.val (.ref o0), .val (.ref b93), .val (.int (1 : Int32)), .val (.int (2 : Int32))] [(.int (1 : Int32)), (.int (1 : Int32)), (.ref b93)])) _
        refine XS.isub X101.here hx rfl (hb hby d6_31) rfl ?_
        exact kt
      obtain ⟨cl199, Ar199, q199, S199, M199, H199, G199⟩ := (id V101)
      have hin199 : ¬ ((0 : Int32) < 0 ∨ cl199.slots.size ≤ ((0 : Int32)).toNatClampNeg) := inb_of S199 ⟨by decide, by decide⟩
      refine Got.step (T' := T101) (fun tq kt => X101.iaload hx (j := (0 : Int32)) (v := (.int (0 : Int32))) (by rw [e101]; exact Ar199.1) (State.isArrayOf_alike hZ.alike Ar199.2.1) Ar199.2.2 hin199 (H199.at hin199 rfl) (g := (mkF m 32 #[.val (.ref o0), .val (.ref b93), .val (.int (1 : Int32)), .val (.int (2 : Int32))] [(.int (0 : Int32)), (.ref b93)])) rfl rfl (hb hby d6_32) tq kt) ?_
      show Got p e below s _ _ _ _ T101 (mkF m 33 #[.val (.ref o0), .val (.ref b93), .val (.int (1 : Int32)), .val (.int (2 : Int32))] [(.int (0 : Int32))])
      refine Got.step (T' := T101) (g' := (mkF m 39 #[.val (.ref o0), .val (.ref b93), .val (.int (0 : Int32)), .val (.int (2 : Int32))] [(.int (2 : Int32)), (.ref o0)])) (fun tq kt => ?_) ?_
      · show Steps p.tables e below (T101.setTop (mkF m 33 #[.val (.ref o0), .val (.ref b93), .val (.int (1 : Int32)), .val (.int (2 : Int32))] [(.int (0 : Int32))])) _
        refine XS.istoreN X101.here hx rfl (hb hby d6_33) rfl (l' := #[.val (.ref o0), .val (.ref b93), .val (.int (0 : Int32)), .val (.int (2 : Int32))]) rfl ?_
        show Steps p.tables e below (T101.setTop (mkF m 34 #[.val (.ref o0), .val (.ref b93), .val (.int (0 : Int32)), .val (.int (2 : Int32))] [])) _
        refine XS.goto X101.here hx rfl (pc0 := 34) (pc' := 15) rfl (hb hby d6_34) (by decide) (by decide) ?_
        show Steps p.tables e below (T101.setTop (mkF m 15 #[.val (.ref o0), .val (.ref b93), .val (.int (0 : Int32)), .val (.int (2 : Int32))] [])) _
        refine XS.iloadN X101.here hx rfl (hb hby d6_15) rfl ?_
        show Steps p.tables e below (T101.setTop (mkF m 16 #[.val (.ref o0), .val (.ref b93), .val (.int (0 : Int32)), .val (.int (2 : Int32))] [(.int (0 : Int32))])) _
        refine XS.ifYes X101.here hx rfl (pc0 := 16) (pc' := 37) rfl (hb hby d6_16) rfl (XT.i0_le_t (by decide)) (by decide) (by decide) ?_
        show Steps p.tables e below (T101.setTop (mkF m 37 #[.val (.ref o0), .val (.ref b93), .val (.int (0 : Int32)), .val (.int (2 : Int32))] [])) _
        refine XS.aloadN X101.here hx rfl (hb hby d6_37) rfl rfl ?_
        show Steps p.tables e below (T101.setTop (mkF m 38 #[.val (.ref o0), .val (.ref b93), .val (.int (0 : Int32)), .val (.int (2 : Int32))] [(.ref o0)])) _
        refine XS.iloadN X101.here hx rfl (hb hby d6_38) rfl ?_
        exact kt
      obtain ⟨cl200, Ar200, q200, S200, M200, H200, G200⟩ := (id V0_104)
      have hin200 : ¬ ((2 : Int32) < 0 ∨ cl200.slots.size ≤ ((2 : Int32)).toNatClampNeg) := inb_of S200 ⟨by decide, by decide⟩
      refine Got.step (T' := T101) (fun tq kt => X101.iaload hx (j := (2 : Int32)) (v := (.int u2)) (by rw [e101]; exact Ar200.1) (State.isArrayOf_alike hZ.alike Ar200.2.1) Ar200.2.2 hin200 (H200.at hin200 rfl) (g := (mkF m 39 #[.val (.ref o0), .val (.ref b93), .val (.int (0 : Int32)), .val (.int (2 : Int32))] [(.int (2 : Int32)), (.ref o0)])) rfl rfl (hb hby d6_39) tq kt) ?_
      show Got p e below s _ _ _ _ T101 (mkF m 40 #[.val (.ref o0), .val (.ref b93), .val (.int (0 : Int32)), .val (.int (2 : Int32))] [(.int u2)])
      refine Got.step (T' := T101) (g' := (mkF m 42 #[.val (.ref o0), .val (.ref b93), .val (.int (0 : Int32)), .val (.int (2 : Int32))] [(.int (0 : Int32)), (.ref o0), (.int u2)])) (fun tq kt => ?_) ?_
      · show Steps p.tables e below (T101.setTop (mkF m 40 #[.val (.ref o0), .val (.ref b93), .val (.int (0 : Int32)), .val (.int (2 : Int32))] [(.int u2)])) _
        refine XS.aloadN X101.here hx rfl (hb hby d6_40) rfl rfl ?_
        show Steps p.tables e below (T101.setTop (mkF m 41 #[.val (.ref o0), .val (.ref b93), .val (.int (0 : Int32)), .val (.int (2 : Int32))] [(.ref o0), (.int u2)])) _
        refine XS.iloadN X101.here hx rfl (hb hby d6_41) rfl ?_
        exact kt
      obtain ⟨cl201, Ar201, q201, S201, M201, H201, G201⟩ := (id V0_104)
      have hin201 : ¬ ((0 : Int32) < 0 ∨ cl201.slots.size ≤ ((0 : Int32)).toNatClampNeg) := inb_of S201 ⟨by decide, by decide⟩
      refine Got.step (T' := T101) (fun tq kt => X101.iaload hx (j := (0 : Int32)) (v := (.int u0)) (by rw [e101]; exact Ar201.1) (State.isArrayOf_alike hZ.alike Ar201.2.1) Ar201.2.2 hin201 (H201.at hin201 rfl) (g := (mkF m 42 #[.val (.ref o0), .val (.ref b93), .val (.int (0 : Int32)), .val (.int (2 : Int32))] [(.int (0 : Int32)), (.ref o0), (.int u2)])) rfl rfl (hb hby d6_42) tq kt) ?_
      show Got p e below s _ _ _ _ T101 (mkF m 43 #[.val (.ref o0), .val (.ref b93), .val (.int (0 : Int32)), .val (.int (2 : Int32))] [(.int u0), (.int u2)])
      by_cases hc202 : (u2 = u0)
      · refine Got.step (T' := T101) (g' := (mkF m 52 #[.val (.ref o0), .val (.ref b93), .val (.int (1 : Int32)), .val (.int (2 : Int32))] [(.int (1 : Int32)), (.int (2 : Int32)), (.ref b93)])) (fun tq kt => ?_) ?_
        · show Steps p.tables e below (T101.setTop (mkF m 43 #[.val (.ref o0), .val (.ref b93), .val (.int (0 : Int32)), .val (.int (2 : Int32))] [(.int u0), (.int u2)])) _
          refine XS.icmpNo X101.here hx rfl (hb hby d6_43) rfl (XT.ii_ne_f hc202) ?_
          show Steps p.tables e below (T101.setTop (mkF m 46 #[.val (.ref o0), .val (.ref b93), .val (.int (0 : Int32)), .val (.int (2 : Int32))] [])) _
          refine XS.iinc X101.here hx rfl (hb hby d6_46) rfl (l' := #[.val (.ref o0), .val (.ref b93), .val (.int ((0 : Int32) + (1 : Int32))), .val (.int (2 : Int32))]) rfl ?_
          show Steps p.tables e below (T101.setTop (mkF m 49 #[.val (.ref o0), .val (.ref b93), .val (.int (1 : Int32)), .val (.int (2 : Int32))] [])) _
          refine XS.aloadN X101.here hx rfl (hb hby d6_49) rfl rfl ?_
          show Steps p.tables e below (T101.setTop (mkF m 50 #[.val (.ref o0), .val (.ref b93), .val (.int (1 : Int32)), .val (.int (2 : Int32))] [(.ref b93)])) _
          refine XS.iloadN X101.here hx rfl (hb hby d6_50) rfl ?_
          show Steps p.tables e below (T101.setTop (mkF m 51 #[.val (.ref o0), .val (.ref b93), .val (.int (1 : Int32)), .val (.int (2 : Int32))] [(.int (2 : Int32)), (.ref b93)])) _
          refine XS.iloadN X101.here hx rfl (hb hby d6_51) rfl ?_
          exact kt
        obtain ⟨cl203, Ar203, q203, S203, M203, H203, G203⟩ := (id V101)
        have hin203 : ¬ ((2 : Int32) < 0 ∨ cl203.slots.size ≤ ((2 : Int32)).toNatClampNeg) := inb_of S203 ⟨by decide, by decide⟩
        obtain ⟨T203, h203, X203, e203, W203, st203⟩ := stI X101 hx hZ e101 Ar203 (j := (2 : Int32)) hin203 (g := (mkF m 52 #[.val (.ref o0), .val (.ref b93), .val (.int (1 : Int32)), .val (.int (2 : Int32))] [(.int (1 : Int32)), (.int (2 : Int32)), (.ref b93)])) rfl rfl (hb hby d6_52)
        have Z0_204 : n0 ≤ h203.size := (Nat.le_trans Z0_102 (Keep.of_wr W203).1)
        have K0_205 : Keep h0 h203 [] := (K0_103.wr W203 (Or.inr sz_b93))
        have V0_206 : Arv Z h203 o0 ku .int (4 : Int32) [(.int u0), (.int u1), (.int u2), (.int u3)] (.int (0 : Int32)) := (V0_104.other W203 ne_o0_b93)
        have V203 : Arv Z h203 b93 k93 .int (4 : Int32) [(.int (0 : Int32)), (.int (1 : Int32)), (.int (1 : Int32)), (.int (0 : Int32))] (.int (0 : Int32)) := Arv.set Ar203 q203 S203 M203 H203 G203 rfl W203 2 rfl (Nat.le_of_ble_eq_true rfl)
        have N203 := Fr.snoc X203 N101 gn_b93
        refine Got.step st203 ?_
        show Got p e below s _ _ _ _ T203 (mkF m 53 #[.val (.ref o0), .val (.ref b93), .val (.int (1 : Int32)), .val (.int (2 : Int32))] [])
        refine Got.step (T' := T203) (g' := (mkF m 11 #[.val (.ref o0), .val (.ref b93), .val (.int (1 : Int32)), .val (.int (3 : Int32))] [(.ref o0), (.int (3 : Int32))])) (fun tq kt => ?_) ?_
        · show Steps p.tables e below (T203.setTop (mkF m 53 #[.val (.ref o0), .val (.ref b93), .val (.int (1 : Int32)), .val (.int (2 : Int32))] [])) _
          refine XS.iinc X203.here hx rfl (hb hby d6_53) rfl (l' := #[.val (.ref o0), .val (.ref b93), .val (.int (1 : Int32)), .val (.int ((2 : Int32) + (1 : Int32)))]) rfl ?_
          show Steps p.tables e below (T203.setTop (mkF m 56 #[.val (.ref o0), .val (.ref b93), .val (.int (1 : Int32)), .val (.int (3 : Int32))] [])) _
          refine XS.goto X203.here hx rfl (pc0 := 56) (pc' := 9) rfl (hb hby d6_56) (by decide) (by decide) ?_
          show Steps p.tables e below (T203.setTop (mkF m 9 #[.val (.ref o0), .val (.ref b93), .val (.int (1 : Int32)), .val (.int (3 : Int32))] [])) _
          refine XS.iloadN X203.here hx rfl (hb hby d6_9) rfl ?_
          show Steps p.tables e below (T203.setTop (mkF m 10 #[.val (.ref o0), .val (.ref b93), .val (.int (1 : Int32)), .val (.int (3 : Int32))] [(.int (3 : Int32))])) _
          refine XS.aloadN X203.here hx rfl (hb hby d6_10) rfl rfl ?_
          exact kt
        obtain ⟨cl207, Ar207, q207, S207, M207, H207, G207⟩ := (id V0_206)
        refine Got.step (T' := T203) (fun tq kt => X203.arraylength hx (cell := cl207) (by rw [e203]; exact Ar207.1) (State.isArrayOf_alike hZ.alike Ar207.2.1) (g := (mkF m 11 #[.val (.ref o0), .val (.ref b93), .val (.int (1 : Int32)), .val (.int (3 : Int32))] [(.ref o0), (.int (3 : Int32))])) rfl (rest := [(.int (3 : Int32))]) rfl (hb hby d6_11) tq kt) ?_
        rw [len_of S207 M207]
        show Got p e below s _ _ _ _ T203 (mkF m 12 #[.val (.ref o0), .val (.ref b93), .val (.int (1 : Int32)), .val (.int (3 : Int32))] [(.int (4 : Int32)), (.int (3 : Int32))])
        refine Got.step (T' := T203) (g' := (mkF m 21 #[.val (.ref o0), .val (.ref b93), .val (.int (1 : Int32)), .val (.int (3 : Int32))] [(.int (3 : Int32)), (.ref o0)])) (fun tq kt => ?_) ?_
        · show Steps p.tables e below (T203.setTop (mkF m 12 #[.val (.ref o0), .val (.ref b93), .val (.int (1 : Int32)), .val (.int (3 : Int32))] [(.int (4 : Int32)), (.int (3 : Int32))])) _
          refine XS.icmpNo X203.here hx rfl (hb hby d6_12) rfl (XT.ii_ge_f (by decide)) ?_
          show Steps p.tables e below (T203.setTop (mkF m 15 #[.val (.ref o0), .val (.ref b93), .val (.int (1 : Int32)), .val (.int (3 : Int32))] [])) _
          refine XS.iloadN X203.here hx rfl (hb hby d6_15) rfl ?_
          show Steps p.tables e below (T203.setTop (mkF m 16 #[.val (.ref o0), .val (.ref b93), .val (.int (1 : Int32)), .val (.int (3 : Int32))] [(.int (1 : Int32))])) _
          refine XS.ifNo X203.here hx rfl (hb hby d6_16) rfl (XT.i0_le_f (by decide)) ?_
          show Steps p.tables e below (T203.setTop (mkF m 19 #[.val (.ref o0), .val (.ref b93), .val (.int (1 : Int32)), .val (.int (3 : Int32))] [])) _
          refine XS.aloadN X203.here hx rfl (hb hby d6_19) rfl rfl ?_
          show Steps p.tables e below (T203.setTop (mkF m 20 #[.val (.ref o0), .val (.ref b93), .val (.int (1 : Int32)), .val (.int (3 : Int32))] [(.ref o0)])) _
          refine XS.iloadN X203.here hx rfl (hb hby d6_20) rfl ?_
          exact kt
        obtain ⟨cl208, Ar208, q208, S208, M208, H208, G208⟩ := (id V0_206)
        have hin208 : ¬ ((3 : Int32) < 0 ∨ cl208.slots.size ≤ ((3 : Int32)).toNatClampNeg) := inb_of S208 ⟨by decide, by decide⟩
        refine Got.step (T' := T203) (fun tq kt => X203.iaload hx (j := (3 : Int32)) (v := (.int u3)) (by rw [e203]; exact Ar208.1) (State.isArrayOf_alike hZ.alike Ar208.2.1) Ar208.2.2 hin208 (H208.at hin208 rfl) (g := (mkF m 21 #[.val (.ref o0), .val (.ref b93), .val (.int (1 : Int32)), .val (.int (3 : Int32))] [(.int (3 : Int32)), (.ref o0)])) rfl rfl (hb hby d6_21) tq kt) ?_
        show Got p e below s _ _ _ _ T203 (mkF m 22 #[.val (.ref o0), .val (.ref b93), .val (.int (1 : Int32)), .val (.int (3 : Int32))] [(.int u3)])
        refine Got.step (T' := T203) (g' := (mkF m 24 #[.val (.ref o0), .val (.ref b93), .val (.int (1 : Int32)), .val (.int (3 : Int32))] [(.int (1 : Int32)), (.ref o0), (.int u3)])) (fun tq kt => ?_) ?_
        · show Steps p.tables e below (T203.setTop (mkF m 22 #[.val (.ref o0), .val (.ref b93), .val (.int (1 : Int32)), .val (.int (3 : Int32))] [(.int u3)])) _
          refine XS.aloadN X203.here hx rfl (hb hby d6_22) rfl rfl ?_
          show Steps p.tables e below (T203.setTop (mkF m 23 #[.val (.ref o0), .val (.ref b93), .val (.int (1 : Int32)), .val (.int (3 : Int32))] [(.ref o0), (.int u3)])) _
          refine XS.iloadN X203.here hx rfl (hb hby d6_23) rfl ?_
          exact kt
        obtain ⟨cl209, Ar209, q209, S209, M209, H209, G209⟩ := (id V0_206)
        have hin209 : ¬ ((1 : Int32) < 0 ∨ cl209.slots.size ≤ ((1 : Int32)).toNatClampNeg) := inb_of S209 ⟨by decide, by decide⟩
        refine Got.step (T' := T203) (fun tq kt => X203.iaload hx (j := (1 : Int32)) (v := (.int u1)) (by rw [e203]; exact Ar209.1) (State.isArrayOf_alike hZ.alike Ar209.2.1) Ar209.2.2 hin209 (H209.at hin209 rfl) (g := (mkF m 24 #[.val (.ref o0), .val (.ref b93), .val (.int (1 : Int32)), .val (.int (3 : Int32))] [(.int (1 : Int32)), (.ref o0), (.int u3)])) rfl rfl (hb hby d6_24) tq kt) ?_
        show Got p e below s _ _ _ _ T203 (mkF m 25 #[.val (.ref o0), .val (.ref b93), .val (.int (1 : Int32)), .val (.int (3 : Int32))] [(.int u1), (.int u3)])
        by_cases hc210 : (u3 = u1)
        · refine Got.step (T' := T203) (g' := (mkF m 39 #[.val (.ref o0), .val (.ref b93), .val (.int (1 : Int32)), .val (.int (3 : Int32))] [(.int (3 : Int32)), (.ref o0)])) (fun tq kt => ?_) ?_
          · show Steps p.tables e below (T203.setTop (mkF m 25 #[.val (.ref o0), .val (.ref b93), .val (.int (1 : Int32)), .val (.int (3 : Int32))] [(.int u1), (.int u3)])) _
            refine XS.icmpYes X203.here hx rfl (pc0 := 25) (pc' := 37) rfl (hb hby d6_25) rfl (XT.ii_eq_t hc210) (by decide) (by decide) ?_
            show Steps p.tables e below (T203.setTop (mkF m 37 #[.val (.ref o0), .val (.ref b93), .val (.int (1 : Int32)), .val (.int (3 : Int32))] [])) _
            refine XS.aloadN X203.here hx rfl (hb hby d6_37) rfl rfl ?_
            show Steps p.tables e below (T203.setTop (mkF m 38 #[.val (.ref o0), .val (.ref b93), .val (.int (1 : Int32)), .val (.int (3 : Int32))] [(.ref o0)])) _
            refine XS.iloadN X203.here hx rfl (hb hby d6_38) rfl ?_
            exact kt
          obtain ⟨cl211, Ar211, q211, S211, M211, H211, G211⟩ := (id V0_206)
          have hin211 : ¬ ((3 : Int32) < 0 ∨ cl211.slots.size ≤ ((3 : Int32)).toNatClampNeg) := inb_of S211 ⟨by decide, by decide⟩
          refine Got.step (T' := T203) (fun tq kt => X203.iaload hx (j := (3 : Int32)) (v := (.int u3)) (by rw [e203]; exact Ar211.1) (State.isArrayOf_alike hZ.alike Ar211.2.1) Ar211.2.2 hin211 (H211.at hin211 rfl) (g := (mkF m 39 #[.val (.ref o0), .val (.ref b93), .val (.int (1 : Int32)), .val (.int (3 : Int32))] [(.int (3 : Int32)), (.ref o0)])) rfl rfl (hb hby d6_39) tq kt) ?_
          show Got p e below s _ _ _ _ T203 (mkF m 40 #[.val (.ref o0), .val (.ref b93), .val (.int (1 : Int32)), .val (.int (3 : Int32))] [(.int u3)])
          refine Got.step (T' := T203) (g' := (mkF m 42 #[.val (.ref o0), .val (.ref b93), .val (.int (1 : Int32)), .val (.int (3 : Int32))] [(.int (1 : Int32)), (.ref o0), (.int u3)])) (fun tq kt => ?_) ?_
          · show Steps p.tables e below (T203.setTop (mkF m 40 #[.val (.ref o0), .val (.ref b93), .val (.int (1 : Int32)), .val (.int (3 : Int32))] [(.int u3)])) _
            refine XS.aloadN X203.here hx rfl (hb hby d6_40) rfl rfl ?_
            show Steps p.tables e below (T203.setTop (mkF m 41 #[.val (.ref o0), .val (.ref b93), .val (.int (1 : Int32)), .val (.int (3 : Int32))] [(.ref o0), (.int u3)])) _
            refine XS.iloadN X203.here hx rfl (hb hby d6_41) rfl ?_
            exact kt
          obtain ⟨cl212, Ar212, q212, S212, M212, H212, G212⟩ := (id V0_206)
          have hin212 : ¬ ((1 : Int32) < 0 ∨ cl212.slots.size ≤ ((1 : Int32)).toNatClampNeg) := inb_of S212 ⟨by decide, by decide⟩
          refine Got.step (T' := T203) (fun tq kt => X203.iaload hx (j := (1 : Int32)) (v := (.int u1)) (by rw [e203]; exact Ar212.1) (State.isArrayOf_alike hZ.alike Ar212.2.1) Ar212.2.2 hin212 (H212.at hin212 rfl) (g := (mkF m 42 #[.val (.ref o0), .val (.ref b93), .val (.int (1 : Int32)), .val (.int (3 : Int32))] [(.int (1 : Int32)), (.ref o0), (.int u3)])) rfl rfl (hb hby d6_42) tq kt) ?_
          show Got p e below s _ _ _ _ T203 (mkF m 43 #[.val (.ref o0), .val (.ref b93), .val (.int (1 : Int32)), .val (.int (3 : Int32))] [(.int u1), (.int u3)])
          by_cases hc213 : (u3 = u1)
          · refine Got.step (T' := T203) (g' := (mkF m 52 #[.val (.ref o0), .val (.ref b93), .val (.int (2 : Int32)), .val (.int (3 : Int32))] [(.int (2 : Int32)), (.int (3 : Int32)), (.ref b93)])) (fun tq kt => ?_) ?_
            · show Steps p.tables e below (T203.setTop (mkF m 43 #[.val (.ref o0), .val (.ref b93), .val (.int (1 : Int32)), .val (.int (3 : Int32))] [(.int u1), (.int u3)])) _
              refine XS.icmpNo X203.here hx rfl (hb hby d6_43) rfl (XT.ii_ne_f hc213) ?_
              show Steps p.tables e below (T203.setTop (mkF m 46 #[.val (.ref o0), .val (.ref b93), .val (.int (1 : Int32)), .val (.int (3 : Int32))] [])) _
              refine XS.iinc X203.here hx rfl (hb hby d6_46) rfl (l' := #[.val (.ref o0), .val (.ref b93), .val (.int ((1 : Int32) + (1 : Int32))), .val (.int (3 : Int32))]) rfl ?_
              show Steps p.tables e below (T203.setTop (mkF m 49 #[.val (.ref o0), .val (.ref b93), .val (.int (2 : Int32)), .val (.int (3 : Int32))] [])) _
              refine XS.aloadN X203.here hx rfl (hb hby d6_49) rfl rfl ?_
              show Steps p.tables e below (T203.setTop (mkF m 50 #[.val (.ref o0), .val (.ref b93), .val (.int (2 : Int32)), .val (.int (3 : Int32))] [(.ref b93)])) _
              refine XS.iloadN X203.here hx rfl (hb hby d6_50) rfl ?_
              show Steps p.tables e below (T203.setTop (mkF m 51 #[.val (.ref o0), .val (.ref b93), .val (.int (2 : Int32)), .val (.int (3 : Int32))] [(.int (3 : Int32)), (.ref b93)])) _
              refine XS.iloadN X203.here hx rfl (hb hby d6_51) rfl ?_
              exact kt
            obtain ⟨cl214, Ar214, q214, S214, M214, H214, G214⟩ := (id V203)
            have hin214 : ¬ ((3 : Int32) < 0 ∨ cl214.slots.size ≤ ((3 : Int32)).toNatClampNeg) := inb_of S214 ⟨by decide, by decide⟩
            obtain ⟨T214, h214, X214, e214, W214, st214⟩ := stI X203 hx hZ e203 Ar214 (j := (3 : Int32)) hin214 (g := (mkF m 52 #[.val (.ref o0), .val (.ref b93), .val (.int (2 : Int32)), .val (.int (3 : Int32))] [(.int (2 : Int32)), (.int (3 : Int32)), (.ref b93)])) rfl rfl (hb hby d6_52)
            have Z0_215 : n0 ≤ h214.size := (Nat.le_trans Z0_204 (Keep.of_wr W214).1)
            have K0_216 : Keep h0 h214 [] := (K0_205.wr W214 (Or.inr sz_b93))
            have V0_217 : Arv Z h214 o0 ku .int (4 : Int32) [(.int u0), (.int u1), (.int u2), (.int u3)] (.int (0 : Int32)) := (V0_206.other W214 ne_o0_b93)
            have V214 : Arv Z h214 b93 k93 .int (4 : Int32) [(.int (0 : Int32)), (.int (1 : Int32)), (.int (1 : Int32)), (.int (2 : Int32))] (.int (0 : Int32)) := Arv.set Ar214 q214 S214 M214 H214 G214 rfl W214 3 rfl (Nat.le_of_ble_eq_true rfl)
            have N214 := Fr.snoc X214 N203 gn_b93
            refine Got.step st214 ?_
            show Got p e below s _ _ _ _ T214 (mkF m 53 #[.val (.ref o0), .val (.ref b93), .val (.int (2 : Int32)), .val (.int (3 : Int32))] [])
            refine Got.step (T' := T214) (g' := (mkF m 11 #[.val (.ref o0), .val (.ref b93), .val (.int (2 : Int32)), .val (.int (4 : Int32))] [(.ref o0), (.int (4 : Int32))])) (fun tq kt => ?_) ?_
            · show Steps p.tables e below (T214.setTop (mkF m 53 #[.val (.ref o0), .val (.ref b93), .val (.int (2 : Int32)), .val (.int (3 : Int32))] [])) _
              refine XS.iinc X214.here hx rfl (hb hby d6_53) rfl (l' := #[.val (.ref o0), .val (.ref b93), .val (.int (2 : Int32)), .val (.int ((3 : Int32) + (1 : Int32)))]) rfl ?_
              show Steps p.tables e below (T214.setTop (mkF m 56 #[.val (.ref o0), .val (.ref b93), .val (.int (2 : Int32)), .val (.int (4 : Int32))] [])) _
              refine XS.goto X214.here hx rfl (pc0 := 56) (pc' := 9) rfl (hb hby d6_56) (by decide) (by decide) ?_
              show Steps p.tables e below (T214.setTop (mkF m 9 #[.val (.ref o0), .val (.ref b93), .val (.int (2 : Int32)), .val (.int (4 : Int32))] [])) _
              refine XS.iloadN X214.here hx rfl (hb hby d6_9) rfl ?_
              show Steps p.tables e below (T214.setTop (mkF m 10 #[.val (.ref o0), .val (.ref b93), .val (.int (2 : Int32)), .val (.int (4 : Int32))] [(.int (4 : Int32))])) _
              refine XS.aloadN X214.here hx rfl (hb hby d6_10) rfl rfl ?_
              exact kt
            obtain ⟨cl218, Ar218, q218, S218, M218, H218, G218⟩ := (id V0_217)
            refine Got.step (T' := T214) (fun tq kt => X214.arraylength hx (cell := cl218) (by rw [e214]; exact Ar218.1) (State.isArrayOf_alike hZ.alike Ar218.2.1) (g := (mkF m 11 #[.val (.ref o0), .val (.ref b93), .val (.int (2 : Int32)), .val (.int (4 : Int32))] [(.ref o0), (.int (4 : Int32))])) rfl (rest := [(.int (4 : Int32))]) rfl (hb hby d6_11) tq kt) ?_
            rw [len_of S218 M218]
            show Got p e below s _ _ _ _ T214 (mkF m 12 #[.val (.ref o0), .val (.ref b93), .val (.int (2 : Int32)), .val (.int (4 : Int32))] [(.int (4 : Int32)), (.int (4 : Int32))])
            refine Got.step (T' := T214) (g' := (mkF m 60 #[.val (.ref o0), .val (.ref b93), .val (.int (2 : Int32)), .val (.int (4 : Int32))] [(.ref b93)])) (fun tq kt => ?_) ?_
            · show Steps p.tables e below (T214.setTop (mkF m 12 #[.val (.ref o0), .val (.ref b93), .val (.int (2 : Int32)), .val (.int (4 : Int32))] [(.int (4 : Int32)), (.int (4 : Int32))])) _
              refine XS.icmpYes X214.here hx rfl (pc0 := 12) (pc' := 59) rfl (hb hby d6_12) rfl (XT.ii_ge_t Int32.lt_irrefl) (by decide) (by decide) ?_
              show Steps p.tables e below (T214.setTop (mkF m 59 #[.val (.ref o0), .val (.ref b93), .val (.int (2 : Int32)), .val (.int (4 : Int32))] [])) _
              refine XS.aloadN X214.here hx rfl (hb hby d6_59) rfl rfl ?_
              exact kt
            rw [← g93]
            exact Got.retA X214 hx Bd.returns rfl hlk (hb hby d6_60) rfl ⟨N214, by rw [e214]; exact K0_216, k93, by rw [e214]; unfold ptab4; rw [((if_pos hc100).trans ((if_neg hc108).trans ((if_pos hc202).trans ((if_pos hc210).trans (if_pos hc213)))))]; exact V214⟩ (by decide) (by decide)
          · refine Got.step (T' := T203) (g' := (mkF m 52 #[.val (.ref o0), .val (.ref b93), .val (.int (1 : Int32)), .val (.int (3 : Int32))] [(.int (1 : Int32)), (.int (3 : Int32)), (.ref b93)])) (fun tq kt => ?_) ?_
            · show Steps p.tables e below (T203.setTop (mkF m 43 #[.val (.ref o0), .val (.ref b93), .val (.int (1 : Int32)), .val (.int (3 : Int32))] [(.int u1), (.int u3)])) _
              refine XS.icmpYes X203.here hx rfl (pc0 := 43) (pc' := 49) rfl (hb hby d6_43) rfl (XT.ii_ne_t hc213) (by decide) (by decide) ?_
              show Steps p.tables e below (T203.setTop (mkF m 49 #[.val (.ref o0), .val (.ref b93), .val (.int (1 : Int32)), .val (.int (3 : Int32))] [])) _
              refine XS.aloadN X203.here hx rfl (hb hby d6_49) rfl rfl ?_
              show Steps p.tables e below (T203.setTop (mkF m 50 #[.val (.ref o0), .val (.ref b93), .val (.int (1 : Int32)), .val (.int (3 : Int32))] [(.ref b93)])) _
              refine XS.iloadN X203.here hx rfl (hb hby d6_50) rfl ?_
              show Steps p.tables e below (T203.setTop (mkF m 51 #[.val (.ref o0), .val (.ref b93), .val (.int (1 : Int32)), .val (.int (3 : Int32))] [(.int (3 : Int32)), (.ref b93)])) _
              refine XS.iloadN X203.here hx rfl (hb hby d6_51) rfl ?_
              exact kt
            obtain ⟨cl219, Ar219, q219, S219, M219, H219, G219⟩ := (id V203)
            have hin219 : ¬ ((3 : Int32) < 0 ∨ cl219.slots.size ≤ ((3 : Int32)).toNatClampNeg) := inb_of S219 ⟨by decide, by decide⟩
            obtain ⟨T219, h219, X219, e219, W219, st219⟩ := stI X203 hx hZ e203 Ar219 (j := (3 : Int32)) hin219 (g := (mkF m 52 #[.val (.ref o0), .val (.ref b93), .val (.int (1 : Int32)), .val (.int (3 : Int32))] [(.int (1 : Int32)), (.int (3 : Int32)), (.ref b93)])) rfl rfl (hb hby d6_52)
            have Z0_220 : n0 ≤ h219.size := (Nat.le_trans Z0_204 (Keep.of_wr W219).1)
            have K0_221 : Keep h0 h219 [] := (K0_205.wr W219 (Or.inr sz_b93))
            have V0_222 : Arv Z h219 o0 ku .int (4 : Int32) [(.int u0), (.int u1), (.int u2), (.int u3)] (.int (0 : Int32)) := (V0_206.other W219 ne_o0_b93)
            have V219 : Arv Z h219 b93 k93 .int (4 : Int32) [(.int (0 : Int32)), (.int (1 : Int32)), (.int (1 : Int32)), (.int (1 : Int32))] (.int (0 : Int32)) := Arv.set Ar219 q219 S219 M219 H219 G219 rfl W219 3 rfl (Nat.le_of_ble_eq_true rfl)
            have N219 := Fr.snoc X219 N203 gn_b93
            refine Got.step st219 ?_
            show Got p e below s _ _ _ _ T219 (mkF m 53 #[.val (.ref o0), .val (.ref b93), .val (.int (1 : Int32)), .val (.int (3 : Int32))] [])
            refine Got.step (T' := T219) (g' := (mkF m 11 #[.val (.ref o0), .val (.ref b93), .val (.int (1 : Int32)), .val (.int (4 : Int32))] [(.ref o0), (.int (4 : Int32))])) (fun tq kt => ?_) ?_
            · show Steps p.tables e below (T219.setTop (mkF m 53 #[.val (.ref o0), .val (.ref b93), .val (.int (1 : Int32)), .val (.int (3 : Int32))] [])) _
              refine XS.iinc X219.here hx rfl (hb hby d6_53) rfl (l' := #[.val (.ref o0), .val (.ref b93), .val (.int (1 : Int32)), .val (.int ((3 : Int32) + (1 : Int32)))]) rfl ?_
              show Steps p.tables e below (T219.setTop (mkF m 56 #[.val (.ref o0), .val (.ref b93), .val (.int (1 : Int32)), .val (.int (4 : Int32))] [])) _
              refine XS.goto X219.here hx rfl (pc0 := 56) (pc' := 9) rfl (hb hby d6_56) (by decide) (by decide) ?_
              show Steps p.tables e below (T219.setTop (mkF m 9 #[.val (.ref o0), .val (.ref b93), .val (.int (1 : Int32)), .val (.int (4 : Int32))] [])) _
              refine XS.iloadN X219.here hx rfl (hb hby d6_9) rfl ?_
              show Steps p.tables e below (T219.setTop (mkF m 10 #[.val (.ref o0), .val (.ref b93), .val (.int (1 : Int32)), .val (.int (4 : Int32))] [(.int (4 : Int32))])) _
              refine XS.aloadN X219.here hx rfl (hb hby d6_10) rfl rfl ?_
              exact kt
            obtain ⟨cl223, Ar223, q223, S223, M223, H223, G223⟩ := (id V0_222)
            refine Got.step (T' := T219) (fun tq kt => X219.arraylength hx (cell := cl223) (by rw [e219]; exact Ar223.1) (State.isArrayOf_alike hZ.alike Ar223.2.1) (g := (mkF m 11 #[.val (.ref o0), .val (.ref b93), .val (.int (1 : Int32)), .val (.int (4 : Int32))] [(.ref o0), (.int (4 : Int32))])) rfl (rest := [(.int (4 : Int32))]) rfl (hb hby d6_11) tq kt) ?_
            rw [len_of S223 M223]
            show Got p e below s _ _ _ _ T219 (mkF m 12 #[.val (.ref o0), .val (.ref b93), .val (.int (1 : Int32)), .val (.int (4 : Int32))] [(.int (4 : Int32)), (.int (4 : Int32))])
            refine Got.step (T' := T219) (g' := (mkF m 60 #[.val (.ref o0), .val (.ref b93), .val (.int (1 : Int32)), .val (.int (4 : Int32))] [(.ref b93)])) (fun tq kt => ?_) ?_
            · show Steps p.tables e below (T219.setTop (mkF m 12 #[.val (.ref o0), .val (.ref b93), .val (.int (1 : Int32)), .val (.int (4 : Int32))] [(.int (4 : Int32)), (.int (4 : Int32))])) _
              refine XS.icmpYes X219.here hx rfl (pc0 := 12) (pc' := 59) rfl (hb hby d6_12) rfl (XT.ii_ge_t Int32.lt_irrefl) (by decide) (by decide) ?_
              show Steps p.tables e below (T219.setTop (mkF m 59 #[.val (.ref o0), .val (.ref b93), .val (.int (1 : Int32)), .val (.int (4 : Int32))] [])) _
              refine XS.aloadN X219.here hx rfl (hb hby d6_59) rfl rfl ?_
              exact kt
            rw [← g93]
            exact Got.retA X219 hx Bd.returns rfl hlk (hb hby d6_60) rfl ⟨N219, by rw [e219]; exact K0_221, k93, by rw [e219]; unfold ptab4; rw [((if_pos hc100).trans ((if_neg hc108).trans ((if_pos hc202).trans ((if_pos hc210).trans (if_neg hc213)))))]; exact V219⟩ (by decide) (by decide)
        · refine Got.step (T' := T203) (g' := (mkF m 32 #[.val (.ref o0), .val (.ref b93), .val (.int (1 : Int32)), .val (.int (3 : Int32))] [(.int (0 : Int32)), (.ref b93)])) (fun tq kt => ?_) ?_
          · show Steps p.tables e below (T203.setTop (mkF m 25 #[.val (.ref o0), .val (.ref b93), .val (.int (1 : Int32)), .val (.int (3 : Int32))] [(.int u1), (.int u3)])) _
            refine XS.icmpNo X203.here hx rfl (hb hby d6_25) rfl (XT.ii_eq_f hc210) ?_
            show Steps p.tables e below (T203.setTop (mkF m 28 #[.val (.ref o0), .val (.ref b93), .val (.int (1 : Int32)), .val (.int (3 : Int32))] [])) _
            refine XS.aloadN X203.here hx rfl (hb hby d6_28) rfl rfl ?_
            show Steps p.tables e below (T203.setTop (mkF m 29 #[.val (.ref o0), .val (.ref b93), .val (.int (1 : Int32)), .val (.int (3 : Int32))] [(.ref b93)])) _
            refine XS.iloadN X203.here hx rfl (hb hby d6_29) rfl ?_
            show Steps p.tables e below (T203.setTop (mkF m 30 #[.val (.ref o0), .val (.ref b93), .val (.int (1 : Int32)), .val (.int (3 : Int32))] [(.int (1 : Int32)), (.ref b93)])) _
            refine XS.iconst X203.here hx rfl (hb hby d6_30) ?_
            show Steps p.tables e below (T203.setTop (mkF m 31 #[.val (.ref o0), .val (.ref b93), .val (.int (1 : Int32)), .val (.int (3 : Int32))] [(.int (1 : Int32)), (.int (1 : Int32)), (.ref b93)])) _
            refine XS.isub X203.here hx rfl (hb hby d6_31) rfl ?_
            exact kt
          obtain ⟨cl224, Ar224, q224, S224, M224, H224, G224⟩ := (id V203)
          have hin224 : ¬ ((0 : Int32) < 0 ∨ cl224.slots.size ≤ ((0 : Int32)).toNatClampNeg) := inb_of S224 ⟨by decide, by decide⟩
          refine Got.step (T' := T203) (fun tq kt => X203.iaload hx (j := (0 : Int32)) (v := (.int (0 : Int32))) (by rw [e203]; exact Ar224.1) (State.isArrayOf_alike hZ.alike Ar224.2.1) Ar224.2.2 hin224 (H224.at hin224 rfl) (g := (mkF m 32 #[.val (.ref o0), .val (.ref b93), .val (.int (1 : Int32)), .val (.int (3 : Int32))] [(.int (0 : Int32)), (.ref b93)])) rfl rfl (hb hby d6_32) tq kt) ?_
          show Got p e below s _ _ _ _ T203 (mkF m 33 #[.val (.ref o0), .val (.ref b93), .val (.int (1 : Int32)), .val (.int (3 : Int32))] [(.int (0 : Int32))])
          refine Got.step (T' := T203) (g' := (mkF m 39 #[.val (.ref o0), .val (.ref b93), .val (.int (0 : Int32)), .val (.int (3 : Int32))] [(.int (3 : Int32)), (.ref o0)])) (fun tq kt => ?_) ?_
          · show Steps p.tables e below (T203.setTop (mkF m 33 #[.val (.ref o0), .val (.ref b93), .val (.int (1 : Int32)), .val (.int (3 : Int32))] [(.int (0 : Int32))])) _
            refine XS.istoreN X203.here hx rfl (hb hby d6_33) rfl (l' := #[.val (.ref o0), .val (.ref b93), .val (.int (0 : Int32)), .val (.int (3 : Int32))]) rfl ?_
            show Steps p.tables e below (T203.setTop (mkF m 34 #[.val (.ref o0), .val (.ref b93), .val (.int (0 : Int32)), .val (.int (3 : Int32))] [])) _
            refine XS.goto X203.here hx rfl (pc0 := 34) (pc' := 15) rfl (hb hby d6_34) (by decide) (by decide) ?_
            show Steps p.tables e below (T203.setTop (mkF m 15 #[.val (.ref o0), .val (.ref b93), .val (.int (0 : Int32)), .val (.int (3 : Int32))] [])) _
            refine XS.iloadN X203.here hx rfl (hb hby d6_15) rfl ?_
            show Steps p.tables e below (T203.setTop (mkF m 16 #[.val (.ref o0), .val (.ref b93), .val (.int (0 : Int32)), .val (.int (3 : Int32))] [(.int (0 : Int32))])) _
            refine XS.ifYes X203.here hx rfl (pc0 := 16) (pc' := 37) rfl (hb hby d6_16) rfl (XT.i0_le_t (by decide)) (by decide) (by decide) ?_
            show Steps p.tables e below (T203.setTop (mkF m 37 #[.val (.ref o0), .val (.ref b93), .val (.int (0 : Int32)), .val (.int (3 : Int32))] [])) _
            refine XS.aloadN X203.here hx rfl (hb hby d6_37) rfl rfl ?_
            show Steps p.tables e below (T203.setTop (mkF m 38 #[.val (.ref o0), .val (.ref b93), .val (.int (0 : Int32)), .val (.int (3 : Int32))] [(.ref o0)])) _
            refine XS.iloadN X203.here hx rfl (hb hby d6_38) rfl ?_
            exact kt
          obtain ⟨cl225, Ar225, q225, S225, M225, H225, G225⟩ := (id V0_206)
          have hin225 : ¬ ((3 : Int32) < 0 ∨ cl225.slots.size ≤ ((3 : Int32)).toNatClampNeg) := inb_of S225 ⟨by decide, by decide⟩
          refine Got.step (T' := T203) (fun tq kt => X203.iaload hx (j := (3 : Int32)) (v := (.int u3)) (by rw [e203]; exact Ar225.1) (State.isArrayOf_alike hZ.alike Ar225.2.1) Ar225.2.2 hin225 (H225.at hin225 rfl) (g := (mkF m 39 #[.val (.ref o0), .val (.ref b93), .val (.int (0 : Int32)), .val (.int (3 : Int32))] [(.int (3 : Int32)), (.ref o0)])) rfl rfl (hb hby d6_39) tq kt) ?_
          show Got p e below s _ _ _ _ T203 (mkF m 40 #[.val (.ref o0), .val (.ref b93), .val (.int (0 : Int32)), .val (.int (3 : Int32))] [(.int u3)])
          refine Got.step (T' := T203) (g' := (mkF m 42 #[.val (.ref o0), .val (.ref b93), .val (.int (0 : Int32)), .val (.int (3 : Int32))] [(.int (0 : Int32)), (.ref o0), (.int u3)])) (fun tq kt => ?_) ?_
          · show Steps p.tables e below (T203.setTop (mkF m 40 #[.val (.ref o0), .val (.ref b93), .val (.int (0 : Int32)), .val (.int (3 : Int32))] [(.int u3)])) _
            refine XS.aloadN X203.here hx rfl (hb hby d6_40) rfl rfl ?_
            show Steps p.tables e below (T203.setTop (mkF m 41 #[.val (.ref o0), .val (.ref b93), .val (.int (0 : Int32)), .val (.int (3 : Int32))] [(.ref o0), (.int u3)])) _
            refine XS.iloadN X203.here hx rfl (hb hby d6_41) rfl ?_
            exact kt
          obtain ⟨cl226, Ar226, q226, S226, M226, H226, G226⟩ := (id V0_206)
          have hin226 : ¬ ((0 : Int32) < 0 ∨ cl226.slots.size ≤ ((0 : Int32)).toNatClampNeg) := inb_of S226 ⟨by decide, by decide⟩
          refine Got.step (T' := T203) (fun tq kt => X203.iaload hx (j := (0 : Int32)) (v := (.int u0)) (by rw [e203]; exact Ar226.1) (State.isArrayOf_alike hZ.alike Ar226.2.1) Ar226.2.2 hin226 (H226.at hin226 rfl) (g := (mkF m 42 #[.val (.ref o0), .val (.ref b93), .val (.int (0 : Int32)), .val (.int (3 : Int32))] [(.int (0 : Int32)), (.ref o0), (.int u3)])) rfl rfl (hb hby d6_42) tq kt) ?_
          show Got p e below s _ _ _ _ T203 (mkF m 43 #[.val (.ref o0), .val (.ref b93), .val (.int (0 : Int32)), .val (.int (3 : Int32))] [(.int u0), (.int u3)])
          by_cases hc227 : (u3 = u0)
          · refine Got.step (T' := T203) (g' := (mkF m 52 #[.val (.ref o0), .val (.ref b93), .val (.int (1 : Int32)), .val (.int (3 : Int32))] [(.int (1 : Int32)), (.int (3 : Int32)), (.ref b93)])) (fun tq kt => ?_) ?_
            · show Steps p.tables e below (T203.setTop (mkF m 43 #[.val (.ref o0), .val (.ref b93), .val (.int (0 : Int32)), .val (.int (3 : Int32))] [(.int u0), (.int u3)])) _
              refine XS.icmpNo X203.here hx rfl (hb hby d6_43) rfl (XT.ii_ne_f hc227) ?_
              show Steps p.tables e below (T203.setTop (mkF m 46 #[.val (.ref o0), .val (.ref b93), .val (.int (0 : Int32)), .val (.int (3 : Int32))] [])) _
              refine XS.iinc X203.here hx rfl (hb hby d6_46) rfl (l' := #[.val (.ref o0), .val (.ref b93), .val (.int ((0 : Int32) + (1 : Int32))), .val (.int (3 : Int32))]) rfl ?_
              show Steps p.tables e below (T203.setTop (mkF m 49 #[.val (.ref o0), .val (.ref b93), .val (.int (1 : Int32)), .val (.int (3 : Int32))] [])) _
              refine XS.aloadN X203.here hx rfl (hb hby d6_49) rfl rfl ?_
              show Steps p.tables e below (T203.setTop (mkF m 50 #[.val (.ref o0), .val (.ref b93), .val (.int (1 : Int32)), .val (.int (3 : Int32))] [(.ref b93)])) _
              refine XS.iloadN X203.here hx rfl (hb hby d6_50) rfl ?_
              show Steps p.tables e below (T203.setTop (mkF m 51 #[.val (.ref o0), .val (.ref b93), .val (.int (1 : Int32)), .val (.int (3 : Int32))] [(.int (3 : Int32)), (.ref b93)])) _
              refine XS.iloadN X203.here hx rfl (hb hby d6_51) rfl ?_
              exact kt
            obtain ⟨cl228, Ar228, q228, S228, M228, H228, G228⟩ := (id V203)
            have hin228 : ¬ ((3 : Int32) < 0 ∨ cl228.slots.size ≤ ((3 : Int32)).toNatClampNeg) := inb_of S228 ⟨by decide, by decide⟩
            obtain ⟨T228, h228, X228, e228, W228, st228⟩ := stI X203 hx hZ e203 Ar228 (j := (3 : Int32)) hin228 (g := (mkF m 52 #[.val (.ref o0), .val (.ref b93), .val (.int (1 : Int32)), .val (.int (3 : Int32))] [(.int (1 : Int32)), (.int (3 : Int32)), (.ref b93)])) rfl rfl (hb hby d6_52)
            have Z0_229 : n0 ≤ h228.size := (Nat.le_trans Z0_204 (Keep.of_wr W228).1)
            have K0_230 : Keep h0 h228 [] := (K0_205.wr W228 (Or.inr sz_b93))
            have V0_231 : Arv Z h228 o0 ku .int (4 : Int32) [(.int u0), (.int u1), (.int u2), (.int u3)] (.int (0 : Int32)) := (V0_206.other W228 ne_o0_b93)
            have V228 : Arv Z h228 b93 k93 .int (4 : Int32) [(.int (0 : Int32)), (.int (1 : Int32)), (.int (1 : Int32)), (.int (1 : Int32))] (.int (0 : Int32)) := Arv.set Ar228 q228 S228 M228 H228 G228 rfl W228 3 rfl (Nat.le_of_ble_eq_true rfl)
            have N228 := Fr.snoc X228 N203 gn_b93
            refine Got.step st228 ?_
            show Got p e below s _ _ _ _ T228 (mkF m 53 #[.val (.ref o0), .val (.ref b93), .val (.int (1 : Int32)), .val (.int (3 : Int32))] [])
            refine Got.step (T' := T228) (g' := (mkF m 11 #[.val (.ref o0), .val (.ref b93), .val (.int (1 : Int32)), .val (.int (4 : Int32))] [(.ref o0), (.int (4 : Int32))])) (fun tq kt => ?_) ?_
            · show Steps p.tables e below (T228.setTop (mkF m 53 #[.val (.ref o0), .val (.ref b93), .val (.int (1 : Int32)), .val (.int (3 : Int32))] [])) _
              refine XS.iinc X228.here hx rfl (hb hby d6_53) rfl (l' := #[.val (.ref o0), .val (.ref b93), .val (.int (1 : Int32)), .val (.int ((3 : Int32) + (1 : Int32)))]) rfl ?_
              show Steps p.tables e below (T228.setTop (mkF m 56 #[.val (.ref o0), .val (.ref b93), .val (.int (1 : Int32)), .val (.int (4 : Int32))] [])) _
              refine XS.goto X228.here hx rfl (pc0 := 56) (pc' := 9) rfl (hb hby d6_56) (by decide) (by decide) ?_
              show Steps p.tables e below (T228.setTop (mkF m 9 #[.val (.ref o0), .val (.ref b93), .val (.int (1 : Int32)), .val (.int (4 : Int32))] [])) _
              refine XS.iloadN X228.here hx rfl (hb hby d6_9) rfl ?_
              show Steps p.tables e below (T228.setTop (mkF m 10 #[.val (.ref o0), .val (.ref b93), .val (.int (1 : Int32)), .val (.int (4 : Int32))] [(.int (4 : Int32))])) _
              refine XS.aloadN X228.here hx rfl (hb hby d6_10) rfl rfl ?_
              exact kt
            obtain ⟨cl232, Ar232, q232, S232, M232, H232, G232⟩ := (id V0_231)
            refine Got.step (T' := T228) (fun tq kt => X228.arraylength hx (cell := cl232) (by rw [e228]; exact Ar232.1) (State.isArrayOf_alike hZ.alike Ar232.2.1) (g := (mkF m 11 #[.val (.ref o0), .val (.ref b93), .val (.int (1 : Int32)), .val (.int (4 : Int32))] [(.ref o0), (.int (4 : Int32))])) rfl (rest := [(.int (4 : Int32))]) rfl (hb hby d6_11) tq kt) ?_
            rw [len_of S232 M232]
            show Got p e below s _ _ _ _ T228 (mkF m 12 #[.val (.ref o0), .val (.ref b93), .val (.int (1 : Int32)), .val (.int (4 : Int32))] [(.int (4 : Int32)), (.int (4 : Int32))])
            refine Got.step (T' := T228) (g' := (mkF m 60 #[.val (.ref o0), .val (.ref b93), .val (.int (1 : Int32)), .val (.int (4 : Int32))] [(.ref b93)])) (fun tq kt => ?_) ?_
            · show Steps p.tables e below (T228.setTop (mkF m 12 #[.val (.ref o0), .val (.ref b93), .val (.int (1 : Int32)), .val (.int (4 : Int32))] [(.int (4 : Int32)), (.int (4 : Int32))])) _
              refine XS.icmpYes X228.here hx rfl (pc0 := 12) (pc' := 59) rfl (hb hby d6_12) rfl (XT.ii_ge_t Int32.lt_irrefl) (by decide) (by decide) ?_
              show Steps p.tables e below (T228.setTop (mkF m 59 #[.val (.ref o0), .val (.ref b93), .val (.int (1 : Int32)), .val (.int (4 : Int32))] [])) _
              refine XS.aloadN X228.here hx rfl (hb hby d6_59) rfl rfl ?_
              exact kt
            rw [← g93]
            exact Got.retA X228 hx Bd.returns rfl hlk (hb hby d6_60) rfl ⟨N228, by rw [e228]; exact K0_230, k93, by rw [e228]; unfold ptab4; rw [((if_pos hc100).trans ((if_neg hc108).trans ((if_pos hc202).trans ((if_neg hc210).trans (if_pos hc227)))))]; exact V228⟩ (by decide) (by decide)
          · refine Got.step (T' := T203) (g' := (mkF m 52 #[.val (.ref o0), .val (.ref b93), .val (.int (0 : Int32)), .val (.int (3 : Int32))] [(.int (0 : Int32)), (.int (3 : Int32)), (.ref b93)])) (fun tq kt => ?_) ?_
            · show Steps p.tables e below (T203.setTop (mkF m 43 #[.val (.ref o0), .val (.ref b93), .val (.int (0 : Int32)), .val (.int (3 : Int32))] [(.int u0), (.int u3)])) _
              refine XS.icmpYes X203.here hx rfl (pc0 := 43) (pc' := 49) rfl (hb hby d6_43) rfl (XT.ii_ne_t hc227) (by decide) (by decide) ?_
              show Steps p.tables e below (T203.setTop (mkF m 49 #[.val (.ref o0), .val (.ref b93), .val (.int (0 : Int32)), .val (.int (3 : Int32))] [])) _
              refine XS.aloadN X203.here hx rfl (hb hby d6_49) rfl rfl ?_
              show Steps p.tables e below (T203.setTop (mkF m 50 #[.val (.ref o0), .val (.ref b93), .val (.int (0 : Int32)), .val (.int (3 : Int32))] [(.ref b93)])) _
              refine XS.iloadN X203.here hx rfl (hb hby d6_50) rfl ?_
              show Steps p.tables e below (T203.setTop (mkF m 51 #[.val (.ref o0), .val (.ref b93), .val (.int (0 : Int32)), .val (.int (3 : Int32))] [(.int (3 : Int32)), (.ref b93)])) _
              refine XS.iloadN X203.here hx rfl (hb hby d6_51) rfl ?_
              exact kt
            obtain ⟨cl233, Ar233, q233, S233, M233, H233, G233⟩ := (id V203)
            have hin233 : ¬ ((3 : Int32) < 0 ∨ cl233.slots.size ≤ ((3 : Int32)).toNatClampNeg) := inb_of S233 ⟨by decide, by decide⟩
            obtain ⟨T233, h233, X233, e233, W233, st233⟩ := stI X203 hx hZ e203 Ar233 (j := (3 : Int32)) hin233 (g := (mkF m 52 #[.val (.ref o0), .val (.ref b93), .val (.int (0 : Int32)), .val (.int (3 : Int32))] [(.int (0 : Int32)), (.int (3 : Int32)), (.ref b93)])) rfl rfl (hb hby d6_52)
            have Z0_234 : n0 ≤ h233.size := (Nat.le_trans Z0_204 (Keep.of_wr W233).1)
            have K0_235 : Keep h0 h233 [] := (K0_205.wr W233 (Or.inr sz_b93))
            have V0_236 : Arv Z h233 o0 ku .int (4 : Int32) [(.int u0), (.int u1), (.int u2), (.int u3)] (.int (0 : Int32)) := (V0_206.other W233 ne_o0_b93)
            have V233 : Arv Z h233 b93 k93 .int (4 : Int32) [(.int (0 : Int32)), (.int (1 : Int32)), (.int (1 : Int32)), (.int (0 : Int32))] (.int (0 : Int32)) := Arv.set Ar233 q233 S233 M233 H233 G233 rfl W233 3 rfl (Nat.le_of_ble_eq_true rfl)
            have N233 := Fr.snoc X233 N203 gn_b93
            refine Got.step st233 ?_
            show Got p e below s _ _ _ _ T233 (mkF m 53 #[.val (.ref o0), .val (.ref b93), .val (.int (0 : Int32)), .val (.int (3 : Int32))] [])
            refine Got.step (T' := T233) (g' := (mkF m 11 #[.val (.ref o0), .val (.ref b93), .val (.int (0 : Int32)), .val (.int (4 : Int32))] [(.ref o0), (.int (4 : Int32))])) (fun tq kt => ?_) ?_
            · show Steps p.tables e below (T233.setTop (mkF m 53 #[.val (.ref o0), .val (.ref b93), .val (.int (0 : Int32)), .val (.int (3 : Int32))] [])) _
              refine XS.iinc X233.here hx rfl (hb hby d6_53) rfl (l' := #[.val (.ref o0), .val (.ref b93), .val (.int (0 : Int32)), .val (.int ((3 : Int32) + (1 : Int32)))]) rfl ?_
              show Steps p.tables e below (T233.setTop (mkF m 56 #[.val (.ref o0), .val (.ref b93), .val (.int (0 : Int32)), .val (.int (4 : Int32))] [])) _
              refine XS.goto X233.here hx rfl (pc0 := 56) (pc' := 9) rfl (hb hby d6_56) (by decide) (by decide) ?_
              show Steps p.tables e below (T233.setTop (mkF m 9 #[.val (.ref o0), .val (.ref b93), .val (.int (0 : Int32)), .val (.int (4 : Int32))] [])) _
              refine XS.iloadN X233.here hx rfl (hb hby d6_9) rfl ?_
              show Steps p.tables e below (T233.setTop (mkF m 10 #[.val (.ref o0), .val (.ref b93), .val (.int (0 : Int32)), .val (.int (4 : Int32))] [(.int (4 : Int32))])) _
              refine XS.aloadN X233.here hx rfl (hb hby d6_10) rfl rfl ?_
              exact kt
            obtain ⟨cl237, Ar237, q237, S237, M237, H237, G237⟩ := (id V0_236)
            refine Got.step (T' := T233) (fun tq kt => X233.arraylength hx (cell := cl237) (by rw [e233]; exact Ar237.1) (State.isArrayOf_alike hZ.alike Ar237.2.1) (g := (mkF m 11 #[.val (.ref o0), .val (.ref b93), .val (.int (0 : Int32)), .val (.int (4 : Int32))] [(.ref o0), (.int (4 : Int32))])) rfl (rest := [(.int (4 : Int32))]) rfl (hb hby d6_11) tq kt) ?_
            rw [len_of S237 M237]
            show Got p e below s _ _ _ _ T233 (mkF m 12 #[.val (.ref o0), .val (.ref b93), .val (.int (0 : Int32)), .val (.int (4 : Int32))] [(.int (4 : Int32)), (.int (4 : Int32))])
            refine Got.step (T' := T233) (g' := (mkF m 60 #[.val (.ref o0), .val (.ref b93), .val (.int (0 : Int32)), .val (.int (4 : Int32))] [(.ref b93)])) (fun tq kt => ?_) ?_
            · show Steps p.tables e below (T233.setTop (mkF m 12 #[.val (.ref o0), .val (.ref b93), .val (.int (0 : Int32)), .val (.int (4 : Int32))] [(.int (4 : Int32)), (.int (4 : Int32))])) _
              refine XS.icmpYes X233.here hx rfl (pc0 := 12) (pc' := 59) rfl (hb hby d6_12) rfl (XT.ii_ge_t Int32.lt_irrefl) (by decide) (by decide) ?_
              show Steps p.tables e below (T233.setTop (mkF m 59 #[.val (.ref o0), .val (.ref b93), .val (.int (0 : Int32)), .val (.int (4 : Int32))] [])) _
              refine XS.aloadN X233.here hx rfl (hb hby d6_59) rfl rfl ?_
              exact kt
            rw [← g93]
            exact Got.retA X233 hx Bd.returns rfl hlk (hb hby d6_60) rfl ⟨N233, by rw [e233]; exact K0_235, k93, by rw [e233]; unfold ptab4; rw [((if_pos hc100).trans ((if_neg hc108).trans ((if_pos hc202).trans ((if_neg hc210).trans (if_neg hc227)))))]; exact V233⟩ (by decide) (by decide)
      · refine Got.step (T' := T101) (g' := (mkF m 52 #[.val (.ref o0), .val (.ref b93), .val (.int (0 : Int32)), .val (.int (2 : Int32))] [(.int (0 : Int32)), (.int (2 : Int32)), (.ref b93)])) (fun tq kt => ?_) ?_
        · show Steps p.tables e below (T101.setTop (mkF m 43 #[.val (.ref o0), .val (.ref b93), .val (.int (0 : Int32)), .val (.int (2 : Int32))] [(.int u0), (.int u2)])) _
          refine XS.icmpYes X101.here hx rfl (pc0 := 43) (pc' := 49) rfl (hb hby d6_43) rfl (XT.ii_ne_t hc202) (by decide) (by decide) ?_
          show Steps p.tables e below (T101.setTop (mkF m 49 #[.val (.ref o0), .val (.ref b93), .val (.int (0 : Int32)), .val (.int (2 : Int32))] [])) _
          refine XS.aloadN X101.here hx rfl (hb hby d6_49) rfl rfl ?_
          show Steps p.tables e below (T101.setTop (mkF m 50 #[.val (.ref o0), .val (.ref b93), .val (.int (0 : Int32)), .val (.int (2 : Int32))] [(.ref b93)])) _
          refine XS.iloadN X101.here hx rfl (hb hby d6_50) rfl ?_
          show Steps p.tables e below (T101.setTop (mkF m 51 #[.val (.ref o0), .val (.ref b93), .val (.int (0 : Int32)), .val (.int (2 : Int32))] [(.int (2 : Int32)), (.ref b93)])) _
          refine XS.iloadN X101.here hx rfl (hb hby d6_51) rfl ?_
          exact kt
        obtain ⟨cl238, Ar238, q238, S238, M238, H238, G238⟩ := (id V101)
        have hin238 : ¬ ((2 : Int32) < 0 ∨ cl238.slots.size ≤ ((2 : Int32)).toNatClampNeg) := inb_of S238 ⟨by decide, by decide⟩
        obtain ⟨T238, h238, X238, e238, W238, st238⟩ := stI X101 hx hZ e101 Ar238 (j := (2 : Int32)) hin238 (g := (mkF m 52 #[.val (.ref o0), .val (.ref b93), .val (.int (0 : Int32)), .val (.int (2 : Int32))] [(.int (0 : Int32)), (.int (2 : Int32)), (.ref b93)])) rfl rfl (hb hby d6_52)
        have Z0_239 : n0 ≤ h238.size := (Nat.le_trans Z0_102 (Keep.of_wr W238).1)
        have K0_240 : Keep h0 h238 [] := (K0_103.wr W238 (Or.inr sz_b93))
        have V0_241 : Arv Z h238 o0 ku .int (4 : Int32) [(.int u0), (.int u1), (.int u2), (.int u3)] (.int (0 : Int32)) := (V0_104.other W238 ne_o0_b93)
        have V238 : Arv Z h238 b93 k93 .int (4 : Int32) [(.int (0 : Int32)), (.int (1 : Int32)), (.int (0 : Int32)), (.int (0 : Int32))] (.int (0 : Int32)) := Arv.set Ar238 q238 S238 M238 H238 G238 rfl W238 2 rfl (Nat.le_of_ble_eq_true rfl)
        have N238 := Fr.snoc X238 N101 gn_b93
        refine Got.step st238 ?_
        show Got p e below s _ _ _ _ T238 (mkF m 53 #[.val (.ref o0), .val (.ref b93), .val (.int (0 : Int32)), .val (.int (2 : Int32))] [])
        refine Got.step (T' := T238) (g' := (mkF m 11 #[.val (.ref o0), .val (.ref b93), .val (.int (0 : Int32)), .val (.int (3 : Int32))] [(.ref o0), (.int (3 : Int32))])) (fun tq kt => ?_) ?_
        · show Steps p.tables e below (T238.setTop (mkF m 53 #[.val (.ref o0), .val (.ref b93), .val (.int (0 : Int32)), .val (.int (2 : Int32))] [])) _
          refine XS.iinc X238.here hx rfl (hb hby d6_53) rfl (l' := #[.val (.ref o0), .val (.ref b93), .val (.int (0 : Int32)), .val (.int ((2 : Int32) + (1 : Int32)))]) rfl ?_
          show Steps p.tables e below (T238.setTop (mkF m 56 #[.val (.ref o0), .val (.ref b93), .val (.int (0 : Int32)), .val (.int (3 : Int32))] [])) _
          refine XS.goto X238.here hx rfl (pc0 := 56) (pc' := 9) rfl (hb hby d6_56) (by decide) (by decide) ?_
          show Steps p.tables e below (T238.setTop (mkF m 9 #[.val (.ref o0), .val (.ref b93), .val (.int (0 : Int32)), .val (.int (3 : Int32))] [])) _
          refine XS.iloadN X238.here hx rfl (hb hby d6_9) rfl ?_
          show Steps p.tables e below (T238.setTop (mkF m 10 #[.val (.ref o0), .val (.ref b93), .val (.int (0 : Int32)), .val (.int (3 : Int32))] [(.int (3 : Int32))])) _
          refine XS.aloadN X238.here hx rfl (hb hby d6_10) rfl rfl ?_
          exact kt
        obtain ⟨cl242, Ar242, q242, S242, M242, H242, G242⟩ := (id V0_241)
        refine Got.step (T' := T238) (fun tq kt => X238.arraylength hx (cell := cl242) (by rw [e238]; exact Ar242.1) (State.isArrayOf_alike hZ.alike Ar242.2.1) (g := (mkF m 11 #[.val (.ref o0), .val (.ref b93), .val (.int (0 : Int32)), .val (.int (3 : Int32))] [(.ref o0), (.int (3 : Int32))])) rfl (rest := [(.int (3 : Int32))]) rfl (hb hby d6_11) tq kt) ?_
        rw [len_of S242 M242]
        show Got p e below s _ _ _ _ T238 (mkF m 12 #[.val (.ref o0), .val (.ref b93), .val (.int (0 : Int32)), .val (.int (3 : Int32))] [(.int (4 : Int32)), (.int (3 : Int32))])
        refine Got.step (T' := T238) (g' := (mkF m 39 #[.val (.ref o0), .val (.ref b93), .val (.int (0 : Int32)), .val (.int (3 : Int32))] [(.int (3 : Int32)), (.ref o0)])) (fun tq kt => ?_) ?_
        · show Steps p.tables e below (T238.setTop (mkF m 12 #[.val (.ref o0), .val (.ref b93), .val (.int (0 : Int32)), .val (.int (3 : Int32))] [(.int (4 : Int32)), (.int (3 : Int32))])) _
          refine XS.icmpNo X238.here hx rfl (hb hby d6_12) rfl (XT.ii_ge_f (by decide)) ?_
          show Steps p.tables e below (T238.setTop (mkF m 15 #[.val (.ref o0), .val (.ref b93), .val (.int (0 : Int32)), .val (.int (3 : Int32))] [])) _
          refine XS.iloadN X238.here hx rfl (hb hby d6_15) rfl ?_
          show Steps p.tables e below (T238.setTop (mkF m 16 #[.val (.ref o0), .val (.ref b93), .val (.int (0 : Int32)), .val (.int (3 : Int32))] [(.int (0 : Int32))])) _
          refine XS.ifYes X238.here hx rfl (pc0 := 16) (pc' := 37) rfl (hb hby d6_16) rfl (XT.i0_le_t (by decide)) (by decide) (by decide) ?_
          show Steps p.tables e below (T238.setTop (mkF m 37 #[.val (.ref o0), .val (.ref b93), .val (.int (0 : Int32)), .val (.int (3 : Int32))] [])) _
          refine XS.aloadN X238.here hx rfl (hb hby d6_37) rfl rfl ?_
          show Steps p.tables e below (T238.setTop (mkF m 38 #[.val (.ref o0), .val (.ref b93), .val (.int (0 : Int32)), .val (.int (3 : Int32))] [(.ref o0)])) _
          refine XS.iloadN X238.here hx rfl (hb hby d6_38) rfl ?_
          exact kt
        obtain ⟨cl243, Ar243, q243, S243, M243, H243, G243⟩ := (id V0_241)
        have hin243 : ¬ ((3 : Int32) < 0 ∨ cl243.slots.size ≤ ((3 : Int32)).toNatClampNeg) := inb_of S243 ⟨by decide, by decide⟩
        refine Got.step (T' := T238) (fun tq kt => X238.iaload hx (j := (3 : Int32)) (v := (.int u3)) (by rw [e238]; exact Ar243.1) (State.isArrayOf_alike hZ.alike Ar243.2.1) Ar243.2.2 hin243 (H243.at hin243 rfl) (g := (mkF m 39 #[.val (.ref o0), .val (.ref b93), .val (.int (0 : Int32)), .val (.int (3 : Int32))] [(.int (3 : Int32)), (.ref o0)])) rfl rfl (hb hby d6_39) tq kt) ?_
        show Got p e below s _ _ _ _ T238 (mkF m 40 #[.val (.ref o0), .val (.ref b93), .val (.int (0 : Int32)), .val (.int (3 : Int32))] [(.int u3)])
        refine Got.step (T' := T238) (g' := (mkF m 42 #[.val (.ref o0), .val (.ref b93), .val (.int (0 : Int32)), .val (.int (3 : Int32))] [(.int (0 : Int32)), (.ref o0), (.int u3)])) (fun tq kt => ?_) ?_
        · show Steps p.tables e below (T238.setTop (mkF m 40 #[.val (.ref o0), .val (.ref b93), .val (.int (0 : Int32)), .val (.int (3 : Int32))] [(.int u3)])) _
          refine XS.aloadN X238.here hx rfl (hb hby d6_40) rfl rfl ?_
          show Steps p.tables e below (T238.setTop (mkF m 41 #[.val (.ref o0), .val (.ref b93), .val (.int (0 : Int32)), .val (.int (3 : Int32))] [(.ref o0), (.int u3)])) _
          refine XS.iloadN X238.here hx rfl (hb hby d6_41) rfl ?_
          exact kt
        obtain ⟨cl244, Ar244, q244, S244, M244, H244, G244⟩ := (id V0_241)
        have hin244 : ¬ ((0 : Int32) < 0 ∨ cl244.slots.size ≤ ((0 : Int32)).toNatClampNeg) := inb_of S244 ⟨by decide, by decide⟩
        refine Got.step (T' := T238) (fun tq kt => X238.iaload hx (j := (0 : Int32)) (v := (.int u0)) (by rw [e238]; exact Ar244.1) (State.isArrayOf_alike hZ.alike Ar244.2.1) Ar244.2.2 hin244 (H244.at hin244 rfl) (g := (mkF m 42 #[.val (.ref o0), .val (.ref b93), .val (.int (0 : Int32)), .val (.int (3 : Int32))] [(.int (0 : Int32)), (.ref o0), (.int u3)])) rfl rfl (hb hby d6_42) tq kt) ?_
        show Got p e below s _ _ _ _ T238 (mkF m 43 #[.val (.ref o0), .val (.ref b93), .val (.int (0 : Int32)), .val (.int (3 : Int32))] [(.int u0), (.int u3)])
        by_cases hc245 : (u3 = u0)
        · refine Got.step (T' := T238) (g' := (mkF m 52 #[.val (.ref o0), .val (.ref b93), .val (.int (1 : Int32)), .val (.int (3 : Int32))] [(.int (1 : Int32)), (.int (3 : Int32)), (.ref b93)])) (fun tq kt => ?_) ?_
          · show Steps p.tables e below (T238.setTop (mkF m 43 #[.val (.ref o0), .val (.ref b93), .val (.int (0 : Int32)), .val (.int (3 : Int32))] [(.int u0), (.int u3)])) _
            refine XS.icmpNo X238.here hx rfl (hb hby d6_43) rfl (XT.ii_ne_f hc245) ?_
            show Steps p.tables e below (T238.setTop (mkF m 46 #[.val (.ref o0), .val (.ref b93), .val (.int (0 : Int32)), .val (.int (3 : Int32))] [])) _
            refine XS.iinc X238.here hx rfl (hb hby d6_46) rfl (l' := #[.val (.ref o0), .val (.ref b93), .val (.int ((0 : Int32) + (1 : Int32))), .val (.int (3 : Int32))]) rfl ?_
            show Steps p.tables e below (T238.setTop (mkF m 49 #[.val (.ref o0), .val (.ref b93), .val (.int (1 : Int32)), .val (.int (3 : Int32))] [])) _
            refine XS.aloadN X238.here hx rfl (hb hby d6_49) rfl rfl ?_
            show Steps p.tables e below (T238.setTop (mkF m 50 #[.val (.ref o0), .val (.ref b93), .val (.int (1 : Int32)), .val (.int (3 : Int32))] [(.ref b93)])) _
            refine XS.iloadN X238.here hx rfl (hb hby d6_50) rfl ?_
            show Steps p.tables e below (T238.setTop (mkF m 51 #[.val (.ref o0), .val (.ref b93), .val (.int (1 : Int32)), .val (.int (3 : Int32))] [(.int (3 : Int32)), (.ref b93)])) _
            refine XS.iloadN X238.here hx rfl (hb hby d6_51) rfl ?_
            exact kt
          obtain ⟨cl246, Ar246, q246, S246, M246, H246, G246⟩ := (id V238)
          have hin246 : ¬ ((3 : Int32) < 0 ∨ cl246.slots.size ≤ ((3 : Int32)).toNatClampNeg) := inb_of S246 ⟨by decide, by decide⟩
          obtain ⟨T246, h246, X246, e246, W246, st246⟩ := stI X238 hx hZ e238 Ar246 (j := (3 : Int32)) hin246 (g := (mkF m 52 #[.val (.ref o0), .val (.ref b93), .val (.int (1 : Int32)), .val (.int (3 : Int32))] [(.int (1 : Int32)), (.int (3 : Int32)), (.ref b93)])) rfl rfl (hb hby d6_52)
          have Z0_247 : n0 ≤ h246.size := (Nat.le_trans Z0_239 (Keep.of_wr W246).1)
          have K0_248 : Keep h0 h246 [] := (K0_240.wr W246 (Or.inr sz_b93))
          have V0_249 : Arv Z h246 o0 ku .int (4 : Int32) [(.int u0), (.int u1), (.int u2), (.int u3)] (.int (0 : Int32)) := (V0_241.other W246 ne_o0_b93)
          have V246 : Arv Z h246 b93 k93 .int (4 : Int32) [(.int (0 : Int32)), (.int (1 : Int32)), (.int (0 : Int32)), (.int (1 : Int32))] (.int (0 : Int32)) := Arv.set Ar246 q246 S246 M246 H246 G246 rfl W246 3 rfl (Nat.le_of_ble_eq_true rfl)
          have N246 := Fr.snoc X246 N238 gn_b93
          refine Got.step st246 ?_
          show Got p e below s _ _ _ _ T246 (mkF m 53 #[.val (.ref o0), .val (.ref b93), .val (.int (1 : Int32)), .val (.int (3 : Int32))] [])
          refine Got.step (T' := T246) (g' := (mkF m 11 #[.val (.ref o0), .val (.ref b93), .val (.int (1 : Int32)), .val (.int (4 : Int32))] [(.ref o0), (.int (4 : Int32))])) (fun tq kt => ?_) ?_
          · show Steps p.tables e below (T246.setTop (mkF m 53 #[.val (.ref o0), .val (.ref b93), .val (.int (1 : Int32)), .val (.int (3 : Int32))] [])) _
            refine XS.iinc X246.here hx rfl (hb hby d6_53) rfl (l' := #[.val (.ref o0), .val (.ref b93), .val (.int (1 : Int32)), .val (.int ((3 : Int32) + (1 : Int32)))]) rfl ?_
            show Steps p.tables e below (T246.setTop (mkF m 56 #[.val (.ref o0), .val (.ref b93), .val (.int (1 : Int32)), .val (.int (4 : Int32))] [])) _
            refine XS.goto X246.here hx rfl (pc0 := 56) (pc' := 9) rfl (hb hby d6_56) (by decide) (by decide) ?_
            show Steps p.tables e below (T246.setTop (mkF m 9 #[.val (.ref o0), .val (.ref b93), .val (.int (1 : Int32)), .val (.int (4 : Int32))] [])) _
            refine XS.iloadN X246.here hx rfl (hb hby d6_9) rfl ?_
            show Steps p.tables e below (T246.setTop (mkF m 10 #[.val (.ref o0), .val (.ref b93), .val (.int (1 : Int32)), .val (.int (4 : Int32))] [(.int (4 : Int32))])) _
            refine XS.aloadN X246.here hx rfl (hb hby d6_10) rfl rfl ?_
            exact kt
          obtain ⟨cl250, Ar250, q250, S250, M250, H250, G250⟩ := (id V0_249)
          refine Got.step (T' := T246) (fun tq kt => X246.arraylength hx (cell := cl250) (by rw [e246]; exact Ar250.1) (State.isArrayOf_alike hZ.alike Ar250.2.1) (g := (mkF m 11 #[.val (.ref o0), .val (.ref b93), .val (.int (1 : Int32)), .val (.int (4 : Int32))] [(.ref o0), (.int (4 : Int32))])) rfl (rest := [(.int (4 : Int32))]) rfl (hb hby d6_11) tq kt) ?_
          rw [len_of S250 M250]
          show Got p e below s _ _ _ _ T246 (mkF m 12 #[.val (.ref o0), .val (.ref b93), .val (.int (1 : Int32)), .val (.int (4 : Int32))] [(.int (4 : Int32)), (.int (4 : Int32))])
          refine Got.step (T' := T246) (g' := (mkF m 60 #[.val (.ref o0), .val (.ref b93), .val (.int (1 : Int32)), .val (.int (4 : Int32))] [(.ref b93)])) (fun tq kt => ?_) ?_
          · show Steps p.tables e below (T246.setTop (mkF m 12 #[.val (.ref o0), .val (.ref b93), .val (.int (1 : Int32)), .val (.int (4 : Int32))] [(.int (4 : Int32)), (.int (4 : Int32))])) _
            refine XS.icmpYes X246.here hx rfl (pc0 := 12) (pc' := 59) rfl (hb hby d6_12) rfl (XT.ii_ge_t Int32.lt_irrefl) (by decide) (by decide) ?_
            show Steps p.tables e below (T246.setTop (mkF m 59 #[.val (.ref o0), .val (.ref b93), .val (.int (1 : Int32)), .val (.int (4 : Int32))] [])) _
            refine XS.aloadN X246.here hx rfl (hb hby d6_59) rfl rfl ?_
            exact kt
          rw [← g93]
          exact Got.retA X246 hx Bd.returns rfl hlk (hb hby d6_60) rfl ⟨N246, by rw [e246]; exact K0_248, k93, by rw [e246]; unfold ptab4; rw [((if_pos hc100).trans ((if_neg hc108).trans ((if_neg hc202).trans (if_pos hc245))))]; exact V246⟩ (by decide) (by decide)
        · refine Got.step (T' := T238) (g' := (mkF m 52 #[.val (.ref o0), .val (.ref b93), .val (.int (0 : Int32)), .val (.int (3 : Int32))] [(.int (0 : Int32)), (.int (3 : Int32)), (.ref b93)])) (fun tq kt => ?_) ?_
          · show Steps p.tables e below (T238.setTop (mkF m 43 #[.val (.ref o0), .val (.ref b93), .val (.int (0 : Int32)), .val (.int (3 : Int32))] [(.int u0), (.int u3)])) _
            refine XS.icmpYes X238.here hx rfl (pc0 := 43) (pc' := 49) rfl (hb hby d6_43) rfl (XT.ii_ne_t hc245) (by decide) (by decide) ?_
            show Steps p.tables e below (T238.setTop (mkF m 49 #[.val (.ref o0), .val (.ref b93), .val (.int (0 : Int32)), .val (.int (3 : Int32))] [])) _
            refine XS.aloadN X238.here hx rfl (hb hby d6_49) rfl rfl ?_
            show Steps p.tables e below (T238.setTop (mkF m 50 #[.val (.ref o0), .val (.ref b93), .val (.int (0 : Int32)), .val (.int (3 : Int32))] [(.ref b93)])) _
            refine XS.iloadN X238.here hx rfl (hb hby d6_50) rfl ?_
            show Steps p.tables e below (T238.setTop (mkF m 51 #[.val (.ref o0), .val (.ref b93), .val (.int (0 : Int32)), .val (.int (3 : Int32))] [(.int (3 : Int32)), (.ref b93)])) _
            refine XS.iloadN X238.here hx rfl (hb hby d6_51) rfl ?_
            exact kt
          obtain ⟨cl251, Ar251, q251, S251, M251, H251, G251⟩ := (id V238)
          have hin251 : ¬ ((3 : Int32) < 0 ∨ cl251.slots.size ≤ ((3 : Int32)).toNatClampNeg) := inb_of S251 ⟨by decide, by decide⟩
          obtain ⟨T251, h251, X251, e251, W251, st251⟩ := stI X238 hx hZ e238 Ar251 (j := (3 : Int32)) hin251 (g := (mkF m 52 #[.val (.ref o0), .val (.ref b93), .val (.int (0 : Int32)), .val (.int (3 : Int32))] [(.int (0 : Int32)), (.int (3 : Int32)), (.ref b93)])) rfl rfl (hb hby d6_52)
          have Z0_252 : n0 ≤ h251.size := (Nat.le_trans Z0_239 (Keep.of_wr W251).1)
          have K0_253 : Keep h0 h251 [] := (K0_240.wr W251 (Or.inr sz_b93))
          have V0_254 : Arv Z h251 o0 ku .int (4 : Int32) [(.int u0), (.int u1), (.int u2), (.int u3)] (.int (0 : Int32)) := (V0_241.other W251 ne_o0_b93)
          have V251 : Arv Z h251 b93 k93 .int (4 : Int32) [(.int (0 : Int32)), (.int (1 : Int32)), (.int (0 : Int32)), (.int (0 : Int32))] (.int (0 : Int32)) := Arv.set Ar251 q251 S251 M251 H251 G251 rfl W251 3 rfl (Nat.le_of_ble_eq_true rfl)
          have N251 := Fr.snoc X251 N238 gn_b93
          refine Got.step st251 ?_
          show Got p e below s _ _ _ _ T251 (mkF m 53 #[.val (.ref o0), .val (.ref b93), .val (.int (0 : Int32)), .val (.int (3 : Int32))] [])
          refine Got.step (T' := T251) (g' := (mkF m 11 #[.val (.ref o0), .val (.ref b93), .val (.int (0 : Int32)), .val (.int (4 : Int32))] [(.ref o0), (.int (4 : Int32))])) (fun tq kt => ?_) ?_
          · show Steps p.tables e below (T251.setTop (mkF m 53 #[.val (.ref o0), .val (.ref b93), .val (.int (0 : Int32)), .val (.int (3 : Int32))] [])) _
            refine XS.iinc X251.here hx rfl (hb hby d6_53) rfl (l' := #[.val (.ref o0), .val (.ref b93), .val (.int (0 : Int32)), .val (.int ((3 : Int32) + (1 : Int32)))]) rfl ?_
            show Steps p.tables e below (T251.setTop (mkF m 56 #[.val (.ref o0), .val (.ref b93), .val (.int (0 : Int32)), .val (.int (4 : Int32))] [])) _
            refine XS.goto X251.here hx rfl (pc0 := 56) (pc' := 9) rfl (hb hby d6_56) (by decide) (by decide) ?_
            show Steps p.tables e below (T251.setTop (mkF m 9 #[.val (.ref o0), .val (.ref b93), .val (.int (0 : Int32)), .val (.int (4 : Int32))] [])) _
            refine XS.iloadN X251.here hx rfl (hb hby d6_9) rfl ?_
            show Steps p.tables e below (T251.setTop (mkF m 10 #[.val (.ref o0), .val (.ref b93), .val (.int (0 : Int32)), .val (.int (4 : Int32))] [(.int (4 : Int32))])) _
            refine XS.aloadN X251.here hx rfl (hb hby d6_10) rfl rfl ?_
            exact kt
          obtain ⟨cl255, Ar255, q255, S255, M255, H255, G255⟩ := (id V0_254)
          refine Got.step (T' := T251) (fun tq kt => X251.arraylength hx (cell := cl255) (by rw [e251]; exact Ar255.1) (State.isArrayOf_alike hZ.alike Ar255.2.1) (g := (mkF m 11 #[.val (.ref o0), .val (.ref b93), .val (.int (0 : Int32)), .val (.int (4 : Int32))] [(.ref o0), (.int (4 : Int32))])) rfl (rest := [(.int (4 : Int32))]) rfl (hb hby d6_11) tq kt) ?_
          rw [len_of S255 M255]
          show Got p e below s _ _ _ _ T251 (mkF m 12 #[.val (.ref o0), .val (.ref b93), .val (.int (0 : Int32)), .val (.int (4 : Int32))] [(.int (4 : Int32)), (.int (4 : Int32))])
          refine Got.step (T' := T251) (g' := (mkF m 60 #[.val (.ref o0), .val (.ref b93), .val (.int (0 : Int32)), .val (.int (4 : Int32))] [(.ref b93)])) (fun tq kt => ?_) ?_
          · show Steps p.tables e below (T251.setTop (mkF m 12 #[.val (.ref o0), .val (.ref b93), .val (.int (0 : Int32)), .val (.int (4 : Int32))] [(.int (4 : Int32)), (.int (4 : Int32))])) _
            refine XS.icmpYes X251.here hx rfl (pc0 := 12) (pc' := 59) rfl (hb hby d6_12) rfl (XT.ii_ge_t Int32.lt_irrefl) (by decide) (by decide) ?_
            show Steps p.tables e below (T251.setTop (mkF m 59 #[.val (.ref o0), .val (.ref b93), .val (.int (0 : Int32)), .val (.int (4 : Int32))] [])) _
            refine XS.aloadN X251.here hx rfl (hb hby d6_59) rfl rfl ?_
            exact kt
          rw [← g93]
          exact Got.retA X251 hx Bd.returns rfl hlk (hb hby d6_60) rfl ⟨N251, by rw [e251]; exact K0_253, k93, by rw [e251]; unfold ptab4; rw [((if_pos hc100).trans ((if_neg hc108).trans ((if_neg hc202).trans (if_neg hc245))))]; exact V251⟩ (by decide) (by decide)
  · refine Got.step (T' := T93) (g' := (mkF m 52 #[.val (.ref o0), .val (.ref b93), .val (.int (0 : Int32)), .val (.int (1 : Int32))] [(.int (0 : Int32)), (.int (1 : Int32)), (.ref b93)])) (fun tq kt => ?_) ?_
    · show Steps p.tables e below (T93.setTop (mkF m 43 #[.val (.ref o0), .val (.ref b93), .val (.int (0 : Int32)), .val (.int (1 : Int32))] [(.int u0), (.int u1)])) _
      refine XS.icmpYes X93.here hx rfl (pc0 := 43) (pc' := 49) rfl (hb hby d6_43) rfl (XT.ii_ne_t hc100) (by decide) (by decide) ?_
      show Steps p.tables e below (T93.setTop (mkF m 49 #[.val (.ref o0), .val (.ref b93), .val (.int (0 : Int32)), .val (.int (1 : Int32))] [])) _
      refine XS.aloadN X93.here hx rfl (hb hby d6_49) rfl rfl ?_
      show Steps p.tables e below (T93.setTop (mkF m 50 #[.val (.ref o0), .val (.ref b93), .val (.int (0 : Int32)), .val (.int (1 : Int32))] [(.ref b93)])) _
      refine XS.iloadN X93.here hx rfl (hb hby d6_50) rfl ?_
      show Steps p.tables e below (T93.setTop (mkF m 51 #[.val (.ref o0), .val (.ref b93), .val (.int (0 : Int32)), .val (.int (1 : Int32))] [(.int (1 : Int32)), (.ref b93)])) _
      refine XS.iloadN X93.here hx rfl (hb hby d6_51) rfl ?_
      exact kt
    obtain ⟨cl256, Ar256, q256, S256, M256, H256, G256⟩ := (id V93)
    have hin256 : ¬ ((1 : Int32) < 0 ∨ cl256.slots.size ≤ ((1 : Int32)).toNatClampNeg) := inb_of S256 ⟨by decide, by decide⟩
    obtain ⟨T256, h256, X256, e256, W256, st256⟩ := stI X93 hx hZ e93 Ar256 (j := (1 : Int32)) hin256 (g := (mkF m 52 #[.val (.ref o0), .val (.ref b93), .val (.int (0 : Int32)), .val (.int (1 : Int32))] [(.int (0 : Int32)), (.int (1 : Int32)), (.ref b93)])) rfl rfl (hb hby d6_52)
    have Z0_257 : n0 ≤ h256.size := (Nat.le_trans Z0_94 (Keep.of_wr W256).1)
    have K0_258 : Keep h0 h256 [] := (K0_95.wr W256 (Or.inr sz_b93))
    have V0_259 : Arv Z h256 o0 ku .int (4 : Int32) [(.int u0), (.int u1), (.int u2), (.int u3)] (.int (0 : Int32)) := (V0_96.other W256 ne_o0_b93)
    have V256 : Arv Z h256 b93 k93 .int (4 : Int32) [(.int (0 : Int32)), (.int (0 : Int32)), (.int (0 : Int32)), (.int (0 : Int32))] (.int (0 : Int32)) := Arv.set Ar256 q256 S256 M256 H256 G256 rfl W256 1 rfl (Nat.le_of_ble_eq_true rfl)
    have N256 := Fr.snoc X256 N0 gn_b93
    refine Got.step st256 ?_
    show Got p e below s _ _ _ _ T256 (mkF m 53 #[.val (.ref o0), .val (.ref b93), .val (.int (0 : Int32)), .val (.int (1 : Int32))] [])
    refine Got.step (T' := T256) (g' := (mkF m 11 #[.val (.ref o0), .val (.ref b93), .val (.int (0 : Int32)), .val (.int (2 : Int32))] [(.ref o0), (.int (2 : Int32))])) (fun tq kt => ?_) ?_
    · show Steps p.tables e below (T256.setTop (mkF m 53 #[.val (.ref o0), .val (.ref b93), .val (.int (0 : Int32)), .val (.int (1 : Int32))] [])) _
      refine XS.iinc X256.here hx rfl (hb hby d6_53) rfl (l' := #[.val (.ref o0), .val (.ref b93), .val (.int (0 : Int32)), .val (.int ((1 : Int32) + (1 : Int32)))]) rfl ?_
      show Steps p.tables e below (T256.setTop (mkF m 56 #[.val (.ref o0), .val (.ref b93), .val (.int (0 : Int32)), .val (.int (2 : Int32))] [])) _
      refine XS.goto X256.here hx rfl (pc0 := 56) (pc' := 9) rfl (hb hby d6_56) (by decide) (by decide) ?_
      show Steps p.tables e below (T256.setTop (mkF m 9 #[.val (.ref o0), .val (.ref b93), .val (.int (0 : Int32)), .val (.int (2 : Int32))] [])) _
      refine XS.iloadN X256.here hx rfl (hb hby d6_9) rfl ?_
      show Steps p.tables e below (T256.setTop (mkF m 10 #[.val (.ref o0), .val (.ref b93), .val (.int (0 : Int32)), .val (.int (2 : Int32))] [(.int (2 : Int32))])) _
      refine XS.aloadN X256.here hx rfl (hb hby d6_10) rfl rfl ?_
      exact kt
    obtain ⟨cl260, Ar260, q260, S260, M260, H260, G260⟩ := (id V0_259)
    refine Got.step (T' := T256) (fun tq kt => X256.arraylength hx (cell := cl260) (by rw [e256]; exact Ar260.1) (State.isArrayOf_alike hZ.alike Ar260.2.1) (g := (mkF m 11 #[.val (.ref o0), .val (.ref b93), .val (.int (0 : Int32)), .val (.int (2 : Int32))] [(.ref o0), (.int (2 : Int32))])) rfl (rest := [(.int (2 : Int32))]) rfl (hb hby d6_11) tq kt) ?_
    rw [len_of S260 M260]
    show Got p e below s _ _ _ _ T256 (mkF m 12 #[.val (.ref o0), .val (.ref b93), .val (.int (0 : Int32)), .val (.int (2 : Int32))] [(.int (4 : Int32)), (.int (2 : Int32))])
    refine Got.step (T' := T256) (g' := (mkF m 39 #[.val (.ref o0), .val (.ref b93), .val (.int (0 : Int32)), .val (.int (2 : Int32))] [(.int (2 : Int32)), (.ref o0)])) (fun tq kt => ?_) ?_
    · show Steps p.tables e below (T256.setTop (mkF m 12 #[.val (.ref o0), .val (.ref b93), .val (.int (0 : Int32)), .val (.int (2 : Int32))] [(.int (4 : Int32)), (.int (2 : Int32))])) _
      refine XS.icmpNo X256.here hx rfl (hb hby d6_12) rfl (XT.ii_ge_f (by decide)) ?_
      show Steps p.tables e below (T256.setTop (mkF m 15 #[.val (.ref o0), .val (.ref b93), .val (.int (0 : Int32)), .val (.int (2 : Int32))] [])) _
      refine XS.iloadN X256.here hx rfl (hb hby d6_15) rfl ?_
      show Steps p.tables e below (T256.setTop (mkF m 16 #[.val (.ref o0), .val (.ref b93), .val (.int (0 : Int32)), .val (.int (2 : Int32))] [(.int (0 : Int32))])) _
      refine XS.ifYes X256.here hx rfl (pc0 := 16) (pc' := 37) rfl (hb hby d6_16) rfl (XT.i0_le_t (by decide)) (by decide) (by decide) ?_
      show Steps p.tables e below (T256.setTop (mkF m 37 #[.val (.ref o0), .val (.ref b93), .val (.int (0 : Int32)), .val (.int (2 : Int32))] [])) _
      refine XS.aloadN X256.here hx rfl (hb hby d6_37) rfl rfl ?_
      show Steps p.tables e below (T256.setTop (mkF m 38 #[.val (.ref o0), .val (.ref b93), .val (.int (0 : Int32)), .val (.int (2 : Int32))] [(.ref o0)])) _
      refine XS.iloadN X256.here hx rfl (hb hby d6_38) rfl ?_
      exact kt
    obtain ⟨cl261, Ar261, q261, S261, M261, H261, G261⟩ := (id V0_259)
    have hin261 : ¬ ((2 : Int32) < 0 ∨ cl261.slots.size ≤ ((2 : Int32)).toNatClampNeg) := inb_of S261 ⟨by decide, by decide⟩
    refine Got.step (T' := T256) (fun tq kt => X256.iaload hx (j := (2 : Int32)) (v := (.int u2)) (by rw [e256]; exact Ar261.1) (State.isArrayOf_alike hZ.alike Ar261.2.1) Ar261.2.2 hin261 (H261.at hin261 rfl) (g := (mkF m 39 #[.val (.ref o0), .val (.ref b93), .val (.int (0 : Int32)), .val (.int (2 : Int32))] [(.int (2 : Int32)), (.ref o0)])) rfl rfl (hb hby d6_39) tq kt) ?_
    show Got p e below s _ _ _ _ T256 (mkF m 40 #[.val (.ref o0), .val (.ref b93), .val (.int (0 : Int32)), .val (.int (2 : Int32))] [(.int u2)])
    refine Got.step (T' := T256) (g' := (mkF m 42 #[.val (.ref o0), .val (.ref b93), .val (.int (0 : Int32)), .val (.int (2 : Int32))] [(.int (0 : Int32)), (.ref o0), (.int u2)])) (fun tq kt => ?_) ?_
    · show Steps p.tables e below (T256.setTop (mkF m 40 #[.val (.ref o0), .val (.ref b93), .val (.int (0 : Int32)), .val (.int (2 : Int32))] [(.int u2)])) _
      refine XS.aloadN X256.here hx rfl (hb hby d6_40) rfl rfl ?_
      show Steps p.tables e below (T256.setTop (mkF m 41 #[.val (.ref o0), .val (.ref b93), .val (.int (0 : Int32)), .val (.int (2 : Int32))] [(.ref o0), (.int u2)])) _
      refine XS.iloadN X256.here hx rfl (hb hby d6_41) rfl ?_
      exact kt
    obtain ⟨cl262, Ar262, q262, S262, M262, H262, G262⟩ := (id V0_259)
    have hin262 : ¬ ((0 : Int32) < 0 ∨ cl262.slots.size ≤ ((0 : Int32)).toNatClampNeg) := inb_of S262 ⟨by decide, by decide⟩
    refine Got.step (T' := T256) (fun tq kt => X256.iaload hx (j := (0 : Int32)) (v := (.int u0)) (by rw [e256]; exact Ar262.1) (State.isArrayOf_alike hZ.alike Ar262.2.1) Ar262.2.2 hin262 (H262.at hin262 rfl) (g := (mkF m 42 #[.val (.ref o0), .val (.ref b93), .val (.int (0 : Int32)), .val (.int (2 : Int32))] [(.int (0 : Int32)), (.ref o0), (.int u2)])) rfl rfl (hb hby d6_42) tq kt) ?_
    show Got p e below s _ _ _ _ T256 (mkF m 43 #[.val (.ref o0), .val (.ref b93), .val (.int (0 : Int32)), .val (.int (2 : Int32))] [(.int u0), (.int u2)])
    by_cases hc263 : (u2 = u0)
    · refine Got.step (T' := T256) (g' := (mkF m 52 #[.val (.ref o0), .val (.ref b93), .val (.int (1 : Int32)), .val (.int (2 : Int32))] [(.int (1 : Int32)), (.int (2 : Int32)), (.ref b93)])) (fun tq kt => ?_) ?_
      · show Steps p.tables e below (T256.setTop (mkF m 43 #[.val (.ref o0), .val (.ref b93), .val (.int (0 : Int32)), .val (.int (2 : Int32))] [(.int u0), (.int u2)])) _
        refine XS.icmpNo X256.here hx rfl (hb hby d6_43) rfl (XT.ii_ne_f hc263) ?_
        show Steps p.tables e below (T256.setTop (mkF m 46 #[.val (.ref o0), .val (.ref b93), .val (.int (0 : Int32)), .val (.int (2 : Int32))] [])) _
        refine XS.iinc X256.here hx rfl (hb hby d6_46) rfl (l' := #[.val (.ref o0), .val (.ref b93), .val (.int ((0 : Int32) + (1 : Int32))), .val (.int (2 : Int32))]) rfl ?_
        show Steps p.tables e below (T256.setTop (mkF m 49 #[.val (.ref o0), .val (.ref b93), .val (.int (1 : Int32)), .val (.int (2 : Int32))] [])) _
        refine XS.aloadN X256.here hx rfl (hb hby d6_49) rfl rfl ?_
        show Steps p.tables e below (T256.setTop (mkF m 50 #[.val (.ref o0), .val (.ref b93), .val (.int (1 : Int32)), .val (.int (2 : Int32))] [(.ref b93)])) _
        refine XS.iloadN X256.here hx rfl (hb hby d6_50) rfl ?_
        show Steps p.tables e below (T256.setTop (mkF m 51 #[.val (.ref o0), .val (.ref b93), .val (.int (1 : Int32)), .val (.int (2 : Int32))] [(.int (2 : Int32)), (.ref b93)])) _
        refine XS.iloadN X256.here hx rfl (hb hby d6_51) rfl ?_
        exact kt
      obtain ⟨cl264, Ar264, q264, S264, M264, H264, G264⟩ := (id V256)
      have hin264 : ¬ ((2 : Int32) < 0 ∨ cl264.slots.size ≤ ((2 : Int32)).toNatClampNeg) := inb_of S264 ⟨by decide, by decide⟩
      obtain ⟨T264, h264, X264, e264, W264, st264⟩ := stI X256 hx hZ e256 Ar264 (j := (2 : Int32)) hin264 (g := (mkF m 52 #[.val (.ref o0), .val (.ref b93), .val (.int (1 : Int32)), .val (.int (2 : Int32))] [(.int (1 : Int32)), (.int (2 : Int32)), (.ref b93)])) rfl rfl (hb hby d6_52)
      have Z0_265 : n0 ≤ h264.size := (Nat.le_trans Z0_257 (Keep.of_wr W264).1)
      have K0_266 : Keep h0 h264 [] := (K0_258.wr W264 (Or.inr sz_b93))
      have V0_267 : Arv Z h264 o0 ku .int (4 : Int32) [(.int u0), (.int u1), (.int u2), (.int u3)] (.int (0 : Int32)) := (V0_259.other W264 ne_o0_b93)
      have V264 : Arv Z h264 b93 k93 .int (4 : Int32) [(.int (0 : Int32)), (.int (0 : Int32)), (.int (1 : Int32)), (.int (0 : Int32))] (.int (0 : Int32)) := Arv.set Ar264 q264 S264 M264 H264 G264 rfl W264 2 rfl (Nat.le_of_ble_eq_true rfl)
      have N264 := Fr.snoc X264 N256 gn_b93
      refine Got.step st264 ?_
      show Got p e below s _ _ _ _ T264 (mkF m 53 #[.val (.ref o0), .val (.ref b93), .val (.int (1 : Int32)), .val (.int (2 : Int32))] [])
      refine Got.step (T' := T264) (g' := (mkF m 11 #[.val (.ref o0), .val (.ref b93), .val (.int (1 : Int32)), .val (.int (3 : Int32))] [(.ref o0), (.int (3 : Int32))])) (fun tq kt => ?_) ?_
      · show Steps p.tables e below (T264.setTop (mkF m 53 #[.val (.ref o0), .val (.ref b93), .val (.int (1 : Int32)), .val (.int (2 : Int32))] [])) _
        refine XS.iinc X264.here hx rfl (hb hby d6_53) rfl (l' := #[.val (.ref o0), .val (.ref b93), .val (.int (1 : Int32)), .val (.int ((2 : Int32) + (1 : Int32)))]) rfl ?_
        show Steps p.tables e below (T264.setTop (mkF m 56 #[.val (.ref o0), .val (.ref b93), .val (.int (1 : Int32)), .val (.int (3 : Int32))] [])) _
        refine XS.goto X264.here hx rfl (pc0 := 56) (pc' := 9) rfl (hb hby d6_56) (by decide) (by decide) ?_
        show Steps p.tables e below (T264.setTop (mkF m 9 #[.val (.ref o0), .val (.ref b93), .val (.int (1 : Int32)), .val (.int (3 : Int32))] [])) _
        refine XS.iloadN X264.here hx rfl (hb hby d6_9) rfl ?_
        show Steps p.tables e below (T264.setTop (mkF m 10 #[.val (.ref o0), .val (.ref b93), .val (.int (1 : Int32)), .val (.int (3 : Int32))] [(.int (3 : Int32))])) _
        refine XS.aloadN X264.here hx rfl (hb hby d6_10) rfl rfl ?_
        exact kt
      obtain ⟨cl268, Ar268, q268, S268, M268, H268, G268⟩ := (id V0_267)
      refine Got.step (T' := T264) (fun tq kt => X264.arraylength hx (cell := cl268) (by rw [e264]; exact Ar268.1) (State.isArrayOf_alike hZ.alike Ar268.2.1) (g := (mkF m 11 #[.val (.ref o0), .val (.ref b93), .val (.int (1 : Int32)), .val (.int (3 : Int32))] [(.ref o0), (.int (3 : Int32))])) rfl (rest := [(.int (3 : Int32))]) rfl (hb hby d6_11) tq kt) ?_
      rw [len_of S268 M268]
      show Got p e below s _ _ _ _ T264 (mkF m 12 #[.val (.ref o0), .val (.ref b93), .val (.int (1 : Int32)), .val (.int (3 : Int32))] [(.int (4 : Int32)), (.int (3 : Int32))])
      refine Got.step (T' := T264) (g' := (mkF m 21 #[.val (.ref o0), .val (.ref b93), .val (.int (1 : Int32)), .val (.int (3 : Int32))] [(.int (3 : Int32)), (.ref o0)])) (fun tq kt => ?_) ?_
      · show Steps p.tables e below (T264.setTop (mkF m 12 #[.val (.ref o0), .val (.ref b93), .val (.int (1 : Int32)), .val (.int (3 : Int32))] [(.int (4 : Int32)), (.int (3 : Int32))])) _
        refine XS.icmpNo X264.here hx rfl (hb hby d6_12) rfl (XT.ii_ge_f (by decide)) ?_
        show Steps p.tables e below (T264.setTop (mkF m 15 #[.val (.ref o0), .val (.ref b93), .val (.int (1 : Int32)), .val (.int (3 : Int32))] [])) _
        refine XS.iloadN X264.here hx rfl (hb hby d6_15) rfl ?_
        show Steps p.tables e below (T264.setTop (mkF m 16 #[.val (.ref o0), .val (.ref b93), .val (.int (1 : Int32)), .val (.int (3 : Int32))] [(.int (1 : Int32))])) _
        refine XS.ifNo X264.here hx rfl (hb hby d6_16) rfl (XT.i0_le_f (by decide)) ?_
        show Steps p.tables e below (T264.setTop (mkF m 19 #[.val (.ref o0), .val (.ref b93), .val (.int (1 : Int32)), .val (.int (3 : Int32))] [])) _
        refine XS.aloadN X264.here hx rfl (hb hby d6_19) rfl rfl ?_
        show Steps p.tables e below (T264.setTop (mkF m 20 #[.val (.ref o0), .val (.ref b93), .val (.int (1 : Int32)), .val (.int (3 : Int32))] [(.ref o0)])) _
        refine XS.iloadN X264.here hx rfl (hb hby d6_20) rfl ?_
        exact kt
      obtain ⟨cl269, Ar269, q269, S269, M269, H269, G269⟩ := (id V0_267)
      have hin269 : ¬ ((3 : Int32) < 0 ∨ cl269.slots.size ≤ ((3 : Int32)).toNatClampNeg) := inb_of S269 ⟨by decide, by decide⟩
      refine Got.step (T' := T264) (fun tq kt => X264.iaload hx (j := (3 : Int32)) (v := (.int u3)) (by rw [e264]; exact Ar269.1) (State.isArrayOf_alike hZ.alike Ar269.2.1) Ar269.2.2 hin269 (H269.at hin269 rfl) (g := (mkF m 21 #[.val (.ref o0), .val (.ref b93), .val (.int (1 : Int32)), .val (.int (3 : Int32))] [(.int (3 : Int32)), (.ref o0)])) rfl rfl (hb hby d6_21) tq kt) ?_
      show Got p e below s _ _ _ _ T264 (mkF m 22 #[.val (.ref o0), .val (.ref b93), .val (.int (1 : Int32)), .val (.int (3 : Int32))] [(.int u3)])
      refine Got.step (T' := T264) (g' := (mkF m 24 #[.val (.ref o0), .val (.ref b93), .val (.int (1 : Int32)), .val (.int (3 : Int32))] [(.int (1 : Int32)), (.ref o0), (.int u3)])) (fun tq kt => ?_) ?_
      · show Steps p.tables e below (T264.setTop (mkF m 22 #[.val (.ref o0), .val (.ref b93), .val (.int (1 : Int32)), .val (.int (3 : Int32))] [(.int u3)])) _
        refine XS.aloadN X264.here hx rfl (hb hby d6_22) rfl rfl ?_
        show Steps p.tables e below (T264.setTop (mkF m 23 #[.val (.ref o0), .val (.ref b93), .val (.int (1 : Int32)), .val (.int (3 : Int32))] [(.ref o0), (.int u3)])) _
        refine XS.iloadN X264.here hx rfl (hb hby d6_23) rfl ?_
        exact kt
      obtain ⟨cl270, Ar270, q270, S270, M270, H270, G270⟩ := (id V0_267)
      have hin270 : ¬ ((1 : Int32) < 0 ∨ cl270.slots.size ≤ ((1 : Int32)).toNatClampNeg) := inb_of S270 ⟨by decide, by decide⟩
      refine Got.step (T' := T264) (fun tq kt => X264.iaload hx (j := (1 : Int32)) (v := (.int u1)) (by rw [e264]; exact Ar270.1) (State.isArrayOf_alike hZ.alike Ar270.2.1) Ar270.2.2 hin270 (H270.at hin270 rfl) (g := (mkF m 24 #[.val (.ref o0), .val (.ref b93), .val (.int (1 : Int32)), .val (.int (3 : Int32))] [(.int (1 : Int32)), (.ref o0), (.int u3)])) rfl rfl (hb hby d6_24) tq kt) ?_
      show Got p e below s _ _ _ _ T264 (mkF m 25 #[.val (.ref o0), .val (.ref b93), .val (.int (1 : Int32)), .val (.int (3 : Int32))] [(.int u1), (.int u3)])
      by_cases hc271 : (u3 = u1)
      · refine Got.step (T' := T264) (g' := (mkF m 39 #[.val (.ref o0), .val (.ref b93), .val (.int (1 : Int32)), .val (.int (3 : Int32))] [(.int (3 : Int32)), (.ref o0)])) (fun tq kt => ?_) ?_
        · show Steps p.tables e below (T264.setTop (mkF m 25 #[.val (.ref o0), .val (.ref b93), .val (.int (1 : Int32)), .val (.int (3 : Int32))] [(.int u1), (.int u3)])) _
          refine XS.icmpYes X264.here hx rfl (pc0 := 25) (pc' := 37) rfl (hb hby d6_25) rfl (XT.ii_eq_t hc271) (by decide) (by decide) ?_
          show Steps p.tables e below (T264.setTop (mkF m 37 #[.val (.ref o0), .val (.ref b93), .val (.int (1 : Int32)), .val (.int (3 : Int32))] [])) _
          refine XS.aloadN X264.here hx rfl (hb hby d6_37) rfl rfl ?_
          show Steps p.tables e below (T264.setTop (mkF m 38 #[.val (.ref o0), .val (.ref b93), .val (.int (1 : Int32)), .val (.int (3 : Int32))] [(.ref o0)])) _
          refine XS.iloadN X264.here hx rfl (hb hby d6_38) rfl ?_
          exact kt
        obtain ⟨cl272, Ar272, q272, S272, M272, H272, G272⟩ := (id V0_267)
        have hin272 : ¬ ((3 : Int32) < 0 ∨ cl272.slots.size ≤ ((3 : Int32)).toNatClampNeg) := inb_of S272 ⟨by decide, by decide⟩
        refine Got.step (T' := T264) (fun tq kt => X264.iaload hx (j := (3 : Int32)) (v := (.int u3)) (by rw [e264]; exact Ar272.1) (State.isArrayOf_alike hZ.alike Ar272.2.1) Ar272.2.2 hin272 (H272.at hin272 rfl) (g := (mkF m 39 #[.val (.ref o0), .val (.ref b93), .val (.int (1 : Int32)), .val (.int (3 : Int32))] [(.int (3 : Int32)), (.ref o0)])) rfl rfl (hb hby d6_39) tq kt) ?_
        show Got p e below s _ _ _ _ T264 (mkF m 40 #[.val (.ref o0), .val (.ref b93), .val (.int (1 : Int32)), .val (.int (3 : Int32))] [(.int u3)])
        refine Got.step (T' := T264) (g' := (mkF m 42 #[.val (.ref o0), .val (.ref b93), .val (.int (1 : Int32)), .val (.int (3 : Int32))] [(.int (1 : Int32)), (.ref o0), (.int u3)])) (fun tq kt => ?_) ?_
        · show Steps p.tables e below (T264.setTop (mkF m 40 #[.val (.ref o0), .val (.ref b93), .val (.int (1 : Int32)), .val (.int (3 : Int32))] [(.int u3)])) _
          refine XS.aloadN X264.here hx rfl (hb hby d6_40) rfl rfl ?_
          show Steps p.tables e below (T264.setTop (mkF m 41 #[.val (.ref o0), .val (.ref b93), .val (.int (1 : Int32)), .val (.int (3 : Int32))] [(.ref o0), (.int u3)])) _
          refine XS.iloadN X264.here hx rfl (hb hby d6_41) rfl ?_
          exact kt
        obtain ⟨cl273, Ar273, q273, S273, M273, H273, G273⟩ := (id V0_267)
        have hin273 : ¬ ((1 : Int32) < 0 ∨ cl273.slots.size ≤ ((1 : Int32)).toNatClampNeg) := inb_of S273 ⟨by decide, by decide⟩
        refine Got.step (T' := T264) (fun tq kt => X264.iaload hx (j := (1 : Int32)) (v := (.int u1)) (by rw [e264]; exact Ar273.1) (State.isArrayOf_alike hZ.alike Ar273.2.1) Ar273.2.2 hin273 (H273.at hin273 rfl) (g := (mkF m 42 #[.val (.ref o0), .val (.ref b93), .val (.int (1 : Int32)), .val (.int (3 : Int32))] [(.int (1 : Int32)), (.ref o0), (.int u3)])) rfl rfl (hb hby d6_42) tq kt) ?_
        show Got p e below s _ _ _ _ T264 (mkF m 43 #[.val (.ref o0), .val (.ref b93), .val (.int (1 : Int32)), .val (.int (3 : Int32))] [(.int u1), (.int u3)])
        by_cases hc274 : (u3 = u1)
        · refine Got.step (T' := T264) (g' := (mkF m 52 #[.val (.ref o0), .val (.ref b93), .val (.int (2 : Int32)), .val (.int (3 : Int32))] [(.int (2 : Int32)), (.int (3 : Int32)), (.ref b93)])) (fun tq kt => ?_) ?_
          · show Steps p.tables e below (T264.setTop (mkF m 43 #[.val (.ref o0), .val (.ref b93), .val (.int (1 : Int32)), .val (.int (3 : Int32))] [(.int u1), (.int u3)])) _
            refine XS.icmpNo X264.here hx rfl (hb hby d6_43) rfl (XT.ii_ne_f hc274) ?_
            show Steps p.tables e below (T264.setTop (mkF m 46 #[.val (.ref o0), .val (.ref b93), .val (.int (1 : Int32)), .val (.int (3 : Int32))] [])) _
            refine XS.iinc X264.here hx rfl (hb hby d6_46) rfl (l' := #[.val (.ref o0), .val (.ref b93), .val (.int ((1 : Int32) + (1 : Int32))), .val (.int (3 : Int32))]) rfl ?_
            show Steps p.tables e below (T264.setTop (mkF m 49 #[.val (.ref o0), .val (.ref b93), .val (.int (2 : Int32)), .val (.int (3 : Int32))] [])) _
            refine XS.aloadN X264.here hx rfl (hb hby d6_49) rfl rfl ?_
            show Steps p.tables e below (T264.setTop (mkF m 50 #[.val (.ref o0), .val (.ref b93), .val (.int (2 : Int32)), .val (.int (3 : Int32))] [(.ref b93)])) _
            refine XS.iloadN X264.here hx rfl (hb hby d6_50) rfl ?_
            show Steps p.tables e below (T264.setTop (mkF m 51 #[.val (.ref o0), .val (.ref b93), .val (.int (2 : Int32)), .val (.int (3 : Int32))] [(.int (3 : Int32)), (.ref b93)])) _
            refine XS.iloadN X264.here hx rfl (hb hby d6_51) rfl ?_
            exact kt
          obtain ⟨cl275, Ar275, q275, S275, M275, H275, G275⟩ := (id V264)
          have hin275 : ¬ ((3 : Int32) < 0 ∨ cl275.slots.size ≤ ((3 : Int32)).toNatClampNeg) := inb_of S275 ⟨by decide, by decide⟩
          obtain ⟨T275, h275, X275, e275, W275, st275⟩ := stI X264 hx hZ e264 Ar275 (j := (3 : Int32)) hin275 (g := (mkF m 52 #[.val (.ref o0), .val (.ref b93), .val (.int (2 : Int32)), .val (.int (3 : Int32))] [(.int (2 : Int32)), (.int (3 : Int32)), (.ref b93)])) rfl rfl (hb hby d6_52)
          have Z0_276 : n0 ≤ h275.size := (Nat.le_trans Z0_265 (Keep.of_wr W275).1)
          have K0_277 : Keep h0 h275 [] := (K0_266.wr W275 (Or.inr sz_b93))
          have V0_278 : Arv Z h275 o0 ku .int (4 : Int32) [(.int u0), (.int u1), (.int u2), (.int u3)] (.int (0 : Int32)) := (V0_267.other W275 ne_o0_b93)
          have V275 : Arv Z h275 b93 k93 .int (4 : Int32) [(.int (0 : Int32)), (.int (0 : Int32)), (.int (1 : Int32)), (.int (2 : Int32))] (.int (0 : Int32)) := Arv.set Ar275 q275 S275 M275 H275 G275 rfl W275 3 rfl (Nat.le_of_ble_eq_true rfl)
          have N275 := Fr.snoc X275 N264 gn_b93
          refine Got.step st275 ?_
          show Got p e below s _ _ _ _ T275 (mkF m 53 #[.val (.ref o0), .val (.ref b93), .val (.int (2 : Int32)), .val (.int (3 : Int32))] [])
          refine Got.step (T' := T275) (g' := (mkF m 11 #[.val (.ref o0), .val (.ref b93), .val (.int (2 : Int32)), .val (.int (4 : Int32))] [(.ref o0), (.int (4 : Int32))])) (fun tq kt => ?_) ?_
          · show Steps p.tables e below (T275.setTop (mkF m 53 #[.val (.ref o0), .val (.ref b93), .val (.int (2 : Int32)), .val (.int (3 : Int32))] [])) _
            refine XS.iinc X275.here hx rfl (hb hby d6_53) rfl (l' := #[.val (.ref o0), .val (.ref b93), .val (.int (2 : Int32)), .val (.int ((3 : Int32) + (1 : Int32)))]) rfl ?_
            show Steps p.tables e below (T275.setTop (mkF m 56 #[.val (.ref o0), .val (.ref b93), .val (.int (2 : Int32)), .val (.int (4 : Int32))] [])) _
            refine XS.goto X275.here hx rfl (pc0 := 56) (pc' := 9) rfl (hb hby d6_56) (by decide) (by decide) ?_
            show Steps p.tables e below (T275.setTop (mkF m 9 #[.val (.ref o0), .val (.ref b93), .val (.int (2 : Int32)), .val (.int (4 : Int32))] [])) _
            refine XS.iloadN X275.here hx rfl (hb hby d6_9) rfl ?_
            show Steps p.tables e below (T275.setTop (mkF m 10 #[.val (.ref o0), .val (.ref b93), .val (.int (2 : Int32)), .val (.int (4 : Int32))] [(.int (4 : Int32))])) _
            refine XS.aloadN X275.here hx rfl (hb hby d6_10) rfl rfl ?_
            exact kt
          obtain ⟨cl279, Ar279, q279, S279, M279, H279, G279⟩ := (id V0_278)
          refine Got.step (T' := T275) (fun tq kt => X275.arraylength hx (cell := cl279) (by rw [e275]; exact Ar279.1) (State.isArrayOf_alike hZ.alike Ar279.2.1) (g := (mkF m 11 #[.val (.ref o0), .val (.ref b93), .val (.int (2 : Int32)), .val (.int (4 : Int32))] [(.ref o0), (.int (4 : Int32))])) rfl (rest := [(.int (4 : Int32))]) rfl (hb hby d6_11) tq kt) ?_
          rw [len_of S279 M279]
          show Got p e below s _ _ _ _ T275 (mkF m 12 #[.val (.ref o0), .val (.ref b93), .val (.int (2 : Int32)), .val (.int (4 : Int32))] [(.int (4 : Int32)), (.int (4 : Int32))])
          refine Got.step (T' := T275) (g' := (mkF m 60 #[.val (.ref o0), .val (.ref b93), .val (.int (2 : Int32)), .val (.int (4 : Int32))] [(.ref b93)])) (fun tq kt => ?_) ?_
          · show Steps p.tables e below (T275.setTop (mkF m 12 #[.val (.ref o0), .val (.ref b93), .val (.int (2 : Int32)), .val (.int (4 : Int32))] [(.int (4 : Int32)), (.int (4 : Int32))])) _
            refine XS.icmpYes X275.here hx rfl (pc0 := 12) (pc' := 59) rfl (hb hby d6_12) rfl (XT.ii_ge_t Int32.lt_irrefl) (by decide) (by decide) ?_
            show Steps p.tables e below (T275.setTop (mkF m 59 #[.val (.ref o0), .val (.ref b93), .val (.int (2 : Int32)), .val (.int (4 : Int32))] [])) _
            refine XS.aloadN X275.here hx rfl (hb hby d6_59) rfl rfl ?_
            exact kt
          rw [← g93]
          exact Got.retA X275 hx Bd.returns rfl hlk (hb hby d6_60) rfl ⟨N275, by rw [e275]; exact K0_277, k93, by rw [e275]; unfold ptab4; rw [((if_neg hc100).trans ((if_pos hc263).trans ((if_pos hc271).trans (if_pos hc274))))]; exact V275⟩ (by decide) (by decide)
        · refine Got.step (T' := T264) (g' := (mkF m 52 #[.val (.ref o0), .val (.ref b93), .val (.int (1 : Int32)), .val (.int (3 : Int32))] [(.int (1 : Int32)), (.int (3 : Int32)), (.ref b93)])) (fun tq kt => ?_) ?_
          · show Steps p.tables e below (T264.setTop (mkF m 43 #[.val (.ref o0), .val (.ref b93), .val (.int (1 : Int32)), .val (.int (3 : Int32))] [(.int u1), (.int u3)])) _
            refine XS.icmpYes X264.here hx rfl (pc0 := 43) (pc' := 49) rfl (hb hby d6_43) rfl (XT.ii_ne_t hc274) (by decide) (by decide) ?_
            show Steps p.tables e below (T264.setTop (mkF m 49 #[.val (.ref o0), .val (.ref b93), .val (.int (1 : Int32)), .val (.int (3 : Int32))] [])) _
            refine XS.aloadN X264.here hx rfl (hb hby d6_49) rfl rfl ?_
            show Steps p.tables e below (T264.setTop (mkF m 50 #[.val (.ref o0), .val (.ref b93), .val (.int (1 : Int32)), .val (.int (3 : Int32))] [(.ref b93)])) _
            refine XS.iloadN X264.here hx rfl (hb hby d6_50) rfl ?_
            show Steps p.tables e below (T264.setTop (mkF m 51 #[.val (.ref o0), .val (.ref b93), .val (.int (1 : Int32)), .val (.int (3 : Int32))] [(.int (3 : Int32)), (.ref b93)])) _
            refine XS.iloadN X264.here hx rfl (hb hby d6_51) rfl ?_
            exact kt
          obtain ⟨cl280, Ar280, q280, S280, M280, H280, G280⟩ := (id V264)
          have hin280 : ¬ ((3 : Int32) < 0 ∨ cl280.slots.size ≤ ((3 : Int32)).toNatClampNeg) := inb_of S280 ⟨by decide, by decide⟩
          obtain ⟨T280, h280, X280, e280, W280, st280⟩ := stI X264 hx hZ e264 Ar280 (j := (3 : Int32)) hin280 (g := (mkF m 52 #[.val (.ref o0), .val (.ref b93), .val (.int (1 : Int32)), .val (.int (3 : Int32))] [(.int (1 : Int32)), (.int (3 : Int32)), (.ref b93)])) rfl rfl (hb hby d6_52)
          have Z0_281 : n0 ≤ h280.size := (Nat.le_trans Z0_265 (Keep.of_wr W280).1)
          have K0_282 : Keep h0 h280 [] := (K0_266.wr W280 (Or.inr sz_b93))
          have V0_283 : Arv Z h280 o0 ku .int (4 : Int32) [(.int u0), (.int u1), (.int u2), (.int u3)] (.int (0 : Int32)) := (V0_267.other W280 ne_o0_b93)
          have V280 : Arv Z h280 b93 k93 .int (4 : Int32) [(.int (0 : Int32)), (.int (0 : Int32)), (.int (1 : Int32)), (.int (1 : Int32))] (.int (0 : Int32)) := Arv.set Ar280 q280 S280 M280 H280 G280 rfl W280 3 rfl (Nat.le_of_ble_eq_true rfl)
          have N280 := Fr.snoc X280 N264 gn_b93
          refine Got.step st280 ?_
          show Got p e below s _ _ _ _ T280 (mkF m 53 #[.val (.ref o0), .val (.ref b93), .val (.int (1 : Int32)), .val (.int (3 : Int32))] [])
          refine Got.step (T' := T280) (g' := (mkF m 11 #[.val (.ref o0), .val (.ref b93), .val (.int (1 : Int32)), .val (.int (4 : Int32))] [(.ref o0), (.int (4 : Int32))])) (fun tq kt => ?_) ?_
          · show Steps p.tables e below (T280.setTop (mkF m 53 #[.val (.ref o0), .val (.ref b93), .val (.int (1 : Int32)), .val (.int (3 : Int32))] [])) _
            refine XS.iinc X280.here hx rfl (hb hby d6_53) rfl (l' := #[.val (.ref o0), .val (.ref b93), .val (.int (1 : Int32)), .val (.int ((3 : Int32) + (1 : Int32)))]) rfl ?_
            show Steps p.tables e below (T280.setTop (mkF m 56 #[.val (.ref o0), .val (.ref b93), .val (.int (1 : Int32)), .val (.int (4 : Int32))] [])) _
            refine XS.goto X280.here hx rfl (pc0 := 56) (pc' := 9) rfl (hb hby d6_56) (by decide) (by decide) ?_
            show Steps p.tables e below (T280.setTop (mkF m 9 #[.val (.ref o0), .val (.ref b93), .val (.int (1 : Int32)), .val (.int (4 : Int32))] [])) _
            refine XS.iloadN X280.here hx rfl (hb hby d6_9) rfl ?_
            show Steps p.tables e below (T280.setTop (mkF m 10 #[.val (.ref o0), .val (.ref b93), .val (.int (1 : Int32)), .val (.int (4 : Int32))] [(.int (4 : Int32))])) _
            refine XS.aloadN X280.here hx rfl (hb hby d6_10) rfl rfl ?_
            exact kt
          obtain ⟨cl284, Ar284, q284, S284, M284, H284, G284⟩ := (id V0_283)
          refine Got.step (T' := T280) (fun tq kt => X280.arraylength hx (cell := cl284) (by rw [e280]; exact Ar284.1) (State.isArrayOf_alike hZ.alike Ar284.2.1) (g := (mkF m 11 #[.val (.ref o0), .val (.ref b93), .val (.int (1 : Int32)), .val (.int (4 : Int32))] [(.ref o0), (.int (4 : Int32))])) rfl (rest := [(.int (4 : Int32))]) rfl (hb hby d6_11) tq kt) ?_
          rw [len_of S284 M284]
          show Got p e below s _ _ _ _ T280 (mkF m 12 #[.val (.ref o0), .val (.ref b93), .val (.int (1 : Int32)), .val (.int (4 : Int32))] [(.int (4 : Int32)), (.int (4 : Int32))])
          refine Got.step (T' := T280) (g' := (mkF m 60 #[.val (.ref o0), .val (.ref b93), .val (.int (1 : Int32)), .val (.int (4 : Int32))] [(.ref b93)])) (fun tq kt => ?_) ?_
          · show Steps p.tables e below (T280.setTop (mkF m 12 #[.val (.ref o0), .val (.ref b93), .val (.int (1 : Int32)), .val (.int (4 : Int32))] [(.int (4 : Int32)), (.int (4 : Int32))])) _
            refine XS.icmpYes X280.here hx rfl (pc0 := 12) (pc' := 59) rfl (hb hby d6_12) rfl (XT.ii_ge_t Int32.lt_irrefl) (by decide) (by decide) ?_
            show Steps p.tables e below (T280.setTop (mkF m 59 #[.val (.ref o0), .val (.ref b93), .val (.int (1 : Int32)), .val (.int (4 : Int32))] [])) _
            refine XS.aloadN X280.here hx rfl (hb hby d6_59) rfl rfl ?_
            exact kt
          rw [← g93]
          exact Got.retA X280 hx Bd.returns rfl hlk (hb hby d6_60) rfl ⟨N280, by rw [e280]; exact K0_282, k93, by rw [e280]; unfold ptab4; rw [((if_neg hc100).trans ((if_pos hc263).trans ((if_pos hc271).trans (if_neg hc274))))]; exact V280⟩ (by decide) (by decide)
      · refine Got.step (T' := T264) (g' := (mkF m 32 #[.val (.ref o0), .val (.ref b93), .val (.int (1 : Int32)), .val (.int (3 : Int32))] [(.int (0 : Int32)), (.ref b93)])) (fun tq kt => ?_) ?_
        · show Steps p.tables e below (T264.setTop (mkF m 25 #[.val (.ref o0), .val (.ref b93), .val (.int (1 : Int32)), .val (.int (3 : Int32))] [(.int u1), (.int u3)])) _
          refine XS.icmpNo X264.here hx rfl (hb hby d6_25) rfl (XT.ii_eq_f hc271) ?_
          show Steps p.tables e below (T264.setTop (mkF m 28 #[.val (.ref o0), .val (.ref b93), .val (.int (1 : Int32)), .val (.int (3 : Int32))] [])) _
          refine XS.aloadN X264.here hx rfl (hb hby d6_28) rfl rfl ?_
          show Steps p.tables e below (T264.setTop (mkF m 29 #[.val (.ref o0), .val (.ref b93), .val (.int (1 : Int32)), .val (.int (3 : Int32))] [(.ref b93)])) _
          refine XS.iloadN X264.here hx rfl (hb hby d6_29) rfl ?_
          show Steps p.tables e below (T264.setTop (mkF m 30 #[.val (.ref o0), .val (.ref b93), .val (.int (1 : Int32)), .val (.int (3 : Int32))] [(.int (1 : Int32)), (.ref b93)])) _
          refine XS.iconst X264.here hx rfl (hb hby d6_30) ?_
          show Steps p.tables e below (T264.setTop (mkF m 31 #[.val (.ref o0), .val (.ref b93), .val (.int (1 : Int32)), .val (.int (3 : Int32))] [(.int (1 : Int32)), (.int (1 : Int32)), (.ref b93)])) _
          refine XS.isub X264.here hx rfl (hb hby d6_31) rfl ?_
          exact kt
        obtain ⟨cl285, Ar285, q285, S285, M285, H285, G285⟩ := (id V264)
        have hin285 : ¬ ((0 : Int32) < 0 ∨ cl285.slots.size ≤ ((0 : Int32)).toNatClampNeg) := inb_of S285 ⟨by decide, by decide⟩
        refine Got.step (T' := T264) (fun tq kt => X264.iaload hx (j := (0 : Int32)) (v := (.int (0 : Int32))) (by rw [e264]; exact Ar285.1) (State.isArrayOf_alike hZ.alike Ar285.2.1) Ar285.2.2 hin285 (H285.at hin285 rfl) (g := (mkF m 32 #[.val (.ref o0), .val (.ref b93), .val (.int (1 : Int32)), .val (.int (3 : Int32))] [(.int (0 : Int32)), (.ref b93)])) rfl rfl (hb hby d6_32) tq kt) ?_
        show Got p e below s _ _ _ _ T264 (mkF m 33 #[.val (.ref o0), .val (.ref b93), .val (.int (1 : Int32)), .val (.int (3 : Int32))] [(.int (0 : Int32))])
        refine Got.step (T' := T264) (g' := (mkF m 39 #[.val (.ref o0), .val (.ref b93), .val (.int (0 : Int32)), .val (.int (3 : Int32))] [(.int (3 : Int32)), (.ref o0)])) (fun tq kt => ?_) ?_
        · show Steps p.tables e below (T264.setTop (mkF m 33 #[.val (.ref o0), .val (.ref b93), .val (.int (1 : Int32)), .val (.int (3 : Int32))] [(.int (0 : Int32))])) _
          refine XS.istoreN X264.here hx rfl (hb hby d6_33) rfl (l' := #[.val (.ref o0), .val (.ref b93), .val (.int (0 : Int32)), .val (.int (3 : Int32))]) rfl ?_
          show Steps p.tables e below (T264.setTop (mkF m 34 #[.val (.ref o0), .val (.ref b93), .val (.int (0 : Int32)), .val (.int (3 : Int32))] [])) _
          refine XS.goto X264.here hx rfl (pc0 := 34) (pc' := 15) rfl (hb hby d6_34) (by decide) (by decide) ?_
          show Steps p.tables e below (T264.setTop (mkF m 15 #[.val (.ref o0), .val (.ref b93), .val (.int (0 : Int32)), .val (.int (3 : Int32))] [])) _
          refine XS.iloadN X264.here hx rfl (hb hby d6_15) rfl ?_
          show Steps p.tables e below (T264.setTop (mkF m 16 #[.val (.ref o0), .val (.ref b93), .val (.int (0 : Int32)), .val (.int (3 : Int32))] [(.int (0 : Int32))])) _
          refine XS.ifYes X264.here hx rfl (pc0 := 16) (pc' := 37) rfl (hb hby d6_16) rfl (XT.i0_le_t (by decide)) (by decide) (by decide) ?_
          show Steps p.tables e below (T264.setTop (mkF m 37 #[.val (.ref o0), .val (.ref b93), .val (.int (0 : Int32)), .val (.int (3 : Int32))] [])) _
          refine XS.aloadN X264.here hx rfl (hb hby d6_37) rfl rfl ?_
          show Steps p.tables e below (T264.setTop (mkF m 38 #[.val (.ref o0), .val (.ref b93), .val (.int (0 : Int32)), .val (.int (3 : Int32))] [(.ref o0)])) _
          refine XS.iloadN X264.here hx rfl (hb hby d6_38) rfl ?_
          exact kt
        obtain ⟨cl286, Ar286, q286, S286, M286, H286, G286⟩ := (id V0_267)
        have hin286 : ¬ ((3 : Int32) < 0 ∨ cl286.slots.size ≤ ((3 : Int32)).toNatClampNeg) := inb_of S286 ⟨by decide, by decide⟩
        refine Got.step (T' := T264) (fun tq kt => X264.iaload hx (j := (3 : Int32)) (v := (.int u3)) (by rw [e264]; exact Ar286.1) (State.isArrayOf_alike hZ.alike Ar286.2.1) Ar286.2.2 hin286 (H286.at hin286 rfl) (g := (mkF m 39 #[.val (.ref o0), .val (.ref b93), .val (.int (0 : Int32)), .val (.int (3 : Int32))] [(.int (3 : Int32)), (.ref o0)])) rfl rfl (hb hby d6_39) tq kt) ?_
        show Got p e below s _ _ _ _ T264 (mkF m 40 #[.val (.ref o0), .val (.ref b93), .val (.int (0 : Int32)), .val (.int (3 : Int32))] [(.int u3)])
        refine Got.step (T' := T264) (g' := (mkF m 42 #[.val (.ref o0), .val (.ref b93), .val (.int (0 : Int32)), .val (.int (3 : Int32))] [(.int (0 : Int32)), (.ref o0), (.int u3)])) (fun tq kt => ?_) ?_
        · show Steps p.tables e below (T264.setTop (mkF m 40 #[.val (.ref o0), .val (.ref b93), .val (.int (0 : Int32)), .val (.int (3 : Int32))] [(.int u3)])) _
          refine XS.aloadN X264.here hx rfl (hb hby d6_40) rfl rfl ?_
          show Steps p.tables e below (T264.setTop (mkF m 41 #[.val (.ref o0), .val (.ref b93), .val (.int (0 : Int32)), .val (.int (3 : Int32))] [(.ref o0), (.int u3)])) _
          refine XS.iloadN X264.here hx rfl (hb hby d6_41) rfl ?_
          exact kt
        obtain ⟨cl287, Ar287, q287, S287, M287, H287, G287⟩ := (id V0_267)
        have hin287 : ¬ ((0 : Int32) < 0 ∨ cl287.slots.size ≤ ((0 : Int32)).toNatClampNeg) := inb_of S287 ⟨by decide, by decide⟩
        refine Got.step (T' := T264) (fun tq kt => X264.iaload hx (j := (0 : Int32)) (v := (.int u0)) (by rw [e264]; exact Ar287.1) (State.isArrayOf_alike hZ.alike Ar287.2.1) Ar287.2.2 hin287 (H287.at hin287 rfl) (g := (mkF m 42 #[.val (.ref o0), .val (.ref b93), .val (.int (0 : Int32)), .val (.int (3 : Int32))] [(.int (0 : Int32)), (.ref o0), (.int u3)])) rfl rfl (hb hby d6_42) tq kt) ?_
        show Got p e below s _ _ _ _ T264 (mkF m 43 #[.val (.ref o0), .val (.ref b93), .val (.int (0 : Int32)), .val (.int (3 : Int32))] [(.int u0), (.int u3)])
        by_cases hc288 : (u3 = u0)
        · refine Got.step (T' := T264) (g' := (mkF m 52 #[.val (.ref o0), .val (.ref b93), .val (.int (1 : Int32)), .val (.int (3 : Int32))] [(.int (1 : Int32)), (.int (3 : Int32)), (.ref b93)])) (fun tq kt => ?_) ?_
          · show Steps p.tables e below (T264.setTop (mkF m 43 #[.val (.ref o0), .val (.ref b93), .val (.int (0 : Int32)), .val (.int (3 : Int32))] [(.int u0), (.int u3)])) _
            refine XS.icmpNo X264.here hx rfl (hb hby d6_43) rfl (XT.ii_ne_f hc288) ?_
            show Steps p.tables e below (T264.setTop (mkF m 46 #[.val (.ref o0), .val (.ref b93), .val (.int (0 : Int32)), .val (.int (3 : Int32))] [])) _
            refine XS.iinc X264.here hx rfl (hb hby d6_46) rfl (l' := #[.val (.ref o0), .val (.ref b93), .val (.int ((0 : Int32) + (1 : Int32))), .val (.int (3 : Int32))]) rfl ?_
            show Steps p.tables e below (T264.setTop (mkF m 49 #[.val (.ref o0), .val (.ref b93), .val (.int (1 : Int32)), .val (.int (3 : Int32))] [])) _
            refine XS.aloadN X264.here hx rfl (hb hby d6_49) rfl rfl ?_
            show Steps p.tables e below (T264.setTop (mkF m 50 #[.val (.ref o0), .val (.ref b93), .val (.int (1 : Int32)), .val (.int (3 : Int32))] [(.ref b93)])) _
            refine XS.iloadN X264.here hx rfl (hb hby d6_50) rfl ?_
            show Steps p.tables e below (T264.setTop (mkF m 51 #[.val (.ref o0), .val (.ref b93), .val (.int (1 : Int32)), .val (.int (3 : Int32))] [(.int (3 : Int32)), (.ref b93)])) _
            refine XS.iloadN X264.here hx rfl (hb hby d6_51) rfl ?_
            exact kt
          obtain ⟨cl289, Ar289, q289, S289, M289, H289, G289⟩ := (id V264)
          have hin289 : ¬ ((3 : Int32) < 0 ∨ cl289.slots.size ≤ ((3 : Int32)).toNatClampNeg) := inb_of S289 ⟨by decide, by decide⟩
          obtain ⟨T289, h289, X289, e289, W289, st289⟩ := stI X264 hx hZ e264 Ar289 (j := (3 : Int32)) hin289 (g := (mkF m 52 #[.val (.ref o0), .val (.ref b93), .val (.int (1 : Int32)), .val (.int (3 : Int32))] [(.int (1 : Int32)), (.int (3 : Int32)), (.ref b93)])) rfl rfl (hb hby d6_52)
          have Z0_290 : n0 ≤ h289.size := (Nat.le_trans Z0_265 (Keep.of_wr W289).1)
          have K0_291 : Keep h0 h289 [] := (K0_266.wr W289 (Or.inr sz_b93))
          have V0_292 : Arv Z h289 o0 ku .int (4 : Int32) [(.int u0), (.int u1), (.int u2), (.int u3)] (.int (0 : Int32)) := (V0_267.other W289 ne_o0_b93)
          have V289 : Arv Z h289 b93 k93 .int (4 : Int32) [(.int (0 : Int32)), (.int (0 : Int32)), (.int (1 : Int32)), (.int (1 : Int32))] (.int (0 : Int32)) := Arv.set Ar289 q289 S289 M289 H289 G289 rfl W289 3 rfl (Nat.le_of_ble_eq_true rfl)
          have N289 := Fr.snoc X289 N264 gn_b93
          refine Got.step st289 ?_
          show Got p e below s _ _ _ _ T289 (mkF m 53 #[.val (.ref o0), .val (.ref b93), .val (.int (1 : Int32)), .val (.int (3 : Int32))] [])
          refine Got.step (T' := T289) (g' := (mkF m 11 #[.val (.ref o0), .val (.ref b93), .val (.int (1 : Int32)), .val (.int (4 : Int32))] [(.ref o0), (.int (4 : Int32))])) (fun tq kt => ?_) ?_
          · show Steps p.tables e below (T289.setTop (mkF m 53 #[.val (.ref o0), .val (.ref b93), .val (.int (1 : Int32)), .val (.int (3 : Int32))] [])) _
            refine XS.iinc X289.here hx rfl (hb hby d6_53) rfl (l' := #[.val (.ref o0), .val (.ref b93), .val (.int (1 : Int32)), .val (.int ((3 : Int32) + (1 : Int32)))]) rfl ?_
            show Steps p.tables e below (T289.setTop (mkF m 56 #[.val (.ref o0), .val (.ref b93), .val (.int (1 : Int32)), .val (.int (4 : Int32))] [])) _
            refine XS.goto X289.here hx rfl (pc0 := 56) (pc' := 9) rfl (hb hby d6_56) (by decide) (by decide) ?_
            show Steps p.tables e below (T289.setTop (mkF m 9 #[.val (.ref o0), .val (.ref b93), .val (.int (1 : Int32)), .val (.int (4 : Int32))] [])) _
            refine XS.iloadN X289.here hx rfl (hb hby d6_9) rfl ?_
            show Steps p.tables e below (T289.setTop (mkF m 10 #[.val (.ref o0), .val (.ref b93), .val (.int (1 : Int32)), .val (.int (4 : Int32))] [(.int (4 : Int32))])) _
            refine XS.aloadN X289.here hx rfl (hb hby d6_10) rfl rfl ?_
            exact kt
          obtain ⟨cl293, Ar293, q293, S293, M293, H293, G293⟩ := (id V0_292)
          refine Got.step (T' := T289) (fun tq kt => X289.arraylength hx (cell := cl293) (by rw [e289]; exact Ar293.1) (State.isArrayOf_alike hZ.alike Ar293.2.1) (g := (mkF m 11 #[.val (.ref o0), .val (.ref b93), .val (.int (1 : Int32)), .val (.int (4 : Int32))] [(.ref o0), (.int (4 : Int32))])) rfl (rest := [(.int (4 : Int32))]) rfl (hb hby d6_11) tq kt) ?_
          rw [len_of S293 M293]
          show Got p e below s _ _ _ _ T289 (mkF m 12 #[.val (.ref o0), .val (.ref b93), .val (.int (1 : Int32)), .val (.int (4 : Int32))] [(.int (4 : Int32)), (.int (4 : Int32))])
          refine Got.step (T' := T289) (g' := (mkF m 60 #[.val (.ref o0), .val (.ref b93), .val (.int (1 : Int32)), .val (.int (4 : Int32))] [(.ref b93)])) (fun tq kt => ?_) ?_
          · show Steps p.tables e below (T289.setTop (mkF m 12 #[.val (.ref o0), .val (.ref b93), .val (.int (1 : Int32)), .val (.int (4 : Int32))] [(.int (4 : Int32)), (.int (4 : Int32))])) _
            refine XS.icmpYes X289.here hx rfl (pc0 := 12) (pc' := 59) rfl (hb hby d6_12) rfl (XT.ii_ge_t Int32.lt_irrefl) (by decide) (by decide) ?_
            show Steps p.tables e below (T289.setTop (mkF m 59 #[.val (.ref o0), .val (.ref b93), .val (.int (1 : Int32)), .val (.int (4 : Int32))] [])) _
            refine XS.aloadN X289.here hx rfl (hb hby d6_59) rfl rfl ?_
            exact kt
          rw [← g93]
          exact Got.retA X289 hx Bd.returns rfl hlk (hb hby d6_60) rfl ⟨N289, by rw [e289]; exact K0_291, k93, by rw [e289]; unfold ptab4; rw [((if_neg hc100).trans ((if_pos hc263).trans ((if_neg hc271).trans (if_pos hc288))))]; exact V289⟩ (by decide) (by decide)
        · refine Got.step (T' := T264) (g' := (mkF m 52 #[.val (.ref o0), .val (.ref b93), .val (.int (0 : Int32)), .val (.int (3 : Int32))] [(.int (0 : Int32)), (.int (3 : Int32)), (.ref b93)])) (fun tq kt => ?_) ?_
          · show Steps p.tables e below (T264.setTop (mkF m 43 #[.val (.ref o0), .val (.ref b93), .val (.int (0 : Int32)), .val (.int (3 : Int32))] [(.int u0), (.int u3)])) _
            refine XS.icmpYes X264.here hx rfl (pc0 := 43) (pc' := 49) rfl (hb hby d6_43) rfl (XT.ii_ne_t hc288) (by decide) (by decide) ?_
            show Steps p.tables e below (T264.setTop (mkF m 49 #[.val (.ref o0), .val (.ref b93), .val (.int (0 : Int32)), .val (.int (3 : Int32))] [])) _
            refine XS.aloadN X264.here hx rfl (hb hby d6_49) rfl rfl ?_
            show Steps p.tables e below (T264.setTop (mkF m 50 #[.val (.ref o0), .val (.ref b93), .val (.int (0 : Int32)), .val (.int (3 : Int32))] [(.ref b93)])) _
            refine XS.iloadN X264.here hx rfl (hb hby d6_50) rfl ?_
            show Steps p.tables e below (T264.setTop (mkF m 51 #[.val (.ref o0), .val (.ref b93), .val (.int (0 : Int32)), .val (.int (3 : Int32))] [(.int (3 : Int32)), (.ref b93)])) _
            refine XS.iloadN X264.here hx rfl (hb hby d6_51) rfl ?_
            exact kt
          obtain ⟨cl294, Ar294, q294, S294, M294, H294, G294⟩ := (id V264)
          have hin294 : ¬ ((3 : Int32) < 0 ∨ cl294.slots.size ≤ ((3 : Int32)).toNatClampNeg) := inb_of S294 ⟨by decide, by decide⟩
          obtain ⟨T294, h294, X294, e294, W294, st294⟩ := stI X264 hx hZ e264 Ar294 (j := (3 : Int32)) hin294 (g := (mkF m 52 #[.val (.ref o0), .val (.ref b93), .val (.int (0 : Int32)), .val (.int (3 : Int32))] [(.int (0 : Int32)), (.int (3 : Int32)), (.ref b93)])) rfl rfl (hb hby d6_52)
          have Z0_295 : n0 ≤ h294.size := (Nat.le_trans Z0_265 (Keep.of_wr W294).1)
          have K0_296 : Keep h0 h294 [] := (K0_266.wr W294 (Or.inr sz_b93))
          have V0_297 : Arv Z h294 o0 ku .int (4 : Int32) [(.int u0), (.int u1), (.int u2), (.int u3)] (.int (0 : Int32)) := (V0_267.other W294 ne_o0_b93)
          have V294 : Arv Z h294 b93 k93 .int (4 : Int32) [(.int (0 : Int32)), (.int (0 : Int32)), (.int (1 : Int32)), (.int (0 : Int32))] (.int (0 : Int32)) := Arv.set Ar294 q294 S294 M294 H294 G294 rfl W294 3 rfl (Nat.le_of_ble_eq_true rfl)
          have N294 := Fr.snoc X294 N264 gn_b93
          refine Got.step st294 ?_
          show Got p e below s _ _ _ _ T294 (mkF m 53 #[.val (.ref o0), .val (.ref b93), .val (.int (0 : Int32)), .val (.int (3 : Int32))] [])
          refine Got.step (T' := T294) (g' := (mkF m 11 #[.val (.ref o0), .val (.ref b93), .val (.int (0 : Int32)), .val (.int (4 : Int32))] [(.ref o0), (.int (4 : Int32))])) (fun tq kt => ?_) ?_
          · show Steps p.tables e below (T294.setTop (mkF m 53 #[.val (.ref o0), .val (.ref b93), .val (.int (0 : Int32)), .val (.int (3 : Int32))] [])) _
            refine XS.iinc X294.here hx rfl (hb hby d6_53) rfl (l' := #[.val (.ref o0), .val (.ref b93), .val (.int (0 : Int32)), .val (.int ((3 : Int32) + (1 : Int32)))]) rfl ?_
            show Steps p.tables e below (T294.setTop (mkF m 56 #[.val (.ref o0), .val (.ref b93), .val (.int (0 : Int32)), .val (.int (4 : Int32))] [])) _
            refine XS.goto X294.here hx rfl (pc0 := 56) (pc' := 9) rfl (hb hby d6_56) (by decide) (by decide) ?_
            show Steps p.tables e below (T294.setTop (mkF m 9 #[.val (.ref o0), .val (.ref b93), .val (.int (0 : Int32)), .val (.int (4 : Int32))] [])) _
            refine XS.iloadN X294.here hx rfl (hb hby d6_9) rfl ?_
            show Steps p.tables e below (T294.setTop (mkF m 10 #[.val (.ref o0), .val (.ref b93), .val (.int (0 : Int32)), .val (.int (4 : Int32))] [(.int (4 : Int32))])) _
            refine XS.aloadN X294.here hx rfl (hb hby d6_10) rfl rfl ?_
            exact kt
          obtain ⟨cl298, Ar298, q298, S298, M298, H298, G298⟩ := (id V0_297)
          refine Got.step (T' := T294) (fun tq kt => X294.arraylength hx (cell := cl298) (by rw [e294]; exact Ar298.1) (State.isArrayOf_alike hZ.alike Ar298.2.1) (g := (mkF m 11 #[.val (.ref o0), .val (.ref b93), .val (.int (0 : Int32)), .val (.int (4 : Int32))] [(.ref o0), (.int (4 : Int32))])) rfl (rest := [(.int (4 : Int32))]) rfl (hb hby d6_11) tq kt) ?_
          rw [len_of S298 M298]
          show Got p e below s _ _ _ _ T294 (mkF m 12 #[.val (.ref o0), .val (.ref b93), .val (.int (0 : Int32)), .val (.int (4 : Int32))] [(.int (4 : Int32)), (.int (4 : Int32))])
          refine Got.step (T' := T294) (g' := (mkF m 60 #[.val (.ref o0), .val (.ref b93), .val (.int (0 : Int32)), .val (.int (4 : Int32))] [(.ref b93)])) (fun tq kt => ?_) ?_
          · show Steps p.tables e below (T294.setTop (mkF m 12 #[.val (.ref o0), .val (.ref b93), .val (.int (0 : Int32)), .val (.int (4 : Int32))] [(.int (4 : Int32)), (.int (4 : Int32))])) _
            refine XS.icmpYes X294.here hx rfl (pc0 := 12) (pc' := 59) rfl (hb hby d6_12) rfl (XT.ii_ge_t Int32.lt_irrefl) (by decide) (by decide) ?_
            show Steps p.tables e below (T294.setTop (mkF m 59 #[.val (.ref o0), .val (.ref b93), .val (.int (0 : Int32)), .val (.int (4 : Int32))] [])) _
            refine XS.aloadN X294.here hx rfl (hb hby d6_59) rfl rfl ?_
            exact kt
          rw [← g93]
          exact Got.retA X294 hx Bd.returns rfl hlk (hb hby d6_60) rfl ⟨N294, by rw [e294]; exact K0_296, k93, by rw [e294]; unfold ptab4; rw [((if_neg hc100).trans ((if_pos hc263).trans ((if_neg hc271).trans (if_neg hc288))))]; exact V294⟩ (by decide) (by decide)
    · refine Got.step (T' := T256) (g' := (mkF m 52 #[.val (.ref o0), .val (.ref b93), .val (.int (0 : Int32)), .val (.int (2 : Int32))] [(.int (0 : Int32)), (.int (2 : Int32)), (.ref b93)])) (fun tq kt => ?_) ?_
      · show Steps p.tables e below (T256.setTop (mkF m 43 #[.val (.ref o0), .val (.ref b93), .val (.int (0 : Int32)), .val (.int (2 : Int32))] [(.int u0), (.int u2)])) _
        refine XS.icmpYes X256.here hx rfl (pc0 := 43) (pc' := 49) rfl (hb hby d6_43) rfl (XT.ii_ne_t hc263) (by decide) (by decide) ?_
        show Steps p.tables e below (T256.setTop (mkF m 49 #[.val (.ref o0), .val (.ref b93), .val (.int (0 : Int32)), .val (.int (2 : Int32))] [])) _
        refine XS.aloadN X256.here hx rfl (hb hby d6_49) rfl rfl ?_
        show Steps p.tables e below (T256.setTop (mkF m 50 #[.val (.ref o0), .val (.ref b93), .val (.int (0 : Int32)), .val (.int (2 : Int32))] [(.ref b93)])) _
        refine XS.iloadN X256.here hx rfl (hb hby d6_50) rfl ?_
        show Steps p.tables e below (T256.setTop (mkF m 51 #[.val (.ref o0), .val (.ref b93), .val (.int (0 : Int32)), .val (.int (2 : Int32))] [(.int (2 : Int32)), (.ref b93)])) _
        refine XS.iloadN X256.here hx rfl (hb hby d6_51) rfl ?_
        exact kt
      obtain ⟨cl299, Ar299, q299, S299, M299, H299, G299⟩ := (id V256)
      have hin299 : ¬ ((2 : Int32) < 0 ∨ cl299.slots.size ≤ ((2 : Int32)).toNatClampNeg) := inb_of S299 ⟨by decide, by decide⟩
      obtain ⟨T299, h299, X299, e299, W299, st299⟩ := stI X256 hx hZ e256 Ar299 (j := (2 : Int32)) hin299 (g := (mkF m 52 #[.val (.ref o0), .val (.ref b93), .val (.int (0 : Int32)), .val (.int (2 : Int32))] [(.int (0 : Int32)), (.int (2 : Int32)), (.ref b93)])) rfl rfl (hb hby d6_52)
      have Z0_300 : n0 ≤ h299.size := (Nat.le_trans Z0_257 (Keep.of_wr W299).1)
      have K0_301 : Keep h0 h299 [] := (K0_258.wr W299 (Or.inr sz_b93))
      have V0_302 : Arv Z h299 o0 ku .int (4 : Int32) [(.int u0), (.int u1), (.int u2), (.int u3)] (.int (0 : Int32)) := (V0_259.other W299 ne_o0_b93)
      have V299 : Arv Z h299 b93 k93 .int (4 : Int32) [(.int (0 : Int32)), (.int (0 : Int32)), (.int (0 : Int32)), (.int (0 : Int32))] (.int (0 : Int32)) := Arv.set Ar299 q299 S299 M299 H299 G299 rfl W299 2 rfl (Nat.le_of_ble_eq_true rfl)
      have N299 := Fr.snoc X299 N256 gn_b93
      refine Got.step st299 ?_
      show Got p e below s _ _ _ _ T299 (mkF m 53 #[.val (.ref o0), .val (.ref b93), .val (.int (0 : Int32)), .val (.int (2 : Int32))] [])
      refine Got.step (T' := T299) (g' := (mkF m 11 #[.val (.ref o0), .val (.ref b93), .val (.int (0 : Int32)), .val (.int (3 : Int32))] [(.ref o0), (.int (3 : Int32))])) (fun tq kt => ?_) ?_
      · show Steps p.tables e below (T299.setTop (mkF m 53 #[.val (.ref o0), .val (.ref b93), .val (.int (0 : Int32)), .val (.int (2 : Int32))] [])) _
        refine XS.iinc X299.here hx rfl (hb hby d6_53) rfl (l' := #[.val (.ref o0), .val (.ref b93), .val (.int (0 : Int32)), .val (.int ((2 : Int32) + (1 : Int32)))]) rfl ?_
        show Steps p.tables e below (T299.setTop (mkF m 56 #[.val (.ref o0), .val (.ref b93), .val (.int (0 : Int32)), .val (.int (3 : Int32))] [])) _
        refine XS.goto X299.here hx rfl (pc0 := 56) (pc' := 9) rfl (hb hby d6_56) (by decide) (by decide) ?_
        show Steps p.tables e below (T299.setTop (mkF m 9 #[.val (.ref o0), .val (.ref b93), .val (.int (0 : Int32)), .val (.int (3 : Int32))] [])) _
        refine XS.iloadN X299.here hx rfl (hb hby d6_9) rfl ?_
        show Steps p.tables e below (T299.setTop (mkF m 10 #[.val (.ref o0), .val (.ref b93), .val (.int (0 : Int32)), .val (.int (3 : Int32))] [(.int (3 : Int32))])) _
        refine XS.aloadN X299.here hx rfl (hb hby d6_10) rfl rfl ?_
        exact kt
      obtain ⟨cl303, Ar303, q303, S303, M303, H303, G303⟩ := (id V0_302)
      refine Got.step (T' := T299) (fun tq kt => X299.arraylength hx (cell := cl303) (by rw [e299]; exact Ar303.1) (State.isArrayOf_alike hZ.alike Ar303.2.1) (g := (mkF m 11 #[.val (.ref o0), .val (.ref b93), .val (.int (0 : Int32)), .val (.int (3 : Int32))] [(.ref o0), (.int (3 : Int32))])) rfl (rest := [(.int (3 : Int32))]) rfl (hb hby d6_11) tq kt) ?_
      rw [len_of S303 M303]
      show Got p e below s _ _ _ _ T299 (mkF m 12 #[.val (.ref o0), .val (.ref b93), .val (.int (0 : Int32)), .val (.int (3 : Int32))] [(.int (4 : Int32)), (.int (3 : Int32))])
      refine Got.step (T' := T299) (g' := (mkF m 39 #[.val (.ref o0), .val (.ref b93), .val (.int (0 : Int32)), .val (.int (3 : Int32))] [(.int (3 : Int32)), (.ref o0)])) (fun tq kt => ?_) ?_
      · show Steps p.tables e below (T299.setTop (mkF m 12 #[.val (.ref o0), .val (.ref b93), .val (.int (0 : Int32)), .val (.int (3 : Int32))] [(.int (4 : Int32)), (.int (3 : Int32))])) _
        refine XS.icmpNo X299.here hx rfl (hb hby d6_12) rfl (XT.ii_ge_f (by decide)) ?_
        show Steps p.tables e below (T299.setTop (mkF m 15 #[.val (.ref o0), .val (.ref b93), .val (.int (0 : Int32)), .val (.int (3 : Int32))] [])) _
        refine XS.iloadN X299.here hx rfl (hb hby d6_15) rfl ?_
        show Steps p.tables e below (T299.setTop (mkF m 16 #[.val (.ref o0), .val (.ref b93), .val (.int (0 : Int32)), .val (.int (3 : Int32))] [(.int (0 : Int32))])) _
        refine XS.ifYes X299.here hx rfl (pc0 := 16) (pc' := 37) rfl (hb hby d6_16) rfl (XT.i0_le_t (by decide)) (by decide) (by decide) ?_
        show Steps p.tables e below (T299.setTop (mkF m 37 #[.val (.ref o0), .val (.ref b93), .val (.int (0 : Int32)), .val (.int (3 : Int32))] [])) _
        refine XS.aloadN X299.here hx rfl (hb hby d6_37) rfl rfl ?_
        show Steps p.tables e below (T299.setTop (mkF m 38 #[.val (.ref o0), .val (.ref b93), .val (.int (0 : Int32)), .val (.int (3 : Int32))] [(.ref o0)])) _
        refine XS.iloadN X299.here hx rfl (hb hby d6_38) rfl ?_
        exact kt
      obtain ⟨cl304, Ar304, q304, S304, M304, H304, G304⟩ := (id V0_302)
      have hin304 : ¬ ((3 : Int32) < 0 ∨ cl304.slots.size ≤ ((3 : Int32)).toNatClampNeg) := inb_of S304 ⟨by decide, by decide⟩
      refine Got.step (T' := T299) (fun tq kt => X299.iaload hx (j := (3 : Int32)) (v := (.int u3)) (by rw [e299]; exact Ar304.1) (State.isArrayOf_alike hZ.alike Ar304.2.1) Ar304.2.2 hin304 (H304.at hin304 rfl) (g := (mkF m 39 #[.val (.ref o0), .val (.ref b93), .val (.int (0 : Int32)), .val (.int (3 : Int32))] [(.int (3 : Int32)), (.ref o0)])) rfl rfl (hb hby d6_39) tq kt) ?_
      show Got p e below s _ _ _ _ T299 (mkF m 40 #[.val (.ref o0), .val (.ref b93), .val (.int (0 : Int32)), .val (.int (3 : Int32))] [(.int u3)])
      refine Got.step (T' := T299) (g' := (mkF m 42 #[.val (.ref o0), .val (.ref b93), .val (.int (0 : Int32)), .val (.int (3 : Int32))] [(.int (0 : Int32)), (.ref o0), (.int u3)])) (fun tq kt => ?_) ?_
      · show Steps p.tables e below (T299.setTop (mkF m 40 #[.val (.ref o0), .val (.ref b93), .val (.int (0 : Int32)), .val (.int (3 : Int32))] [(.int u3)])) _
        refine XS.aloadN X299.here hx rfl (hb hby d6_40) rfl rfl ?_
        show Steps p.tables e below (T299.setTop (mkF m 41 #[.val (.ref o0), .val (.ref b93), .val (.int (0 : Int32)), .val (.int (3 : Int32))] [(.ref o0), (.int u3)])) _
        refine XS.iloadN X299.here hx rfl (hb hby d6_41) rfl ?_
        exact kt
      obtain ⟨cl305, Ar305, q305, S305, M305, H305, G305⟩ := (id V0_302)
      have hin305 : ¬ ((0 : Int32) < 0 ∨ cl305.slots.size ≤ ((0 : Int32)).toNatClampNeg) := inb_of S305 ⟨by decide, by decide⟩
      refine Got.step (T' := T299) (fun tq kt => X299.iaload hx (j := (0 : Int32)) (v := (.int u0)) (by rw [e299]; exact Ar305.1) (State.isArrayOf_alike hZ.alike Ar305.2.1) Ar305.2.2 hin305 (H305.at hin305 rfl) (g := (mkF m 42 #[.val (.ref o0), .val (.ref b93), .val (.int (0 : Int32)), .val (.int (3 : Int32))] [(.int (0 : Int32)), (.ref o0), (.int u3)])) rfl rfl (hb hby d6_42) tq kt) ?_
      show Got p e below s _ _ _ _ T299 (mkF m 43 #[.val (.ref o0), .val (.ref b93), .val (.int (0 : Int32)), .val (.int (3 : Int32))] [(.int u0), (.int u3)])
      by_cases hc306 : (u3 = u0)
      · refine Got.step (T' := T299) (g' := (mkF m 52 #[.val (.ref o0), .val (.ref b93), .val (.int (1 : Int32)), .val (.int (3 : Int32))] [(.int (1 : Int32)), (.int (3 : Int32)), (.ref b93)])) (fun tq kt => ?_) ?_
        · show Steps p.tables e below (T299.setTop (mkF m 43 #[.val (.ref o0), .val (.ref b93), .val (.int (0 : Int32)), .val (.int (3 : Int32))] [(.int u0), (.int u3)])) _
          refine XS.icmpNo X299.here hx rfl (hb hby d6_43) rfl (XT.ii_ne_f hc306) ?_
          show Steps p.tables e below (T299.setTop (mkF m 46 #[.val (.ref o0), .val (.ref b93), .val (.int (0 : Int32)), .val (.int (3 : Int32))] [])) _
          refine XS.iinc X299.here hx rfl (hb hby d6_46) rfl (l' := #[.val (.ref o0), .val (.ref b93), .val (.int ((0 : Int32) + (1 : Int32))), .val (.int (3 : Int32))]) rfl ?_
          show Steps p.tables e below (T299.setTop (mkF m 49 #[.val (.ref o0), .val (.ref b93), .val (.int (1 : Int32)), .val (.int (3 : Int32))] [])) _
          refine XS.aloadN X299.here hx rfl (hb hby d6_49) rfl rfl ?_
          show Steps p.tables e below (T299.setTop (mkF m 50 #[.val (.ref o0), .val (.ref b93), .val (.int (1 : Int32)), .val (.int (3 : Int32))] [(.ref b93)])) _
          refine XS.iloadN X299.here hx rfl (hb hby d6_50) rfl ?_
          show Steps p.tables e below (T299.setTop (mkF m 51 #[.val (.ref o0), .val (.ref b93), .val (.int (1 : Int32)), .val (.int (3 : Int32))] [(.int (3 : Int32)), (.ref b93)])) _
          refine XS.iloadN X299.here hx rfl (hb hby d6_51) rfl ?_
          exact kt
        obtain ⟨cl307, Ar307, q307, S307, M307, H307, G307⟩ := (id V299)
        have hin307 : ¬ ((3 : Int32) < 0 ∨ cl307.slots.size ≤ ((3 : Int32)).toNatClampNeg) := inb_of S307 ⟨by decide, by decide⟩
        obtain ⟨T307, h307, X307, e307, W307, st307⟩ := stI X299 hx hZ e299 Ar307 (j := (3 : Int32)) hin307 (g := (mkF m 52 #[.val (.ref o0), .val (.ref b93), .val (.int (1 : Int32)), .val (.int (3 : Int32))] [(.int (1 : Int32)), (.int (3 : Int32)), (.ref b93)])) rfl rfl (hb hby d6_52)
        have Z0_308 : n0 ≤ h307.size := (Nat.le_trans Z0_300 (Keep.of_wr W307).1)
        have K0_309 : Keep h0 h307 [] := (K0_301.wr W307 (Or.inr sz_b93))
        have V0_310 : Arv Z h307 o0 ku .int (4 : Int32) [(.int u0), (.int u1), (.int u2), (.int u3)] (.int (0 : Int32)) := (V0_302.other W307 ne_o0_b93)
        have V307 : Arv Z h307 b93 k93 .int (4 : Int32) [(.int (0 : Int32)), (.int (0 : Int32)), (.int (0 : Int32)), (.int (1 : Int32))] (.int (0 : Int32)) := Arv.set Ar307 q307 S307 M307 H307 G307 rfl W307 3 rfl (Nat.le_of_ble_eq_true rfl)
        have N307 := Fr.snoc X307 N299 gn_b93
        refine Got.step st307 ?_
        show Got p e below s _ _ _ _ T307 (mkF m 53 #[.val (.ref o0), .val (.ref b93), .val (.int (1 : Int32)), .val (.int (3 : Int32))] [])
        refine Got.step (T' := T307) (g' := (mkF m 11 #[.val (.ref o0), .val (.ref b93), .val (.int (1 : Int32)), .val (.int (4 : Int32))] [(.ref o0), (.int (4 : Int32))])) (fun tq kt => ?_) ?_
        · show Steps p.tables e below (T307.setTop (mkF m 53 #[.val (.ref o0), .val (.ref b93), .val (.int (1 : Int32)), .val (.int (3 : Int32))] [])) _
          refine XS.iinc X307.here hx rfl (hb hby d6_53) rfl (l' := #[.val (.ref o0), .val (.ref b93), .val (.int (1 : Int32)), .val (.int ((3 : Int32) + (1 : Int32)))]) rfl ?_
          show Steps p.tables e below (T307.setTop (mkF m 56 #[.val (.ref o0), .val (.ref b93), .val (.int (1 : Int32)), .val (.int (4 : Int32))] [])) _
          refine XS.goto X307.here hx rfl (pc0 := 56) (pc' := 9) rfl (hb hby d6_56) (by decide) (by decide) ?_
          show Steps p.tables e below (T307.setTop (mkF m 9 #[.val (.ref o0), .val (.ref b93), .val (.int (1 : Int32)), .val (.int (4 : Int32))] [])) _
          refine XS.iloadN X307.here hx rfl (hb hby d6_9) rfl ?_
          show Steps p.tables e below (T307.setTop (mkF m 10 #[.val (.ref o0), .val (.ref b93), .val (.int (1 : Int32)), .val (.int (4 : Int32))] [(.int (4 : Int32))])) _
          refine XS.aloadN X307.here hx rfl (hb hby d6_10) rfl rfl ?_
          exact kt
        obtain ⟨cl311, Ar311, q311, S311, M311, H311, G311⟩ := (id V0_310)
        refine Got.step (T' := T307) (fun tq kt => X307.arraylength hx (cell := cl311) (by rw [e307]; exact Ar311.1) (State.isArrayOf_alike hZ.alike Ar311.2.1) (g := (mkF m 11 #[.val (.ref o0), .val (.ref b93), .val (.int (1 : Int32)), .val (.int (4 : Int32))] [(.ref o0), (.int (4 : Int32))])) rfl (rest := [(.int (4 : Int32))]) rfl (hb hby d6_11) tq kt) ?_
        rw [len_of S311 M311]
        show Got p e below s _ _ _ _ T307 (mkF m 12 #[.val (.ref o0), .val (.ref b93), .val (.int (1 : Int32)), .val (.int (4 : Int32))] [(.int (4 : Int32)), (.int (4 : Int32))])
        refine Got.step (T' := T307) (g' := (mkF m 60 #[.val (.ref o0), .val (.ref b93), .val (.int (1 : Int32)), .val (.int (4 : Int32))] [(.ref b93)])) (fun tq kt => ?_) ?_
        · show Steps p.tables e below (T307.setTop (mkF m 12 #[.val (.ref o0), .val (.ref b93), .val (.int (1 : Int32)), .val (.int (4 : Int32))] [(.int (4 : Int32)), (.int (4 : Int32))])) _
          refine XS.icmpYes X307.here hx rfl (pc0 := 12) (pc' := 59) rfl (hb hby d6_12) rfl (XT.ii_ge_t Int32.lt_irrefl) (by decide) (by decide) ?_
          show Steps p.tables e below (T307.setTop (mkF m 59 #[.val (.ref o0), .val (.ref b93), .val (.int (1 : Int32)), .val (.int (4 : Int32))] [])) _
          refine XS.aloadN X307.here hx rfl (hb hby d6_59) rfl rfl ?_
          exact kt
        rw [← g93]
        exact Got.retA X307 hx Bd.returns rfl hlk (hb hby d6_60) rfl ⟨N307, by rw [e307]; exact K0_309, k93, by rw [e307]; unfold ptab4; rw [((if_neg hc100).trans ((if_neg hc263).trans (if_pos hc306)))]; exact V307⟩ (by decide) (by decide)
      · refine Got.step (T' := T299) (g' := (mkF m 52 #[.val (.ref o0), .val (.ref b93), .val (.int (0 : Int32)), .val (.int (3 : Int32))] [(.int (0 : Int32)), (.int (3 : Int32)), (.ref b93)])) (fun tq kt => ?_) ?_
        · show Steps p.tables e below (T299.setTop (mkF m 43 #[.val (.ref o0), .val (.ref b93), .val (.int (0 : Int32)), .val (.int (3 : Int32))] [(.int u0), (.int u3)])) _
          refine XS.icmpYes X299.here hx rfl (pc0 := 43) (pc' := 49) rfl (hb hby d6_43) rfl (XT.ii_ne_t hc306) (by decide) (by decide) ?_
          show Steps p.tables e below (T299.setTop (mkF m 49 #[.val (.ref o0), .val (.ref b93), .val (.int (0 : Int32)), .val (.int (3 : Int32))] [])) _
          refine XS.aloadN X299.here hx rfl (hb hby d6_49) rfl rfl ?_
          show Steps p.tables e below (T299.setTop (mkF m 50 #[.val (.ref o0), .val (.ref b93), .val (.int (0 : Int32)), .val (.int (3 : Int32))] [(.ref b93)])) _
          refine XS.iloadN X299.here hx rfl (hb hby d6_50) rfl ?_
          show Steps p.tables e below (T299.setTop (mkF m 51 #[.val (.ref o0), .val (.ref b93), .val (.int (0 : Int32)), .val (.int (3 : Int32))] [(.int (3 : Int32)), (.ref b93)])) _
          refine XS.iloadN X299.here hx rfl (hb hby d6_51) rfl ?_
          exact kt
        obtain ⟨cl312, Ar312, q312, S312, M312, H312, G312⟩ := (id V299)
        have hin312 : ¬ ((3 : Int32) < 0 ∨ cl312.slots.size ≤ ((3 : Int32)).toNatClampNeg) := inb_of S312 ⟨by decide, by decide⟩
        obtain ⟨T312, h312, X312, e312, W312, st312⟩ := stI X299 hx hZ e299 Ar312 (j := (3 : Int32)) hin312 (g := (mkF m 52 #[.val (.ref o0), .val (.ref b93), .val (.int (0 : Int32)), .val (.int (3 : Int32))] [(.int (0 : Int32)), (.int (3 : Int32)), (.ref b93)])) rfl rfl (hb hby d6_52)
        have Z0_313 : n0 ≤ h312.size := (Nat.le_trans Z0_300 (Keep.of_wr W312).1)
        have K0_314 : Keep h0 h312 [] := (K0_301.wr W312 (Or.inr sz_b93))
        have V0_315 : Arv Z h312 o0 ku .int (4 : Int32) [(.int u0), (.int u1), (.int u2), (.int u3)] (.int (0 : Int32)) := (V0_302.other W312 ne_o0_b93)
        have V312 : Arv Z h312 b93 k93 .int (4 : Int32) [(.int (0 : Int32)), (.int (0 : Int32)), (.int (0 : Int32)), (.int (0 : Int32))] (.int (0 : Int32)) := Arv.set Ar312 q312 S312 M312 H312 G312 rfl W312 3 rfl (Nat.le_of_ble_eq_true rfl)
        have N312 := Fr.snoc X312 N299 gn_b93
        refine Got.step st312 ?_
        show Got p e below s _ _ _ _ T312 (mkF m 53 #[.val (.ref o0), .val (.ref b93), .val (.int (0 : Int32)), .val (.int (3 : Int32))] [])
        refine Got.step (T' := T312) (g' := (mkF m 11 #[.val (.ref o0), .val (.ref b93), .val (.int (0 : Int32)), .val (.int (4 : Int32))] [(.ref o0), (.int (4 : Int32))])) (fun tq kt => ?_) ?_
        · show Steps p.tables e below (T312.setTop (mkF m 53 #[.val (.ref o0), .val (.ref b93), .val (.int (0 : Int32)), .val (.int (3 : Int32))] [])) _
          refine XS.iinc X312.here hx rfl (hb hby d6_53) rfl (l' := #[.val (.ref o0), .val (.ref b93), .val (.int (0 : Int32)), .val (.int ((3 : Int32) + (1 : Int32)))]) rfl ?_
          show Steps p.tables e below (T312.setTop (mkF m 56 #[.val (.ref o0), .val (.ref b93), .val (.int (0 : Int32)), .val (.int (4 : Int32))] [])) _
          refine XS.goto X312.here hx rfl (pc0 := 56) (pc' := 9) rfl (hb hby d6_56) (by decide) (by decide) ?_
          show Steps p.tables e below (T312.setTop (mkF m 9 #[.val (.ref o0), .val (.ref b93), .val (.int (0 : Int32)), .val (.int (4 : Int32))] [])) _
          refine XS.iloadN X312.here hx rfl (hb hby d6_9) rfl ?_
          show Steps p.tables e below (T312.setTop (mkF m 10 #[.val (.ref o0), .val (.ref b93), .val (.int (0 : Int32)), .val (.int (4 : Int32))] [(.int (4 : Int32))])) _
          refine XS.aloadN X312.here hx rfl (hb hby d6_10) rfl rfl ?_
          exact kt
        obtain ⟨cl316, Ar316, q316, S316, M316, H316, G316⟩ := (id V0_315)
        refine Got.step (T' := T312) (fun tq kt => X312.arraylength hx (cell := cl316) (by rw [e312]; exact Ar316.1) (State.isArrayOf_alike hZ.alike Ar316.2.1) (g := (mkF m 11 #[.val (.ref o0), .val (.ref b93), .val (.int (0 : Int32)), .val (.int (4 : Int32))] [(.ref o0), (.int (4 : Int32))])) rfl (rest := [(.int (4 : Int32))]) rfl (hb hby d6_11) tq kt) ?_
        rw [len_of S316 M316]
        show Got p e below s _ _ _ _ T312 (mkF m 12 #[.val (.ref o0), .val (.ref b93), .val (.int (0 : Int32)), .val (.int (4 : Int32))] [(.int (4 : Int32)), (.int (4 : Int32))])
        refine Got.step (T' := T312) (g' := (mkF m 60 #[.val (.ref o0), .val (.ref b93), .val (.int (0 : Int32)), .val (.int (4 : Int32))] [(.ref b93)])) (fun tq kt => ?_) ?_
        · show Steps p.tables e below (T312.setTop (mkF m 12 #[.val (.ref o0), .val (.ref b93), .val (.int (0 : Int32)), .val (.int (4 : Int32))] [(.int (4 : Int32)), (.int (4 : Int32))])) _
          refine XS.icmpYes X312.here hx rfl (pc0 := 12) (pc' := 59) rfl (hb hby d6_12) rfl (XT.ii_ge_t Int32.lt_irrefl) (by decide) (by decide) ?_
          show Steps p.tables e below (T312.setTop (mkF m 59 #[.val (.ref o0), .val (.ref b93), .val (.int (0 : Int32)), .val (.int (4 : Int32))] [])) _
          refine XS.aloadN X312.here hx rfl (hb hby d6_59) rfl rfl ?_
          exact kt
        rw [← g93]
        exact Got.retA X312 hx Bd.returns rfl hlk (hb hby d6_60) rfl ⟨N312, by rw [e312]; exact K0_314, k93, by rw [e312]; unfold ptab4; rw [((if_neg hc100).trans ((if_neg hc263).trans (if_neg hc306)))]; exact V312⟩ (by decide) (by decide)
def ptab (N : Nat) (u0 u1 u2 u3 : Int32) : List Nat := match N with
  | 1 => ptab1 u0 u1 u2 u3
  | 2 => ptab2 u0 u1 u2 u3
  | 3 => ptab3 u0 u1 u2 u3
  | _ => ptab4 u0 u1 u2 u3
theorem rmP (l : Launch) (Z : State) (a0 : Array Value) (hw : ∀ d ∈ tables_1, d.before a0 Z = true) (ws : List Jvm.Cond) (o0 : Addr) (u0 u1 u2 u3 : Int32) (ku : ClassId) (N : Nat) (h0 : Heap) (n0 : Nat) (Z0 : n0 ≤ h0.size) (hN : 1 ≤ N ∧ N ≤ 4) (V0 : Arv Z h0 o0 ku .int (Int32.ofNat N) [(.int u0), (.int u1), (.int u2), (.int u3)] (.int (0 : Int32))) :
    MetFree l (⟨"com/example/sidestep/sidestep/CompiledPattern", "prefixTable", "([I)[I"⟩ : MethodName) (head1 (Jvm.Cond.code (⟨"com/example/sidestep/sidestep/CompiledPattern", "prefixTable", "([I)[I"⟩ : MethodName) prog_4_method_10_code 4 (some (.array .int)) :: ws) ({ frames := 0, cells := 1, slots := 4, locals := 0 } : Room)) (fun a U => a = #[(.ref o0)] ∧ Z.Warmed39 U.vm ∧ U.heap = h0) (fun _ _ _ _ _ => True) (fun _ U o U' => ∃ v L, o = .returned v ∧ QV (some (.ref h0.size)) (fun h L => Fr n0 L ∧ Keep h0 h [] ∧ ∃ k : ClassId, Arv Z h h0.size k .int (Int32.ofNat N) (own_tb (ptab N u0 u1 u2 u3)) (.int (0 : Int32))) v U'.heap L ∧ FrameEnd U o U' L ({ frames := 0, cells := 1, slots := 4, locals := 0 } : Room).cells ({ frames := 0, cells := 1, slots := 4, locals := 0 } : Room).slots) := by
  have q : N = 1 ∨ N = 2 ∨ N = 3 ∨ N = 4 := by omega
  rcases q with rfl | rfl | rfl | rfl
  · exact rmP1 l Z a0 hw ws o0 u0 u1 u2 u3 ku h0 n0 Z0 V0
  · exact rmP2 l Z a0 hw ws o0 u0 u1 u2 u3 ku h0 n0 Z0 V0
  · exact rmP3 l Z a0 hw ws o0 u0 u1 u2 u3 ku h0 n0 Z0 V0
  · exact rmP4 l Z a0 hw ws o0 u0 u1 u2 u3 ku h0 n0 Z0 V0
theorem pd_0 : parseMethodDescriptor "([I)[I" = some ⟨[(.array .int)], some (.array .int)⟩ := by decide +kernel
theorem ef_4 (m : MethodId) (x0 : Addr) (x1 : Addr) : entryFrame m #[(.ref x0), (.ref x1)] 2 = mkF m 0 #[.val (.ref x0), .val (.ref x1)] [] := by first | (simp [entryFrame, mkF, argsToLocals, Value.category]; done) | rfl
theorem d4_0 : decode prog_4_method_1_code 0 = .ok (.aload_n 0, 1) := by decide +kernel
theorem d4_1 : decode prog_4_method_1_code 1 = .ok (.invokespecial 1, 3) := by decide +kernel
theorem d4_4 : decode prog_4_method_1_code 4 = .ok (.aload_n 1, 1) := by decide +kernel
theorem d4_5 : decode prog_4_method_1_code 5 = .ok (.arraylength, 1) := by decide +kernel
theorem d4_6 : decode prog_4_method_1_code 6 = .ok (.ifCond .ne 13, 3) := by decide +kernel
theorem d4_19 : decode prog_4_method_1_code 19 = .ok (.aload_n 0, 1) := by decide +kernel
theorem d4_20 : decode prog_4_method_1_code 20 = .ok (.aload_n 1, 1) := by decide +kernel
theorem d4_21 : decode prog_4_method_1_code 21 = .ok (.putfield 14, 3) := by decide +kernel
theorem d4_24 : decode prog_4_method_1_code 24 = .ok (.aload_n 0, 1) := by decide +kernel
theorem d4_25 : decode prog_4_method_1_code 25 = .ok (.aload_n 1, 1) := by decide +kernel
theorem d4_26 : decode prog_4_method_1_code 26 = .ok (.invokestatic 20, 3) := by decide +kernel
theorem d4_29 : decode prog_4_method_1_code 29 = .ok (.putfield 24, 3) := by decide +kernel
theorem d4_32 : decode prog_4_method_1_code 32 = .ok (.return_, 1) := by decide +kernel
set_option maxRecDepth 65536 in
set_option maxHeartbeats 40000000 in
theorem rm4 (l : Launch) (Z : State) (a0 : Array Value) (hw : ∀ d ∈ tables_1, d.before a0 Z = true) (ws : List Jvm.Cond) (o0 o1 : Addr) (u0 u1 u2 u3 : Int32) (ku : ClassId) (N : Nat) (h0 : Heap) (n0 : Nat) (Z0 : n0 ≤ h0.size) (gn_o0 : n0 ≤ o0) (E_o0 : Exa Z h0 o0 "com/example/sidestep/sidestep/CompiledPattern") (F_units : Fld Z h0 o0 "com/example/sidestep/sidestep/CompiledPattern" "units" "[I" .null) (F_prefixTable : Fld Z h0 o0 "com/example/sidestep/sidestep/CompiledPattern" "prefixTable" "[I" .null) (V1 : Arv Z h0 o1 ku .int (Int32.ofNat N) [(.int u0), (.int u1), (.int u2), (.int u3)] (.int (0 : Int32))) (hne : o1 ≠ o0) (hN : 1 ≤ N ∧ N ≤ 4) :
    MetFree l (⟨"com/example/sidestep/sidestep/CompiledPattern", "<init>", "([I)V"⟩ : MethodName) (head1 (Jvm.Cond.code (⟨"com/example/sidestep/sidestep/CompiledPattern", "<init>", "([I)V"⟩ : MethodName) prog_4_method_1_code 2 none :: ws) ({ frames := 1, cells := 1, slots := 4, locals := 16 } : Room)) (fun a U => a = #[(.ref o0), (.ref o1)] ∧ Z.Warmed39 U.vm ∧ U.heap = h0) (fun _ _ _ _ _ => True) (fun _ U o U' => ∃ v L, o = .returned v ∧ QV none (fun h L => Fr n0 L ∧ Keep h0 h [o0] ∧ Exa Z h o0 "com/example/sidestep/sidestep/CompiledPattern" ∧ Fld Z h o0 "com/example/sidestep/sidestep/CompiledPattern" "units" "[I" (.ref o1) ∧ ∃ (ot : Addr) (kt : ClassId), Fld Z h o0 "com/example/sidestep/sidestep/CompiledPattern" "prefixTable" "[I" (.ref ot) ∧ Arv Z h ot kt .int (Int32.ofNat N) (own_tb (ptab N u0 u1 u2 u3)) (.int (0 : Int32))) v U'.heap L ∧ FrameEnd U o U' L ({ frames := 1, cells := 1, slots := 4, locals := 16 } : Room).cells ({ frames := 1, cells := 1, slots := 4, locals := 16 } : Room).slots) := by
  refine MetFree.of_bodySF (plainFor_of_name pn_1) hisR ?_
  intro p e s m args below meth c s₁ Bd hml0 hP hK
  obtain ⟨rfl, hZ, hh⟩ := hP
  have hx := Bd.exec
  have hby := Bd.bytes
  have hml : c.maxLocals = 2 := hml0
  have hown : s.vm.findClass "com/example/sidestep/sidestep/CompiledPattern" = some m.cls := findClass_of_methodNamed Bd.named
  have hnm := (name_of_methodNamed Bd.named Bd.method).1
  have hlk : meth.locks = false := BodyLoose.notSynchronized Bd
  have X0 : Stand p l e ({ frames := 1, cells := 1, slots := 4, locals := 16 } : Room) s m #[(.ref o0), (.ref o1)] below meth c s₁ [] 0 0 := Stand.of_body Bd
  have e0 : s₁.heap = h0 := by rw [← hh, Bd.state]; rfl
  have N0 := Fr.nil n0
  refine Got.body (ef_4 m o0 o1) ?_
  have K0 := Keep.refl h0 [o0]
  refine Got.step (T' := s₁) (g' := (mkF m 1 #[.val (.ref o0), .val (.ref o1)] [(.ref o0)])) (fun tq kt => ?_) ?_
  · show Steps p.tables e below (s₁.setTop (mkF m 0 #[.val (.ref o0), .val (.ref o1)] [])) _
    refine XS.aloadN X0.here hx rfl (hb hby d4_0) rfl rfl ?_
    exact kt
  obtain ⟨T317, X317, e317, st317⟩ := initO X0 hx hZ hown (hw _ (List.mem_of_getElem? (i := 19) rfl)) (hw _ (List.mem_of_getElem? (i := 20) rfl)) (hw _ (List.mem_of_getElem? (i := 21) rfl)) e0 (g := (mkF m 1 #[.val (.ref o0), .val (.ref o1)] [(.ref o0)])) rfl (by rw [hml]; rfl) rfl (hb hby d4_1) (by decide) (W := 0) (by show 2 * 0 + _ ≤ _; exact Nat.le_of_eq rfl) (by decide)
  refine Got.step st317 ?_
  show Got p e below s _ _ _ _ T317 (mkF m 4 #[.val (.ref o0), .val (.ref o1)] [])
  refine Got.step (T' := T317) (g' := (mkF m 5 #[.val (.ref o0), .val (.ref o1)] [(.ref o1)])) (fun tq kt => ?_) ?_
  · show Steps p.tables e below (T317.setTop (mkF m 4 #[.val (.ref o0), .val (.ref o1)] [])) _
    refine XS.aloadN X317.here hx rfl (hb hby d4_4) rfl rfl ?_
    exact kt
  obtain ⟨cl318, Ar318, q318, S318, M318, H318, G318⟩ := (id V1)
  refine Got.step (T' := T317) (fun tq kt => X317.arraylength hx (cell := cl318) (by rw [e317]; exact Ar318.1) (State.isArrayOf_alike hZ.alike Ar318.2.1) (g := (mkF m 5 #[.val (.ref o0), .val (.ref o1)] [(.ref o1)])) rfl (rest := []) rfl (hb hby d4_5) tq kt) ?_
  rw [len_of S318 M318]
  show Got p e below s _ _ _ _ T317 (mkF m 6 #[.val (.ref o0), .val (.ref o1)] [(.int (Int32.ofNat N))])
  refine Got.step (T' := T317) (g' := (mkF m 21 #[.val (.ref o0), .val (.ref o1)] [(.ref o1), (.ref o0)])) (fun tq kt => ?_) ?_
  · show Steps p.tables e below (T317.setTop (mkF m 6 #[.val (.ref o0), .val (.ref o1)] [(.int (Int32.ofNat N))])) _
    refine XS.ifYes X317.here hx rfl (pc0 := 6) (pc' := 19) rfl (hb hby d4_6) rfl (XT.i0_ne_t (own_nN hN)) (by decide) (by decide) ?_
    show Steps p.tables e below (T317.setTop (mkF m 19 #[.val (.ref o0), .val (.ref o1)] [])) _
    refine XS.aloadN X317.here hx rfl (hb hby d4_19) rfl rfl ?_
    show Steps p.tables e below (T317.setTop (mkF m 20 #[.val (.ref o0), .val (.ref o1)] [(.ref o0)])) _
    refine XS.aloadN X317.here hx rfl (hb hby d4_20) rfl rfl ?_
    exact kt
  obtain ⟨T319, h319, X319, e319, W319, st319⟩ := putF X317 hx hZ hown (host := "") (Or.inl (hw _ (List.mem_of_getElem? (i := 22) rfl))) Via.refl e317 F_units E_o0 (Or.inr ⟨(hw _ (List.mem_of_getElem? (i := 23) rfl)), rfl, hnm⟩) (hw _ (List.mem_of_getElem? (i := 14) rfl)) (ty := (.array .int)) (by decide) rfl rfl (g := (mkF m 21 #[.val (.ref o0), .val (.ref o1)] [(.ref o1), (.ref o0)])) rfl rfl (hb hby d4_21)
  have Z0_320 : n0 ≤ h319.size := (Nat.le_trans Z0 (Keep.of_wr W319).1)
  have K0_321 : Keep h0 h319 [o0] := (K0.wr W319 (Or.inl (List.mem_of_getElem? (i := 0) rfl)))
  have E_o0_322 : Exa Z h319 o0 "com/example/sidestep/sidestep/CompiledPattern" := (E_o0.wr W319)
  have F_units_323 : Fld Z h319 o0 "com/example/sidestep/sidestep/CompiledPattern" "units" "[I" (.ref o1) := (F_units.same W319)
  have F_prefixTable_324 : Fld Z h319 o0 "com/example/sidestep/sidestep/CompiledPattern" "prefixTable" "[I" .null := (F_prefixTable.other W319 (Or.inr (slot_ne (Or.inr (hw _ (List.mem_of_getElem? (i := 28) rfl))) (Or.inr (hw _ (List.mem_of_getElem? (i := 23) rfl))) (by decide) (t := (.array .int)) (t' := (.array .int)) (by decide) (by decide))))
  have V1_325 : Arv Z h319 o1 ku .int (Int32.ofNat N) [(.int u0), (.int u1), (.int u2), (.int u3)] (.int (0 : Int32)) := (V1.other W319 hne)
  have N319 := Fr.snoc X319 N0 gn_o0
  refine Got.step st319 ?_
  show Got p e below s _ _ _ _ T319 (mkF m 24 #[.val (.ref o0), .val (.ref o1)] [])
  refine Got.step (T' := T319) (g' := (mkF m 26 #[.val (.ref o0), .val (.ref o1)] [(.ref o1), (.ref o0)])) (fun tq kt => ?_) ?_
  · show Steps p.tables e below (T319.setTop (mkF m 24 #[.val (.ref o0), .val (.ref o1)] [])) _
    refine XS.aloadN X319.here hx rfl (hb hby d4_24) rfl rfl ?_
    show Steps p.tables e below (T319.setTop (mkF m 25 #[.val (.ref o0), .val (.ref o1)] [(.ref o0)])) _
    refine XS.aloadN X319.here hx rfl (hb hby d4_25) rfl rfl ?_
    exact kt
  obtain ⟨_, _, ⟨T326, L326, k326, n326⟩, -, X326, ⟨Lc326, hQ326, l326, y326, z326⟩, st326⟩ := Jvm.LawKit.callS X319 hx (y := (⟨"com/example/sidestep/sidestep/CompiledPattern", "prefixTable", "([I)[I"⟩ : MethodName)) hown (mvT hZ (hw _ (List.mem_of_getElem? (i := 24) rfl))) (mvT hZ (hw _ (List.mem_of_getElem? (i := 25) rfl))) (mvT hZ (hw _ (List.mem_of_getElem? (i := 15) rfl))) (mvT hZ (hw _ (List.mem_of_getElem? (i := 26) rfl))) (by decide) (backOf (W := 1) (rmP l Z a0 hw [] o1 u0 u1 u2 u3 ku N h319 n0 Z0_320 hN V1_325) hZ (hw _ (List.mem_of_getElem? (i := 26) rfl)) (hw _ (List.mem_of_getElem? (i := 15) rfl)) (by decide) (by decide)) (g := (mkF m 26 #[.val (.ref o0), .val (.ref o1)] [(.ref o1), (.ref o0)])) rfl (by rw [hml]; rfl) (argsL := [(.ref o1)]) (rest := [(.ref o0)]) (lenOf pd_0 rfl) rfl (by show 2 * 0 + _ ≤ _; exact Nat.le_of_eq rfl) (hb hby d4_26) (fun _ _ => ⟨rfl, e319, (by decide : 0 + 1 ≤ _), (by decide : 0 + 4 ≤ _)⟩)
  dsimp only [Pt.U, Pt.locs, Pt.cells, Pt.slots] at X326 l326 y326 z326 st326 hQ326
  subst y326 z326
  obtain ⟨b326, g326⟩ : ∃ z, z = h319.size := ⟨_, rfl⟩
  rw [← g326] at hQ326
  obtain ⟨h326, e326⟩ : ∃ z, T326.heap = z := ⟨_, rfl⟩
  rw [e326] at hQ326
  obtain ⟨rfl, Nq326, K326, ka326, B326⟩ := hQ326
  have N326 : Fr n0 L326 := by rw [l326]; exact Fr.app N319 Nq326
  have ne_o0_b326 : o0 ≠ b326 := by rw [g326]; exact Nat.ne_of_lt E_o0_322.lt
  have ne_o1_b326 : o1 ≠ b326 := by rw [g326]; exact Nat.ne_of_lt V1_325.lt
  have Z0_327 : n0 ≤ h326.size := (Nat.le_trans Z0_320 K326.1)
  have K0_328 : Keep h0 h326 [o0] := (K0_321.trans K326 all0)
  have E_o0_329 : Exa Z h326 o0 "com/example/sidestep/sidestep/CompiledPattern" := (E_o0_322.keep K326)
  have F_units_330 : Fld Z h326 o0 "com/example/sidestep/sidestep/CompiledPattern" "units" "[I" (.ref o1) := (F_units_323.keep K326 nin0)
  have F_prefixTable_331 : Fld Z h326 o0 "com/example/sidestep/sidestep/CompiledPattern" "prefixTable" "[I" .null := (F_prefixTable_324.keep K326 nin0)
  have V1_332 : Arv Z h326 o1 ku .int (Int32.ofNat N) [(.int u0), (.int u1), (.int u2), (.int u3)] (.int (0 : Int32)) := (V1_325.keep K326 nin0)
  refine Got.step st326 ?_
  show Got p e below s _ _ _ _ T326 (mkF m 29 #[.val (.ref o0), .val (.ref o1)] [(.ref b326), (.ref o0)])
  obtain ⟨T333, h333, X333, e333, W333, st333⟩ := putF X326 hx hZ hown (host := "") (Or.inl (hw _ (List.mem_of_getElem? (i := 27) rfl))) Via.refl e326 F_prefixTable_331 E_o0_329 (Or.inr ⟨(hw _ (List.mem_of_getElem? (i := 28) rfl)), rfl, hnm⟩) (hw _ (List.mem_of_getElem? (i := 14) rfl)) (ty := (.array .int)) (by decide) rfl rfl (g := (mkF m 29 #[.val (.ref o0), .val (.ref o1)] [(.ref b326), (.ref o0)])) rfl rfl (hb hby d4_29)
  have Z0_334 : n0 ≤ h333.size := (Nat.le_trans Z0_327 (Keep.of_wr W333).1)
  have K0_335 : Keep h0 h333 [o0] := (K0_328.wr W333 (Or.inl (List.mem_of_getElem? (i := 0) rfl)))
  have E_o0_336 : Exa Z h333 o0 "com/example/sidestep/sidestep/CompiledPattern" := (E_o0_329.wr W333)
  have F_units_337 : Fld Z h333 o0 "com/example/sidestep/sidestep/CompiledPattern" "units" "[I" (.ref o1) := (F_units_330.other W333 (Or.inr (slot_ne (Or.inr (hw _ (List.mem_of_getElem? (i := 23) rfl))) (Or.inr (hw _ (List.mem_of_getElem? (i := 28) rfl))) (by decide) (t := (.array .int)) (t' := (.array .int)) (by decide) (by decide))))
  have F_prefixTable_338 : Fld Z h333 o0 "com/example/sidestep/sidestep/CompiledPattern" "prefixTable" "[I" (.ref b326) := (F_prefixTable_331.same W333)
  have V1_339 : Arv Z h333 o1 ku .int (Int32.ofNat N) [(.int u0), (.int u1), (.int u2), (.int u3)] (.int (0 : Int32)) := (V1_332.other W333 hne)
  have B326_340 : Arv Z h333 b326 ka326 .int (Int32.ofNat N) (own_tb (ptab N u0 u1 u2 u3)) (.int (0 : Int32)) := (B326.other W333 (Ne.symm ne_o0_b326))
  have N333 := Fr.snoc X333 N326 gn_o0
  refine Got.step st333 ?_
  show Got p e below s _ _ _ _ T333 (mkF m 32 #[.val (.ref o0), .val (.ref o1)] [])
  exact Got.retV X333 hx Bd.returns hlk (hb hby d4_32) ⟨N333, by rw [e333]; exact K0_335, by rw [e333]; exact E_o0_336, by rw [e333]; exact F_units_337, b326, ka326, by rw [e333]; exact F_prefixTable_338, by rw [e333]; exact B326_340⟩ (by decide) (by decide)
theorem own_c0 {N mn : Nat} (hN : 1 ≤ N ∧ N ≤ 4) (hmn : mn ≤ N) (hc : (Int32.ofNat mn) = (Int32.ofNat N)) : mn = N := own_inj (by omega) (by omega) hc
theorem own_c1 {N : Nat} {x : Int32} (hN : 1 ≤ N ∧ N ≤ 4) (hc : x = (Int32.ofNat N)) : ¬ (x - (1 : Int32)) < 0 ∧ (x - (1 : Int32)) < (Int32.ofNat N) := by
  rw [hc]
  have e := own_sb (n := N) (k := 1) (by omega) (by omega)
  rw [show (1 : Int32) = Int32.ofNat 1 from rfl, e]
  exact own_bd (by omega) (by omega)
theorem own_rt {N : Nat} {x : Int32} {tb : List Nat} (hN : 1 ≤ N ∧ N ≤ 4) (hc : x = (Int32.ofNat N)) : (own_tb tb).getD (x - (1 : Int32)).toNatClampNeg (.int (0 : Int32)) = .int (Int32.ofNat (tb.getD (N - 1) 0)) := by
  rw [hc]
  have e := own_sb (n := N) (k := 1) (by omega) (by omega)
  rw [show (1 : Int32) = Int32.ofNat 1 from rfl, e]
  exact own_gt tb (by omega)

theorem own_sel {s : State} {args : Array Value} (h1 : (Jvm.Cond.selects "com/example/sidestep/sidestep/CompiledPattern" (⟨"com/example/sidestep/sidestep/CompiledPattern", "advance", "(II)I"⟩ : MethodName) (⟨"com/example/sidestep/sidestep/CompiledPattern", "advance", "(II)I"⟩ : MethodName)).before args s = true) (hp : s.PrivateAt (⟨"com/example/sidestep/sidestep/CompiledPattern", "carried", "(I)I"⟩ : MethodName)) (hi : (Jvm.Cond.instanceMethod (⟨"com/example/sidestep/sidestep/CompiledPattern", "carried", "(I)I"⟩ : MethodName)).before #[] s = true) {args' : Array Value} : (Jvm.Cond.selects ((⟨"com/example/sidestep/sidestep/CompiledPattern", "carried", "(I)I"⟩ : MethodName) : MethodName).cls (⟨"com/example/sidestep/sidestep/CompiledPattern", "carried", "(I)I"⟩ : MethodName) (⟨"com/example/sidestep/sidestep/CompiledPattern", "carried", "(I)I"⟩ : MethodName)).before args' s = true := by
  obtain ⟨c, r, m, e1, e2, e3, e4, mk, e5, e6⟩ := Cond.selects_spec h1
  have e7 := (findClass_of_methodNamed e3).symm.trans e1
  cases e7
  have hi' : (Jvm.Cond.instanceMethod (⟨"com/example/sidestep/sidestep/CompiledPattern", "carried", "(I)I"⟩ : MethodName)).before args' s = true := by
    simp only [Cond.before, Cond.holds, Cond.value] at hi ⊢; exact hi
  exact selects_self_of_private e1 e5 e6 hp hi' (by decide)
def f8 (N : Nat) (tb : List Nat) (mn : Nat)  : Int32 := (if (Int32.ofNat mn) = (Int32.ofNat N) then (Int32.ofNat (tb.getD (N - 1) 0)) else (Int32.ofNat mn))
theorem ef_8 (m : MethodId) (x0 : Addr) (x1 : Int32) : entryFrame m #[(.ref x0), (.int x1)] 2 = mkF m 0 #[.val (.ref x0), .val (.int x1)] [] := by first | (simp [entryFrame, mkF, argsToLocals, Value.category]; done) | rfl
theorem d8_0 : decode prog_4_method_9_code 0 = .ok (.iload_n 1, 1) := by decide +kernel
theorem d8_1 : decode prog_4_method_9_code 1 = .ok (.aload_n 0, 1) := by decide +kernel
theorem d8_2 : decode prog_4_method_9_code 2 = .ok (.getfield 14, 3) := by decide +kernel
theorem d8_5 : decode prog_4_method_9_code 5 = .ok (.arraylength, 1) := by decide +kernel
theorem d8_6 : decode prog_4_method_9_code 6 = .ok (.if_icmp .ne 14, 3) := by decide +kernel
theorem d8_9 : decode prog_4_method_9_code 9 = .ok (.aload_n 0, 1) := by decide +kernel
theorem d8_10 : decode prog_4_method_9_code 10 = .ok (.getfield 24, 3) := by decide +kernel
theorem d8_13 : decode prog_4_method_9_code 13 = .ok (.iload_n 1, 1) := by decide +kernel
theorem d8_14 : decode prog_4_method_9_code 14 = .ok (.iconst 1, 1) := by decide +kernel
theorem d8_15 : decode prog_4_method_9_code 15 = .ok (.isub, 1) := by decide +kernel
theorem d8_16 : decode prog_4_method_9_code 16 = .ok (.iaload, 1) := by decide +kernel
theorem d8_17 : decode prog_4_method_9_code 17 = .ok (.goto 4, 3) := by decide +kernel
theorem d8_20 : decode prog_4_method_9_code 20 = .ok (.iload_n 1, 1) := by decide +kernel
theorem d8_21 : decode prog_4_method_9_code 21 = .ok (.ireturn, 1) := by decide +kernel
set_option maxRecDepth 65536 in
set_option maxHeartbeats 40000000 in
theorem rm8 (l : Launch) (Z : State) (a0 : Array Value) (hw : ∀ d ∈ tables_1, d.before a0 Z = true) (ws : List Jvm.Cond) (o0 : Addr) (mn : Nat) (u0 u1 u2 u3 : Int32) (ku : ClassId) (N : Nat) (o1 ot : Addr) (tb : List Nat) (kt : ClassId) (h0 : Heap) (n0 : Nat) (Z0 : n0 ≤ h0.size) (E_o0 : Exa Z h0 o0 "com/example/sidestep/sidestep/CompiledPattern") (F_units : Fld Z h0 o0 "com/example/sidestep/sidestep/CompiledPattern" "units" "[I" (.ref o1)) (F_prefixTable : Fld Z h0 o0 "com/example/sidestep/sidestep/CompiledPattern" "prefixTable" "[I" (.ref ot)) (V1 : Arv Z h0 o1 ku .int (Int32.ofNat N) [(.int u0), (.int u1), (.int u2), (.int u3)] (.int (0 : Int32))) (Vt : Arv Z h0 ot kt .int (Int32.ofNat N) (own_tb tb) (.int (0 : Int32))) (hN : 1 ≤ N ∧ N ≤ 4) (htb : ∀ j, j < N → tb.getD j 0 ≤ j) (hmn : mn ≤ N) :
    MetFree l (⟨"com/example/sidestep/sidestep/CompiledPattern", "carried", "(I)I"⟩ : MethodName) (head1 (Jvm.Cond.code (⟨"com/example/sidestep/sidestep/CompiledPattern", "carried", "(I)I"⟩ : MethodName) prog_4_method_9_code 2 (some .int) :: ws) ({ frames := 0, cells := 0, slots := 0, locals := 0 } : Room)) (fun a U => a = #[(.ref o0), (.int (Int32.ofNat mn))] ∧ Z.Warmed39 U.vm ∧ U.heap = h0) (fun _ _ _ _ _ => True) (fun _ U o U' => ∃ v L, o = .returned v ∧ QV (some (.int (f8 N tb mn))) (PureP n0 h0) v U'.heap L ∧ FrameEnd U o U' L ({ frames := 0, cells := 0, slots := 0, locals := 0 } : Room).cells ({ frames := 0, cells := 0, slots := 0, locals := 0 } : Room).slots) := by
  refine MetFree.of_bodySF (plainFor_of_name pn_1) hisR ?_
  intro p e s m args below meth c s₁ Bd hml0 hP hK
  obtain ⟨rfl, hZ, hh⟩ := hP
  have hx := Bd.exec
  have hby := Bd.bytes
  have hml : c.maxLocals = 2 := hml0
  have hown : s.vm.findClass "com/example/sidestep/sidestep/CompiledPattern" = some m.cls := findClass_of_methodNamed Bd.named
  have hnm := (name_of_methodNamed Bd.named Bd.method).1
  have hlk : meth.locks = false := BodyLoose.notSynchronized Bd
  have X0 : Stand p l e ({ frames := 0, cells := 0, slots := 0, locals := 0 } : Room) s m #[(.ref o0), (.int (Int32.ofNat mn))] below meth c s₁ [] 0 0 := Stand.of_body Bd
  have e0 : s₁.heap = h0 := by rw [← hh, Bd.state]; rfl
  have N0 := Fr.nil n0
  refine Got.body (ef_8 m o0 (Int32.ofNat mn)) ?_
  refine Got.step (T' := s₁) (g' := (mkF m 2 #[.val (.ref o0), .val (.int (Int32.ofNat mn))] [(.ref o0), (.int (Int32.ofNat mn))])) (fun tq kt => ?_) ?_
  · show Steps p.tables e below (s₁.setTop (mkF m 0 #[.val (.ref o0), .val (.int (Int32.ofNat mn))] [])) _
    refine XS.iloadN X0.here hx rfl (hb hby d8_0) rfl ?_
    show Steps p.tables e below (s₁.setTop (mkF m 1 #[.val (.ref o0), .val (.int (Int32.ofNat mn))] [(.int (Int32.ofNat mn))])) _
    refine XS.aloadN X0.here hx rfl (hb hby d8_1) rfl rfl ?_
    exact kt
  obtain ⟨T341, X341, e341, st341⟩ := getF X0 hx hZ hown (host := "") (Or.inl (hw _ (List.mem_of_getElem? (i := 22) rfl))) Via.refl e0 F_units (g := (mkF m 2 #[.val (.ref o0), .val (.int (Int32.ofNat mn))] [(.ref o0), (.int (Int32.ofNat mn))])) rfl rfl (hb hby d8_2)
  refine Got.step st341 ?_
  show Got p e below s _ _ _ _ T341 (mkF m 5 #[.val (.ref o0), .val (.int (Int32.ofNat mn))] [(.ref o1), (.int (Int32.ofNat mn))])
  obtain ⟨cl342, Ar342, q342, S342, M342, H342, G342⟩ := (id V1)
  refine Got.step (T' := T341) (fun tq kt => X341.arraylength hx (cell := cl342) (by rw [e341]; exact Ar342.1) (State.isArrayOf_alike hZ.alike Ar342.2.1) (g := (mkF m 5 #[.val (.ref o0), .val (.int (Int32.ofNat mn))] [(.ref o1), (.int (Int32.ofNat mn))])) rfl (rest := [(.int (Int32.ofNat mn))]) rfl (hb hby d8_5) tq kt) ?_
  rw [len_of S342 M342]
  show Got p e below s _ _ _ _ T341 (mkF m 6 #[.val (.ref o0), .val (.int (Int32.ofNat mn))] [(.int (Int32.ofNat N)), (.int (Int32.ofNat mn))])
  refine Got.ite (q := ((Int32.ofNat mn) = (Int32.ofNat N))) (fun hc343 => ?_) (fun hc343 => ?_)
  · refine Got.step (T' := T341) (g' := (mkF m 10 #[.val (.ref o0), .val (.int (Int32.ofNat mn))] [(.ref o0)])) (fun tq kt => ?_) ?_
    · show Steps p.tables e below (T341.setTop (mkF m 6 #[.val (.ref o0), .val (.int (Int32.ofNat mn))] [(.int (Int32.ofNat N)), (.int (Int32.ofNat mn))])) _
      refine XS.icmpNo X341.here hx rfl (hb hby d8_6) rfl (XT.ii_ne_f hc343) ?_
      show Steps p.tables e below (T341.setTop (mkF m 9 #[.val (.ref o0), .val (.int (Int32.ofNat mn))] [])) _
      refine XS.aloadN X341.here hx rfl (hb hby d8_9) rfl rfl ?_
      exact kt
    obtain ⟨T344, X344, e344, st344⟩ := getF X341 hx hZ hown (host := "") (Or.inl (hw _ (List.mem_of_getElem? (i := 27) rfl))) Via.refl e341 F_prefixTable (g := (mkF m 10 #[.val (.ref o0), .val (.int (Int32.ofNat mn))] [(.ref o0)])) rfl rfl (hb hby d8_10)
    refine Got.step st344 ?_
    show Got p e below s _ _ _ _ T344 (mkF m 13 #[.val (.ref o0), .val (.int (Int32.ofNat mn))] [(.ref ot)])
    refine Got.step (T' := T344) (g' := (mkF m 16 #[.val (.ref o0), .val (.int (Int32.ofNat mn))] [(.int ((Int32.ofNat mn) - (1 : Int32))), (.ref ot)])) (fun tq kt => ?_) ?_
    · show Steps p.tables e below (T344.setTop (mkF m 13 #[.val (.ref o0), .val (.int (Int32.ofNat mn))] [(.ref ot)])) _
      refine XS.iloadN X344.here hx rfl (hb hby d8_13) rfl ?_
      show Steps p.tables e below (T344.setTop (mkF m 14 #[.val (.ref o0), .val (.int (Int32.ofNat mn))] [(.int (Int32.ofNat mn)), (.ref ot)])) _
      refine XS.iconst X344.here hx rfl (hb hby d8_14) ?_
      show Steps p.tables e below (T344.setTop (mkF m 15 #[.val (.ref o0), .val (.int (Int32.ofNat mn))] [(.int (1 : Int32)), (.int (Int32.ofNat mn)), (.ref ot)])) _
      refine XS.isub X344.here hx rfl (hb hby d8_15) rfl ?_
      exact kt
    obtain ⟨cl345, Ar345, q345, S345, M345, H345, G345⟩ := (id Vt)
    have hin345 : ¬ (((Int32.ofNat mn) - (1 : Int32)) < 0 ∨ cl345.slots.size ≤ (((Int32.ofNat mn) - (1 : Int32))).toNatClampNeg) := inb_of S345 (own_c1 hN hc343)
    refine Got.step (T' := T344) (fun tq kt => X344.iaload hx (j := ((Int32.ofNat mn) - (1 : Int32))) (v := (.int (Int32.ofNat (tb.getD (N - 1) 0)))) (by rw [e344]; exact Ar345.1) (State.isArrayOf_alike hZ.alike Ar345.2.1) Ar345.2.2 hin345 (H345.at hin345 (own_rt hN hc343)) (g := (mkF m 16 #[.val (.ref o0), .val (.int (Int32.ofNat mn))] [(.int ((Int32.ofNat mn) - (1 : Int32))), (.ref ot)])) rfl rfl (hb hby d8_16) tq kt) ?_
    show Got p e below s _ _ _ _ T344 (mkF m 17 #[.val (.ref o0), .val (.int (Int32.ofNat mn))] [(.int (Int32.ofNat (tb.getD (N - 1) 0)))])
    refine Got.step (T' := T344) (g' := (mkF m 21 #[.val (.ref o0), .val (.int (Int32.ofNat mn))] [(.int (Int32.ofNat (tb.getD (N - 1) 0)))])) (fun tq kt => ?_) ?_
    · show Steps p.tables e below (T344.setTop (mkF m 17 #[.val (.ref o0), .val (.int (Int32.ofNat mn))] [(.int (Int32.ofNat (tb.getD (N - 1) 0)))])) _
      refine XS.goto X344.here hx rfl (pc0 := 17) (pc' := 21) rfl (hb hby d8_17) (by decide) (by decide) ?_
      exact kt
    exact Got.retI (y := (Int32.ofNat (tb.getD (N - 1) 0))) X344 hx Bd.returns hlk (hb hby d8_21) rfl ⟨N0, e344⟩ (by decide) (by decide)
  · refine Got.step (T' := T341) (g' := (mkF m 21 #[.val (.ref o0), .val (.int (Int32.ofNat mn))] [(.int (Int32.ofNat mn))])) (fun tq kt => ?_) ?_
    · show Steps p.tables e below (T341.setTop (mkF m 6 #[.val (.ref o0), .val (.int (Int32.ofNat mn))] [(.int (Int32.ofNat N)), (.int (Int32.ofNat mn))])) _
      refine XS.icmpYes X341.here hx rfl (pc0 := 6) (pc' := 20) rfl (hb hby d8_6) rfl (XT.ii_ne_t hc343) (by decide) (by decide) ?_
      show Steps p.tables e below (T341.setTop (mkF m 20 #[.val (.ref o0), .val (.int (Int32.ofNat mn))] [])) _
      refine XS.iloadN X341.here hx rfl (hb hby d8_20) rfl ?_
      exact kt
    exact Got.retI (y := (Int32.ofNat mn)) X341 hx Bd.returns hlk (hb hby d8_21) rfl ⟨N0, e341⟩ (by decide) (by decide)
def cr (N : Nat) (tb : List Nat) (mn : Nat) : Nat := if mn = N then tb.getD (N - 1) 0 else mn
def adv (us : List Int32) (tb : List Nat) (c : Int32) : Nat → Nat → Int32
  | 0, k => if us.getD k 0 = c then (Int32.ofNat k) + (1 : Int32) else (0 : Int32)
  | f + 1, k => if k = 0 then (if us.getD k 0 = c then (Int32.ofNat k) + (1 : Int32) else (0 : Int32)) else (if us.getD k 0 = c then (Int32.ofNat k) + (1 : Int32) else adv us tb c f (tb.getD (k - 1) 0))
theorem own_cr {N mn : Nat} {tb : List Nat} (hN : 1 ≤ N ∧ N ≤ 4) (hmn : mn ≤ N) : f8 N tb mn = Int32.ofNat (cr N tb mn) := by
  unfold f8 cr
  by_cases h : mn = N
  · rw [if_pos h, if_pos (by rw [h])]
  · rw [if_neg h, if_neg (fun q => h (own_c0 hN hmn q))]
theorem own_crlt {N mn : Nat} {tb : List Nat} (hN : 1 ≤ N ∧ N ≤ 4) (hb : ∀ j, j < N → tb.getD j 0 ≤ j) (hmn : mn ≤ N) : cr N tb mn < N := by
  unfold cr
  have := hb (N - 1) (by omega)
  split <;> omega
theorem own_ik {N k : Nat} (hN : 1 ≤ N ∧ N ≤ 4) (hk : k < N) : ¬ (Int32.ofNat k) < 0 ∧ (Int32.ofNat k) < (Int32.ofNat N) := own_bd hk (by omega)
theorem own_ru {u0 u1 u2 u3 : Int32} {k : Nat} (h : k < 4) : [(Value.int u0), (.int u1), (.int u2), (.int u3)].getD (Int32.ofNat k).toNatClampNeg (.int (0 : Int32)) = .int ([u0, u1, u2, u3].getD k 0) := own_gi [u0, u1, u2, u3] (by omega)
theorem own_ik1 {N k : Nat} (hN : 1 ≤ N ∧ N ≤ 4) (hk : k < N) (hk0 : ¬ k = 0) : ¬ ((Int32.ofNat k) - (1 : Int32)) < 0 ∧ ((Int32.ofNat k) - (1 : Int32)) < (Int32.ofNat N) := by
  have e := own_sb (n := k) (k := 1) (by omega) (by omega)
  rw [show (1 : Int32) = Int32.ofNat 1 from rfl, e]
  exact own_bd (by omega) (by omega)
theorem own_rk {N k : Nat} {tb : List Nat} (hN : 1 ≤ N ∧ N ≤ 4) (hk : k < N) (hk0 : ¬ k = 0) : (own_tb tb).getD ((Int32.ofNat k) - (1 : Int32)).toNatClampNeg (.int (0 : Int32)) = .int (Int32.ofNat (tb.getD (k - 1) 0)) := by
  have e := own_sb (n := k) (k := 1) (by omega) (by omega)
  rw [show (1 : Int32) = Int32.ofNat 1 from rfl, e]
  exact own_gt tb (by omega)
theorem own_k0 {k : Nat} (hk0 : k = 0) : ¬ 0 < (Int32.ofNat k) := by rw [hk0]; decide
theorem own_k1 {N k : Nat} (hN : 1 ≤ N ∧ N ≤ 4) (hk : k < N) (hk0 : ¬ k = 0) : 0 < (Int32.ofNat k) := by
  have z : (0 : Int32).toInt = 0 := rfl
  rw [Int32.lt_iff_toInt_lt, z, own_i (by omega)]; omega
theorem own_adv0 {us : List Int32} {tb : List Nat} {c : Int32} {f k : Nat} (hk0 : k = 0) : adv us tb c (f + 1) k = (if us.getD k 0 = c then (Int32.ofNat k) + (1 : Int32) else (0 : Int32)) := by rw [adv, if_pos hk0]
theorem own_adv1 {us : List Int32} {tb : List Nat} {c : Int32} {f k : Nat} (hk0 : ¬ k = 0) : adv us tb c (f + 1) k = (if us.getD k 0 = c then (Int32.ofNat k) + (1 : Int32) else adv us tb c f (tb.getD (k - 1) 0)) := by rw [adv, if_neg hk0]
theorem own_tk {N k fu : Nat} {tb : List Nat} (hN : 1 ≤ N ∧ N ≤ 4) (hb : ∀ j, j < N → tb.getD j 0 ≤ j) (hk : k < N) (hk0 : ¬ k = 0) (hkf : k ≤ fu + 1) : tb.getD (k - 1) 0 ≤ fu := by
  have := hb (k - 1) (by omega)
  omega
theorem own_tl {N k : Nat} {tb : List Nat} (hN : 1 ≤ N ∧ N ≤ 4) (hb : ∀ j, j < N → tb.getD j 0 ≤ j) (hk : k < N) (hk0 : ¬ k = 0) : tb.getD (k - 1) 0 < N := by
  have := hb (k - 1) (by omega)
  omega
theorem own_e0 {k N : Nat} (hNk : k ≤ N ∧ N ≤ 4) (h : 0 < k) : ¬ (0 : Int32) < 0 ∧ (0 : Int32) < (Int32.ofNat N) := own_bd (n := 0) (by omega) (by omega)
theorem own_e1 {k N : Nat} (hNk : k ≤ N ∧ N ≤ 4) (h : 1 < k) : ¬ (1 : Int32) < 0 ∧ (1 : Int32) < (Int32.ofNat N) := own_bd (n := 1) (by omega) (by omega)
theorem own_e2 {k N : Nat} (hNk : k ≤ N ∧ N ≤ 4) (h : 2 < k) : ¬ (2 : Int32) < 0 ∧ (2 : Int32) < (Int32.ofNat N) := own_bd (n := 2) (by omega) (by omega)
theorem own_e3 {k N : Nat} (hNk : k ≤ N ∧ N ≤ 4) (h : 3 < k) : ¬ (3 : Int32) < 0 ∧ (3 : Int32) < (Int32.ofNat N) := own_bd (n := 3) (by omega) (by omega)
theorem own_x1_0 {q : Nat} (hq : 1 ≤ q ∧ q ≤ 5) : ((Int32.ofNat q) - (1 : Int32)) = Int32.ofNat (q - 1) := by
  have e := own_sb (n := q) (k := 1) (by omega) (by omega)
  rw [show (1 : Int32) = Int32.ofNat 1 from rfl, e]
theorem own_s1_0 {q : Nat} (hq : 1 ≤ q ∧ q ≤ 5) : ¬ ((Int32.ofNat q) - (1 : Int32)) < 0 ∧ ((Int32.ofNat q) - (1 : Int32)) < (5 : Int32) := by rw [own_x1_0 hq]; exact own_bd (m := 5) (by omega) (by omega)
theorem own_r1_0 {q : Nat} {ss : List Int32} (hq : 1 ≤ q ∧ q ≤ 5) : (ss.map Value.int).getD (((Int32.ofNat q) - (1 : Int32))).toNatClampNeg (.int (0 : Int32)) = .int (ss.getD (q - 1) 0) := by rw [own_x1_0 hq]; exact own_gi ss (by omega)
theorem own_x2_0 {q : Nat} (hq : 2 ≤ q ∧ q ≤ 5) : ((Int32.ofNat q) - (2 : Int32)) = Int32.ofNat (q - 2) := by
  have e := own_sb (n := q) (k := 2) (by omega) (by omega)
  rw [show (2 : Int32) = Int32.ofNat 2 from rfl, e]
theorem own_s2_0 {q : Nat} (hq : 2 ≤ q ∧ q ≤ 5) : ¬ ((Int32.ofNat q) - (2 : Int32)) < 0 ∧ ((Int32.ofNat q) - (2 : Int32)) < (5 : Int32) := by rw [own_x2_0 hq]; exact own_bd (m := 5) (by omega) (by omega)
theorem own_r2_0 {q : Nat} {ss : List Int32} (hq : 2 ≤ q ∧ q ≤ 5) : (ss.map Value.int).getD (((Int32.ofNat q) - (2 : Int32))).toNatClampNeg (.int (0 : Int32)) = .int (ss.getD (q - 2) 0) := by rw [own_x2_0 hq]; exact own_gi ss (by omega)
theorem own_x2_1 {q : Nat} (hq : 2 ≤ q ∧ q ≤ 5) : (((Int32.ofNat q) - (2 : Int32)) + (1 : Int32)) = Int32.ofNat (q - 2 + 1) := by
  have e := own_sb (n := q) (k := 2) (by omega) (by omega)
  rw [show (2 : Int32) = Int32.ofNat 2 from rfl, e]
  exact (Int32.ofNat_add (q - 2) 1).symm
theorem own_s2_1 {q : Nat} (hq : 2 ≤ q ∧ q ≤ 5) : ¬ (((Int32.ofNat q) - (2 : Int32)) + (1 : Int32)) < 0 ∧ (((Int32.ofNat q) - (2 : Int32)) + (1 : Int32)) < (5 : Int32) := by rw [own_x2_1 hq]; exact own_bd (m := 5) (by omega) (by omega)
theorem own_r2_1 {q : Nat} {ss : List Int32} (hq : 2 ≤ q ∧ q ≤ 5) : (ss.map Value.int).getD ((((Int32.ofNat q) - (2 : Int32)) + (1 : Int32))).toNatClampNeg (.int (0 : Int32)) = .int (ss.getD (q - 2 + 1) 0) := by rw [own_x2_1 hq]; exact own_gi ss (by omega)
theorem own_x3_0 {q : Nat} (hq : 3 ≤ q ∧ q ≤ 5) : ((Int32.ofNat q) - (3 : Int32)) = Int32.ofNat (q - 3) := by
  have e := own_sb (n := q) (k := 3) (by omega) (by omega)
  rw [show (3 : Int32) = Int32.ofNat 3 from rfl, e]
theorem own_s3_0 {q : Nat} (hq : 3 ≤ q ∧ q ≤ 5) : ¬ ((Int32.ofNat q) - (3 : Int32)) < 0 ∧ ((Int32.ofNat q) - (3 : Int32)) < (5 : Int32) := by rw [own_x3_0 hq]; exact own_bd (m := 5) (by omega) (by omega)
theorem own_r3_0 {q : Nat} {ss : List Int32} (hq : 3 ≤ q ∧ q ≤ 5) : (ss.map Value.int).getD (((Int32.ofNat q) - (3 : Int32))).toNatClampNeg (.int (0 : Int32)) = .int (ss.getD (q - 3) 0) := by rw [own_x3_0 hq]; exact own_gi ss (by omega)
theorem own_x3_1 {q : Nat} (hq : 3 ≤ q ∧ q ≤ 5) : (((Int32.ofNat q) - (3 : Int32)) + (1 : Int32)) = Int32.ofNat (q - 3 + 1) := by
  have e := own_sb (n := q) (k := 3) (by omega) (by omega)
  rw [show (3 : Int32) = Int32.ofNat 3 from rfl, e]
  exact (Int32.ofNat_add (q - 3) 1).symm
theorem own_s3_1 {q : Nat} (hq : 3 ≤ q ∧ q ≤ 5) : ¬ (((Int32.ofNat q) - (3 : Int32)) + (1 : Int32)) < 0 ∧ (((Int32.ofNat q) - (3 : Int32)) + (1 : Int32)) < (5 : Int32) := by rw [own_x3_1 hq]; exact own_bd (m := 5) (by omega) (by omega)
theorem own_r3_1 {q : Nat} {ss : List Int32} (hq : 3 ≤ q ∧ q ≤ 5) : (ss.map Value.int).getD ((((Int32.ofNat q) - (3 : Int32)) + (1 : Int32))).toNatClampNeg (.int (0 : Int32)) = .int (ss.getD (q - 3 + 1) 0) := by rw [own_x3_1 hq]; exact own_gi ss (by omega)
theorem own_x3_2 {q : Nat} (hq : 3 ≤ q ∧ q ≤ 5) : (((Int32.ofNat q) - (3 : Int32)) + (2 : Int32)) = Int32.ofNat (q - 3 + 2) := by
  have e := own_sb (n := q) (k := 3) (by omega) (by omega)
  rw [show (3 : Int32) = Int32.ofNat 3 from rfl, e]
  exact (Int32.ofNat_add (q - 3) 2).symm
theorem own_s3_2 {q : Nat} (hq : 3 ≤ q ∧ q ≤ 5) : ¬ (((Int32.ofNat q) - (3 : Int32)) + (2 : Int32)) < 0 ∧ (((Int32.ofNat q) - (3 : Int32)) + (2 : Int32)) < (5 : Int32) := by rw [own_x3_2 hq]; exact own_bd (m := 5) (by omega) (by omega)
theorem own_r3_2 {q : Nat} {ss : List Int32} (hq : 3 ≤ q ∧ q ≤ 5) : (ss.map Value.int).getD ((((Int32.ofNat q) - (3 : Int32)) + (2 : Int32))).toNatClampNeg (.int (0 : Int32)) = .int (ss.getD (q - 3 + 2) 0) := by rw [own_x3_2 hq]; exact own_gi ss (by omega)
theorem own_x4_0 {q : Nat} (hq : 4 ≤ q ∧ q ≤ 5) : ((Int32.ofNat q) - (4 : Int32)) = Int32.ofNat (q - 4) := by
  have e := own_sb (n := q) (k := 4) (by omega) (by omega)
  rw [show (4 : Int32) = Int32.ofNat 4 from rfl, e]
theorem own_s4_0 {q : Nat} (hq : 4 ≤ q ∧ q ≤ 5) : ¬ ((Int32.ofNat q) - (4 : Int32)) < 0 ∧ ((Int32.ofNat q) - (4 : Int32)) < (5 : Int32) := by rw [own_x4_0 hq]; exact own_bd (m := 5) (by omega) (by omega)
theorem own_r4_0 {q : Nat} {ss : List Int32} (hq : 4 ≤ q ∧ q ≤ 5) : (ss.map Value.int).getD (((Int32.ofNat q) - (4 : Int32))).toNatClampNeg (.int (0 : Int32)) = .int (ss.getD (q - 4) 0) := by rw [own_x4_0 hq]; exact own_gi ss (by omega)
theorem own_x4_1 {q : Nat} (hq : 4 ≤ q ∧ q ≤ 5) : (((Int32.ofNat q) - (4 : Int32)) + (1 : Int32)) = Int32.ofNat (q - 4 + 1) := by
  have e := own_sb (n := q) (k := 4) (by omega) (by omega)
  rw [show (4 : Int32) = Int32.ofNat 4 from rfl, e]
  exact (Int32.ofNat_add (q - 4) 1).symm
theorem own_s4_1 {q : Nat} (hq : 4 ≤ q ∧ q ≤ 5) : ¬ (((Int32.ofNat q) - (4 : Int32)) + (1 : Int32)) < 0 ∧ (((Int32.ofNat q) - (4 : Int32)) + (1 : Int32)) < (5 : Int32) := by rw [own_x4_1 hq]; exact own_bd (m := 5) (by omega) (by omega)
theorem own_r4_1 {q : Nat} {ss : List Int32} (hq : 4 ≤ q ∧ q ≤ 5) : (ss.map Value.int).getD ((((Int32.ofNat q) - (4 : Int32)) + (1 : Int32))).toNatClampNeg (.int (0 : Int32)) = .int (ss.getD (q - 4 + 1) 0) := by rw [own_x4_1 hq]; exact own_gi ss (by omega)
theorem own_x4_2 {q : Nat} (hq : 4 ≤ q ∧ q ≤ 5) : (((Int32.ofNat q) - (4 : Int32)) + (2 : Int32)) = Int32.ofNat (q - 4 + 2) := by
  have e := own_sb (n := q) (k := 4) (by omega) (by omega)
  rw [show (4 : Int32) = Int32.ofNat 4 from rfl, e]
  exact (Int32.ofNat_add (q - 4) 2).symm
theorem own_s4_2 {q : Nat} (hq : 4 ≤ q ∧ q ≤ 5) : ¬ (((Int32.ofNat q) - (4 : Int32)) + (2 : Int32)) < 0 ∧ (((Int32.ofNat q) - (4 : Int32)) + (2 : Int32)) < (5 : Int32) := by rw [own_x4_2 hq]; exact own_bd (m := 5) (by omega) (by omega)
theorem own_r4_2 {q : Nat} {ss : List Int32} (hq : 4 ≤ q ∧ q ≤ 5) : (ss.map Value.int).getD ((((Int32.ofNat q) - (4 : Int32)) + (2 : Int32))).toNatClampNeg (.int (0 : Int32)) = .int (ss.getD (q - 4 + 2) 0) := by rw [own_x4_2 hq]; exact own_gi ss (by omega)
theorem own_x4_3 {q : Nat} (hq : 4 ≤ q ∧ q ≤ 5) : (((Int32.ofNat q) - (4 : Int32)) + (3 : Int32)) = Int32.ofNat (q - 4 + 3) := by
  have e := own_sb (n := q) (k := 4) (by omega) (by omega)
  rw [show (4 : Int32) = Int32.ofNat 4 from rfl, e]
  exact (Int32.ofNat_add (q - 4) 3).symm
theorem own_s4_3 {q : Nat} (hq : 4 ≤ q ∧ q ≤ 5) : ¬ (((Int32.ofNat q) - (4 : Int32)) + (3 : Int32)) < 0 ∧ (((Int32.ofNat q) - (4 : Int32)) + (3 : Int32)) < (5 : Int32) := by rw [own_x4_3 hq]; exact own_bd (m := 5) (by omega) (by omega)
theorem own_r4_3 {q : Nat} {ss : List Int32} (hq : 4 ≤ q ∧ q ≤ 5) : (ss.map Value.int).getD ((((Int32.ofNat q) - (4 : Int32)) + (3 : Int32))).toNatClampNeg (.int (0 : Int32)) = .int (ss.getD (q - 4 + 3) 0) := by rw [own_x4_3 hq]; exact own_gi ss (by omega)
theorem own_pb {N : Nat} {u0 u1 u2 u3 : Int32} (hN : 1 ≤ N ∧ N ≤ 4) : ∀ j, j < N → (ptab N u0 u1 u2 u3).getD j 0 ≤ j := by
  have h4 : ∀ j, j < 4 → (ptab N u0 u1 u2 u3).getD j 0 ≤ j := by
    intro j hj
    match N, hN with
    | 1, _ => simp only [ptab, ptab1]; match j, hj with | 0, _ => decide | 1, _ => decide | 2, _ => decide | 3, _ => decide
    | 2, _ => simp only [ptab, ptab2]; match j, hj with | 0, _ => (repeat' split) <;> decide | 1, _ => (repeat' split) <;> decide | 2, _ => (repeat' split) <;> decide | 3, _ => (repeat' split) <;> decide
    | 3, _ => simp only [ptab, ptab3]; match j, hj with | 0, _ => (repeat' split) <;> decide | 1, _ => (repeat' split) <;> decide | 2, _ => (repeat' split) <;> decide | 3, _ => (repeat' split) <;> decide
    | 4, _ => simp only [ptab, ptab4]; match j, hj with | 0, _ => (repeat' split) <;> decide | 1, _ => (repeat' split) <;> decide | 2, _ => (repeat' split) <;> decide | 3, _ => (repeat' split) <;> decide
  intro j hj
  exact h4 j (by omega)
theorem own_f2 {N mn : Nat} (hN : 1 ≤ N ∧ N ≤ 4) (hmn : mn ≤ N) : f2 (Int32.ofNat (mn + 1)) (Int32.ofNat N) = Int32.ofNat (min (mn + 1) N) := by
  unfold f2
  have e1 := own_i (i := mn + 1) (by omega)
  have e2 := own_i (i := N) (by omega)
  by_cases h : Int32.ofNat N < Int32.ofNat (mn + 1)
  · rw [if_pos h]; rw [Int32.lt_iff_toInt_lt, e1, e2] at h; congr 1; omega
  · rw [if_neg h]; rw [Int32.lt_iff_toInt_lt, e1, e2] at h; congr 1; omega
theorem own_q1 {N mn : Nat} (hN : 1 ≤ N ∧ N ≤ 4) (hmn : mn ≤ N) (hc : ¬ (f2 (Int32.ofNat (mn + 1)) (Int32.ofNat N)) < (1 : Int32)) : (1 ≤ N ∧ N ≤ 4) ∧ (1 ≤ mn + 1 ∧ mn + 1 ≤ 5) := by
  have z : (1 : Int32).toInt = 1 := rfl
  rw [own_f2 hN hmn, Int32.lt_iff_toInt_lt, z, own_i (by omega)] at hc
  omega
theorem own_q2 {N mn : Nat} (hN : 1 ≤ N ∧ N ≤ 4) (hmn : mn ≤ N) (hc : ¬ (f2 (Int32.ofNat (mn + 1)) (Int32.ofNat N)) < (2 : Int32)) : (2 ≤ N ∧ N ≤ 4) ∧ (2 ≤ mn + 1 ∧ mn + 1 ≤ 5) := by
  have z : (2 : Int32).toInt = 2 := rfl
  rw [own_f2 hN hmn, Int32.lt_iff_toInt_lt, z, own_i (by omega)] at hc
  omega
theorem own_q3 {N mn : Nat} (hN : 1 ≤ N ∧ N ≤ 4) (hmn : mn ≤ N) (hc : ¬ (f2 (Int32.ofNat (mn + 1)) (Int32.ofNat N)) < (3 : Int32)) : (3 ≤ N ∧ N ≤ 4) ∧ (3 ≤ mn + 1 ∧ mn + 1 ≤ 5) := by
  have z : (3 : Int32).toInt = 3 := rfl
  rw [own_f2 hN hmn, Int32.lt_iff_toInt_lt, z, own_i (by omega)] at hc
  omega
theorem own_q4 {N mn : Nat} (hN : 1 ≤ N ∧ N ≤ 4) (hmn : mn ≤ N) (hc : ¬ (f2 (Int32.ofNat (mn + 1)) (Int32.ofNat N)) < (4 : Int32)) : (4 ≤ N ∧ N ≤ 4) ∧ (4 ≤ mn + 1 ∧ mn + 1 ≤ 5) := by
  have z : (4 : Int32).toInt = 4 := rfl
  rw [own_f2 hN hmn, Int32.lt_iff_toInt_lt, z, own_i (by omega)] at hc
  omega

theorem pd_1 : parseMethodDescriptor "(I)I" = some ⟨[.int], some .int⟩ := by decide +kernel
theorem ef_7 (m : MethodId) (x0 : Addr) (x1 : Int32) (x2 : Int32) : entryFrame m #[(.ref x0), (.int x1), (.int x2)] 4 = mkF m 0 #[.val (.ref x0), .val (.int x1), .val (.int x2), .unset] [] := by first | (simp [entryFrame, mkF, argsToLocals, Value.category]; done) | rfl
theorem d7_0 : decode prog_4_method_4_code 0 = .ok (.aload_n 0, 1) := by decide +kernel
theorem d7_1 : decode prog_4_method_4_code 1 = .ok (.iload_n 1, 1) := by decide +kernel
theorem d7_2 : decode prog_4_method_4_code 2 = .ok (.invokevirtual 31, 3) := by decide +kernel
theorem d7_5 : decode prog_4_method_4_code 5 = .ok (.istore_n 3, 1) := by decide +kernel
theorem d7_6 : decode prog_4_method_4_code 6 = .ok (.iload_n 3, 1) := by decide +kernel
theorem d7_7 : decode prog_4_method_4_code 7 = .ok (.ifCond .le 25, 3) := by decide +kernel
theorem d7_10 : decode prog_4_method_4_code 10 = .ok (.aload_n 0, 1) := by decide +kernel
theorem d7_11 : decode prog_4_method_4_code 11 = .ok (.getfield 14, 3) := by decide +kernel
theorem d7_14 : decode prog_4_method_4_code 14 = .ok (.iload_n 3, 1) := by decide +kernel
theorem d7_15 : decode prog_4_method_4_code 15 = .ok (.iaload, 1) := by decide +kernel
theorem d7_16 : decode prog_4_method_4_code 16 = .ok (.iload_n 2, 1) := by decide +kernel
theorem d7_17 : decode prog_4_method_4_code 17 = .ok (.if_icmp .eq 15, 3) := by decide +kernel
theorem d7_20 : decode prog_4_method_4_code 20 = .ok (.aload_n 0, 1) := by decide +kernel
theorem d7_21 : decode prog_4_method_4_code 21 = .ok (.getfield 24, 3) := by decide +kernel
theorem d7_24 : decode prog_4_method_4_code 24 = .ok (.iload_n 3, 1) := by decide +kernel
theorem d7_25 : decode prog_4_method_4_code 25 = .ok (.iconst 1, 1) := by decide +kernel
theorem d7_26 : decode prog_4_method_4_code 26 = .ok (.isub, 1) := by decide +kernel
theorem d7_27 : decode prog_4_method_4_code 27 = .ok (.iaload, 1) := by decide +kernel
theorem d7_28 : decode prog_4_method_4_code 28 = .ok (.istore_n 3, 1) := by decide +kernel
theorem d7_29 : decode prog_4_method_4_code 29 = .ok (.goto (-23), 3) := by decide +kernel
theorem d7_32 : decode prog_4_method_4_code 32 = .ok (.aload_n 0, 1) := by decide +kernel
theorem d7_33 : decode prog_4_method_4_code 33 = .ok (.getfield 14, 3) := by decide +kernel
theorem d7_36 : decode prog_4_method_4_code 36 = .ok (.iload_n 3, 1) := by decide +kernel
theorem d7_37 : decode prog_4_method_4_code 37 = .ok (.iaload, 1) := by decide +kernel
theorem d7_38 : decode prog_4_method_4_code 38 = .ok (.iload_n 2, 1) := by decide +kernel
theorem d7_39 : decode prog_4_method_4_code 39 = .ok (.if_icmp .ne 9, 3) := by decide +kernel
theorem d7_42 : decode prog_4_method_4_code 42 = .ok (.iload_n 3, 1) := by decide +kernel
theorem d7_43 : decode prog_4_method_4_code 43 = .ok (.iconst 1, 1) := by decide +kernel
theorem d7_44 : decode prog_4_method_4_code 44 = .ok (.iadd, 1) := by decide +kernel
theorem d7_45 : decode prog_4_method_4_code 45 = .ok (.goto 4, 3) := by decide +kernel
theorem d7_48 : decode prog_4_method_4_code 48 = .ok (.iconst 0, 1) := by decide +kernel
theorem d7_49 : decode prog_4_method_4_code 49 = .ok (.ireturn, 1) := by decide +kernel
set_option maxRecDepth 65536 in
set_option maxHeartbeats 40000000 in
theorem rm7 (l : Launch) (Z : State) (a0 : Array Value) (hw : ∀ d ∈ tables_1, d.before a0 Z = true) (ws : List Jvm.Cond) (o0 : Addr) (mn : Nat) (p2 : Int32) (u0 u1 u2 u3 : Int32) (ku : ClassId) (N : Nat) (o1 ot : Addr) (tb : List Nat) (kt : ClassId) (h0 : Heap) (n0 : Nat) (Z0 : n0 ≤ h0.size) (E_o0 : Exa Z h0 o0 "com/example/sidestep/sidestep/CompiledPattern") (F_units : Fld Z h0 o0 "com/example/sidestep/sidestep/CompiledPattern" "units" "[I" (.ref o1)) (F_prefixTable : Fld Z h0 o0 "com/example/sidestep/sidestep/CompiledPattern" "prefixTable" "[I" (.ref ot)) (V1 : Arv Z h0 o1 ku .int (Int32.ofNat N) [(.int u0), (.int u1), (.int u2), (.int u3)] (.int (0 : Int32))) (Vt : Arv Z h0 ot kt .int (Int32.ofNat N) (own_tb tb) (.int (0 : Int32))) (hN : 1 ≤ N ∧ N ≤ 4) (htb : ∀ j, j < N → tb.getD j 0 ≤ j) (hmn : mn ≤ N) :
    MetFree l (⟨"com/example/sidestep/sidestep/CompiledPattern", "advance", "(II)I"⟩ : MethodName) (head1 (Jvm.Cond.code (⟨"com/example/sidestep/sidestep/CompiledPattern", "advance", "(II)I"⟩ : MethodName) prog_4_method_4_code 4 (some .int) :: ws) ({ frames := 1, cells := 0, slots := 0, locals := 13 } : Room)) (fun a U => a = #[(.ref o0), (.int (Int32.ofNat mn)), (.int p2)] ∧ Z.Warmed39 U.vm ∧ U.heap = h0) (fun _ _ _ _ _ => True) (fun _ U o U' => ∃ v L, o = .returned v ∧ QV (some (.int (adv [u0, u1, u2, u3] tb p2 N (cr N tb mn)))) (PureP n0 h0) v U'.heap L ∧ FrameEnd U o U' L ({ frames := 1, cells := 0, slots := 0, locals := 13 } : Room).cells ({ frames := 1, cells := 0, slots := 0, locals := 13 } : Room).slots) := by
  refine MetFree.of_bodySF (plainFor_of_name pn_1) hisR ?_
  intro p e s m args below meth c s₁ Bd hml0 hP hK
  obtain ⟨rfl, hZ, hh⟩ := hP
  have hx := Bd.exec
  have hby := Bd.bytes
  have hml : c.maxLocals = 4 := hml0
  have hown : s.vm.findClass "com/example/sidestep/sidestep/CompiledPattern" = some m.cls := findClass_of_methodNamed Bd.named
  have hnm := (name_of_methodNamed Bd.named Bd.method).1
  have hlk : meth.locks = false := BodyLoose.notSynchronized Bd
  have X0 : Stand p l e ({ frames := 1, cells := 0, slots := 0, locals := 13 } : Room) s m #[(.ref o0), (.int (Int32.ofNat mn)), (.int p2)] below meth c s₁ [] 0 0 := Stand.of_body Bd
  have e0 : s₁.heap = h0 := by rw [← hh, Bd.state]; rfl
  have N0 := Fr.nil n0
  refine Got.body (ef_7 m o0 (Int32.ofNat mn) p2) ?_
  have J : ∀ (fu k : Nat), k ≤ fu → k < N → ∀ (T1 : State) (L1 : List Loc), Stand p l e ({ frames := 1, cells := 0, slots := 0, locals := 13 } : Room) s m #[(.ref o0), (.int (Int32.ofNat mn)), (.int p2)] below meth c T1 L1 0 0 → T1.heap = h0 → Fr n0 L1 → Got p e below s (PureP n0 h0) 0 0 (some (.int (adv [u0, u1, u2, u3] tb p2 fu k))) T1 (mkF m 6 #[.val (.ref o0), .val (.int (Int32.ofNat mn)), .val (.int p2), .val (.int (Int32.ofNat k))] []) := by
    intro fu
    induction fu with
    | zero =>
      intro k hkf hk T1 L1 X1 e1 N1
      have hk0 : k = 0 := by omega
      show Got p e below s (PureP n0 h0) 0 0 (some (.int (if ([u0, u1, u2, u3].getD k 0) = p2 then ((Int32.ofNat k) + (1 : Int32)) else (0 : Int32)))) T1 (mkF m 6 #[.val (.ref o0), .val (.int (Int32.ofNat mn)), .val (.int p2), .val (.int (Int32.ofNat k))] [])
      refine Got.step (T' := T1) (g' := (mkF m 33 #[.val (.ref o0), .val (.int (Int32.ofNat mn)), .val (.int p2), .val (.int (Int32.ofNat k))] [(.ref o0)])) (fun tq kt => ?_) ?_
      · show Steps p.tables e below (T1.setTop (mkF m 6 #[.val (.ref o0), .val (.int (Int32.ofNat mn)), .val (.int p2), .val (.int (Int32.ofNat k))] [])) _
        refine XS.iloadN X1.here hx rfl (hb hby d7_6) rfl ?_
        show Steps p.tables e below (T1.setTop (mkF m 7 #[.val (.ref o0), .val (.int (Int32.ofNat mn)), .val (.int p2), .val (.int (Int32.ofNat k))] [(.int (Int32.ofNat k))])) _
        refine XS.ifYes X1.here hx rfl (pc0 := 7) (pc' := 32) rfl (hb hby d7_7) rfl (XT.i0_le_t (own_k0 hk0)) (by decide) (by decide) ?_
        show Steps p.tables e below (T1.setTop (mkF m 32 #[.val (.ref o0), .val (.int (Int32.ofNat mn)), .val (.int p2), .val (.int (Int32.ofNat k))] [])) _
        refine XS.aloadN X1.here hx rfl (hb hby d7_32) rfl rfl ?_
        exact kt
      obtain ⟨T347, X347, e347, st347⟩ := getF X1 hx hZ hown (host := "") (Or.inl (hw _ (List.mem_of_getElem? (i := 22) rfl))) Via.refl e1 F_units (g := (mkF m 33 #[.val (.ref o0), .val (.int (Int32.ofNat mn)), .val (.int p2), .val (.int (Int32.ofNat k))] [(.ref o0)])) rfl rfl (hb hby d7_33)
      refine Got.step st347 ?_
      show Got p e below s _ _ _ _ T347 (mkF m 36 #[.val (.ref o0), .val (.int (Int32.ofNat mn)), .val (.int p2), .val (.int (Int32.ofNat k))] [(.ref o1)])
      refine Got.step (T' := T347) (g' := (mkF m 37 #[.val (.ref o0), .val (.int (Int32.ofNat mn)), .val (.int p2), .val (.int (Int32.ofNat k))] [(.int (Int32.ofNat k)), (.ref o1)])) (fun tq kt => ?_) ?_
      · show Steps p.tables e below (T347.setTop (mkF m 36 #[.val (.ref o0), .val (.int (Int32.ofNat mn)), .val (.int p2), .val (.int (Int32.ofNat k))] [(.ref o1)])) _
        refine XS.iloadN X347.here hx rfl (hb hby d7_36) rfl ?_
        exact kt
      obtain ⟨cl348, Ar348, q348, S348, M348, H348, G348⟩ := (id V1)
      have hin348 : ¬ ((Int32.ofNat k) < 0 ∨ cl348.slots.size ≤ ((Int32.ofNat k)).toNatClampNeg) := inb_of S348 (own_ik hN hk)
      refine Got.step (T' := T347) (fun tq kt => X347.iaload hx (j := (Int32.ofNat k)) (v := (.int ([u0, u1, u2, u3].getD k 0))) (by rw [e347]; exact Ar348.1) (State.isArrayOf_alike hZ.alike Ar348.2.1) Ar348.2.2 hin348 (H348.at hin348 (own_ru (by omega))) (g := (mkF m 37 #[.val (.ref o0), .val (.int (Int32.ofNat mn)), .val (.int p2), .val (.int (Int32.ofNat k))] [(.int (Int32.ofNat k)), (.ref o1)])) rfl rfl (hb hby d7_37) tq kt) ?_
      show Got p e below s _ _ _ _ T347 (mkF m 38 #[.val (.ref o0), .val (.int (Int32.ofNat mn)), .val (.int p2), .val (.int (Int32.ofNat k))] [(.int ([u0, u1, u2, u3].getD k 0))])
      refine Got.step (T' := T347) (g' := (mkF m 39 #[.val (.ref o0), .val (.int (Int32.ofNat mn)), .val (.int p2), .val (.int (Int32.ofNat k))] [(.int p2), (.int ([u0, u1, u2, u3].getD k 0))])) (fun tq kt => ?_) ?_
      · show Steps p.tables e below (T347.setTop (mkF m 38 #[.val (.ref o0), .val (.int (Int32.ofNat mn)), .val (.int p2), .val (.int (Int32.ofNat k))] [(.int ([u0, u1, u2, u3].getD k 0))])) _
        refine XS.iloadN X347.here hx rfl (hb hby d7_38) rfl ?_
        exact kt
      refine Got.ite (q := (([u0, u1, u2, u3].getD k 0) = p2)) (fun hc349 => ?_) (fun hc349 => ?_)
      · refine Got.step (T' := T347) (g' := (mkF m 49 #[.val (.ref o0), .val (.int (Int32.ofNat mn)), .val (.int p2), .val (.int (Int32.ofNat k))] [(.int ((Int32.ofNat k) + (1 : Int32)))])) (fun tq kt => ?_) ?_
        · show Steps p.tables e below (T347.setTop (mkF m 39 #[.val (.ref o0), .val (.int (Int32.ofNat mn)), .val (.int p2), .val (.int (Int32.ofNat k))] [(.int p2), (.int ([u0, u1, u2, u3].getD k 0))])) _
          refine XS.icmpNo X347.here hx rfl (hb hby d7_39) rfl (XT.ii_ne_f hc349) ?_
          show Steps p.tables e below (T347.setTop (mkF m 42 #[.val (.ref o0), .val (.int (Int32.ofNat mn)), .val (.int p2), .val (.int (Int32.ofNat k))] [])) _
          refine XS.iloadN X347.here hx rfl (hb hby d7_42) rfl ?_
          show Steps p.tables e below (T347.setTop (mkF m 43 #[.val (.ref o0), .val (.int (Int32.ofNat mn)), .val (.int p2), .val (.int (Int32.ofNat k))] [(.int (Int32.ofNat k))])) _
          refine XS.iconst X347.here hx rfl (hb hby d7_43) ?_
          show Steps p.tables e below (T347.setTop (mkF m 44 #[.val (.ref o0), .val (.int (Int32.ofNat mn)), .val (.int p2), .val (.int (Int32.ofNat k))] [(.int (1 : Int32)), (.int (Int32.ofNat k))])) _
          refine XS.iadd X347.here hx rfl (hb hby d7_44) rfl ?_
          show Steps p.tables e below (T347.setTop (mkF m 45 #[.val (.ref o0), .val (.int (Int32.ofNat mn)), .val (.int p2), .val (.int (Int32.ofNat k))] [(.int ((Int32.ofNat k) + (1 : Int32)))])) _
          refine XS.goto X347.here hx rfl (pc0 := 45) (pc' := 49) rfl (hb hby d7_45) (by decide) (by decide) ?_
          exact kt
        exact Got.retI (y := ((Int32.ofNat k) + (1 : Int32))) X347 hx Bd.returns hlk (hb hby d7_49) rfl ⟨N1, e347⟩ (by decide) (by decide)
      · refine Got.step (T' := T347) (g' := (mkF m 49 #[.val (.ref o0), .val (.int (Int32.ofNat mn)), .val (.int p2), .val (.int (Int32.ofNat k))] [(.int (0 : Int32))])) (fun tq kt => ?_) ?_
        · show Steps p.tables e below (T347.setTop (mkF m 39 #[.val (.ref o0), .val (.int (Int32.ofNat mn)), .val (.int p2), .val (.int (Int32.ofNat k))] [(.int p2), (.int ([u0, u1, u2, u3].getD k 0))])) _
          refine XS.icmpYes X347.here hx rfl (pc0 := 39) (pc' := 48) rfl (hb hby d7_39) rfl (XT.ii_ne_t hc349) (by decide) (by decide) ?_
          show Steps p.tables e below (T347.setTop (mkF m 48 #[.val (.ref o0), .val (.int (Int32.ofNat mn)), .val (.int p2), .val (.int (Int32.ofNat k))] [])) _
          refine XS.iconst X347.here hx rfl (hb hby d7_48) ?_
          exact kt
        exact Got.retI (y := (0 : Int32)) X347 hx Bd.returns hlk (hb hby d7_49) rfl ⟨N1, e347⟩ (by decide) (by decide)
    | succ fu ih =>
      intro k hkf hk T1 L1 X1 e1 N1
      by_cases hk0 : k = 0
      · rw [own_adv0 hk0]
        refine Got.step (T' := T1) (g' := (mkF m 33 #[.val (.ref o0), .val (.int (Int32.ofNat mn)), .val (.int p2), .val (.int (Int32.ofNat k))] [(.ref o0)])) (fun tq kt => ?_) ?_
        · show Steps p.tables e below (T1.setTop (mkF m 6 #[.val (.ref o0), .val (.int (Int32.ofNat mn)), .val (.int p2), .val (.int (Int32.ofNat k))] [])) _
          refine XS.iloadN X1.here hx rfl (hb hby d7_6) rfl ?_
          show Steps p.tables e below (T1.setTop (mkF m 7 #[.val (.ref o0), .val (.int (Int32.ofNat mn)), .val (.int p2), .val (.int (Int32.ofNat k))] [(.int (Int32.ofNat k))])) _
          refine XS.ifYes X1.here hx rfl (pc0 := 7) (pc' := 32) rfl (hb hby d7_7) rfl (XT.i0_le_t (own_k0 hk0)) (by decide) (by decide) ?_
          show Steps p.tables e below (T1.setTop (mkF m 32 #[.val (.ref o0), .val (.int (Int32.ofNat mn)), .val (.int p2), .val (.int (Int32.ofNat k))] [])) _
          refine XS.aloadN X1.here hx rfl (hb hby d7_32) rfl rfl ?_
          exact kt
        obtain ⟨T350, X350, e350, st350⟩ := getF X1 hx hZ hown (host := "") (Or.inl (hw _ (List.mem_of_getElem? (i := 22) rfl))) Via.refl e1 F_units (g := (mkF m 33 #[.val (.ref o0), .val (.int (Int32.ofNat mn)), .val (.int p2), .val (.int (Int32.ofNat k))] [(.ref o0)])) rfl rfl (hb hby d7_33)
        refine Got.step st350 ?_
        show Got p e below s _ _ _ _ T350 (mkF m 36 #[.val (.ref o0), .val (.int (Int32.ofNat mn)), .val (.int p2), .val (.int (Int32.ofNat k))] [(.ref o1)])
        refine Got.step (T' := T350) (g' := (mkF m 37 #[.val (.ref o0), .val (.int (Int32.ofNat mn)), .val (.int p2), .val (.int (Int32.ofNat k))] [(.int (Int32.ofNat k)), (.ref o1)])) (fun tq kt => ?_) ?_
        · show Steps p.tables e below (T350.setTop (mkF m 36 #[.val (.ref o0), .val (.int (Int32.ofNat mn)), .val (.int p2), .val (.int (Int32.ofNat k))] [(.ref o1)])) _
          refine XS.iloadN X350.here hx rfl (hb hby d7_36) rfl ?_
          exact kt
        obtain ⟨cl351, Ar351, q351, S351, M351, H351, G351⟩ := (id V1)
        have hin351 : ¬ ((Int32.ofNat k) < 0 ∨ cl351.slots.size ≤ ((Int32.ofNat k)).toNatClampNeg) := inb_of S351 (own_ik hN hk)
        refine Got.step (T' := T350) (fun tq kt => X350.iaload hx (j := (Int32.ofNat k)) (v := (.int ([u0, u1, u2, u3].getD k 0))) (by rw [e350]; exact Ar351.1) (State.isArrayOf_alike hZ.alike Ar351.2.1) Ar351.2.2 hin351 (H351.at hin351 (own_ru (by omega))) (g := (mkF m 37 #[.val (.ref o0), .val (.int (Int32.ofNat mn)), .val (.int p2), .val (.int (Int32.ofNat k))] [(.int (Int32.ofNat k)), (.ref o1)])) rfl rfl (hb hby d7_37) tq kt) ?_
        show Got p e below s _ _ _ _ T350 (mkF m 38 #[.val (.ref o0), .val (.int (Int32.ofNat mn)), .val (.int p2), .val (.int (Int32.ofNat k))] [(.int ([u0, u1, u2, u3].getD k 0))])
        refine Got.step (T' := T350) (g' := (mkF m 39 #[.val (.ref o0), .val (.int (Int32.ofNat mn)), .val (.int p2), .val (.int (Int32.ofNat k))] [(.int p2), (.int ([u0, u1, u2, u3].getD k 0))])) (fun tq kt => ?_) ?_
        · show Steps p.tables e below (T350.setTop (mkF m 38 #[.val (.ref o0), .val (.int (Int32.ofNat mn)), .val (.int p2), .val (.int (Int32.ofNat k))] [(.int ([u0, u1, u2, u3].getD k 0))])) _
          refine XS.iloadN X350.here hx rfl (hb hby d7_38) rfl ?_
          exact kt
        refine Got.ite (q := (([u0, u1, u2, u3].getD k 0) = p2)) (fun hc352 => ?_) (fun hc352 => ?_)
        · refine Got.step (T' := T350) (g' := (mkF m 49 #[.val (.ref o0), .val (.int (Int32.ofNat mn)), .val (.int p2), .val (.int (Int32.ofNat k))] [(.int ((Int32.ofNat k) + (1 : Int32)))])) (fun tq kt => ?_) ?_
          · show Steps p.tables e below (T350.setTop (mkF m 39 #[.val (.ref o0), .val (.int (Int32.ofNat mn)), .val (.int p2), .val (.int (Int32.ofNat k))] [(.int p2), (.int ([u0, u1, u2, u3].getD k 0))])) _
            refine XS.icmpNo X350.here hx rfl (hb hby d7_39) rfl (XT.ii_ne_f hc352) ?_
            show Steps p.tables e below (T350.setTop (mkF m 42 #[.val (.ref o0), .val (.int (Int32.ofNat mn)), .val (.int p2), .val (.int (Int32.ofNat k))] [])) _
            refine XS.iloadN X350.here hx rfl (hb hby d7_42) rfl ?_
            show Steps p.tables e below (T350.setTop (mkF m 43 #[.val (.ref o0), .val (.int (Int32.ofNat mn)), .val (.int p2), .val (.int (Int32.ofNat k))] [(.int (Int32.ofNat k))])) _
            refine XS.iconst X350.here hx rfl (hb hby d7_43) ?_
            show Steps p.tables e below (T350.setTop (mkF m 44 #[.val (.ref o0), .val (.int (Int32.ofNat mn)), .val (.int p2), .val (.int (Int32.ofNat k))] [(.int (1 : Int32)), (.int (Int32.ofNat k))])) _
            refine XS.iadd X350.here hx rfl (hb hby d7_44) rfl ?_
            show Steps p.tables e below (T350.setTop (mkF m 45 #[.val (.ref o0), .val (.int (Int32.ofNat mn)), .val (.int p2), .val (.int (Int32.ofNat k))] [(.int ((Int32.ofNat k) + (1 : Int32)))])) _
            refine XS.goto X350.here hx rfl (pc0 := 45) (pc' := 49) rfl (hb hby d7_45) (by decide) (by decide) ?_
            exact kt
          exact Got.retI (y := ((Int32.ofNat k) + (1 : Int32))) X350 hx Bd.returns hlk (hb hby d7_49) rfl ⟨N1, e350⟩ (by decide) (by decide)
        · refine Got.step (T' := T350) (g' := (mkF m 49 #[.val (.ref o0), .val (.int (Int32.ofNat mn)), .val (.int p2), .val (.int (Int32.ofNat k))] [(.int (0 : Int32))])) (fun tq kt => ?_) ?_
          · show Steps p.tables e below (T350.setTop (mkF m 39 #[.val (.ref o0), .val (.int (Int32.ofNat mn)), .val (.int p2), .val (.int (Int32.ofNat k))] [(.int p2), (.int ([u0, u1, u2, u3].getD k 0))])) _
            refine XS.icmpYes X350.here hx rfl (pc0 := 39) (pc' := 48) rfl (hb hby d7_39) rfl (XT.ii_ne_t hc352) (by decide) (by decide) ?_
            show Steps p.tables e below (T350.setTop (mkF m 48 #[.val (.ref o0), .val (.int (Int32.ofNat mn)), .val (.int p2), .val (.int (Int32.ofNat k))] [])) _
            refine XS.iconst X350.here hx rfl (hb hby d7_48) ?_
            exact kt
          exact Got.retI (y := (0 : Int32)) X350 hx Bd.returns hlk (hb hby d7_49) rfl ⟨N1, e350⟩ (by decide) (by decide)
      · rw [own_adv1 hk0]
        refine Got.step (T' := T1) (g' := (mkF m 11 #[.val (.ref o0), .val (.int (Int32.ofNat mn)), .val (.int p2), .val (.int (Int32.ofNat k))] [(.ref o0)])) (fun tq kt => ?_) ?_
        · show Steps p.tables e below (T1.setTop (mkF m 6 #[.val (.ref o0), .val (.int (Int32.ofNat mn)), .val (.int p2), .val (.int (Int32.ofNat k))] [])) _
          refine XS.iloadN X1.here hx rfl (hb hby d7_6) rfl ?_
          show Steps p.tables e below (T1.setTop (mkF m 7 #[.val (.ref o0), .val (.int (Int32.ofNat mn)), .val (.int p2), .val (.int (Int32.ofNat k))] [(.int (Int32.ofNat k))])) _
          refine XS.ifNo X1.here hx rfl (hb hby d7_7) rfl (XT.i0_le_f (own_k1 hN hk hk0)) ?_
          show Steps p.tables e below (T1.setTop (mkF m 10 #[.val (.ref o0), .val (.int (Int32.ofNat mn)), .val (.int p2), .val (.int (Int32.ofNat k))] [])) _
          refine XS.aloadN X1.here hx rfl (hb hby d7_10) rfl rfl ?_
          exact kt
        obtain ⟨T353, X353, e353, st353⟩ := getF X1 hx hZ hown (host := "") (Or.inl (hw _ (List.mem_of_getElem? (i := 22) rfl))) Via.refl e1 F_units (g := (mkF m 11 #[.val (.ref o0), .val (.int (Int32.ofNat mn)), .val (.int p2), .val (.int (Int32.ofNat k))] [(.ref o0)])) rfl rfl (hb hby d7_11)
        refine Got.step st353 ?_
        show Got p e below s _ _ _ _ T353 (mkF m 14 #[.val (.ref o0), .val (.int (Int32.ofNat mn)), .val (.int p2), .val (.int (Int32.ofNat k))] [(.ref o1)])
        refine Got.step (T' := T353) (g' := (mkF m 15 #[.val (.ref o0), .val (.int (Int32.ofNat mn)), .val (.int p2), .val (.int (Int32.ofNat k))] [(.int (Int32.ofNat k)), (.ref o1)])) (fun tq kt => ?_) ?_
        · show Steps p.tables e below (T353.setTop (mkF m 14 #[.val (.ref o0), .val (.int (Int32.ofNat mn)), .val (.int p2), .val (.int (Int32.ofNat k))] [(.ref o1)])) _
          refine XS.iloadN X353.here hx rfl (hb hby d7_14) rfl ?_
          exact kt
        obtain ⟨cl354, Ar354, q354, S354, M354, H354, G354⟩ := (id V1)
        have hin354 : ¬ ((Int32.ofNat k) < 0 ∨ cl354.slots.size ≤ ((Int32.ofNat k)).toNatClampNeg) := inb_of S354 (own_ik hN hk)
        refine Got.step (T' := T353) (fun tq kt => X353.iaload hx (j := (Int32.ofNat k)) (v := (.int ([u0, u1, u2, u3].getD k 0))) (by rw [e353]; exact Ar354.1) (State.isArrayOf_alike hZ.alike Ar354.2.1) Ar354.2.2 hin354 (H354.at hin354 (own_ru (by omega))) (g := (mkF m 15 #[.val (.ref o0), .val (.int (Int32.ofNat mn)), .val (.int p2), .val (.int (Int32.ofNat k))] [(.int (Int32.ofNat k)), (.ref o1)])) rfl rfl (hb hby d7_15) tq kt) ?_
        show Got p e below s _ _ _ _ T353 (mkF m 16 #[.val (.ref o0), .val (.int (Int32.ofNat mn)), .val (.int p2), .val (.int (Int32.ofNat k))] [(.int ([u0, u1, u2, u3].getD k 0))])
        refine Got.step (T' := T353) (g' := (mkF m 17 #[.val (.ref o0), .val (.int (Int32.ofNat mn)), .val (.int p2), .val (.int (Int32.ofNat k))] [(.int p2), (.int ([u0, u1, u2, u3].getD k 0))])) (fun tq kt => ?_) ?_
        · show Steps p.tables e below (T353.setTop (mkF m 16 #[.val (.ref o0), .val (.int (Int32.ofNat mn)), .val (.int p2), .val (.int (Int32.ofNat k))] [(.int ([u0, u1, u2, u3].getD k 0))])) _
          refine XS.iloadN X353.here hx rfl (hb hby d7_16) rfl ?_
          exact kt
        refine Got.ite (q := (([u0, u1, u2, u3].getD k 0) = p2)) (fun hc355 => ?_) (fun hc355 => ?_)
        · refine Got.step (T' := T353) (g' := (mkF m 33 #[.val (.ref o0), .val (.int (Int32.ofNat mn)), .val (.int p2), .val (.int (Int32.ofNat k))] [(.ref o0)])) (fun tq kt => ?_) ?_
          · show Steps p.tables e below (T353.setTop (mkF m 17 #[.val (.ref o0), .val (.int (Int32.ofNat mn)), .val (.int p2), .val (.int (Int32.ofNat k))] [(.int p2), (.int ([u0, u1, u2, u3].getD k 0))])) _
            refine XS.icmpYes X353.here hx rfl (pc0 := 17) (pc' := 32) rfl (hb hby d7_17) rfl (XT.ii_eq_t hc355) (by decide) (by decide) ?_
            show Steps p.tables e below (T353.setTop (mkF m 32 #[.val (.ref o0), .val (.int (Int32.ofNat mn)), .val (.int p2), .val (.int (Int32.ofNat k))] [])) _
            refine XS.aloadN X353.here hx rfl (hb hby d7_32) rfl rfl ?_
            exact kt
          obtain ⟨T356, X356, e356, st356⟩ := getF X353 hx hZ hown (host := "") (Or.inl (hw _ (List.mem_of_getElem? (i := 22) rfl))) Via.refl e353 F_units (g := (mkF m 33 #[.val (.ref o0), .val (.int (Int32.ofNat mn)), .val (.int p2), .val (.int (Int32.ofNat k))] [(.ref o0)])) rfl rfl (hb hby d7_33)
          refine Got.step st356 ?_
          show Got p e below s _ _ _ _ T356 (mkF m 36 #[.val (.ref o0), .val (.int (Int32.ofNat mn)), .val (.int p2), .val (.int (Int32.ofNat k))] [(.ref o1)])
          refine Got.step (T' := T356) (g' := (mkF m 37 #[.val (.ref o0), .val (.int (Int32.ofNat mn)), .val (.int p2), .val (.int (Int32.ofNat k))] [(.int (Int32.ofNat k)), (.ref o1)])) (fun tq kt => ?_) ?_
          · show Steps p.tables e below (T356.setTop (mkF m 36 #[.val (.ref o0), .val (.int (Int32.ofNat mn)), .val (.int p2), .val (.int (Int32.ofNat k))] [(.ref o1)])) _
            refine XS.iloadN X356.here hx rfl (hb hby d7_36) rfl ?_
            exact kt
          obtain ⟨cl357, Ar357, q357, S357, M357, H357, G357⟩ := (id V1)
          have hin357 : ¬ ((Int32.ofNat k) < 0 ∨ cl357.slots.size ≤ ((Int32.ofNat k)).toNatClampNeg) := inb_of S357 (own_ik hN hk)
          refine Got.step (T' := T356) (fun tq kt => X356.iaload hx (j := (Int32.ofNat k)) (v := (.int ([u0, u1, u2, u3].getD k 0))) (by rw [e356]; exact Ar357.1) (State.isArrayOf_alike hZ.alike Ar357.2.1) Ar357.2.2 hin357 (H357.at hin357 (own_ru (by omega))) (g := (mkF m 37 #[.val (.ref o0), .val (.int (Int32.ofNat mn)), .val (.int p2), .val (.int (Int32.ofNat k))] [(.int (Int32.ofNat k)), (.ref o1)])) rfl rfl (hb hby d7_37) tq kt) ?_
          show Got p e below s _ _ _ _ T356 (mkF m 38 #[.val (.ref o0), .val (.int (Int32.ofNat mn)), .val (.int p2), .val (.int (Int32.ofNat k))] [(.int ([u0, u1, u2, u3].getD k 0))])
          refine Got.step (T' := T356) (g' := (mkF m 49 #[.val (.ref o0), .val (.int (Int32.ofNat mn)), .val (.int p2), .val (.int (Int32.ofNat k))] [(.int ((Int32.ofNat k) + (1 : Int32)))])) (fun tq kt => ?_) ?_
          · show Steps p.tables e below (T356.setTop (mkF m 38 #[.val (.ref o0), .val (.int (Int32.ofNat mn)), .val (.int p2), .val (.int (Int32.ofNat k))] [(.int ([u0, u1, u2, u3].getD k 0))])) _
            refine XS.iloadN X356.here hx rfl (hb hby d7_38) rfl ?_
            show Steps p.tables e below (T356.setTop (mkF m 39 #[.val (.ref o0), .val (.int (Int32.ofNat mn)), .val (.int p2), .val (.int (Int32.ofNat k))] [(.int p2), (.int ([u0, u1, u2, u3].getD k 0))])) _
            refine XS.icmpNo X356.here hx rfl (hb hby d7_39) rfl (XT.ii_ne_f hc355) ?_
            show Steps p.tables e below (T356.setTop (mkF m 42 #[.val (.ref o0), .val (.int (Int32.ofNat mn)), .val (.int p2), .val (.int (Int32.ofNat k))] [])) _
            refine XS.iloadN X356.here hx rfl (hb hby d7_42) rfl ?_
            show Steps p.tables e below (T356.setTop (mkF m 43 #[.val (.ref o0), .val (.int (Int32.ofNat mn)), .val (.int p2), .val (.int (Int32.ofNat k))] [(.int (Int32.ofNat k))])) _
            refine XS.iconst X356.here hx rfl (hb hby d7_43) ?_
            show Steps p.tables e below (T356.setTop (mkF m 44 #[.val (.ref o0), .val (.int (Int32.ofNat mn)), .val (.int p2), .val (.int (Int32.ofNat k))] [(.int (1 : Int32)), (.int (Int32.ofNat k))])) _
            refine XS.iadd X356.here hx rfl (hb hby d7_44) rfl ?_
            show Steps p.tables e below (T356.setTop (mkF m 45 #[.val (.ref o0), .val (.int (Int32.ofNat mn)), .val (.int p2), .val (.int (Int32.ofNat k))] [(.int ((Int32.ofNat k) + (1 : Int32)))])) _
            refine XS.goto X356.here hx rfl (pc0 := 45) (pc' := 49) rfl (hb hby d7_45) (by decide) (by decide) ?_
            exact kt
          exact Got.retI (y := ((Int32.ofNat k) + (1 : Int32))) X356 hx Bd.returns hlk (hb hby d7_49) rfl ⟨N1, e356⟩ (by decide) (by decide)
        · refine Got.step (T' := T353) (g' := (mkF m 21 #[.val (.ref o0), .val (.int (Int32.ofNat mn)), .val (.int p2), .val (.int (Int32.ofNat k))] [(.ref o0)])) (fun tq kt => ?_) ?_
          · show Steps p.tables e below (T353.setTop (mkF m 17 #[.val (.ref o0), .val (.int (Int32.ofNat mn)), .val (.int p2), .val (.int (Int32.ofNat k))] [(.int p2), (.int ([u0, u1, u2, u3].getD k 0))])) _
            refine XS.icmpNo X353.here hx rfl (hb hby d7_17) rfl (XT.ii_eq_f hc355) ?_
            show Steps p.tables e below (T353.setTop (mkF m 20 #[.val (.ref o0), .val (.int (Int32.ofNat mn)), .val (.int p2), .val (.int (Int32.ofNat k))] [])) _
            refine XS.aloadN X353.here hx rfl (hb hby d7_20) rfl rfl ?_
            exact kt
          obtain ⟨T358, X358, e358, st358⟩ := getF X353 hx hZ hown (host := "") (Or.inl (hw _ (List.mem_of_getElem? (i := 27) rfl))) Via.refl e353 F_prefixTable (g := (mkF m 21 #[.val (.ref o0), .val (.int (Int32.ofNat mn)), .val (.int p2), .val (.int (Int32.ofNat k))] [(.ref o0)])) rfl rfl (hb hby d7_21)
          refine Got.step st358 ?_
          show Got p e below s _ _ _ _ T358 (mkF m 24 #[.val (.ref o0), .val (.int (Int32.ofNat mn)), .val (.int p2), .val (.int (Int32.ofNat k))] [(.ref ot)])
          refine Got.step (T' := T358) (g' := (mkF m 27 #[.val (.ref o0), .val (.int (Int32.ofNat mn)), .val (.int p2), .val (.int (Int32.ofNat k))] [(.int ((Int32.ofNat k) - (1 : Int32))), (.ref ot)])) (fun tq kt => ?_) ?_
          · show Steps p.tables e below (T358.setTop (mkF m 24 #[.val (.ref o0), .val (.int (Int32.ofNat mn)), .val (.int p2), .val (.int (Int32.ofNat k))] [(.ref ot)])) _
            refine XS.iloadN X358.here hx rfl (hb hby d7_24) rfl ?_
            show Steps p.tables e below (T358.setTop (mkF m 25 #[.val (.ref o0), .val (.int (Int32.ofNat mn)), .val (.int p2), .val (.int (Int32.ofNat k))] [(.int (Int32.ofNat k)), (.ref ot)])) _
            refine XS.iconst X358.here hx rfl (hb hby d7_25) ?_
            show Steps p.tables e below (T358.setTop (mkF m 26 #[.val (.ref o0), .val (.int (Int32.ofNat mn)), .val (.int p2), .val (.int (Int32.ofNat k))] [(.int (1 : Int32)), (.int (Int32.ofNat k)), (.ref ot)])) _
            refine XS.isub X358.here hx rfl (hb hby d7_26) rfl ?_
            exact kt
          obtain ⟨cl359, Ar359, q359, S359, M359, H359, G359⟩ := (id Vt)
          have hin359 : ¬ (((Int32.ofNat k) - (1 : Int32)) < 0 ∨ cl359.slots.size ≤ (((Int32.ofNat k) - (1 : Int32))).toNatClampNeg) := inb_of S359 (own_ik1 hN hk hk0)
          refine Got.step (T' := T358) (fun tq kt => X358.iaload hx (j := ((Int32.ofNat k) - (1 : Int32))) (v := (.int (Int32.ofNat (tb.getD (k - 1) 0)))) (by rw [e358]; exact Ar359.1) (State.isArrayOf_alike hZ.alike Ar359.2.1) Ar359.2.2 hin359 (H359.at hin359 (own_rk hN hk hk0)) (g := (mkF m 27 #[.val (.ref o0), .val (.int (Int32.ofNat mn)), .val (.int p2), .val (.int (Int32.ofNat k))] [(.int ((Int32.ofNat k) - (1 : Int32))), (.ref ot)])) rfl rfl (hb hby d7_27) tq kt) ?_
          show Got p e below s _ _ _ _ T358 (mkF m 28 #[.val (.ref o0), .val (.int (Int32.ofNat mn)), .val (.int p2), .val (.int (Int32.ofNat k))] [(.int (Int32.ofNat (tb.getD (k - 1) 0)))])
          refine Got.step (T' := T358) (g' := (mkF m 6 #[.val (.ref o0), .val (.int (Int32.ofNat mn)), .val (.int p2), .val (.int (Int32.ofNat (tb.getD (k - 1) 0)))] [])) (fun tq kt => ?_) ?_
          · show Steps p.tables e below (T358.setTop (mkF m 28 #[.val (.ref o0), .val (.int (Int32.ofNat mn)), .val (.int p2), .val (.int (Int32.ofNat k))] [(.int (Int32.ofNat (tb.getD (k - 1) 0)))])) _
            refine XS.istoreN X358.here hx rfl (hb hby d7_28) rfl (l' := #[.val (.ref o0), .val (.int (Int32.ofNat mn)), .val (.int p2), .val (.int (Int32.ofNat (tb.getD (k - 1) 0)))]) rfl ?_
            show Steps p.tables e below (T358.setTop (mkF m 29 #[.val (.ref o0), .val (.int (Int32.ofNat mn)), .val (.int p2), .val (.int (Int32.ofNat (tb.getD (k - 1) 0)))] [])) _
            refine XS.goto X358.here hx rfl (pc0 := 29) (pc' := 6) rfl (hb hby d7_29) (by decide) (by decide) ?_
            exact kt
          exact ih _ (own_tk hN htb hk hk0 hkf) (own_tl hN htb hk hk0) _ _ X358 e358 N1
  refine Got.step (T' := s₁) (g' := (mkF m 2 #[.val (.ref o0), .val (.int (Int32.ofNat mn)), .val (.int p2), .unset] [(.int (Int32.ofNat mn)), (.ref o0)])) (fun tq kt => ?_) ?_
  · show Steps p.tables e below (s₁.setTop (mkF m 0 #[.val (.ref o0), .val (.int (Int32.ofNat mn)), .val (.int p2), .unset] [])) _
    refine XS.aloadN X0.here hx rfl (hb hby d7_0) rfl rfl ?_
    show Steps p.tables e below (s₁.setTop (mkF m 1 #[.val (.ref o0), .val (.int (Int32.ofNat mn)), .val (.int p2), .unset] [(.ref o0)])) _
    refine XS.iloadN X0.here hx rfl (hb hby d7_1) rfl ?_
    exact kt
  obtain ⟨cq346, qa346, qb346⟩ := E_o0.cell
  obtain ⟨_, _, ⟨T346, L346, k346, n346⟩, -, X346, ⟨Lc346, hQ346, l346, y346, z346⟩, st346⟩ := X0.privateBack hx (y := (⟨"com/example/sidestep/sidestep/CompiledPattern", "carried", "(I)I"⟩ : MethodName)) hown (mvT hZ (hw _ (List.mem_of_getElem? (i := 34) rfl))) (mvT hZ (hw _ (List.mem_of_getElem? (i := 35) rfl))) (own_sel (args := #[]) (mvT hZ (hw _ (List.mem_of_getElem? (i := 32) rfl))) (Cond.privateMethod_at (mvP hZ (hw _ (List.mem_of_getElem? (i := 36) rfl)) (args := #[]))) (mvT hZ (hw _ (List.mem_of_getElem? (i := 35) rfl)) (args := #[]))) (Cond.privateMethod_at (mvP hZ (hw _ (List.mem_of_getElem? (i := 36) rfl)) (args := #[]))) (mvT hZ (hw _ (List.mem_of_getElem? (i := 37) rfl))) (by decide) (backOf (W := 0) (rm8 l Z a0 hw [] o0 mn u0 u1 u2 u3 ku N o1 ot tb kt h0 n0 Z0 E_o0 F_units F_prefixTable V1 Vt hN htb hmn) hZ (hw _ (List.mem_of_getElem? (i := 37) rfl)) (hw _ (List.mem_of_getElem? (i := 15) rfl)) (by decide) (by decide)) (g := (mkF m 2 #[.val (.ref o0), .val (.int (Int32.ofNat mn)), .val (.int p2), .unset] [(.int (Int32.ofNat mn)), (.ref o0)])) rfl (by rw [hml]; rfl) (Steps.refl _) (a := o0) (by rw [e0]; exact qa346) qb346 (argsL := [(.int (Int32.ofNat mn))]) (rest := []) (lenOf pd_1 rfl) rfl (by show 2 * 0 + _ ≤ _; exact Nat.le_of_eq rfl) (hb hby d7_2) (fun _ _ => ⟨rfl, e0, (by decide : 0 + 0 ≤ _), (by decide : 0 + 0 ≤ _)⟩)
  dsimp only [Pt.U, Pt.locs, Pt.cells, Pt.slots] at X346 l346 y346 z346 st346 hQ346
  subst y346 z346
  obtain ⟨rfl, Nq346, e346⟩ := hQ346
  have N346 : Fr n0 L346 := by rw [l346]; exact Fr.app N0 Nq346
  refine Got.hop st346 ?_
  show Got p e below s _ _ _ _ T346 (mkF m 5 #[.val (.ref o0), .val (.int (Int32.ofNat mn)), .val (.int p2), .unset] [(.int (f8 N tb mn))])
  refine Got.step (T' := T346) (g' := (mkF m 6 #[.val (.ref o0), .val (.int (Int32.ofNat mn)), .val (.int p2), .val (.int (f8 N tb mn))] [])) (fun tq kt => ?_) ?_
  · show Steps p.tables e below (T346.setTop (mkF m 5 #[.val (.ref o0), .val (.int (Int32.ofNat mn)), .val (.int p2), .unset] [(.int (f8 N tb mn))])) _
    refine XS.istoreN X346.here hx rfl (hb hby d7_5) rfl (l' := #[.val (.ref o0), .val (.int (Int32.ofNat mn)), .val (.int p2), .val (.int (f8 N tb mn))]) rfl ?_
    exact kt
  rw [own_cr hN hmn]
  exact J N _ (Nat.le_of_lt (own_crlt hN htb hmn)) (own_crlt hN htb hmn) _ _ X346 e346 N346
def fE1_52 (u0 : Int32) (u1 : Int32) (u2 : Int32) (u3 : Int32) (ss : List Int32) (q : Nat)  : Int32 := (1 : Int32)
def fE1_34 (u0 : Int32) (u1 : Int32) (u2 : Int32) (u3 : Int32) (ss : List Int32) (q : Nat)  : Int32 := (fE1_52 u0 u1 u2 u3 ss q )
def fE1_16 (u0 : Int32) (u1 : Int32) (u2 : Int32) (u3 : Int32) (ss : List Int32) (q : Nat)  : Int32 := (fE1_34 u0 u1 u2 u3 ss q )
def fE1 (u0 : Int32) (u1 : Int32) (u2 : Int32) (u3 : Int32) (ss : List Int32) (q : Nat)  : Int32 := (if u0 = (ss.getD (q - 1) 0) then (fE1_16 u0 u1 u2 u3 ss q ) else (0 : Int32))
theorem ef_E1 (m : MethodId) (x0 : Addr) (x1 : Addr) (x2 : Int32) (x3 : Int32) : entryFrame m #[(.ref x0), (.ref x1), (.int x2), (.int x3)] 4 = mkF m 0 #[.val (.ref x0), .val (.ref x1), .val (.int x2), .val (.int x3)] [] := by first | (simp [entryFrame, mkF, argsToLocals, Value.category]; done) | rfl
theorem d3_0 : decode method_3_code 0 = .ok (.iload_n 3, 1) := by decide +kernel
theorem d3_1 : decode method_3_code 1 = .ok (.iconst 1, 1) := by decide +kernel
theorem d3_2 : decode method_3_code 2 = .ok (.if_icmp .lt 14, 3) := by decide +kernel
theorem d3_5 : decode method_3_code 5 = .ok (.aload_n 0, 1) := by decide +kernel
theorem d3_6 : decode method_3_code 6 = .ok (.iconst 0, 1) := by decide +kernel
theorem d3_7 : decode method_3_code 7 = .ok (.iaload, 1) := by decide +kernel
theorem d3_8 : decode method_3_code 8 = .ok (.aload_n 1, 1) := by decide +kernel
theorem d3_9 : decode method_3_code 9 = .ok (.iload_n 2, 1) := by decide +kernel
theorem d3_10 : decode method_3_code 10 = .ok (.iload_n 3, 1) := by decide +kernel
theorem d3_11 : decode method_3_code 11 = .ok (.isub, 1) := by decide +kernel
theorem d3_12 : decode method_3_code 12 = .ok (.iaload, 1) := by decide +kernel
theorem d3_13 : decode method_3_code 13 = .ok (.if_icmp .ne 61, 3) := by decide +kernel
theorem d3_16 : decode method_3_code 16 = .ok (.iload_n 3, 1) := by decide +kernel
theorem d3_17 : decode method_3_code 17 = .ok (.iconst 2, 1) := by decide +kernel
theorem d3_18 : decode method_3_code 18 = .ok (.if_icmp .lt 16, 3) := by decide +kernel
theorem d3_34 : decode method_3_code 34 = .ok (.iload_n 3, 1) := by decide +kernel
theorem d3_35 : decode method_3_code 35 = .ok (.iconst 3, 1) := by decide +kernel
theorem d3_36 : decode method_3_code 36 = .ok (.if_icmp .lt 16, 3) := by decide +kernel
theorem d3_52 : decode method_3_code 52 = .ok (.iload_n 3, 1) := by decide +kernel
theorem d3_53 : decode method_3_code 53 = .ok (.iconst 4, 1) := by decide +kernel
theorem d3_54 : decode method_3_code 54 = .ok (.if_icmp .lt 16, 3) := by decide +kernel
theorem d3_70 : decode method_3_code 70 = .ok (.iconst 1, 1) := by decide +kernel
theorem d3_71 : decode method_3_code 71 = .ok (.goto 4, 3) := by decide +kernel
theorem d3_74 : decode method_3_code 74 = .ok (.iconst 0, 1) := by decide +kernel
theorem d3_75 : decode method_3_code 75 = .ok (.ireturn, 1) := by decide +kernel
set_option maxRecDepth 65536 in
set_option maxHeartbeats 40000000 in
theorem rmE1 (l : Launch) (Z : State) (a0 : Array Value) (hw : ∀ d ∈ tables_1, d.before a0 Z = true) (ws : List Jvm.Cond) (o0 o1 : Addr) (q : Nat) (u0 u1 u2 u3 : Int32) (ss : List Int32) (ku ks : ClassId) (N : Nat) (h0 : Heap) (n0 : Nat) (Z0 : n0 ≤ h0.size) (V0 : Arv Z h0 o0 ku .int (Int32.ofNat N) [(.int u0), (.int u1), (.int u2), (.int u3)] (.int (0 : Int32))) (V1 : Arv Z h0 o1 ks .int (5 : Int32) (ss.map Value.int) (.int (0 : Int32))) (hNk : 1 ≤ N ∧ N ≤ 4) (hq : 1 ≤ q ∧ q ≤ 5) :
    MetFree l (⟨"com/example/sidestep/sidestep/CompiledPatternAdvancePinLaw", "ends", "([I[III)Z"⟩ : MethodName) (head1 (Jvm.Cond.code (⟨"com/example/sidestep/sidestep/CompiledPatternAdvancePinLaw", "ends", "([I[III)Z"⟩ : MethodName) method_3_code 4 (some .boolean) :: ws) ({ frames := 0, cells := 0, slots := 0, locals := 0 } : Room)) (fun a U => a = #[(.ref o0), (.ref o1), (.int (Int32.ofNat q)), (.int (1 : Int32))] ∧ Z.Warmed39 U.vm ∧ U.heap = h0) (fun _ _ _ _ _ => True) (fun _ U o U' => ∃ v L, o = .returned v ∧ QV (some (.int (fE1 u0 u1 u2 u3 ss q))) (PureP n0 h0) v U'.heap L ∧ FrameEnd U o U' L ({ frames := 0, cells := 0, slots := 0, locals := 0 } : Room).cells ({ frames := 0, cells := 0, slots := 0, locals := 0 } : Room).slots) := by
  refine MetFree.of_bodySF (plainFor_of_name pn_0) hisR ?_
  intro p e s m args below meth c s₁ Bd hml0 hP hK
  obtain ⟨rfl, hZ, hh⟩ := hP
  have hx := Bd.exec
  have hby := Bd.bytes
  have hml : c.maxLocals = 4 := hml0
  have hown : s.vm.findClass "com/example/sidestep/sidestep/CompiledPatternAdvancePinLaw" = some m.cls := findClass_of_methodNamed Bd.named
  have hnm := (name_of_methodNamed Bd.named Bd.method).1
  have hlk : meth.locks = false := BodyLoose.notSynchronized Bd
  have X0 : Stand p l e ({ frames := 0, cells := 0, slots := 0, locals := 0 } : Room) s m #[(.ref o0), (.ref o1), (.int (Int32.ofNat q)), (.int (1 : Int32))] below meth c s₁ [] 0 0 := Stand.of_body Bd
  have e0 : s₁.heap = h0 := by rw [← hh, Bd.state]; rfl
  have N0 := Fr.nil n0
  refine Got.body (ef_E1 m o0 o1 (Int32.ofNat q) (1 : Int32)) ?_
  have J52 : ∀ (T_52 : State) (L_52 : List Loc), Stand p l e ({ frames := 0, cells := 0, slots := 0, locals := 0 } : Room) s m #[(.ref o0), (.ref o1), (.int (Int32.ofNat q)), (.int (1 : Int32))] below meth c T_52 L_52 0 0 → T_52.heap = h0 → Fr n0 L_52 → Got p e below s (PureP n0 h0) 0 0 (some (.int (fE1_52 u0 u1 u2 u3 ss q ))) T_52 (mkF m 52 #[.val (.ref o0), .val (.ref o1), .val (.int (Int32.ofNat q)), .val (.int (1 : Int32))] []) := by
    intro T_52 L_52 X_52 e_52 N_52 
    refine Got.step (T' := T_52) (g' := (mkF m 75 #[.val (.ref o0), .val (.ref o1), .val (.int (Int32.ofNat q)), .val (.int (1 : Int32))] [(.int (1 : Int32))])) (fun tq kt => ?_) ?_
    · show Steps p.tables e below (T_52.setTop (mkF m 52 #[.val (.ref o0), .val (.ref o1), .val (.int (Int32.ofNat q)), .val (.int (1 : Int32))] [])) _
      refine XS.iloadN X_52.here hx rfl (hb hby d3_52) rfl ?_
      show Steps p.tables e below (T_52.setTop (mkF m 53 #[.val (.ref o0), .val (.ref o1), .val (.int (Int32.ofNat q)), .val (.int (1 : Int32))] [(.int (1 : Int32))])) _
      refine XS.iconst X_52.here hx rfl (hb hby d3_53) ?_
      show Steps p.tables e below (T_52.setTop (mkF m 54 #[.val (.ref o0), .val (.ref o1), .val (.int (Int32.ofNat q)), .val (.int (1 : Int32))] [(.int (4 : Int32)), (.int (1 : Int32))])) _
      refine XS.icmpYes X_52.here hx rfl (pc0 := 54) (pc' := 70) rfl (hb hby d3_54) rfl (XT.ii_lt_t (by decide)) (by decide) (by decide) ?_
      show Steps p.tables e below (T_52.setTop (mkF m 70 #[.val (.ref o0), .val (.ref o1), .val (.int (Int32.ofNat q)), .val (.int (1 : Int32))] [])) _
      refine XS.iconst X_52.here hx rfl (hb hby d3_70) ?_
      show Steps p.tables e below (T_52.setTop (mkF m 71 #[.val (.ref o0), .val (.ref o1), .val (.int (Int32.ofNat q)), .val (.int (1 : Int32))] [(.int (1 : Int32))])) _
      refine XS.goto X_52.here hx rfl (pc0 := 71) (pc' := 75) rfl (hb hby d3_71) (by decide) (by decide) ?_
      exact kt
    exact Got.retN (y := (1 : Int32)) (t := .boolean) X_52 hx Bd.returns (by simp) hlk (hb hby d3_75) (by decide) ⟨N_52, e_52⟩ (by decide) (by decide)
  have J34 : ∀ (T_34 : State) (L_34 : List Loc), Stand p l e ({ frames := 0, cells := 0, slots := 0, locals := 0 } : Room) s m #[(.ref o0), (.ref o1), (.int (Int32.ofNat q)), (.int (1 : Int32))] below meth c T_34 L_34 0 0 → T_34.heap = h0 → Fr n0 L_34 → Got p e below s (PureP n0 h0) 0 0 (some (.int (fE1_34 u0 u1 u2 u3 ss q ))) T_34 (mkF m 34 #[.val (.ref o0), .val (.ref o1), .val (.int (Int32.ofNat q)), .val (.int (1 : Int32))] []) := by
    intro T_34 L_34 X_34 e_34 N_34 
    refine Got.step (T' := T_34) (g' := (mkF m 52 #[.val (.ref o0), .val (.ref o1), .val (.int (Int32.ofNat q)), .val (.int (1 : Int32))] [])) (fun tq kt => ?_) ?_
    · show Steps p.tables e below (T_34.setTop (mkF m 34 #[.val (.ref o0), .val (.ref o1), .val (.int (Int32.ofNat q)), .val (.int (1 : Int32))] [])) _
      refine XS.iloadN X_34.here hx rfl (hb hby d3_34) rfl ?_
      show Steps p.tables e below (T_34.setTop (mkF m 35 #[.val (.ref o0), .val (.ref o1), .val (.int (Int32.ofNat q)), .val (.int (1 : Int32))] [(.int (1 : Int32))])) _
      refine XS.iconst X_34.here hx rfl (hb hby d3_35) ?_
      show Steps p.tables e below (T_34.setTop (mkF m 36 #[.val (.ref o0), .val (.ref o1), .val (.int (Int32.ofNat q)), .val (.int (1 : Int32))] [(.int (3 : Int32)), (.int (1 : Int32))])) _
      refine XS.icmpYes X_34.here hx rfl (pc0 := 36) (pc' := 52) rfl (hb hby d3_36) rfl (XT.ii_lt_t (by decide)) (by decide) (by decide) ?_
      exact kt
    exact J52 _ _ X_34 e_34 N_34 
  have J16 : ∀ (T_16 : State) (L_16 : List Loc), Stand p l e ({ frames := 0, cells := 0, slots := 0, locals := 0 } : Room) s m #[(.ref o0), (.ref o1), (.int (Int32.ofNat q)), (.int (1 : Int32))] below meth c T_16 L_16 0 0 → T_16.heap = h0 → Fr n0 L_16 → Got p e below s (PureP n0 h0) 0 0 (some (.int (fE1_16 u0 u1 u2 u3 ss q ))) T_16 (mkF m 16 #[.val (.ref o0), .val (.ref o1), .val (.int (Int32.ofNat q)), .val (.int (1 : Int32))] []) := by
    intro T_16 L_16 X_16 e_16 N_16 
    refine Got.step (T' := T_16) (g' := (mkF m 34 #[.val (.ref o0), .val (.ref o1), .val (.int (Int32.ofNat q)), .val (.int (1 : Int32))] [])) (fun tq kt => ?_) ?_
    · show Steps p.tables e below (T_16.setTop (mkF m 16 #[.val (.ref o0), .val (.ref o1), .val (.int (Int32.ofNat q)), .val (.int (1 : Int32))] [])) _
      refine XS.iloadN X_16.here hx rfl (hb hby d3_16) rfl ?_
      show Steps p.tables e below (T_16.setTop (mkF m 17 #[.val (.ref o0), .val (.ref o1), .val (.int (Int32.ofNat q)), .val (.int (1 : Int32))] [(.int (1 : Int32))])) _
      refine XS.iconst X_16.here hx rfl (hb hby d3_17) ?_
      show Steps p.tables e below (T_16.setTop (mkF m 18 #[.val (.ref o0), .val (.ref o1), .val (.int (Int32.ofNat q)), .val (.int (1 : Int32))] [(.int (2 : Int32)), (.int (1 : Int32))])) _
      refine XS.icmpYes X_16.here hx rfl (pc0 := 18) (pc' := 34) rfl (hb hby d3_18) rfl (XT.ii_lt_t (by decide)) (by decide) (by decide) ?_
      exact kt
    exact J34 _ _ X_16 e_16 N_16 
  refine Got.step (T' := s₁) (g' := (mkF m 7 #[.val (.ref o0), .val (.ref o1), .val (.int (Int32.ofNat q)), .val (.int (1 : Int32))] [(.int (0 : Int32)), (.ref o0)])) (fun tq kt => ?_) ?_
  · show Steps p.tables e below (s₁.setTop (mkF m 0 #[.val (.ref o0), .val (.ref o1), .val (.int (Int32.ofNat q)), .val (.int (1 : Int32))] [])) _
    refine XS.iloadN X0.here hx rfl (hb hby d3_0) rfl ?_
    show Steps p.tables e below (s₁.setTop (mkF m 1 #[.val (.ref o0), .val (.ref o1), .val (.int (Int32.ofNat q)), .val (.int (1 : Int32))] [(.int (1 : Int32))])) _
    refine XS.iconst X0.here hx rfl (hb hby d3_1) ?_
    show Steps p.tables e below (s₁.setTop (mkF m 2 #[.val (.ref o0), .val (.ref o1), .val (.int (Int32.ofNat q)), .val (.int (1 : Int32))] [(.int (1 : Int32)), (.int (1 : Int32))])) _
    refine XS.icmpNo X0.here hx rfl (hb hby d3_2) rfl (XT.ii_lt_f Int32.lt_irrefl) ?_
    show Steps p.tables e below (s₁.setTop (mkF m 5 #[.val (.ref o0), .val (.ref o1), .val (.int (Int32.ofNat q)), .val (.int (1 : Int32))] [])) _
    refine XS.aloadN X0.here hx rfl (hb hby d3_5) rfl rfl ?_
    show Steps p.tables e below (s₁.setTop (mkF m 6 #[.val (.ref o0), .val (.ref o1), .val (.int (Int32.ofNat q)), .val (.int (1 : Int32))] [(.ref o0)])) _
    refine XS.iconst X0.here hx rfl (hb hby d3_6) ?_
    exact kt
  obtain ⟨cl360, Ar360, q360, S360, M360, H360, G360⟩ := (id V0)
  have hin360 : ¬ ((0 : Int32) < 0 ∨ cl360.slots.size ≤ ((0 : Int32)).toNatClampNeg) := inb_of S360 (own_e0 hNk (by decide))
  refine Got.step (T' := s₁) (fun tq kt => X0.iaload hx (j := (0 : Int32)) (v := (.int u0)) (by rw [e0]; exact Ar360.1) (State.isArrayOf_alike hZ.alike Ar360.2.1) Ar360.2.2 hin360 (H360.at hin360 rfl) (g := (mkF m 7 #[.val (.ref o0), .val (.ref o1), .val (.int (Int32.ofNat q)), .val (.int (1 : Int32))] [(.int (0 : Int32)), (.ref o0)])) rfl rfl (hb hby d3_7) tq kt) ?_
  show Got p e below s _ _ _ _ s₁ (mkF m 8 #[.val (.ref o0), .val (.ref o1), .val (.int (Int32.ofNat q)), .val (.int (1 : Int32))] [(.int u0)])
  refine Got.step (T' := s₁) (g' := (mkF m 12 #[.val (.ref o0), .val (.ref o1), .val (.int (Int32.ofNat q)), .val (.int (1 : Int32))] [(.int ((Int32.ofNat q) - (1 : Int32))), (.ref o1), (.int u0)])) (fun tq kt => ?_) ?_
  · show Steps p.tables e below (s₁.setTop (mkF m 8 #[.val (.ref o0), .val (.ref o1), .val (.int (Int32.ofNat q)), .val (.int (1 : Int32))] [(.int u0)])) _
    refine XS.aloadN X0.here hx rfl (hb hby d3_8) rfl rfl ?_
    show Steps p.tables e below (s₁.setTop (mkF m 9 #[.val (.ref o0), .val (.ref o1), .val (.int (Int32.ofNat q)), .val (.int (1 : Int32))] [(.ref o1), (.int u0)])) _
    refine XS.iloadN X0.here hx rfl (hb hby d3_9) rfl ?_
    show Steps p.tables e below (s₁.setTop (mkF m 10 #[.val (.ref o0), .val (.ref o1), .val (.int (Int32.ofNat q)), .val (.int (1 : Int32))] [(.int (Int32.ofNat q)), (.ref o1), (.int u0)])) _
    refine XS.iloadN X0.here hx rfl (hb hby d3_10) rfl ?_
    show Steps p.tables e below (s₁.setTop (mkF m 11 #[.val (.ref o0), .val (.ref o1), .val (.int (Int32.ofNat q)), .val (.int (1 : Int32))] [(.int (1 : Int32)), (.int (Int32.ofNat q)), (.ref o1), (.int u0)])) _
    refine XS.isub X0.here hx rfl (hb hby d3_11) rfl ?_
    exact kt
  obtain ⟨cl361, Ar361, q361, S361, M361, H361, G361⟩ := (id V1)
  have hin361 : ¬ (((Int32.ofNat q) - (1 : Int32)) < 0 ∨ cl361.slots.size ≤ (((Int32.ofNat q) - (1 : Int32))).toNatClampNeg) := inb_of S361 (own_s1_0 hq)
  refine Got.step (T' := s₁) (fun tq kt => X0.iaload hx (j := ((Int32.ofNat q) - (1 : Int32))) (v := (.int (ss.getD (q - 1) 0))) (by rw [e0]; exact Ar361.1) (State.isArrayOf_alike hZ.alike Ar361.2.1) Ar361.2.2 hin361 (H361.at hin361 (own_r1_0 hq)) (g := (mkF m 12 #[.val (.ref o0), .val (.ref o1), .val (.int (Int32.ofNat q)), .val (.int (1 : Int32))] [(.int ((Int32.ofNat q) - (1 : Int32))), (.ref o1), (.int u0)])) rfl rfl (hb hby d3_12) tq kt) ?_
  show Got p e below s _ _ _ _ s₁ (mkF m 13 #[.val (.ref o0), .val (.ref o1), .val (.int (Int32.ofNat q)), .val (.int (1 : Int32))] [(.int (ss.getD (q - 1) 0)), (.int u0)])
  refine Got.ite (q := (u0 = (ss.getD (q - 1) 0))) (fun hc362 => ?_) (fun hc362 => ?_)
  · refine Got.step (T' := s₁) (g' := (mkF m 16 #[.val (.ref o0), .val (.ref o1), .val (.int (Int32.ofNat q)), .val (.int (1 : Int32))] [])) (fun tq kt => ?_) ?_
    · show Steps p.tables e below (s₁.setTop (mkF m 13 #[.val (.ref o0), .val (.ref o1), .val (.int (Int32.ofNat q)), .val (.int (1 : Int32))] [(.int (ss.getD (q - 1) 0)), (.int u0)])) _
      refine XS.icmpNo X0.here hx rfl (hb hby d3_13) rfl (XT.ii_ne_f hc362) ?_
      exact kt
    exact J16 _ _ X0 e0 N0 
  · refine Got.step (T' := s₁) (g' := (mkF m 75 #[.val (.ref o0), .val (.ref o1), .val (.int (Int32.ofNat q)), .val (.int (1 : Int32))] [(.int (0 : Int32))])) (fun tq kt => ?_) ?_
    · show Steps p.tables e below (s₁.setTop (mkF m 13 #[.val (.ref o0), .val (.ref o1), .val (.int (Int32.ofNat q)), .val (.int (1 : Int32))] [(.int (ss.getD (q - 1) 0)), (.int u0)])) _
      refine XS.icmpYes X0.here hx rfl (pc0 := 13) (pc' := 74) rfl (hb hby d3_13) rfl (XT.ii_ne_t hc362) (by decide) (by decide) ?_
      show Steps p.tables e below (s₁.setTop (mkF m 74 #[.val (.ref o0), .val (.ref o1), .val (.int (Int32.ofNat q)), .val (.int (1 : Int32))] [])) _
      refine XS.iconst X0.here hx rfl (hb hby d3_74) ?_
      exact kt
    exact Got.retN (y := (0 : Int32)) (t := .boolean) X0 hx Bd.returns (by simp) hlk (hb hby d3_75) (by decide) ⟨N0, e0⟩ (by decide) (by decide)
def fE2_52 (u0 : Int32) (u1 : Int32) (u2 : Int32) (u3 : Int32) (ss : List Int32) (q : Nat)  : Int32 := (1 : Int32)
def fE2_34 (u0 : Int32) (u1 : Int32) (u2 : Int32) (u3 : Int32) (ss : List Int32) (q : Nat)  : Int32 := (fE2_52 u0 u1 u2 u3 ss q )
def fE2_16 (u0 : Int32) (u1 : Int32) (u2 : Int32) (u3 : Int32) (ss : List Int32) (q : Nat)  : Int32 := (if u1 = (ss.getD (q - 2 + 1) 0) then (fE2_34 u0 u1 u2 u3 ss q ) else (0 : Int32))
def fE2 (u0 : Int32) (u1 : Int32) (u2 : Int32) (u3 : Int32) (ss : List Int32) (q : Nat)  : Int32 := (if u0 = (ss.getD (q - 2) 0) then (fE2_16 u0 u1 u2 u3 ss q ) else (0 : Int32))
theorem ef_E2 (m : MethodId) (x0 : Addr) (x1 : Addr) (x2 : Int32) (x3 : Int32) : entryFrame m #[(.ref x0), (.ref x1), (.int x2), (.int x3)] 4 = mkF m 0 #[.val (.ref x0), .val (.ref x1), .val (.int x2), .val (.int x3)] [] := by first | (simp [entryFrame, mkF, argsToLocals, Value.category]; done) | rfl
theorem d3_21 : decode method_3_code 21 = .ok (.aload_n 0, 1) := by decide +kernel
theorem d3_22 : decode method_3_code 22 = .ok (.iconst 1, 1) := by decide +kernel
theorem d3_23 : decode method_3_code 23 = .ok (.iaload, 1) := by decide +kernel
theorem d3_24 : decode method_3_code 24 = .ok (.aload_n 1, 1) := by decide +kernel
theorem d3_25 : decode method_3_code 25 = .ok (.iload_n 2, 1) := by decide +kernel
theorem d3_26 : decode method_3_code 26 = .ok (.iload_n 3, 1) := by decide +kernel
theorem d3_27 : decode method_3_code 27 = .ok (.isub, 1) := by decide +kernel
theorem d3_28 : decode method_3_code 28 = .ok (.iconst 1, 1) := by decide +kernel
theorem d3_29 : decode method_3_code 29 = .ok (.iadd, 1) := by decide +kernel
theorem d3_30 : decode method_3_code 30 = .ok (.iaload, 1) := by decide +kernel
theorem d3_31 : decode method_3_code 31 = .ok (.if_icmp .ne 43, 3) := by decide +kernel
set_option maxRecDepth 65536 in
set_option maxHeartbeats 40000000 in
theorem rmE2 (l : Launch) (Z : State) (a0 : Array Value) (hw : ∀ d ∈ tables_1, d.before a0 Z = true) (ws : List Jvm.Cond) (o0 o1 : Addr) (q : Nat) (u0 u1 u2 u3 : Int32) (ss : List Int32) (ku ks : ClassId) (N : Nat) (h0 : Heap) (n0 : Nat) (Z0 : n0 ≤ h0.size) (V0 : Arv Z h0 o0 ku .int (Int32.ofNat N) [(.int u0), (.int u1), (.int u2), (.int u3)] (.int (0 : Int32))) (V1 : Arv Z h0 o1 ks .int (5 : Int32) (ss.map Value.int) (.int (0 : Int32))) (hNk : 2 ≤ N ∧ N ≤ 4) (hq : 2 ≤ q ∧ q ≤ 5) :
    MetFree l (⟨"com/example/sidestep/sidestep/CompiledPatternAdvancePinLaw", "ends", "([I[III)Z"⟩ : MethodName) (head1 (Jvm.Cond.code (⟨"com/example/sidestep/sidestep/CompiledPatternAdvancePinLaw", "ends", "([I[III)Z"⟩ : MethodName) method_3_code 4 (some .boolean) :: ws) ({ frames := 0, cells := 0, slots := 0, locals := 0 } : Room)) (fun a U => a = #[(.ref o0), (.ref o1), (.int (Int32.ofNat q)), (.int (2 : Int32))] ∧ Z.Warmed39 U.vm ∧ U.heap = h0) (fun _ _ _ _ _ => True) (fun _ U o U' => ∃ v L, o = .returned v ∧ QV (some (.int (fE2 u0 u1 u2 u3 ss q))) (PureP n0 h0) v U'.heap L ∧ FrameEnd U o U' L ({ frames := 0, cells := 0, slots := 0, locals := 0 } : Room).cells ({ frames := 0, cells := 0, slots := 0, locals := 0 } : Room).slots) := by
  refine MetFree.of_bodySF (plainFor_of_name pn_0) hisR ?_
  intro p e s m args below meth c s₁ Bd hml0 hP hK
  obtain ⟨rfl, hZ, hh⟩ := hP
  have hx := Bd.exec
  have hby := Bd.bytes
  have hml : c.maxLocals = 4 := hml0
  have hown : s.vm.findClass "com/example/sidestep/sidestep/CompiledPatternAdvancePinLaw" = some m.cls := findClass_of_methodNamed Bd.named
  have hnm := (name_of_methodNamed Bd.named Bd.method).1
  have hlk : meth.locks = false := BodyLoose.notSynchronized Bd
  have X0 : Stand p l e ({ frames := 0, cells := 0, slots := 0, locals := 0 } : Room) s m #[(.ref o0), (.ref o1), (.int (Int32.ofNat q)), (.int (2 : Int32))] below meth c s₁ [] 0 0 := Stand.of_body Bd
  have e0 : s₁.heap = h0 := by rw [← hh, Bd.state]; rfl
  have N0 := Fr.nil n0
  refine Got.body (ef_E2 m o0 o1 (Int32.ofNat q) (2 : Int32)) ?_
  have J52 : ∀ (T_52 : State) (L_52 : List Loc), Stand p l e ({ frames := 0, cells := 0, slots := 0, locals := 0 } : Room) s m #[(.ref o0), (.ref o1), (.int (Int32.ofNat q)), (.int (2 : Int32))] below meth c T_52 L_52 0 0 → T_52.heap = h0 → Fr n0 L_52 → Got p e below s (PureP n0 h0) 0 0 (some (.int (fE2_52 u0 u1 u2 u3 ss q ))) T_52 (mkF m 52 #[.val (.ref o0), .val (.ref o1), .val (.int (Int32.ofNat q)), .val (.int (2 : Int32))] []) := by
    intro T_52 L_52 X_52 e_52 N_52 
    refine Got.step (T' := T_52) (g' := (mkF m 75 #[.val (.ref o0), .val (.ref o1), .val (.int (Int32.ofNat q)), .val (.int (2 : Int32))] [(.int (1 : Int32))])) (fun tq kt => ?_) ?_
    · show Steps p.tables e below (T_52.setTop (mkF m 52 #[.val (.ref o0), .val (.ref o1), .val (.int (Int32.ofNat q)), .val (.int (2 : Int32))] [])) _
      refine XS.iloadN X_52.here hx rfl (hb hby d3_52) rfl ?_
      show Steps p.tables e below (T_52.setTop (mkF m 53 #[.val (.ref o0), .val (.ref o1), .val (.int (Int32.ofNat q)), .val (.int (2 : Int32))] [(.int (2 : Int32))])) _
      refine XS.iconst X_52.here hx rfl (hb hby d3_53) ?_
      show Steps p.tables e below (T_52.setTop (mkF m 54 #[.val (.ref o0), .val (.ref o1), .val (.int (Int32.ofNat q)), .val (.int (2 : Int32))] [(.int (4 : Int32)), (.int (2 : Int32))])) _
      refine XS.icmpYes X_52.here hx rfl (pc0 := 54) (pc' := 70) rfl (hb hby d3_54) rfl (XT.ii_lt_t (by decide)) (by decide) (by decide) ?_
      show Steps p.tables e below (T_52.setTop (mkF m 70 #[.val (.ref o0), .val (.ref o1), .val (.int (Int32.ofNat q)), .val (.int (2 : Int32))] [])) _
      refine XS.iconst X_52.here hx rfl (hb hby d3_70) ?_
      show Steps p.tables e below (T_52.setTop (mkF m 71 #[.val (.ref o0), .val (.ref o1), .val (.int (Int32.ofNat q)), .val (.int (2 : Int32))] [(.int (1 : Int32))])) _
      refine XS.goto X_52.here hx rfl (pc0 := 71) (pc' := 75) rfl (hb hby d3_71) (by decide) (by decide) ?_
      exact kt
    exact Got.retN (y := (1 : Int32)) (t := .boolean) X_52 hx Bd.returns (by simp) hlk (hb hby d3_75) (by decide) ⟨N_52, e_52⟩ (by decide) (by decide)
  have J34 : ∀ (T_34 : State) (L_34 : List Loc), Stand p l e ({ frames := 0, cells := 0, slots := 0, locals := 0 } : Room) s m #[(.ref o0), (.ref o1), (.int (Int32.ofNat q)), (.int (2 : Int32))] below meth c T_34 L_34 0 0 → T_34.heap = h0 → Fr n0 L_34 → Got p e below s (PureP n0 h0) 0 0 (some (.int (fE2_34 u0 u1 u2 u3 ss q ))) T_34 (mkF m 34 #[.val (.ref o0), .val (.ref o1), .val (.int (Int32.ofNat q)), .val (.int (2 : Int32))] []) := by
    intro T_34 L_34 X_34 e_34 N_34 
    refine Got.step (T' := T_34) (g' := (mkF m 52 #[.val (.ref o0), .val (.ref o1), .val (.int (Int32.ofNat q)), .val (.int (2 : Int32))] [])) (fun tq kt => ?_) ?_
    · show Steps p.tables e below (T_34.setTop (mkF m 34 #[.val (.ref o0), .val (.ref o1), .val (.int (Int32.ofNat q)), .val (.int (2 : Int32))] [])) _
      refine XS.iloadN X_34.here hx rfl (hb hby d3_34) rfl ?_
      show Steps p.tables e below (T_34.setTop (mkF m 35 #[.val (.ref o0), .val (.ref o1), .val (.int (Int32.ofNat q)), .val (.int (2 : Int32))] [(.int (2 : Int32))])) _
      refine XS.iconst X_34.here hx rfl (hb hby d3_35) ?_
      show Steps p.tables e below (T_34.setTop (mkF m 36 #[.val (.ref o0), .val (.ref o1), .val (.int (Int32.ofNat q)), .val (.int (2 : Int32))] [(.int (3 : Int32)), (.int (2 : Int32))])) _
      refine XS.icmpYes X_34.here hx rfl (pc0 := 36) (pc' := 52) rfl (hb hby d3_36) rfl (XT.ii_lt_t (by decide)) (by decide) (by decide) ?_
      exact kt
    exact J52 _ _ X_34 e_34 N_34 
  have J16 : ∀ (T_16 : State) (L_16 : List Loc), Stand p l e ({ frames := 0, cells := 0, slots := 0, locals := 0 } : Room) s m #[(.ref o0), (.ref o1), (.int (Int32.ofNat q)), (.int (2 : Int32))] below meth c T_16 L_16 0 0 → T_16.heap = h0 → Fr n0 L_16 → Got p e below s (PureP n0 h0) 0 0 (some (.int (fE2_16 u0 u1 u2 u3 ss q ))) T_16 (mkF m 16 #[.val (.ref o0), .val (.ref o1), .val (.int (Int32.ofNat q)), .val (.int (2 : Int32))] []) := by
    intro T_16 L_16 X_16 e_16 N_16 
    refine Got.step (T' := T_16) (g' := (mkF m 23 #[.val (.ref o0), .val (.ref o1), .val (.int (Int32.ofNat q)), .val (.int (2 : Int32))] [(.int (1 : Int32)), (.ref o0)])) (fun tq kt => ?_) ?_
    · show Steps p.tables e below (T_16.setTop (mkF m 16 #[.val (.ref o0), .val (.ref o1), .val (.int (Int32.ofNat q)), .val (.int (2 : Int32))] [])) _
      refine XS.iloadN X_16.here hx rfl (hb hby d3_16) rfl ?_
      show Steps p.tables e below (T_16.setTop (mkF m 17 #[.val (.ref o0), .val (.ref o1), .val (.int (Int32.ofNat q)), .val (.int (2 : Int32))] [(.int (2 : Int32))])) _
      refine XS.iconst X_16.here hx rfl (hb hby d3_17) ?_
      show Steps p.tables e below (T_16.setTop (mkF m 18 #[.val (.ref o0), .val (.ref o1), .val (.int (Int32.ofNat q)), .val (.int (2 : Int32))] [(.int (2 : Int32)), (.int (2 : Int32))])) _
      refine XS.icmpNo X_16.here hx rfl (hb hby d3_18) rfl (XT.ii_lt_f Int32.lt_irrefl) ?_
      show Steps p.tables e below (T_16.setTop (mkF m 21 #[.val (.ref o0), .val (.ref o1), .val (.int (Int32.ofNat q)), .val (.int (2 : Int32))] [])) _
      refine XS.aloadN X_16.here hx rfl (hb hby d3_21) rfl rfl ?_
      show Steps p.tables e below (T_16.setTop (mkF m 22 #[.val (.ref o0), .val (.ref o1), .val (.int (Int32.ofNat q)), .val (.int (2 : Int32))] [(.ref o0)])) _
      refine XS.iconst X_16.here hx rfl (hb hby d3_22) ?_
      exact kt
    obtain ⟨cl366, Ar366, q366, S366, M366, H366, G366⟩ := (id V0)
    have hin366 : ¬ ((1 : Int32) < 0 ∨ cl366.slots.size ≤ ((1 : Int32)).toNatClampNeg) := inb_of S366 (own_e1 hNk (by decide))
    refine Got.step (T' := T_16) (fun tq kt => X_16.iaload hx (j := (1 : Int32)) (v := (.int u1)) (by rw [e_16]; exact Ar366.1) (State.isArrayOf_alike hZ.alike Ar366.2.1) Ar366.2.2 hin366 (H366.at hin366 rfl) (g := (mkF m 23 #[.val (.ref o0), .val (.ref o1), .val (.int (Int32.ofNat q)), .val (.int (2 : Int32))] [(.int (1 : Int32)), (.ref o0)])) rfl rfl (hb hby d3_23) tq kt) ?_
    show Got p e below s _ _ _ _ T_16 (mkF m 24 #[.val (.ref o0), .val (.ref o1), .val (.int (Int32.ofNat q)), .val (.int (2 : Int32))] [(.int u1)])
    refine Got.step (T' := T_16) (g' := (mkF m 30 #[.val (.ref o0), .val (.ref o1), .val (.int (Int32.ofNat q)), .val (.int (2 : Int32))] [(.int (((Int32.ofNat q) - (2 : Int32)) + (1 : Int32))), (.ref o1), (.int u1)])) (fun tq kt => ?_) ?_
    · show Steps p.tables e below (T_16.setTop (mkF m 24 #[.val (.ref o0), .val (.ref o1), .val (.int (Int32.ofNat q)), .val (.int (2 : Int32))] [(.int u1)])) _
      refine XS.aloadN X_16.here hx rfl (hb hby d3_24) rfl rfl ?_
      show Steps p.tables e below (T_16.setTop (mkF m 25 #[.val (.ref o0), .val (.ref o1), .val (.int (Int32.ofNat q)), .val (.int (2 : Int32))] [(.ref o1), (.int u1)])) _
      refine XS.iloadN X_16.here hx rfl (hb hby d3_25) rfl ?_
      show Steps p.tables e below (T_16.setTop (mkF m 26 #[.val (.ref o0), .val (.ref o1), .val (.int (Int32.ofNat q)), .val (.int (2 : Int32))] [(.int (Int32.ofNat q)), (.ref o1), (.int u1)])) _
      refine XS.iloadN X_16.here hx rfl (hb hby d3_26) rfl ?_
      show Steps p.tables e below (T_16.setTop (mkF m 27 #[.val (.ref o0), .val (.ref o1), .val (.int (Int32.ofNat q)), .val (.int (2 : Int32))] [(.int (2 : Int32)), (.int (Int32.ofNat q)), (.ref o1), (.int u1)])) _
      refine XS.isub X_16.here hx rfl (hb hby d3_27) rfl ?_
      show Steps p.tables e below (T_16.setTop (mkF m 28 #[.val (.ref o0), .val (.ref o1), .val (.int (Int32.ofNat q)), .val (.int (2 : Int32))] [(.int ((Int32.ofNat q) - (2 : Int32))), (.ref o1), (.int u1)])) _
      refine XS.iconst X_16.here hx rfl (hb hby d3_28) ?_
      show Steps p.tables e below (T_16.setTop (mkF m 29 #[.val (.ref o0), .val (.ref o1), .val (.int (Int32.ofNat q)), .val (.int (2 : Int32))] [(.int (1 : Int32)), (.int ((Int32.ofNat q) - (2 : Int32))), (.ref o1), (.int u1)])) _
      refine XS.iadd X_16.here hx rfl (hb hby d3_29) rfl ?_
      exact kt
    obtain ⟨cl367, Ar367, q367, S367, M367, H367, G367⟩ := (id V1)
    have hin367 : ¬ ((((Int32.ofNat q) - (2 : Int32)) + (1 : Int32)) < 0 ∨ cl367.slots.size ≤ ((((Int32.ofNat q) - (2 : Int32)) + (1 : Int32))).toNatClampNeg) := inb_of S367 (own_s2_1 hq)
    refine Got.step (T' := T_16) (fun tq kt => X_16.iaload hx (j := (((Int32.ofNat q) - (2 : Int32)) + (1 : Int32))) (v := (.int (ss.getD (q - 2 + 1) 0))) (by rw [e_16]; exact Ar367.1) (State.isArrayOf_alike hZ.alike Ar367.2.1) Ar367.2.2 hin367 (H367.at hin367 (own_r2_1 hq)) (g := (mkF m 30 #[.val (.ref o0), .val (.ref o1), .val (.int (Int32.ofNat q)), .val (.int (2 : Int32))] [(.int (((Int32.ofNat q) - (2 : Int32)) + (1 : Int32))), (.ref o1), (.int u1)])) rfl rfl (hb hby d3_30) tq kt) ?_
    show Got p e below s _ _ _ _ T_16 (mkF m 31 #[.val (.ref o0), .val (.ref o1), .val (.int (Int32.ofNat q)), .val (.int (2 : Int32))] [(.int (ss.getD (q - 2 + 1) 0)), (.int u1)])
    refine Got.ite (q := (u1 = (ss.getD (q - 2 + 1) 0))) (fun hc368 => ?_) (fun hc368 => ?_)
    · refine Got.step (T' := T_16) (g' := (mkF m 34 #[.val (.ref o0), .val (.ref o1), .val (.int (Int32.ofNat q)), .val (.int (2 : Int32))] [])) (fun tq kt => ?_) ?_
      · show Steps p.tables e below (T_16.setTop (mkF m 31 #[.val (.ref o0), .val (.ref o1), .val (.int (Int32.ofNat q)), .val (.int (2 : Int32))] [(.int (ss.getD (q - 2 + 1) 0)), (.int u1)])) _
        refine XS.icmpNo X_16.here hx rfl (hb hby d3_31) rfl (XT.ii_ne_f hc368) ?_
        exact kt
      exact J34 _ _ X_16 e_16 N_16 
    · refine Got.step (T' := T_16) (g' := (mkF m 75 #[.val (.ref o0), .val (.ref o1), .val (.int (Int32.ofNat q)), .val (.int (2 : Int32))] [(.int (0 : Int32))])) (fun tq kt => ?_) ?_
      · show Steps p.tables e below (T_16.setTop (mkF m 31 #[.val (.ref o0), .val (.ref o1), .val (.int (Int32.ofNat q)), .val (.int (2 : Int32))] [(.int (ss.getD (q - 2 + 1) 0)), (.int u1)])) _
        refine XS.icmpYes X_16.here hx rfl (pc0 := 31) (pc' := 74) rfl (hb hby d3_31) rfl (XT.ii_ne_t hc368) (by decide) (by decide) ?_
        show Steps p.tables e below (T_16.setTop (mkF m 74 #[.val (.ref o0), .val (.ref o1), .val (.int (Int32.ofNat q)), .val (.int (2 : Int32))] [])) _
        refine XS.iconst X_16.here hx rfl (hb hby d3_74) ?_
        exact kt
      exact Got.retN (y := (0 : Int32)) (t := .boolean) X_16 hx Bd.returns (by simp) hlk (hb hby d3_75) (by decide) ⟨N_16, e_16⟩ (by decide) (by decide)
  refine Got.step (T' := s₁) (g' := (mkF m 7 #[.val (.ref o0), .val (.ref o1), .val (.int (Int32.ofNat q)), .val (.int (2 : Int32))] [(.int (0 : Int32)), (.ref o0)])) (fun tq kt => ?_) ?_
  · show Steps p.tables e below (s₁.setTop (mkF m 0 #[.val (.ref o0), .val (.ref o1), .val (.int (Int32.ofNat q)), .val (.int (2 : Int32))] [])) _
    refine XS.iloadN X0.here hx rfl (hb hby d3_0) rfl ?_
    show Steps p.tables e below (s₁.setTop (mkF m 1 #[.val (.ref o0), .val (.ref o1), .val (.int (Int32.ofNat q)), .val (.int (2 : Int32))] [(.int (2 : Int32))])) _
    refine XS.iconst X0.here hx rfl (hb hby d3_1) ?_
    show Steps p.tables e below (s₁.setTop (mkF m 2 #[.val (.ref o0), .val (.ref o1), .val (.int (Int32.ofNat q)), .val (.int (2 : Int32))] [(.int (1 : Int32)), (.int (2 : Int32))])) _
    refine XS.icmpNo X0.here hx rfl (hb hby d3_2) rfl (XT.ii_lt_f (by decide)) ?_
    show Steps p.tables e below (s₁.setTop (mkF m 5 #[.val (.ref o0), .val (.ref o1), .val (.int (Int32.ofNat q)), .val (.int (2 : Int32))] [])) _
    refine XS.aloadN X0.here hx rfl (hb hby d3_5) rfl rfl ?_
    show Steps p.tables e below (s₁.setTop (mkF m 6 #[.val (.ref o0), .val (.ref o1), .val (.int (Int32.ofNat q)), .val (.int (2 : Int32))] [(.ref o0)])) _
    refine XS.iconst X0.here hx rfl (hb hby d3_6) ?_
    exact kt
  obtain ⟨cl363, Ar363, q363, S363, M363, H363, G363⟩ := (id V0)
  have hin363 : ¬ ((0 : Int32) < 0 ∨ cl363.slots.size ≤ ((0 : Int32)).toNatClampNeg) := inb_of S363 (own_e0 hNk (by decide))
  refine Got.step (T' := s₁) (fun tq kt => X0.iaload hx (j := (0 : Int32)) (v := (.int u0)) (by rw [e0]; exact Ar363.1) (State.isArrayOf_alike hZ.alike Ar363.2.1) Ar363.2.2 hin363 (H363.at hin363 rfl) (g := (mkF m 7 #[.val (.ref o0), .val (.ref o1), .val (.int (Int32.ofNat q)), .val (.int (2 : Int32))] [(.int (0 : Int32)), (.ref o0)])) rfl rfl (hb hby d3_7) tq kt) ?_
  show Got p e below s _ _ _ _ s₁ (mkF m 8 #[.val (.ref o0), .val (.ref o1), .val (.int (Int32.ofNat q)), .val (.int (2 : Int32))] [(.int u0)])
  refine Got.step (T' := s₁) (g' := (mkF m 12 #[.val (.ref o0), .val (.ref o1), .val (.int (Int32.ofNat q)), .val (.int (2 : Int32))] [(.int ((Int32.ofNat q) - (2 : Int32))), (.ref o1), (.int u0)])) (fun tq kt => ?_) ?_
  · show Steps p.tables e below (s₁.setTop (mkF m 8 #[.val (.ref o0), .val (.ref o1), .val (.int (Int32.ofNat q)), .val (.int (2 : Int32))] [(.int u0)])) _
    refine XS.aloadN X0.here hx rfl (hb hby d3_8) rfl rfl ?_
    show Steps p.tables e below (s₁.setTop (mkF m 9 #[.val (.ref o0), .val (.ref o1), .val (.int (Int32.ofNat q)), .val (.int (2 : Int32))] [(.ref o1), (.int u0)])) _
    refine XS.iloadN X0.here hx rfl (hb hby d3_9) rfl ?_
    show Steps p.tables e below (s₁.setTop (mkF m 10 #[.val (.ref o0), .val (.ref o1), .val (.int (Int32.ofNat q)), .val (.int (2 : Int32))] [(.int (Int32.ofNat q)), (.ref o1), (.int u0)])) _
    refine XS.iloadN X0.here hx rfl (hb hby d3_10) rfl ?_
    show Steps p.tables e below (s₁.setTop (mkF m 11 #[.val (.ref o0), .val (.ref o1), .val (.int (Int32.ofNat q)), .val (.int (2 : Int32))] [(.int (2 : Int32)), (.int (Int32.ofNat q)), (.ref o1), (.int u0)])) _
    refine XS.isub X0.here hx rfl (hb hby d3_11) rfl ?_
    exact kt
  obtain ⟨cl364, Ar364, q364, S364, M364, H364, G364⟩ := (id V1)
  have hin364 : ¬ (((Int32.ofNat q) - (2 : Int32)) < 0 ∨ cl364.slots.size ≤ (((Int32.ofNat q) - (2 : Int32))).toNatClampNeg) := inb_of S364 (own_s2_0 hq)
  refine Got.step (T' := s₁) (fun tq kt => X0.iaload hx (j := ((Int32.ofNat q) - (2 : Int32))) (v := (.int (ss.getD (q - 2) 0))) (by rw [e0]; exact Ar364.1) (State.isArrayOf_alike hZ.alike Ar364.2.1) Ar364.2.2 hin364 (H364.at hin364 (own_r2_0 hq)) (g := (mkF m 12 #[.val (.ref o0), .val (.ref o1), .val (.int (Int32.ofNat q)), .val (.int (2 : Int32))] [(.int ((Int32.ofNat q) - (2 : Int32))), (.ref o1), (.int u0)])) rfl rfl (hb hby d3_12) tq kt) ?_
  show Got p e below s _ _ _ _ s₁ (mkF m 13 #[.val (.ref o0), .val (.ref o1), .val (.int (Int32.ofNat q)), .val (.int (2 : Int32))] [(.int (ss.getD (q - 2) 0)), (.int u0)])
  refine Got.ite (q := (u0 = (ss.getD (q - 2) 0))) (fun hc365 => ?_) (fun hc365 => ?_)
  · refine Got.step (T' := s₁) (g' := (mkF m 16 #[.val (.ref o0), .val (.ref o1), .val (.int (Int32.ofNat q)), .val (.int (2 : Int32))] [])) (fun tq kt => ?_) ?_
    · show Steps p.tables e below (s₁.setTop (mkF m 13 #[.val (.ref o0), .val (.ref o1), .val (.int (Int32.ofNat q)), .val (.int (2 : Int32))] [(.int (ss.getD (q - 2) 0)), (.int u0)])) _
      refine XS.icmpNo X0.here hx rfl (hb hby d3_13) rfl (XT.ii_ne_f hc365) ?_
      exact kt
    exact J16 _ _ X0 e0 N0 
  · refine Got.step (T' := s₁) (g' := (mkF m 75 #[.val (.ref o0), .val (.ref o1), .val (.int (Int32.ofNat q)), .val (.int (2 : Int32))] [(.int (0 : Int32))])) (fun tq kt => ?_) ?_
    · show Steps p.tables e below (s₁.setTop (mkF m 13 #[.val (.ref o0), .val (.ref o1), .val (.int (Int32.ofNat q)), .val (.int (2 : Int32))] [(.int (ss.getD (q - 2) 0)), (.int u0)])) _
      refine XS.icmpYes X0.here hx rfl (pc0 := 13) (pc' := 74) rfl (hb hby d3_13) rfl (XT.ii_ne_t hc365) (by decide) (by decide) ?_
      show Steps p.tables e below (s₁.setTop (mkF m 74 #[.val (.ref o0), .val (.ref o1), .val (.int (Int32.ofNat q)), .val (.int (2 : Int32))] [])) _
      refine XS.iconst X0.here hx rfl (hb hby d3_74) ?_
      exact kt
    exact Got.retN (y := (0 : Int32)) (t := .boolean) X0 hx Bd.returns (by simp) hlk (hb hby d3_75) (by decide) ⟨N0, e0⟩ (by decide) (by decide)
def fE3_52 (u0 : Int32) (u1 : Int32) (u2 : Int32) (u3 : Int32) (ss : List Int32) (q : Nat)  : Int32 := (1 : Int32)
def fE3_34 (u0 : Int32) (u1 : Int32) (u2 : Int32) (u3 : Int32) (ss : List Int32) (q : Nat)  : Int32 := (if u2 = (ss.getD (q - 3 + 2) 0) then (fE3_52 u0 u1 u2 u3 ss q ) else (0 : Int32))
def fE3_16 (u0 : Int32) (u1 : Int32) (u2 : Int32) (u3 : Int32) (ss : List Int32) (q : Nat)  : Int32 := (if u1 = (ss.getD (q - 3 + 1) 0) then (fE3_34 u0 u1 u2 u3 ss q ) else (0 : Int32))
def fE3 (u0 : Int32) (u1 : Int32) (u2 : Int32) (u3 : Int32) (ss : List Int32) (q : Nat)  : Int32 := (if u0 = (ss.getD (q - 3) 0) then (fE3_16 u0 u1 u2 u3 ss q ) else (0 : Int32))
theorem ef_E3 (m : MethodId) (x0 : Addr) (x1 : Addr) (x2 : Int32) (x3 : Int32) : entryFrame m #[(.ref x0), (.ref x1), (.int x2), (.int x3)] 4 = mkF m 0 #[.val (.ref x0), .val (.ref x1), .val (.int x2), .val (.int x3)] [] := by first | (simp [entryFrame, mkF, argsToLocals, Value.category]; done) | rfl
theorem d3_39 : decode method_3_code 39 = .ok (.aload_n 0, 1) := by decide +kernel
theorem d3_40 : decode method_3_code 40 = .ok (.iconst 2, 1) := by decide +kernel
theorem d3_41 : decode method_3_code 41 = .ok (.iaload, 1) := by decide +kernel
theorem d3_42 : decode method_3_code 42 = .ok (.aload_n 1, 1) := by decide +kernel
theorem d3_43 : decode method_3_code 43 = .ok (.iload_n 2, 1) := by decide +kernel
theorem d3_44 : decode method_3_code 44 = .ok (.iload_n 3, 1) := by decide +kernel
theorem d3_45 : decode method_3_code 45 = .ok (.isub, 1) := by decide +kernel
theorem d3_46 : decode method_3_code 46 = .ok (.iconst 2, 1) := by decide +kernel
theorem d3_47 : decode method_3_code 47 = .ok (.iadd, 1) := by decide +kernel
theorem d3_48 : decode method_3_code 48 = .ok (.iaload, 1) := by decide +kernel
theorem d3_49 : decode method_3_code 49 = .ok (.if_icmp .ne 25, 3) := by decide +kernel
set_option maxRecDepth 65536 in
set_option maxHeartbeats 40000000 in
theorem rmE3 (l : Launch) (Z : State) (a0 : Array Value) (hw : ∀ d ∈ tables_1, d.before a0 Z = true) (ws : List Jvm.Cond) (o0 o1 : Addr) (q : Nat) (u0 u1 u2 u3 : Int32) (ss : List Int32) (ku ks : ClassId) (N : Nat) (h0 : Heap) (n0 : Nat) (Z0 : n0 ≤ h0.size) (V0 : Arv Z h0 o0 ku .int (Int32.ofNat N) [(.int u0), (.int u1), (.int u2), (.int u3)] (.int (0 : Int32))) (V1 : Arv Z h0 o1 ks .int (5 : Int32) (ss.map Value.int) (.int (0 : Int32))) (hNk : 3 ≤ N ∧ N ≤ 4) (hq : 3 ≤ q ∧ q ≤ 5) :
    MetFree l (⟨"com/example/sidestep/sidestep/CompiledPatternAdvancePinLaw", "ends", "([I[III)Z"⟩ : MethodName) (head1 (Jvm.Cond.code (⟨"com/example/sidestep/sidestep/CompiledPatternAdvancePinLaw", "ends", "([I[III)Z"⟩ : MethodName) method_3_code 4 (some .boolean) :: ws) ({ frames := 0, cells := 0, slots := 0, locals := 0 } : Room)) (fun a U => a = #[(.ref o0), (.ref o1), (.int (Int32.ofNat q)), (.int (3 : Int32))] ∧ Z.Warmed39 U.vm ∧ U.heap = h0) (fun _ _ _ _ _ => True) (fun _ U o U' => ∃ v L, o = .returned v ∧ QV (some (.int (fE3 u0 u1 u2 u3 ss q))) (PureP n0 h0) v U'.heap L ∧ FrameEnd U o U' L ({ frames := 0, cells := 0, slots := 0, locals := 0 } : Room).cells ({ frames := 0, cells := 0, slots := 0, locals := 0 } : Room).slots) := by
  refine MetFree.of_bodySF (plainFor_of_name pn_0) hisR ?_
  intro p e s m args below meth c s₁ Bd hml0 hP hK
  obtain ⟨rfl, hZ, hh⟩ := hP
  have hx := Bd.exec
  have hby := Bd.bytes
  have hml : c.maxLocals = 4 := hml0
  have hown : s.vm.findClass "com/example/sidestep/sidestep/CompiledPatternAdvancePinLaw" = some m.cls := findClass_of_methodNamed Bd.named
  have hnm := (name_of_methodNamed Bd.named Bd.method).1
  have hlk : meth.locks = false := BodyLoose.notSynchronized Bd
  have X0 : Stand p l e ({ frames := 0, cells := 0, slots := 0, locals := 0 } : Room) s m #[(.ref o0), (.ref o1), (.int (Int32.ofNat q)), (.int (3 : Int32))] below meth c s₁ [] 0 0 := Stand.of_body Bd
  have e0 : s₁.heap = h0 := by rw [← hh, Bd.state]; rfl
  have N0 := Fr.nil n0
  refine Got.body (ef_E3 m o0 o1 (Int32.ofNat q) (3 : Int32)) ?_
  have J52 : ∀ (T_52 : State) (L_52 : List Loc), Stand p l e ({ frames := 0, cells := 0, slots := 0, locals := 0 } : Room) s m #[(.ref o0), (.ref o1), (.int (Int32.ofNat q)), (.int (3 : Int32))] below meth c T_52 L_52 0 0 → T_52.heap = h0 → Fr n0 L_52 → Got p e below s (PureP n0 h0) 0 0 (some (.int (fE3_52 u0 u1 u2 u3 ss q ))) T_52 (mkF m 52 #[.val (.ref o0), .val (.ref o1), .val (.int (Int32.ofNat q)), .val (.int (3 : Int32))] []) := by
    intro T_52 L_52 X_52 e_52 N_52 
    refine Got.step (T' := T_52) (g' := (mkF m 75 #[.val (.ref o0), .val (.ref o1), .val (.int (Int32.ofNat q)), .val (.int (3 : Int32))] [(.int (1 : Int32))])) (fun tq kt => ?_) ?_
    · show Steps p.tables e below (T_52.setTop (mkF m 52 #[.val (.ref o0), .val (.ref o1), .val (.int (Int32.ofNat q)), .val (.int (3 : Int32))] [])) _
      refine XS.iloadN X_52.here hx rfl (hb hby d3_52) rfl ?_
      show Steps p.tables e below (T_52.setTop (mkF m 53 #[.val (.ref o0), .val (.ref o1), .val (.int (Int32.ofNat q)), .val (.int (3 : Int32))] [(.int (3 : Int32))])) _
      refine XS.iconst X_52.here hx rfl (hb hby d3_53) ?_
      show Steps p.tables e below (T_52.setTop (mkF m 54 #[.val (.ref o0), .val (.ref o1), .val (.int (Int32.ofNat q)), .val (.int (3 : Int32))] [(.int (4 : Int32)), (.int (3 : Int32))])) _
      refine XS.icmpYes X_52.here hx rfl (pc0 := 54) (pc' := 70) rfl (hb hby d3_54) rfl (XT.ii_lt_t (by decide)) (by decide) (by decide) ?_
      show Steps p.tables e below (T_52.setTop (mkF m 70 #[.val (.ref o0), .val (.ref o1), .val (.int (Int32.ofNat q)), .val (.int (3 : Int32))] [])) _
      refine XS.iconst X_52.here hx rfl (hb hby d3_70) ?_
      show Steps p.tables e below (T_52.setTop (mkF m 71 #[.val (.ref o0), .val (.ref o1), .val (.int (Int32.ofNat q)), .val (.int (3 : Int32))] [(.int (1 : Int32))])) _
      refine XS.goto X_52.here hx rfl (pc0 := 71) (pc' := 75) rfl (hb hby d3_71) (by decide) (by decide) ?_
      exact kt
    exact Got.retN (y := (1 : Int32)) (t := .boolean) X_52 hx Bd.returns (by simp) hlk (hb hby d3_75) (by decide) ⟨N_52, e_52⟩ (by decide) (by decide)
  have J34 : ∀ (T_34 : State) (L_34 : List Loc), Stand p l e ({ frames := 0, cells := 0, slots := 0, locals := 0 } : Room) s m #[(.ref o0), (.ref o1), (.int (Int32.ofNat q)), (.int (3 : Int32))] below meth c T_34 L_34 0 0 → T_34.heap = h0 → Fr n0 L_34 → Got p e below s (PureP n0 h0) 0 0 (some (.int (fE3_34 u0 u1 u2 u3 ss q ))) T_34 (mkF m 34 #[.val (.ref o0), .val (.ref o1), .val (.int (Int32.ofNat q)), .val (.int (3 : Int32))] []) := by
    intro T_34 L_34 X_34 e_34 N_34 
    refine Got.step (T' := T_34) (g' := (mkF m 41 #[.val (.ref o0), .val (.ref o1), .val (.int (Int32.ofNat q)), .val (.int (3 : Int32))] [(.int (2 : Int32)), (.ref o0)])) (fun tq kt => ?_) ?_
    · show Steps p.tables e below (T_34.setTop (mkF m 34 #[.val (.ref o0), .val (.ref o1), .val (.int (Int32.ofNat q)), .val (.int (3 : Int32))] [])) _
      refine XS.iloadN X_34.here hx rfl (hb hby d3_34) rfl ?_
      show Steps p.tables e below (T_34.setTop (mkF m 35 #[.val (.ref o0), .val (.ref o1), .val (.int (Int32.ofNat q)), .val (.int (3 : Int32))] [(.int (3 : Int32))])) _
      refine XS.iconst X_34.here hx rfl (hb hby d3_35) ?_
      show Steps p.tables e below (T_34.setTop (mkF m 36 #[.val (.ref o0), .val (.ref o1), .val (.int (Int32.ofNat q)), .val (.int (3 : Int32))] [(.int (3 : Int32)), (.int (3 : Int32))])) _
      refine XS.icmpNo X_34.here hx rfl (hb hby d3_36) rfl (XT.ii_lt_f Int32.lt_irrefl) ?_
      show Steps p.tables e below (T_34.setTop (mkF m 39 #[.val (.ref o0), .val (.ref o1), .val (.int (Int32.ofNat q)), .val (.int (3 : Int32))] [])) _
      refine XS.aloadN X_34.here hx rfl (hb hby d3_39) rfl rfl ?_
      show Steps p.tables e below (T_34.setTop (mkF m 40 #[.val (.ref o0), .val (.ref o1), .val (.int (Int32.ofNat q)), .val (.int (3 : Int32))] [(.ref o0)])) _
      refine XS.iconst X_34.here hx rfl (hb hby d3_40) ?_
      exact kt
    obtain ⟨cl375, Ar375, q375, S375, M375, H375, G375⟩ := (id V0)
    have hin375 : ¬ ((2 : Int32) < 0 ∨ cl375.slots.size ≤ ((2 : Int32)).toNatClampNeg) := inb_of S375 (own_e2 hNk (by decide))
    refine Got.step (T' := T_34) (fun tq kt => X_34.iaload hx (j := (2 : Int32)) (v := (.int u2)) (by rw [e_34]; exact Ar375.1) (State.isArrayOf_alike hZ.alike Ar375.2.1) Ar375.2.2 hin375 (H375.at hin375 rfl) (g := (mkF m 41 #[.val (.ref o0), .val (.ref o1), .val (.int (Int32.ofNat q)), .val (.int (3 : Int32))] [(.int (2 : Int32)), (.ref o0)])) rfl rfl (hb hby d3_41) tq kt) ?_
    show Got p e below s _ _ _ _ T_34 (mkF m 42 #[.val (.ref o0), .val (.ref o1), .val (.int (Int32.ofNat q)), .val (.int (3 : Int32))] [(.int u2)])
    refine Got.step (T' := T_34) (g' := (mkF m 48 #[.val (.ref o0), .val (.ref o1), .val (.int (Int32.ofNat q)), .val (.int (3 : Int32))] [(.int (((Int32.ofNat q) - (3 : Int32)) + (2 : Int32))), (.ref o1), (.int u2)])) (fun tq kt => ?_) ?_
    · show Steps p.tables e below (T_34.setTop (mkF m 42 #[.val (.ref o0), .val (.ref o1), .val (.int (Int32.ofNat q)), .val (.int (3 : Int32))] [(.int u2)])) _
      refine XS.aloadN X_34.here hx rfl (hb hby d3_42) rfl rfl ?_
      show Steps p.tables e below (T_34.setTop (mkF m 43 #[.val (.ref o0), .val (.ref o1), .val (.int (Int32.ofNat q)), .val (.int (3 : Int32))] [(.ref o1), (.int u2)])) _
      refine XS.iloadN X_34.here hx rfl (hb hby d3_43) rfl ?_
      show Steps p.tables e below (T_34.setTop (mkF m 44 #[.val (.ref o0), .val (.ref o1), .val (.int (Int32.ofNat q)), .val (.int (3 : Int32))] [(.int (Int32.ofNat q)), (.ref o1), (.int u2)])) _
      refine XS.iloadN X_34.here hx rfl (hb hby d3_44) rfl ?_
      show Steps p.tables e below (T_34.setTop (mkF m 45 #[.val (.ref o0), .val (.ref o1), .val (.int (Int32.ofNat q)), .val (.int (3 : Int32))] [(.int (3 : Int32)), (.int (Int32.ofNat q)), (.ref o1), (.int u2)])) _
      refine XS.isub X_34.here hx rfl (hb hby d3_45) rfl ?_
      show Steps p.tables e below (T_34.setTop (mkF m 46 #[.val (.ref o0), .val (.ref o1), .val (.int (Int32.ofNat q)), .val (.int (3 : Int32))] [(.int ((Int32.ofNat q) - (3 : Int32))), (.ref o1), (.int u2)])) _
      refine XS.iconst X_34.here hx rfl (hb hby d3_46) ?_
      show Steps p.tables e below (T_34.setTop (mkF m 47 #[.val (.ref o0), .val (.ref o1), .val (.int (Int32.ofNat q)), .val (.int (3 : Int32))] [(.int (2 : Int32)), (.int ((Int32.ofNat q) - (3 : Int32))), (.ref o1), (.int u2)])) _
      refine XS.iadd X_34.here hx rfl (hb hby d3_47) rfl ?_
      exact kt
    obtain ⟨cl376, Ar376, q376, S376, M376, H376, G376⟩ := (id V1)
    have hin376 : ¬ ((((Int32.ofNat q) - (3 : Int32)) + (2 : Int32)) < 0 ∨ cl376.slots.size ≤ ((((Int32.ofNat q) - (3 : Int32)) + (2 : Int32))).toNatClampNeg) := inb_of S376 (own_s3_2 hq)
    refine Got.step (T' := T_34) (fun tq kt => X_34.iaload hx (j := (((Int32.ofNat q) - (3 : Int32)) + (2 : Int32))) (v := (.int (ss.getD (q - 3 + 2) 0))) (by rw [e_34]; exact Ar376.1) (State.isArrayOf_alike hZ.alike Ar376.2.1) Ar376.2.2 hin376 (H376.at hin376 (own_r3_2 hq)) (g := (mkF m 48 #[.val (.ref o0), .val (.ref o1), .val (.int (Int32.ofNat q)), .val (.int (3 : Int32))] [(.int (((Int32.ofNat q) - (3 : Int32)) + (2 : Int32))), (.ref o1), (.int u2)])) rfl rfl (hb hby d3_48) tq kt) ?_
    show Got p e below s _ _ _ _ T_34 (mkF m 49 #[.val (.ref o0), .val (.ref o1), .val (.int (Int32.ofNat q)), .val (.int (3 : Int32))] [(.int (ss.getD (q - 3 + 2) 0)), (.int u2)])
    refine Got.ite (q := (u2 = (ss.getD (q - 3 + 2) 0))) (fun hc377 => ?_) (fun hc377 => ?_)
    · refine Got.step (T' := T_34) (g' := (mkF m 52 #[.val (.ref o0), .val (.ref o1), .val (.int (Int32.ofNat q)), .val (.int (3 : Int32))] [])) (fun tq kt => ?_) ?_
      · show Steps p.tables e below (T_34.setTop (mkF m 49 #[.val (.ref o0), .val (.ref o1), .val (.int (Int32.ofNat q)), .val (.int (3 : Int32))] [(.int (ss.getD (q - 3 + 2) 0)), (.int u2)])) _
        refine XS.icmpNo X_34.here hx rfl (hb hby d3_49) rfl (XT.ii_ne_f hc377) ?_
        exact kt
      exact J52 _ _ X_34 e_34 N_34 
    · refine Got.step (T' := T_34) (g' := (mkF m 75 #[.val (.ref o0), .val (.ref o1), .val (.int (Int32.ofNat q)), .val (.int (3 : Int32))] [(.int (0 : Int32))])) (fun tq kt => ?_) ?_
      · show Steps p.tables e below (T_34.setTop (mkF m 49 #[.val (.ref o0), .val (.ref o1), .val (.int (Int32.ofNat q)), .val (.int (3 : Int32))] [(.int (ss.getD (q - 3 + 2) 0)), (.int u2)])) _
        refine XS.icmpYes X_34.here hx rfl (pc0 := 49) (pc' := 74) rfl (hb hby d3_49) rfl (XT.ii_ne_t hc377) (by decide) (by decide) ?_
        show Steps p.tables e below (T_34.setTop (mkF m 74 #[.val (.ref o0), .val (.ref o1), .val (.int (Int32.ofNat q)), .val (.int (3 : Int32))] [])) _
        refine XS.iconst X_34.here hx rfl (hb hby d3_74) ?_
        exact kt
      exact Got.retN (y := (0 : Int32)) (t := .boolean) X_34 hx Bd.returns (by simp) hlk (hb hby d3_75) (by decide) ⟨N_34, e_34⟩ (by decide) (by decide)
  have J16 : ∀ (T_16 : State) (L_16 : List Loc), Stand p l e ({ frames := 0, cells := 0, slots := 0, locals := 0 } : Room) s m #[(.ref o0), (.ref o1), (.int (Int32.ofNat q)), (.int (3 : Int32))] below meth c T_16 L_16 0 0 → T_16.heap = h0 → Fr n0 L_16 → Got p e below s (PureP n0 h0) 0 0 (some (.int (fE3_16 u0 u1 u2 u3 ss q ))) T_16 (mkF m 16 #[.val (.ref o0), .val (.ref o1), .val (.int (Int32.ofNat q)), .val (.int (3 : Int32))] []) := by
    intro T_16 L_16 X_16 e_16 N_16 
    refine Got.step (T' := T_16) (g' := (mkF m 23 #[.val (.ref o0), .val (.ref o1), .val (.int (Int32.ofNat q)), .val (.int (3 : Int32))] [(.int (1 : Int32)), (.ref o0)])) (fun tq kt => ?_) ?_
    · show Steps p.tables e below (T_16.setTop (mkF m 16 #[.val (.ref o0), .val (.ref o1), .val (.int (Int32.ofNat q)), .val (.int (3 : Int32))] [])) _
      refine XS.iloadN X_16.here hx rfl (hb hby d3_16) rfl ?_
      show Steps p.tables e below (T_16.setTop (mkF m 17 #[.val (.ref o0), .val (.ref o1), .val (.int (Int32.ofNat q)), .val (.int (3 : Int32))] [(.int (3 : Int32))])) _
      refine XS.iconst X_16.here hx rfl (hb hby d3_17) ?_
      show Steps p.tables e below (T_16.setTop (mkF m 18 #[.val (.ref o0), .val (.ref o1), .val (.int (Int32.ofNat q)), .val (.int (3 : Int32))] [(.int (2 : Int32)), (.int (3 : Int32))])) _
      refine XS.icmpNo X_16.here hx rfl (hb hby d3_18) rfl (XT.ii_lt_f (by decide)) ?_
      show Steps p.tables e below (T_16.setTop (mkF m 21 #[.val (.ref o0), .val (.ref o1), .val (.int (Int32.ofNat q)), .val (.int (3 : Int32))] [])) _
      refine XS.aloadN X_16.here hx rfl (hb hby d3_21) rfl rfl ?_
      show Steps p.tables e below (T_16.setTop (mkF m 22 #[.val (.ref o0), .val (.ref o1), .val (.int (Int32.ofNat q)), .val (.int (3 : Int32))] [(.ref o0)])) _
      refine XS.iconst X_16.here hx rfl (hb hby d3_22) ?_
      exact kt
    obtain ⟨cl372, Ar372, q372, S372, M372, H372, G372⟩ := (id V0)
    have hin372 : ¬ ((1 : Int32) < 0 ∨ cl372.slots.size ≤ ((1 : Int32)).toNatClampNeg) := inb_of S372 (own_e1 hNk (by decide))
    refine Got.step (T' := T_16) (fun tq kt => X_16.iaload hx (j := (1 : Int32)) (v := (.int u1)) (by rw [e_16]; exact Ar372.1) (State.isArrayOf_alike hZ.alike Ar372.2.1) Ar372.2.2 hin372 (H372.at hin372 rfl) (g := (mkF m 23 #[.val (.ref o0), .val (.ref o1), .val (.int (Int32.ofNat q)), .val (.int (3 : Int32))] [(.int (1 : Int32)), (.ref o0)])) rfl rfl (hb hby d3_23) tq kt) ?_
    show Got p e below s _ _ _ _ T_16 (mkF m 24 #[.val (.ref o0), .val (.ref o1), .val (.int (Int32.ofNat q)), .val (.int (3 : Int32))] [(.int u1)])
    refine Got.step (T' := T_16) (g' := (mkF m 30 #[.val (.ref o0), .val (.ref o1), .val (.int (Int32.ofNat q)), .val (.int (3 : Int32))] [(.int (((Int32.ofNat q) - (3 : Int32)) + (1 : Int32))), (.ref o1), (.int u1)])) (fun tq kt => ?_) ?_
    · show Steps p.tables e below (T_16.setTop (mkF m 24 #[.val (.ref o0), .val (.ref o1), .val (.int (Int32.ofNat q)), .val (.int (3 : Int32))] [(.int u1)])) _
      refine XS.aloadN X_16.here hx rfl (hb hby d3_24) rfl rfl ?_
      show Steps p.tables e below (T_16.setTop (mkF m 25 #[.val (.ref o0), .val (.ref o1), .val (.int (Int32.ofNat q)), .val (.int (3 : Int32))] [(.ref o1), (.int u1)])) _
      refine XS.iloadN X_16.here hx rfl (hb hby d3_25) rfl ?_
      show Steps p.tables e below (T_16.setTop (mkF m 26 #[.val (.ref o0), .val (.ref o1), .val (.int (Int32.ofNat q)), .val (.int (3 : Int32))] [(.int (Int32.ofNat q)), (.ref o1), (.int u1)])) _
      refine XS.iloadN X_16.here hx rfl (hb hby d3_26) rfl ?_
      show Steps p.tables e below (T_16.setTop (mkF m 27 #[.val (.ref o0), .val (.ref o1), .val (.int (Int32.ofNat q)), .val (.int (3 : Int32))] [(.int (3 : Int32)), (.int (Int32.ofNat q)), (.ref o1), (.int u1)])) _
      refine XS.isub X_16.here hx rfl (hb hby d3_27) rfl ?_
      show Steps p.tables e below (T_16.setTop (mkF m 28 #[.val (.ref o0), .val (.ref o1), .val (.int (Int32.ofNat q)), .val (.int (3 : Int32))] [(.int ((Int32.ofNat q) - (3 : Int32))), (.ref o1), (.int u1)])) _
      refine XS.iconst X_16.here hx rfl (hb hby d3_28) ?_
      show Steps p.tables e below (T_16.setTop (mkF m 29 #[.val (.ref o0), .val (.ref o1), .val (.int (Int32.ofNat q)), .val (.int (3 : Int32))] [(.int (1 : Int32)), (.int ((Int32.ofNat q) - (3 : Int32))), (.ref o1), (.int u1)])) _
      refine XS.iadd X_16.here hx rfl (hb hby d3_29) rfl ?_
      exact kt
    obtain ⟨cl373, Ar373, q373, S373, M373, H373, G373⟩ := (id V1)
    have hin373 : ¬ ((((Int32.ofNat q) - (3 : Int32)) + (1 : Int32)) < 0 ∨ cl373.slots.size ≤ ((((Int32.ofNat q) - (3 : Int32)) + (1 : Int32))).toNatClampNeg) := inb_of S373 (own_s3_1 hq)
    refine Got.step (T' := T_16) (fun tq kt => X_16.iaload hx (j := (((Int32.ofNat q) - (3 : Int32)) + (1 : Int32))) (v := (.int (ss.getD (q - 3 + 1) 0))) (by rw [e_16]; exact Ar373.1) (State.isArrayOf_alike hZ.alike Ar373.2.1) Ar373.2.2 hin373 (H373.at hin373 (own_r3_1 hq)) (g := (mkF m 30 #[.val (.ref o0), .val (.ref o1), .val (.int (Int32.ofNat q)), .val (.int (3 : Int32))] [(.int (((Int32.ofNat q) - (3 : Int32)) + (1 : Int32))), (.ref o1), (.int u1)])) rfl rfl (hb hby d3_30) tq kt) ?_
    show Got p e below s _ _ _ _ T_16 (mkF m 31 #[.val (.ref o0), .val (.ref o1), .val (.int (Int32.ofNat q)), .val (.int (3 : Int32))] [(.int (ss.getD (q - 3 + 1) 0)), (.int u1)])
    refine Got.ite (q := (u1 = (ss.getD (q - 3 + 1) 0))) (fun hc374 => ?_) (fun hc374 => ?_)
    · refine Got.step (T' := T_16) (g' := (mkF m 34 #[.val (.ref o0), .val (.ref o1), .val (.int (Int32.ofNat q)), .val (.int (3 : Int32))] [])) (fun tq kt => ?_) ?_
      · show Steps p.tables e below (T_16.setTop (mkF m 31 #[.val (.ref o0), .val (.ref o1), .val (.int (Int32.ofNat q)), .val (.int (3 : Int32))] [(.int (ss.getD (q - 3 + 1) 0)), (.int u1)])) _
        refine XS.icmpNo X_16.here hx rfl (hb hby d3_31) rfl (XT.ii_ne_f hc374) ?_
        exact kt
      exact J34 _ _ X_16 e_16 N_16 
    · refine Got.step (T' := T_16) (g' := (mkF m 75 #[.val (.ref o0), .val (.ref o1), .val (.int (Int32.ofNat q)), .val (.int (3 : Int32))] [(.int (0 : Int32))])) (fun tq kt => ?_) ?_
      · show Steps p.tables e below (T_16.setTop (mkF m 31 #[.val (.ref o0), .val (.ref o1), .val (.int (Int32.ofNat q)), .val (.int (3 : Int32))] [(.int (ss.getD (q - 3 + 1) 0)), (.int u1)])) _
        refine XS.icmpYes X_16.here hx rfl (pc0 := 31) (pc' := 74) rfl (hb hby d3_31) rfl (XT.ii_ne_t hc374) (by decide) (by decide) ?_
        show Steps p.tables e below (T_16.setTop (mkF m 74 #[.val (.ref o0), .val (.ref o1), .val (.int (Int32.ofNat q)), .val (.int (3 : Int32))] [])) _
        refine XS.iconst X_16.here hx rfl (hb hby d3_74) ?_
        exact kt
      exact Got.retN (y := (0 : Int32)) (t := .boolean) X_16 hx Bd.returns (by simp) hlk (hb hby d3_75) (by decide) ⟨N_16, e_16⟩ (by decide) (by decide)
  refine Got.step (T' := s₁) (g' := (mkF m 7 #[.val (.ref o0), .val (.ref o1), .val (.int (Int32.ofNat q)), .val (.int (3 : Int32))] [(.int (0 : Int32)), (.ref o0)])) (fun tq kt => ?_) ?_
  · show Steps p.tables e below (s₁.setTop (mkF m 0 #[.val (.ref o0), .val (.ref o1), .val (.int (Int32.ofNat q)), .val (.int (3 : Int32))] [])) _
    refine XS.iloadN X0.here hx rfl (hb hby d3_0) rfl ?_
    show Steps p.tables e below (s₁.setTop (mkF m 1 #[.val (.ref o0), .val (.ref o1), .val (.int (Int32.ofNat q)), .val (.int (3 : Int32))] [(.int (3 : Int32))])) _
    refine XS.iconst X0.here hx rfl (hb hby d3_1) ?_
    show Steps p.tables e below (s₁.setTop (mkF m 2 #[.val (.ref o0), .val (.ref o1), .val (.int (Int32.ofNat q)), .val (.int (3 : Int32))] [(.int (1 : Int32)), (.int (3 : Int32))])) _
    refine XS.icmpNo X0.here hx rfl (hb hby d3_2) rfl (XT.ii_lt_f (by decide)) ?_
    show Steps p.tables e below (s₁.setTop (mkF m 5 #[.val (.ref o0), .val (.ref o1), .val (.int (Int32.ofNat q)), .val (.int (3 : Int32))] [])) _
    refine XS.aloadN X0.here hx rfl (hb hby d3_5) rfl rfl ?_
    show Steps p.tables e below (s₁.setTop (mkF m 6 #[.val (.ref o0), .val (.ref o1), .val (.int (Int32.ofNat q)), .val (.int (3 : Int32))] [(.ref o0)])) _
    refine XS.iconst X0.here hx rfl (hb hby d3_6) ?_
    exact kt
  obtain ⟨cl369, Ar369, q369, S369, M369, H369, G369⟩ := (id V0)
  have hin369 : ¬ ((0 : Int32) < 0 ∨ cl369.slots.size ≤ ((0 : Int32)).toNatClampNeg) := inb_of S369 (own_e0 hNk (by decide))
  refine Got.step (T' := s₁) (fun tq kt => X0.iaload hx (j := (0 : Int32)) (v := (.int u0)) (by rw [e0]; exact Ar369.1) (State.isArrayOf_alike hZ.alike Ar369.2.1) Ar369.2.2 hin369 (H369.at hin369 rfl) (g := (mkF m 7 #[.val (.ref o0), .val (.ref o1), .val (.int (Int32.ofNat q)), .val (.int (3 : Int32))] [(.int (0 : Int32)), (.ref o0)])) rfl rfl (hb hby d3_7) tq kt) ?_
  show Got p e below s _ _ _ _ s₁ (mkF m 8 #[.val (.ref o0), .val (.ref o1), .val (.int (Int32.ofNat q)), .val (.int (3 : Int32))] [(.int u0)])
  refine Got.step (T' := s₁) (g' := (mkF m 12 #[.val (.ref o0), .val (.ref o1), .val (.int (Int32.ofNat q)), .val (.int (3 : Int32))] [(.int ((Int32.ofNat q) - (3 : Int32))), (.ref o1), (.int u0)])) (fun tq kt => ?_) ?_
  · show Steps p.tables e below (s₁.setTop (mkF m 8 #[.val (.ref o0), .val (.ref o1), .val (.int (Int32.ofNat q)), .val (.int (3 : Int32))] [(.int u0)])) _
    refine XS.aloadN X0.here hx rfl (hb hby d3_8) rfl rfl ?_
    show Steps p.tables e below (s₁.setTop (mkF m 9 #[.val (.ref o0), .val (.ref o1), .val (.int (Int32.ofNat q)), .val (.int (3 : Int32))] [(.ref o1), (.int u0)])) _
    refine XS.iloadN X0.here hx rfl (hb hby d3_9) rfl ?_
    show Steps p.tables e below (s₁.setTop (mkF m 10 #[.val (.ref o0), .val (.ref o1), .val (.int (Int32.ofNat q)), .val (.int (3 : Int32))] [(.int (Int32.ofNat q)), (.ref o1), (.int u0)])) _
    refine XS.iloadN X0.here hx rfl (hb hby d3_10) rfl ?_
    show Steps p.tables e below (s₁.setTop (mkF m 11 #[.val (.ref o0), .val (.ref o1), .val (.int (Int32.ofNat q)), .val (.int (3 : Int32))] [(.int (3 : Int32)), (.int (Int32.ofNat q)), (.ref o1), (.int u0)])) _
    refine XS.isub X0.here hx rfl (hb hby d3_11) rfl ?_
    exact kt
  obtain ⟨cl370, Ar370, q370, S370, M370, H370, G370⟩ := (id V1)
  have hin370 : ¬ (((Int32.ofNat q) - (3 : Int32)) < 0 ∨ cl370.slots.size ≤ (((Int32.ofNat q) - (3 : Int32))).toNatClampNeg) := inb_of S370 (own_s3_0 hq)
  refine Got.step (T' := s₁) (fun tq kt => X0.iaload hx (j := ((Int32.ofNat q) - (3 : Int32))) (v := (.int (ss.getD (q - 3) 0))) (by rw [e0]; exact Ar370.1) (State.isArrayOf_alike hZ.alike Ar370.2.1) Ar370.2.2 hin370 (H370.at hin370 (own_r3_0 hq)) (g := (mkF m 12 #[.val (.ref o0), .val (.ref o1), .val (.int (Int32.ofNat q)), .val (.int (3 : Int32))] [(.int ((Int32.ofNat q) - (3 : Int32))), (.ref o1), (.int u0)])) rfl rfl (hb hby d3_12) tq kt) ?_
  show Got p e below s _ _ _ _ s₁ (mkF m 13 #[.val (.ref o0), .val (.ref o1), .val (.int (Int32.ofNat q)), .val (.int (3 : Int32))] [(.int (ss.getD (q - 3) 0)), (.int u0)])
  refine Got.ite (q := (u0 = (ss.getD (q - 3) 0))) (fun hc371 => ?_) (fun hc371 => ?_)
  · refine Got.step (T' := s₁) (g' := (mkF m 16 #[.val (.ref o0), .val (.ref o1), .val (.int (Int32.ofNat q)), .val (.int (3 : Int32))] [])) (fun tq kt => ?_) ?_
    · show Steps p.tables e below (s₁.setTop (mkF m 13 #[.val (.ref o0), .val (.ref o1), .val (.int (Int32.ofNat q)), .val (.int (3 : Int32))] [(.int (ss.getD (q - 3) 0)), (.int u0)])) _
      refine XS.icmpNo X0.here hx rfl (hb hby d3_13) rfl (XT.ii_ne_f hc371) ?_
      exact kt
    exact J16 _ _ X0 e0 N0 
  · refine Got.step (T' := s₁) (g' := (mkF m 75 #[.val (.ref o0), .val (.ref o1), .val (.int (Int32.ofNat q)), .val (.int (3 : Int32))] [(.int (0 : Int32))])) (fun tq kt => ?_) ?_
    · show Steps p.tables e below (s₁.setTop (mkF m 13 #[.val (.ref o0), .val (.ref o1), .val (.int (Int32.ofNat q)), .val (.int (3 : Int32))] [(.int (ss.getD (q - 3) 0)), (.int u0)])) _
      refine XS.icmpYes X0.here hx rfl (pc0 := 13) (pc' := 74) rfl (hb hby d3_13) rfl (XT.ii_ne_t hc371) (by decide) (by decide) ?_
      show Steps p.tables e below (s₁.setTop (mkF m 74 #[.val (.ref o0), .val (.ref o1), .val (.int (Int32.ofNat q)), .val (.int (3 : Int32))] [])) _
      refine XS.iconst X0.here hx rfl (hb hby d3_74) ?_
      exact kt
    exact Got.retN (y := (0 : Int32)) (t := .boolean) X0 hx Bd.returns (by simp) hlk (hb hby d3_75) (by decide) ⟨N0, e0⟩ (by decide) (by decide)
def fE4_52 (u0 : Int32) (u1 : Int32) (u2 : Int32) (u3 : Int32) (ss : List Int32) (q : Nat)  : Int32 := (if u3 = (ss.getD (q - 4 + 3) 0) then (1 : Int32) else (0 : Int32))
def fE4_34 (u0 : Int32) (u1 : Int32) (u2 : Int32) (u3 : Int32) (ss : List Int32) (q : Nat)  : Int32 := (if u2 = (ss.getD (q - 4 + 2) 0) then (fE4_52 u0 u1 u2 u3 ss q ) else (0 : Int32))
def fE4_16 (u0 : Int32) (u1 : Int32) (u2 : Int32) (u3 : Int32) (ss : List Int32) (q : Nat)  : Int32 := (if u1 = (ss.getD (q - 4 + 1) 0) then (fE4_34 u0 u1 u2 u3 ss q ) else (0 : Int32))
def fE4 (u0 : Int32) (u1 : Int32) (u2 : Int32) (u3 : Int32) (ss : List Int32) (q : Nat)  : Int32 := (if u0 = (ss.getD (q - 4) 0) then (fE4_16 u0 u1 u2 u3 ss q ) else (0 : Int32))
theorem ef_E4 (m : MethodId) (x0 : Addr) (x1 : Addr) (x2 : Int32) (x3 : Int32) : entryFrame m #[(.ref x0), (.ref x1), (.int x2), (.int x3)] 4 = mkF m 0 #[.val (.ref x0), .val (.ref x1), .val (.int x2), .val (.int x3)] [] := by first | (simp [entryFrame, mkF, argsToLocals, Value.category]; done) | rfl
theorem d3_57 : decode method_3_code 57 = .ok (.aload_n 0, 1) := by decide +kernel
theorem d3_58 : decode method_3_code 58 = .ok (.iconst 3, 1) := by decide +kernel
theorem d3_59 : decode method_3_code 59 = .ok (.iaload, 1) := by decide +kernel
theorem d3_60 : decode method_3_code 60 = .ok (.aload_n 1, 1) := by decide +kernel
theorem d3_61 : decode method_3_code 61 = .ok (.iload_n 2, 1) := by decide +kernel
theorem d3_62 : decode method_3_code 62 = .ok (.iload_n 3, 1) := by decide +kernel
theorem d3_63 : decode method_3_code 63 = .ok (.isub, 1) := by decide +kernel
theorem d3_64 : decode method_3_code 64 = .ok (.iconst 3, 1) := by decide +kernel
theorem d3_65 : decode method_3_code 65 = .ok (.iadd, 1) := by decide +kernel
theorem d3_66 : decode method_3_code 66 = .ok (.iaload, 1) := by decide +kernel
theorem d3_67 : decode method_3_code 67 = .ok (.if_icmp .ne 7, 3) := by decide +kernel
set_option maxRecDepth 65536 in
set_option maxHeartbeats 40000000 in
theorem rmE4 (l : Launch) (Z : State) (a0 : Array Value) (hw : ∀ d ∈ tables_1, d.before a0 Z = true) (ws : List Jvm.Cond) (o0 o1 : Addr) (q : Nat) (u0 u1 u2 u3 : Int32) (ss : List Int32) (ku ks : ClassId) (N : Nat) (h0 : Heap) (n0 : Nat) (Z0 : n0 ≤ h0.size) (V0 : Arv Z h0 o0 ku .int (Int32.ofNat N) [(.int u0), (.int u1), (.int u2), (.int u3)] (.int (0 : Int32))) (V1 : Arv Z h0 o1 ks .int (5 : Int32) (ss.map Value.int) (.int (0 : Int32))) (hNk : 4 ≤ N ∧ N ≤ 4) (hq : 4 ≤ q ∧ q ≤ 5) :
    MetFree l (⟨"com/example/sidestep/sidestep/CompiledPatternAdvancePinLaw", "ends", "([I[III)Z"⟩ : MethodName) (head1 (Jvm.Cond.code (⟨"com/example/sidestep/sidestep/CompiledPatternAdvancePinLaw", "ends", "([I[III)Z"⟩ : MethodName) method_3_code 4 (some .boolean) :: ws) ({ frames := 0, cells := 0, slots := 0, locals := 0 } : Room)) (fun a U => a = #[(.ref o0), (.ref o1), (.int (Int32.ofNat q)), (.int (4 : Int32))] ∧ Z.Warmed39 U.vm ∧ U.heap = h0) (fun _ _ _ _ _ => True) (fun _ U o U' => ∃ v L, o = .returned v ∧ QV (some (.int (fE4 u0 u1 u2 u3 ss q))) (PureP n0 h0) v U'.heap L ∧ FrameEnd U o U' L ({ frames := 0, cells := 0, slots := 0, locals := 0 } : Room).cells ({ frames := 0, cells := 0, slots := 0, locals := 0 } : Room).slots) := by
  refine MetFree.of_bodySF (plainFor_of_name pn_0) hisR ?_
  intro p e s m args below meth c s₁ Bd hml0 hP hK
  obtain ⟨rfl, hZ, hh⟩ := hP
  have hx := Bd.exec
  have hby := Bd.bytes
  have hml : c.maxLocals = 4 := hml0
  have hown : s.vm.findClass "com/example/sidestep/sidestep/CompiledPatternAdvancePinLaw" = some m.cls := findClass_of_methodNamed Bd.named
  have hnm := (name_of_methodNamed Bd.named Bd.method).1
  have hlk : meth.locks = false := BodyLoose.notSynchronized Bd
  have X0 : Stand p l e ({ frames := 0, cells := 0, slots := 0, locals := 0 } : Room) s m #[(.ref o0), (.ref o1), (.int (Int32.ofNat q)), (.int (4 : Int32))] below meth c s₁ [] 0 0 := Stand.of_body Bd
  have e0 : s₁.heap = h0 := by rw [← hh, Bd.state]; rfl
  have N0 := Fr.nil n0
  refine Got.body (ef_E4 m o0 o1 (Int32.ofNat q) (4 : Int32)) ?_
  have J52 : ∀ (T_52 : State) (L_52 : List Loc), Stand p l e ({ frames := 0, cells := 0, slots := 0, locals := 0 } : Room) s m #[(.ref o0), (.ref o1), (.int (Int32.ofNat q)), (.int (4 : Int32))] below meth c T_52 L_52 0 0 → T_52.heap = h0 → Fr n0 L_52 → Got p e below s (PureP n0 h0) 0 0 (some (.int (fE4_52 u0 u1 u2 u3 ss q ))) T_52 (mkF m 52 #[.val (.ref o0), .val (.ref o1), .val (.int (Int32.ofNat q)), .val (.int (4 : Int32))] []) := by
    intro T_52 L_52 X_52 e_52 N_52 
    refine Got.step (T' := T_52) (g' := (mkF m 59 #[.val (.ref o0), .val (.ref o1), .val (.int (Int32.ofNat q)), .val (.int (4 : Int32))] [(.int (3 : Int32)), (.ref o0)])) (fun tq kt => ?_) ?_
    · show Steps p.tables e below (T_52.setTop (mkF m 52 #[.val (.ref o0), .val (.ref o1), .val (.int (Int32.ofNat q)), .val (.int (4 : Int32))] [])) _
      refine XS.iloadN X_52.here hx rfl (hb hby d3_52) rfl ?_
      show Steps p.tables e below (T_52.setTop (mkF m 53 #[.val (.ref o0), .val (.ref o1), .val (.int (Int32.ofNat q)), .val (.int (4 : Int32))] [(.int (4 : Int32))])) _
      refine XS.iconst X_52.here hx rfl (hb hby d3_53) ?_
      show Steps p.tables e below (T_52.setTop (mkF m 54 #[.val (.ref o0), .val (.ref o1), .val (.int (Int32.ofNat q)), .val (.int (4 : Int32))] [(.int (4 : Int32)), (.int (4 : Int32))])) _
      refine XS.icmpNo X_52.here hx rfl (hb hby d3_54) rfl (XT.ii_lt_f Int32.lt_irrefl) ?_
      show Steps p.tables e below (T_52.setTop (mkF m 57 #[.val (.ref o0), .val (.ref o1), .val (.int (Int32.ofNat q)), .val (.int (4 : Int32))] [])) _
      refine XS.aloadN X_52.here hx rfl (hb hby d3_57) rfl rfl ?_
      show Steps p.tables e below (T_52.setTop (mkF m 58 #[.val (.ref o0), .val (.ref o1), .val (.int (Int32.ofNat q)), .val (.int (4 : Int32))] [(.ref o0)])) _
      refine XS.iconst X_52.here hx rfl (hb hby d3_58) ?_
      exact kt
    obtain ⟨cl387, Ar387, q387, S387, M387, H387, G387⟩ := (id V0)
    have hin387 : ¬ ((3 : Int32) < 0 ∨ cl387.slots.size ≤ ((3 : Int32)).toNatClampNeg) := inb_of S387 (own_e3 hNk (by decide))
    refine Got.step (T' := T_52) (fun tq kt => X_52.iaload hx (j := (3 : Int32)) (v := (.int u3)) (by rw [e_52]; exact Ar387.1) (State.isArrayOf_alike hZ.alike Ar387.2.1) Ar387.2.2 hin387 (H387.at hin387 rfl) (g := (mkF m 59 #[.val (.ref o0), .val (.ref o1), .val (.int (Int32.ofNat q)), .val (.int (4 : Int32))] [(.int (3 : Int32)), (.ref o0)])) rfl rfl (hb hby d3_59) tq kt) ?_
    show Got p e below s _ _ _ _ T_52 (mkF m 60 #[.val (.ref o0), .val (.ref o1), .val (.int (Int32.ofNat q)), .val (.int (4 : Int32))] [(.int u3)])
    refine Got.step (T' := T_52) (g' := (mkF m 66 #[.val (.ref o0), .val (.ref o1), .val (.int (Int32.ofNat q)), .val (.int (4 : Int32))] [(.int (((Int32.ofNat q) - (4 : Int32)) + (3 : Int32))), (.ref o1), (.int u3)])) (fun tq kt => ?_) ?_
    · show Steps p.tables e below (T_52.setTop (mkF m 60 #[.val (.ref o0), .val (.ref o1), .val (.int (Int32.ofNat q)), .val (.int (4 : Int32))] [(.int u3)])) _
      refine XS.aloadN X_52.here hx rfl (hb hby d3_60) rfl rfl ?_
      show Steps p.tables e below (T_52.setTop (mkF m 61 #[.val (.ref o0), .val (.ref o1), .val (.int (Int32.ofNat q)), .val (.int (4 : Int32))] [(.ref o1), (.int u3)])) _
      refine XS.iloadN X_52.here hx rfl (hb hby d3_61) rfl ?_
      show Steps p.tables e below (T_52.setTop (mkF m 62 #[.val (.ref o0), .val (.ref o1), .val (.int (Int32.ofNat q)), .val (.int (4 : Int32))] [(.int (Int32.ofNat q)), (.ref o1), (.int u3)])) _
      refine XS.iloadN X_52.here hx rfl (hb hby d3_62) rfl ?_
      show Steps p.tables e below (T_52.setTop (mkF m 63 #[.val (.ref o0), .val (.ref o1), .val (.int (Int32.ofNat q)), .val (.int (4 : Int32))] [(.int (4 : Int32)), (.int (Int32.ofNat q)), (.ref o1), (.int u3)])) _
      refine XS.isub X_52.here hx rfl (hb hby d3_63) rfl ?_
      show Steps p.tables e below (T_52.setTop (mkF m 64 #[.val (.ref o0), .val (.ref o1), .val (.int (Int32.ofNat q)), .val (.int (4 : Int32))] [(.int ((Int32.ofNat q) - (4 : Int32))), (.ref o1), (.int u3)])) _
      refine XS.iconst X_52.here hx rfl (hb hby d3_64) ?_
      show Steps p.tables e below (T_52.setTop (mkF m 65 #[.val (.ref o0), .val (.ref o1), .val (.int (Int32.ofNat q)), .val (.int (4 : Int32))] [(.int (3 : Int32)), (.int ((Int32.ofNat q) - (4 : Int32))), (.ref o1), (.int u3)])) _
      refine XS.iadd X_52.here hx rfl (hb hby d3_65) rfl ?_
      exact kt
    obtain ⟨cl388, Ar388, q388, S388, M388, H388, G388⟩ := (id V1)
    have hin388 : ¬ ((((Int32.ofNat q) - (4 : Int32)) + (3 : Int32)) < 0 ∨ cl388.slots.size ≤ ((((Int32.ofNat q) - (4 : Int32)) + (3 : Int32))).toNatClampNeg) := inb_of S388 (own_s4_3 hq)
    refine Got.step (T' := T_52) (fun tq kt => X_52.iaload hx (j := (((Int32.ofNat q) - (4 : Int32)) + (3 : Int32))) (v := (.int (ss.getD (q - 4 + 3) 0))) (by rw [e_52]; exact Ar388.1) (State.isArrayOf_alike hZ.alike Ar388.2.1) Ar388.2.2 hin388 (H388.at hin388 (own_r4_3 hq)) (g := (mkF m 66 #[.val (.ref o0), .val (.ref o1), .val (.int (Int32.ofNat q)), .val (.int (4 : Int32))] [(.int (((Int32.ofNat q) - (4 : Int32)) + (3 : Int32))), (.ref o1), (.int u3)])) rfl rfl (hb hby d3_66) tq kt) ?_
    show Got p e below s _ _ _ _ T_52 (mkF m 67 #[.val (.ref o0), .val (.ref o1), .val (.int (Int32.ofNat q)), .val (.int (4 : Int32))] [(.int (ss.getD (q - 4 + 3) 0)), (.int u3)])
    refine Got.ite (q := (u3 = (ss.getD (q - 4 + 3) 0))) (fun hc389 => ?_) (fun hc389 => ?_)
    · refine Got.step (T' := T_52) (g' := (mkF m 75 #[.val (.ref o0), .val (.ref o1), .val (.int (Int32.ofNat q)), .val (.int (4 : Int32))] [(.int (1 : Int32))])) (fun tq kt => ?_) ?_
      · show Steps p.tables e below (T_52.setTop (mkF m 67 #[.val (.ref o0), .val (.ref o1), .val (.int (Int32.ofNat q)), .val (.int (4 : Int32))] [(.int (ss.getD (q - 4 + 3) 0)), (.int u3)])) _
        refine XS.icmpNo X_52.here hx rfl (hb hby d3_67) rfl (XT.ii_ne_f hc389) ?_
        show Steps p.tables e below (T_52.setTop (mkF m 70 #[.val (.ref o0), .val (.ref o1), .val (.int (Int32.ofNat q)), .val (.int (4 : Int32))] [])) _
        refine XS.iconst X_52.here hx rfl (hb hby d3_70) ?_
        show Steps p.tables e below (T_52.setTop (mkF m 71 #[.val (.ref o0), .val (.ref o1), .val (.int (Int32.ofNat q)), .val (.int (4 : Int32))] [(.int (1 : Int32))])) _
        refine XS.goto X_52.here hx rfl (pc0 := 71) (pc' := 75) rfl (hb hby d3_71) (by decide) (by decide) ?_
        exact kt
      exact Got.retN (y := (1 : Int32)) (t := .boolean) X_52 hx Bd.returns (by simp) hlk (hb hby d3_75) (by decide) ⟨N_52, e_52⟩ (by decide) (by decide)
    · refine Got.step (T' := T_52) (g' := (mkF m 75 #[.val (.ref o0), .val (.ref o1), .val (.int (Int32.ofNat q)), .val (.int (4 : Int32))] [(.int (0 : Int32))])) (fun tq kt => ?_) ?_
      · show Steps p.tables e below (T_52.setTop (mkF m 67 #[.val (.ref o0), .val (.ref o1), .val (.int (Int32.ofNat q)), .val (.int (4 : Int32))] [(.int (ss.getD (q - 4 + 3) 0)), (.int u3)])) _
        refine XS.icmpYes X_52.here hx rfl (pc0 := 67) (pc' := 74) rfl (hb hby d3_67) rfl (XT.ii_ne_t hc389) (by decide) (by decide) ?_
        show Steps p.tables e below (T_52.setTop (mkF m 74 #[.val (.ref o0), .val (.ref o1), .val (.int (Int32.ofNat q)), .val (.int (4 : Int32))] [])) _
        refine XS.iconst X_52.here hx rfl (hb hby d3_74) ?_
        exact kt
      exact Got.retN (y := (0 : Int32)) (t := .boolean) X_52 hx Bd.returns (by simp) hlk (hb hby d3_75) (by decide) ⟨N_52, e_52⟩ (by decide) (by decide)
  have J34 : ∀ (T_34 : State) (L_34 : List Loc), Stand p l e ({ frames := 0, cells := 0, slots := 0, locals := 0 } : Room) s m #[(.ref o0), (.ref o1), (.int (Int32.ofNat q)), (.int (4 : Int32))] below meth c T_34 L_34 0 0 → T_34.heap = h0 → Fr n0 L_34 → Got p e below s (PureP n0 h0) 0 0 (some (.int (fE4_34 u0 u1 u2 u3 ss q ))) T_34 (mkF m 34 #[.val (.ref o0), .val (.ref o1), .val (.int (Int32.ofNat q)), .val (.int (4 : Int32))] []) := by
    intro T_34 L_34 X_34 e_34 N_34 
    refine Got.step (T' := T_34) (g' := (mkF m 41 #[.val (.ref o0), .val (.ref o1), .val (.int (Int32.ofNat q)), .val (.int (4 : Int32))] [(.int (2 : Int32)), (.ref o0)])) (fun tq kt => ?_) ?_
    · show Steps p.tables e below (T_34.setTop (mkF m 34 #[.val (.ref o0), .val (.ref o1), .val (.int (Int32.ofNat q)), .val (.int (4 : Int32))] [])) _
      refine XS.iloadN X_34.here hx rfl (hb hby d3_34) rfl ?_
      show Steps p.tables e below (T_34.setTop (mkF m 35 #[.val (.ref o0), .val (.ref o1), .val (.int (Int32.ofNat q)), .val (.int (4 : Int32))] [(.int (4 : Int32))])) _
      refine XS.iconst X_34.here hx rfl (hb hby d3_35) ?_
      show Steps p.tables e below (T_34.setTop (mkF m 36 #[.val (.ref o0), .val (.ref o1), .val (.int (Int32.ofNat q)), .val (.int (4 : Int32))] [(.int (3 : Int32)), (.int (4 : Int32))])) _
      refine XS.icmpNo X_34.here hx rfl (hb hby d3_36) rfl (XT.ii_lt_f (by decide)) ?_
      show Steps p.tables e below (T_34.setTop (mkF m 39 #[.val (.ref o0), .val (.ref o1), .val (.int (Int32.ofNat q)), .val (.int (4 : Int32))] [])) _
      refine XS.aloadN X_34.here hx rfl (hb hby d3_39) rfl rfl ?_
      show Steps p.tables e below (T_34.setTop (mkF m 40 #[.val (.ref o0), .val (.ref o1), .val (.int (Int32.ofNat q)), .val (.int (4 : Int32))] [(.ref o0)])) _
      refine XS.iconst X_34.here hx rfl (hb hby d3_40) ?_
      exact kt
    obtain ⟨cl384, Ar384, q384, S384, M384, H384, G384⟩ := (id V0)
    have hin384 : ¬ ((2 : Int32) < 0 ∨ cl384.slots.size ≤ ((2 : Int32)).toNatClampNeg) := inb_of S384 (own_e2 hNk (by decide))
    refine Got.step (T' := T_34) (fun tq kt => X_34.iaload hx (j := (2 : Int32)) (v := (.int u2)) (by rw [e_34]; exact Ar384.1) (State.isArrayOf_alike hZ.alike Ar384.2.1) Ar384.2.2 hin384 (H384.at hin384 rfl) (g := (mkF m 41 #[.val (.ref o0), .val (.ref o1), .val (.int (Int32.ofNat q)), .val (.int (4 : Int32))] [(.int (2 : Int32)), (.ref o0)])) rfl rfl (hb hby d3_41) tq kt) ?_
    show Got p e below s _ _ _ _ T_34 (mkF m 42 #[.val (.ref o0), .val (.ref o1), .val (.int (Int32.ofNat q)), .val (.int (4 : Int32))] [(.int u2)])
    refine Got.step (T' := T_34) (g' := (mkF m 48 #[.val (.ref o0), .val (.ref o1), .val (.int (Int32.ofNat q)), .val (.int (4 : Int32))] [(.int (((Int32.ofNat q) - (4 : Int32)) + (2 : Int32))), (.ref o1), (.int u2)])) (fun tq kt => ?_) ?_
    · show Steps p.tables e below (T_34.setTop (mkF m 42 #[.val (.ref o0), .val (.ref o1), .val (.int (Int32.ofNat q)), .val (.int (4 : Int32))] [(.int u2)])) _
      refine XS.aloadN X_34.here hx rfl (hb hby d3_42) rfl rfl ?_
      show Steps p.tables e below (T_34.setTop (mkF m 43 #[.val (.ref o0), .val (.ref o1), .val (.int (Int32.ofNat q)), .val (.int (4 : Int32))] [(.ref o1), (.int u2)])) _
      refine XS.iloadN X_34.here hx rfl (hb hby d3_43) rfl ?_
      show Steps p.tables e below (T_34.setTop (mkF m 44 #[.val (.ref o0), .val (.ref o1), .val (.int (Int32.ofNat q)), .val (.int (4 : Int32))] [(.int (Int32.ofNat q)), (.ref o1), (.int u2)])) _
      refine XS.iloadN X_34.here hx rfl (hb hby d3_44) rfl ?_
      show Steps p.tables e below (T_34.setTop (mkF m 45 #[.val (.ref o0), .val (.ref o1), .val (.int (Int32.ofNat q)), .val (.int (4 : Int32))] [(.int (4 : Int32)), (.int (Int32.ofNat q)), (.ref o1), (.int u2)])) _
      refine XS.isub X_34.here hx rfl (hb hby d3_45) rfl ?_
      show Steps p.tables e below (T_34.setTop (mkF m 46 #[.val (.ref o0), .val (.ref o1), .val (.int (Int32.ofNat q)), .val (.int (4 : Int32))] [(.int ((Int32.ofNat q) - (4 : Int32))), (.ref o1), (.int u2)])) _
      refine XS.iconst X_34.here hx rfl (hb hby d3_46) ?_
      show Steps p.tables e below (T_34.setTop (mkF m 47 #[.val (.ref o0), .val (.ref o1), .val (.int (Int32.ofNat q)), .val (.int (4 : Int32))] [(.int (2 : Int32)), (.int ((Int32.ofNat q) - (4 : Int32))), (.ref o1), (.int u2)])) _
      refine XS.iadd X_34.here hx rfl (hb hby d3_47) rfl ?_
      exact kt
    obtain ⟨cl385, Ar385, q385, S385, M385, H385, G385⟩ := (id V1)
    have hin385 : ¬ ((((Int32.ofNat q) - (4 : Int32)) + (2 : Int32)) < 0 ∨ cl385.slots.size ≤ ((((Int32.ofNat q) - (4 : Int32)) + (2 : Int32))).toNatClampNeg) := inb_of S385 (own_s4_2 hq)
    refine Got.step (T' := T_34) (fun tq kt => X_34.iaload hx (j := (((Int32.ofNat q) - (4 : Int32)) + (2 : Int32))) (v := (.int (ss.getD (q - 4 + 2) 0))) (by rw [e_34]; exact Ar385.1) (State.isArrayOf_alike hZ.alike Ar385.2.1) Ar385.2.2 hin385 (H385.at hin385 (own_r4_2 hq)) (g := (mkF m 48 #[.val (.ref o0), .val (.ref o1), .val (.int (Int32.ofNat q)), .val (.int (4 : Int32))] [(.int (((Int32.ofNat q) - (4 : Int32)) + (2 : Int32))), (.ref o1), (.int u2)])) rfl rfl (hb hby d3_48) tq kt) ?_
    show Got p e below s _ _ _ _ T_34 (mkF m 49 #[.val (.ref o0), .val (.ref o1), .val (.int (Int32.ofNat q)), .val (.int (4 : Int32))] [(.int (ss.getD (q - 4 + 2) 0)), (.int u2)])
    refine Got.ite (q := (u2 = (ss.getD (q - 4 + 2) 0))) (fun hc386 => ?_) (fun hc386 => ?_)
    · refine Got.step (T' := T_34) (g' := (mkF m 52 #[.val (.ref o0), .val (.ref o1), .val (.int (Int32.ofNat q)), .val (.int (4 : Int32))] [])) (fun tq kt => ?_) ?_
      · show Steps p.tables e below (T_34.setTop (mkF m 49 #[.val (.ref o0), .val (.ref o1), .val (.int (Int32.ofNat q)), .val (.int (4 : Int32))] [(.int (ss.getD (q - 4 + 2) 0)), (.int u2)])) _
        refine XS.icmpNo X_34.here hx rfl (hb hby d3_49) rfl (XT.ii_ne_f hc386) ?_
        exact kt
      exact J52 _ _ X_34 e_34 N_34 
    · refine Got.step (T' := T_34) (g' := (mkF m 75 #[.val (.ref o0), .val (.ref o1), .val (.int (Int32.ofNat q)), .val (.int (4 : Int32))] [(.int (0 : Int32))])) (fun tq kt => ?_) ?_
      · show Steps p.tables e below (T_34.setTop (mkF m 49 #[.val (.ref o0), .val (.ref o1), .val (.int (Int32.ofNat q)), .val (.int (4 : Int32))] [(.int (ss.getD (q - 4 + 2) 0)), (.int u2)])) _
        refine XS.icmpYes X_34.here hx rfl (pc0 := 49) (pc' := 74) rfl (hb hby d3_49) rfl (XT.ii_ne_t hc386) (by decide) (by decide) ?_
        show Steps p.tables e below (T_34.setTop (mkF m 74 #[.val (.ref o0), .val (.ref o1), .val (.int (Int32.ofNat q)), .val (.int (4 : Int32))] [])) _
        refine XS.iconst X_34.here hx rfl (hb hby d3_74) ?_
        exact kt
      exact Got.retN (y := (0 : Int32)) (t := .boolean) X_34 hx Bd.returns (by simp) hlk (hb hby d3_75) (by decide) ⟨N_34, e_34⟩ (by decide) (by decide)
  have J16 : ∀ (T_16 : State) (L_16 : List Loc), Stand p l e ({ frames := 0, cells := 0, slots := 0, locals := 0 } : Room) s m #[(.ref o0), (.ref o1), (.int (Int32.ofNat q)), (.int (4 : Int32))] below meth c T_16 L_16 0 0 → T_16.heap = h0 → Fr n0 L_16 → Got p e below s (PureP n0 h0) 0 0 (some (.int (fE4_16 u0 u1 u2 u3 ss q ))) T_16 (mkF m 16 #[.val (.ref o0), .val (.ref o1), .val (.int (Int32.ofNat q)), .val (.int (4 : Int32))] []) := by
    intro T_16 L_16 X_16 e_16 N_16 
    refine Got.step (T' := T_16) (g' := (mkF m 23 #[.val (.ref o0), .val (.ref o1), .val (.int (Int32.ofNat q)), .val (.int (4 : Int32))] [(.int (1 : Int32)), (.ref o0)])) (fun tq kt => ?_) ?_
    · show Steps p.tables e below (T_16.setTop (mkF m 16 #[.val (.ref o0), .val (.ref o1), .val (.int (Int32.ofNat q)), .val (.int (4 : Int32))] [])) _
      refine XS.iloadN X_16.here hx rfl (hb hby d3_16) rfl ?_
      show Steps p.tables e below (T_16.setTop (mkF m 17 #[.val (.ref o0), .val (.ref o1), .val (.int (Int32.ofNat q)), .val (.int (4 : Int32))] [(.int (4 : Int32))])) _
      refine XS.iconst X_16.here hx rfl (hb hby d3_17) ?_
      show Steps p.tables e below (T_16.setTop (mkF m 18 #[.val (.ref o0), .val (.ref o1), .val (.int (Int32.ofNat q)), .val (.int (4 : Int32))] [(.int (2 : Int32)), (.int (4 : Int32))])) _
      refine XS.icmpNo X_16.here hx rfl (hb hby d3_18) rfl (XT.ii_lt_f (by decide)) ?_
      show Steps p.tables e below (T_16.setTop (mkF m 21 #[.val (.ref o0), .val (.ref o1), .val (.int (Int32.ofNat q)), .val (.int (4 : Int32))] [])) _
      refine XS.aloadN X_16.here hx rfl (hb hby d3_21) rfl rfl ?_
      show Steps p.tables e below (T_16.setTop (mkF m 22 #[.val (.ref o0), .val (.ref o1), .val (.int (Int32.ofNat q)), .val (.int (4 : Int32))] [(.ref o0)])) _
      refine XS.iconst X_16.here hx rfl (hb hby d3_22) ?_
      exact kt
    obtain ⟨cl381, Ar381, q381, S381, M381, H381, G381⟩ := (id V0)
    have hin381 : ¬ ((1 : Int32) < 0 ∨ cl381.slots.size ≤ ((1 : Int32)).toNatClampNeg) := inb_of S381 (own_e1 hNk (by decide))
    refine Got.step (T' := T_16) (fun tq kt => X_16.iaload hx (j := (1 : Int32)) (v := (.int u1)) (by rw [e_16]; exact Ar381.1) (State.isArrayOf_alike hZ.alike Ar381.2.1) Ar381.2.2 hin381 (H381.at hin381 rfl) (g := (mkF m 23 #[.val (.ref o0), .val (.ref o1), .val (.int (Int32.ofNat q)), .val (.int (4 : Int32))] [(.int (1 : Int32)), (.ref o0)])) rfl rfl (hb hby d3_23) tq kt) ?_
    show Got p e below s _ _ _ _ T_16 (mkF m 24 #[.val (.ref o0), .val (.ref o1), .val (.int (Int32.ofNat q)), .val (.int (4 : Int32))] [(.int u1)])
    refine Got.step (T' := T_16) (g' := (mkF m 30 #[.val (.ref o0), .val (.ref o1), .val (.int (Int32.ofNat q)), .val (.int (4 : Int32))] [(.int (((Int32.ofNat q) - (4 : Int32)) + (1 : Int32))), (.ref o1), (.int u1)])) (fun tq kt => ?_) ?_
    · show Steps p.tables e below (T_16.setTop (mkF m 24 #[.val (.ref o0), .val (.ref o1), .val (.int (Int32.ofNat q)), .val (.int (4 : Int32))] [(.int u1)])) _
      refine XS.aloadN X_16.here hx rfl (hb hby d3_24) rfl rfl ?_
      show Steps p.tables e below (T_16.setTop (mkF m 25 #[.val (.ref o0), .val (.ref o1), .val (.int (Int32.ofNat q)), .val (.int (4 : Int32))] [(.ref o1), (.int u1)])) _
      refine XS.iloadN X_16.here hx rfl (hb hby d3_25) rfl ?_
      show Steps p.tables e below (T_16.setTop (mkF m 26 #[.val (.ref o0), .val (.ref o1), .val (.int (Int32.ofNat q)), .val (.int (4 : Int32))] [(.int (Int32.ofNat q)), (.ref o1), (.int u1)])) _
      refine XS.iloadN X_16.here hx rfl (hb hby d3_26) rfl ?_
      show Steps p.tables e below (T_16.setTop (mkF m 27 #[.val (.ref o0), .val (.ref o1), .val (.int (Int32.ofNat q)), .val (.int (4 : Int32))] [(.int (4 : Int32)), (.int (Int32.ofNat q)), (.ref o1), (.int u1)])) _
      refine XS.isub X_16.here hx rfl (hb hby d3_27) rfl ?_
      show Steps p.tables e below (T_16.setTop (mkF m 28 #[.val (.ref o0), .val (.ref o1), .val (.int (Int32.ofNat q)), .val (.int (4 : Int32))] [(.int ((Int32.ofNat q) - (4 : Int32))), (.ref o1), (.int u1)])) _
      refine XS.iconst X_16.here hx rfl (hb hby d3_28) ?_
      show Steps p.tables e below (T_16.setTop (mkF m 29 #[.val (.ref o0), .val (.ref o1), .val (.int (Int32.ofNat q)), .val (.int (4 : Int32))] [(.int (1 : Int32)), (.int ((Int32.ofNat q) - (4 : Int32))), (.ref o1), (.int u1)])) _
      refine XS.iadd X_16.here hx rfl (hb hby d3_29) rfl ?_
      exact kt
    obtain ⟨cl382, Ar382, q382, S382, M382, H382, G382⟩ := (id V1)
    have hin382 : ¬ ((((Int32.ofNat q) - (4 : Int32)) + (1 : Int32)) < 0 ∨ cl382.slots.size ≤ ((((Int32.ofNat q) - (4 : Int32)) + (1 : Int32))).toNatClampNeg) := inb_of S382 (own_s4_1 hq)
    refine Got.step (T' := T_16) (fun tq kt => X_16.iaload hx (j := (((Int32.ofNat q) - (4 : Int32)) + (1 : Int32))) (v := (.int (ss.getD (q - 4 + 1) 0))) (by rw [e_16]; exact Ar382.1) (State.isArrayOf_alike hZ.alike Ar382.2.1) Ar382.2.2 hin382 (H382.at hin382 (own_r4_1 hq)) (g := (mkF m 30 #[.val (.ref o0), .val (.ref o1), .val (.int (Int32.ofNat q)), .val (.int (4 : Int32))] [(.int (((Int32.ofNat q) - (4 : Int32)) + (1 : Int32))), (.ref o1), (.int u1)])) rfl rfl (hb hby d3_30) tq kt) ?_
    show Got p e below s _ _ _ _ T_16 (mkF m 31 #[.val (.ref o0), .val (.ref o1), .val (.int (Int32.ofNat q)), .val (.int (4 : Int32))] [(.int (ss.getD (q - 4 + 1) 0)), (.int u1)])
    refine Got.ite (q := (u1 = (ss.getD (q - 4 + 1) 0))) (fun hc383 => ?_) (fun hc383 => ?_)
    · refine Got.step (T' := T_16) (g' := (mkF m 34 #[.val (.ref o0), .val (.ref o1), .val (.int (Int32.ofNat q)), .val (.int (4 : Int32))] [])) (fun tq kt => ?_) ?_
      · show Steps p.tables e below (T_16.setTop (mkF m 31 #[.val (.ref o0), .val (.ref o1), .val (.int (Int32.ofNat q)), .val (.int (4 : Int32))] [(.int (ss.getD (q - 4 + 1) 0)), (.int u1)])) _
        refine XS.icmpNo X_16.here hx rfl (hb hby d3_31) rfl (XT.ii_ne_f hc383) ?_
        exact kt
      exact J34 _ _ X_16 e_16 N_16 
    · refine Got.step (T' := T_16) (g' := (mkF m 75 #[.val (.ref o0), .val (.ref o1), .val (.int (Int32.ofNat q)), .val (.int (4 : Int32))] [(.int (0 : Int32))])) (fun tq kt => ?_) ?_
      · show Steps p.tables e below (T_16.setTop (mkF m 31 #[.val (.ref o0), .val (.ref o1), .val (.int (Int32.ofNat q)), .val (.int (4 : Int32))] [(.int (ss.getD (q - 4 + 1) 0)), (.int u1)])) _
        refine XS.icmpYes X_16.here hx rfl (pc0 := 31) (pc' := 74) rfl (hb hby d3_31) rfl (XT.ii_ne_t hc383) (by decide) (by decide) ?_
        show Steps p.tables e below (T_16.setTop (mkF m 74 #[.val (.ref o0), .val (.ref o1), .val (.int (Int32.ofNat q)), .val (.int (4 : Int32))] [])) _
        refine XS.iconst X_16.here hx rfl (hb hby d3_74) ?_
        exact kt
      exact Got.retN (y := (0 : Int32)) (t := .boolean) X_16 hx Bd.returns (by simp) hlk (hb hby d3_75) (by decide) ⟨N_16, e_16⟩ (by decide) (by decide)
  refine Got.step (T' := s₁) (g' := (mkF m 7 #[.val (.ref o0), .val (.ref o1), .val (.int (Int32.ofNat q)), .val (.int (4 : Int32))] [(.int (0 : Int32)), (.ref o0)])) (fun tq kt => ?_) ?_
  · show Steps p.tables e below (s₁.setTop (mkF m 0 #[.val (.ref o0), .val (.ref o1), .val (.int (Int32.ofNat q)), .val (.int (4 : Int32))] [])) _
    refine XS.iloadN X0.here hx rfl (hb hby d3_0) rfl ?_
    show Steps p.tables e below (s₁.setTop (mkF m 1 #[.val (.ref o0), .val (.ref o1), .val (.int (Int32.ofNat q)), .val (.int (4 : Int32))] [(.int (4 : Int32))])) _
    refine XS.iconst X0.here hx rfl (hb hby d3_1) ?_
    show Steps p.tables e below (s₁.setTop (mkF m 2 #[.val (.ref o0), .val (.ref o1), .val (.int (Int32.ofNat q)), .val (.int (4 : Int32))] [(.int (1 : Int32)), (.int (4 : Int32))])) _
    refine XS.icmpNo X0.here hx rfl (hb hby d3_2) rfl (XT.ii_lt_f (by decide)) ?_
    show Steps p.tables e below (s₁.setTop (mkF m 5 #[.val (.ref o0), .val (.ref o1), .val (.int (Int32.ofNat q)), .val (.int (4 : Int32))] [])) _
    refine XS.aloadN X0.here hx rfl (hb hby d3_5) rfl rfl ?_
    show Steps p.tables e below (s₁.setTop (mkF m 6 #[.val (.ref o0), .val (.ref o1), .val (.int (Int32.ofNat q)), .val (.int (4 : Int32))] [(.ref o0)])) _
    refine XS.iconst X0.here hx rfl (hb hby d3_6) ?_
    exact kt
  obtain ⟨cl378, Ar378, q378, S378, M378, H378, G378⟩ := (id V0)
  have hin378 : ¬ ((0 : Int32) < 0 ∨ cl378.slots.size ≤ ((0 : Int32)).toNatClampNeg) := inb_of S378 (own_e0 hNk (by decide))
  refine Got.step (T' := s₁) (fun tq kt => X0.iaload hx (j := (0 : Int32)) (v := (.int u0)) (by rw [e0]; exact Ar378.1) (State.isArrayOf_alike hZ.alike Ar378.2.1) Ar378.2.2 hin378 (H378.at hin378 rfl) (g := (mkF m 7 #[.val (.ref o0), .val (.ref o1), .val (.int (Int32.ofNat q)), .val (.int (4 : Int32))] [(.int (0 : Int32)), (.ref o0)])) rfl rfl (hb hby d3_7) tq kt) ?_
  show Got p e below s _ _ _ _ s₁ (mkF m 8 #[.val (.ref o0), .val (.ref o1), .val (.int (Int32.ofNat q)), .val (.int (4 : Int32))] [(.int u0)])
  refine Got.step (T' := s₁) (g' := (mkF m 12 #[.val (.ref o0), .val (.ref o1), .val (.int (Int32.ofNat q)), .val (.int (4 : Int32))] [(.int ((Int32.ofNat q) - (4 : Int32))), (.ref o1), (.int u0)])) (fun tq kt => ?_) ?_
  · show Steps p.tables e below (s₁.setTop (mkF m 8 #[.val (.ref o0), .val (.ref o1), .val (.int (Int32.ofNat q)), .val (.int (4 : Int32))] [(.int u0)])) _
    refine XS.aloadN X0.here hx rfl (hb hby d3_8) rfl rfl ?_
    show Steps p.tables e below (s₁.setTop (mkF m 9 #[.val (.ref o0), .val (.ref o1), .val (.int (Int32.ofNat q)), .val (.int (4 : Int32))] [(.ref o1), (.int u0)])) _
    refine XS.iloadN X0.here hx rfl (hb hby d3_9) rfl ?_
    show Steps p.tables e below (s₁.setTop (mkF m 10 #[.val (.ref o0), .val (.ref o1), .val (.int (Int32.ofNat q)), .val (.int (4 : Int32))] [(.int (Int32.ofNat q)), (.ref o1), (.int u0)])) _
    refine XS.iloadN X0.here hx rfl (hb hby d3_10) rfl ?_
    show Steps p.tables e below (s₁.setTop (mkF m 11 #[.val (.ref o0), .val (.ref o1), .val (.int (Int32.ofNat q)), .val (.int (4 : Int32))] [(.int (4 : Int32)), (.int (Int32.ofNat q)), (.ref o1), (.int u0)])) _
    refine XS.isub X0.here hx rfl (hb hby d3_11) rfl ?_
    exact kt
  obtain ⟨cl379, Ar379, q379, S379, M379, H379, G379⟩ := (id V1)
  have hin379 : ¬ (((Int32.ofNat q) - (4 : Int32)) < 0 ∨ cl379.slots.size ≤ (((Int32.ofNat q) - (4 : Int32))).toNatClampNeg) := inb_of S379 (own_s4_0 hq)
  refine Got.step (T' := s₁) (fun tq kt => X0.iaload hx (j := ((Int32.ofNat q) - (4 : Int32))) (v := (.int (ss.getD (q - 4) 0))) (by rw [e0]; exact Ar379.1) (State.isArrayOf_alike hZ.alike Ar379.2.1) Ar379.2.2 hin379 (H379.at hin379 (own_r4_0 hq)) (g := (mkF m 12 #[.val (.ref o0), .val (.ref o1), .val (.int (Int32.ofNat q)), .val (.int (4 : Int32))] [(.int ((Int32.ofNat q) - (4 : Int32))), (.ref o1), (.int u0)])) rfl rfl (hb hby d3_12) tq kt) ?_
  show Got p e below s _ _ _ _ s₁ (mkF m 13 #[.val (.ref o0), .val (.ref o1), .val (.int (Int32.ofNat q)), .val (.int (4 : Int32))] [(.int (ss.getD (q - 4) 0)), (.int u0)])
  refine Got.ite (q := (u0 = (ss.getD (q - 4) 0))) (fun hc380 => ?_) (fun hc380 => ?_)
  · refine Got.step (T' := s₁) (g' := (mkF m 16 #[.val (.ref o0), .val (.ref o1), .val (.int (Int32.ofNat q)), .val (.int (4 : Int32))] [])) (fun tq kt => ?_) ?_
    · show Steps p.tables e below (s₁.setTop (mkF m 13 #[.val (.ref o0), .val (.ref o1), .val (.int (Int32.ofNat q)), .val (.int (4 : Int32))] [(.int (ss.getD (q - 4) 0)), (.int u0)])) _
      refine XS.icmpNo X0.here hx rfl (hb hby d3_13) rfl (XT.ii_ne_f hc380) ?_
      exact kt
    exact J16 _ _ X0 e0 N0 
  · refine Got.step (T' := s₁) (g' := (mkF m 75 #[.val (.ref o0), .val (.ref o1), .val (.int (Int32.ofNat q)), .val (.int (4 : Int32))] [(.int (0 : Int32))])) (fun tq kt => ?_) ?_
    · show Steps p.tables e below (s₁.setTop (mkF m 13 #[.val (.ref o0), .val (.ref o1), .val (.int (Int32.ofNat q)), .val (.int (4 : Int32))] [(.int (ss.getD (q - 4) 0)), (.int u0)])) _
      refine XS.icmpYes X0.here hx rfl (pc0 := 13) (pc' := 74) rfl (hb hby d3_13) rfl (XT.ii_ne_t hc380) (by decide) (by decide) ?_
      show Steps p.tables e below (s₁.setTop (mkF m 74 #[.val (.ref o0), .val (.ref o1), .val (.int (Int32.ofNat q)), .val (.int (4 : Int32))] [])) _
      refine XS.iconst X0.here hx rfl (hb hby d3_74) ?_
      exact kt
    exact Got.retN (y := (0 : Int32)) (t := .boolean) X0 hx Bd.returns (by simp) hlk (hb hby d3_75) (by decide) ⟨N0, e0⟩ (by decide) (by decide)
theorem own_N (p0 : Int32) : ∃ N : Nat, (1 ≤ N ∧ N ≤ 4) ∧ ((p0 &&& (3 : Int32)) + (1 : Int32)) = Int32.ofNat N := by
  have c := c_and p0 3 (by decide)
  have z : (3 : Int32).toInt = 3 := rfl
  have z1 : (1 : Int32).toInt = 1 := rfl
  have e : ((p0 &&& (3 : Int32)) + (1 : Int32)).toInt = (p0 &&& 3).toInt + 1 := by rw [XT.add32 (by unfold XT.fits32; omega), z1]
  refine ⟨((p0 &&& (3 : Int32)) + (1 : Int32)).toInt.toNat, by omega, ?_⟩
  rw [← Int32.toInt_inj, own_i (by omega)]; omega
theorem own_N0 {N : Nat} (hN : 1 ≤ N ∧ N ≤ 4) : ¬ Int32.ofNat N < 0 := by
  have z : (0 : Int32).toInt = 0 := rfl
  rw [Int32.lt_iff_toInt_lt, own_i (by omega), z]; omega
theorem own_N4 {N : Nat} (hN : 1 ≤ N ∧ N ≤ 4) : (Int32.ofNat N).toNatClampNeg ≤ 4 := by rw [own_n32 (by omega)]; omega
theorem own_N1 {N : Nat} (hN : 1 ≤ N ∧ N ≤ 4) : ((Int32.ofNat N) + (1 : Int32)) ≠ 0 := fun h => by
  rw [own_one] at h
  have e := own_inj (i := N + 1) (j := 0) (by omega) (by omega) h
  omega
theorem own_m (p1 : Int32) {N : Nat} (hN : 1 ≤ N ∧ N ≤ 4) : ∃ mn : Nat, mn ≤ N ∧ ((p1 &&& (2147483647 : Int32)) % ((Int32.ofNat N) + (1 : Int32))) = Int32.ofNat mn := by
  have h1 := c_mask p1 2147483647 31 (by decide) (by decide)
  have e := own_i (i := N + 1) (by omega)
  rw [own_one]
  have h4 : ((p1 &&& (2147483647 : Int32)) % Int32.ofNat (N + 1)).toInt = (p1 &&& 2147483647).toInt % ((N + 1 : Nat) : Int) := by
    rw [Int32.toInt_mod, e, Int.tmod_eq_emod_of_nonneg (by omega)]
  have h5 := Int.emod_nonneg (p1 &&& 2147483647).toInt (b := ((N + 1 : Nat) : Int)) (by omega)
  have h6 := Int.emod_lt_of_pos (p1 &&& 2147483647).toInt (b := ((N + 1 : Nat) : Int)) (by omega)
  refine ⟨((p1 &&& (2147483647 : Int32)) % Int32.ofNat (N + 1)).toInt.toNat, by omega, ?_⟩
  rw [← Int32.toInt_inj, own_i (by omega)]; omega
theorem own_p0 {N : Nat} (hN : 1 ≤ N ∧ N ≤ 4) : ¬ (0 : Int32) < 0 ∧ (0 : Int32) < (Int32.ofNat N) := own_bd (n := 0) (by omega) (by omega)
theorem own_mlt {mn : Nat} {x : Int32} (hmn : mn ≤ 4) (h : x < Int32.ofNat mn) : x.toInt < mn := by
  rw [Int32.lt_iff_toInt_lt, own_i (by omega)] at h; exact h
theorem own_m0 {N mn : Nat} (hN : 1 ≤ N ∧ N ≤ 4) (hmn : mn ≤ N) (h : (0 : Int32) < Int32.ofNat mn) : ¬ (0 : Int32) < 0 ∧ (0 : Int32) < (Int32.ofNat N) := by
  have e := own_mlt (by omega) h
  have z : (0 : Int32).toInt = 0 := rfl
  exact own_bd (n := 0) (by omega) (by omega)
theorem own_m1 {N mn : Nat} (hN : 1 ≤ N ∧ N ≤ 4) (hmn : mn ≤ N) (h : (1 : Int32) < Int32.ofNat mn) : ¬ (1 : Int32) < 0 ∧ (1 : Int32) < (Int32.ofNat N) := by
  have e := own_mlt (by omega) h
  have z : (1 : Int32).toInt = 1 := rfl
  exact own_bd (n := 1) (by omega) (by omega)
theorem own_m2 {N mn : Nat} (hN : 1 ≤ N ∧ N ≤ 4) (hmn : mn ≤ N) (h : (2 : Int32) < Int32.ofNat mn) : ¬ (2 : Int32) < 0 ∧ (2 : Int32) < (Int32.ofNat N) := by
  have e := own_mlt (by omega) h
  have z : (2 : Int32).toInt = 2 := rfl
  exact own_bd (n := 2) (by omega) (by omega)
theorem own_m3 {N mn : Nat} (hN : 1 ≤ N ∧ N ≤ 4) (hmn : mn ≤ N) (h : (3 : Int32) < Int32.ofNat mn) : ¬ (3 : Int32) < 0 ∧ (3 : Int32) < (Int32.ofNat N) := by
  have e := own_mlt (by omega) h
  have z : (3 : Int32).toInt = 3 := rfl
  exact own_bd (n := 3) (by omega) (by omega)
theorem own_m5 {N mn : Nat} (hN : 1 ≤ N ∧ N ≤ 4) (hmn : mn ≤ N) : ¬ (Int32.ofNat mn) < 0 ∧ (Int32.ofNat mn) < (5 : Int32) := own_bd (m := 5) (by omega) (by omega)
def g1 (cap a : Int32) : Int32 := if cap < (1 : Int32) then (0 : Int32) else (if a = 0 then (0 : Int32) else (1 : Int32))
def g2 (cap a b : Int32) : Int32 := if cap < (2 : Int32) then g1 cap a else (if b = 0 then g1 cap a else (2 : Int32))
def g3 (cap a b c : Int32) : Int32 := if cap < (3 : Int32) then g2 cap a b else (if c = 0 then g2 cap a b else (3 : Int32))
def g4 (cap a b c d : Int32) : Int32 := if cap < (4 : Int32) then g3 cap a b c else (if d = 0 then g3 cap a b c else (4 : Int32))
theorem own_z1 : ((1 : Int32) = 0) = False := eq_false (by decide)
theorem own_l1 : (((1 : Int32) < (1 : Int32)) = False) ∧ (((1 : Int32) < (2 : Int32)) = True) ∧ (((1 : Int32) < (3 : Int32)) = True) ∧ (((1 : Int32) < (4 : Int32)) = True) := ⟨eq_false (by decide), eq_true (by decide), eq_true (by decide), eq_true (by decide)⟩
theorem own_l2 : (((2 : Int32) < (1 : Int32)) = False) ∧ (((2 : Int32) < (2 : Int32)) = False) ∧ (((2 : Int32) < (3 : Int32)) = True) ∧ (((2 : Int32) < (4 : Int32)) = True) := ⟨eq_false (by decide), eq_false (by decide), eq_true (by decide), eq_true (by decide)⟩
theorem own_l3 : (((3 : Int32) < (1 : Int32)) = False) ∧ (((3 : Int32) < (2 : Int32)) = False) ∧ (((3 : Int32) < (3 : Int32)) = False) ∧ (((3 : Int32) < (4 : Int32)) = True) := ⟨eq_false (by decide), eq_false (by decide), eq_false (by decide), eq_true (by decide)⟩
theorem own_l4 : (((4 : Int32) < (1 : Int32)) = False) ∧ (((4 : Int32) < (2 : Int32)) = False) ∧ (((4 : Int32) < (3 : Int32)) = False) ∧ (((4 : Int32) < (4 : Int32)) = False) := ⟨eq_false (by decide), eq_false (by decide), eq_false (by decide), eq_false (by decide)⟩
theorem own_f10 (u0 u1 u2 u3 c : Int32) : adv [u0, u1, u2, u3] (ptab 1 u0 u1 u2 u3) c 1 (cr 1 (ptab 1 u0 u1 u2 u3) 0) = g4 (1 : Int32) (fE1 u0 u1 u2 u3 [c, (0 : Int32), (0 : Int32), (0 : Int32), (0 : Int32)] 1) (fE2 u0 u1 u2 u3 [c, (0 : Int32), (0 : Int32), (0 : Int32), (0 : Int32)] 1) (fE3 u0 u1 u2 u3 [c, (0 : Int32), (0 : Int32), (0 : Int32), (0 : Int32)] 1) (fE4 u0 u1 u2 u3 [c, (0 : Int32), (0 : Int32), (0 : Int32), (0 : Int32)] 1) := by
  simp only [ptab, ptab1]
  repeat' split
  all_goals
    simp [g4, g3, g2, g1, own_l1, fE1, fE2, fE3, fE4, fE1_16, fE2_16, fE3_16, fE4_16, fE1_34, fE2_34, fE3_34, fE4_34, fE1_52, fE2_52, fE3_52, fE4_52, own_z1, cr, adv]
    try grind
theorem own_f11 (u0 u1 u2 u3 c : Int32) : adv [u0, u1, u2, u3] (ptab 1 u0 u1 u2 u3) c 1 (cr 1 (ptab 1 u0 u1 u2 u3) 1) = g4 (1 : Int32) (fE1 u0 u1 u2 u3 [u0, c, (0 : Int32), (0 : Int32), (0 : Int32)] 2) (fE2 u0 u1 u2 u3 [u0, c, (0 : Int32), (0 : Int32), (0 : Int32)] 2) (fE3 u0 u1 u2 u3 [u0, c, (0 : Int32), (0 : Int32), (0 : Int32)] 2) (fE4 u0 u1 u2 u3 [u0, c, (0 : Int32), (0 : Int32), (0 : Int32)] 2) := by
  simp only [ptab, ptab1]
  repeat' split
  all_goals
    simp [g4, g3, g2, g1, own_l1, fE1, fE2, fE3, fE4, fE1_16, fE2_16, fE3_16, fE4_16, fE1_34, fE2_34, fE3_34, fE4_34, fE1_52, fE2_52, fE3_52, fE4_52, own_z1, cr, adv]
    try grind
theorem own_f20 (u0 u1 u2 u3 c : Int32) : adv [u0, u1, u2, u3] (ptab 2 u0 u1 u2 u3) c 2 (cr 2 (ptab 2 u0 u1 u2 u3) 0) = g4 (1 : Int32) (fE1 u0 u1 u2 u3 [c, (0 : Int32), (0 : Int32), (0 : Int32), (0 : Int32)] 1) (fE2 u0 u1 u2 u3 [c, (0 : Int32), (0 : Int32), (0 : Int32), (0 : Int32)] 1) (fE3 u0 u1 u2 u3 [c, (0 : Int32), (0 : Int32), (0 : Int32), (0 : Int32)] 1) (fE4 u0 u1 u2 u3 [c, (0 : Int32), (0 : Int32), (0 : Int32), (0 : Int32)] 1) := by
  simp only [ptab, ptab2]
  repeat' split
  all_goals
    simp [g4, g3, g2, g1, own_l1, fE1, fE2, fE3, fE4, fE1_16, fE2_16, fE3_16, fE4_16, fE1_34, fE2_34, fE3_34, fE4_34, fE1_52, fE2_52, fE3_52, fE4_52, own_z1, cr, adv]
    try grind
theorem own_f21 (u0 u1 u2 u3 c : Int32) : adv [u0, u1, u2, u3] (ptab 2 u0 u1 u2 u3) c 2 (cr 2 (ptab 2 u0 u1 u2 u3) 1) = g4 (2 : Int32) (fE1 u0 u1 u2 u3 [u0, c, (0 : Int32), (0 : Int32), (0 : Int32)] 2) (fE2 u0 u1 u2 u3 [u0, c, (0 : Int32), (0 : Int32), (0 : Int32)] 2) (fE3 u0 u1 u2 u3 [u0, c, (0 : Int32), (0 : Int32), (0 : Int32)] 2) (fE4 u0 u1 u2 u3 [u0, c, (0 : Int32), (0 : Int32), (0 : Int32)] 2) := by
  simp only [ptab, ptab2]
  repeat' split
  all_goals
    simp [g4, g3, g2, g1, own_l2, fE1, fE2, fE3, fE4, fE1_16, fE2_16, fE3_16, fE4_16, fE1_34, fE2_34, fE3_34, fE4_34, fE1_52, fE2_52, fE3_52, fE4_52, own_z1, cr, adv]
    try grind
theorem own_f22 (u0 u1 u2 u3 c : Int32) : adv [u0, u1, u2, u3] (ptab 2 u0 u1 u2 u3) c 2 (cr 2 (ptab 2 u0 u1 u2 u3) 2) = g4 (2 : Int32) (fE1 u0 u1 u2 u3 [u0, u1, c, (0 : Int32), (0 : Int32)] 3) (fE2 u0 u1 u2 u3 [u0, u1, c, (0 : Int32), (0 : Int32)] 3) (fE3 u0 u1 u2 u3 [u0, u1, c, (0 : Int32), (0 : Int32)] 3) (fE4 u0 u1 u2 u3 [u0, u1, c, (0 : Int32), (0 : Int32)] 3) := by
  simp only [ptab, ptab2]
  repeat' split
  all_goals
    simp [g4, g3, g2, g1, own_l2, fE1, fE2, fE3, fE4, fE1_16, fE2_16, fE3_16, fE4_16, fE1_34, fE2_34, fE3_34, fE4_34, fE1_52, fE2_52, fE3_52, fE4_52, own_z1, cr, adv]
    try grind
theorem own_f30 (u0 u1 u2 u3 c : Int32) : adv [u0, u1, u2, u3] (ptab 3 u0 u1 u2 u3) c 3 (cr 3 (ptab 3 u0 u1 u2 u3) 0) = g4 (1 : Int32) (fE1 u0 u1 u2 u3 [c, (0 : Int32), (0 : Int32), (0 : Int32), (0 : Int32)] 1) (fE2 u0 u1 u2 u3 [c, (0 : Int32), (0 : Int32), (0 : Int32), (0 : Int32)] 1) (fE3 u0 u1 u2 u3 [c, (0 : Int32), (0 : Int32), (0 : Int32), (0 : Int32)] 1) (fE4 u0 u1 u2 u3 [c, (0 : Int32), (0 : Int32), (0 : Int32), (0 : Int32)] 1) := by
  simp only [ptab, ptab3]
  repeat' split
  all_goals
    simp [g4, g3, g2, g1, own_l1, fE1, fE2, fE3, fE4, fE1_16, fE2_16, fE3_16, fE4_16, fE1_34, fE2_34, fE3_34, fE4_34, fE1_52, fE2_52, fE3_52, fE4_52, own_z1, cr, adv]
    try grind
theorem own_f31 (u0 u1 u2 u3 c : Int32) : adv [u0, u1, u2, u3] (ptab 3 u0 u1 u2 u3) c 3 (cr 3 (ptab 3 u0 u1 u2 u3) 1) = g4 (2 : Int32) (fE1 u0 u1 u2 u3 [u0, c, (0 : Int32), (0 : Int32), (0 : Int32)] 2) (fE2 u0 u1 u2 u3 [u0, c, (0 : Int32), (0 : Int32), (0 : Int32)] 2) (fE3 u0 u1 u2 u3 [u0, c, (0 : Int32), (0 : Int32), (0 : Int32)] 2) (fE4 u0 u1 u2 u3 [u0, c, (0 : Int32), (0 : Int32), (0 : Int32)] 2) := by
  simp only [ptab, ptab3]
  repeat' split
  all_goals
    simp [g4, g3, g2, g1, own_l2, fE1, fE2, fE3, fE4, fE1_16, fE2_16, fE3_16, fE4_16, fE1_34, fE2_34, fE3_34, fE4_34, fE1_52, fE2_52, fE3_52, fE4_52, own_z1, cr, adv]
    try grind
theorem own_f32 (u0 u1 u2 u3 c : Int32) : adv [u0, u1, u2, u3] (ptab 3 u0 u1 u2 u3) c 3 (cr 3 (ptab 3 u0 u1 u2 u3) 2) = g4 (3 : Int32) (fE1 u0 u1 u2 u3 [u0, u1, c, (0 : Int32), (0 : Int32)] 3) (fE2 u0 u1 u2 u3 [u0, u1, c, (0 : Int32), (0 : Int32)] 3) (fE3 u0 u1 u2 u3 [u0, u1, c, (0 : Int32), (0 : Int32)] 3) (fE4 u0 u1 u2 u3 [u0, u1, c, (0 : Int32), (0 : Int32)] 3) := by
  simp only [ptab, ptab3]
  repeat' split
  all_goals
    simp [g4, g3, g2, g1, own_l3, fE1, fE2, fE3, fE4, fE1_16, fE2_16, fE3_16, fE4_16, fE1_34, fE2_34, fE3_34, fE4_34, fE1_52, fE2_52, fE3_52, fE4_52, own_z1, cr, adv]
    try grind
theorem own_f33 (u0 u1 u2 u3 c : Int32) : adv [u0, u1, u2, u3] (ptab 3 u0 u1 u2 u3) c 3 (cr 3 (ptab 3 u0 u1 u2 u3) 3) = g4 (3 : Int32) (fE1 u0 u1 u2 u3 [u0, u1, u2, c, (0 : Int32)] 4) (fE2 u0 u1 u2 u3 [u0, u1, u2, c, (0 : Int32)] 4) (fE3 u0 u1 u2 u3 [u0, u1, u2, c, (0 : Int32)] 4) (fE4 u0 u1 u2 u3 [u0, u1, u2, c, (0 : Int32)] 4) := by
  simp only [ptab, ptab3]
  repeat' split
  all_goals
    simp [g4, g3, g2, g1, own_l3, fE1, fE2, fE3, fE4, fE1_16, fE2_16, fE3_16, fE4_16, fE1_34, fE2_34, fE3_34, fE4_34, fE1_52, fE2_52, fE3_52, fE4_52, own_z1, cr, adv]
    try grind
theorem own_f40 (u0 u1 u2 u3 c : Int32) : adv [u0, u1, u2, u3] (ptab 4 u0 u1 u2 u3) c 4 (cr 4 (ptab 4 u0 u1 u2 u3) 0) = g4 (1 : Int32) (fE1 u0 u1 u2 u3 [c, (0 : Int32), (0 : Int32), (0 : Int32), (0 : Int32)] 1) (fE2 u0 u1 u2 u3 [c, (0 : Int32), (0 : Int32), (0 : Int32), (0 : Int32)] 1) (fE3 u0 u1 u2 u3 [c, (0 : Int32), (0 : Int32), (0 : Int32), (0 : Int32)] 1) (fE4 u0 u1 u2 u3 [c, (0 : Int32), (0 : Int32), (0 : Int32), (0 : Int32)] 1) := by
  simp only [ptab, ptab4]
  repeat' split
  all_goals
    simp [g4, g3, g2, g1, own_l1, fE1, fE2, fE3, fE4, fE1_16, fE2_16, fE3_16, fE4_16, fE1_34, fE2_34, fE3_34, fE4_34, fE1_52, fE2_52, fE3_52, fE4_52, own_z1, cr, adv]
    try grind
theorem own_f41 (u0 u1 u2 u3 c : Int32) : adv [u0, u1, u2, u3] (ptab 4 u0 u1 u2 u3) c 4 (cr 4 (ptab 4 u0 u1 u2 u3) 1) = g4 (2 : Int32) (fE1 u0 u1 u2 u3 [u0, c, (0 : Int32), (0 : Int32), (0 : Int32)] 2) (fE2 u0 u1 u2 u3 [u0, c, (0 : Int32), (0 : Int32), (0 : Int32)] 2) (fE3 u0 u1 u2 u3 [u0, c, (0 : Int32), (0 : Int32), (0 : Int32)] 2) (fE4 u0 u1 u2 u3 [u0, c, (0 : Int32), (0 : Int32), (0 : Int32)] 2) := by
  simp only [ptab, ptab4]
  repeat' split
  all_goals
    simp [g4, g3, g2, g1, own_l2, fE1, fE2, fE3, fE4, fE1_16, fE2_16, fE3_16, fE4_16, fE1_34, fE2_34, fE3_34, fE4_34, fE1_52, fE2_52, fE3_52, fE4_52, own_z1, cr, adv]
    try grind
theorem own_f42 (u0 u1 u2 u3 c : Int32) : adv [u0, u1, u2, u3] (ptab 4 u0 u1 u2 u3) c 4 (cr 4 (ptab 4 u0 u1 u2 u3) 2) = g4 (3 : Int32) (fE1 u0 u1 u2 u3 [u0, u1, c, (0 : Int32), (0 : Int32)] 3) (fE2 u0 u1 u2 u3 [u0, u1, c, (0 : Int32), (0 : Int32)] 3) (fE3 u0 u1 u2 u3 [u0, u1, c, (0 : Int32), (0 : Int32)] 3) (fE4 u0 u1 u2 u3 [u0, u1, c, (0 : Int32), (0 : Int32)] 3) := by
  simp only [ptab, ptab4]
  repeat' split
  all_goals
    simp [g4, g3, g2, g1, own_l3, fE1, fE2, fE3, fE4, fE1_16, fE2_16, fE3_16, fE4_16, fE1_34, fE2_34, fE3_34, fE4_34, fE1_52, fE2_52, fE3_52, fE4_52, own_z1, cr, adv]
    try grind
theorem own_f43 (u0 u1 u2 u3 c : Int32) : adv [u0, u1, u2, u3] (ptab 4 u0 u1 u2 u3) c 4 (cr 4 (ptab 4 u0 u1 u2 u3) 3) = g4 (4 : Int32) (fE1 u0 u1 u2 u3 [u0, u1, u2, c, (0 : Int32)] 4) (fE2 u0 u1 u2 u3 [u0, u1, u2, c, (0 : Int32)] 4) (fE3 u0 u1 u2 u3 [u0, u1, u2, c, (0 : Int32)] 4) (fE4 u0 u1 u2 u3 [u0, u1, u2, c, (0 : Int32)] 4) := by
  simp only [ptab, ptab4]
  repeat' split
  all_goals
    simp [g4, g3, g2, g1, own_l4, fE1, fE2, fE3, fE4, fE1_16, fE2_16, fE3_16, fE4_16, fE1_34, fE2_34, fE3_34, fE4_34, fE1_52, fE2_52, fE3_52, fE4_52, own_z1, cr, adv]
    try grind
theorem own_f44 (u0 u1 u2 u3 c : Int32) : adv [u0, u1, u2, u3] (ptab 4 u0 u1 u2 u3) c 4 (cr 4 (ptab 4 u0 u1 u2 u3) 4) = g4 (4 : Int32) (fE1 u0 u1 u2 u3 [u0, u1, u2, u3, c] 5) (fE2 u0 u1 u2 u3 [u0, u1, u2, u3, c] 5) (fE3 u0 u1 u2 u3 [u0, u1, u2, u3, c] 5) (fE4 u0 u1 u2 u3 [u0, u1, u2, u3, c] 5) := by
  simp only [ptab, ptab4]
  repeat' split
  all_goals
    simp [g4, g3, g2, g1, own_l4, fE1, fE2, fE3, fE4, fE1_16, fE2_16, fE3_16, fE4_16, fE1_34, fE2_34, fE3_34, fE4_34, fE1_52, fE2_52, fE3_52, fE4_52, own_z1, cr, adv]
    try grind
theorem own_fin {N mn : Nat} {u0 y1 y2 y3 c a0 a1 a2 a3 v x1 x2 x3 x4 : Int32} {S0 : List Int32} (hN : 1 ≤ N ∧ N ≤ 4) (hmn : mn ≤ N) (hS0 : S0 = [a0, a1, a2, a3, (0 : Int32)]) (_ : y1 = x1) (_ : y2 = x2) (_ : y3 = x3) (_ : c = x4)
    (h0 : a0 = (if 0 < (Int32.ofNat mn) then u0 else (0 : Int32))) (h1 : a1 = (if (1 : Int32) < (Int32.ofNat mn) then y1 else (0 : Int32))) (h2 : a2 = (if (2 : Int32) < (Int32.ofNat mn) then y2 else (0 : Int32))) (h3 : a3 = (if (3 : Int32) < (Int32.ofNat mn) then y3 else (0 : Int32)))
    (hv : v = g4 (f2 (Int32.ofNat (mn + 1)) (Int32.ofNat N)) (fE1 u0 y1 y2 y3 (S0.set mn c) (mn + 1)) (fE2 u0 y1 y2 y3 (S0.set mn c) (mn + 1)) (fE3 u0 y1 y2 y3 (S0.set mn c) (mn + 1)) (fE4 u0 y1 y2 y3 (S0.set mn c) (mn + 1))) :
    adv [u0, y1, y2, y3] (ptab N u0 y1 y2 y3) c N (cr N (ptab N u0 y1 y2 y3) mn) = v := by
  subst hv h0 h1 h2 h3 hS0
  match N, hN, mn, hmn with
  | 1, _, 0, _ => exact own_f10 u0 y1 y2 y3 c
  | 1, _, 1, _ => exact own_f11 u0 y1 y2 y3 c
  | 2, _, 0, _ => exact own_f20 u0 y1 y2 y3 c
  | 2, _, 1, _ => exact own_f21 u0 y1 y2 y3 c
  | 2, _, 2, _ => exact own_f22 u0 y1 y2 y3 c
  | 3, _, 0, _ => exact own_f30 u0 y1 y2 y3 c
  | 3, _, 1, _ => exact own_f31 u0 y1 y2 y3 c
  | 3, _, 2, _ => exact own_f32 u0 y1 y2 y3 c
  | 3, _, 3, _ => exact own_f33 u0 y1 y2 y3 c
  | 4, _, 0, _ => exact own_f40 u0 y1 y2 y3 c
  | 4, _, 1, _ => exact own_f41 u0 y1 y2 y3 c
  | 4, _, 2, _ => exact own_f42 u0 y1 y2 y3 c
  | 4, _, 3, _ => exact own_f43 u0 y1 y2 y3 c
  | 4, _, 4, _ => exact own_f44 u0 y1 y2 y3 c

theorem pd_2 : parseMethodDescriptor "(II)I" = some ⟨[.int, .int], some .int⟩ := by decide +kernel
theorem pd_3 : parseMethodDescriptor "([I[III)Z" = some ⟨[(.array .int), (.array .int), .int, .int], some .boolean⟩ := by decide +kernel
theorem pd_4 : parseMethodDescriptor "([I)V" = some ⟨[(.array .int)], none⟩ := by decide +kernel
theorem ef_0 (m : MethodId) (x0 : Int32) (x1 : Int32) (x2 : Int32) (x3 : Int32) (x4 : Int32) : entryFrame m #[(.int x0), (.int x1), (.int x2), (.int x3), (.int x4)] maxLocals = mkF m 0 #[.val (.int x0), .val (.int x1), .val (.int x2), .val (.int x3), .val (.int x4), .unset, .unset, .unset, .unset, .unset, .unset, .unset, .unset, .unset] [] := by first | (simp [entryFrame, mkF, argsToLocals, Value.category, maxLocals]; done) | rfl
set_option maxRecDepth 65536 in
set_option maxHeartbeats 40000000 in
theorem rm0 (l : Launch) (Z : State) (a0 : Array Value) (hw : ∀ d ∈ tables_1, d.before a0 Z = true) (ws : List Jvm.Cond) (p0 p1 p2 p3 p4 : Int32) (h0 : Heap) (n0 : Nat) (Z0 : n0 ≤ h0.size)  :
    MetFree l x (head1 (Jvm.Cond.code x code maxLocals ret :: ws) room_1) (fun a U => a = #[(.int p0), (.int p1), (.int p2), (.int p3), (.int p4)] ∧ Z.Warmed39 U.vm ∧ U.heap = h0) (fun _ _ _ _ _ => True) (fun _ U o U' => ∃ v L, o = .returned v ∧ QV (some (.int (1 : Int32))) (fun _ L => Fr n0 L) v U'.heap L ∧ FrameEnd U o U' L room_1.cells room_1.slots) := by
  refine MetFree.of_bodySF (plainFor_of_name pn_0) hisR ?_
  intro p e s m args below meth c s₁ Bd hml0 hP hK
  obtain ⟨rfl, hZ, hh⟩ := hP
  have hx := Bd.exec
  have hby := Bd.bytes
  have hml : c.maxLocals = 14 := hml0
  have hown : s.vm.findClass "com/example/sidestep/sidestep/CompiledPatternAdvancePinLaw" = some m.cls := findClass_of_methodNamed Bd.named
  have hnm := (name_of_methodNamed Bd.named Bd.method).1
  have hlk : meth.locks = false := BodyLoose.notSynchronized Bd
  have X0 : Stand p l e room_1 s m #[(.int p0), (.int p1), (.int p2), (.int p3), (.int p4)] below meth c s₁ [] 0 0 := Stand.of_body Bd
  have e0 : s₁.heap = h0 := by rw [← hh, Bd.state]; rfl
  have N0 := Fr.nil n0
  refine Got.body (ef_0 m p0 p1 p2 p3 p4) ?_
  refine Got.step (T' := s₁) (g' := (mkF m 7 #[.val (.int p0), .val (.int p1), .val (.int p2), .val (.int p3), .val (.int p4), .val (.int ((p0 &&& (3 : Int32)) + (1 : Int32))), .unset, .unset, .unset, .unset, .unset, .unset, .unset, .unset] [])) (fun tq kt => ?_) ?_
  · show Steps p.tables e below (s₁.setTop (mkF m 0 #[.val (.int p0), .val (.int p1), .val (.int p2), .val (.int p3), .val (.int p4), .unset, .unset, .unset, .unset, .unset, .unset, .unset, .unset, .unset] [])) _
    refine XS.iloadN X0.here hx rfl (hb hby at_0) rfl ?_
    show Steps p.tables e below (s₁.setTop (mkF m 1 #[.val (.int p0), .val (.int p1), .val (.int p2), .val (.int p3), .val (.int p4), .unset, .unset, .unset, .unset, .unset, .unset, .unset, .unset, .unset] [(.int p0)])) _
    refine XS.iconst X0.here hx rfl (hb hby at_1) ?_
    show Steps p.tables e below (s₁.setTop (mkF m 2 #[.val (.int p0), .val (.int p1), .val (.int p2), .val (.int p3), .val (.int p4), .unset, .unset, .unset, .unset, .unset, .unset, .unset, .unset, .unset] [(.int (3 : Int32)), (.int p0)])) _
    refine XS.iand X0.here hx rfl (hb hby at_2) rfl ?_
    show Steps p.tables e below (s₁.setTop (mkF m 3 #[.val (.int p0), .val (.int p1), .val (.int p2), .val (.int p3), .val (.int p4), .unset, .unset, .unset, .unset, .unset, .unset, .unset, .unset, .unset] [(.int (p0 &&& (3 : Int32)))])) _
    refine XS.iconst X0.here hx rfl (hb hby at_3) ?_
    show Steps p.tables e below (s₁.setTop (mkF m 4 #[.val (.int p0), .val (.int p1), .val (.int p2), .val (.int p3), .val (.int p4), .unset, .unset, .unset, .unset, .unset, .unset, .unset, .unset, .unset] [(.int (1 : Int32)), (.int (p0 &&& (3 : Int32)))])) _
    refine XS.iadd X0.here hx rfl (hb hby at_4) rfl ?_
    show Steps p.tables e below (s₁.setTop (mkF m 5 #[.val (.int p0), .val (.int p1), .val (.int p2), .val (.int p3), .val (.int p4), .unset, .unset, .unset, .unset, .unset, .unset, .unset, .unset, .unset] [(.int ((p0 &&& (3 : Int32)) + (1 : Int32)))])) _
    refine XS.istore X0.here hx rfl (hb hby at_5) rfl (l' := #[.val (.int p0), .val (.int p1), .val (.int p2), .val (.int p3), .val (.int p4), .val (.int ((p0 &&& (3 : Int32)) + (1 : Int32))), .unset, .unset, .unset, .unset, .unset, .unset, .unset, .unset]) rfl ?_
    exact kt
  obtain ⟨N, hN, eN⟩ := own_N p0
  rw [eN]
  show Got p e below s _ _ _ _ s₁ (mkF m 7 #[.val (.int p0), .val (.int p1), .val (.int p2), .val (.int p3), .val (.int p4), .val (.int (Int32.ofNat N)), .unset, .unset, .unset, .unset, .unset, .unset, .unset, .unset] [])
  refine Got.step (T' := s₁) (g' := (mkF m 9 #[.val (.int p0), .val (.int p1), .val (.int p2), .val (.int p3), .val (.int p4), .val (.int (Int32.ofNat N)), .unset, .unset, .unset, .unset, .unset, .unset, .unset, .unset] [(.int (Int32.ofNat N))])) (fun tq kt => ?_) ?_
  · show Steps p.tables e below (s₁.setTop (mkF m 7 #[.val (.int p0), .val (.int p1), .val (.int p2), .val (.int p3), .val (.int p4), .val (.int (Int32.ofNat N)), .unset, .unset, .unset, .unset, .unset, .unset, .unset, .unset] [])) _
    refine XS.iload X0.here hx rfl (hb hby at_7) rfl ?_
    exact kt
  obtain ⟨T390, h390, k390, X390, e390, E390, A390, st390⟩ := newP X0 hx hZ (hw _ (List.mem_of_getElem? (i := 0) rfl)) e0 (g := (mkF m 9 #[.val (.int p0), .val (.int p1), .val (.int p2), .val (.int p3), .val (.int p4), .val (.int (Int32.ofNat N)), .unset, .unset, .unset, .unset, .unset, .unset, .unset, .unset] [(.int (Int32.ofNat N))])) rfl (hb hby at_9) rfl (own_N0 hN) (cap := 4) (own_N4 hN) (by decide) (by decide) (by decide)
  obtain ⟨b390, g390⟩ : ∃ z, z = h0.size := ⟨_, rfl⟩
  rw [← g390] at A390 st390
  have gn_b390 : n0 ≤ b390 := by rw [g390]; exact Z0
  have Z0_391 : n0 ≤ h390.size := (Nat.le_trans Z0 E390.1)
  have V390 : Arv Z h390 b390 k390 .int (Int32.ofNat N) [(.int (0 : Int32)), (.int (0 : Int32)), (.int (0 : Int32)), (.int (0 : Int32))] (.int (0 : Int32)) := (Arv.new A390 (own_N0 hN)).pad (pad_rep [] (.int (0 : Int32)) 4)
  refine Got.step st390 ?_
  show Got p e below s _ _ _ _ T390 (mkF m 11 #[.val (.int p0), .val (.int p1), .val (.int p2), .val (.int p3), .val (.int p4), .val (.int (Int32.ofNat N)), .unset, .unset, .unset, .unset, .unset, .unset, .unset, .unset] [(.ref b390)])
  refine Got.step (T' := T390) (g' := (mkF m 14 #[.val (.int p0), .val (.int p1), .val (.int p2), .val (.int p3), .val (.int p4), .val (.int (Int32.ofNat N)), .val (.ref b390), .unset, .unset, .unset, .unset, .unset, .unset, .unset] [(.int (5 : Int32))])) (fun tq kt => ?_) ?_
  · show Steps p.tables e below (T390.setTop (mkF m 11 #[.val (.int p0), .val (.int p1), .val (.int p2), .val (.int p3), .val (.int p4), .val (.int (Int32.ofNat N)), .unset, .unset, .unset, .unset, .unset, .unset, .unset, .unset] [(.ref b390)])) _
    refine XS.astore X390.here hx rfl (hb hby at_11) rfl rfl (l' := #[.val (.int p0), .val (.int p1), .val (.int p2), .val (.int p3), .val (.int p4), .val (.int (Int32.ofNat N)), .val (.ref b390), .unset, .unset, .unset, .unset, .unset, .unset, .unset]) rfl ?_
    show Steps p.tables e below (T390.setTop (mkF m 13 #[.val (.int p0), .val (.int p1), .val (.int p2), .val (.int p3), .val (.int p4), .val (.int (Int32.ofNat N)), .val (.ref b390), .unset, .unset, .unset, .unset, .unset, .unset, .unset] [])) _
    refine XS.iconst X390.here hx rfl (hb hby at_13) ?_
    exact kt
  obtain ⟨T392, h392, k392, X392, e392, E392, A392, st392⟩ := newP X390 hx hZ (hw _ (List.mem_of_getElem? (i := 0) rfl)) e390 (g := (mkF m 14 #[.val (.int p0), .val (.int p1), .val (.int p2), .val (.int p3), .val (.int p4), .val (.int (Int32.ofNat N)), .val (.ref b390), .unset, .unset, .unset, .unset, .unset, .unset, .unset] [(.int (5 : Int32))])) rfl (hb hby at_14) rfl (by decide) (cap := 5) (by decide) (by decide) (by decide) (by decide)
  obtain ⟨b392, g392⟩ : ∃ z, z = h390.size := ⟨_, rfl⟩
  rw [← g392] at A392 st392
  have ne_b390_b392 : b390 ≠ b392 := by rw [g392]; exact Nat.ne_of_lt V390.lt
  have gn_b392 : n0 ≤ b392 := by rw [g392]; exact Z0_391
  have Z0_393 : n0 ≤ h392.size := (Nat.le_trans Z0_391 E392.1)
  have V390_394 : Arv Z h392 b390 k390 .int (Int32.ofNat N) [(.int (0 : Int32)), (.int (0 : Int32)), (.int (0 : Int32)), (.int (0 : Int32))] (.int (0 : Int32)) := (V390.ext E392)
  have V392 : Arv Z h392 b392 k392 .int (5 : Int32) [(.int (0 : Int32)), (.int (0 : Int32)), (.int (0 : Int32)), (.int (0 : Int32)), (.int (0 : Int32))] (.int (0 : Int32)) := (Arv.new A392 (by decide)).pad (pad_rep [] (.int (0 : Int32)) 5)
  refine Got.step st392 ?_
  show Got p e below s _ _ _ _ T392 (mkF m 16 #[.val (.int p0), .val (.int p1), .val (.int p2), .val (.int p3), .val (.int p4), .val (.int (Int32.ofNat N)), .val (.ref b390), .unset, .unset, .unset, .unset, .unset, .unset, .unset] [(.ref b392)])
  refine Got.step (T' := T392) (g' := (mkF m 25 #[.val (.int p0), .val (.int p1), .val (.int p2), .val (.int p3), .val (.int p4), .val (.int (Int32.ofNat N)), .val (.ref b390), .val (.ref b392), .unset, .unset, .unset, .unset, .unset, .unset] [(.int (p3 &&& (3 : Int32))), (.int p2), (.int (0 : Int32)), (.ref b390)])) (fun tq kt => ?_) ?_
  · show Steps p.tables e below (T392.setTop (mkF m 16 #[.val (.int p0), .val (.int p1), .val (.int p2), .val (.int p3), .val (.int p4), .val (.int (Int32.ofNat N)), .val (.ref b390), .unset, .unset, .unset, .unset, .unset, .unset, .unset] [(.ref b392)])) _
    refine XS.astore X392.here hx rfl (hb hby at_16) rfl rfl (l' := #[.val (.int p0), .val (.int p1), .val (.int p2), .val (.int p3), .val (.int p4), .val (.int (Int32.ofNat N)), .val (.ref b390), .val (.ref b392), .unset, .unset, .unset, .unset, .unset, .unset]) rfl ?_
    show Steps p.tables e below (T392.setTop (mkF m 18 #[.val (.int p0), .val (.int p1), .val (.int p2), .val (.int p3), .val (.int p4), .val (.int (Int32.ofNat N)), .val (.ref b390), .val (.ref b392), .unset, .unset, .unset, .unset, .unset, .unset] [])) _
    refine XS.aload X392.here hx rfl (hb hby at_18) rfl rfl ?_
    show Steps p.tables e below (T392.setTop (mkF m 20 #[.val (.int p0), .val (.int p1), .val (.int p2), .val (.int p3), .val (.int p4), .val (.int (Int32.ofNat N)), .val (.ref b390), .val (.ref b392), .unset, .unset, .unset, .unset, .unset, .unset] [(.ref b390)])) _
    refine XS.iconst X392.here hx rfl (hb hby at_20) ?_
    show Steps p.tables e below (T392.setTop (mkF m 21 #[.val (.int p0), .val (.int p1), .val (.int p2), .val (.int p3), .val (.int p4), .val (.int (Int32.ofNat N)), .val (.ref b390), .val (.ref b392), .unset, .unset, .unset, .unset, .unset, .unset] [(.int (0 : Int32)), (.ref b390)])) _
    refine XS.iloadN X392.here hx rfl (hb hby at_21) rfl ?_
    show Steps p.tables e below (T392.setTop (mkF m 22 #[.val (.int p0), .val (.int p1), .val (.int p2), .val (.int p3), .val (.int p4), .val (.int (Int32.ofNat N)), .val (.ref b390), .val (.ref b392), .unset, .unset, .unset, .unset, .unset, .unset] [(.int p2), (.int (0 : Int32)), (.ref b390)])) _
    refine XS.iloadN X392.here hx rfl (hb hby at_22) rfl ?_
    show Steps p.tables e below (T392.setTop (mkF m 23 #[.val (.int p0), .val (.int p1), .val (.int p2), .val (.int p3), .val (.int p4), .val (.int (Int32.ofNat N)), .val (.ref b390), .val (.ref b392), .unset, .unset, .unset, .unset, .unset, .unset] [(.int p3), (.int p2), (.int (0 : Int32)), (.ref b390)])) _
    refine XS.iconst X392.here hx rfl (hb hby at_23) ?_
    show Steps p.tables e below (T392.setTop (mkF m 24 #[.val (.int p0), .val (.int p1), .val (.int p2), .val (.int p3), .val (.int p4), .val (.int (Int32.ofNat N)), .val (.ref b390), .val (.ref b392), .unset, .unset, .unset, .unset, .unset, .unset] [(.int (3 : Int32)), (.int p3), (.int p2), (.int (0 : Int32)), (.ref b390)])) _
    refine XS.iand X392.here hx rfl (hb hby at_24) rfl ?_
    exact kt
  obtain ⟨_, _, ⟨T395, L395, k395, n395⟩, -, X395, ⟨Lc395, hQ395, l395, y395, z395⟩, st395⟩ := Jvm.LawKit.callS X392 hx (y := (⟨"com/example/sidestep/sidestep/CompiledPatternAdvancePinLaw", "off", "(I)I"⟩ : MethodName)) hown (mvT hZ (hw _ (List.mem_of_getElem? (i := 1) rfl))) (mvT hZ (hw _ (List.mem_of_getElem? (i := 2) rfl))) (mvT hZ (hw _ (List.mem_of_getElem? (i := 3) rfl))) (mvT hZ (hw _ (List.mem_of_getElem? (i := 4) rfl))) (by decide) (backOf (W := 3) (rm1 l Z a0 hw [] (p3 &&& (3 : Int32)) h392 n0 Z0_393) hZ (hw _ (List.mem_of_getElem? (i := 4) rfl)) (hw _ (List.mem_of_getElem? (i := 3) rfl)) (by decide) (by decide)) (g := (mkF m 25 #[.val (.int p0), .val (.int p1), .val (.int p2), .val (.int p3), .val (.int p4), .val (.int (Int32.ofNat N)), .val (.ref b390), .val (.ref b392), .unset, .unset, .unset, .unset, .unset, .unset] [(.int (p3 &&& (3 : Int32))), (.int p2), (.int (0 : Int32)), (.ref b390)])) rfl (by rw [hml]; rfl) (argsL := [(.int (p3 &&& (3 : Int32)))]) (rest := [(.int p2), (.int (0 : Int32)), (.ref b390)]) (lenOf pd_1 rfl) rfl (by show 2 * 0 + _ ≤ _; exact Nat.le_of_eq rfl) (hb hby at_25) (fun _ _ => ⟨rfl, e392, (by decide : 2 + 0 ≤ _), (by decide : 9 + 0 ≤ _)⟩)
  dsimp only [Pt.U, Pt.locs, Pt.cells, Pt.slots] at X395 l395 y395 z395 st395 hQ395
  subst y395 z395
  obtain ⟨rfl, Nq395, e395⟩ := hQ395
  have N395 : Fr n0 L395 := by rw [l395]; exact Fr.app N0 Nq395
  refine Got.step st395 ?_
  show Got p e below s _ _ _ _ T395 (mkF m 28 #[.val (.int p0), .val (.int p1), .val (.int p2), .val (.int p3), .val (.int p4), .val (.int (Int32.ofNat N)), .val (.ref b390), .val (.ref b392), .unset, .unset, .unset, .unset, .unset, .unset] [(.int (f1 (p3 &&& (3 : Int32)))), (.int p2), (.int (0 : Int32)), (.ref b390)])
  refine Got.step (T' := T395) (g' := (mkF m 29 #[.val (.int p0), .val (.int p1), .val (.int p2), .val (.int p3), .val (.int p4), .val (.int (Int32.ofNat N)), .val (.ref b390), .val (.ref b392), .unset, .unset, .unset, .unset, .unset, .unset] [(.int (p2 + (f1 (p3 &&& (3 : Int32))))), (.int (0 : Int32)), (.ref b390)])) (fun tq kt => ?_) ?_
  · show Steps p.tables e below (T395.setTop (mkF m 28 #[.val (.int p0), .val (.int p1), .val (.int p2), .val (.int p3), .val (.int p4), .val (.int (Int32.ofNat N)), .val (.ref b390), .val (.ref b392), .unset, .unset, .unset, .unset, .unset, .unset] [(.int (f1 (p3 &&& (3 : Int32)))), (.int p2), (.int (0 : Int32)), (.ref b390)])) _
    refine XS.iadd X395.here hx rfl (hb hby at_28) rfl ?_
    exact kt
  obtain ⟨cl396, Ar396, q396, S396, M396, H396, G396⟩ := (id V390_394)
  have hin396 : ¬ ((0 : Int32) < 0 ∨ cl396.slots.size ≤ ((0 : Int32)).toNatClampNeg) := inb_of S396 (own_p0 hN)
  obtain ⟨T396, h396, X396, e396, W396, st396⟩ := stI X395 hx hZ e395 Ar396 (j := (0 : Int32)) hin396 (g := (mkF m 29 #[.val (.int p0), .val (.int p1), .val (.int p2), .val (.int p3), .val (.int p4), .val (.int (Int32.ofNat N)), .val (.ref b390), .val (.ref b392), .unset, .unset, .unset, .unset, .unset, .unset] [(.int (p2 + (f1 (p3 &&& (3 : Int32))))), (.int (0 : Int32)), (.ref b390)])) rfl rfl (hb hby at_29)
  have Z0_397 : n0 ≤ h396.size := (Nat.le_trans Z0_393 (Keep.of_wr W396).1)
  have V392_398 : Arv Z h396 b392 k392 .int (5 : Int32) [(.int (0 : Int32)), (.int (0 : Int32)), (.int (0 : Int32)), (.int (0 : Int32)), (.int (0 : Int32))] (.int (0 : Int32)) := (V392.other W396 (Ne.symm ne_b390_b392))
  have V396 : Arv Z h396 b390 k390 .int (Int32.ofNat N) [(.int (p2 + (f1 (p3 &&& (3 : Int32))))), (.int (0 : Int32)), (.int (0 : Int32)), (.int (0 : Int32))] (.int (0 : Int32)) := Arv.set Ar396 q396 S396 M396 H396 G396 rfl W396 0 rfl (Nat.le_of_ble_eq_true rfl)
  have N396 := Fr.snoc X396 N395 gn_b390
  refine Got.step st396 ?_
  show Got p e below s _ _ _ _ T396 (mkF m 30 #[.val (.int p0), .val (.int p1), .val (.int p2), .val (.int p3), .val (.int p4), .val (.int (Int32.ofNat N)), .val (.ref b390), .val (.ref b392), .unset, .unset, .unset, .unset, .unset, .unset] [])
  refine Got.step (T' := T396) (g' := (mkF m 33 #[.val (.int p0), .val (.int p1), .val (.int p2), .val (.int p3), .val (.int p4), .val (.int (Int32.ofNat N)), .val (.ref b390), .val (.ref b392), .unset, .unset, .unset, .unset, .unset, .unset] [(.int (1 : Int32)), (.int (Int32.ofNat N))])) (fun tq kt => ?_) ?_
  · show Steps p.tables e below (T396.setTop (mkF m 30 #[.val (.int p0), .val (.int p1), .val (.int p2), .val (.int p3), .val (.int p4), .val (.int (Int32.ofNat N)), .val (.ref b390), .val (.ref b392), .unset, .unset, .unset, .unset, .unset, .unset] [])) _
    refine XS.iload X396.here hx rfl (hb hby at_30) rfl ?_
    show Steps p.tables e below (T396.setTop (mkF m 32 #[.val (.int p0), .val (.int p1), .val (.int p2), .val (.int p3), .val (.int p4), .val (.int (Int32.ofNat N)), .val (.ref b390), .val (.ref b392), .unset, .unset, .unset, .unset, .unset, .unset] [(.int (Int32.ofNat N))])) _
    refine XS.iconst X396.here hx rfl (hb hby at_32) ?_
    exact kt
  have J399 : ∀ (T399 : State) (h399 : Heap) (L399 : List Loc), Stand p l e room_1 s m #[(.int p0), (.int p1), (.int p2), (.int p3), (.int p4)] below meth c T399 L399 2 9 → T399.heap = h399 → Fr n0 L399 → ∀ (y399_b390_1 : Int32), y399_b390_1 = (if (1 : Int32) < (Int32.ofNat N) then (p2 + (f1 (((p3.toUInt32 >>> ((2 : Int32) &&& 31).toUInt32).toInt32) &&& (3 : Int32)))) else (0 : Int32)) → n0 ≤ h399.size → Arv Z h399 b390 k390 .int (Int32.ofNat N) [(.int (p2 + (f1 (p3 &&& (3 : Int32))))), (.int y399_b390_1), (.int (0 : Int32)), (.int (0 : Int32))] (.int (0 : Int32)) → Arv Z h399 b392 k392 .int (5 : Int32) [(.int (0 : Int32)), (.int (0 : Int32)), (.int (0 : Int32)), (.int (0 : Int32)), (.int (0 : Int32))] (.int (0 : Int32)) → Got p e below s (fun _ L => Fr n0 L) room_1.cells room_1.slots (some (.int (1 : Int32))) T399 (mkF m 50 #[.val (.int p0), .val (.int p1), .val (.int p2), .val (.int p3), .val (.int p4), .val (.int (Int32.ofNat N)), .val (.ref b390), .val (.ref b392), .unset, .unset, .unset, .unset, .unset, .unset] []) := by
    intro T399 h399 L399 X399 e399 N399 y399_b390_1 hy399_b390_1 Z0_405 V402_406 V392_407
    refine Got.step (T' := T399) (g' := (mkF m 53 #[.val (.int p0), .val (.int p1), .val (.int p2), .val (.int p3), .val (.int p4), .val (.int (Int32.ofNat N)), .val (.ref b390), .val (.ref b392), .unset, .unset, .unset, .unset, .unset, .unset] [(.int (2 : Int32)), (.int (Int32.ofNat N))])) (fun tq kt => ?_) ?_
    · show Steps p.tables e below (T399.setTop (mkF m 50 #[.val (.int p0), .val (.int p1), .val (.int p2), .val (.int p3), .val (.int p4), .val (.int (Int32.ofNat N)), .val (.ref b390), .val (.ref b392), .unset, .unset, .unset, .unset, .unset, .unset] [])) _
      refine XS.iload X399.here hx rfl (hb hby at_50) rfl ?_
      show Steps p.tables e below (T399.setTop (mkF m 52 #[.val (.int p0), .val (.int p1), .val (.int p2), .val (.int p3), .val (.int p4), .val (.int (Int32.ofNat N)), .val (.ref b390), .val (.ref b392), .unset, .unset, .unset, .unset, .unset, .unset] [(.int (Int32.ofNat N))])) _
      refine XS.iconst X399.here hx rfl (hb hby at_52) ?_
      exact kt
    have J408 : ∀ (T408 : State) (h408 : Heap) (L408 : List Loc), Stand p l e room_1 s m #[(.int p0), (.int p1), (.int p2), (.int p3), (.int p4)] below meth c T408 L408 2 9 → T408.heap = h408 → Fr n0 L408 → ∀ (y408_b390_2 : Int32), y408_b390_2 = (if (2 : Int32) < (Int32.ofNat N) then (p2 + (f1 (((p3.toUInt32 >>> ((4 : Int32) &&& 31).toUInt32).toInt32) &&& (3 : Int32)))) else (0 : Int32)) → n0 ≤ h408.size → Arv Z h408 b390 k390 .int (Int32.ofNat N) [(.int (p2 + (f1 (p3 &&& (3 : Int32))))), (.int y399_b390_1), (.int y408_b390_2), (.int (0 : Int32))] (.int (0 : Int32)) → Arv Z h408 b392 k392 .int (5 : Int32) [(.int (0 : Int32)), (.int (0 : Int32)), (.int (0 : Int32)), (.int (0 : Int32)), (.int (0 : Int32))] (.int (0 : Int32)) → Got p e below s (fun _ L => Fr n0 L) room_1.cells room_1.slots (some (.int (1 : Int32))) T408 (mkF m 70 #[.val (.int p0), .val (.int p1), .val (.int p2), .val (.int p3), .val (.int p4), .val (.int (Int32.ofNat N)), .val (.ref b390), .val (.ref b392), .unset, .unset, .unset, .unset, .unset, .unset] []) := by
      intro T408 h408 L408 X408 e408 N408 y408_b390_2 hy408_b390_2 Z0_414 V411_415 V392_416
      refine Got.step (T' := T408) (g' := (mkF m 73 #[.val (.int p0), .val (.int p1), .val (.int p2), .val (.int p3), .val (.int p4), .val (.int (Int32.ofNat N)), .val (.ref b390), .val (.ref b392), .unset, .unset, .unset, .unset, .unset, .unset] [(.int (3 : Int32)), (.int (Int32.ofNat N))])) (fun tq kt => ?_) ?_
      · show Steps p.tables e below (T408.setTop (mkF m 70 #[.val (.int p0), .val (.int p1), .val (.int p2), .val (.int p3), .val (.int p4), .val (.int (Int32.ofNat N)), .val (.ref b390), .val (.ref b392), .unset, .unset, .unset, .unset, .unset, .unset] [])) _
        refine XS.iload X408.here hx rfl (hb hby at_70) rfl ?_
        show Steps p.tables e below (T408.setTop (mkF m 72 #[.val (.int p0), .val (.int p1), .val (.int p2), .val (.int p3), .val (.int p4), .val (.int (Int32.ofNat N)), .val (.ref b390), .val (.ref b392), .unset, .unset, .unset, .unset, .unset, .unset] [(.int (Int32.ofNat N))])) _
        refine XS.iconst X408.here hx rfl (hb hby at_72) ?_
        exact kt
      have J417 : ∀ (T417 : State) (h417 : Heap) (L417 : List Loc), Stand p l e room_1 s m #[(.int p0), (.int p1), (.int p2), (.int p3), (.int p4)] below meth c T417 L417 2 9 → T417.heap = h417 → Fr n0 L417 → ∀ (y417_b390_3 : Int32), y417_b390_3 = (if (3 : Int32) < (Int32.ofNat N) then (p2 + (f1 (((p3.toUInt32 >>> ((6 : Int32) &&& 31).toUInt32).toInt32) &&& (3 : Int32)))) else (0 : Int32)) → n0 ≤ h417.size → Arv Z h417 b390 k390 .int (Int32.ofNat N) [(.int (p2 + (f1 (p3 &&& (3 : Int32))))), (.int y399_b390_1), (.int y408_b390_2), (.int y417_b390_3)] (.int (0 : Int32)) → Arv Z h417 b392 k392 .int (5 : Int32) [(.int (0 : Int32)), (.int (0 : Int32)), (.int (0 : Int32)), (.int (0 : Int32)), (.int (0 : Int32))] (.int (0 : Int32)) → Got p e below s (fun _ L => Fr n0 L) room_1.cells room_1.slots (some (.int (1 : Int32))) T417 (mkF m 91 #[.val (.int p0), .val (.int p1), .val (.int p2), .val (.int p3), .val (.int p4), .val (.int (Int32.ofNat N)), .val (.ref b390), .val (.ref b392), .unset, .unset, .unset, .unset, .unset, .unset] []) := by
        intro T417 h417 L417 X417 e417 N417 y417_b390_3 hy417_b390_3 Z0_423 V420_424 V392_425
        refine Got.step (T' := T417) (g' := (mkF m 97 #[.val (.int p0), .val (.int p1), .val (.int p2), .val (.int p3), .val (.int p4), .val (.int (Int32.ofNat N)), .val (.ref b390), .val (.ref b392), .unset, .unset, .unset, .unset, .unset, .unset] [(.int (((p3.toUInt32 >>> ((10 : Int32) &&& 31).toUInt32).toInt32) &&& (1 : Int32)))])) (fun tq kt => ?_) ?_
        · show Steps p.tables e below (T417.setTop (mkF m 91 #[.val (.int p0), .val (.int p1), .val (.int p2), .val (.int p3), .val (.int p4), .val (.int (Int32.ofNat N)), .val (.ref b390), .val (.ref b392), .unset, .unset, .unset, .unset, .unset, .unset] [])) _
          refine XS.iloadN X417.here hx rfl (hb hby at_91) rfl ?_
          show Steps p.tables e below (T417.setTop (mkF m 92 #[.val (.int p0), .val (.int p1), .val (.int p2), .val (.int p3), .val (.int p4), .val (.int (Int32.ofNat N)), .val (.ref b390), .val (.ref b392), .unset, .unset, .unset, .unset, .unset, .unset] [(.int p3)])) _
          refine XS.bipush X417.here hx rfl (hb hby at_92) ?_
          show Steps p.tables e below (T417.setTop (mkF m 94 #[.val (.int p0), .val (.int p1), .val (.int p2), .val (.int p3), .val (.int p4), .val (.int (Int32.ofNat N)), .val (.ref b390), .val (.ref b392), .unset, .unset, .unset, .unset, .unset, .unset] [(.int (10 : Int32)), (.int p3)])) _
          refine XS.iushr X417.here hx rfl (hb hby at_94) rfl ?_
          show Steps p.tables e below (T417.setTop (mkF m 95 #[.val (.int p0), .val (.int p1), .val (.int p2), .val (.int p3), .val (.int p4), .val (.int (Int32.ofNat N)), .val (.ref b390), .val (.ref b392), .unset, .unset, .unset, .unset, .unset, .unset] [(.int ((p3.toUInt32 >>> ((10 : Int32) &&& 31).toUInt32).toInt32))])) _
          refine XS.iconst X417.here hx rfl (hb hby at_95) ?_
          show Steps p.tables e below (T417.setTop (mkF m 96 #[.val (.int p0), .val (.int p1), .val (.int p2), .val (.int p3), .val (.int p4), .val (.int (Int32.ofNat N)), .val (.ref b390), .val (.ref b392), .unset, .unset, .unset, .unset, .unset, .unset] [(.int (1 : Int32)), (.int ((p3.toUInt32 >>> ((10 : Int32) &&& 31).toUInt32).toInt32))])) _
          refine XS.iand X417.here hx rfl (hb hby at_96) rfl ?_
          exact kt
        have J426 : ∀ (T426 : State) (h426 : Heap) (L426 : List Loc), Stand p l e room_1 s m #[(.int p0), (.int p1), (.int p2), (.int p3), (.int p4)] below meth c T426 L426 2 9 → T426.heap = h426 → Fr n0 L426 → ∀ (k426_0 : Int32), k426_0 = (if (((p3.toUInt32 >>> ((10 : Int32) &&& 31).toUInt32).toInt32) &&& (1 : Int32)) = 0 then (p2 + (f1 (((p3.toUInt32 >>> ((8 : Int32) &&& 31).toUInt32).toInt32) &&& (3 : Int32)))) else p4) → n0 ≤ h426.size → Arv Z h426 b390 k390 .int (Int32.ofNat N) [(.int (p2 + (f1 (p3 &&& (3 : Int32))))), (.int y399_b390_1), (.int y408_b390_2), (.int y417_b390_3)] (.int (0 : Int32)) → Arv Z h426 b392 k392 .int (5 : Int32) [(.int (0 : Int32)), (.int (0 : Int32)), (.int (0 : Int32)), (.int (0 : Int32)), (.int (0 : Int32))] (.int (0 : Int32)) → Got p e below s (fun _ L => Fr n0 L) room_1.cells room_1.slots (some (.int (1 : Int32))) T426 (mkF m 116 #[.val (.int p0), .val (.int p1), .val (.int p2), .val (.int p3), .val (.int p4), .val (.int (Int32.ofNat N)), .val (.ref b390), .val (.ref b392), .unset, .unset, .unset, .unset, .unset, .unset] [(.int k426_0)]) := by
          intro T426 h426 L426 X426 e426 N426 k426_0 hk426_0 Z0_429 V420_430 V392_431
          refine Got.step (T' := T426) (g' := (mkF m 129 #[.val (.int p0), .val (.int p1), .val (.int p2), .val (.int p3), .val (.int p4), .val (.int (Int32.ofNat N)), .val (.ref b390), .val (.ref b392), .val (.int k426_0), .val (.int ((p1 &&& (2147483647 : Int32)) % ((Int32.ofNat N) + (1 : Int32)))), .unset, .unset, .unset, .unset] [])) (fun tq kt => ?_) ?_
          · show Steps p.tables e below (T426.setTop (mkF m 116 #[.val (.int p0), .val (.int p1), .val (.int p2), .val (.int p3), .val (.int p4), .val (.int (Int32.ofNat N)), .val (.ref b390), .val (.ref b392), .unset, .unset, .unset, .unset, .unset, .unset] [(.int k426_0)])) _
            refine XS.istore X426.here hx rfl (hb hby at_116) rfl (l' := #[.val (.int p0), .val (.int p1), .val (.int p2), .val (.int p3), .val (.int p4), .val (.int (Int32.ofNat N)), .val (.ref b390), .val (.ref b392), .val (.int k426_0), .unset, .unset, .unset, .unset, .unset]) rfl ?_
            show Steps p.tables e below (T426.setTop (mkF m 118 #[.val (.int p0), .val (.int p1), .val (.int p2), .val (.int p3), .val (.int p4), .val (.int (Int32.ofNat N)), .val (.ref b390), .val (.ref b392), .val (.int k426_0), .unset, .unset, .unset, .unset, .unset] [])) _
            refine XS.iloadN X426.here hx rfl (hb hby at_118) rfl ?_
            show Steps p.tables e below (T426.setTop (mkF m 119 #[.val (.int p0), .val (.int p1), .val (.int p2), .val (.int p3), .val (.int p4), .val (.int (Int32.ofNat N)), .val (.ref b390), .val (.ref b392), .val (.int k426_0), .unset, .unset, .unset, .unset, .unset] [(.int p1)])) _
            refine X426.ldcI hx hown (mvT hZ (hw _ (List.mem_of_getElem? (i := 5) rfl))) rfl (hb hby at_119) ?_
            show Steps p.tables e below (T426.setTop (mkF m 121 #[.val (.int p0), .val (.int p1), .val (.int p2), .val (.int p3), .val (.int p4), .val (.int (Int32.ofNat N)), .val (.ref b390), .val (.ref b392), .val (.int k426_0), .unset, .unset, .unset, .unset, .unset] [(.int (2147483647 : Int32)), (.int p1)])) _
            refine XS.iand X426.here hx rfl (hb hby at_121) rfl ?_
            show Steps p.tables e below (T426.setTop (mkF m 122 #[.val (.int p0), .val (.int p1), .val (.int p2), .val (.int p3), .val (.int p4), .val (.int (Int32.ofNat N)), .val (.ref b390), .val (.ref b392), .val (.int k426_0), .unset, .unset, .unset, .unset, .unset] [(.int (p1 &&& (2147483647 : Int32)))])) _
            refine XS.iload X426.here hx rfl (hb hby at_122) rfl ?_
            show Steps p.tables e below (T426.setTop (mkF m 124 #[.val (.int p0), .val (.int p1), .val (.int p2), .val (.int p3), .val (.int p4), .val (.int (Int32.ofNat N)), .val (.ref b390), .val (.ref b392), .val (.int k426_0), .unset, .unset, .unset, .unset, .unset] [(.int (Int32.ofNat N)), (.int (p1 &&& (2147483647 : Int32)))])) _
            refine XS.iconst X426.here hx rfl (hb hby at_124) ?_
            show Steps p.tables e below (T426.setTop (mkF m 125 #[.val (.int p0), .val (.int p1), .val (.int p2), .val (.int p3), .val (.int p4), .val (.int (Int32.ofNat N)), .val (.ref b390), .val (.ref b392), .val (.int k426_0), .unset, .unset, .unset, .unset, .unset] [(.int (1 : Int32)), (.int (Int32.ofNat N)), (.int (p1 &&& (2147483647 : Int32)))])) _
            refine XS.iadd X426.here hx rfl (hb hby at_125) rfl ?_
            show Steps p.tables e below (T426.setTop (mkF m 126 #[.val (.int p0), .val (.int p1), .val (.int p2), .val (.int p3), .val (.int p4), .val (.int (Int32.ofNat N)), .val (.ref b390), .val (.ref b392), .val (.int k426_0), .unset, .unset, .unset, .unset, .unset] [(.int ((Int32.ofNat N) + (1 : Int32))), (.int (p1 &&& (2147483647 : Int32)))])) _
            refine iremM X426 hx rfl (hb hby at_126) rfl (own_N1 hN) ?_
            show Steps p.tables e below (T426.setTop (mkF m 127 #[.val (.int p0), .val (.int p1), .val (.int p2), .val (.int p3), .val (.int p4), .val (.int (Int32.ofNat N)), .val (.ref b390), .val (.ref b392), .val (.int k426_0), .unset, .unset, .unset, .unset, .unset] [(.int ((p1 &&& (2147483647 : Int32)) % ((Int32.ofNat N) + (1 : Int32))))])) _
            refine XS.istore X426.here hx rfl (hb hby at_127) rfl (l' := #[.val (.int p0), .val (.int p1), .val (.int p2), .val (.int p3), .val (.int p4), .val (.int (Int32.ofNat N)), .val (.ref b390), .val (.ref b392), .val (.int k426_0), .val (.int ((p1 &&& (2147483647 : Int32)) % ((Int32.ofNat N) + (1 : Int32)))), .unset, .unset, .unset, .unset]) rfl ?_
            exact kt
          obtain ⟨mn, hmn, em⟩ := own_m p1 hN
          rw [em]
          show Got p e below s _ _ _ _ T426 (mkF m 129 #[.val (.int p0), .val (.int p1), .val (.int p2), .val (.int p3), .val (.int p4), .val (.int (Int32.ofNat N)), .val (.ref b390), .val (.ref b392), .val (.int k426_0), .val (.int (Int32.ofNat mn)), .unset, .unset, .unset, .unset] [])
          refine Got.step (T' := T426) (g' := (mkF m 131 #[.val (.int p0), .val (.int p1), .val (.int p2), .val (.int p3), .val (.int p4), .val (.int (Int32.ofNat N)), .val (.ref b390), .val (.ref b392), .val (.int k426_0), .val (.int (Int32.ofNat mn)), .unset, .unset, .unset, .unset] [(.int (Int32.ofNat mn))])) (fun tq kt => ?_) ?_
          · show Steps p.tables e below (T426.setTop (mkF m 129 #[.val (.int p0), .val (.int p1), .val (.int p2), .val (.int p3), .val (.int p4), .val (.int (Int32.ofNat N)), .val (.ref b390), .val (.ref b392), .val (.int k426_0), .val (.int (Int32.ofNat mn)), .unset, .unset, .unset, .unset] [])) _
            refine XS.iload X426.here hx rfl (hb hby at_129) rfl ?_
            exact kt
          have J432 : ∀ (T432 : State) (h432 : Heap) (L432 : List Loc), Stand p l e room_1 s m #[(.int p0), (.int p1), (.int p2), (.int p3), (.int p4)] below meth c T432 L432 2 9 → T432.heap = h432 → Fr n0 L432 → ∀ (y432_b392_0 : Int32), y432_b392_0 = (if 0 < (Int32.ofNat mn) then (p2 + (f1 (p3 &&& (3 : Int32)))) else (0 : Int32)) → n0 ≤ h432.size → Arv Z h432 b390 k390 .int (Int32.ofNat N) [(.int (p2 + (f1 (p3 &&& (3 : Int32))))), (.int y399_b390_1), (.int y408_b390_2), (.int y417_b390_3)] (.int (0 : Int32)) → Arv Z h432 b392 k392 .int (5 : Int32) [(.int y432_b392_0), (.int (0 : Int32)), (.int (0 : Int32)), (.int (0 : Int32)), (.int (0 : Int32))] (.int (0 : Int32)) → Got p e below s (fun _ L => Fr n0 L) room_1.cells room_1.slots (some (.int (1 : Int32))) T432 (mkF m 142 #[.val (.int p0), .val (.int p1), .val (.int p2), .val (.int p3), .val (.int p4), .val (.int (Int32.ofNat N)), .val (.ref b390), .val (.ref b392), .val (.int k426_0), .val (.int (Int32.ofNat mn)), .unset, .unset, .unset, .unset] []) := by
            intro T432 h432 L432 X432 e432 N432 y432_b392_0 hy432_b392_0 Z0_438 V420_439 V435_440
            refine Got.step (T' := T432) (g' := (mkF m 145 #[.val (.int p0), .val (.int p1), .val (.int p2), .val (.int p3), .val (.int p4), .val (.int (Int32.ofNat N)), .val (.ref b390), .val (.ref b392), .val (.int k426_0), .val (.int (Int32.ofNat mn)), .unset, .unset, .unset, .unset] [(.int (1 : Int32)), (.int (Int32.ofNat mn))])) (fun tq kt => ?_) ?_
            · show Steps p.tables e below (T432.setTop (mkF m 142 #[.val (.int p0), .val (.int p1), .val (.int p2), .val (.int p3), .val (.int p4), .val (.int (Int32.ofNat N)), .val (.ref b390), .val (.ref b392), .val (.int k426_0), .val (.int (Int32.ofNat mn)), .unset, .unset, .unset, .unset] [])) _
              refine XS.iload X432.here hx rfl (hb hby at_142) rfl ?_
              show Steps p.tables e below (T432.setTop (mkF m 144 #[.val (.int p0), .val (.int p1), .val (.int p2), .val (.int p3), .val (.int p4), .val (.int (Int32.ofNat N)), .val (.ref b390), .val (.ref b392), .val (.int k426_0), .val (.int (Int32.ofNat mn)), .unset, .unset, .unset, .unset] [(.int (Int32.ofNat mn))])) _
              refine XS.iconst X432.here hx rfl (hb hby at_144) ?_
              exact kt
            have J441 : ∀ (T441 : State) (h441 : Heap) (L441 : List Loc), Stand p l e room_1 s m #[(.int p0), (.int p1), (.int p2), (.int p3), (.int p4)] below meth c T441 L441 2 9 → T441.heap = h441 → Fr n0 L441 → ∀ (y441_b392_1 : Int32), y441_b392_1 = (if (1 : Int32) < (Int32.ofNat mn) then y399_b390_1 else (0 : Int32)) → n0 ≤ h441.size → Arv Z h441 b390 k390 .int (Int32.ofNat N) [(.int (p2 + (f1 (p3 &&& (3 : Int32))))), (.int y399_b390_1), (.int y408_b390_2), (.int y417_b390_3)] (.int (0 : Int32)) → Arv Z h441 b392 k392 .int (5 : Int32) [(.int y432_b392_0), (.int y441_b392_1), (.int (0 : Int32)), (.int (0 : Int32)), (.int (0 : Int32))] (.int (0 : Int32)) → Got p e below s (fun _ L => Fr n0 L) room_1.cells room_1.slots (some (.int (1 : Int32))) T441 (mkF m 156 #[.val (.int p0), .val (.int p1), .val (.int p2), .val (.int p3), .val (.int p4), .val (.int (Int32.ofNat N)), .val (.ref b390), .val (.ref b392), .val (.int k426_0), .val (.int (Int32.ofNat mn)), .unset, .unset, .unset, .unset] []) := by
              intro T441 h441 L441 X441 e441 N441 y441_b392_1 hy441_b392_1 Z0_447 V420_448 V444_449
              refine Got.step (T' := T441) (g' := (mkF m 159 #[.val (.int p0), .val (.int p1), .val (.int p2), .val (.int p3), .val (.int p4), .val (.int (Int32.ofNat N)), .val (.ref b390), .val (.ref b392), .val (.int k426_0), .val (.int (Int32.ofNat mn)), .unset, .unset, .unset, .unset] [(.int (2 : Int32)), (.int (Int32.ofNat mn))])) (fun tq kt => ?_) ?_
              · show Steps p.tables e below (T441.setTop (mkF m 156 #[.val (.int p0), .val (.int p1), .val (.int p2), .val (.int p3), .val (.int p4), .val (.int (Int32.ofNat N)), .val (.ref b390), .val (.ref b392), .val (.int k426_0), .val (.int (Int32.ofNat mn)), .unset, .unset, .unset, .unset] [])) _
                refine XS.iload X441.here hx rfl (hb hby at_156) rfl ?_
                show Steps p.tables e below (T441.setTop (mkF m 158 #[.val (.int p0), .val (.int p1), .val (.int p2), .val (.int p3), .val (.int p4), .val (.int (Int32.ofNat N)), .val (.ref b390), .val (.ref b392), .val (.int k426_0), .val (.int (Int32.ofNat mn)), .unset, .unset, .unset, .unset] [(.int (Int32.ofNat mn))])) _
                refine XS.iconst X441.here hx rfl (hb hby at_158) ?_
                exact kt
              have J450 : ∀ (T450 : State) (h450 : Heap) (L450 : List Loc), Stand p l e room_1 s m #[(.int p0), (.int p1), (.int p2), (.int p3), (.int p4)] below meth c T450 L450 2 9 → T450.heap = h450 → Fr n0 L450 → ∀ (y450_b392_2 : Int32), y450_b392_2 = (if (2 : Int32) < (Int32.ofNat mn) then y408_b390_2 else (0 : Int32)) → n0 ≤ h450.size → Arv Z h450 b390 k390 .int (Int32.ofNat N) [(.int (p2 + (f1 (p3 &&& (3 : Int32))))), (.int y399_b390_1), (.int y408_b390_2), (.int y417_b390_3)] (.int (0 : Int32)) → Arv Z h450 b392 k392 .int (5 : Int32) [(.int y432_b392_0), (.int y441_b392_1), (.int y450_b392_2), (.int (0 : Int32)), (.int (0 : Int32))] (.int (0 : Int32)) → Got p e below s (fun _ L => Fr n0 L) room_1.cells room_1.slots (some (.int (1 : Int32))) T450 (mkF m 170 #[.val (.int p0), .val (.int p1), .val (.int p2), .val (.int p3), .val (.int p4), .val (.int (Int32.ofNat N)), .val (.ref b390), .val (.ref b392), .val (.int k426_0), .val (.int (Int32.ofNat mn)), .unset, .unset, .unset, .unset] []) := by
                intro T450 h450 L450 X450 e450 N450 y450_b392_2 hy450_b392_2 Z0_456 V420_457 V453_458
                refine Got.step (T' := T450) (g' := (mkF m 173 #[.val (.int p0), .val (.int p1), .val (.int p2), .val (.int p3), .val (.int p4), .val (.int (Int32.ofNat N)), .val (.ref b390), .val (.ref b392), .val (.int k426_0), .val (.int (Int32.ofNat mn)), .unset, .unset, .unset, .unset] [(.int (3 : Int32)), (.int (Int32.ofNat mn))])) (fun tq kt => ?_) ?_
                · show Steps p.tables e below (T450.setTop (mkF m 170 #[.val (.int p0), .val (.int p1), .val (.int p2), .val (.int p3), .val (.int p4), .val (.int (Int32.ofNat N)), .val (.ref b390), .val (.ref b392), .val (.int k426_0), .val (.int (Int32.ofNat mn)), .unset, .unset, .unset, .unset] [])) _
                  refine XS.iload X450.here hx rfl (hb hby at_170) rfl ?_
                  show Steps p.tables e below (T450.setTop (mkF m 172 #[.val (.int p0), .val (.int p1), .val (.int p2), .val (.int p3), .val (.int p4), .val (.int (Int32.ofNat N)), .val (.ref b390), .val (.ref b392), .val (.int k426_0), .val (.int (Int32.ofNat mn)), .unset, .unset, .unset, .unset] [(.int (Int32.ofNat mn))])) _
                  refine XS.iconst X450.here hx rfl (hb hby at_172) ?_
                  exact kt
                have J459 : ∀ (T459 : State) (h459 : Heap) (L459 : List Loc), Stand p l e room_1 s m #[(.int p0), (.int p1), (.int p2), (.int p3), (.int p4)] below meth c T459 L459 2 9 → T459.heap = h459 → Fr n0 L459 → ∀ (y459_b392_3 : Int32), y459_b392_3 = (if (3 : Int32) < (Int32.ofNat mn) then y417_b390_3 else (0 : Int32)) → n0 ≤ h459.size → Arv Z h459 b390 k390 .int (Int32.ofNat N) [(.int (p2 + (f1 (p3 &&& (3 : Int32))))), (.int y399_b390_1), (.int y408_b390_2), (.int y417_b390_3)] (.int (0 : Int32)) → Arv Z h459 b392 k392 .int (5 : Int32) [(.int y432_b392_0), (.int y441_b392_1), (.int y450_b392_2), (.int y459_b392_3), (.int (0 : Int32))] (.int (0 : Int32)) → Got p e below s (fun _ L => Fr n0 L) room_1.cells room_1.slots (some (.int (1 : Int32))) T459 (mkF m 184 #[.val (.int p0), .val (.int p1), .val (.int p2), .val (.int p3), .val (.int p4), .val (.int (Int32.ofNat N)), .val (.ref b390), .val (.ref b392), .val (.int k426_0), .val (.int (Int32.ofNat mn)), .unset, .unset, .unset, .unset] []) := by
                  intro T459 h459 L459 X459 e459 N459 y459_b392_3 hy459_b392_3 Z0_465 V420_466 V462_467
                  obtain ⟨S0, hS0⟩ : ∃ v : List Int32, v = [y432_b392_0, y441_b392_1, y450_b392_2, y459_b392_3, (0 : Int32)] := ⟨_, rfl⟩
                  have hl0 : S0.length = 5 := by rw [hS0]; rfl
                  have VS0 : Arv Z h459 b392 k392 .int (5 : Int32) (S0.map Value.int) (.int (0 : Int32)) := by rw [hS0]; exact V462_467
                  refine Got.step (T' := T459) (g' := (mkF m 190 #[.val (.int p0), .val (.int p1), .val (.int p2), .val (.int p3), .val (.int p4), .val (.int (Int32.ofNat N)), .val (.ref b390), .val (.ref b392), .val (.int k426_0), .val (.int (Int32.ofNat mn)), .unset, .unset, .unset, .unset] [(.int k426_0), (.int (Int32.ofNat mn)), (.ref b392)])) (fun tq kt => ?_) ?_
                  · show Steps p.tables e below (T459.setTop (mkF m 184 #[.val (.int p0), .val (.int p1), .val (.int p2), .val (.int p3), .val (.int p4), .val (.int (Int32.ofNat N)), .val (.ref b390), .val (.ref b392), .val (.int k426_0), .val (.int (Int32.ofNat mn)), .unset, .unset, .unset, .unset] [])) _
                    refine XS.aload X459.here hx rfl (hb hby at_184) rfl rfl ?_
                    show Steps p.tables e below (T459.setTop (mkF m 186 #[.val (.int p0), .val (.int p1), .val (.int p2), .val (.int p3), .val (.int p4), .val (.int (Int32.ofNat N)), .val (.ref b390), .val (.ref b392), .val (.int k426_0), .val (.int (Int32.ofNat mn)), .unset, .unset, .unset, .unset] [(.ref b392)])) _
                    refine XS.iload X459.here hx rfl (hb hby at_186) rfl ?_
                    show Steps p.tables e below (T459.setTop (mkF m 188 #[.val (.int p0), .val (.int p1), .val (.int p2), .val (.int p3), .val (.int p4), .val (.int (Int32.ofNat N)), .val (.ref b390), .val (.ref b392), .val (.int k426_0), .val (.int (Int32.ofNat mn)), .unset, .unset, .unset, .unset] [(.int (Int32.ofNat mn)), (.ref b392)])) _
                    refine XS.iload X459.here hx rfl (hb hby at_188) rfl ?_
                    exact kt
                  obtain ⟨cl468, Ar468, q468, S468, M468, H468, G468⟩ := (id VS0)
                  have hin468 : ¬ ((Int32.ofNat mn) < 0 ∨ cl468.slots.size ≤ ((Int32.ofNat mn)).toNatClampNeg) := inb_of S468 (own_m5 hN hmn)
                  obtain ⟨T468, h468, X468, e468, W468, st468⟩ := stI X459 hx hZ e459 Ar468 (j := (Int32.ofNat mn)) hin468 (g := (mkF m 190 #[.val (.int p0), .val (.int p1), .val (.int p2), .val (.int p3), .val (.int p4), .val (.int (Int32.ofNat N)), .val (.ref b390), .val (.ref b392), .val (.int k426_0), .val (.int (Int32.ofNat mn)), .unset, .unset, .unset, .unset] [(.int k426_0), (.int (Int32.ofNat mn)), (.ref b392)])) rfl rfl (hb hby at_190)
                  have Z0_469 : n0 ≤ h468.size := (Nat.le_trans Z0_465 (Keep.of_wr W468).1)
                  have V420_470 : Arv Z h468 b390 k390 .int (Int32.ofNat N) [(.int (p2 + (f1 (p3 &&& (3 : Int32))))), (.int y399_b390_1), (.int y408_b390_2), (.int y417_b390_3)] (.int (0 : Int32)) := (V420_466.other W468 ne_b390_b392)
                  have V468 : Arv Z h468 b392 k392 .int (5 : Int32) ((S0.set mn k426_0).map Value.int) (.int (0 : Int32)) := by rw [List.map_set]; exact Arv.set Ar468 q468 S468 M468 H468 G468 rfl W468 mn (own_n32 (by omega)) (by rw [List.length_map, hl0]; omega)
                  have N468 := Fr.snoc X468 N459 gn_b392
                  refine Got.step st468 ?_
                  show Got p e below s _ _ _ _ T468 (mkF m 191 #[.val (.int p0), .val (.int p1), .val (.int p2), .val (.int p3), .val (.int p4), .val (.int (Int32.ofNat N)), .val (.ref b390), .val (.ref b392), .val (.int k426_0), .val (.int (Int32.ofNat mn)), .unset, .unset, .unset, .unset] [])
                  refine Got.step (T' := T468) (g' := (mkF m 197 #[.val (.int p0), .val (.int p1), .val (.int p2), .val (.int p3), .val (.int p4), .val (.int (Int32.ofNat N)), .val (.ref b390), .val (.ref b392), .val (.int k426_0), .val (.int (Int32.ofNat mn)), .val (.int ((Int32.ofNat mn) + (1 : Int32))), .unset, .unset, .unset] [])) (fun tq kt => ?_) ?_
                  · show Steps p.tables e below (T468.setTop (mkF m 191 #[.val (.int p0), .val (.int p1), .val (.int p2), .val (.int p3), .val (.int p4), .val (.int (Int32.ofNat N)), .val (.ref b390), .val (.ref b392), .val (.int k426_0), .val (.int (Int32.ofNat mn)), .unset, .unset, .unset, .unset] [])) _
                    refine XS.iload X468.here hx rfl (hb hby at_191) rfl ?_
                    show Steps p.tables e below (T468.setTop (mkF m 193 #[.val (.int p0), .val (.int p1), .val (.int p2), .val (.int p3), .val (.int p4), .val (.int (Int32.ofNat N)), .val (.ref b390), .val (.ref b392), .val (.int k426_0), .val (.int (Int32.ofNat mn)), .unset, .unset, .unset, .unset] [(.int (Int32.ofNat mn))])) _
                    refine XS.iconst X468.here hx rfl (hb hby at_193) ?_
                    show Steps p.tables e below (T468.setTop (mkF m 194 #[.val (.int p0), .val (.int p1), .val (.int p2), .val (.int p3), .val (.int p4), .val (.int (Int32.ofNat N)), .val (.ref b390), .val (.ref b392), .val (.int k426_0), .val (.int (Int32.ofNat mn)), .unset, .unset, .unset, .unset] [(.int (1 : Int32)), (.int (Int32.ofNat mn))])) _
                    refine XS.iadd X468.here hx rfl (hb hby at_194) rfl ?_
                    show Steps p.tables e below (T468.setTop (mkF m 195 #[.val (.int p0), .val (.int p1), .val (.int p2), .val (.int p3), .val (.int p4), .val (.int (Int32.ofNat N)), .val (.ref b390), .val (.ref b392), .val (.int k426_0), .val (.int (Int32.ofNat mn)), .unset, .unset, .unset, .unset] [(.int ((Int32.ofNat mn) + (1 : Int32)))])) _
                    refine XS.istore X468.here hx rfl (hb hby at_195) rfl (l' := #[.val (.int p0), .val (.int p1), .val (.int p2), .val (.int p3), .val (.int p4), .val (.int (Int32.ofNat N)), .val (.ref b390), .val (.ref b392), .val (.int k426_0), .val (.int (Int32.ofNat mn)), .val (.int ((Int32.ofNat mn) + (1 : Int32))), .unset, .unset, .unset]) rfl ?_
                    exact kt
                  rw [own_one mn]
                  show Got p e below s _ _ _ _ T468 (mkF m 197 #[.val (.int p0), .val (.int p1), .val (.int p2), .val (.int p3), .val (.int p4), .val (.int (Int32.ofNat N)), .val (.ref b390), .val (.ref b392), .val (.int k426_0), .val (.int (Int32.ofNat mn)), .val (.int (Int32.ofNat (mn + 1))), .unset, .unset, .unset] [])
                  refine Got.step (T' := T468) (g' := (mkF m 201 #[.val (.int p0), .val (.int p1), .val (.int p2), .val (.int p3), .val (.int p4), .val (.int (Int32.ofNat N)), .val (.ref b390), .val (.ref b392), .val (.int k426_0), .val (.int (Int32.ofNat mn)), .val (.int (Int32.ofNat (mn + 1))), .unset, .unset, .unset] [(.int (Int32.ofNat N)), (.int (Int32.ofNat (mn + 1)))])) (fun tq kt => ?_) ?_
                  · show Steps p.tables e below (T468.setTop (mkF m 197 #[.val (.int p0), .val (.int p1), .val (.int p2), .val (.int p3), .val (.int p4), .val (.int (Int32.ofNat N)), .val (.ref b390), .val (.ref b392), .val (.int k426_0), .val (.int (Int32.ofNat mn)), .val (.int (Int32.ofNat (mn + 1))), .unset, .unset, .unset] [])) _
                    refine XS.iload X468.here hx rfl (hb hby at_197) rfl ?_
                    show Steps p.tables e below (T468.setTop (mkF m 199 #[.val (.int p0), .val (.int p1), .val (.int p2), .val (.int p3), .val (.int p4), .val (.int (Int32.ofNat N)), .val (.ref b390), .val (.ref b392), .val (.int k426_0), .val (.int (Int32.ofNat mn)), .val (.int (Int32.ofNat (mn + 1))), .unset, .unset, .unset] [(.int (Int32.ofNat (mn + 1)))])) _
                    refine XS.iload X468.here hx rfl (hb hby at_199) rfl ?_
                    exact kt
                  obtain ⟨_, _, ⟨T471, L471, k471, n471⟩, -, X471, ⟨Lc471, hQ471, l471, y471, z471⟩, st471⟩ := Jvm.LawKit.callS X468 hx (y := (⟨"java/lang/Math", "min", "(II)I"⟩ : MethodName)) hown (mvT hZ (hw _ (List.mem_of_getElem? (i := 6) rfl))) (mvT hZ (hw _ (List.mem_of_getElem? (i := 7) rfl))) (mvT hZ (hw _ (List.mem_of_getElem? (i := 8) rfl))) (mvT hZ (hw _ (List.mem_of_getElem? (i := 9) rfl))) (by decide) (backOf (W := 0) (rm2 l Z a0 hw [] (Int32.ofNat (mn + 1)) (Int32.ofNat N) h468 n0 Z0_469) hZ (hw _ (List.mem_of_getElem? (i := 9) rfl)) (hw _ (List.mem_of_getElem? (i := 8) rfl)) (by decide) (by decide)) (g := (mkF m 201 #[.val (.int p0), .val (.int p1), .val (.int p2), .val (.int p3), .val (.int p4), .val (.int (Int32.ofNat N)), .val (.ref b390), .val (.ref b392), .val (.int k426_0), .val (.int (Int32.ofNat mn)), .val (.int (Int32.ofNat (mn + 1))), .unset, .unset, .unset] [(.int (Int32.ofNat N)), (.int (Int32.ofNat (mn + 1)))])) rfl (by rw [hml]; rfl) (argsL := [(.int (Int32.ofNat (mn + 1))), (.int (Int32.ofNat N))]) (rest := []) (lenOf pd_2 rfl) rfl (by show 2 * 0 + _ ≤ _; exact Nat.le_of_eq rfl) (hb hby at_201) (fun _ _ => ⟨rfl, e468, (by decide : 2 + 0 ≤ _), (by decide : 9 + 0 ≤ _)⟩)
                  dsimp only [Pt.U, Pt.locs, Pt.cells, Pt.slots] at X471 l471 y471 z471 st471 hQ471
                  subst y471 z471
                  obtain ⟨rfl, Nq471, e471⟩ := hQ471
                  have N471 : Fr n0 L471 := by rw [l471]; exact Fr.app N468 Nq471
                  refine Got.step st471 ?_
                  show Got p e below s _ _ _ _ T471 (mkF m 204 #[.val (.int p0), .val (.int p1), .val (.int p2), .val (.int p3), .val (.int p4), .val (.int (Int32.ofNat N)), .val (.ref b390), .val (.ref b392), .val (.int k426_0), .val (.int (Int32.ofNat mn)), .val (.int (Int32.ofNat (mn + 1))), .unset, .unset, .unset] [(.int (f2 (Int32.ofNat (mn + 1)) (Int32.ofNat N)))])
                  refine Got.step (T' := T471) (g' := (mkF m 209 #[.val (.int p0), .val (.int p1), .val (.int p2), .val (.int p3), .val (.int p4), .val (.int (Int32.ofNat N)), .val (.ref b390), .val (.ref b392), .val (.int k426_0), .val (.int (Int32.ofNat mn)), .val (.int (Int32.ofNat (mn + 1))), .val (.int (f2 (Int32.ofNat (mn + 1)) (Int32.ofNat N))), .unset, .unset] [(.int (4 : Int32)), (.int (f2 (Int32.ofNat (mn + 1)) (Int32.ofNat N)))])) (fun tq kt => ?_) ?_
                  · show Steps p.tables e below (T471.setTop (mkF m 204 #[.val (.int p0), .val (.int p1), .val (.int p2), .val (.int p3), .val (.int p4), .val (.int (Int32.ofNat N)), .val (.ref b390), .val (.ref b392), .val (.int k426_0), .val (.int (Int32.ofNat mn)), .val (.int (Int32.ofNat (mn + 1))), .unset, .unset, .unset] [(.int (f2 (Int32.ofNat (mn + 1)) (Int32.ofNat N)))])) _
                    refine XS.istore X471.here hx rfl (hb hby at_204) rfl (l' := #[.val (.int p0), .val (.int p1), .val (.int p2), .val (.int p3), .val (.int p4), .val (.int (Int32.ofNat N)), .val (.ref b390), .val (.ref b392), .val (.int k426_0), .val (.int (Int32.ofNat mn)), .val (.int (Int32.ofNat (mn + 1))), .val (.int (f2 (Int32.ofNat (mn + 1)) (Int32.ofNat N))), .unset, .unset]) rfl ?_
                    show Steps p.tables e below (T471.setTop (mkF m 206 #[.val (.int p0), .val (.int p1), .val (.int p2), .val (.int p3), .val (.int p4), .val (.int (Int32.ofNat N)), .val (.ref b390), .val (.ref b392), .val (.int k426_0), .val (.int (Int32.ofNat mn)), .val (.int (Int32.ofNat (mn + 1))), .val (.int (f2 (Int32.ofNat (mn + 1)) (Int32.ofNat N))), .unset, .unset] [])) _
                    refine XS.iload X471.here hx rfl (hb hby at_206) rfl ?_
                    show Steps p.tables e below (T471.setTop (mkF m 208 #[.val (.int p0), .val (.int p1), .val (.int p2), .val (.int p3), .val (.int p4), .val (.int (Int32.ofNat N)), .val (.ref b390), .val (.ref b392), .val (.int k426_0), .val (.int (Int32.ofNat mn)), .val (.int (Int32.ofNat (mn + 1))), .val (.int (f2 (Int32.ofNat (mn + 1)) (Int32.ofNat N))), .unset, .unset] [(.int (f2 (Int32.ofNat (mn + 1)) (Int32.ofNat N)))])) _
                    refine XS.iconst X471.here hx rfl (hb hby at_208) ?_
                    exact kt
                  have J472 : ∀ (T472 : State) (h472 : Heap) (L472 : List Loc), Stand p l e room_1 s m #[(.int p0), (.int p1), (.int p2), (.int p3), (.int p4)] below meth c T472 L472 2 9 → T472.heap = h472 → Fr n0 L472 → ∀ (v472_12 : Int32), v472_12 = (if (f2 (Int32.ofNat (mn + 1)) (Int32.ofNat N)) < (4 : Int32) then (if (f2 (Int32.ofNat (mn + 1)) (Int32.ofNat N)) < (3 : Int32) then (if (f2 (Int32.ofNat (mn + 1)) (Int32.ofNat N)) < (2 : Int32) then (if (f2 (Int32.ofNat (mn + 1)) (Int32.ofNat N)) < (1 : Int32) then (0 : Int32) else (if (fE1 (p2 + (f1 (p3 &&& (3 : Int32)))) y399_b390_1 y408_b390_2 y417_b390_3 (S0.set mn k426_0) (mn + 1)) = 0 then (0 : Int32) else (1 : Int32))) else (if (fE2 (p2 + (f1 (p3 &&& (3 : Int32)))) y399_b390_1 y408_b390_2 y417_b390_3 (S0.set mn k426_0) (mn + 1)) = 0 then (if (f2 (Int32.ofNat (mn + 1)) (Int32.ofNat N)) < (1 : Int32) then (0 : Int32) else (if (fE1 (p2 + (f1 (p3 &&& (3 : Int32)))) y399_b390_1 y408_b390_2 y417_b390_3 (S0.set mn k426_0) (mn + 1)) = 0 then (0 : Int32) else (1 : Int32))) else (2 : Int32))) else (if (fE3 (p2 + (f1 (p3 &&& (3 : Int32)))) y399_b390_1 y408_b390_2 y417_b390_3 (S0.set mn k426_0) (mn + 1)) = 0 then (if (f2 (Int32.ofNat (mn + 1)) (Int32.ofNat N)) < (2 : Int32) then (if (f2 (Int32.ofNat (mn + 1)) (Int32.ofNat N)) < (1 : Int32) then (0 : Int32) else (if (fE1 (p2 + (f1 (p3 &&& (3 : Int32)))) y399_b390_1 y408_b390_2 y417_b390_3 (S0.set mn k426_0) (mn + 1)) = 0 then (0 : Int32) else (1 : Int32))) else (if (fE2 (p2 + (f1 (p3 &&& (3 : Int32)))) y399_b390_1 y408_b390_2 y417_b390_3 (S0.set mn k426_0) (mn + 1)) = 0 then (if (f2 (Int32.ofNat (mn + 1)) (Int32.ofNat N)) < (1 : Int32) then (0 : Int32) else (if (fE1 (p2 + (f1 (p3 &&& (3 : Int32)))) y399_b390_1 y408_b390_2 y417_b390_3 (S0.set mn k426_0) (mn + 1)) = 0 then (0 : Int32) else (1 : Int32))) else (2 : Int32))) else (3 : Int32))) else (if (fE4 (p2 + (f1 (p3 &&& (3 : Int32)))) y399_b390_1 y408_b390_2 y417_b390_3 (S0.set mn k426_0) (mn + 1)) = 0 then (if (f2 (Int32.ofNat (mn + 1)) (Int32.ofNat N)) < (3 : Int32) then (if (f2 (Int32.ofNat (mn + 1)) (Int32.ofNat N)) < (2 : Int32) then (if (f2 (Int32.ofNat (mn + 1)) (Int32.ofNat N)) < (1 : Int32) then (0 : Int32) else (if (fE1 (p2 + (f1 (p3 &&& (3 : Int32)))) y399_b390_1 y408_b390_2 y417_b390_3 (S0.set mn k426_0) (mn + 1)) = 0 then (0 : Int32) else (1 : Int32))) else (if (fE2 (p2 + (f1 (p3 &&& (3 : Int32)))) y399_b390_1 y408_b390_2 y417_b390_3 (S0.set mn k426_0) (mn + 1)) = 0 then (if (f2 (Int32.ofNat (mn + 1)) (Int32.ofNat N)) < (1 : Int32) then (0 : Int32) else (if (fE1 (p2 + (f1 (p3 &&& (3 : Int32)))) y399_b390_1 y408_b390_2 y417_b390_3 (S0.set mn k426_0) (mn + 1)) = 0 then (0 : Int32) else (1 : Int32))) else (2 : Int32))) else (if (fE3 (p2 + (f1 (p3 &&& (3 : Int32)))) y399_b390_1 y408_b390_2 y417_b390_3 (S0.set mn k426_0) (mn + 1)) = 0 then (if (f2 (Int32.ofNat (mn + 1)) (Int32.ofNat N)) < (2 : Int32) then (if (f2 (Int32.ofNat (mn + 1)) (Int32.ofNat N)) < (1 : Int32) then (0 : Int32) else (if (fE1 (p2 + (f1 (p3 &&& (3 : Int32)))) y399_b390_1 y408_b390_2 y417_b390_3 (S0.set mn k426_0) (mn + 1)) = 0 then (0 : Int32) else (1 : Int32))) else (if (fE2 (p2 + (f1 (p3 &&& (3 : Int32)))) y399_b390_1 y408_b390_2 y417_b390_3 (S0.set mn k426_0) (mn + 1)) = 0 then (if (f2 (Int32.ofNat (mn + 1)) (Int32.ofNat N)) < (1 : Int32) then (0 : Int32) else (if (fE1 (p2 + (f1 (p3 &&& (3 : Int32)))) y399_b390_1 y408_b390_2 y417_b390_3 (S0.set mn k426_0) (mn + 1)) = 0 then (0 : Int32) else (1 : Int32))) else (2 : Int32))) else (3 : Int32))) else (4 : Int32))) → n0 ≤ h472.size → Arv Z h472 b390 k390 .int (Int32.ofNat N) [(.int (p2 + (f1 (p3 &&& (3 : Int32))))), (.int y399_b390_1), (.int y408_b390_2), (.int y417_b390_3)] (.int (0 : Int32)) → Arv Z h472 b392 k392 .int (5 : Int32) ((S0.set mn k426_0).map Value.int) (.int (0 : Int32)) → Got p e below s (fun _ L => Fr n0 L) room_1.cells room_1.slots (some (.int (1 : Int32))) T472 (mkF m 309 #[.val (.int p0), .val (.int p1), .val (.int p2), .val (.int p3), .val (.int p4), .val (.int (Int32.ofNat N)), .val (.ref b390), .val (.ref b392), .val (.int k426_0), .val (.int (Int32.ofNat mn)), .val (.int (Int32.ofNat (mn + 1))), .val (.int (f2 (Int32.ofNat (mn + 1)) (Int32.ofNat N))), .val (.int v472_12), .unset] []) := by
                    intro T472 h472 L472 X472 e472 N472 v472_12 hv472_12 Z0_518 V420_519 V468_520
                    obtain ⟨T521, h521, X521, e521, E521, A521, D521, -, st521⟩ := newO X472 hx hZ hown (hw _ (List.mem_of_getElem? (i := 13) rfl)) (hw _ (List.mem_of_getElem? (i := 14) rfl)) (hw _ (List.mem_of_getElem? (i := 15) rfl)) e472 (g := (mkF m 309 #[.val (.int p0), .val (.int p1), .val (.int p2), .val (.int p3), .val (.int p4), .val (.int (Int32.ofNat N)), .val (.ref b390), .val (.ref b392), .val (.int k426_0), .val (.int (Int32.ofNat mn)), .val (.int (Int32.ofNat (mn + 1))), .val (.int (f2 (Int32.ofNat (mn + 1)) (Int32.ofNat N))), .val (.int v472_12), .unset] [])) rfl (hb hby at_309) (by decide) (by decide)
                    obtain ⟨b521, g521⟩ : ∃ z, z = h472.size := ⟨_, rfl⟩
                    rw [← g521] at A521 D521 st521
                    have ne_b390_b521 : b390 ≠ b521 := by rw [g521]; exact Nat.ne_of_lt V420_519.lt
                    have ne_b392_b521 : b392 ≠ b521 := by rw [g521]; exact Nat.ne_of_lt V468_520.lt
                    have gn_b521 : n0 ≤ b521 := by rw [g521]; exact Z0_518
                    have Z0_522 : n0 ≤ h521.size := (Nat.le_trans Z0_518 E521.1)
                    have V420_523 : Arv Z h521 b390 k390 .int (Int32.ofNat N) [(.int (p2 + (f1 (p3 &&& (3 : Int32))))), (.int y399_b390_1), (.int y408_b390_2), (.int y417_b390_3)] (.int (0 : Int32)) := (V420_519.ext E521)
                    have V468_524 : Arv Z h521 b392 k392 .int (5 : Int32) ((S0.set mn k426_0).map Value.int) (.int (0 : Int32)) := (V468_520.ext E521)
                    have F521_units : Fld Z h521 b521 "com/example/sidestep/sidestep/CompiledPattern" "units" "[I" .null := D521 (Or.inr (hw _ (List.mem_of_getElem? (i := 23) rfl))) (ty := (.array .int)) (by decide)
                    have F521_prefixTable : Fld Z h521 b521 "com/example/sidestep/sidestep/CompiledPattern" "prefixTable" "[I" .null := D521 (Or.inr (hw _ (List.mem_of_getElem? (i := 28) rfl))) (ty := (.array .int)) (by decide)
                    refine Got.step st521 ?_
                    show Got p e below s _ _ _ _ T521 (mkF m 312 #[.val (.int p0), .val (.int p1), .val (.int p2), .val (.int p3), .val (.int p4), .val (.int (Int32.ofNat N)), .val (.ref b390), .val (.ref b392), .val (.int k426_0), .val (.int (Int32.ofNat mn)), .val (.int (Int32.ofNat (mn + 1))), .val (.int (f2 (Int32.ofNat (mn + 1)) (Int32.ofNat N))), .val (.int v472_12), .unset] [(.ref b521)])
                    refine Got.step (T' := T521) (g' := (mkF m 315 #[.val (.int p0), .val (.int p1), .val (.int p2), .val (.int p3), .val (.int p4), .val (.int (Int32.ofNat N)), .val (.ref b390), .val (.ref b392), .val (.int k426_0), .val (.int (Int32.ofNat mn)), .val (.int (Int32.ofNat (mn + 1))), .val (.int (f2 (Int32.ofNat (mn + 1)) (Int32.ofNat N))), .val (.int v472_12), .unset] [(.ref b390), (.ref b521), (.ref b521)])) (fun tq kt => ?_) ?_
                    · show Steps p.tables e below (T521.setTop (mkF m 312 #[.val (.int p0), .val (.int p1), .val (.int p2), .val (.int p3), .val (.int p4), .val (.int (Int32.ofNat N)), .val (.ref b390), .val (.ref b392), .val (.int k426_0), .val (.int (Int32.ofNat mn)), .val (.int (Int32.ofNat (mn + 1))), .val (.int (f2 (Int32.ofNat (mn + 1)) (Int32.ofNat N))), .val (.int v472_12), .unset] [(.ref b521)])) _
                      refine XS.dup X521.here hx rfl (hb hby at_312) rfl rfl ?_
                      show Steps p.tables e below (T521.setTop (mkF m 313 #[.val (.int p0), .val (.int p1), .val (.int p2), .val (.int p3), .val (.int p4), .val (.int (Int32.ofNat N)), .val (.ref b390), .val (.ref b392), .val (.int k426_0), .val (.int (Int32.ofNat mn)), .val (.int (Int32.ofNat (mn + 1))), .val (.int (f2 (Int32.ofNat (mn + 1)) (Int32.ofNat N))), .val (.int v472_12), .unset] [(.ref b521), (.ref b521)])) _
                      refine XS.aload X521.here hx rfl (hb hby at_313) rfl rfl ?_
                      exact kt
                    obtain ⟨_, _, ⟨T525, L525, k525, n525⟩, -, X525, ⟨Lc525, hQ525, l525, y525, z525⟩, st525⟩ := X521.specialBack hx (y := (⟨"com/example/sidestep/sidestep/CompiledPattern", "<init>", "([I)V"⟩ : MethodName)) rfl hown (mvT hZ (hw _ (List.mem_of_getElem? (i := 16) rfl))) (mvT hZ (hw _ (List.mem_of_getElem? (i := 17) rfl))) (mvT hZ (hw _ (List.mem_of_getElem? (i := 18) rfl))) (by decide) (backOf (W := 1) (rm4 l Z a0 hw [] b521 b390 (p2 + (f1 (p3 &&& (3 : Int32)))) y399_b390_1 y408_b390_2 y417_b390_3 k390 N h521 n0 Z0_522 gn_b521 A521 F521_units F521_prefixTable V420_523 ne_b390_b521 hN) hZ (hw _ (List.mem_of_getElem? (i := 18) rfl)) (hw _ (List.mem_of_getElem? (i := 15) rfl)) (by decide) (by decide)) (g := (mkF m 315 #[.val (.int p0), .val (.int p1), .val (.int p2), .val (.int p3), .val (.int p4), .val (.int (Int32.ofNat N)), .val (.ref b390), .val (.ref b392), .val (.int k426_0), .val (.int (Int32.ofNat mn)), .val (.int (Int32.ofNat (mn + 1))), .val (.int (f2 (Int32.ofNat (mn + 1)) (Int32.ofNat N))), .val (.int v472_12), .unset] [(.ref b390), (.ref b521), (.ref b521)])) rfl (by rw [hml]; rfl) (Steps.refl _) (a := b521) (argsL := [(.ref b390)]) (rest := [(.ref b521)]) (lenOf pd_4 rfl) rfl (by show 2 * 0 + _ ≤ _; exact Nat.le_of_eq rfl) (hb hby at_315) (fun _ _ => ⟨rfl, e521, (by decide : 3 + 1 ≤ _), (by decide : 11 + 4 ≤ _)⟩)
                    dsimp only [Pt.U, Pt.locs, Pt.cells, Pt.slots] at X525 l525 y525 z525 st525 hQ525
                    subst y525 z525
                    obtain ⟨h525, e525⟩ : ∃ z, T525.heap = z := ⟨_, rfl⟩
                    rw [e525] at hQ525
                    obtain ⟨rfl, Nq525, K525, E525, Gu, ot, kt, Gt, Vt⟩ := hQ525
                    have N525 : Fr n0 L525 := by rw [l525]; exact Fr.app N472 Nq525
                    have Z0_526 : n0 ≤ h525.size := (Nat.le_trans Z0_522 K525.1)
                    have V420_527 : Arv Z h525 b390 k390 .int (Int32.ofNat N) [(.int (p2 + (f1 (p3 &&& (3 : Int32))))), (.int y399_b390_1), (.int y408_b390_2), (.int y417_b390_3)] (.int (0 : Int32)) := (V420_523.keep K525 (ninS ne_b390_b521 nin0))
                    have V468_528 : Arv Z h525 b392 k392 .int (5 : Int32) ((S0.set mn k426_0).map Value.int) (.int (0 : Int32)) := (V468_524.keep K525 (ninS ne_b392_b521 nin0))
                    have A521_529 : Exa Z h525 b521 "com/example/sidestep/sidestep/CompiledPattern" := (A521.keep K525)
                    refine Got.hop st525 ?_
                    show Got p e below s _ _ _ _ T525 (mkF m 318 #[.val (.int p0), .val (.int p1), .val (.int p2), .val (.int p3), .val (.int p4), .val (.int (Int32.ofNat N)), .val (.ref b390), .val (.ref b392), .val (.int k426_0), .val (.int (Int32.ofNat mn)), .val (.int (Int32.ofNat (mn + 1))), .val (.int (f2 (Int32.ofNat (mn + 1)) (Int32.ofNat N))), .val (.int v472_12), .unset] [(.ref b521)])
                    refine Got.step (T' := T525) (g' := (mkF m 326 #[.val (.int p0), .val (.int p1), .val (.int p2), .val (.int p3), .val (.int p4), .val (.int (Int32.ofNat N)), .val (.ref b390), .val (.ref b392), .val (.int k426_0), .val (.int (Int32.ofNat mn)), .val (.int (Int32.ofNat (mn + 1))), .val (.int (f2 (Int32.ofNat (mn + 1)) (Int32.ofNat N))), .val (.int v472_12), .val (.ref b521)] [(.int k426_0), (.int (Int32.ofNat mn)), (.ref b521)])) (fun tq kt => ?_) ?_
                    · show Steps p.tables e below (T525.setTop (mkF m 318 #[.val (.int p0), .val (.int p1), .val (.int p2), .val (.int p3), .val (.int p4), .val (.int (Int32.ofNat N)), .val (.ref b390), .val (.ref b392), .val (.int k426_0), .val (.int (Int32.ofNat mn)), .val (.int (Int32.ofNat (mn + 1))), .val (.int (f2 (Int32.ofNat (mn + 1)) (Int32.ofNat N))), .val (.int v472_12), .unset] [(.ref b521)])) _
                      refine XS.astore X525.here hx rfl (hb hby at_318) rfl rfl (l' := #[.val (.int p0), .val (.int p1), .val (.int p2), .val (.int p3), .val (.int p4), .val (.int (Int32.ofNat N)), .val (.ref b390), .val (.ref b392), .val (.int k426_0), .val (.int (Int32.ofNat mn)), .val (.int (Int32.ofNat (mn + 1))), .val (.int (f2 (Int32.ofNat (mn + 1)) (Int32.ofNat N))), .val (.int v472_12), .val (.ref b521)]) rfl ?_
                      show Steps p.tables e below (T525.setTop (mkF m 320 #[.val (.int p0), .val (.int p1), .val (.int p2), .val (.int p3), .val (.int p4), .val (.int (Int32.ofNat N)), .val (.ref b390), .val (.ref b392), .val (.int k426_0), .val (.int (Int32.ofNat mn)), .val (.int (Int32.ofNat (mn + 1))), .val (.int (f2 (Int32.ofNat (mn + 1)) (Int32.ofNat N))), .val (.int v472_12), .val (.ref b521)] [])) _
                      refine XS.aload X525.here hx rfl (hb hby at_320) rfl rfl ?_
                      show Steps p.tables e below (T525.setTop (mkF m 322 #[.val (.int p0), .val (.int p1), .val (.int p2), .val (.int p3), .val (.int p4), .val (.int (Int32.ofNat N)), .val (.ref b390), .val (.ref b392), .val (.int k426_0), .val (.int (Int32.ofNat mn)), .val (.int (Int32.ofNat (mn + 1))), .val (.int (f2 (Int32.ofNat (mn + 1)) (Int32.ofNat N))), .val (.int v472_12), .val (.ref b521)] [(.ref b521)])) _
                      refine XS.iload X525.here hx rfl (hb hby at_322) rfl ?_
                      show Steps p.tables e below (T525.setTop (mkF m 324 #[.val (.int p0), .val (.int p1), .val (.int p2), .val (.int p3), .val (.int p4), .val (.int (Int32.ofNat N)), .val (.ref b390), .val (.ref b392), .val (.int k426_0), .val (.int (Int32.ofNat mn)), .val (.int (Int32.ofNat (mn + 1))), .val (.int (f2 (Int32.ofNat (mn + 1)) (Int32.ofNat N))), .val (.int v472_12), .val (.ref b521)] [(.int (Int32.ofNat mn)), (.ref b521)])) _
                      refine XS.iload X525.here hx rfl (hb hby at_324) rfl ?_
                      exact kt
                    obtain ⟨cq530, kq530, qa530, qb530, qc530⟩ := isOf hZ e525 A521_529
                    obtain ⟨_, _, ⟨T530, L530, k530, n530⟩, -, X530, ⟨Lc530, hQ530, l530, y530, z530⟩, st530⟩ := X525.virtualBack hx (y := (⟨"com/example/sidestep/sidestep/CompiledPattern", "advance", "(II)I"⟩ : MethodName)) (z := (⟨"com/example/sidestep/sidestep/CompiledPattern", "advance", "(II)I"⟩ : MethodName)) hown (mvT hZ (hw _ (List.mem_of_getElem? (i := 29) rfl))) (mvT hZ (hw _ (List.mem_of_getElem? (i := 30) rfl))) (notFace_of_selects (args := #[]) (mvT hZ (hw _ (List.mem_of_getElem? (i := 32) rfl)))) (mvT hZ (hw _ (List.mem_of_getElem? (i := 32) rfl))) (mvT hZ (hw _ (List.mem_of_getElem? (i := 31) rfl))) (by decide) (backOf (W := 0) (rm7 l Z a0 hw [] b521 mn k426_0 (p2 + (f1 (p3 &&& (3 : Int32)))) y399_b390_1 y408_b390_2 y417_b390_3 k390 N b390 ot (ptab N (p2 + (f1 (p3 &&& (3 : Int32)))) y399_b390_1 y408_b390_2 y417_b390_3) kt h525 n0 Z0_526 A521_529 Gu Gt V420_527 Vt hN (own_pb hN) hmn) hZ (hw _ (List.mem_of_getElem? (i := 33) rfl)) (hw _ (List.mem_of_getElem? (i := 15) rfl)) (by decide) (by decide)) qa530 qc530 (g := (mkF m 326 #[.val (.int p0), .val (.int p1), .val (.int p2), .val (.int p3), .val (.int p4), .val (.int (Int32.ofNat N)), .val (.ref b390), .val (.ref b392), .val (.int k426_0), .val (.int (Int32.ofNat mn)), .val (.int (Int32.ofNat (mn + 1))), .val (.int (f2 (Int32.ofNat (mn + 1)) (Int32.ofNat N))), .val (.int v472_12), .val (.ref b521)] [(.int k426_0), (.int (Int32.ofNat mn)), (.ref b521)])) rfl (by rw [hml]; rfl) (Steps.refl _) (argsL := [(.int (Int32.ofNat mn)), (.int k426_0)]) (rest := []) (lenOf pd_2 rfl) rfl (by show 2 * 0 + _ ≤ _; exact Nat.le_of_eq rfl) (hb hby at_326) (fun _ _ => ⟨rfl, e525, (by decide : 4 + 0 ≤ _), (by decide : 15 + 0 ≤ _)⟩)
                    dsimp only [Pt.U, Pt.locs, Pt.cells, Pt.slots] at X530 l530 y530 z530 st530 hQ530
                    subst y530 z530
                    obtain ⟨rfl, Nq530, e530⟩ := hQ530
                    have N530 : Fr n0 L530 := by rw [l530]; exact Fr.app N525 Nq530
                    refine Got.hop st530 ?_
                    show Got p e below s _ _ _ _ T530 (mkF m 329 #[.val (.int p0), .val (.int p1), .val (.int p2), .val (.int p3), .val (.int p4), .val (.int (Int32.ofNat N)), .val (.ref b390), .val (.ref b392), .val (.int k426_0), .val (.int (Int32.ofNat mn)), .val (.int (Int32.ofNat (mn + 1))), .val (.int (f2 (Int32.ofNat (mn + 1)) (Int32.ofNat N))), .val (.int v472_12), .val (.ref b521)] [(.int (adv [(p2 + (f1 (p3 &&& (3 : Int32)))), y399_b390_1, y408_b390_2, y417_b390_3] (ptab N (p2 + (f1 (p3 &&& (3 : Int32)))) y399_b390_1 y408_b390_2 y417_b390_3) k426_0 N (cr N (ptab N (p2 + (f1 (p3 &&& (3 : Int32)))) y399_b390_1 y408_b390_2 y417_b390_3) mn)))])
                    refine Got.step (T' := T530) (g' := (mkF m 339 #[.val (.int p0), .val (.int p1), .val (.int p2), .val (.int p3), .val (.int p4), .val (.int (Int32.ofNat N)), .val (.ref b390), .val (.ref b392), .val (.int k426_0), .val (.int (Int32.ofNat mn)), .val (.int (Int32.ofNat (mn + 1))), .val (.int (f2 (Int32.ofNat (mn + 1)) (Int32.ofNat N))), .val (.int v472_12), .val (.ref b521)] [(.int (1 : Int32))])) (fun tq kt => ?_) ?_
                    · show Steps p.tables e below (T530.setTop (mkF m 329 #[.val (.int p0), .val (.int p1), .val (.int p2), .val (.int p3), .val (.int p4), .val (.int (Int32.ofNat N)), .val (.ref b390), .val (.ref b392), .val (.int k426_0), .val (.int (Int32.ofNat mn)), .val (.int (Int32.ofNat (mn + 1))), .val (.int (f2 (Int32.ofNat (mn + 1)) (Int32.ofNat N))), .val (.int v472_12), .val (.ref b521)] [(.int (adv [(p2 + (f1 (p3 &&& (3 : Int32)))), y399_b390_1, y408_b390_2, y417_b390_3] (ptab N (p2 + (f1 (p3 &&& (3 : Int32)))) y399_b390_1 y408_b390_2 y417_b390_3) k426_0 N (cr N (ptab N (p2 + (f1 (p3 &&& (3 : Int32)))) y399_b390_1 y408_b390_2 y417_b390_3) mn)))])) _
                      refine XS.iload X530.here hx rfl (hb hby at_329) rfl ?_
                      show Steps p.tables e below (T530.setTop (mkF m 331 #[.val (.int p0), .val (.int p1), .val (.int p2), .val (.int p3), .val (.int p4), .val (.int (Int32.ofNat N)), .val (.ref b390), .val (.ref b392), .val (.int k426_0), .val (.int (Int32.ofNat mn)), .val (.int (Int32.ofNat (mn + 1))), .val (.int (f2 (Int32.ofNat (mn + 1)) (Int32.ofNat N))), .val (.int v472_12), .val (.ref b521)] [(.int v472_12), (.int (adv [(p2 + (f1 (p3 &&& (3 : Int32)))), y399_b390_1, y408_b390_2, y417_b390_3] (ptab N (p2 + (f1 (p3 &&& (3 : Int32)))) y399_b390_1 y408_b390_2 y417_b390_3) k426_0 N (cr N (ptab N (p2 + (f1 (p3 &&& (3 : Int32)))) y399_b390_1 y408_b390_2 y417_b390_3) mn)))])) _
                      refine XS.icmpNo X530.here hx rfl (hb hby at_331) rfl (XT.ii_ne_f (own_fin hN hmn hS0 hy399_b390_1 hy408_b390_2 hy417_b390_3 hk426_0 hy432_b392_0 hy441_b392_1 hy450_b392_2 hy459_b392_3 hv472_12)) ?_
                      show Steps p.tables e below (T530.setTop (mkF m 334 #[.val (.int p0), .val (.int p1), .val (.int p2), .val (.int p3), .val (.int p4), .val (.int (Int32.ofNat N)), .val (.ref b390), .val (.ref b392), .val (.int k426_0), .val (.int (Int32.ofNat mn)), .val (.int (Int32.ofNat (mn + 1))), .val (.int (f2 (Int32.ofNat (mn + 1)) (Int32.ofNat N))), .val (.int v472_12), .val (.ref b521)] [])) _
                      refine XS.iconst X530.here hx rfl (hb hby at_334) ?_
                      show Steps p.tables e below (T530.setTop (mkF m 335 #[.val (.int p0), .val (.int p1), .val (.int p2), .val (.int p3), .val (.int p4), .val (.int (Int32.ofNat N)), .val (.ref b390), .val (.ref b392), .val (.int k426_0), .val (.int (Int32.ofNat mn)), .val (.int (Int32.ofNat (mn + 1))), .val (.int (f2 (Int32.ofNat (mn + 1)) (Int32.ofNat N))), .val (.int v472_12), .val (.ref b521)] [(.int (1 : Int32))])) _
                      refine XS.goto X530.here hx rfl (pc0 := 335) (pc' := 339) rfl (hb hby at_335) (by decide) (by decide) ?_
                      exact kt
                    exact Got.retN (y := (1 : Int32)) (t := .boolean) X530 hx Bd.returns (by simp) hlk (hb hby at_339) (by decide) N530 (by decide) (by decide)
                  by_cases hc473 : ((f2 (Int32.ofNat (mn + 1)) (Int32.ofNat N)) < (4 : Int32))
                  · refine Got.step (T' := T471) (g' := (mkF m 234 #[.val (.int p0), .val (.int p1), .val (.int p2), .val (.int p3), .val (.int p4), .val (.int (Int32.ofNat N)), .val (.ref b390), .val (.ref b392), .val (.int k426_0), .val (.int (Int32.ofNat mn)), .val (.int (Int32.ofNat (mn + 1))), .val (.int (f2 (Int32.ofNat (mn + 1)) (Int32.ofNat N))), .unset, .unset] [(.int (3 : Int32)), (.int (f2 (Int32.ofNat (mn + 1)) (Int32.ofNat N)))])) (fun tq kt => ?_) ?_
                    · show Steps p.tables e below (T471.setTop (mkF m 209 #[.val (.int p0), .val (.int p1), .val (.int p2), .val (.int p3), .val (.int p4), .val (.int (Int32.ofNat N)), .val (.ref b390), .val (.ref b392), .val (.int k426_0), .val (.int (Int32.ofNat mn)), .val (.int (Int32.ofNat (mn + 1))), .val (.int (f2 (Int32.ofNat (mn + 1)) (Int32.ofNat N))), .unset, .unset] [(.int (4 : Int32)), (.int (f2 (Int32.ofNat (mn + 1)) (Int32.ofNat N)))])) _
                      refine XS.icmpYes X471.here hx rfl (pc0 := 209) (pc' := 231) rfl (hb hby at_209) rfl (XT.ii_lt_t hc473) (by decide) (by decide) ?_
                      show Steps p.tables e below (T471.setTop (mkF m 231 #[.val (.int p0), .val (.int p1), .val (.int p2), .val (.int p3), .val (.int p4), .val (.int (Int32.ofNat N)), .val (.ref b390), .val (.ref b392), .val (.int k426_0), .val (.int (Int32.ofNat mn)), .val (.int (Int32.ofNat (mn + 1))), .val (.int (f2 (Int32.ofNat (mn + 1)) (Int32.ofNat N))), .unset, .unset] [])) _
                      refine XS.iload X471.here hx rfl (hb hby at_231) rfl ?_
                      show Steps p.tables e below (T471.setTop (mkF m 233 #[.val (.int p0), .val (.int p1), .val (.int p2), .val (.int p3), .val (.int p4), .val (.int (Int32.ofNat N)), .val (.ref b390), .val (.ref b392), .val (.int k426_0), .val (.int (Int32.ofNat mn)), .val (.int (Int32.ofNat (mn + 1))), .val (.int (f2 (Int32.ofNat (mn + 1)) (Int32.ofNat N))), .unset, .unset] [(.int (f2 (Int32.ofNat (mn + 1)) (Int32.ofNat N)))])) _
                      refine XS.iconst X471.here hx rfl (hb hby at_233) ?_
                      exact kt
                    by_cases hc474 : ((f2 (Int32.ofNat (mn + 1)) (Int32.ofNat N)) < (3 : Int32))
                    · refine Got.step (T' := T471) (g' := (mkF m 259 #[.val (.int p0), .val (.int p1), .val (.int p2), .val (.int p3), .val (.int p4), .val (.int (Int32.ofNat N)), .val (.ref b390), .val (.ref b392), .val (.int k426_0), .val (.int (Int32.ofNat mn)), .val (.int (Int32.ofNat (mn + 1))), .val (.int (f2 (Int32.ofNat (mn + 1)) (Int32.ofNat N))), .unset, .unset] [(.int (2 : Int32)), (.int (f2 (Int32.ofNat (mn + 1)) (Int32.ofNat N)))])) (fun tq kt => ?_) ?_
                      · show Steps p.tables e below (T471.setTop (mkF m 234 #[.val (.int p0), .val (.int p1), .val (.int p2), .val (.int p3), .val (.int p4), .val (.int (Int32.ofNat N)), .val (.ref b390), .val (.ref b392), .val (.int k426_0), .val (.int (Int32.ofNat mn)), .val (.int (Int32.ofNat (mn + 1))), .val (.int (f2 (Int32.ofNat (mn + 1)) (Int32.ofNat N))), .unset, .unset] [(.int (3 : Int32)), (.int (f2 (Int32.ofNat (mn + 1)) (Int32.ofNat N)))])) _
                        refine XS.icmpYes X471.here hx rfl (pc0 := 234) (pc' := 256) rfl (hb hby at_234) rfl (XT.ii_lt_t hc474) (by decide) (by decide) ?_
                        show Steps p.tables e below (T471.setTop (mkF m 256 #[.val (.int p0), .val (.int p1), .val (.int p2), .val (.int p3), .val (.int p4), .val (.int (Int32.ofNat N)), .val (.ref b390), .val (.ref b392), .val (.int k426_0), .val (.int (Int32.ofNat mn)), .val (.int (Int32.ofNat (mn + 1))), .val (.int (f2 (Int32.ofNat (mn + 1)) (Int32.ofNat N))), .unset, .unset] [])) _
                        refine XS.iload X471.here hx rfl (hb hby at_256) rfl ?_
                        show Steps p.tables e below (T471.setTop (mkF m 258 #[.val (.int p0), .val (.int p1), .val (.int p2), .val (.int p3), .val (.int p4), .val (.int (Int32.ofNat N)), .val (.ref b390), .val (.ref b392), .val (.int k426_0), .val (.int (Int32.ofNat mn)), .val (.int (Int32.ofNat (mn + 1))), .val (.int (f2 (Int32.ofNat (mn + 1)) (Int32.ofNat N))), .unset, .unset] [(.int (f2 (Int32.ofNat (mn + 1)) (Int32.ofNat N)))])) _
                        refine XS.iconst X471.here hx rfl (hb hby at_258) ?_
                        exact kt
                      by_cases hc475 : ((f2 (Int32.ofNat (mn + 1)) (Int32.ofNat N)) < (2 : Int32))
                      · refine Got.step (T' := T471) (g' := (mkF m 284 #[.val (.int p0), .val (.int p1), .val (.int p2), .val (.int p3), .val (.int p4), .val (.int (Int32.ofNat N)), .val (.ref b390), .val (.ref b392), .val (.int k426_0), .val (.int (Int32.ofNat mn)), .val (.int (Int32.ofNat (mn + 1))), .val (.int (f2 (Int32.ofNat (mn + 1)) (Int32.ofNat N))), .unset, .unset] [(.int (1 : Int32)), (.int (f2 (Int32.ofNat (mn + 1)) (Int32.ofNat N)))])) (fun tq kt => ?_) ?_
                        · show Steps p.tables e below (T471.setTop (mkF m 259 #[.val (.int p0), .val (.int p1), .val (.int p2), .val (.int p3), .val (.int p4), .val (.int (Int32.ofNat N)), .val (.ref b390), .val (.ref b392), .val (.int k426_0), .val (.int (Int32.ofNat mn)), .val (.int (Int32.ofNat (mn + 1))), .val (.int (f2 (Int32.ofNat (mn + 1)) (Int32.ofNat N))), .unset, .unset] [(.int (2 : Int32)), (.int (f2 (Int32.ofNat (mn + 1)) (Int32.ofNat N)))])) _
                          refine XS.icmpYes X471.here hx rfl (pc0 := 259) (pc' := 281) rfl (hb hby at_259) rfl (XT.ii_lt_t hc475) (by decide) (by decide) ?_
                          show Steps p.tables e below (T471.setTop (mkF m 281 #[.val (.int p0), .val (.int p1), .val (.int p2), .val (.int p3), .val (.int p4), .val (.int (Int32.ofNat N)), .val (.ref b390), .val (.ref b392), .val (.int k426_0), .val (.int (Int32.ofNat mn)), .val (.int (Int32.ofNat (mn + 1))), .val (.int (f2 (Int32.ofNat (mn + 1)) (Int32.ofNat N))), .unset, .unset] [])) _
                          refine XS.iload X471.here hx rfl (hb hby at_281) rfl ?_
                          show Steps p.tables e below (T471.setTop (mkF m 283 #[.val (.int p0), .val (.int p1), .val (.int p2), .val (.int p3), .val (.int p4), .val (.int (Int32.ofNat N)), .val (.ref b390), .val (.ref b392), .val (.int k426_0), .val (.int (Int32.ofNat mn)), .val (.int (Int32.ofNat (mn + 1))), .val (.int (f2 (Int32.ofNat (mn + 1)) (Int32.ofNat N))), .unset, .unset] [(.int (f2 (Int32.ofNat (mn + 1)) (Int32.ofNat N)))])) _
                          refine XS.iconst X471.here hx rfl (hb hby at_283) ?_
                          exact kt
                        by_cases hc476 : ((f2 (Int32.ofNat (mn + 1)) (Int32.ofNat N)) < (1 : Int32))
                        · refine Got.step (T' := T471) (g' := (mkF m 309 #[.val (.int p0), .val (.int p1), .val (.int p2), .val (.int p3), .val (.int p4), .val (.int (Int32.ofNat N)), .val (.ref b390), .val (.ref b392), .val (.int k426_0), .val (.int (Int32.ofNat mn)), .val (.int (Int32.ofNat (mn + 1))), .val (.int (f2 (Int32.ofNat (mn + 1)) (Int32.ofNat N))), .val (.int (0 : Int32)), .unset] [])) (fun tq kt => ?_) ?_
                          · show Steps p.tables e below (T471.setTop (mkF m 284 #[.val (.int p0), .val (.int p1), .val (.int p2), .val (.int p3), .val (.int p4), .val (.int (Int32.ofNat N)), .val (.ref b390), .val (.ref b392), .val (.int k426_0), .val (.int (Int32.ofNat mn)), .val (.int (Int32.ofNat (mn + 1))), .val (.int (f2 (Int32.ofNat (mn + 1)) (Int32.ofNat N))), .unset, .unset] [(.int (1 : Int32)), (.int (f2 (Int32.ofNat (mn + 1)) (Int32.ofNat N)))])) _
                            refine XS.icmpYes X471.here hx rfl (pc0 := 284) (pc' := 306) rfl (hb hby at_284) rfl (XT.ii_lt_t hc476) (by decide) (by decide) ?_
                            show Steps p.tables e below (T471.setTop (mkF m 306 #[.val (.int p0), .val (.int p1), .val (.int p2), .val (.int p3), .val (.int p4), .val (.int (Int32.ofNat N)), .val (.ref b390), .val (.ref b392), .val (.int k426_0), .val (.int (Int32.ofNat mn)), .val (.int (Int32.ofNat (mn + 1))), .val (.int (f2 (Int32.ofNat (mn + 1)) (Int32.ofNat N))), .unset, .unset] [])) _
                            refine XS.iconst X471.here hx rfl (hb hby at_306) ?_
                            show Steps p.tables e below (T471.setTop (mkF m 307 #[.val (.int p0), .val (.int p1), .val (.int p2), .val (.int p3), .val (.int p4), .val (.int (Int32.ofNat N)), .val (.ref b390), .val (.ref b392), .val (.int k426_0), .val (.int (Int32.ofNat mn)), .val (.int (Int32.ofNat (mn + 1))), .val (.int (f2 (Int32.ofNat (mn + 1)) (Int32.ofNat N))), .unset, .unset] [(.int (0 : Int32))])) _
                            refine XS.istore X471.here hx rfl (hb hby at_307) rfl (l' := #[.val (.int p0), .val (.int p1), .val (.int p2), .val (.int p3), .val (.int p4), .val (.int (Int32.ofNat N)), .val (.ref b390), .val (.ref b392), .val (.int k426_0), .val (.int (Int32.ofNat mn)), .val (.int (Int32.ofNat (mn + 1))), .val (.int (f2 (Int32.ofNat (mn + 1)) (Int32.ofNat N))), .val (.int (0 : Int32)), .unset]) rfl ?_
                            exact kt
                          exact J472 _ _ _ (X471.more (by decide) (by decide)) e471 N471 (0 : Int32) ((if_pos hc473).trans ((if_pos hc474).trans ((if_pos hc475).trans (if_pos hc476)))).symm Z0_469 V420_470 V468
                        · refine Got.step (T' := T471) (g' := (mkF m 294 #[.val (.int p0), .val (.int p1), .val (.int p2), .val (.int p3), .val (.int p4), .val (.int (Int32.ofNat N)), .val (.ref b390), .val (.ref b392), .val (.int k426_0), .val (.int (Int32.ofNat mn)), .val (.int (Int32.ofNat (mn + 1))), .val (.int (f2 (Int32.ofNat (mn + 1)) (Int32.ofNat N))), .unset, .unset] [(.int (1 : Int32)), (.int (Int32.ofNat (mn + 1))), (.ref b392), (.ref b390)])) (fun tq kt => ?_) ?_
                          · show Steps p.tables e below (T471.setTop (mkF m 284 #[.val (.int p0), .val (.int p1), .val (.int p2), .val (.int p3), .val (.int p4), .val (.int (Int32.ofNat N)), .val (.ref b390), .val (.ref b392), .val (.int k426_0), .val (.int (Int32.ofNat mn)), .val (.int (Int32.ofNat (mn + 1))), .val (.int (f2 (Int32.ofNat (mn + 1)) (Int32.ofNat N))), .unset, .unset] [(.int (1 : Int32)), (.int (f2 (Int32.ofNat (mn + 1)) (Int32.ofNat N)))])) _
                            refine XS.icmpNo X471.here hx rfl (hb hby at_284) rfl (XT.ii_lt_f hc476) ?_
                            show Steps p.tables e below (T471.setTop (mkF m 287 #[.val (.int p0), .val (.int p1), .val (.int p2), .val (.int p3), .val (.int p4), .val (.int (Int32.ofNat N)), .val (.ref b390), .val (.ref b392), .val (.int k426_0), .val (.int (Int32.ofNat mn)), .val (.int (Int32.ofNat (mn + 1))), .val (.int (f2 (Int32.ofNat (mn + 1)) (Int32.ofNat N))), .unset, .unset] [])) _
                            refine XS.aload X471.here hx rfl (hb hby at_287) rfl rfl ?_
                            show Steps p.tables e below (T471.setTop (mkF m 289 #[.val (.int p0), .val (.int p1), .val (.int p2), .val (.int p3), .val (.int p4), .val (.int (Int32.ofNat N)), .val (.ref b390), .val (.ref b392), .val (.int k426_0), .val (.int (Int32.ofNat mn)), .val (.int (Int32.ofNat (mn + 1))), .val (.int (f2 (Int32.ofNat (mn + 1)) (Int32.ofNat N))), .unset, .unset] [(.ref b390)])) _
                            refine XS.aload X471.here hx rfl (hb hby at_289) rfl rfl ?_
                            show Steps p.tables e below (T471.setTop (mkF m 291 #[.val (.int p0), .val (.int p1), .val (.int p2), .val (.int p3), .val (.int p4), .val (.int (Int32.ofNat N)), .val (.ref b390), .val (.ref b392), .val (.int k426_0), .val (.int (Int32.ofNat mn)), .val (.int (Int32.ofNat (mn + 1))), .val (.int (f2 (Int32.ofNat (mn + 1)) (Int32.ofNat N))), .unset, .unset] [(.ref b392), (.ref b390)])) _
                            refine XS.iload X471.here hx rfl (hb hby at_291) rfl ?_
                            show Steps p.tables e below (T471.setTop (mkF m 293 #[.val (.int p0), .val (.int p1), .val (.int p2), .val (.int p3), .val (.int p4), .val (.int (Int32.ofNat N)), .val (.ref b390), .val (.ref b392), .val (.int k426_0), .val (.int (Int32.ofNat mn)), .val (.int (Int32.ofNat (mn + 1))), .val (.int (f2 (Int32.ofNat (mn + 1)) (Int32.ofNat N))), .unset, .unset] [(.int (Int32.ofNat (mn + 1))), (.ref b392), (.ref b390)])) _
                            refine XS.iconst X471.here hx rfl (hb hby at_293) ?_
                            exact kt
                          obtain ⟨_, _, ⟨T477, L477, k477, n477⟩, -, X477, ⟨Lc477, hQ477, l477, y477, z477⟩, st477⟩ := Jvm.LawKit.callS X471 hx (y := (⟨"com/example/sidestep/sidestep/CompiledPatternAdvancePinLaw", "ends", "([I[III)Z"⟩ : MethodName)) hown (mvT hZ (hw _ (List.mem_of_getElem? (i := 10) rfl))) (mvT hZ (hw _ (List.mem_of_getElem? (i := 11) rfl))) (mvT hZ (hw _ (List.mem_of_getElem? (i := 3) rfl))) (mvT hZ (hw _ (List.mem_of_getElem? (i := 12) rfl))) (by decide) (backOf (W := 0) (rmE1 l Z a0 hw [] b390 b392 (mn + 1) (p2 + (f1 (p3 &&& (3 : Int32)))) y399_b390_1 y408_b390_2 y417_b390_3 (S0.set mn k426_0) k390 k392 N h468 n0 Z0_469 V420_470 V468 (own_q1 hN hmn hc476).1 (own_q1 hN hmn hc476).2) hZ (hw _ (List.mem_of_getElem? (i := 12) rfl)) (hw _ (List.mem_of_getElem? (i := 3) rfl)) (by decide) (by decide)) (g := (mkF m 294 #[.val (.int p0), .val (.int p1), .val (.int p2), .val (.int p3), .val (.int p4), .val (.int (Int32.ofNat N)), .val (.ref b390), .val (.ref b392), .val (.int k426_0), .val (.int (Int32.ofNat mn)), .val (.int (Int32.ofNat (mn + 1))), .val (.int (f2 (Int32.ofNat (mn + 1)) (Int32.ofNat N))), .unset, .unset] [(.int (1 : Int32)), (.int (Int32.ofNat (mn + 1))), (.ref b392), (.ref b390)])) rfl (by rw [hml]; rfl) (argsL := [(.ref b390), (.ref b392), (.int (Int32.ofNat (mn + 1))), (.int (1 : Int32))]) (rest := []) (lenOf pd_3 rfl) rfl (by show 2 * 0 + _ ≤ _; exact Nat.le_of_eq rfl) (hb hby at_294) (fun _ _ => ⟨rfl, e471, (by decide : 2 + 0 ≤ _), (by decide : 9 + 0 ≤ _)⟩)
                          dsimp only [Pt.U, Pt.locs, Pt.cells, Pt.slots] at X477 l477 y477 z477 st477 hQ477
                          subst y477 z477
                          obtain ⟨rfl, Nq477, e477⟩ := hQ477
                          have N477 : Fr n0 L477 := by rw [l477]; exact Fr.app N471 Nq477
                          refine Got.step st477 ?_
                          show Got p e below s _ _ _ _ T477 (mkF m 297 #[.val (.int p0), .val (.int p1), .val (.int p2), .val (.int p3), .val (.int p4), .val (.int (Int32.ofNat N)), .val (.ref b390), .val (.ref b392), .val (.int k426_0), .val (.int (Int32.ofNat mn)), .val (.int (Int32.ofNat (mn + 1))), .val (.int (f2 (Int32.ofNat (mn + 1)) (Int32.ofNat N))), .unset, .unset] [(.int (fE1 (p2 + (f1 (p3 &&& (3 : Int32)))) y399_b390_1 y408_b390_2 y417_b390_3 (S0.set mn k426_0) (mn + 1)))])
                          by_cases hc478 : ((fE1 (p2 + (f1 (p3 &&& (3 : Int32)))) y399_b390_1 y408_b390_2 y417_b390_3 (S0.set mn k426_0) (mn + 1)) = 0)
                          · refine Got.step (T' := T477) (g' := (mkF m 309 #[.val (.int p0), .val (.int p1), .val (.int p2), .val (.int p3), .val (.int p4), .val (.int (Int32.ofNat N)), .val (.ref b390), .val (.ref b392), .val (.int k426_0), .val (.int (Int32.ofNat mn)), .val (.int (Int32.ofNat (mn + 1))), .val (.int (f2 (Int32.ofNat (mn + 1)) (Int32.ofNat N))), .val (.int (0 : Int32)), .unset] [])) (fun tq kt => ?_) ?_
                            · show Steps p.tables e below (T477.setTop (mkF m 297 #[.val (.int p0), .val (.int p1), .val (.int p2), .val (.int p3), .val (.int p4), .val (.int (Int32.ofNat N)), .val (.ref b390), .val (.ref b392), .val (.int k426_0), .val (.int (Int32.ofNat mn)), .val (.int (Int32.ofNat (mn + 1))), .val (.int (f2 (Int32.ofNat (mn + 1)) (Int32.ofNat N))), .unset, .unset] [(.int (fE1 (p2 + (f1 (p3 &&& (3 : Int32)))) y399_b390_1 y408_b390_2 y417_b390_3 (S0.set mn k426_0) (mn + 1)))])) _
                              refine XS.ifYes X477.here hx rfl (pc0 := 297) (pc' := 306) rfl (hb hby at_297) rfl (XT.i0_eq_t hc478) (by decide) (by decide) ?_
                              show Steps p.tables e below (T477.setTop (mkF m 306 #[.val (.int p0), .val (.int p1), .val (.int p2), .val (.int p3), .val (.int p4), .val (.int (Int32.ofNat N)), .val (.ref b390), .val (.ref b392), .val (.int k426_0), .val (.int (Int32.ofNat mn)), .val (.int (Int32.ofNat (mn + 1))), .val (.int (f2 (Int32.ofNat (mn + 1)) (Int32.ofNat N))), .unset, .unset] [])) _
                              refine XS.iconst X477.here hx rfl (hb hby at_306) ?_
                              show Steps p.tables e below (T477.setTop (mkF m 307 #[.val (.int p0), .val (.int p1), .val (.int p2), .val (.int p3), .val (.int p4), .val (.int (Int32.ofNat N)), .val (.ref b390), .val (.ref b392), .val (.int k426_0), .val (.int (Int32.ofNat mn)), .val (.int (Int32.ofNat (mn + 1))), .val (.int (f2 (Int32.ofNat (mn + 1)) (Int32.ofNat N))), .unset, .unset] [(.int (0 : Int32))])) _
                              refine XS.istore X477.here hx rfl (hb hby at_307) rfl (l' := #[.val (.int p0), .val (.int p1), .val (.int p2), .val (.int p3), .val (.int p4), .val (.int (Int32.ofNat N)), .val (.ref b390), .val (.ref b392), .val (.int k426_0), .val (.int (Int32.ofNat mn)), .val (.int (Int32.ofNat (mn + 1))), .val (.int (f2 (Int32.ofNat (mn + 1)) (Int32.ofNat N))), .val (.int (0 : Int32)), .unset]) rfl ?_
                              exact kt
                            exact J472 _ _ _ (X477.more (by decide) (by decide)) e477 N477 (0 : Int32) ((if_pos hc473).trans ((if_pos hc474).trans ((if_pos hc475).trans ((if_neg hc476).trans (if_pos hc478))))).symm Z0_469 V420_470 V468
                          · refine Got.step (T' := T477) (g' := (mkF m 309 #[.val (.int p0), .val (.int p1), .val (.int p2), .val (.int p3), .val (.int p4), .val (.int (Int32.ofNat N)), .val (.ref b390), .val (.ref b392), .val (.int k426_0), .val (.int (Int32.ofNat mn)), .val (.int (Int32.ofNat (mn + 1))), .val (.int (f2 (Int32.ofNat (mn + 1)) (Int32.ofNat N))), .val (.int (1 : Int32)), .unset] [])) (fun tq kt => ?_) ?_
                            · show Steps p.tables e below (T477.setTop (mkF m 297 #[.val (.int p0), .val (.int p1), .val (.int p2), .val (.int p3), .val (.int p4), .val (.int (Int32.ofNat N)), .val (.ref b390), .val (.ref b392), .val (.int k426_0), .val (.int (Int32.ofNat mn)), .val (.int (Int32.ofNat (mn + 1))), .val (.int (f2 (Int32.ofNat (mn + 1)) (Int32.ofNat N))), .unset, .unset] [(.int (fE1 (p2 + (f1 (p3 &&& (3 : Int32)))) y399_b390_1 y408_b390_2 y417_b390_3 (S0.set mn k426_0) (mn + 1)))])) _
                              refine XS.ifNo X477.here hx rfl (hb hby at_297) rfl (XT.i0_eq_f hc478) ?_
                              show Steps p.tables e below (T477.setTop (mkF m 300 #[.val (.int p0), .val (.int p1), .val (.int p2), .val (.int p3), .val (.int p4), .val (.int (Int32.ofNat N)), .val (.ref b390), .val (.ref b392), .val (.int k426_0), .val (.int (Int32.ofNat mn)), .val (.int (Int32.ofNat (mn + 1))), .val (.int (f2 (Int32.ofNat (mn + 1)) (Int32.ofNat N))), .unset, .unset] [])) _
                              refine XS.iconst X477.here hx rfl (hb hby at_300) ?_
                              show Steps p.tables e below (T477.setTop (mkF m 301 #[.val (.int p0), .val (.int p1), .val (.int p2), .val (.int p3), .val (.int p4), .val (.int (Int32.ofNat N)), .val (.ref b390), .val (.ref b392), .val (.int k426_0), .val (.int (Int32.ofNat mn)), .val (.int (Int32.ofNat (mn + 1))), .val (.int (f2 (Int32.ofNat (mn + 1)) (Int32.ofNat N))), .unset, .unset] [(.int (1 : Int32))])) _
                              refine XS.istore X477.here hx rfl (hb hby at_301) rfl (l' := #[.val (.int p0), .val (.int p1), .val (.int p2), .val (.int p3), .val (.int p4), .val (.int (Int32.ofNat N)), .val (.ref b390), .val (.ref b392), .val (.int k426_0), .val (.int (Int32.ofNat mn)), .val (.int (Int32.ofNat (mn + 1))), .val (.int (f2 (Int32.ofNat (mn + 1)) (Int32.ofNat N))), .val (.int (1 : Int32)), .unset]) rfl ?_
                              show Steps p.tables e below (T477.setTop (mkF m 303 #[.val (.int p0), .val (.int p1), .val (.int p2), .val (.int p3), .val (.int p4), .val (.int (Int32.ofNat N)), .val (.ref b390), .val (.ref b392), .val (.int k426_0), .val (.int (Int32.ofNat mn)), .val (.int (Int32.ofNat (mn + 1))), .val (.int (f2 (Int32.ofNat (mn + 1)) (Int32.ofNat N))), .val (.int (1 : Int32)), .unset] [])) _
                              refine XS.goto X477.here hx rfl (pc0 := 303) (pc' := 309) rfl (hb hby at_303) (by decide) (by decide) ?_
                              exact kt
                            exact J472 _ _ _ (X477.more (by decide) (by decide)) e477 N477 (1 : Int32) ((if_pos hc473).trans ((if_pos hc474).trans ((if_pos hc475).trans ((if_neg hc476).trans (if_neg hc478))))).symm Z0_469 V420_470 V468
                      · refine Got.step (T' := T471) (g' := (mkF m 269 #[.val (.int p0), .val (.int p1), .val (.int p2), .val (.int p3), .val (.int p4), .val (.int (Int32.ofNat N)), .val (.ref b390), .val (.ref b392), .val (.int k426_0), .val (.int (Int32.ofNat mn)), .val (.int (Int32.ofNat (mn + 1))), .val (.int (f2 (Int32.ofNat (mn + 1)) (Int32.ofNat N))), .unset, .unset] [(.int (2 : Int32)), (.int (Int32.ofNat (mn + 1))), (.ref b392), (.ref b390)])) (fun tq kt => ?_) ?_
                        · show Steps p.tables e below (T471.setTop (mkF m 259 #[.val (.int p0), .val (.int p1), .val (.int p2), .val (.int p3), .val (.int p4), .val (.int (Int32.ofNat N)), .val (.ref b390), .val (.ref b392), .val (.int k426_0), .val (.int (Int32.ofNat mn)), .val (.int (Int32.ofNat (mn + 1))), .val (.int (f2 (Int32.ofNat (mn + 1)) (Int32.ofNat N))), .unset, .unset] [(.int (2 : Int32)), (.int (f2 (Int32.ofNat (mn + 1)) (Int32.ofNat N)))])) _
                          refine XS.icmpNo X471.here hx rfl (hb hby at_259) rfl (XT.ii_lt_f hc475) ?_
                          show Steps p.tables e below (T471.setTop (mkF m 262 #[.val (.int p0), .val (.int p1), .val (.int p2), .val (.int p3), .val (.int p4), .val (.int (Int32.ofNat N)), .val (.ref b390), .val (.ref b392), .val (.int k426_0), .val (.int (Int32.ofNat mn)), .val (.int (Int32.ofNat (mn + 1))), .val (.int (f2 (Int32.ofNat (mn + 1)) (Int32.ofNat N))), .unset, .unset] [])) _
                          refine XS.aload X471.here hx rfl (hb hby at_262) rfl rfl ?_
                          show Steps p.tables e below (T471.setTop (mkF m 264 #[.val (.int p0), .val (.int p1), .val (.int p2), .val (.int p3), .val (.int p4), .val (.int (Int32.ofNat N)), .val (.ref b390), .val (.ref b392), .val (.int k426_0), .val (.int (Int32.ofNat mn)), .val (.int (Int32.ofNat (mn + 1))), .val (.int (f2 (Int32.ofNat (mn + 1)) (Int32.ofNat N))), .unset, .unset] [(.ref b390)])) _
                          refine XS.aload X471.here hx rfl (hb hby at_264) rfl rfl ?_
                          show Steps p.tables e below (T471.setTop (mkF m 266 #[.val (.int p0), .val (.int p1), .val (.int p2), .val (.int p3), .val (.int p4), .val (.int (Int32.ofNat N)), .val (.ref b390), .val (.ref b392), .val (.int k426_0), .val (.int (Int32.ofNat mn)), .val (.int (Int32.ofNat (mn + 1))), .val (.int (f2 (Int32.ofNat (mn + 1)) (Int32.ofNat N))), .unset, .unset] [(.ref b392), (.ref b390)])) _
                          refine XS.iload X471.here hx rfl (hb hby at_266) rfl ?_
                          show Steps p.tables e below (T471.setTop (mkF m 268 #[.val (.int p0), .val (.int p1), .val (.int p2), .val (.int p3), .val (.int p4), .val (.int (Int32.ofNat N)), .val (.ref b390), .val (.ref b392), .val (.int k426_0), .val (.int (Int32.ofNat mn)), .val (.int (Int32.ofNat (mn + 1))), .val (.int (f2 (Int32.ofNat (mn + 1)) (Int32.ofNat N))), .unset, .unset] [(.int (Int32.ofNat (mn + 1))), (.ref b392), (.ref b390)])) _
                          refine XS.iconst X471.here hx rfl (hb hby at_268) ?_
                          exact kt
                        obtain ⟨_, _, ⟨T479, L479, k479, n479⟩, -, X479, ⟨Lc479, hQ479, l479, y479, z479⟩, st479⟩ := Jvm.LawKit.callS X471 hx (y := (⟨"com/example/sidestep/sidestep/CompiledPatternAdvancePinLaw", "ends", "([I[III)Z"⟩ : MethodName)) hown (mvT hZ (hw _ (List.mem_of_getElem? (i := 10) rfl))) (mvT hZ (hw _ (List.mem_of_getElem? (i := 11) rfl))) (mvT hZ (hw _ (List.mem_of_getElem? (i := 3) rfl))) (mvT hZ (hw _ (List.mem_of_getElem? (i := 12) rfl))) (by decide) (backOf (W := 0) (rmE2 l Z a0 hw [] b390 b392 (mn + 1) (p2 + (f1 (p3 &&& (3 : Int32)))) y399_b390_1 y408_b390_2 y417_b390_3 (S0.set mn k426_0) k390 k392 N h468 n0 Z0_469 V420_470 V468 (own_q2 hN hmn hc475).1 (own_q2 hN hmn hc475).2) hZ (hw _ (List.mem_of_getElem? (i := 12) rfl)) (hw _ (List.mem_of_getElem? (i := 3) rfl)) (by decide) (by decide)) (g := (mkF m 269 #[.val (.int p0), .val (.int p1), .val (.int p2), .val (.int p3), .val (.int p4), .val (.int (Int32.ofNat N)), .val (.ref b390), .val (.ref b392), .val (.int k426_0), .val (.int (Int32.ofNat mn)), .val (.int (Int32.ofNat (mn + 1))), .val (.int (f2 (Int32.ofNat (mn + 1)) (Int32.ofNat N))), .unset, .unset] [(.int (2 : Int32)), (.int (Int32.ofNat (mn + 1))), (.ref b392), (.ref b390)])) rfl (by rw [hml]; rfl) (argsL := [(.ref b390), (.ref b392), (.int (Int32.ofNat (mn + 1))), (.int (2 : Int32))]) (rest := []) (lenOf pd_3 rfl) rfl (by show 2 * 0 + _ ≤ _; exact Nat.le_of_eq rfl) (hb hby at_269) (fun _ _ => ⟨rfl, e471, (by decide : 2 + 0 ≤ _), (by decide : 9 + 0 ≤ _)⟩)
                        dsimp only [Pt.U, Pt.locs, Pt.cells, Pt.slots] at X479 l479 y479 z479 st479 hQ479
                        subst y479 z479
                        obtain ⟨rfl, Nq479, e479⟩ := hQ479
                        have N479 : Fr n0 L479 := by rw [l479]; exact Fr.app N471 Nq479
                        refine Got.step st479 ?_
                        show Got p e below s _ _ _ _ T479 (mkF m 272 #[.val (.int p0), .val (.int p1), .val (.int p2), .val (.int p3), .val (.int p4), .val (.int (Int32.ofNat N)), .val (.ref b390), .val (.ref b392), .val (.int k426_0), .val (.int (Int32.ofNat mn)), .val (.int (Int32.ofNat (mn + 1))), .val (.int (f2 (Int32.ofNat (mn + 1)) (Int32.ofNat N))), .unset, .unset] [(.int (fE2 (p2 + (f1 (p3 &&& (3 : Int32)))) y399_b390_1 y408_b390_2 y417_b390_3 (S0.set mn k426_0) (mn + 1)))])
                        by_cases hc480 : ((fE2 (p2 + (f1 (p3 &&& (3 : Int32)))) y399_b390_1 y408_b390_2 y417_b390_3 (S0.set mn k426_0) (mn + 1)) = 0)
                        · refine Got.step (T' := T479) (g' := (mkF m 284 #[.val (.int p0), .val (.int p1), .val (.int p2), .val (.int p3), .val (.int p4), .val (.int (Int32.ofNat N)), .val (.ref b390), .val (.ref b392), .val (.int k426_0), .val (.int (Int32.ofNat mn)), .val (.int (Int32.ofNat (mn + 1))), .val (.int (f2 (Int32.ofNat (mn + 1)) (Int32.ofNat N))), .unset, .unset] [(.int (1 : Int32)), (.int (f2 (Int32.ofNat (mn + 1)) (Int32.ofNat N)))])) (fun tq kt => ?_) ?_
                          · show Steps p.tables e below (T479.setTop (mkF m 272 #[.val (.int p0), .val (.int p1), .val (.int p2), .val (.int p3), .val (.int p4), .val (.int (Int32.ofNat N)), .val (.ref b390), .val (.ref b392), .val (.int k426_0), .val (.int (Int32.ofNat mn)), .val (.int (Int32.ofNat (mn + 1))), .val (.int (f2 (Int32.ofNat (mn + 1)) (Int32.ofNat N))), .unset, .unset] [(.int (fE2 (p2 + (f1 (p3 &&& (3 : Int32)))) y399_b390_1 y408_b390_2 y417_b390_3 (S0.set mn k426_0) (mn + 1)))])) _
                            refine XS.ifYes X479.here hx rfl (pc0 := 272) (pc' := 281) rfl (hb hby at_272) rfl (XT.i0_eq_t hc480) (by decide) (by decide) ?_
                            show Steps p.tables e below (T479.setTop (mkF m 281 #[.val (.int p0), .val (.int p1), .val (.int p2), .val (.int p3), .val (.int p4), .val (.int (Int32.ofNat N)), .val (.ref b390), .val (.ref b392), .val (.int k426_0), .val (.int (Int32.ofNat mn)), .val (.int (Int32.ofNat (mn + 1))), .val (.int (f2 (Int32.ofNat (mn + 1)) (Int32.ofNat N))), .unset, .unset] [])) _
                            refine XS.iload X479.here hx rfl (hb hby at_281) rfl ?_
                            show Steps p.tables e below (T479.setTop (mkF m 283 #[.val (.int p0), .val (.int p1), .val (.int p2), .val (.int p3), .val (.int p4), .val (.int (Int32.ofNat N)), .val (.ref b390), .val (.ref b392), .val (.int k426_0), .val (.int (Int32.ofNat mn)), .val (.int (Int32.ofNat (mn + 1))), .val (.int (f2 (Int32.ofNat (mn + 1)) (Int32.ofNat N))), .unset, .unset] [(.int (f2 (Int32.ofNat (mn + 1)) (Int32.ofNat N)))])) _
                            refine XS.iconst X479.here hx rfl (hb hby at_283) ?_
                            exact kt
                          by_cases hc481 : ((f2 (Int32.ofNat (mn + 1)) (Int32.ofNat N)) < (1 : Int32))
                          · refine Got.step (T' := T479) (g' := (mkF m 309 #[.val (.int p0), .val (.int p1), .val (.int p2), .val (.int p3), .val (.int p4), .val (.int (Int32.ofNat N)), .val (.ref b390), .val (.ref b392), .val (.int k426_0), .val (.int (Int32.ofNat mn)), .val (.int (Int32.ofNat (mn + 1))), .val (.int (f2 (Int32.ofNat (mn + 1)) (Int32.ofNat N))), .val (.int (0 : Int32)), .unset] [])) (fun tq kt => ?_) ?_
                            · show Steps p.tables e below (T479.setTop (mkF m 284 #[.val (.int p0), .val (.int p1), .val (.int p2), .val (.int p3), .val (.int p4), .val (.int (Int32.ofNat N)), .val (.ref b390), .val (.ref b392), .val (.int k426_0), .val (.int (Int32.ofNat mn)), .val (.int (Int32.ofNat (mn + 1))), .val (.int (f2 (Int32.ofNat (mn + 1)) (Int32.ofNat N))), .unset, .unset] [(.int (1 : Int32)), (.int (f2 (Int32.ofNat (mn + 1)) (Int32.ofNat N)))])) _
                              refine XS.icmpYes X479.here hx rfl (pc0 := 284) (pc' := 306) rfl (hb hby at_284) rfl (XT.ii_lt_t hc481) (by decide) (by decide) ?_
                              show Steps p.tables e below (T479.setTop (mkF m 306 #[.val (.int p0), .val (.int p1), .val (.int p2), .val (.int p3), .val (.int p4), .val (.int (Int32.ofNat N)), .val (.ref b390), .val (.ref b392), .val (.int k426_0), .val (.int (Int32.ofNat mn)), .val (.int (Int32.ofNat (mn + 1))), .val (.int (f2 (Int32.ofNat (mn + 1)) (Int32.ofNat N))), .unset, .unset] [])) _
                              refine XS.iconst X479.here hx rfl (hb hby at_306) ?_
                              show Steps p.tables e below (T479.setTop (mkF m 307 #[.val (.int p0), .val (.int p1), .val (.int p2), .val (.int p3), .val (.int p4), .val (.int (Int32.ofNat N)), .val (.ref b390), .val (.ref b392), .val (.int k426_0), .val (.int (Int32.ofNat mn)), .val (.int (Int32.ofNat (mn + 1))), .val (.int (f2 (Int32.ofNat (mn + 1)) (Int32.ofNat N))), .unset, .unset] [(.int (0 : Int32))])) _
                              refine XS.istore X479.here hx rfl (hb hby at_307) rfl (l' := #[.val (.int p0), .val (.int p1), .val (.int p2), .val (.int p3), .val (.int p4), .val (.int (Int32.ofNat N)), .val (.ref b390), .val (.ref b392), .val (.int k426_0), .val (.int (Int32.ofNat mn)), .val (.int (Int32.ofNat (mn + 1))), .val (.int (f2 (Int32.ofNat (mn + 1)) (Int32.ofNat N))), .val (.int (0 : Int32)), .unset]) rfl ?_
                              exact kt
                            exact J472 _ _ _ (X479.more (by decide) (by decide)) e479 N479 (0 : Int32) ((if_pos hc473).trans ((if_pos hc474).trans ((if_neg hc475).trans ((if_pos hc480).trans (if_pos hc481))))).symm Z0_469 V420_470 V468
                          · refine Got.step (T' := T479) (g' := (mkF m 294 #[.val (.int p0), .val (.int p1), .val (.int p2), .val (.int p3), .val (.int p4), .val (.int (Int32.ofNat N)), .val (.ref b390), .val (.ref b392), .val (.int k426_0), .val (.int (Int32.ofNat mn)), .val (.int (Int32.ofNat (mn + 1))), .val (.int (f2 (Int32.ofNat (mn + 1)) (Int32.ofNat N))), .unset, .unset] [(.int (1 : Int32)), (.int (Int32.ofNat (mn + 1))), (.ref b392), (.ref b390)])) (fun tq kt => ?_) ?_
                            · show Steps p.tables e below (T479.setTop (mkF m 284 #[.val (.int p0), .val (.int p1), .val (.int p2), .val (.int p3), .val (.int p4), .val (.int (Int32.ofNat N)), .val (.ref b390), .val (.ref b392), .val (.int k426_0), .val (.int (Int32.ofNat mn)), .val (.int (Int32.ofNat (mn + 1))), .val (.int (f2 (Int32.ofNat (mn + 1)) (Int32.ofNat N))), .unset, .unset] [(.int (1 : Int32)), (.int (f2 (Int32.ofNat (mn + 1)) (Int32.ofNat N)))])) _
                              refine XS.icmpNo X479.here hx rfl (hb hby at_284) rfl (XT.ii_lt_f hc481) ?_
                              show Steps p.tables e below (T479.setTop (mkF m 287 #[.val (.int p0), .val (.int p1), .val (.int p2), .val (.int p3), .val (.int p4), .val (.int (Int32.ofNat N)), .val (.ref b390), .val (.ref b392), .val (.int k426_0), .val (.int (Int32.ofNat mn)), .val (.int (Int32.ofNat (mn + 1))), .val (.int (f2 (Int32.ofNat (mn + 1)) (Int32.ofNat N))), .unset, .unset] [])) _
                              refine XS.aload X479.here hx rfl (hb hby at_287) rfl rfl ?_
                              show Steps p.tables e below (T479.setTop (mkF m 289 #[.val (.int p0), .val (.int p1), .val (.int p2), .val (.int p3), .val (.int p4), .val (.int (Int32.ofNat N)), .val (.ref b390), .val (.ref b392), .val (.int k426_0), .val (.int (Int32.ofNat mn)), .val (.int (Int32.ofNat (mn + 1))), .val (.int (f2 (Int32.ofNat (mn + 1)) (Int32.ofNat N))), .unset, .unset] [(.ref b390)])) _
                              refine XS.aload X479.here hx rfl (hb hby at_289) rfl rfl ?_
                              show Steps p.tables e below (T479.setTop (mkF m 291 #[.val (.int p0), .val (.int p1), .val (.int p2), .val (.int p3), .val (.int p4), .val (.int (Int32.ofNat N)), .val (.ref b390), .val (.ref b392), .val (.int k426_0), .val (.int (Int32.ofNat mn)), .val (.int (Int32.ofNat (mn + 1))), .val (.int (f2 (Int32.ofNat (mn + 1)) (Int32.ofNat N))), .unset, .unset] [(.ref b392), (.ref b390)])) _
                              refine XS.iload X479.here hx rfl (hb hby at_291) rfl ?_
                              show Steps p.tables e below (T479.setTop (mkF m 293 #[.val (.int p0), .val (.int p1), .val (.int p2), .val (.int p3), .val (.int p4), .val (.int (Int32.ofNat N)), .val (.ref b390), .val (.ref b392), .val (.int k426_0), .val (.int (Int32.ofNat mn)), .val (.int (Int32.ofNat (mn + 1))), .val (.int (f2 (Int32.ofNat (mn + 1)) (Int32.ofNat N))), .unset, .unset] [(.int (Int32.ofNat (mn + 1))), (.ref b392), (.ref b390)])) _
                              refine XS.iconst X479.here hx rfl (hb hby at_293) ?_
                              exact kt
                            obtain ⟨_, _, ⟨T482, L482, k482, n482⟩, -, X482, ⟨Lc482, hQ482, l482, y482, z482⟩, st482⟩ := Jvm.LawKit.callS X479 hx (y := (⟨"com/example/sidestep/sidestep/CompiledPatternAdvancePinLaw", "ends", "([I[III)Z"⟩ : MethodName)) hown (mvT hZ (hw _ (List.mem_of_getElem? (i := 10) rfl))) (mvT hZ (hw _ (List.mem_of_getElem? (i := 11) rfl))) (mvT hZ (hw _ (List.mem_of_getElem? (i := 3) rfl))) (mvT hZ (hw _ (List.mem_of_getElem? (i := 12) rfl))) (by decide) (backOf (W := 0) (rmE1 l Z a0 hw [] b390 b392 (mn + 1) (p2 + (f1 (p3 &&& (3 : Int32)))) y399_b390_1 y408_b390_2 y417_b390_3 (S0.set mn k426_0) k390 k392 N h468 n0 Z0_469 V420_470 V468 (own_q1 hN hmn hc481).1 (own_q1 hN hmn hc481).2) hZ (hw _ (List.mem_of_getElem? (i := 12) rfl)) (hw _ (List.mem_of_getElem? (i := 3) rfl)) (by decide) (by decide)) (g := (mkF m 294 #[.val (.int p0), .val (.int p1), .val (.int p2), .val (.int p3), .val (.int p4), .val (.int (Int32.ofNat N)), .val (.ref b390), .val (.ref b392), .val (.int k426_0), .val (.int (Int32.ofNat mn)), .val (.int (Int32.ofNat (mn + 1))), .val (.int (f2 (Int32.ofNat (mn + 1)) (Int32.ofNat N))), .unset, .unset] [(.int (1 : Int32)), (.int (Int32.ofNat (mn + 1))), (.ref b392), (.ref b390)])) rfl (by rw [hml]; rfl) (argsL := [(.ref b390), (.ref b392), (.int (Int32.ofNat (mn + 1))), (.int (1 : Int32))]) (rest := []) (lenOf pd_3 rfl) rfl (by show 2 * 0 + _ ≤ _; exact Nat.le_of_eq rfl) (hb hby at_294) (fun _ _ => ⟨rfl, e479, (by decide : 2 + 0 ≤ _), (by decide : 9 + 0 ≤ _)⟩)
                            dsimp only [Pt.U, Pt.locs, Pt.cells, Pt.slots] at X482 l482 y482 z482 st482 hQ482
                            subst y482 z482
                            obtain ⟨rfl, Nq482, e482⟩ := hQ482
                            have N482 : Fr n0 L482 := by rw [l482]; exact Fr.app N479 Nq482
                            refine Got.step st482 ?_
                            show Got p e below s _ _ _ _ T482 (mkF m 297 #[.val (.int p0), .val (.int p1), .val (.int p2), .val (.int p3), .val (.int p4), .val (.int (Int32.ofNat N)), .val (.ref b390), .val (.ref b392), .val (.int k426_0), .val (.int (Int32.ofNat mn)), .val (.int (Int32.ofNat (mn + 1))), .val (.int (f2 (Int32.ofNat (mn + 1)) (Int32.ofNat N))), .unset, .unset] [(.int (fE1 (p2 + (f1 (p3 &&& (3 : Int32)))) y399_b390_1 y408_b390_2 y417_b390_3 (S0.set mn k426_0) (mn + 1)))])
                            by_cases hc483 : ((fE1 (p2 + (f1 (p3 &&& (3 : Int32)))) y399_b390_1 y408_b390_2 y417_b390_3 (S0.set mn k426_0) (mn + 1)) = 0)
                            · refine Got.step (T' := T482) (g' := (mkF m 309 #[.val (.int p0), .val (.int p1), .val (.int p2), .val (.int p3), .val (.int p4), .val (.int (Int32.ofNat N)), .val (.ref b390), .val (.ref b392), .val (.int k426_0), .val (.int (Int32.ofNat mn)), .val (.int (Int32.ofNat (mn + 1))), .val (.int (f2 (Int32.ofNat (mn + 1)) (Int32.ofNat N))), .val (.int (0 : Int32)), .unset] [])) (fun tq kt => ?_) ?_
                              · show Steps p.tables e below (T482.setTop (mkF m 297 #[.val (.int p0), .val (.int p1), .val (.int p2), .val (.int p3), .val (.int p4), .val (.int (Int32.ofNat N)), .val (.ref b390), .val (.ref b392), .val (.int k426_0), .val (.int (Int32.ofNat mn)), .val (.int (Int32.ofNat (mn + 1))), .val (.int (f2 (Int32.ofNat (mn + 1)) (Int32.ofNat N))), .unset, .unset] [(.int (fE1 (p2 + (f1 (p3 &&& (3 : Int32)))) y399_b390_1 y408_b390_2 y417_b390_3 (S0.set mn k426_0) (mn + 1)))])) _
                                refine XS.ifYes X482.here hx rfl (pc0 := 297) (pc' := 306) rfl (hb hby at_297) rfl (XT.i0_eq_t hc483) (by decide) (by decide) ?_
                                show Steps p.tables e below (T482.setTop (mkF m 306 #[.val (.int p0), .val (.int p1), .val (.int p2), .val (.int p3), .val (.int p4), .val (.int (Int32.ofNat N)), .val (.ref b390), .val (.ref b392), .val (.int k426_0), .val (.int (Int32.ofNat mn)), .val (.int (Int32.ofNat (mn + 1))), .val (.int (f2 (Int32.ofNat (mn + 1)) (Int32.ofNat N))), .unset, .unset] [])) _
                                refine XS.iconst X482.here hx rfl (hb hby at_306) ?_
                                show Steps p.tables e below (T482.setTop (mkF m 307 #[.val (.int p0), .val (.int p1), .val (.int p2), .val (.int p3), .val (.int p4), .val (.int (Int32.ofNat N)), .val (.ref b390), .val (.ref b392), .val (.int k426_0), .val (.int (Int32.ofNat mn)), .val (.int (Int32.ofNat (mn + 1))), .val (.int (f2 (Int32.ofNat (mn + 1)) (Int32.ofNat N))), .unset, .unset] [(.int (0 : Int32))])) _
                                refine XS.istore X482.here hx rfl (hb hby at_307) rfl (l' := #[.val (.int p0), .val (.int p1), .val (.int p2), .val (.int p3), .val (.int p4), .val (.int (Int32.ofNat N)), .val (.ref b390), .val (.ref b392), .val (.int k426_0), .val (.int (Int32.ofNat mn)), .val (.int (Int32.ofNat (mn + 1))), .val (.int (f2 (Int32.ofNat (mn + 1)) (Int32.ofNat N))), .val (.int (0 : Int32)), .unset]) rfl ?_
                                exact kt
                              exact J472 _ _ _ (X482.more (by decide) (by decide)) e482 N482 (0 : Int32) ((if_pos hc473).trans ((if_pos hc474).trans ((if_neg hc475).trans ((if_pos hc480).trans ((if_neg hc481).trans (if_pos hc483)))))).symm Z0_469 V420_470 V468
                            · refine Got.step (T' := T482) (g' := (mkF m 309 #[.val (.int p0), .val (.int p1), .val (.int p2), .val (.int p3), .val (.int p4), .val (.int (Int32.ofNat N)), .val (.ref b390), .val (.ref b392), .val (.int k426_0), .val (.int (Int32.ofNat mn)), .val (.int (Int32.ofNat (mn + 1))), .val (.int (f2 (Int32.ofNat (mn + 1)) (Int32.ofNat N))), .val (.int (1 : Int32)), .unset] [])) (fun tq kt => ?_) ?_
                              · show Steps p.tables e below (T482.setTop (mkF m 297 #[.val (.int p0), .val (.int p1), .val (.int p2), .val (.int p3), .val (.int p4), .val (.int (Int32.ofNat N)), .val (.ref b390), .val (.ref b392), .val (.int k426_0), .val (.int (Int32.ofNat mn)), .val (.int (Int32.ofNat (mn + 1))), .val (.int (f2 (Int32.ofNat (mn + 1)) (Int32.ofNat N))), .unset, .unset] [(.int (fE1 (p2 + (f1 (p3 &&& (3 : Int32)))) y399_b390_1 y408_b390_2 y417_b390_3 (S0.set mn k426_0) (mn + 1)))])) _
                                refine XS.ifNo X482.here hx rfl (hb hby at_297) rfl (XT.i0_eq_f hc483) ?_
                                show Steps p.tables e below (T482.setTop (mkF m 300 #[.val (.int p0), .val (.int p1), .val (.int p2), .val (.int p3), .val (.int p4), .val (.int (Int32.ofNat N)), .val (.ref b390), .val (.ref b392), .val (.int k426_0), .val (.int (Int32.ofNat mn)), .val (.int (Int32.ofNat (mn + 1))), .val (.int (f2 (Int32.ofNat (mn + 1)) (Int32.ofNat N))), .unset, .unset] [])) _
                                refine XS.iconst X482.here hx rfl (hb hby at_300) ?_
                                show Steps p.tables e below (T482.setTop (mkF m 301 #[.val (.int p0), .val (.int p1), .val (.int p2), .val (.int p3), .val (.int p4), .val (.int (Int32.ofNat N)), .val (.ref b390), .val (.ref b392), .val (.int k426_0), .val (.int (Int32.ofNat mn)), .val (.int (Int32.ofNat (mn + 1))), .val (.int (f2 (Int32.ofNat (mn + 1)) (Int32.ofNat N))), .unset, .unset] [(.int (1 : Int32))])) _
                                refine XS.istore X482.here hx rfl (hb hby at_301) rfl (l' := #[.val (.int p0), .val (.int p1), .val (.int p2), .val (.int p3), .val (.int p4), .val (.int (Int32.ofNat N)), .val (.ref b390), .val (.ref b392), .val (.int k426_0), .val (.int (Int32.ofNat mn)), .val (.int (Int32.ofNat (mn + 1))), .val (.int (f2 (Int32.ofNat (mn + 1)) (Int32.ofNat N))), .val (.int (1 : Int32)), .unset]) rfl ?_
                                show Steps p.tables e below (T482.setTop (mkF m 303 #[.val (.int p0), .val (.int p1), .val (.int p2), .val (.int p3), .val (.int p4), .val (.int (Int32.ofNat N)), .val (.ref b390), .val (.ref b392), .val (.int k426_0), .val (.int (Int32.ofNat mn)), .val (.int (Int32.ofNat (mn + 1))), .val (.int (f2 (Int32.ofNat (mn + 1)) (Int32.ofNat N))), .val (.int (1 : Int32)), .unset] [])) _
                                refine XS.goto X482.here hx rfl (pc0 := 303) (pc' := 309) rfl (hb hby at_303) (by decide) (by decide) ?_
                                exact kt
                              exact J472 _ _ _ (X482.more (by decide) (by decide)) e482 N482 (1 : Int32) ((if_pos hc473).trans ((if_pos hc474).trans ((if_neg hc475).trans ((if_pos hc480).trans ((if_neg hc481).trans (if_neg hc483)))))).symm Z0_469 V420_470 V468
                        · refine Got.step (T' := T479) (g' := (mkF m 309 #[.val (.int p0), .val (.int p1), .val (.int p2), .val (.int p3), .val (.int p4), .val (.int (Int32.ofNat N)), .val (.ref b390), .val (.ref b392), .val (.int k426_0), .val (.int (Int32.ofNat mn)), .val (.int (Int32.ofNat (mn + 1))), .val (.int (f2 (Int32.ofNat (mn + 1)) (Int32.ofNat N))), .val (.int (2 : Int32)), .unset] [])) (fun tq kt => ?_) ?_
                          · show Steps p.tables e below (T479.setTop (mkF m 272 #[.val (.int p0), .val (.int p1), .val (.int p2), .val (.int p3), .val (.int p4), .val (.int (Int32.ofNat N)), .val (.ref b390), .val (.ref b392), .val (.int k426_0), .val (.int (Int32.ofNat mn)), .val (.int (Int32.ofNat (mn + 1))), .val (.int (f2 (Int32.ofNat (mn + 1)) (Int32.ofNat N))), .unset, .unset] [(.int (fE2 (p2 + (f1 (p3 &&& (3 : Int32)))) y399_b390_1 y408_b390_2 y417_b390_3 (S0.set mn k426_0) (mn + 1)))])) _
                            refine XS.ifNo X479.here hx rfl (hb hby at_272) rfl (XT.i0_eq_f hc480) ?_
                            show Steps p.tables e below (T479.setTop (mkF m 275 #[.val (.int p0), .val (.int p1), .val (.int p2), .val (.int p3), .val (.int p4), .val (.int (Int32.ofNat N)), .val (.ref b390), .val (.ref b392), .val (.int k426_0), .val (.int (Int32.ofNat mn)), .val (.int (Int32.ofNat (mn + 1))), .val (.int (f2 (Int32.ofNat (mn + 1)) (Int32.ofNat N))), .unset, .unset] [])) _
                            refine XS.iconst X479.here hx rfl (hb hby at_275) ?_
                            show Steps p.tables e below (T479.setTop (mkF m 276 #[.val (.int p0), .val (.int p1), .val (.int p2), .val (.int p3), .val (.int p4), .val (.int (Int32.ofNat N)), .val (.ref b390), .val (.ref b392), .val (.int k426_0), .val (.int (Int32.ofNat mn)), .val (.int (Int32.ofNat (mn + 1))), .val (.int (f2 (Int32.ofNat (mn + 1)) (Int32.ofNat N))), .unset, .unset] [(.int (2 : Int32))])) _
                            refine XS.istore X479.here hx rfl (hb hby at_276) rfl (l' := #[.val (.int p0), .val (.int p1), .val (.int p2), .val (.int p3), .val (.int p4), .val (.int (Int32.ofNat N)), .val (.ref b390), .val (.ref b392), .val (.int k426_0), .val (.int (Int32.ofNat mn)), .val (.int (Int32.ofNat (mn + 1))), .val (.int (f2 (Int32.ofNat (mn + 1)) (Int32.ofNat N))), .val (.int (2 : Int32)), .unset]) rfl ?_
                            show Steps p.tables e below (T479.setTop (mkF m 278 #[.val (.int p0), .val (.int p1), .val (.int p2), .val (.int p3), .val (.int p4), .val (.int (Int32.ofNat N)), .val (.ref b390), .val (.ref b392), .val (.int k426_0), .val (.int (Int32.ofNat mn)), .val (.int (Int32.ofNat (mn + 1))), .val (.int (f2 (Int32.ofNat (mn + 1)) (Int32.ofNat N))), .val (.int (2 : Int32)), .unset] [])) _
                            refine XS.goto X479.here hx rfl (pc0 := 278) (pc' := 309) rfl (hb hby at_278) (by decide) (by decide) ?_
                            exact kt
                          exact J472 _ _ _ (X479.more (by decide) (by decide)) e479 N479 (2 : Int32) ((if_pos hc473).trans ((if_pos hc474).trans ((if_neg hc475).trans (if_neg hc480)))).symm Z0_469 V420_470 V468
                    · refine Got.step (T' := T471) (g' := (mkF m 244 #[.val (.int p0), .val (.int p1), .val (.int p2), .val (.int p3), .val (.int p4), .val (.int (Int32.ofNat N)), .val (.ref b390), .val (.ref b392), .val (.int k426_0), .val (.int (Int32.ofNat mn)), .val (.int (Int32.ofNat (mn + 1))), .val (.int (f2 (Int32.ofNat (mn + 1)) (Int32.ofNat N))), .unset, .unset] [(.int (3 : Int32)), (.int (Int32.ofNat (mn + 1))), (.ref b392), (.ref b390)])) (fun tq kt => ?_) ?_
                      · show Steps p.tables e below (T471.setTop (mkF m 234 #[.val (.int p0), .val (.int p1), .val (.int p2), .val (.int p3), .val (.int p4), .val (.int (Int32.ofNat N)), .val (.ref b390), .val (.ref b392), .val (.int k426_0), .val (.int (Int32.ofNat mn)), .val (.int (Int32.ofNat (mn + 1))), .val (.int (f2 (Int32.ofNat (mn + 1)) (Int32.ofNat N))), .unset, .unset] [(.int (3 : Int32)), (.int (f2 (Int32.ofNat (mn + 1)) (Int32.ofNat N)))])) _
                        refine XS.icmpNo X471.here hx rfl (hb hby at_234) rfl (XT.ii_lt_f hc474) ?_
                        show Steps p.tables e below (T471.setTop (mkF m 237 #[.val (.int p0), .val (.int p1), .val (.int p2), .val (.int p3), .val (.int p4), .val (.int (Int32.ofNat N)), .val (.ref b390), .val (.ref b392), .val (.int k426_0), .val (.int (Int32.ofNat mn)), .val (.int (Int32.ofNat (mn + 1))), .val (.int (f2 (Int32.ofNat (mn + 1)) (Int32.ofNat N))), .unset, .unset] [])) _
                        refine XS.aload X471.here hx rfl (hb hby at_237) rfl rfl ?_
                        show Steps p.tables e below (T471.setTop (mkF m 239 #[.val (.int p0), .val (.int p1), .val (.int p2), .val (.int p3), .val (.int p4), .val (.int (Int32.ofNat N)), .val (.ref b390), .val (.ref b392), .val (.int k426_0), .val (.int (Int32.ofNat mn)), .val (.int (Int32.ofNat (mn + 1))), .val (.int (f2 (Int32.ofNat (mn + 1)) (Int32.ofNat N))), .unset, .unset] [(.ref b390)])) _
                        refine XS.aload X471.here hx rfl (hb hby at_239) rfl rfl ?_
                        show Steps p.tables e below (T471.setTop (mkF m 241 #[.val (.int p0), .val (.int p1), .val (.int p2), .val (.int p3), .val (.int p4), .val (.int (Int32.ofNat N)), .val (.ref b390), .val (.ref b392), .val (.int k426_0), .val (.int (Int32.ofNat mn)), .val (.int (Int32.ofNat (mn + 1))), .val (.int (f2 (Int32.ofNat (mn + 1)) (Int32.ofNat N))), .unset, .unset] [(.ref b392), (.ref b390)])) _
                        refine XS.iload X471.here hx rfl (hb hby at_241) rfl ?_
                        show Steps p.tables e below (T471.setTop (mkF m 243 #[.val (.int p0), .val (.int p1), .val (.int p2), .val (.int p3), .val (.int p4), .val (.int (Int32.ofNat N)), .val (.ref b390), .val (.ref b392), .val (.int k426_0), .val (.int (Int32.ofNat mn)), .val (.int (Int32.ofNat (mn + 1))), .val (.int (f2 (Int32.ofNat (mn + 1)) (Int32.ofNat N))), .unset, .unset] [(.int (Int32.ofNat (mn + 1))), (.ref b392), (.ref b390)])) _
                        refine XS.iconst X471.here hx rfl (hb hby at_243) ?_
                        exact kt
                      obtain ⟨_, _, ⟨T484, L484, k484, n484⟩, -, X484, ⟨Lc484, hQ484, l484, y484, z484⟩, st484⟩ := Jvm.LawKit.callS X471 hx (y := (⟨"com/example/sidestep/sidestep/CompiledPatternAdvancePinLaw", "ends", "([I[III)Z"⟩ : MethodName)) hown (mvT hZ (hw _ (List.mem_of_getElem? (i := 10) rfl))) (mvT hZ (hw _ (List.mem_of_getElem? (i := 11) rfl))) (mvT hZ (hw _ (List.mem_of_getElem? (i := 3) rfl))) (mvT hZ (hw _ (List.mem_of_getElem? (i := 12) rfl))) (by decide) (backOf (W := 0) (rmE3 l Z a0 hw [] b390 b392 (mn + 1) (p2 + (f1 (p3 &&& (3 : Int32)))) y399_b390_1 y408_b390_2 y417_b390_3 (S0.set mn k426_0) k390 k392 N h468 n0 Z0_469 V420_470 V468 (own_q3 hN hmn hc474).1 (own_q3 hN hmn hc474).2) hZ (hw _ (List.mem_of_getElem? (i := 12) rfl)) (hw _ (List.mem_of_getElem? (i := 3) rfl)) (by decide) (by decide)) (g := (mkF m 244 #[.val (.int p0), .val (.int p1), .val (.int p2), .val (.int p3), .val (.int p4), .val (.int (Int32.ofNat N)), .val (.ref b390), .val (.ref b392), .val (.int k426_0), .val (.int (Int32.ofNat mn)), .val (.int (Int32.ofNat (mn + 1))), .val (.int (f2 (Int32.ofNat (mn + 1)) (Int32.ofNat N))), .unset, .unset] [(.int (3 : Int32)), (.int (Int32.ofNat (mn + 1))), (.ref b392), (.ref b390)])) rfl (by rw [hml]; rfl) (argsL := [(.ref b390), (.ref b392), (.int (Int32.ofNat (mn + 1))), (.int (3 : Int32))]) (rest := []) (lenOf pd_3 rfl) rfl (by show 2 * 0 + _ ≤ _; exact Nat.le_of_eq rfl) (hb hby at_244) (fun _ _ => ⟨rfl, e471, (by decide : 2 + 0 ≤ _), (by decide : 9 + 0 ≤ _)⟩)
                      dsimp only [Pt.U, Pt.locs, Pt.cells, Pt.slots] at X484 l484 y484 z484 st484 hQ484
                      subst y484 z484
                      obtain ⟨rfl, Nq484, e484⟩ := hQ484
                      have N484 : Fr n0 L484 := by rw [l484]; exact Fr.app N471 Nq484
                      refine Got.step st484 ?_
                      show Got p e below s _ _ _ _ T484 (mkF m 247 #[.val (.int p0), .val (.int p1), .val (.int p2), .val (.int p3), .val (.int p4), .val (.int (Int32.ofNat N)), .val (.ref b390), .val (.ref b392), .val (.int k426_0), .val (.int (Int32.ofNat mn)), .val (.int (Int32.ofNat (mn + 1))), .val (.int (f2 (Int32.ofNat (mn + 1)) (Int32.ofNat N))), .unset, .unset] [(.int (fE3 (p2 + (f1 (p3 &&& (3 : Int32)))) y399_b390_1 y408_b390_2 y417_b390_3 (S0.set mn k426_0) (mn + 1)))])
                      by_cases hc485 : ((fE3 (p2 + (f1 (p3 &&& (3 : Int32)))) y399_b390_1 y408_b390_2 y417_b390_3 (S0.set mn k426_0) (mn + 1)) = 0)
                      · refine Got.step (T' := T484) (g' := (mkF m 259 #[.val (.int p0), .val (.int p1), .val (.int p2), .val (.int p3), .val (.int p4), .val (.int (Int32.ofNat N)), .val (.ref b390), .val (.ref b392), .val (.int k426_0), .val (.int (Int32.ofNat mn)), .val (.int (Int32.ofNat (mn + 1))), .val (.int (f2 (Int32.ofNat (mn + 1)) (Int32.ofNat N))), .unset, .unset] [(.int (2 : Int32)), (.int (f2 (Int32.ofNat (mn + 1)) (Int32.ofNat N)))])) (fun tq kt => ?_) ?_
                        · show Steps p.tables e below (T484.setTop (mkF m 247 #[.val (.int p0), .val (.int p1), .val (.int p2), .val (.int p3), .val (.int p4), .val (.int (Int32.ofNat N)), .val (.ref b390), .val (.ref b392), .val (.int k426_0), .val (.int (Int32.ofNat mn)), .val (.int (Int32.ofNat (mn + 1))), .val (.int (f2 (Int32.ofNat (mn + 1)) (Int32.ofNat N))), .unset, .unset] [(.int (fE3 (p2 + (f1 (p3 &&& (3 : Int32)))) y399_b390_1 y408_b390_2 y417_b390_3 (S0.set mn k426_0) (mn + 1)))])) _
                          refine XS.ifYes X484.here hx rfl (pc0 := 247) (pc' := 256) rfl (hb hby at_247) rfl (XT.i0_eq_t hc485) (by decide) (by decide) ?_
                          show Steps p.tables e below (T484.setTop (mkF m 256 #[.val (.int p0), .val (.int p1), .val (.int p2), .val (.int p3), .val (.int p4), .val (.int (Int32.ofNat N)), .val (.ref b390), .val (.ref b392), .val (.int k426_0), .val (.int (Int32.ofNat mn)), .val (.int (Int32.ofNat (mn + 1))), .val (.int (f2 (Int32.ofNat (mn + 1)) (Int32.ofNat N))), .unset, .unset] [])) _
                          refine XS.iload X484.here hx rfl (hb hby at_256) rfl ?_
                          show Steps p.tables e below (T484.setTop (mkF m 258 #[.val (.int p0), .val (.int p1), .val (.int p2), .val (.int p3), .val (.int p4), .val (.int (Int32.ofNat N)), .val (.ref b390), .val (.ref b392), .val (.int k426_0), .val (.int (Int32.ofNat mn)), .val (.int (Int32.ofNat (mn + 1))), .val (.int (f2 (Int32.ofNat (mn + 1)) (Int32.ofNat N))), .unset, .unset] [(.int (f2 (Int32.ofNat (mn + 1)) (Int32.ofNat N)))])) _
                          refine XS.iconst X484.here hx rfl (hb hby at_258) ?_
                          exact kt
                        by_cases hc486 : ((f2 (Int32.ofNat (mn + 1)) (Int32.ofNat N)) < (2 : Int32))
                        · refine Got.step (T' := T484) (g' := (mkF m 284 #[.val (.int p0), .val (.int p1), .val (.int p2), .val (.int p3), .val (.int p4), .val (.int (Int32.ofNat N)), .val (.ref b390), .val (.ref b392), .val (.int k426_0), .val (.int (Int32.ofNat mn)), .val (.int (Int32.ofNat (mn + 1))), .val (.int (f2 (Int32.ofNat (mn + 1)) (Int32.ofNat N))), .unset, .unset] [(.int (1 : Int32)), (.int (f2 (Int32.ofNat (mn + 1)) (Int32.ofNat N)))])) (fun tq kt => ?_) ?_
                          · show Steps p.tables e below (T484.setTop (mkF m 259 #[.val (.int p0), .val (.int p1), .val (.int p2), .val (.int p3), .val (.int p4), .val (.int (Int32.ofNat N)), .val (.ref b390), .val (.ref b392), .val (.int k426_0), .val (.int (Int32.ofNat mn)), .val (.int (Int32.ofNat (mn + 1))), .val (.int (f2 (Int32.ofNat (mn + 1)) (Int32.ofNat N))), .unset, .unset] [(.int (2 : Int32)), (.int (f2 (Int32.ofNat (mn + 1)) (Int32.ofNat N)))])) _
                            refine XS.icmpYes X484.here hx rfl (pc0 := 259) (pc' := 281) rfl (hb hby at_259) rfl (XT.ii_lt_t hc486) (by decide) (by decide) ?_
                            show Steps p.tables e below (T484.setTop (mkF m 281 #[.val (.int p0), .val (.int p1), .val (.int p2), .val (.int p3), .val (.int p4), .val (.int (Int32.ofNat N)), .val (.ref b390), .val (.ref b392), .val (.int k426_0), .val (.int (Int32.ofNat mn)), .val (.int (Int32.ofNat (mn + 1))), .val (.int (f2 (Int32.ofNat (mn + 1)) (Int32.ofNat N))), .unset, .unset] [])) _
                            refine XS.iload X484.here hx rfl (hb hby at_281) rfl ?_
                            show Steps p.tables e below (T484.setTop (mkF m 283 #[.val (.int p0), .val (.int p1), .val (.int p2), .val (.int p3), .val (.int p4), .val (.int (Int32.ofNat N)), .val (.ref b390), .val (.ref b392), .val (.int k426_0), .val (.int (Int32.ofNat mn)), .val (.int (Int32.ofNat (mn + 1))), .val (.int (f2 (Int32.ofNat (mn + 1)) (Int32.ofNat N))), .unset, .unset] [(.int (f2 (Int32.ofNat (mn + 1)) (Int32.ofNat N)))])) _
                            refine XS.iconst X484.here hx rfl (hb hby at_283) ?_
                            exact kt
                          by_cases hc487 : ((f2 (Int32.ofNat (mn + 1)) (Int32.ofNat N)) < (1 : Int32))
                          · refine Got.step (T' := T484) (g' := (mkF m 309 #[.val (.int p0), .val (.int p1), .val (.int p2), .val (.int p3), .val (.int p4), .val (.int (Int32.ofNat N)), .val (.ref b390), .val (.ref b392), .val (.int k426_0), .val (.int (Int32.ofNat mn)), .val (.int (Int32.ofNat (mn + 1))), .val (.int (f2 (Int32.ofNat (mn + 1)) (Int32.ofNat N))), .val (.int (0 : Int32)), .unset] [])) (fun tq kt => ?_) ?_
                            · show Steps p.tables e below (T484.setTop (mkF m 284 #[.val (.int p0), .val (.int p1), .val (.int p2), .val (.int p3), .val (.int p4), .val (.int (Int32.ofNat N)), .val (.ref b390), .val (.ref b392), .val (.int k426_0), .val (.int (Int32.ofNat mn)), .val (.int (Int32.ofNat (mn + 1))), .val (.int (f2 (Int32.ofNat (mn + 1)) (Int32.ofNat N))), .unset, .unset] [(.int (1 : Int32)), (.int (f2 (Int32.ofNat (mn + 1)) (Int32.ofNat N)))])) _
                              refine XS.icmpYes X484.here hx rfl (pc0 := 284) (pc' := 306) rfl (hb hby at_284) rfl (XT.ii_lt_t hc487) (by decide) (by decide) ?_
                              show Steps p.tables e below (T484.setTop (mkF m 306 #[.val (.int p0), .val (.int p1), .val (.int p2), .val (.int p3), .val (.int p4), .val (.int (Int32.ofNat N)), .val (.ref b390), .val (.ref b392), .val (.int k426_0), .val (.int (Int32.ofNat mn)), .val (.int (Int32.ofNat (mn + 1))), .val (.int (f2 (Int32.ofNat (mn + 1)) (Int32.ofNat N))), .unset, .unset] [])) _
                              refine XS.iconst X484.here hx rfl (hb hby at_306) ?_
                              show Steps p.tables e below (T484.setTop (mkF m 307 #[.val (.int p0), .val (.int p1), .val (.int p2), .val (.int p3), .val (.int p4), .val (.int (Int32.ofNat N)), .val (.ref b390), .val (.ref b392), .val (.int k426_0), .val (.int (Int32.ofNat mn)), .val (.int (Int32.ofNat (mn + 1))), .val (.int (f2 (Int32.ofNat (mn + 1)) (Int32.ofNat N))), .unset, .unset] [(.int (0 : Int32))])) _
                              refine XS.istore X484.here hx rfl (hb hby at_307) rfl (l' := #[.val (.int p0), .val (.int p1), .val (.int p2), .val (.int p3), .val (.int p4), .val (.int (Int32.ofNat N)), .val (.ref b390), .val (.ref b392), .val (.int k426_0), .val (.int (Int32.ofNat mn)), .val (.int (Int32.ofNat (mn + 1))), .val (.int (f2 (Int32.ofNat (mn + 1)) (Int32.ofNat N))), .val (.int (0 : Int32)), .unset]) rfl ?_
                              exact kt
                            exact J472 _ _ _ (X484.more (by decide) (by decide)) e484 N484 (0 : Int32) ((if_pos hc473).trans ((if_neg hc474).trans ((if_pos hc485).trans ((if_pos hc486).trans (if_pos hc487))))).symm Z0_469 V420_470 V468
                          · refine Got.step (T' := T484) (g' := (mkF m 294 #[.val (.int p0), .val (.int p1), .val (.int p2), .val (.int p3), .val (.int p4), .val (.int (Int32.ofNat N)), .val (.ref b390), .val (.ref b392), .val (.int k426_0), .val (.int (Int32.ofNat mn)), .val (.int (Int32.ofNat (mn + 1))), .val (.int (f2 (Int32.ofNat (mn + 1)) (Int32.ofNat N))), .unset, .unset] [(.int (1 : Int32)), (.int (Int32.ofNat (mn + 1))), (.ref b392), (.ref b390)])) (fun tq kt => ?_) ?_
                            · show Steps p.tables e below (T484.setTop (mkF m 284 #[.val (.int p0), .val (.int p1), .val (.int p2), .val (.int p3), .val (.int p4), .val (.int (Int32.ofNat N)), .val (.ref b390), .val (.ref b392), .val (.int k426_0), .val (.int (Int32.ofNat mn)), .val (.int (Int32.ofNat (mn + 1))), .val (.int (f2 (Int32.ofNat (mn + 1)) (Int32.ofNat N))), .unset, .unset] [(.int (1 : Int32)), (.int (f2 (Int32.ofNat (mn + 1)) (Int32.ofNat N)))])) _
                              refine XS.icmpNo X484.here hx rfl (hb hby at_284) rfl (XT.ii_lt_f hc487) ?_
                              show Steps p.tables e below (T484.setTop (mkF m 287 #[.val (.int p0), .val (.int p1), .val (.int p2), .val (.int p3), .val (.int p4), .val (.int (Int32.ofNat N)), .val (.ref b390), .val (.ref b392), .val (.int k426_0), .val (.int (Int32.ofNat mn)), .val (.int (Int32.ofNat (mn + 1))), .val (.int (f2 (Int32.ofNat (mn + 1)) (Int32.ofNat N))), .unset, .unset] [])) _
                              refine XS.aload X484.here hx rfl (hb hby at_287) rfl rfl ?_
                              show Steps p.tables e below (T484.setTop (mkF m 289 #[.val (.int p0), .val (.int p1), .val (.int p2), .val (.int p3), .val (.int p4), .val (.int (Int32.ofNat N)), .val (.ref b390), .val (.ref b392), .val (.int k426_0), .val (.int (Int32.ofNat mn)), .val (.int (Int32.ofNat (mn + 1))), .val (.int (f2 (Int32.ofNat (mn + 1)) (Int32.ofNat N))), .unset, .unset] [(.ref b390)])) _
                              refine XS.aload X484.here hx rfl (hb hby at_289) rfl rfl ?_
                              show Steps p.tables e below (T484.setTop (mkF m 291 #[.val (.int p0), .val (.int p1), .val (.int p2), .val (.int p3), .val (.int p4), .val (.int (Int32.ofNat N)), .val (.ref b390), .val (.ref b392), .val (.int k426_0), .val (.int (Int32.ofNat mn)), .val (.int (Int32.ofNat (mn + 1))), .val (.int (f2 (Int32.ofNat (mn + 1)) (Int32.ofNat N))), .unset, .unset] [(.ref b392), (.ref b390)])) _
                              refine XS.iload X484.here hx rfl (hb hby at_291) rfl ?_
                              show Steps p.tables e below (T484.setTop (mkF m 293 #[.val (.int p0), .val (.int p1), .val (.int p2), .val (.int p3), .val (.int p4), .val (.int (Int32.ofNat N)), .val (.ref b390), .val (.ref b392), .val (.int k426_0), .val (.int (Int32.ofNat mn)), .val (.int (Int32.ofNat (mn + 1))), .val (.int (f2 (Int32.ofNat (mn + 1)) (Int32.ofNat N))), .unset, .unset] [(.int (Int32.ofNat (mn + 1))), (.ref b392), (.ref b390)])) _
                              refine XS.iconst X484.here hx rfl (hb hby at_293) ?_
                              exact kt
                            obtain ⟨_, _, ⟨T488, L488, k488, n488⟩, -, X488, ⟨Lc488, hQ488, l488, y488, z488⟩, st488⟩ := Jvm.LawKit.callS X484 hx (y := (⟨"com/example/sidestep/sidestep/CompiledPatternAdvancePinLaw", "ends", "([I[III)Z"⟩ : MethodName)) hown (mvT hZ (hw _ (List.mem_of_getElem? (i := 10) rfl))) (mvT hZ (hw _ (List.mem_of_getElem? (i := 11) rfl))) (mvT hZ (hw _ (List.mem_of_getElem? (i := 3) rfl))) (mvT hZ (hw _ (List.mem_of_getElem? (i := 12) rfl))) (by decide) (backOf (W := 0) (rmE1 l Z a0 hw [] b390 b392 (mn + 1) (p2 + (f1 (p3 &&& (3 : Int32)))) y399_b390_1 y408_b390_2 y417_b390_3 (S0.set mn k426_0) k390 k392 N h468 n0 Z0_469 V420_470 V468 (own_q1 hN hmn hc487).1 (own_q1 hN hmn hc487).2) hZ (hw _ (List.mem_of_getElem? (i := 12) rfl)) (hw _ (List.mem_of_getElem? (i := 3) rfl)) (by decide) (by decide)) (g := (mkF m 294 #[.val (.int p0), .val (.int p1), .val (.int p2), .val (.int p3), .val (.int p4), .val (.int (Int32.ofNat N)), .val (.ref b390), .val (.ref b392), .val (.int k426_0), .val (.int (Int32.ofNat mn)), .val (.int (Int32.ofNat (mn + 1))), .val (.int (f2 (Int32.ofNat (mn + 1)) (Int32.ofNat N))), .unset, .unset] [(.int (1 : Int32)), (.int (Int32.ofNat (mn + 1))), (.ref b392), (.ref b390)])) rfl (by rw [hml]; rfl) (argsL := [(.ref b390), (.ref b392), (.int (Int32.ofNat (mn + 1))), (.int (1 : Int32))]) (rest := []) (lenOf pd_3 rfl) rfl (by show 2 * 0 + _ ≤ _; exact Nat.le_of_eq rfl) (hb hby at_294) (fun _ _ => ⟨rfl, e484, (by decide : 2 + 0 ≤ _), (by decide : 9 + 0 ≤ _)⟩)
                            dsimp only [Pt.U, Pt.locs, Pt.cells, Pt.slots] at X488 l488 y488 z488 st488 hQ488
                            subst y488 z488
                            obtain ⟨rfl, Nq488, e488⟩ := hQ488
                            have N488 : Fr n0 L488 := by rw [l488]; exact Fr.app N484 Nq488
                            refine Got.step st488 ?_
                            show Got p e below s _ _ _ _ T488 (mkF m 297 #[.val (.int p0), .val (.int p1), .val (.int p2), .val (.int p3), .val (.int p4), .val (.int (Int32.ofNat N)), .val (.ref b390), .val (.ref b392), .val (.int k426_0), .val (.int (Int32.ofNat mn)), .val (.int (Int32.ofNat (mn + 1))), .val (.int (f2 (Int32.ofNat (mn + 1)) (Int32.ofNat N))), .unset, .unset] [(.int (fE1 (p2 + (f1 (p3 &&& (3 : Int32)))) y399_b390_1 y408_b390_2 y417_b390_3 (S0.set mn k426_0) (mn + 1)))])
                            by_cases hc489 : ((fE1 (p2 + (f1 (p3 &&& (3 : Int32)))) y399_b390_1 y408_b390_2 y417_b390_3 (S0.set mn k426_0) (mn + 1)) = 0)
                            · refine Got.step (T' := T488) (g' := (mkF m 309 #[.val (.int p0), .val (.int p1), .val (.int p2), .val (.int p3), .val (.int p4), .val (.int (Int32.ofNat N)), .val (.ref b390), .val (.ref b392), .val (.int k426_0), .val (.int (Int32.ofNat mn)), .val (.int (Int32.ofNat (mn + 1))), .val (.int (f2 (Int32.ofNat (mn + 1)) (Int32.ofNat N))), .val (.int (0 : Int32)), .unset] [])) (fun tq kt => ?_) ?_
                              · show Steps p.tables e below (T488.setTop (mkF m 297 #[.val (.int p0), .val (.int p1), .val (.int p2), .val (.int p3), .val (.int p4), .val (.int (Int32.ofNat N)), .val (.ref b390), .val (.ref b392), .val (.int k426_0), .val (.int (Int32.ofNat mn)), .val (.int (Int32.ofNat (mn + 1))), .val (.int (f2 (Int32.ofNat (mn + 1)) (Int32.ofNat N))), .unset, .unset] [(.int (fE1 (p2 + (f1 (p3 &&& (3 : Int32)))) y399_b390_1 y408_b390_2 y417_b390_3 (S0.set mn k426_0) (mn + 1)))])) _
                                refine XS.ifYes X488.here hx rfl (pc0 := 297) (pc' := 306) rfl (hb hby at_297) rfl (XT.i0_eq_t hc489) (by decide) (by decide) ?_
                                show Steps p.tables e below (T488.setTop (mkF m 306 #[.val (.int p0), .val (.int p1), .val (.int p2), .val (.int p3), .val (.int p4), .val (.int (Int32.ofNat N)), .val (.ref b390), .val (.ref b392), .val (.int k426_0), .val (.int (Int32.ofNat mn)), .val (.int (Int32.ofNat (mn + 1))), .val (.int (f2 (Int32.ofNat (mn + 1)) (Int32.ofNat N))), .unset, .unset] [])) _
                                refine XS.iconst X488.here hx rfl (hb hby at_306) ?_
                                show Steps p.tables e below (T488.setTop (mkF m 307 #[.val (.int p0), .val (.int p1), .val (.int p2), .val (.int p3), .val (.int p4), .val (.int (Int32.ofNat N)), .val (.ref b390), .val (.ref b392), .val (.int k426_0), .val (.int (Int32.ofNat mn)), .val (.int (Int32.ofNat (mn + 1))), .val (.int (f2 (Int32.ofNat (mn + 1)) (Int32.ofNat N))), .unset, .unset] [(.int (0 : Int32))])) _
                                refine XS.istore X488.here hx rfl (hb hby at_307) rfl (l' := #[.val (.int p0), .val (.int p1), .val (.int p2), .val (.int p3), .val (.int p4), .val (.int (Int32.ofNat N)), .val (.ref b390), .val (.ref b392), .val (.int k426_0), .val (.int (Int32.ofNat mn)), .val (.int (Int32.ofNat (mn + 1))), .val (.int (f2 (Int32.ofNat (mn + 1)) (Int32.ofNat N))), .val (.int (0 : Int32)), .unset]) rfl ?_
                                exact kt
                              exact J472 _ _ _ (X488.more (by decide) (by decide)) e488 N488 (0 : Int32) ((if_pos hc473).trans ((if_neg hc474).trans ((if_pos hc485).trans ((if_pos hc486).trans ((if_neg hc487).trans (if_pos hc489)))))).symm Z0_469 V420_470 V468
                            · refine Got.step (T' := T488) (g' := (mkF m 309 #[.val (.int p0), .val (.int p1), .val (.int p2), .val (.int p3), .val (.int p4), .val (.int (Int32.ofNat N)), .val (.ref b390), .val (.ref b392), .val (.int k426_0), .val (.int (Int32.ofNat mn)), .val (.int (Int32.ofNat (mn + 1))), .val (.int (f2 (Int32.ofNat (mn + 1)) (Int32.ofNat N))), .val (.int (1 : Int32)), .unset] [])) (fun tq kt => ?_) ?_
                              · show Steps p.tables e below (T488.setTop (mkF m 297 #[.val (.int p0), .val (.int p1), .val (.int p2), .val (.int p3), .val (.int p4), .val (.int (Int32.ofNat N)), .val (.ref b390), .val (.ref b392), .val (.int k426_0), .val (.int (Int32.ofNat mn)), .val (.int (Int32.ofNat (mn + 1))), .val (.int (f2 (Int32.ofNat (mn + 1)) (Int32.ofNat N))), .unset, .unset] [(.int (fE1 (p2 + (f1 (p3 &&& (3 : Int32)))) y399_b390_1 y408_b390_2 y417_b390_3 (S0.set mn k426_0) (mn + 1)))])) _
                                refine XS.ifNo X488.here hx rfl (hb hby at_297) rfl (XT.i0_eq_f hc489) ?_
                                show Steps p.tables e below (T488.setTop (mkF m 300 #[.val (.int p0), .val (.int p1), .val (.int p2), .val (.int p3), .val (.int p4), .val (.int (Int32.ofNat N)), .val (.ref b390), .val (.ref b392), .val (.int k426_0), .val (.int (Int32.ofNat mn)), .val (.int (Int32.ofNat (mn + 1))), .val (.int (f2 (Int32.ofNat (mn + 1)) (Int32.ofNat N))), .unset, .unset] [])) _
                                refine XS.iconst X488.here hx rfl (hb hby at_300) ?_
                                show Steps p.tables e below (T488.setTop (mkF m 301 #[.val (.int p0), .val (.int p1), .val (.int p2), .val (.int p3), .val (.int p4), .val (.int (Int32.ofNat N)), .val (.ref b390), .val (.ref b392), .val (.int k426_0), .val (.int (Int32.ofNat mn)), .val (.int (Int32.ofNat (mn + 1))), .val (.int (f2 (Int32.ofNat (mn + 1)) (Int32.ofNat N))), .unset, .unset] [(.int (1 : Int32))])) _
                                refine XS.istore X488.here hx rfl (hb hby at_301) rfl (l' := #[.val (.int p0), .val (.int p1), .val (.int p2), .val (.int p3), .val (.int p4), .val (.int (Int32.ofNat N)), .val (.ref b390), .val (.ref b392), .val (.int k426_0), .val (.int (Int32.ofNat mn)), .val (.int (Int32.ofNat (mn + 1))), .val (.int (f2 (Int32.ofNat (mn + 1)) (Int32.ofNat N))), .val (.int (1 : Int32)), .unset]) rfl ?_
                                show Steps p.tables e below (T488.setTop (mkF m 303 #[.val (.int p0), .val (.int p1), .val (.int p2), .val (.int p3), .val (.int p4), .val (.int (Int32.ofNat N)), .val (.ref b390), .val (.ref b392), .val (.int k426_0), .val (.int (Int32.ofNat mn)), .val (.int (Int32.ofNat (mn + 1))), .val (.int (f2 (Int32.ofNat (mn + 1)) (Int32.ofNat N))), .val (.int (1 : Int32)), .unset] [])) _
                                refine XS.goto X488.here hx rfl (pc0 := 303) (pc' := 309) rfl (hb hby at_303) (by decide) (by decide) ?_
                                exact kt
                              exact J472 _ _ _ (X488.more (by decide) (by decide)) e488 N488 (1 : Int32) ((if_pos hc473).trans ((if_neg hc474).trans ((if_pos hc485).trans ((if_pos hc486).trans ((if_neg hc487).trans (if_neg hc489)))))).symm Z0_469 V420_470 V468
                        · refine Got.step (T' := T484) (g' := (mkF m 269 #[.val (.int p0), .val (.int p1), .val (.int p2), .val (.int p3), .val (.int p4), .val (.int (Int32.ofNat N)), .val (.ref b390), .val (.ref b392), .val (.int k426_0), .val (.int (Int32.ofNat mn)), .val (.int (Int32.ofNat (mn + 1))), .val (.int (f2 (Int32.ofNat (mn + 1)) (Int32.ofNat N))), .unset, .unset] [(.int (2 : Int32)), (.int (Int32.ofNat (mn + 1))), (.ref b392), (.ref b390)])) (fun tq kt => ?_) ?_
                          · show Steps p.tables e below (T484.setTop (mkF m 259 #[.val (.int p0), .val (.int p1), .val (.int p2), .val (.int p3), .val (.int p4), .val (.int (Int32.ofNat N)), .val (.ref b390), .val (.ref b392), .val (.int k426_0), .val (.int (Int32.ofNat mn)), .val (.int (Int32.ofNat (mn + 1))), .val (.int (f2 (Int32.ofNat (mn + 1)) (Int32.ofNat N))), .unset, .unset] [(.int (2 : Int32)), (.int (f2 (Int32.ofNat (mn + 1)) (Int32.ofNat N)))])) _
                            refine XS.icmpNo X484.here hx rfl (hb hby at_259) rfl (XT.ii_lt_f hc486) ?_
                            show Steps p.tables e below (T484.setTop (mkF m 262 #[.val (.int p0), .val (.int p1), .val (.int p2), .val (.int p3), .val (.int p4), .val (.int (Int32.ofNat N)), .val (.ref b390), .val (.ref b392), .val (.int k426_0), .val (.int (Int32.ofNat mn)), .val (.int (Int32.ofNat (mn + 1))), .val (.int (f2 (Int32.ofNat (mn + 1)) (Int32.ofNat N))), .unset, .unset] [])) _
                            refine XS.aload X484.here hx rfl (hb hby at_262) rfl rfl ?_
                            show Steps p.tables e below (T484.setTop (mkF m 264 #[.val (.int p0), .val (.int p1), .val (.int p2), .val (.int p3), .val (.int p4), .val (.int (Int32.ofNat N)), .val (.ref b390), .val (.ref b392), .val (.int k426_0), .val (.int (Int32.ofNat mn)), .val (.int (Int32.ofNat (mn + 1))), .val (.int (f2 (Int32.ofNat (mn + 1)) (Int32.ofNat N))), .unset, .unset] [(.ref b390)])) _
                            refine XS.aload X484.here hx rfl (hb hby at_264) rfl rfl ?_
                            show Steps p.tables e below (T484.setTop (mkF m 266 #[.val (.int p0), .val (.int p1), .val (.int p2), .val (.int p3), .val (.int p4), .val (.int (Int32.ofNat N)), .val (.ref b390), .val (.ref b392), .val (.int k426_0), .val (.int (Int32.ofNat mn)), .val (.int (Int32.ofNat (mn + 1))), .val (.int (f2 (Int32.ofNat (mn + 1)) (Int32.ofNat N))), .unset, .unset] [(.ref b392), (.ref b390)])) _
                            refine XS.iload X484.here hx rfl (hb hby at_266) rfl ?_
                            show Steps p.tables e below (T484.setTop (mkF m 268 #[.val (.int p0), .val (.int p1), .val (.int p2), .val (.int p3), .val (.int p4), .val (.int (Int32.ofNat N)), .val (.ref b390), .val (.ref b392), .val (.int k426_0), .val (.int (Int32.ofNat mn)), .val (.int (Int32.ofNat (mn + 1))), .val (.int (f2 (Int32.ofNat (mn + 1)) (Int32.ofNat N))), .unset, .unset] [(.int (Int32.ofNat (mn + 1))), (.ref b392), (.ref b390)])) _
                            refine XS.iconst X484.here hx rfl (hb hby at_268) ?_
                            exact kt
                          obtain ⟨_, _, ⟨T490, L490, k490, n490⟩, -, X490, ⟨Lc490, hQ490, l490, y490, z490⟩, st490⟩ := Jvm.LawKit.callS X484 hx (y := (⟨"com/example/sidestep/sidestep/CompiledPatternAdvancePinLaw", "ends", "([I[III)Z"⟩ : MethodName)) hown (mvT hZ (hw _ (List.mem_of_getElem? (i := 10) rfl))) (mvT hZ (hw _ (List.mem_of_getElem? (i := 11) rfl))) (mvT hZ (hw _ (List.mem_of_getElem? (i := 3) rfl))) (mvT hZ (hw _ (List.mem_of_getElem? (i := 12) rfl))) (by decide) (backOf (W := 0) (rmE2 l Z a0 hw [] b390 b392 (mn + 1) (p2 + (f1 (p3 &&& (3 : Int32)))) y399_b390_1 y408_b390_2 y417_b390_3 (S0.set mn k426_0) k390 k392 N h468 n0 Z0_469 V420_470 V468 (own_q2 hN hmn hc486).1 (own_q2 hN hmn hc486).2) hZ (hw _ (List.mem_of_getElem? (i := 12) rfl)) (hw _ (List.mem_of_getElem? (i := 3) rfl)) (by decide) (by decide)) (g := (mkF m 269 #[.val (.int p0), .val (.int p1), .val (.int p2), .val (.int p3), .val (.int p4), .val (.int (Int32.ofNat N)), .val (.ref b390), .val (.ref b392), .val (.int k426_0), .val (.int (Int32.ofNat mn)), .val (.int (Int32.ofNat (mn + 1))), .val (.int (f2 (Int32.ofNat (mn + 1)) (Int32.ofNat N))), .unset, .unset] [(.int (2 : Int32)), (.int (Int32.ofNat (mn + 1))), (.ref b392), (.ref b390)])) rfl (by rw [hml]; rfl) (argsL := [(.ref b390), (.ref b392), (.int (Int32.ofNat (mn + 1))), (.int (2 : Int32))]) (rest := []) (lenOf pd_3 rfl) rfl (by show 2 * 0 + _ ≤ _; exact Nat.le_of_eq rfl) (hb hby at_269) (fun _ _ => ⟨rfl, e484, (by decide : 2 + 0 ≤ _), (by decide : 9 + 0 ≤ _)⟩)
                          dsimp only [Pt.U, Pt.locs, Pt.cells, Pt.slots] at X490 l490 y490 z490 st490 hQ490
                          subst y490 z490
                          obtain ⟨rfl, Nq490, e490⟩ := hQ490
                          have N490 : Fr n0 L490 := by rw [l490]; exact Fr.app N484 Nq490
                          refine Got.step st490 ?_
                          show Got p e below s _ _ _ _ T490 (mkF m 272 #[.val (.int p0), .val (.int p1), .val (.int p2), .val (.int p3), .val (.int p4), .val (.int (Int32.ofNat N)), .val (.ref b390), .val (.ref b392), .val (.int k426_0), .val (.int (Int32.ofNat mn)), .val (.int (Int32.ofNat (mn + 1))), .val (.int (f2 (Int32.ofNat (mn + 1)) (Int32.ofNat N))), .unset, .unset] [(.int (fE2 (p2 + (f1 (p3 &&& (3 : Int32)))) y399_b390_1 y408_b390_2 y417_b390_3 (S0.set mn k426_0) (mn + 1)))])
                          by_cases hc491 : ((fE2 (p2 + (f1 (p3 &&& (3 : Int32)))) y399_b390_1 y408_b390_2 y417_b390_3 (S0.set mn k426_0) (mn + 1)) = 0)
                          · refine Got.step (T' := T490) (g' := (mkF m 284 #[.val (.int p0), .val (.int p1), .val (.int p2), .val (.int p3), .val (.int p4), .val (.int (Int32.ofNat N)), .val (.ref b390), .val (.ref b392), .val (.int k426_0), .val (.int (Int32.ofNat mn)), .val (.int (Int32.ofNat (mn + 1))), .val (.int (f2 (Int32.ofNat (mn + 1)) (Int32.ofNat N))), .unset, .unset] [(.int (1 : Int32)), (.int (f2 (Int32.ofNat (mn + 1)) (Int32.ofNat N)))])) (fun tq kt => ?_) ?_
                            · show Steps p.tables e below (T490.setTop (mkF m 272 #[.val (.int p0), .val (.int p1), .val (.int p2), .val (.int p3), .val (.int p4), .val (.int (Int32.ofNat N)), .val (.ref b390), .val (.ref b392), .val (.int k426_0), .val (.int (Int32.ofNat mn)), .val (.int (Int32.ofNat (mn + 1))), .val (.int (f2 (Int32.ofNat (mn + 1)) (Int32.ofNat N))), .unset, .unset] [(.int (fE2 (p2 + (f1 (p3 &&& (3 : Int32)))) y399_b390_1 y408_b390_2 y417_b390_3 (S0.set mn k426_0) (mn + 1)))])) _
                              refine XS.ifYes X490.here hx rfl (pc0 := 272) (pc' := 281) rfl (hb hby at_272) rfl (XT.i0_eq_t hc491) (by decide) (by decide) ?_
                              show Steps p.tables e below (T490.setTop (mkF m 281 #[.val (.int p0), .val (.int p1), .val (.int p2), .val (.int p3), .val (.int p4), .val (.int (Int32.ofNat N)), .val (.ref b390), .val (.ref b392), .val (.int k426_0), .val (.int (Int32.ofNat mn)), .val (.int (Int32.ofNat (mn + 1))), .val (.int (f2 (Int32.ofNat (mn + 1)) (Int32.ofNat N))), .unset, .unset] [])) _
                              refine XS.iload X490.here hx rfl (hb hby at_281) rfl ?_
                              show Steps p.tables e below (T490.setTop (mkF m 283 #[.val (.int p0), .val (.int p1), .val (.int p2), .val (.int p3), .val (.int p4), .val (.int (Int32.ofNat N)), .val (.ref b390), .val (.ref b392), .val (.int k426_0), .val (.int (Int32.ofNat mn)), .val (.int (Int32.ofNat (mn + 1))), .val (.int (f2 (Int32.ofNat (mn + 1)) (Int32.ofNat N))), .unset, .unset] [(.int (f2 (Int32.ofNat (mn + 1)) (Int32.ofNat N)))])) _
                              refine XS.iconst X490.here hx rfl (hb hby at_283) ?_
                              exact kt
                            by_cases hc492 : ((f2 (Int32.ofNat (mn + 1)) (Int32.ofNat N)) < (1 : Int32))
                            · refine Got.step (T' := T490) (g' := (mkF m 309 #[.val (.int p0), .val (.int p1), .val (.int p2), .val (.int p3), .val (.int p4), .val (.int (Int32.ofNat N)), .val (.ref b390), .val (.ref b392), .val (.int k426_0), .val (.int (Int32.ofNat mn)), .val (.int (Int32.ofNat (mn + 1))), .val (.int (f2 (Int32.ofNat (mn + 1)) (Int32.ofNat N))), .val (.int (0 : Int32)), .unset] [])) (fun tq kt => ?_) ?_
                              · show Steps p.tables e below (T490.setTop (mkF m 284 #[.val (.int p0), .val (.int p1), .val (.int p2), .val (.int p3), .val (.int p4), .val (.int (Int32.ofNat N)), .val (.ref b390), .val (.ref b392), .val (.int k426_0), .val (.int (Int32.ofNat mn)), .val (.int (Int32.ofNat (mn + 1))), .val (.int (f2 (Int32.ofNat (mn + 1)) (Int32.ofNat N))), .unset, .unset] [(.int (1 : Int32)), (.int (f2 (Int32.ofNat (mn + 1)) (Int32.ofNat N)))])) _
                                refine XS.icmpYes X490.here hx rfl (pc0 := 284) (pc' := 306) rfl (hb hby at_284) rfl (XT.ii_lt_t hc492) (by decide) (by decide) ?_
                                show Steps p.tables e below (T490.setTop (mkF m 306 #[.val (.int p0), .val (.int p1), .val (.int p2), .val (.int p3), .val (.int p4), .val (.int (Int32.ofNat N)), .val (.ref b390), .val (.ref b392), .val (.int k426_0), .val (.int (Int32.ofNat mn)), .val (.int (Int32.ofNat (mn + 1))), .val (.int (f2 (Int32.ofNat (mn + 1)) (Int32.ofNat N))), .unset, .unset] [])) _
                                refine XS.iconst X490.here hx rfl (hb hby at_306) ?_
                                show Steps p.tables e below (T490.setTop (mkF m 307 #[.val (.int p0), .val (.int p1), .val (.int p2), .val (.int p3), .val (.int p4), .val (.int (Int32.ofNat N)), .val (.ref b390), .val (.ref b392), .val (.int k426_0), .val (.int (Int32.ofNat mn)), .val (.int (Int32.ofNat (mn + 1))), .val (.int (f2 (Int32.ofNat (mn + 1)) (Int32.ofNat N))), .unset, .unset] [(.int (0 : Int32))])) _
                                refine XS.istore X490.here hx rfl (hb hby at_307) rfl (l' := #[.val (.int p0), .val (.int p1), .val (.int p2), .val (.int p3), .val (.int p4), .val (.int (Int32.ofNat N)), .val (.ref b390), .val (.ref b392), .val (.int k426_0), .val (.int (Int32.ofNat mn)), .val (.int (Int32.ofNat (mn + 1))), .val (.int (f2 (Int32.ofNat (mn + 1)) (Int32.ofNat N))), .val (.int (0 : Int32)), .unset]) rfl ?_
                                exact kt
                              exact J472 _ _ _ (X490.more (by decide) (by decide)) e490 N490 (0 : Int32) ((if_pos hc473).trans ((if_neg hc474).trans ((if_pos hc485).trans ((if_neg hc486).trans ((if_pos hc491).trans (if_pos hc492)))))).symm Z0_469 V420_470 V468
                            · refine Got.step (T' := T490) (g' := (mkF m 294 #[.val (.int p0), .val (.int p1), .val (.int p2), .val (.int p3), .val (.int p4), .val (.int (Int32.ofNat N)), .val (.ref b390), .val (.ref b392), .val (.int k426_0), .val (.int (Int32.ofNat mn)), .val (.int (Int32.ofNat (mn + 1))), .val (.int (f2 (Int32.ofNat (mn + 1)) (Int32.ofNat N))), .unset, .unset] [(.int (1 : Int32)), (.int (Int32.ofNat (mn + 1))), (.ref b392), (.ref b390)])) (fun tq kt => ?_) ?_
                              · show Steps p.tables e below (T490.setTop (mkF m 284 #[.val (.int p0), .val (.int p1), .val (.int p2), .val (.int p3), .val (.int p4), .val (.int (Int32.ofNat N)), .val (.ref b390), .val (.ref b392), .val (.int k426_0), .val (.int (Int32.ofNat mn)), .val (.int (Int32.ofNat (mn + 1))), .val (.int (f2 (Int32.ofNat (mn + 1)) (Int32.ofNat N))), .unset, .unset] [(.int (1 : Int32)), (.int (f2 (Int32.ofNat (mn + 1)) (Int32.ofNat N)))])) _
                                refine XS.icmpNo X490.here hx rfl (hb hby at_284) rfl (XT.ii_lt_f hc492) ?_
                                show Steps p.tables e below (T490.setTop (mkF m 287 #[.val (.int p0), .val (.int p1), .val (.int p2), .val (.int p3), .val (.int p4), .val (.int (Int32.ofNat N)), .val (.ref b390), .val (.ref b392), .val (.int k426_0), .val (.int (Int32.ofNat mn)), .val (.int (Int32.ofNat (mn + 1))), .val (.int (f2 (Int32.ofNat (mn + 1)) (Int32.ofNat N))), .unset, .unset] [])) _
                                refine XS.aload X490.here hx rfl (hb hby at_287) rfl rfl ?_
                                show Steps p.tables e below (T490.setTop (mkF m 289 #[.val (.int p0), .val (.int p1), .val (.int p2), .val (.int p3), .val (.int p4), .val (.int (Int32.ofNat N)), .val (.ref b390), .val (.ref b392), .val (.int k426_0), .val (.int (Int32.ofNat mn)), .val (.int (Int32.ofNat (mn + 1))), .val (.int (f2 (Int32.ofNat (mn + 1)) (Int32.ofNat N))), .unset, .unset] [(.ref b390)])) _
                                refine XS.aload X490.here hx rfl (hb hby at_289) rfl rfl ?_
                                show Steps p.tables e below (T490.setTop (mkF m 291 #[.val (.int p0), .val (.int p1), .val (.int p2), .val (.int p3), .val (.int p4), .val (.int (Int32.ofNat N)), .val (.ref b390), .val (.ref b392), .val (.int k426_0), .val (.int (Int32.ofNat mn)), .val (.int (Int32.ofNat (mn + 1))), .val (.int (f2 (Int32.ofNat (mn + 1)) (Int32.ofNat N))), .unset, .unset] [(.ref b392), (.ref b390)])) _
                                refine XS.iload X490.here hx rfl (hb hby at_291) rfl ?_
                                show Steps p.tables e below (T490.setTop (mkF m 293 #[.val (.int p0), .val (.int p1), .val (.int p2), .val (.int p3), .val (.int p4), .val (.int (Int32.ofNat N)), .val (.ref b390), .val (.ref b392), .val (.int k426_0), .val (.int (Int32.ofNat mn)), .val (.int (Int32.ofNat (mn + 1))), .val (.int (f2 (Int32.ofNat (mn + 1)) (Int32.ofNat N))), .unset, .unset] [(.int (Int32.ofNat (mn + 1))), (.ref b392), (.ref b390)])) _
                                refine XS.iconst X490.here hx rfl (hb hby at_293) ?_
                                exact kt
                              obtain ⟨_, _, ⟨T493, L493, k493, n493⟩, -, X493, ⟨Lc493, hQ493, l493, y493, z493⟩, st493⟩ := Jvm.LawKit.callS X490 hx (y := (⟨"com/example/sidestep/sidestep/CompiledPatternAdvancePinLaw", "ends", "([I[III)Z"⟩ : MethodName)) hown (mvT hZ (hw _ (List.mem_of_getElem? (i := 10) rfl))) (mvT hZ (hw _ (List.mem_of_getElem? (i := 11) rfl))) (mvT hZ (hw _ (List.mem_of_getElem? (i := 3) rfl))) (mvT hZ (hw _ (List.mem_of_getElem? (i := 12) rfl))) (by decide) (backOf (W := 0) (rmE1 l Z a0 hw [] b390 b392 (mn + 1) (p2 + (f1 (p3 &&& (3 : Int32)))) y399_b390_1 y408_b390_2 y417_b390_3 (S0.set mn k426_0) k390 k392 N h468 n0 Z0_469 V420_470 V468 (own_q1 hN hmn hc492).1 (own_q1 hN hmn hc492).2) hZ (hw _ (List.mem_of_getElem? (i := 12) rfl)) (hw _ (List.mem_of_getElem? (i := 3) rfl)) (by decide) (by decide)) (g := (mkF m 294 #[.val (.int p0), .val (.int p1), .val (.int p2), .val (.int p3), .val (.int p4), .val (.int (Int32.ofNat N)), .val (.ref b390), .val (.ref b392), .val (.int k426_0), .val (.int (Int32.ofNat mn)), .val (.int (Int32.ofNat (mn + 1))), .val (.int (f2 (Int32.ofNat (mn + 1)) (Int32.ofNat N))), .unset, .unset] [(.int (1 : Int32)), (.int (Int32.ofNat (mn + 1))), (.ref b392), (.ref b390)])) rfl (by rw [hml]; rfl) (argsL := [(.ref b390), (.ref b392), (.int (Int32.ofNat (mn + 1))), (.int (1 : Int32))]) (rest := []) (lenOf pd_3 rfl) rfl (by show 2 * 0 + _ ≤ _; exact Nat.le_of_eq rfl) (hb hby at_294) (fun _ _ => ⟨rfl, e490, (by decide : 2 + 0 ≤ _), (by decide : 9 + 0 ≤ _)⟩)
                              dsimp only [Pt.U, Pt.locs, Pt.cells, Pt.slots] at X493 l493 y493 z493 st493 hQ493
                              subst y493 z493
                              obtain ⟨rfl, Nq493, e493⟩ := hQ493
                              have N493 : Fr n0 L493 := by rw [l493]; exact Fr.app N490 Nq493
                              refine Got.step st493 ?_
                              show Got p e below s _ _ _ _ T493 (mkF m 297 #[.val (.int p0), .val (.int p1), .val (.int p2), .val (.int p3), .val (.int p4), .val (.int (Int32.ofNat N)), .val (.ref b390), .val (.ref b392), .val (.int k426_0), .val (.int (Int32.ofNat mn)), .val (.int (Int32.ofNat (mn + 1))), .val (.int (f2 (Int32.ofNat (mn + 1)) (Int32.ofNat N))), .unset, .unset] [(.int (fE1 (p2 + (f1 (p3 &&& (3 : Int32)))) y399_b390_1 y408_b390_2 y417_b390_3 (S0.set mn k426_0) (mn + 1)))])
                              by_cases hc494 : ((fE1 (p2 + (f1 (p3 &&& (3 : Int32)))) y399_b390_1 y408_b390_2 y417_b390_3 (S0.set mn k426_0) (mn + 1)) = 0)
                              · refine Got.step (T' := T493) (g' := (mkF m 309 #[.val (.int p0), .val (.int p1), .val (.int p2), .val (.int p3), .val (.int p4), .val (.int (Int32.ofNat N)), .val (.ref b390), .val (.ref b392), .val (.int k426_0), .val (.int (Int32.ofNat mn)), .val (.int (Int32.ofNat (mn + 1))), .val (.int (f2 (Int32.ofNat (mn + 1)) (Int32.ofNat N))), .val (.int (0 : Int32)), .unset] [])) (fun tq kt => ?_) ?_
                                · show Steps p.tables e below (T493.setTop (mkF m 297 #[.val (.int p0), .val (.int p1), .val (.int p2), .val (.int p3), .val (.int p4), .val (.int (Int32.ofNat N)), .val (.ref b390), .val (.ref b392), .val (.int k426_0), .val (.int (Int32.ofNat mn)), .val (.int (Int32.ofNat (mn + 1))), .val (.int (f2 (Int32.ofNat (mn + 1)) (Int32.ofNat N))), .unset, .unset] [(.int (fE1 (p2 + (f1 (p3 &&& (3 : Int32)))) y399_b390_1 y408_b390_2 y417_b390_3 (S0.set mn k426_0) (mn + 1)))])) _
                                  refine XS.ifYes X493.here hx rfl (pc0 := 297) (pc' := 306) rfl (hb hby at_297) rfl (XT.i0_eq_t hc494) (by decide) (by decide) ?_
                                  show Steps p.tables e below (T493.setTop (mkF m 306 #[.val (.int p0), .val (.int p1), .val (.int p2), .val (.int p3), .val (.int p4), .val (.int (Int32.ofNat N)), .val (.ref b390), .val (.ref b392), .val (.int k426_0), .val (.int (Int32.ofNat mn)), .val (.int (Int32.ofNat (mn + 1))), .val (.int (f2 (Int32.ofNat (mn + 1)) (Int32.ofNat N))), .unset, .unset] [])) _
                                  refine XS.iconst X493.here hx rfl (hb hby at_306) ?_
                                  show Steps p.tables e below (T493.setTop (mkF m 307 #[.val (.int p0), .val (.int p1), .val (.int p2), .val (.int p3), .val (.int p4), .val (.int (Int32.ofNat N)), .val (.ref b390), .val (.ref b392), .val (.int k426_0), .val (.int (Int32.ofNat mn)), .val (.int (Int32.ofNat (mn + 1))), .val (.int (f2 (Int32.ofNat (mn + 1)) (Int32.ofNat N))), .unset, .unset] [(.int (0 : Int32))])) _
                                  refine XS.istore X493.here hx rfl (hb hby at_307) rfl (l' := #[.val (.int p0), .val (.int p1), .val (.int p2), .val (.int p3), .val (.int p4), .val (.int (Int32.ofNat N)), .val (.ref b390), .val (.ref b392), .val (.int k426_0), .val (.int (Int32.ofNat mn)), .val (.int (Int32.ofNat (mn + 1))), .val (.int (f2 (Int32.ofNat (mn + 1)) (Int32.ofNat N))), .val (.int (0 : Int32)), .unset]) rfl ?_
                                  exact kt
                                exact J472 _ _ _ (X493.more (by decide) (by decide)) e493 N493 (0 : Int32) ((if_pos hc473).trans ((if_neg hc474).trans ((if_pos hc485).trans ((if_neg hc486).trans ((if_pos hc491).trans ((if_neg hc492).trans (if_pos hc494))))))).symm Z0_469 V420_470 V468
                              · refine Got.step (T' := T493) (g' := (mkF m 309 #[.val (.int p0), .val (.int p1), .val (.int p2), .val (.int p3), .val (.int p4), .val (.int (Int32.ofNat N)), .val (.ref b390), .val (.ref b392), .val (.int k426_0), .val (.int (Int32.ofNat mn)), .val (.int (Int32.ofNat (mn + 1))), .val (.int (f2 (Int32.ofNat (mn + 1)) (Int32.ofNat N))), .val (.int (1 : Int32)), .unset] [])) (fun tq kt => ?_) ?_
                                · show Steps p.tables e below (T493.setTop (mkF m 297 #[.val (.int p0), .val (.int p1), .val (.int p2), .val (.int p3), .val (.int p4), .val (.int (Int32.ofNat N)), .val (.ref b390), .val (.ref b392), .val (.int k426_0), .val (.int (Int32.ofNat mn)), .val (.int (Int32.ofNat (mn + 1))), .val (.int (f2 (Int32.ofNat (mn + 1)) (Int32.ofNat N))), .unset, .unset] [(.int (fE1 (p2 + (f1 (p3 &&& (3 : Int32)))) y399_b390_1 y408_b390_2 y417_b390_3 (S0.set mn k426_0) (mn + 1)))])) _
                                  refine XS.ifNo X493.here hx rfl (hb hby at_297) rfl (XT.i0_eq_f hc494) ?_
                                  show Steps p.tables e below (T493.setTop (mkF m 300 #[.val (.int p0), .val (.int p1), .val (.int p2), .val (.int p3), .val (.int p4), .val (.int (Int32.ofNat N)), .val (.ref b390), .val (.ref b392), .val (.int k426_0), .val (.int (Int32.ofNat mn)), .val (.int (Int32.ofNat (mn + 1))), .val (.int (f2 (Int32.ofNat (mn + 1)) (Int32.ofNat N))), .unset, .unset] [])) _
                                  refine XS.iconst X493.here hx rfl (hb hby at_300) ?_
                                  show Steps p.tables e below (T493.setTop (mkF m 301 #[.val (.int p0), .val (.int p1), .val (.int p2), .val (.int p3), .val (.int p4), .val (.int (Int32.ofNat N)), .val (.ref b390), .val (.ref b392), .val (.int k426_0), .val (.int (Int32.ofNat mn)), .val (.int (Int32.ofNat (mn + 1))), .val (.int (f2 (Int32.ofNat (mn + 1)) (Int32.ofNat N))), .unset, .unset] [(.int (1 : Int32))])) _
                                  refine XS.istore X493.here hx rfl (hb hby at_301) rfl (l' := #[.val (.int p0), .val (.int p1), .val (.int p2), .val (.int p3), .val (.int p4), .val (.int (Int32.ofNat N)), .val (.ref b390), .val (.ref b392), .val (.int k426_0), .val (.int (Int32.ofNat mn)), .val (.int (Int32.ofNat (mn + 1))), .val (.int (f2 (Int32.ofNat (mn + 1)) (Int32.ofNat N))), .val (.int (1 : Int32)), .unset]) rfl ?_
                                  show Steps p.tables e below (T493.setTop (mkF m 303 #[.val (.int p0), .val (.int p1), .val (.int p2), .val (.int p3), .val (.int p4), .val (.int (Int32.ofNat N)), .val (.ref b390), .val (.ref b392), .val (.int k426_0), .val (.int (Int32.ofNat mn)), .val (.int (Int32.ofNat (mn + 1))), .val (.int (f2 (Int32.ofNat (mn + 1)) (Int32.ofNat N))), .val (.int (1 : Int32)), .unset] [])) _
                                  refine XS.goto X493.here hx rfl (pc0 := 303) (pc' := 309) rfl (hb hby at_303) (by decide) (by decide) ?_
                                  exact kt
                                exact J472 _ _ _ (X493.more (by decide) (by decide)) e493 N493 (1 : Int32) ((if_pos hc473).trans ((if_neg hc474).trans ((if_pos hc485).trans ((if_neg hc486).trans ((if_pos hc491).trans ((if_neg hc492).trans (if_neg hc494))))))).symm Z0_469 V420_470 V468
                          · refine Got.step (T' := T490) (g' := (mkF m 309 #[.val (.int p0), .val (.int p1), .val (.int p2), .val (.int p3), .val (.int p4), .val (.int (Int32.ofNat N)), .val (.ref b390), .val (.ref b392), .val (.int k426_0), .val (.int (Int32.ofNat mn)), .val (.int (Int32.ofNat (mn + 1))), .val (.int (f2 (Int32.ofNat (mn + 1)) (Int32.ofNat N))), .val (.int (2 : Int32)), .unset] [])) (fun tq kt => ?_) ?_
                            · show Steps p.tables e below (T490.setTop (mkF m 272 #[.val (.int p0), .val (.int p1), .val (.int p2), .val (.int p3), .val (.int p4), .val (.int (Int32.ofNat N)), .val (.ref b390), .val (.ref b392), .val (.int k426_0), .val (.int (Int32.ofNat mn)), .val (.int (Int32.ofNat (mn + 1))), .val (.int (f2 (Int32.ofNat (mn + 1)) (Int32.ofNat N))), .unset, .unset] [(.int (fE2 (p2 + (f1 (p3 &&& (3 : Int32)))) y399_b390_1 y408_b390_2 y417_b390_3 (S0.set mn k426_0) (mn + 1)))])) _
                              refine XS.ifNo X490.here hx rfl (hb hby at_272) rfl (XT.i0_eq_f hc491) ?_
                              show Steps p.tables e below (T490.setTop (mkF m 275 #[.val (.int p0), .val (.int p1), .val (.int p2), .val (.int p3), .val (.int p4), .val (.int (Int32.ofNat N)), .val (.ref b390), .val (.ref b392), .val (.int k426_0), .val (.int (Int32.ofNat mn)), .val (.int (Int32.ofNat (mn + 1))), .val (.int (f2 (Int32.ofNat (mn + 1)) (Int32.ofNat N))), .unset, .unset] [])) _
                              refine XS.iconst X490.here hx rfl (hb hby at_275) ?_
                              show Steps p.tables e below (T490.setTop (mkF m 276 #[.val (.int p0), .val (.int p1), .val (.int p2), .val (.int p3), .val (.int p4), .val (.int (Int32.ofNat N)), .val (.ref b390), .val (.ref b392), .val (.int k426_0), .val (.int (Int32.ofNat mn)), .val (.int (Int32.ofNat (mn + 1))), .val (.int (f2 (Int32.ofNat (mn + 1)) (Int32.ofNat N))), .unset, .unset] [(.int (2 : Int32))])) _
                              refine XS.istore X490.here hx rfl (hb hby at_276) rfl (l' := #[.val (.int p0), .val (.int p1), .val (.int p2), .val (.int p3), .val (.int p4), .val (.int (Int32.ofNat N)), .val (.ref b390), .val (.ref b392), .val (.int k426_0), .val (.int (Int32.ofNat mn)), .val (.int (Int32.ofNat (mn + 1))), .val (.int (f2 (Int32.ofNat (mn + 1)) (Int32.ofNat N))), .val (.int (2 : Int32)), .unset]) rfl ?_
                              show Steps p.tables e below (T490.setTop (mkF m 278 #[.val (.int p0), .val (.int p1), .val (.int p2), .val (.int p3), .val (.int p4), .val (.int (Int32.ofNat N)), .val (.ref b390), .val (.ref b392), .val (.int k426_0), .val (.int (Int32.ofNat mn)), .val (.int (Int32.ofNat (mn + 1))), .val (.int (f2 (Int32.ofNat (mn + 1)) (Int32.ofNat N))), .val (.int (2 : Int32)), .unset] [])) _
                              refine XS.goto X490.here hx rfl (pc0 := 278) (pc' := 309) rfl (hb hby at_278) (by decide) (by decide) ?_
                              exact kt
                            exact J472 _ _ _ (X490.more (by decide) (by decide)) e490 N490 (2 : Int32) ((if_pos hc473).trans ((if_neg hc474).trans ((if_pos hc485).trans ((if_neg hc486).trans (if_neg hc491))))).symm Z0_469 V420_470 V468
                      · refine Got.step (T' := T484) (g' := (mkF m 309 #[.val (.int p0), .val (.int p1), .val (.int p2), .val (.int p3), .val (.int p4), .val (.int (Int32.ofNat N)), .val (.ref b390), .val (.ref b392), .val (.int k426_0), .val (.int (Int32.ofNat mn)), .val (.int (Int32.ofNat (mn + 1))), .val (.int (f2 (Int32.ofNat (mn + 1)) (Int32.ofNat N))), .val (.int (3 : Int32)), .unset] [])) (fun tq kt => ?_) ?_
                        · show Steps p.tables e below (T484.setTop (mkF m 247 #[.val (.int p0), .val (.int p1), .val (.int p2), .val (.int p3), .val (.int p4), .val (.int (Int32.ofNat N)), .val (.ref b390), .val (.ref b392), .val (.int k426_0), .val (.int (Int32.ofNat mn)), .val (.int (Int32.ofNat (mn + 1))), .val (.int (f2 (Int32.ofNat (mn + 1)) (Int32.ofNat N))), .unset, .unset] [(.int (fE3 (p2 + (f1 (p3 &&& (3 : Int32)))) y399_b390_1 y408_b390_2 y417_b390_3 (S0.set mn k426_0) (mn + 1)))])) _
                          refine XS.ifNo X484.here hx rfl (hb hby at_247) rfl (XT.i0_eq_f hc485) ?_
                          show Steps p.tables e below (T484.setTop (mkF m 250 #[.val (.int p0), .val (.int p1), .val (.int p2), .val (.int p3), .val (.int p4), .val (.int (Int32.ofNat N)), .val (.ref b390), .val (.ref b392), .val (.int k426_0), .val (.int (Int32.ofNat mn)), .val (.int (Int32.ofNat (mn + 1))), .val (.int (f2 (Int32.ofNat (mn + 1)) (Int32.ofNat N))), .unset, .unset] [])) _
                          refine XS.iconst X484.here hx rfl (hb hby at_250) ?_
                          show Steps p.tables e below (T484.setTop (mkF m 251 #[.val (.int p0), .val (.int p1), .val (.int p2), .val (.int p3), .val (.int p4), .val (.int (Int32.ofNat N)), .val (.ref b390), .val (.ref b392), .val (.int k426_0), .val (.int (Int32.ofNat mn)), .val (.int (Int32.ofNat (mn + 1))), .val (.int (f2 (Int32.ofNat (mn + 1)) (Int32.ofNat N))), .unset, .unset] [(.int (3 : Int32))])) _
                          refine XS.istore X484.here hx rfl (hb hby at_251) rfl (l' := #[.val (.int p0), .val (.int p1), .val (.int p2), .val (.int p3), .val (.int p4), .val (.int (Int32.ofNat N)), .val (.ref b390), .val (.ref b392), .val (.int k426_0), .val (.int (Int32.ofNat mn)), .val (.int (Int32.ofNat (mn + 1))), .val (.int (f2 (Int32.ofNat (mn + 1)) (Int32.ofNat N))), .val (.int (3 : Int32)), .unset]) rfl ?_
                          show Steps p.tables e below (T484.setTop (mkF m 253 #[.val (.int p0), .val (.int p1), .val (.int p2), .val (.int p3), .val (.int p4), .val (.int (Int32.ofNat N)), .val (.ref b390), .val (.ref b392), .val (.int k426_0), .val (.int (Int32.ofNat mn)), .val (.int (Int32.ofNat (mn + 1))), .val (.int (f2 (Int32.ofNat (mn + 1)) (Int32.ofNat N))), .val (.int (3 : Int32)), .unset] [])) _
                          refine XS.goto X484.here hx rfl (pc0 := 253) (pc' := 309) rfl (hb hby at_253) (by decide) (by decide) ?_
                          exact kt
                        exact J472 _ _ _ (X484.more (by decide) (by decide)) e484 N484 (3 : Int32) ((if_pos hc473).trans ((if_neg hc474).trans (if_neg hc485))).symm Z0_469 V420_470 V468
                  · refine Got.step (T' := T471) (g' := (mkF m 219 #[.val (.int p0), .val (.int p1), .val (.int p2), .val (.int p3), .val (.int p4), .val (.int (Int32.ofNat N)), .val (.ref b390), .val (.ref b392), .val (.int k426_0), .val (.int (Int32.ofNat mn)), .val (.int (Int32.ofNat (mn + 1))), .val (.int (f2 (Int32.ofNat (mn + 1)) (Int32.ofNat N))), .unset, .unset] [(.int (4 : Int32)), (.int (Int32.ofNat (mn + 1))), (.ref b392), (.ref b390)])) (fun tq kt => ?_) ?_
                    · show Steps p.tables e below (T471.setTop (mkF m 209 #[.val (.int p0), .val (.int p1), .val (.int p2), .val (.int p3), .val (.int p4), .val (.int (Int32.ofNat N)), .val (.ref b390), .val (.ref b392), .val (.int k426_0), .val (.int (Int32.ofNat mn)), .val (.int (Int32.ofNat (mn + 1))), .val (.int (f2 (Int32.ofNat (mn + 1)) (Int32.ofNat N))), .unset, .unset] [(.int (4 : Int32)), (.int (f2 (Int32.ofNat (mn + 1)) (Int32.ofNat N)))])) _
                      refine XS.icmpNo X471.here hx rfl (hb hby at_209) rfl (XT.ii_lt_f hc473) ?_
                      show Steps p.tables e below (T471.setTop (mkF m 212 #[.val (.int p0), .val (.int p1), .val (.int p2), .val (.int p3), .val (.int p4), .val (.int (Int32.ofNat N)), .val (.ref b390), .val (.ref b392), .val (.int k426_0), .val (.int (Int32.ofNat mn)), .val (.int (Int32.ofNat (mn + 1))), .val (.int (f2 (Int32.ofNat (mn + 1)) (Int32.ofNat N))), .unset, .unset] [])) _
                      refine XS.aload X471.here hx rfl (hb hby at_212) rfl rfl ?_
                      show Steps p.tables e below (T471.setTop (mkF m 214 #[.val (.int p0), .val (.int p1), .val (.int p2), .val (.int p3), .val (.int p4), .val (.int (Int32.ofNat N)), .val (.ref b390), .val (.ref b392), .val (.int k426_0), .val (.int (Int32.ofNat mn)), .val (.int (Int32.ofNat (mn + 1))), .val (.int (f2 (Int32.ofNat (mn + 1)) (Int32.ofNat N))), .unset, .unset] [(.ref b390)])) _
                      refine XS.aload X471.here hx rfl (hb hby at_214) rfl rfl ?_
                      show Steps p.tables e below (T471.setTop (mkF m 216 #[.val (.int p0), .val (.int p1), .val (.int p2), .val (.int p3), .val (.int p4), .val (.int (Int32.ofNat N)), .val (.ref b390), .val (.ref b392), .val (.int k426_0), .val (.int (Int32.ofNat mn)), .val (.int (Int32.ofNat (mn + 1))), .val (.int (f2 (Int32.ofNat (mn + 1)) (Int32.ofNat N))), .unset, .unset] [(.ref b392), (.ref b390)])) _
                      refine XS.iload X471.here hx rfl (hb hby at_216) rfl ?_
                      show Steps p.tables e below (T471.setTop (mkF m 218 #[.val (.int p0), .val (.int p1), .val (.int p2), .val (.int p3), .val (.int p4), .val (.int (Int32.ofNat N)), .val (.ref b390), .val (.ref b392), .val (.int k426_0), .val (.int (Int32.ofNat mn)), .val (.int (Int32.ofNat (mn + 1))), .val (.int (f2 (Int32.ofNat (mn + 1)) (Int32.ofNat N))), .unset, .unset] [(.int (Int32.ofNat (mn + 1))), (.ref b392), (.ref b390)])) _
                      refine XS.iconst X471.here hx rfl (hb hby at_218) ?_
                      exact kt
                    obtain ⟨_, _, ⟨T495, L495, k495, n495⟩, -, X495, ⟨Lc495, hQ495, l495, y495, z495⟩, st495⟩ := Jvm.LawKit.callS X471 hx (y := (⟨"com/example/sidestep/sidestep/CompiledPatternAdvancePinLaw", "ends", "([I[III)Z"⟩ : MethodName)) hown (mvT hZ (hw _ (List.mem_of_getElem? (i := 10) rfl))) (mvT hZ (hw _ (List.mem_of_getElem? (i := 11) rfl))) (mvT hZ (hw _ (List.mem_of_getElem? (i := 3) rfl))) (mvT hZ (hw _ (List.mem_of_getElem? (i := 12) rfl))) (by decide) (backOf (W := 0) (rmE4 l Z a0 hw [] b390 b392 (mn + 1) (p2 + (f1 (p3 &&& (3 : Int32)))) y399_b390_1 y408_b390_2 y417_b390_3 (S0.set mn k426_0) k390 k392 N h468 n0 Z0_469 V420_470 V468 (own_q4 hN hmn hc473).1 (own_q4 hN hmn hc473).2) hZ (hw _ (List.mem_of_getElem? (i := 12) rfl)) (hw _ (List.mem_of_getElem? (i := 3) rfl)) (by decide) (by decide)) (g := (mkF m 219 #[.val (.int p0), .val (.int p1), .val (.int p2), .val (.int p3), .val (.int p4), .val (.int (Int32.ofNat N)), .val (.ref b390), .val (.ref b392), .val (.int k426_0), .val (.int (Int32.ofNat mn)), .val (.int (Int32.ofNat (mn + 1))), .val (.int (f2 (Int32.ofNat (mn + 1)) (Int32.ofNat N))), .unset, .unset] [(.int (4 : Int32)), (.int (Int32.ofNat (mn + 1))), (.ref b392), (.ref b390)])) rfl (by rw [hml]; rfl) (argsL := [(.ref b390), (.ref b392), (.int (Int32.ofNat (mn + 1))), (.int (4 : Int32))]) (rest := []) (lenOf pd_3 rfl) rfl (by show 2 * 0 + _ ≤ _; exact Nat.le_of_eq rfl) (hb hby at_219) (fun _ _ => ⟨rfl, e471, (by decide : 2 + 0 ≤ _), (by decide : 9 + 0 ≤ _)⟩)
                    dsimp only [Pt.U, Pt.locs, Pt.cells, Pt.slots] at X495 l495 y495 z495 st495 hQ495
                    subst y495 z495
                    obtain ⟨rfl, Nq495, e495⟩ := hQ495
                    have N495 : Fr n0 L495 := by rw [l495]; exact Fr.app N471 Nq495
                    refine Got.step st495 ?_
                    show Got p e below s _ _ _ _ T495 (mkF m 222 #[.val (.int p0), .val (.int p1), .val (.int p2), .val (.int p3), .val (.int p4), .val (.int (Int32.ofNat N)), .val (.ref b390), .val (.ref b392), .val (.int k426_0), .val (.int (Int32.ofNat mn)), .val (.int (Int32.ofNat (mn + 1))), .val (.int (f2 (Int32.ofNat (mn + 1)) (Int32.ofNat N))), .unset, .unset] [(.int (fE4 (p2 + (f1 (p3 &&& (3 : Int32)))) y399_b390_1 y408_b390_2 y417_b390_3 (S0.set mn k426_0) (mn + 1)))])
                    by_cases hc496 : ((fE4 (p2 + (f1 (p3 &&& (3 : Int32)))) y399_b390_1 y408_b390_2 y417_b390_3 (S0.set mn k426_0) (mn + 1)) = 0)
                    · refine Got.step (T' := T495) (g' := (mkF m 234 #[.val (.int p0), .val (.int p1), .val (.int p2), .val (.int p3), .val (.int p4), .val (.int (Int32.ofNat N)), .val (.ref b390), .val (.ref b392), .val (.int k426_0), .val (.int (Int32.ofNat mn)), .val (.int (Int32.ofNat (mn + 1))), .val (.int (f2 (Int32.ofNat (mn + 1)) (Int32.ofNat N))), .unset, .unset] [(.int (3 : Int32)), (.int (f2 (Int32.ofNat (mn + 1)) (Int32.ofNat N)))])) (fun tq kt => ?_) ?_
                      · show Steps p.tables e below (T495.setTop (mkF m 222 #[.val (.int p0), .val (.int p1), .val (.int p2), .val (.int p3), .val (.int p4), .val (.int (Int32.ofNat N)), .val (.ref b390), .val (.ref b392), .val (.int k426_0), .val (.int (Int32.ofNat mn)), .val (.int (Int32.ofNat (mn + 1))), .val (.int (f2 (Int32.ofNat (mn + 1)) (Int32.ofNat N))), .unset, .unset] [(.int (fE4 (p2 + (f1 (p3 &&& (3 : Int32)))) y399_b390_1 y408_b390_2 y417_b390_3 (S0.set mn k426_0) (mn + 1)))])) _
                        refine XS.ifYes X495.here hx rfl (pc0 := 222) (pc' := 231) rfl (hb hby at_222) rfl (XT.i0_eq_t hc496) (by decide) (by decide) ?_
                        show Steps p.tables e below (T495.setTop (mkF m 231 #[.val (.int p0), .val (.int p1), .val (.int p2), .val (.int p3), .val (.int p4), .val (.int (Int32.ofNat N)), .val (.ref b390), .val (.ref b392), .val (.int k426_0), .val (.int (Int32.ofNat mn)), .val (.int (Int32.ofNat (mn + 1))), .val (.int (f2 (Int32.ofNat (mn + 1)) (Int32.ofNat N))), .unset, .unset] [])) _
                        refine XS.iload X495.here hx rfl (hb hby at_231) rfl ?_
                        show Steps p.tables e below (T495.setTop (mkF m 233 #[.val (.int p0), .val (.int p1), .val (.int p2), .val (.int p3), .val (.int p4), .val (.int (Int32.ofNat N)), .val (.ref b390), .val (.ref b392), .val (.int k426_0), .val (.int (Int32.ofNat mn)), .val (.int (Int32.ofNat (mn + 1))), .val (.int (f2 (Int32.ofNat (mn + 1)) (Int32.ofNat N))), .unset, .unset] [(.int (f2 (Int32.ofNat (mn + 1)) (Int32.ofNat N)))])) _
                        refine XS.iconst X495.here hx rfl (hb hby at_233) ?_
                        exact kt
                      by_cases hc497 : ((f2 (Int32.ofNat (mn + 1)) (Int32.ofNat N)) < (3 : Int32))
                      · refine Got.step (T' := T495) (g' := (mkF m 259 #[.val (.int p0), .val (.int p1), .val (.int p2), .val (.int p3), .val (.int p4), .val (.int (Int32.ofNat N)), .val (.ref b390), .val (.ref b392), .val (.int k426_0), .val (.int (Int32.ofNat mn)), .val (.int (Int32.ofNat (mn + 1))), .val (.int (f2 (Int32.ofNat (mn + 1)) (Int32.ofNat N))), .unset, .unset] [(.int (2 : Int32)), (.int (f2 (Int32.ofNat (mn + 1)) (Int32.ofNat N)))])) (fun tq kt => ?_) ?_
                        · show Steps p.tables e below (T495.setTop (mkF m 234 #[.val (.int p0), .val (.int p1), .val (.int p2), .val (.int p3), .val (.int p4), .val (.int (Int32.ofNat N)), .val (.ref b390), .val (.ref b392), .val (.int k426_0), .val (.int (Int32.ofNat mn)), .val (.int (Int32.ofNat (mn + 1))), .val (.int (f2 (Int32.ofNat (mn + 1)) (Int32.ofNat N))), .unset, .unset] [(.int (3 : Int32)), (.int (f2 (Int32.ofNat (mn + 1)) (Int32.ofNat N)))])) _
                          refine XS.icmpYes X495.here hx rfl (pc0 := 234) (pc' := 256) rfl (hb hby at_234) rfl (XT.ii_lt_t hc497) (by decide) (by decide) ?_
                          show Steps p.tables e below (T495.setTop (mkF m 256 #[.val (.int p0), .val (.int p1), .val (.int p2), .val (.int p3), .val (.int p4), .val (.int (Int32.ofNat N)), .val (.ref b390), .val (.ref b392), .val (.int k426_0), .val (.int (Int32.ofNat mn)), .val (.int (Int32.ofNat (mn + 1))), .val (.int (f2 (Int32.ofNat (mn + 1)) (Int32.ofNat N))), .unset, .unset] [])) _
                          refine XS.iload X495.here hx rfl (hb hby at_256) rfl ?_
                          show Steps p.tables e below (T495.setTop (mkF m 258 #[.val (.int p0), .val (.int p1), .val (.int p2), .val (.int p3), .val (.int p4), .val (.int (Int32.ofNat N)), .val (.ref b390), .val (.ref b392), .val (.int k426_0), .val (.int (Int32.ofNat mn)), .val (.int (Int32.ofNat (mn + 1))), .val (.int (f2 (Int32.ofNat (mn + 1)) (Int32.ofNat N))), .unset, .unset] [(.int (f2 (Int32.ofNat (mn + 1)) (Int32.ofNat N)))])) _
                          refine XS.iconst X495.here hx rfl (hb hby at_258) ?_
                          exact kt
                        by_cases hc498 : ((f2 (Int32.ofNat (mn + 1)) (Int32.ofNat N)) < (2 : Int32))
                        · refine Got.step (T' := T495) (g' := (mkF m 284 #[.val (.int p0), .val (.int p1), .val (.int p2), .val (.int p3), .val (.int p4), .val (.int (Int32.ofNat N)), .val (.ref b390), .val (.ref b392), .val (.int k426_0), .val (.int (Int32.ofNat mn)), .val (.int (Int32.ofNat (mn + 1))), .val (.int (f2 (Int32.ofNat (mn + 1)) (Int32.ofNat N))), .unset, .unset] [(.int (1 : Int32)), (.int (f2 (Int32.ofNat (mn + 1)) (Int32.ofNat N)))])) (fun tq kt => ?_) ?_
                          · show Steps p.tables e below (T495.setTop (mkF m 259 #[.val (.int p0), .val (.int p1), .val (.int p2), .val (.int p3), .val (.int p4), .val (.int (Int32.ofNat N)), .val (.ref b390), .val (.ref b392), .val (.int k426_0), .val (.int (Int32.ofNat mn)), .val (.int (Int32.ofNat (mn + 1))), .val (.int (f2 (Int32.ofNat (mn + 1)) (Int32.ofNat N))), .unset, .unset] [(.int (2 : Int32)), (.int (f2 (Int32.ofNat (mn + 1)) (Int32.ofNat N)))])) _
                            refine XS.icmpYes X495.here hx rfl (pc0 := 259) (pc' := 281) rfl (hb hby at_259) rfl (XT.ii_lt_t hc498) (by decide) (by decide) ?_
                            show Steps p.tables e below (T495.setTop (mkF m 281 #[.val (.int p0), .val (.int p1), .val (.int p2), .val (.int p3), .val (.int p4), .val (.int (Int32.ofNat N)), .val (.ref b390), .val (.ref b392), .val (.int k426_0), .val (.int (Int32.ofNat mn)), .val (.int (Int32.ofNat (mn + 1))), .val (.int (f2 (Int32.ofNat (mn + 1)) (Int32.ofNat N))), .unset, .unset] [])) _
                            refine XS.iload X495.here hx rfl (hb hby at_281) rfl ?_
                            show Steps p.tables e below (T495.setTop (mkF m 283 #[.val (.int p0), .val (.int p1), .val (.int p2), .val (.int p3), .val (.int p4), .val (.int (Int32.ofNat N)), .val (.ref b390), .val (.ref b392), .val (.int k426_0), .val (.int (Int32.ofNat mn)), .val (.int (Int32.ofNat (mn + 1))), .val (.int (f2 (Int32.ofNat (mn + 1)) (Int32.ofNat N))), .unset, .unset] [(.int (f2 (Int32.ofNat (mn + 1)) (Int32.ofNat N)))])) _
                            refine XS.iconst X495.here hx rfl (hb hby at_283) ?_
                            exact kt
                          by_cases hc499 : ((f2 (Int32.ofNat (mn + 1)) (Int32.ofNat N)) < (1 : Int32))
                          · refine Got.step (T' := T495) (g' := (mkF m 309 #[.val (.int p0), .val (.int p1), .val (.int p2), .val (.int p3), .val (.int p4), .val (.int (Int32.ofNat N)), .val (.ref b390), .val (.ref b392), .val (.int k426_0), .val (.int (Int32.ofNat mn)), .val (.int (Int32.ofNat (mn + 1))), .val (.int (f2 (Int32.ofNat (mn + 1)) (Int32.ofNat N))), .val (.int (0 : Int32)), .unset] [])) (fun tq kt => ?_) ?_
                            · show Steps p.tables e below (T495.setTop (mkF m 284 #[.val (.int p0), .val (.int p1), .val (.int p2), .val (.int p3), .val (.int p4), .val (.int (Int32.ofNat N)), .val (.ref b390), .val (.ref b392), .val (.int k426_0), .val (.int (Int32.ofNat mn)), .val (.int (Int32.ofNat (mn + 1))), .val (.int (f2 (Int32.ofNat (mn + 1)) (Int32.ofNat N))), .unset, .unset] [(.int (1 : Int32)), (.int (f2 (Int32.ofNat (mn + 1)) (Int32.ofNat N)))])) _
                              refine XS.icmpYes X495.here hx rfl (pc0 := 284) (pc' := 306) rfl (hb hby at_284) rfl (XT.ii_lt_t hc499) (by decide) (by decide) ?_
                              show Steps p.tables e below (T495.setTop (mkF m 306 #[.val (.int p0), .val (.int p1), .val (.int p2), .val (.int p3), .val (.int p4), .val (.int (Int32.ofNat N)), .val (.ref b390), .val (.ref b392), .val (.int k426_0), .val (.int (Int32.ofNat mn)), .val (.int (Int32.ofNat (mn + 1))), .val (.int (f2 (Int32.ofNat (mn + 1)) (Int32.ofNat N))), .unset, .unset] [])) _
                              refine XS.iconst X495.here hx rfl (hb hby at_306) ?_
                              show Steps p.tables e below (T495.setTop (mkF m 307 #[.val (.int p0), .val (.int p1), .val (.int p2), .val (.int p3), .val (.int p4), .val (.int (Int32.ofNat N)), .val (.ref b390), .val (.ref b392), .val (.int k426_0), .val (.int (Int32.ofNat mn)), .val (.int (Int32.ofNat (mn + 1))), .val (.int (f2 (Int32.ofNat (mn + 1)) (Int32.ofNat N))), .unset, .unset] [(.int (0 : Int32))])) _
                              refine XS.istore X495.here hx rfl (hb hby at_307) rfl (l' := #[.val (.int p0), .val (.int p1), .val (.int p2), .val (.int p3), .val (.int p4), .val (.int (Int32.ofNat N)), .val (.ref b390), .val (.ref b392), .val (.int k426_0), .val (.int (Int32.ofNat mn)), .val (.int (Int32.ofNat (mn + 1))), .val (.int (f2 (Int32.ofNat (mn + 1)) (Int32.ofNat N))), .val (.int (0 : Int32)), .unset]) rfl ?_
                              exact kt
                            exact J472 _ _ _ (X495.more (by decide) (by decide)) e495 N495 (0 : Int32) ((if_neg hc473).trans ((if_pos hc496).trans ((if_pos hc497).trans ((if_pos hc498).trans (if_pos hc499))))).symm Z0_469 V420_470 V468
                          · refine Got.step (T' := T495) (g' := (mkF m 294 #[.val (.int p0), .val (.int p1), .val (.int p2), .val (.int p3), .val (.int p4), .val (.int (Int32.ofNat N)), .val (.ref b390), .val (.ref b392), .val (.int k426_0), .val (.int (Int32.ofNat mn)), .val (.int (Int32.ofNat (mn + 1))), .val (.int (f2 (Int32.ofNat (mn + 1)) (Int32.ofNat N))), .unset, .unset] [(.int (1 : Int32)), (.int (Int32.ofNat (mn + 1))), (.ref b392), (.ref b390)])) (fun tq kt => ?_) ?_
                            · show Steps p.tables e below (T495.setTop (mkF m 284 #[.val (.int p0), .val (.int p1), .val (.int p2), .val (.int p3), .val (.int p4), .val (.int (Int32.ofNat N)), .val (.ref b390), .val (.ref b392), .val (.int k426_0), .val (.int (Int32.ofNat mn)), .val (.int (Int32.ofNat (mn + 1))), .val (.int (f2 (Int32.ofNat (mn + 1)) (Int32.ofNat N))), .unset, .unset] [(.int (1 : Int32)), (.int (f2 (Int32.ofNat (mn + 1)) (Int32.ofNat N)))])) _
                              refine XS.icmpNo X495.here hx rfl (hb hby at_284) rfl (XT.ii_lt_f hc499) ?_
                              show Steps p.tables e below (T495.setTop (mkF m 287 #[.val (.int p0), .val (.int p1), .val (.int p2), .val (.int p3), .val (.int p4), .val (.int (Int32.ofNat N)), .val (.ref b390), .val (.ref b392), .val (.int k426_0), .val (.int (Int32.ofNat mn)), .val (.int (Int32.ofNat (mn + 1))), .val (.int (f2 (Int32.ofNat (mn + 1)) (Int32.ofNat N))), .unset, .unset] [])) _
                              refine XS.aload X495.here hx rfl (hb hby at_287) rfl rfl ?_
                              show Steps p.tables e below (T495.setTop (mkF m 289 #[.val (.int p0), .val (.int p1), .val (.int p2), .val (.int p3), .val (.int p4), .val (.int (Int32.ofNat N)), .val (.ref b390), .val (.ref b392), .val (.int k426_0), .val (.int (Int32.ofNat mn)), .val (.int (Int32.ofNat (mn + 1))), .val (.int (f2 (Int32.ofNat (mn + 1)) (Int32.ofNat N))), .unset, .unset] [(.ref b390)])) _
                              refine XS.aload X495.here hx rfl (hb hby at_289) rfl rfl ?_
                              show Steps p.tables e below (T495.setTop (mkF m 291 #[.val (.int p0), .val (.int p1), .val (.int p2), .val (.int p3), .val (.int p4), .val (.int (Int32.ofNat N)), .val (.ref b390), .val (.ref b392), .val (.int k426_0), .val (.int (Int32.ofNat mn)), .val (.int (Int32.ofNat (mn + 1))), .val (.int (f2 (Int32.ofNat (mn + 1)) (Int32.ofNat N))), .unset, .unset] [(.ref b392), (.ref b390)])) _
                              refine XS.iload X495.here hx rfl (hb hby at_291) rfl ?_
                              show Steps p.tables e below (T495.setTop (mkF m 293 #[.val (.int p0), .val (.int p1), .val (.int p2), .val (.int p3), .val (.int p4), .val (.int (Int32.ofNat N)), .val (.ref b390), .val (.ref b392), .val (.int k426_0), .val (.int (Int32.ofNat mn)), .val (.int (Int32.ofNat (mn + 1))), .val (.int (f2 (Int32.ofNat (mn + 1)) (Int32.ofNat N))), .unset, .unset] [(.int (Int32.ofNat (mn + 1))), (.ref b392), (.ref b390)])) _
                              refine XS.iconst X495.here hx rfl (hb hby at_293) ?_
                              exact kt
                            obtain ⟨_, _, ⟨T500, L500, k500, n500⟩, -, X500, ⟨Lc500, hQ500, l500, y500, z500⟩, st500⟩ := Jvm.LawKit.callS X495 hx (y := (⟨"com/example/sidestep/sidestep/CompiledPatternAdvancePinLaw", "ends", "([I[III)Z"⟩ : MethodName)) hown (mvT hZ (hw _ (List.mem_of_getElem? (i := 10) rfl))) (mvT hZ (hw _ (List.mem_of_getElem? (i := 11) rfl))) (mvT hZ (hw _ (List.mem_of_getElem? (i := 3) rfl))) (mvT hZ (hw _ (List.mem_of_getElem? (i := 12) rfl))) (by decide) (backOf (W := 0) (rmE1 l Z a0 hw [] b390 b392 (mn + 1) (p2 + (f1 (p3 &&& (3 : Int32)))) y399_b390_1 y408_b390_2 y417_b390_3 (S0.set mn k426_0) k390 k392 N h468 n0 Z0_469 V420_470 V468 (own_q1 hN hmn hc499).1 (own_q1 hN hmn hc499).2) hZ (hw _ (List.mem_of_getElem? (i := 12) rfl)) (hw _ (List.mem_of_getElem? (i := 3) rfl)) (by decide) (by decide)) (g := (mkF m 294 #[.val (.int p0), .val (.int p1), .val (.int p2), .val (.int p3), .val (.int p4), .val (.int (Int32.ofNat N)), .val (.ref b390), .val (.ref b392), .val (.int k426_0), .val (.int (Int32.ofNat mn)), .val (.int (Int32.ofNat (mn + 1))), .val (.int (f2 (Int32.ofNat (mn + 1)) (Int32.ofNat N))), .unset, .unset] [(.int (1 : Int32)), (.int (Int32.ofNat (mn + 1))), (.ref b392), (.ref b390)])) rfl (by rw [hml]; rfl) (argsL := [(.ref b390), (.ref b392), (.int (Int32.ofNat (mn + 1))), (.int (1 : Int32))]) (rest := []) (lenOf pd_3 rfl) rfl (by show 2 * 0 + _ ≤ _; exact Nat.le_of_eq rfl) (hb hby at_294) (fun _ _ => ⟨rfl, e495, (by decide : 2 + 0 ≤ _), (by decide : 9 + 0 ≤ _)⟩)
                            dsimp only [Pt.U, Pt.locs, Pt.cells, Pt.slots] at X500 l500 y500 z500 st500 hQ500
                            subst y500 z500
                            obtain ⟨rfl, Nq500, e500⟩ := hQ500
                            have N500 : Fr n0 L500 := by rw [l500]; exact Fr.app N495 Nq500
                            refine Got.step st500 ?_
                            show Got p e below s _ _ _ _ T500 (mkF m 297 #[.val (.int p0), .val (.int p1), .val (.int p2), .val (.int p3), .val (.int p4), .val (.int (Int32.ofNat N)), .val (.ref b390), .val (.ref b392), .val (.int k426_0), .val (.int (Int32.ofNat mn)), .val (.int (Int32.ofNat (mn + 1))), .val (.int (f2 (Int32.ofNat (mn + 1)) (Int32.ofNat N))), .unset, .unset] [(.int (fE1 (p2 + (f1 (p3 &&& (3 : Int32)))) y399_b390_1 y408_b390_2 y417_b390_3 (S0.set mn k426_0) (mn + 1)))])
                            by_cases hc501 : ((fE1 (p2 + (f1 (p3 &&& (3 : Int32)))) y399_b390_1 y408_b390_2 y417_b390_3 (S0.set mn k426_0) (mn + 1)) = 0)
                            · refine Got.step (T' := T500) (g' := (mkF m 309 #[.val (.int p0), .val (.int p1), .val (.int p2), .val (.int p3), .val (.int p4), .val (.int (Int32.ofNat N)), .val (.ref b390), .val (.ref b392), .val (.int k426_0), .val (.int (Int32.ofNat mn)), .val (.int (Int32.ofNat (mn + 1))), .val (.int (f2 (Int32.ofNat (mn + 1)) (Int32.ofNat N))), .val (.int (0 : Int32)), .unset] [])) (fun tq kt => ?_) ?_
                              · show Steps p.tables e below (T500.setTop (mkF m 297 #[.val (.int p0), .val (.int p1), .val (.int p2), .val (.int p3), .val (.int p4), .val (.int (Int32.ofNat N)), .val (.ref b390), .val (.ref b392), .val (.int k426_0), .val (.int (Int32.ofNat mn)), .val (.int (Int32.ofNat (mn + 1))), .val (.int (f2 (Int32.ofNat (mn + 1)) (Int32.ofNat N))), .unset, .unset] [(.int (fE1 (p2 + (f1 (p3 &&& (3 : Int32)))) y399_b390_1 y408_b390_2 y417_b390_3 (S0.set mn k426_0) (mn + 1)))])) _
                                refine XS.ifYes X500.here hx rfl (pc0 := 297) (pc' := 306) rfl (hb hby at_297) rfl (XT.i0_eq_t hc501) (by decide) (by decide) ?_
                                show Steps p.tables e below (T500.setTop (mkF m 306 #[.val (.int p0), .val (.int p1), .val (.int p2), .val (.int p3), .val (.int p4), .val (.int (Int32.ofNat N)), .val (.ref b390), .val (.ref b392), .val (.int k426_0), .val (.int (Int32.ofNat mn)), .val (.int (Int32.ofNat (mn + 1))), .val (.int (f2 (Int32.ofNat (mn + 1)) (Int32.ofNat N))), .unset, .unset] [])) _
                                refine XS.iconst X500.here hx rfl (hb hby at_306) ?_
                                show Steps p.tables e below (T500.setTop (mkF m 307 #[.val (.int p0), .val (.int p1), .val (.int p2), .val (.int p3), .val (.int p4), .val (.int (Int32.ofNat N)), .val (.ref b390), .val (.ref b392), .val (.int k426_0), .val (.int (Int32.ofNat mn)), .val (.int (Int32.ofNat (mn + 1))), .val (.int (f2 (Int32.ofNat (mn + 1)) (Int32.ofNat N))), .unset, .unset] [(.int (0 : Int32))])) _
                                refine XS.istore X500.here hx rfl (hb hby at_307) rfl (l' := #[.val (.int p0), .val (.int p1), .val (.int p2), .val (.int p3), .val (.int p4), .val (.int (Int32.ofNat N)), .val (.ref b390), .val (.ref b392), .val (.int k426_0), .val (.int (Int32.ofNat mn)), .val (.int (Int32.ofNat (mn + 1))), .val (.int (f2 (Int32.ofNat (mn + 1)) (Int32.ofNat N))), .val (.int (0 : Int32)), .unset]) rfl ?_
                                exact kt
                              exact J472 _ _ _ (X500.more (by decide) (by decide)) e500 N500 (0 : Int32) ((if_neg hc473).trans ((if_pos hc496).trans ((if_pos hc497).trans ((if_pos hc498).trans ((if_neg hc499).trans (if_pos hc501)))))).symm Z0_469 V420_470 V468
                            · refine Got.step (T' := T500) (g' := (mkF m 309 #[.val (.int p0), .val (.int p1), .val (.int p2), .val (.int p3), .val (.int p4), .val (.int (Int32.ofNat N)), .val (.ref b390), .val (.ref b392), .val (.int k426_0), .val (.int (Int32.ofNat mn)), .val (.int (Int32.ofNat (mn + 1))), .val (.int (f2 (Int32.ofNat (mn + 1)) (Int32.ofNat N))), .val (.int (1 : Int32)), .unset] [])) (fun tq kt => ?_) ?_
                              · show Steps p.tables e below (T500.setTop (mkF m 297 #[.val (.int p0), .val (.int p1), .val (.int p2), .val (.int p3), .val (.int p4), .val (.int (Int32.ofNat N)), .val (.ref b390), .val (.ref b392), .val (.int k426_0), .val (.int (Int32.ofNat mn)), .val (.int (Int32.ofNat (mn + 1))), .val (.int (f2 (Int32.ofNat (mn + 1)) (Int32.ofNat N))), .unset, .unset] [(.int (fE1 (p2 + (f1 (p3 &&& (3 : Int32)))) y399_b390_1 y408_b390_2 y417_b390_3 (S0.set mn k426_0) (mn + 1)))])) _
                                refine XS.ifNo X500.here hx rfl (hb hby at_297) rfl (XT.i0_eq_f hc501) ?_
                                show Steps p.tables e below (T500.setTop (mkF m 300 #[.val (.int p0), .val (.int p1), .val (.int p2), .val (.int p3), .val (.int p4), .val (.int (Int32.ofNat N)), .val (.ref b390), .val (.ref b392), .val (.int k426_0), .val (.int (Int32.ofNat mn)), .val (.int (Int32.ofNat (mn + 1))), .val (.int (f2 (Int32.ofNat (mn + 1)) (Int32.ofNat N))), .unset, .unset] [])) _
                                refine XS.iconst X500.here hx rfl (hb hby at_300) ?_
                                show Steps p.tables e below (T500.setTop (mkF m 301 #[.val (.int p0), .val (.int p1), .val (.int p2), .val (.int p3), .val (.int p4), .val (.int (Int32.ofNat N)), .val (.ref b390), .val (.ref b392), .val (.int k426_0), .val (.int (Int32.ofNat mn)), .val (.int (Int32.ofNat (mn + 1))), .val (.int (f2 (Int32.ofNat (mn + 1)) (Int32.ofNat N))), .unset, .unset] [(.int (1 : Int32))])) _
                                refine XS.istore X500.here hx rfl (hb hby at_301) rfl (l' := #[.val (.int p0), .val (.int p1), .val (.int p2), .val (.int p3), .val (.int p4), .val (.int (Int32.ofNat N)), .val (.ref b390), .val (.ref b392), .val (.int k426_0), .val (.int (Int32.ofNat mn)), .val (.int (Int32.ofNat (mn + 1))), .val (.int (f2 (Int32.ofNat (mn + 1)) (Int32.ofNat N))), .val (.int (1 : Int32)), .unset]) rfl ?_
                                show Steps p.tables e below (T500.setTop (mkF m 303 #[.val (.int p0), .val (.int p1), .val (.int p2), .val (.int p3), .val (.int p4), .val (.int (Int32.ofNat N)), .val (.ref b390), .val (.ref b392), .val (.int k426_0), .val (.int (Int32.ofNat mn)), .val (.int (Int32.ofNat (mn + 1))), .val (.int (f2 (Int32.ofNat (mn + 1)) (Int32.ofNat N))), .val (.int (1 : Int32)), .unset] [])) _
                                refine XS.goto X500.here hx rfl (pc0 := 303) (pc' := 309) rfl (hb hby at_303) (by decide) (by decide) ?_
                                exact kt
                              exact J472 _ _ _ (X500.more (by decide) (by decide)) e500 N500 (1 : Int32) ((if_neg hc473).trans ((if_pos hc496).trans ((if_pos hc497).trans ((if_pos hc498).trans ((if_neg hc499).trans (if_neg hc501)))))).symm Z0_469 V420_470 V468
                        · refine Got.step (T' := T495) (g' := (mkF m 269 #[.val (.int p0), .val (.int p1), .val (.int p2), .val (.int p3), .val (.int p4), .val (.int (Int32.ofNat N)), .val (.ref b390), .val (.ref b392), .val (.int k426_0), .val (.int (Int32.ofNat mn)), .val (.int (Int32.ofNat (mn + 1))), .val (.int (f2 (Int32.ofNat (mn + 1)) (Int32.ofNat N))), .unset, .unset] [(.int (2 : Int32)), (.int (Int32.ofNat (mn + 1))), (.ref b392), (.ref b390)])) (fun tq kt => ?_) ?_
                          · show Steps p.tables e below (T495.setTop (mkF m 259 #[.val (.int p0), .val (.int p1), .val (.int p2), .val (.int p3), .val (.int p4), .val (.int (Int32.ofNat N)), .val (.ref b390), .val (.ref b392), .val (.int k426_0), .val (.int (Int32.ofNat mn)), .val (.int (Int32.ofNat (mn + 1))), .val (.int (f2 (Int32.ofNat (mn + 1)) (Int32.ofNat N))), .unset, .unset] [(.int (2 : Int32)), (.int (f2 (Int32.ofNat (mn + 1)) (Int32.ofNat N)))])) _
                            refine XS.icmpNo X495.here hx rfl (hb hby at_259) rfl (XT.ii_lt_f hc498) ?_
                            show Steps p.tables e below (T495.setTop (mkF m 262 #[.val (.int p0), .val (.int p1), .val (.int p2), .val (.int p3), .val (.int p4), .val (.int (Int32.ofNat N)), .val (.ref b390), .val (.ref b392), .val (.int k426_0), .val (.int (Int32.ofNat mn)), .val (.int (Int32.ofNat (mn + 1))), .val (.int (f2 (Int32.ofNat (mn + 1)) (Int32.ofNat N))), .unset, .unset] [])) _
                            refine XS.aload X495.here hx rfl (hb hby at_262) rfl rfl ?_
                            show Steps p.tables e below (T495.setTop (mkF m 264 #[.val (.int p0), .val (.int p1), .val (.int p2), .val (.int p3), .val (.int p4), .val (.int (Int32.ofNat N)), .val (.ref b390), .val (.ref b392), .val (.int k426_0), .val (.int (Int32.ofNat mn)), .val (.int (Int32.ofNat (mn + 1))), .val (.int (f2 (Int32.ofNat (mn + 1)) (Int32.ofNat N))), .unset, .unset] [(.ref b390)])) _
                            refine XS.aload X495.here hx rfl (hb hby at_264) rfl rfl ?_
                            show Steps p.tables e below (T495.setTop (mkF m 266 #[.val (.int p0), .val (.int p1), .val (.int p2), .val (.int p3), .val (.int p4), .val (.int (Int32.ofNat N)), .val (.ref b390), .val (.ref b392), .val (.int k426_0), .val (.int (Int32.ofNat mn)), .val (.int (Int32.ofNat (mn + 1))), .val (.int (f2 (Int32.ofNat (mn + 1)) (Int32.ofNat N))), .unset, .unset] [(.ref b392), (.ref b390)])) _
                            refine XS.iload X495.here hx rfl (hb hby at_266) rfl ?_
                            show Steps p.tables e below (T495.setTop (mkF m 268 #[.val (.int p0), .val (.int p1), .val (.int p2), .val (.int p3), .val (.int p4), .val (.int (Int32.ofNat N)), .val (.ref b390), .val (.ref b392), .val (.int k426_0), .val (.int (Int32.ofNat mn)), .val (.int (Int32.ofNat (mn + 1))), .val (.int (f2 (Int32.ofNat (mn + 1)) (Int32.ofNat N))), .unset, .unset] [(.int (Int32.ofNat (mn + 1))), (.ref b392), (.ref b390)])) _
                            refine XS.iconst X495.here hx rfl (hb hby at_268) ?_
                            exact kt
                          obtain ⟨_, _, ⟨T502, L502, k502, n502⟩, -, X502, ⟨Lc502, hQ502, l502, y502, z502⟩, st502⟩ := Jvm.LawKit.callS X495 hx (y := (⟨"com/example/sidestep/sidestep/CompiledPatternAdvancePinLaw", "ends", "([I[III)Z"⟩ : MethodName)) hown (mvT hZ (hw _ (List.mem_of_getElem? (i := 10) rfl))) (mvT hZ (hw _ (List.mem_of_getElem? (i := 11) rfl))) (mvT hZ (hw _ (List.mem_of_getElem? (i := 3) rfl))) (mvT hZ (hw _ (List.mem_of_getElem? (i := 12) rfl))) (by decide) (backOf (W := 0) (rmE2 l Z a0 hw [] b390 b392 (mn + 1) (p2 + (f1 (p3 &&& (3 : Int32)))) y399_b390_1 y408_b390_2 y417_b390_3 (S0.set mn k426_0) k390 k392 N h468 n0 Z0_469 V420_470 V468 (own_q2 hN hmn hc498).1 (own_q2 hN hmn hc498).2) hZ (hw _ (List.mem_of_getElem? (i := 12) rfl)) (hw _ (List.mem_of_getElem? (i := 3) rfl)) (by decide) (by decide)) (g := (mkF m 269 #[.val (.int p0), .val (.int p1), .val (.int p2), .val (.int p3), .val (.int p4), .val (.int (Int32.ofNat N)), .val (.ref b390), .val (.ref b392), .val (.int k426_0), .val (.int (Int32.ofNat mn)), .val (.int (Int32.ofNat (mn + 1))), .val (.int (f2 (Int32.ofNat (mn + 1)) (Int32.ofNat N))), .unset, .unset] [(.int (2 : Int32)), (.int (Int32.ofNat (mn + 1))), (.ref b392), (.ref b390)])) rfl (by rw [hml]; rfl) (argsL := [(.ref b390), (.ref b392), (.int (Int32.ofNat (mn + 1))), (.int (2 : Int32))]) (rest := []) (lenOf pd_3 rfl) rfl (by show 2 * 0 + _ ≤ _; exact Nat.le_of_eq rfl) (hb hby at_269) (fun _ _ => ⟨rfl, e495, (by decide : 2 + 0 ≤ _), (by decide : 9 + 0 ≤ _)⟩)
                          dsimp only [Pt.U, Pt.locs, Pt.cells, Pt.slots] at X502 l502 y502 z502 st502 hQ502
                          subst y502 z502
                          obtain ⟨rfl, Nq502, e502⟩ := hQ502
                          have N502 : Fr n0 L502 := by rw [l502]; exact Fr.app N495 Nq502
                          refine Got.step st502 ?_
                          show Got p e below s _ _ _ _ T502 (mkF m 272 #[.val (.int p0), .val (.int p1), .val (.int p2), .val (.int p3), .val (.int p4), .val (.int (Int32.ofNat N)), .val (.ref b390), .val (.ref b392), .val (.int k426_0), .val (.int (Int32.ofNat mn)), .val (.int (Int32.ofNat (mn + 1))), .val (.int (f2 (Int32.ofNat (mn + 1)) (Int32.ofNat N))), .unset, .unset] [(.int (fE2 (p2 + (f1 (p3 &&& (3 : Int32)))) y399_b390_1 y408_b390_2 y417_b390_3 (S0.set mn k426_0) (mn + 1)))])
                          by_cases hc503 : ((fE2 (p2 + (f1 (p3 &&& (3 : Int32)))) y399_b390_1 y408_b390_2 y417_b390_3 (S0.set mn k426_0) (mn + 1)) = 0)
                          · refine Got.step (T' := T502) (g' := (mkF m 284 #[.val (.int p0), .val (.int p1), .val (.int p2), .val (.int p3), .val (.int p4), .val (.int (Int32.ofNat N)), .val (.ref b390), .val (.ref b392), .val (.int k426_0), .val (.int (Int32.ofNat mn)), .val (.int (Int32.ofNat (mn + 1))), .val (.int (f2 (Int32.ofNat (mn + 1)) (Int32.ofNat N))), .unset, .unset] [(.int (1 : Int32)), (.int (f2 (Int32.ofNat (mn + 1)) (Int32.ofNat N)))])) (fun tq kt => ?_) ?_
                            · show Steps p.tables e below (T502.setTop (mkF m 272 #[.val (.int p0), .val (.int p1), .val (.int p2), .val (.int p3), .val (.int p4), .val (.int (Int32.ofNat N)), .val (.ref b390), .val (.ref b392), .val (.int k426_0), .val (.int (Int32.ofNat mn)), .val (.int (Int32.ofNat (mn + 1))), .val (.int (f2 (Int32.ofNat (mn + 1)) (Int32.ofNat N))), .unset, .unset] [(.int (fE2 (p2 + (f1 (p3 &&& (3 : Int32)))) y399_b390_1 y408_b390_2 y417_b390_3 (S0.set mn k426_0) (mn + 1)))])) _
                              refine XS.ifYes X502.here hx rfl (pc0 := 272) (pc' := 281) rfl (hb hby at_272) rfl (XT.i0_eq_t hc503) (by decide) (by decide) ?_
                              show Steps p.tables e below (T502.setTop (mkF m 281 #[.val (.int p0), .val (.int p1), .val (.int p2), .val (.int p3), .val (.int p4), .val (.int (Int32.ofNat N)), .val (.ref b390), .val (.ref b392), .val (.int k426_0), .val (.int (Int32.ofNat mn)), .val (.int (Int32.ofNat (mn + 1))), .val (.int (f2 (Int32.ofNat (mn + 1)) (Int32.ofNat N))), .unset, .unset] [])) _
                              refine XS.iload X502.here hx rfl (hb hby at_281) rfl ?_
                              show Steps p.tables e below (T502.setTop (mkF m 283 #[.val (.int p0), .val (.int p1), .val (.int p2), .val (.int p3), .val (.int p4), .val (.int (Int32.ofNat N)), .val (.ref b390), .val (.ref b392), .val (.int k426_0), .val (.int (Int32.ofNat mn)), .val (.int (Int32.ofNat (mn + 1))), .val (.int (f2 (Int32.ofNat (mn + 1)) (Int32.ofNat N))), .unset, .unset] [(.int (f2 (Int32.ofNat (mn + 1)) (Int32.ofNat N)))])) _
                              refine XS.iconst X502.here hx rfl (hb hby at_283) ?_
                              exact kt
                            by_cases hc504 : ((f2 (Int32.ofNat (mn + 1)) (Int32.ofNat N)) < (1 : Int32))
                            · refine Got.step (T' := T502) (g' := (mkF m 309 #[.val (.int p0), .val (.int p1), .val (.int p2), .val (.int p3), .val (.int p4), .val (.int (Int32.ofNat N)), .val (.ref b390), .val (.ref b392), .val (.int k426_0), .val (.int (Int32.ofNat mn)), .val (.int (Int32.ofNat (mn + 1))), .val (.int (f2 (Int32.ofNat (mn + 1)) (Int32.ofNat N))), .val (.int (0 : Int32)), .unset] [])) (fun tq kt => ?_) ?_
                              · show Steps p.tables e below (T502.setTop (mkF m 284 #[.val (.int p0), .val (.int p1), .val (.int p2), .val (.int p3), .val (.int p4), .val (.int (Int32.ofNat N)), .val (.ref b390), .val (.ref b392), .val (.int k426_0), .val (.int (Int32.ofNat mn)), .val (.int (Int32.ofNat (mn + 1))), .val (.int (f2 (Int32.ofNat (mn + 1)) (Int32.ofNat N))), .unset, .unset] [(.int (1 : Int32)), (.int (f2 (Int32.ofNat (mn + 1)) (Int32.ofNat N)))])) _
                                refine XS.icmpYes X502.here hx rfl (pc0 := 284) (pc' := 306) rfl (hb hby at_284) rfl (XT.ii_lt_t hc504) (by decide) (by decide) ?_
                                show Steps p.tables e below (T502.setTop (mkF m 306 #[.val (.int p0), .val (.int p1), .val (.int p2), .val (.int p3), .val (.int p4), .val (.int (Int32.ofNat N)), .val (.ref b390), .val (.ref b392), .val (.int k426_0), .val (.int (Int32.ofNat mn)), .val (.int (Int32.ofNat (mn + 1))), .val (.int (f2 (Int32.ofNat (mn + 1)) (Int32.ofNat N))), .unset, .unset] [])) _
                                refine XS.iconst X502.here hx rfl (hb hby at_306) ?_
                                show Steps p.tables e below (T502.setTop (mkF m 307 #[.val (.int p0), .val (.int p1), .val (.int p2), .val (.int p3), .val (.int p4), .val (.int (Int32.ofNat N)), .val (.ref b390), .val (.ref b392), .val (.int k426_0), .val (.int (Int32.ofNat mn)), .val (.int (Int32.ofNat (mn + 1))), .val (.int (f2 (Int32.ofNat (mn + 1)) (Int32.ofNat N))), .unset, .unset] [(.int (0 : Int32))])) _
                                refine XS.istore X502.here hx rfl (hb hby at_307) rfl (l' := #[.val (.int p0), .val (.int p1), .val (.int p2), .val (.int p3), .val (.int p4), .val (.int (Int32.ofNat N)), .val (.ref b390), .val (.ref b392), .val (.int k426_0), .val (.int (Int32.ofNat mn)), .val (.int (Int32.ofNat (mn + 1))), .val (.int (f2 (Int32.ofNat (mn + 1)) (Int32.ofNat N))), .val (.int (0 : Int32)), .unset]) rfl ?_
                                exact kt
                              exact J472 _ _ _ (X502.more (by decide) (by decide)) e502 N502 (0 : Int32) ((if_neg hc473).trans ((if_pos hc496).trans ((if_pos hc497).trans ((if_neg hc498).trans ((if_pos hc503).trans (if_pos hc504)))))).symm Z0_469 V420_470 V468
                            · refine Got.step (T' := T502) (g' := (mkF m 294 #[.val (.int p0), .val (.int p1), .val (.int p2), .val (.int p3), .val (.int p4), .val (.int (Int32.ofNat N)), .val (.ref b390), .val (.ref b392), .val (.int k426_0), .val (.int (Int32.ofNat mn)), .val (.int (Int32.ofNat (mn + 1))), .val (.int (f2 (Int32.ofNat (mn + 1)) (Int32.ofNat N))), .unset, .unset] [(.int (1 : Int32)), (.int (Int32.ofNat (mn + 1))), (.ref b392), (.ref b390)])) (fun tq kt => ?_) ?_
                              · show Steps p.tables e below (T502.setTop (mkF m 284 #[.val (.int p0), .val (.int p1), .val (.int p2), .val (.int p3), .val (.int p4), .val (.int (Int32.ofNat N)), .val (.ref b390), .val (.ref b392), .val (.int k426_0), .val (.int (Int32.ofNat mn)), .val (.int (Int32.ofNat (mn + 1))), .val (.int (f2 (Int32.ofNat (mn + 1)) (Int32.ofNat N))), .unset, .unset] [(.int (1 : Int32)), (.int (f2 (Int32.ofNat (mn + 1)) (Int32.ofNat N)))])) _
                                refine XS.icmpNo X502.here hx rfl (hb hby at_284) rfl (XT.ii_lt_f hc504) ?_
                                show Steps p.tables e below (T502.setTop (mkF m 287 #[.val (.int p0), .val (.int p1), .val (.int p2), .val (.int p3), .val (.int p4), .val (.int (Int32.ofNat N)), .val (.ref b390), .val (.ref b392), .val (.int k426_0), .val (.int (Int32.ofNat mn)), .val (.int (Int32.ofNat (mn + 1))), .val (.int (f2 (Int32.ofNat (mn + 1)) (Int32.ofNat N))), .unset, .unset] [])) _
                                refine XS.aload X502.here hx rfl (hb hby at_287) rfl rfl ?_
                                show Steps p.tables e below (T502.setTop (mkF m 289 #[.val (.int p0), .val (.int p1), .val (.int p2), .val (.int p3), .val (.int p4), .val (.int (Int32.ofNat N)), .val (.ref b390), .val (.ref b392), .val (.int k426_0), .val (.int (Int32.ofNat mn)), .val (.int (Int32.ofNat (mn + 1))), .val (.int (f2 (Int32.ofNat (mn + 1)) (Int32.ofNat N))), .unset, .unset] [(.ref b390)])) _
                                refine XS.aload X502.here hx rfl (hb hby at_289) rfl rfl ?_
                                show Steps p.tables e below (T502.setTop (mkF m 291 #[.val (.int p0), .val (.int p1), .val (.int p2), .val (.int p3), .val (.int p4), .val (.int (Int32.ofNat N)), .val (.ref b390), .val (.ref b392), .val (.int k426_0), .val (.int (Int32.ofNat mn)), .val (.int (Int32.ofNat (mn + 1))), .val (.int (f2 (Int32.ofNat (mn + 1)) (Int32.ofNat N))), .unset, .unset] [(.ref b392), (.ref b390)])) _
                                refine XS.iload X502.here hx rfl (hb hby at_291) rfl ?_
                                show Steps p.tables e below (T502.setTop (mkF m 293 #[.val (.int p0), .val (.int p1), .val (.int p2), .val (.int p3), .val (.int p4), .val (.int (Int32.ofNat N)), .val (.ref b390), .val (.ref b392), .val (.int k426_0), .val (.int (Int32.ofNat mn)), .val (.int (Int32.ofNat (mn + 1))), .val (.int (f2 (Int32.ofNat (mn + 1)) (Int32.ofNat N))), .unset, .unset] [(.int (Int32.ofNat (mn + 1))), (.ref b392), (.ref b390)])) _
                                refine XS.iconst X502.here hx rfl (hb hby at_293) ?_
                                exact kt
                              obtain ⟨_, _, ⟨T505, L505, k505, n505⟩, -, X505, ⟨Lc505, hQ505, l505, y505, z505⟩, st505⟩ := Jvm.LawKit.callS X502 hx (y := (⟨"com/example/sidestep/sidestep/CompiledPatternAdvancePinLaw", "ends", "([I[III)Z"⟩ : MethodName)) hown (mvT hZ (hw _ (List.mem_of_getElem? (i := 10) rfl))) (mvT hZ (hw _ (List.mem_of_getElem? (i := 11) rfl))) (mvT hZ (hw _ (List.mem_of_getElem? (i := 3) rfl))) (mvT hZ (hw _ (List.mem_of_getElem? (i := 12) rfl))) (by decide) (backOf (W := 0) (rmE1 l Z a0 hw [] b390 b392 (mn + 1) (p2 + (f1 (p3 &&& (3 : Int32)))) y399_b390_1 y408_b390_2 y417_b390_3 (S0.set mn k426_0) k390 k392 N h468 n0 Z0_469 V420_470 V468 (own_q1 hN hmn hc504).1 (own_q1 hN hmn hc504).2) hZ (hw _ (List.mem_of_getElem? (i := 12) rfl)) (hw _ (List.mem_of_getElem? (i := 3) rfl)) (by decide) (by decide)) (g := (mkF m 294 #[.val (.int p0), .val (.int p1), .val (.int p2), .val (.int p3), .val (.int p4), .val (.int (Int32.ofNat N)), .val (.ref b390), .val (.ref b392), .val (.int k426_0), .val (.int (Int32.ofNat mn)), .val (.int (Int32.ofNat (mn + 1))), .val (.int (f2 (Int32.ofNat (mn + 1)) (Int32.ofNat N))), .unset, .unset] [(.int (1 : Int32)), (.int (Int32.ofNat (mn + 1))), (.ref b392), (.ref b390)])) rfl (by rw [hml]; rfl) (argsL := [(.ref b390), (.ref b392), (.int (Int32.ofNat (mn + 1))), (.int (1 : Int32))]) (rest := []) (lenOf pd_3 rfl) rfl (by show 2 * 0 + _ ≤ _; exact Nat.le_of_eq rfl) (hb hby at_294) (fun _ _ => ⟨rfl, e502, (by decide : 2 + 0 ≤ _), (by decide : 9 + 0 ≤ _)⟩)
                              dsimp only [Pt.U, Pt.locs, Pt.cells, Pt.slots] at X505 l505 y505 z505 st505 hQ505
                              subst y505 z505
                              obtain ⟨rfl, Nq505, e505⟩ := hQ505
                              have N505 : Fr n0 L505 := by rw [l505]; exact Fr.app N502 Nq505
                              refine Got.step st505 ?_
                              show Got p e below s _ _ _ _ T505 (mkF m 297 #[.val (.int p0), .val (.int p1), .val (.int p2), .val (.int p3), .val (.int p4), .val (.int (Int32.ofNat N)), .val (.ref b390), .val (.ref b392), .val (.int k426_0), .val (.int (Int32.ofNat mn)), .val (.int (Int32.ofNat (mn + 1))), .val (.int (f2 (Int32.ofNat (mn + 1)) (Int32.ofNat N))), .unset, .unset] [(.int (fE1 (p2 + (f1 (p3 &&& (3 : Int32)))) y399_b390_1 y408_b390_2 y417_b390_3 (S0.set mn k426_0) (mn + 1)))])
                              by_cases hc506 : ((fE1 (p2 + (f1 (p3 &&& (3 : Int32)))) y399_b390_1 y408_b390_2 y417_b390_3 (S0.set mn k426_0) (mn + 1)) = 0)
                              · refine Got.step (T' := T505) (g' := (mkF m 309 #[.val (.int p0), .val (.int p1), .val (.int p2), .val (.int p3), .val (.int p4), .val (.int (Int32.ofNat N)), .val (.ref b390), .val (.ref b392), .val (.int k426_0), .val (.int (Int32.ofNat mn)), .val (.int (Int32.ofNat (mn + 1))), .val (.int (f2 (Int32.ofNat (mn + 1)) (Int32.ofNat N))), .val (.int (0 : Int32)), .unset] [])) (fun tq kt => ?_) ?_
                                · show Steps p.tables e below (T505.setTop (mkF m 297 #[.val (.int p0), .val (.int p1), .val (.int p2), .val (.int p3), .val (.int p4), .val (.int (Int32.ofNat N)), .val (.ref b390), .val (.ref b392), .val (.int k426_0), .val (.int (Int32.ofNat mn)), .val (.int (Int32.ofNat (mn + 1))), .val (.int (f2 (Int32.ofNat (mn + 1)) (Int32.ofNat N))), .unset, .unset] [(.int (fE1 (p2 + (f1 (p3 &&& (3 : Int32)))) y399_b390_1 y408_b390_2 y417_b390_3 (S0.set mn k426_0) (mn + 1)))])) _
                                  refine XS.ifYes X505.here hx rfl (pc0 := 297) (pc' := 306) rfl (hb hby at_297) rfl (XT.i0_eq_t hc506) (by decide) (by decide) ?_
                                  show Steps p.tables e below (T505.setTop (mkF m 306 #[.val (.int p0), .val (.int p1), .val (.int p2), .val (.int p3), .val (.int p4), .val (.int (Int32.ofNat N)), .val (.ref b390), .val (.ref b392), .val (.int k426_0), .val (.int (Int32.ofNat mn)), .val (.int (Int32.ofNat (mn + 1))), .val (.int (f2 (Int32.ofNat (mn + 1)) (Int32.ofNat N))), .unset, .unset] [])) _
                                  refine XS.iconst X505.here hx rfl (hb hby at_306) ?_
                                  show Steps p.tables e below (T505.setTop (mkF m 307 #[.val (.int p0), .val (.int p1), .val (.int p2), .val (.int p3), .val (.int p4), .val (.int (Int32.ofNat N)), .val (.ref b390), .val (.ref b392), .val (.int k426_0), .val (.int (Int32.ofNat mn)), .val (.int (Int32.ofNat (mn + 1))), .val (.int (f2 (Int32.ofNat (mn + 1)) (Int32.ofNat N))), .unset, .unset] [(.int (0 : Int32))])) _
                                  refine XS.istore X505.here hx rfl (hb hby at_307) rfl (l' := #[.val (.int p0), .val (.int p1), .val (.int p2), .val (.int p3), .val (.int p4), .val (.int (Int32.ofNat N)), .val (.ref b390), .val (.ref b392), .val (.int k426_0), .val (.int (Int32.ofNat mn)), .val (.int (Int32.ofNat (mn + 1))), .val (.int (f2 (Int32.ofNat (mn + 1)) (Int32.ofNat N))), .val (.int (0 : Int32)), .unset]) rfl ?_
                                  exact kt
                                exact J472 _ _ _ (X505.more (by decide) (by decide)) e505 N505 (0 : Int32) ((if_neg hc473).trans ((if_pos hc496).trans ((if_pos hc497).trans ((if_neg hc498).trans ((if_pos hc503).trans ((if_neg hc504).trans (if_pos hc506))))))).symm Z0_469 V420_470 V468
                              · refine Got.step (T' := T505) (g' := (mkF m 309 #[.val (.int p0), .val (.int p1), .val (.int p2), .val (.int p3), .val (.int p4), .val (.int (Int32.ofNat N)), .val (.ref b390), .val (.ref b392), .val (.int k426_0), .val (.int (Int32.ofNat mn)), .val (.int (Int32.ofNat (mn + 1))), .val (.int (f2 (Int32.ofNat (mn + 1)) (Int32.ofNat N))), .val (.int (1 : Int32)), .unset] [])) (fun tq kt => ?_) ?_
                                · show Steps p.tables e below (T505.setTop (mkF m 297 #[.val (.int p0), .val (.int p1), .val (.int p2), .val (.int p3), .val (.int p4), .val (.int (Int32.ofNat N)), .val (.ref b390), .val (.ref b392), .val (.int k426_0), .val (.int (Int32.ofNat mn)), .val (.int (Int32.ofNat (mn + 1))), .val (.int (f2 (Int32.ofNat (mn + 1)) (Int32.ofNat N))), .unset, .unset] [(.int (fE1 (p2 + (f1 (p3 &&& (3 : Int32)))) y399_b390_1 y408_b390_2 y417_b390_3 (S0.set mn k426_0) (mn + 1)))])) _
                                  refine XS.ifNo X505.here hx rfl (hb hby at_297) rfl (XT.i0_eq_f hc506) ?_
                                  show Steps p.tables e below (T505.setTop (mkF m 300 #[.val (.int p0), .val (.int p1), .val (.int p2), .val (.int p3), .val (.int p4), .val (.int (Int32.ofNat N)), .val (.ref b390), .val (.ref b392), .val (.int k426_0), .val (.int (Int32.ofNat mn)), .val (.int (Int32.ofNat (mn + 1))), .val (.int (f2 (Int32.ofNat (mn + 1)) (Int32.ofNat N))), .unset, .unset] [])) _
                                  refine XS.iconst X505.here hx rfl (hb hby at_300) ?_
                                  show Steps p.tables e below (T505.setTop (mkF m 301 #[.val (.int p0), .val (.int p1), .val (.int p2), .val (.int p3), .val (.int p4), .val (.int (Int32.ofNat N)), .val (.ref b390), .val (.ref b392), .val (.int k426_0), .val (.int (Int32.ofNat mn)), .val (.int (Int32.ofNat (mn + 1))), .val (.int (f2 (Int32.ofNat (mn + 1)) (Int32.ofNat N))), .unset, .unset] [(.int (1 : Int32))])) _
                                  refine XS.istore X505.here hx rfl (hb hby at_301) rfl (l' := #[.val (.int p0), .val (.int p1), .val (.int p2), .val (.int p3), .val (.int p4), .val (.int (Int32.ofNat N)), .val (.ref b390), .val (.ref b392), .val (.int k426_0), .val (.int (Int32.ofNat mn)), .val (.int (Int32.ofNat (mn + 1))), .val (.int (f2 (Int32.ofNat (mn + 1)) (Int32.ofNat N))), .val (.int (1 : Int32)), .unset]) rfl ?_
                                  show Steps p.tables e below (T505.setTop (mkF m 303 #[.val (.int p0), .val (.int p1), .val (.int p2), .val (.int p3), .val (.int p4), .val (.int (Int32.ofNat N)), .val (.ref b390), .val (.ref b392), .val (.int k426_0), .val (.int (Int32.ofNat mn)), .val (.int (Int32.ofNat (mn + 1))), .val (.int (f2 (Int32.ofNat (mn + 1)) (Int32.ofNat N))), .val (.int (1 : Int32)), .unset] [])) _
                                  refine XS.goto X505.here hx rfl (pc0 := 303) (pc' := 309) rfl (hb hby at_303) (by decide) (by decide) ?_
                                  exact kt
                                exact J472 _ _ _ (X505.more (by decide) (by decide)) e505 N505 (1 : Int32) ((if_neg hc473).trans ((if_pos hc496).trans ((if_pos hc497).trans ((if_neg hc498).trans ((if_pos hc503).trans ((if_neg hc504).trans (if_neg hc506))))))).symm Z0_469 V420_470 V468
                          · refine Got.step (T' := T502) (g' := (mkF m 309 #[.val (.int p0), .val (.int p1), .val (.int p2), .val (.int p3), .val (.int p4), .val (.int (Int32.ofNat N)), .val (.ref b390), .val (.ref b392), .val (.int k426_0), .val (.int (Int32.ofNat mn)), .val (.int (Int32.ofNat (mn + 1))), .val (.int (f2 (Int32.ofNat (mn + 1)) (Int32.ofNat N))), .val (.int (2 : Int32)), .unset] [])) (fun tq kt => ?_) ?_
                            · show Steps p.tables e below (T502.setTop (mkF m 272 #[.val (.int p0), .val (.int p1), .val (.int p2), .val (.int p3), .val (.int p4), .val (.int (Int32.ofNat N)), .val (.ref b390), .val (.ref b392), .val (.int k426_0), .val (.int (Int32.ofNat mn)), .val (.int (Int32.ofNat (mn + 1))), .val (.int (f2 (Int32.ofNat (mn + 1)) (Int32.ofNat N))), .unset, .unset] [(.int (fE2 (p2 + (f1 (p3 &&& (3 : Int32)))) y399_b390_1 y408_b390_2 y417_b390_3 (S0.set mn k426_0) (mn + 1)))])) _
                              refine XS.ifNo X502.here hx rfl (hb hby at_272) rfl (XT.i0_eq_f hc503) ?_
                              show Steps p.tables e below (T502.setTop (mkF m 275 #[.val (.int p0), .val (.int p1), .val (.int p2), .val (.int p3), .val (.int p4), .val (.int (Int32.ofNat N)), .val (.ref b390), .val (.ref b392), .val (.int k426_0), .val (.int (Int32.ofNat mn)), .val (.int (Int32.ofNat (mn + 1))), .val (.int (f2 (Int32.ofNat (mn + 1)) (Int32.ofNat N))), .unset, .unset] [])) _
                              refine XS.iconst X502.here hx rfl (hb hby at_275) ?_
                              show Steps p.tables e below (T502.setTop (mkF m 276 #[.val (.int p0), .val (.int p1), .val (.int p2), .val (.int p3), .val (.int p4), .val (.int (Int32.ofNat N)), .val (.ref b390), .val (.ref b392), .val (.int k426_0), .val (.int (Int32.ofNat mn)), .val (.int (Int32.ofNat (mn + 1))), .val (.int (f2 (Int32.ofNat (mn + 1)) (Int32.ofNat N))), .unset, .unset] [(.int (2 : Int32))])) _
                              refine XS.istore X502.here hx rfl (hb hby at_276) rfl (l' := #[.val (.int p0), .val (.int p1), .val (.int p2), .val (.int p3), .val (.int p4), .val (.int (Int32.ofNat N)), .val (.ref b390), .val (.ref b392), .val (.int k426_0), .val (.int (Int32.ofNat mn)), .val (.int (Int32.ofNat (mn + 1))), .val (.int (f2 (Int32.ofNat (mn + 1)) (Int32.ofNat N))), .val (.int (2 : Int32)), .unset]) rfl ?_
                              show Steps p.tables e below (T502.setTop (mkF m 278 #[.val (.int p0), .val (.int p1), .val (.int p2), .val (.int p3), .val (.int p4), .val (.int (Int32.ofNat N)), .val (.ref b390), .val (.ref b392), .val (.int k426_0), .val (.int (Int32.ofNat mn)), .val (.int (Int32.ofNat (mn + 1))), .val (.int (f2 (Int32.ofNat (mn + 1)) (Int32.ofNat N))), .val (.int (2 : Int32)), .unset] [])) _
                              refine XS.goto X502.here hx rfl (pc0 := 278) (pc' := 309) rfl (hb hby at_278) (by decide) (by decide) ?_
                              exact kt
                            exact J472 _ _ _ (X502.more (by decide) (by decide)) e502 N502 (2 : Int32) ((if_neg hc473).trans ((if_pos hc496).trans ((if_pos hc497).trans ((if_neg hc498).trans (if_neg hc503))))).symm Z0_469 V420_470 V468
                      · refine Got.step (T' := T495) (g' := (mkF m 244 #[.val (.int p0), .val (.int p1), .val (.int p2), .val (.int p3), .val (.int p4), .val (.int (Int32.ofNat N)), .val (.ref b390), .val (.ref b392), .val (.int k426_0), .val (.int (Int32.ofNat mn)), .val (.int (Int32.ofNat (mn + 1))), .val (.int (f2 (Int32.ofNat (mn + 1)) (Int32.ofNat N))), .unset, .unset] [(.int (3 : Int32)), (.int (Int32.ofNat (mn + 1))), (.ref b392), (.ref b390)])) (fun tq kt => ?_) ?_
                        · show Steps p.tables e below (T495.setTop (mkF m 234 #[.val (.int p0), .val (.int p1), .val (.int p2), .val (.int p3), .val (.int p4), .val (.int (Int32.ofNat N)), .val (.ref b390), .val (.ref b392), .val (.int k426_0), .val (.int (Int32.ofNat mn)), .val (.int (Int32.ofNat (mn + 1))), .val (.int (f2 (Int32.ofNat (mn + 1)) (Int32.ofNat N))), .unset, .unset] [(.int (3 : Int32)), (.int (f2 (Int32.ofNat (mn + 1)) (Int32.ofNat N)))])) _
                          refine XS.icmpNo X495.here hx rfl (hb hby at_234) rfl (XT.ii_lt_f hc497) ?_
                          show Steps p.tables e below (T495.setTop (mkF m 237 #[.val (.int p0), .val (.int p1), .val (.int p2), .val (.int p3), .val (.int p4), .val (.int (Int32.ofNat N)), .val (.ref b390), .val (.ref b392), .val (.int k426_0), .val (.int (Int32.ofNat mn)), .val (.int (Int32.ofNat (mn + 1))), .val (.int (f2 (Int32.ofNat (mn + 1)) (Int32.ofNat N))), .unset, .unset] [])) _
                          refine XS.aload X495.here hx rfl (hb hby at_237) rfl rfl ?_
                          show Steps p.tables e below (T495.setTop (mkF m 239 #[.val (.int p0), .val (.int p1), .val (.int p2), .val (.int p3), .val (.int p4), .val (.int (Int32.ofNat N)), .val (.ref b390), .val (.ref b392), .val (.int k426_0), .val (.int (Int32.ofNat mn)), .val (.int (Int32.ofNat (mn + 1))), .val (.int (f2 (Int32.ofNat (mn + 1)) (Int32.ofNat N))), .unset, .unset] [(.ref b390)])) _
                          refine XS.aload X495.here hx rfl (hb hby at_239) rfl rfl ?_
                          show Steps p.tables e below (T495.setTop (mkF m 241 #[.val (.int p0), .val (.int p1), .val (.int p2), .val (.int p3), .val (.int p4), .val (.int (Int32.ofNat N)), .val (.ref b390), .val (.ref b392), .val (.int k426_0), .val (.int (Int32.ofNat mn)), .val (.int (Int32.ofNat (mn + 1))), .val (.int (f2 (Int32.ofNat (mn + 1)) (Int32.ofNat N))), .unset, .unset] [(.ref b392), (.ref b390)])) _
                          refine XS.iload X495.here hx rfl (hb hby at_241) rfl ?_
                          show Steps p.tables e below (T495.setTop (mkF m 243 #[.val (.int p0), .val (.int p1), .val (.int p2), .val (.int p3), .val (.int p4), .val (.int (Int32.ofNat N)), .val (.ref b390), .val (.ref b392), .val (.int k426_0), .val (.int (Int32.ofNat mn)), .val (.int (Int32.ofNat (mn + 1))), .val (.int (f2 (Int32.ofNat (mn + 1)) (Int32.ofNat N))), .unset, .unset] [(.int (Int32.ofNat (mn + 1))), (.ref b392), (.ref b390)])) _
                          refine XS.iconst X495.here hx rfl (hb hby at_243) ?_
                          exact kt
                        obtain ⟨_, _, ⟨T507, L507, k507, n507⟩, -, X507, ⟨Lc507, hQ507, l507, y507, z507⟩, st507⟩ := Jvm.LawKit.callS X495 hx (y := (⟨"com/example/sidestep/sidestep/CompiledPatternAdvancePinLaw", "ends", "([I[III)Z"⟩ : MethodName)) hown (mvT hZ (hw _ (List.mem_of_getElem? (i := 10) rfl))) (mvT hZ (hw _ (List.mem_of_getElem? (i := 11) rfl))) (mvT hZ (hw _ (List.mem_of_getElem? (i := 3) rfl))) (mvT hZ (hw _ (List.mem_of_getElem? (i := 12) rfl))) (by decide) (backOf (W := 0) (rmE3 l Z a0 hw [] b390 b392 (mn + 1) (p2 + (f1 (p3 &&& (3 : Int32)))) y399_b390_1 y408_b390_2 y417_b390_3 (S0.set mn k426_0) k390 k392 N h468 n0 Z0_469 V420_470 V468 (own_q3 hN hmn hc497).1 (own_q3 hN hmn hc497).2) hZ (hw _ (List.mem_of_getElem? (i := 12) rfl)) (hw _ (List.mem_of_getElem? (i := 3) rfl)) (by decide) (by decide)) (g := (mkF m 244 #[.val (.int p0), .val (.int p1), .val (.int p2), .val (.int p3), .val (.int p4), .val (.int (Int32.ofNat N)), .val (.ref b390), .val (.ref b392), .val (.int k426_0), .val (.int (Int32.ofNat mn)), .val (.int (Int32.ofNat (mn + 1))), .val (.int (f2 (Int32.ofNat (mn + 1)) (Int32.ofNat N))), .unset, .unset] [(.int (3 : Int32)), (.int (Int32.ofNat (mn + 1))), (.ref b392), (.ref b390)])) rfl (by rw [hml]; rfl) (argsL := [(.ref b390), (.ref b392), (.int (Int32.ofNat (mn + 1))), (.int (3 : Int32))]) (rest := []) (lenOf pd_3 rfl) rfl (by show 2 * 0 + _ ≤ _; exact Nat.le_of_eq rfl) (hb hby at_244) (fun _ _ => ⟨rfl, e495, (by decide : 2 + 0 ≤ _), (by decide : 9 + 0 ≤ _)⟩)
                        dsimp only [Pt.U, Pt.locs, Pt.cells, Pt.slots] at X507 l507 y507 z507 st507 hQ507
                        subst y507 z507
                        obtain ⟨rfl, Nq507, e507⟩ := hQ507
                        have N507 : Fr n0 L507 := by rw [l507]; exact Fr.app N495 Nq507
                        refine Got.step st507 ?_
                        show Got p e below s _ _ _ _ T507 (mkF m 247 #[.val (.int p0), .val (.int p1), .val (.int p2), .val (.int p3), .val (.int p4), .val (.int (Int32.ofNat N)), .val (.ref b390), .val (.ref b392), .val (.int k426_0), .val (.int (Int32.ofNat mn)), .val (.int (Int32.ofNat (mn + 1))), .val (.int (f2 (Int32.ofNat (mn + 1)) (Int32.ofNat N))), .unset, .unset] [(.int (fE3 (p2 + (f1 (p3 &&& (3 : Int32)))) y399_b390_1 y408_b390_2 y417_b390_3 (S0.set mn k426_0) (mn + 1)))])
                        by_cases hc508 : ((fE3 (p2 + (f1 (p3 &&& (3 : Int32)))) y399_b390_1 y408_b390_2 y417_b390_3 (S0.set mn k426_0) (mn + 1)) = 0)
                        · refine Got.step (T' := T507) (g' := (mkF m 259 #[.val (.int p0), .val (.int p1), .val (.int p2), .val (.int p3), .val (.int p4), .val (.int (Int32.ofNat N)), .val (.ref b390), .val (.ref b392), .val (.int k426_0), .val (.int (Int32.ofNat mn)), .val (.int (Int32.ofNat (mn + 1))), .val (.int (f2 (Int32.ofNat (mn + 1)) (Int32.ofNat N))), .unset, .unset] [(.int (2 : Int32)), (.int (f2 (Int32.ofNat (mn + 1)) (Int32.ofNat N)))])) (fun tq kt => ?_) ?_
                          · show Steps p.tables e below (T507.setTop (mkF m 247 #[.val (.int p0), .val (.int p1), .val (.int p2), .val (.int p3), .val (.int p4), .val (.int (Int32.ofNat N)), .val (.ref b390), .val (.ref b392), .val (.int k426_0), .val (.int (Int32.ofNat mn)), .val (.int (Int32.ofNat (mn + 1))), .val (.int (f2 (Int32.ofNat (mn + 1)) (Int32.ofNat N))), .unset, .unset] [(.int (fE3 (p2 + (f1 (p3 &&& (3 : Int32)))) y399_b390_1 y408_b390_2 y417_b390_3 (S0.set mn k426_0) (mn + 1)))])) _
                            refine XS.ifYes X507.here hx rfl (pc0 := 247) (pc' := 256) rfl (hb hby at_247) rfl (XT.i0_eq_t hc508) (by decide) (by decide) ?_
                            show Steps p.tables e below (T507.setTop (mkF m 256 #[.val (.int p0), .val (.int p1), .val (.int p2), .val (.int p3), .val (.int p4), .val (.int (Int32.ofNat N)), .val (.ref b390), .val (.ref b392), .val (.int k426_0), .val (.int (Int32.ofNat mn)), .val (.int (Int32.ofNat (mn + 1))), .val (.int (f2 (Int32.ofNat (mn + 1)) (Int32.ofNat N))), .unset, .unset] [])) _
                            refine XS.iload X507.here hx rfl (hb hby at_256) rfl ?_
                            show Steps p.tables e below (T507.setTop (mkF m 258 #[.val (.int p0), .val (.int p1), .val (.int p2), .val (.int p3), .val (.int p4), .val (.int (Int32.ofNat N)), .val (.ref b390), .val (.ref b392), .val (.int k426_0), .val (.int (Int32.ofNat mn)), .val (.int (Int32.ofNat (mn + 1))), .val (.int (f2 (Int32.ofNat (mn + 1)) (Int32.ofNat N))), .unset, .unset] [(.int (f2 (Int32.ofNat (mn + 1)) (Int32.ofNat N)))])) _
                            refine XS.iconst X507.here hx rfl (hb hby at_258) ?_
                            exact kt
                          by_cases hc509 : ((f2 (Int32.ofNat (mn + 1)) (Int32.ofNat N)) < (2 : Int32))
                          · refine Got.step (T' := T507) (g' := (mkF m 284 #[.val (.int p0), .val (.int p1), .val (.int p2), .val (.int p3), .val (.int p4), .val (.int (Int32.ofNat N)), .val (.ref b390), .val (.ref b392), .val (.int k426_0), .val (.int (Int32.ofNat mn)), .val (.int (Int32.ofNat (mn + 1))), .val (.int (f2 (Int32.ofNat (mn + 1)) (Int32.ofNat N))), .unset, .unset] [(.int (1 : Int32)), (.int (f2 (Int32.ofNat (mn + 1)) (Int32.ofNat N)))])) (fun tq kt => ?_) ?_
                            · show Steps p.tables e below (T507.setTop (mkF m 259 #[.val (.int p0), .val (.int p1), .val (.int p2), .val (.int p3), .val (.int p4), .val (.int (Int32.ofNat N)), .val (.ref b390), .val (.ref b392), .val (.int k426_0), .val (.int (Int32.ofNat mn)), .val (.int (Int32.ofNat (mn + 1))), .val (.int (f2 (Int32.ofNat (mn + 1)) (Int32.ofNat N))), .unset, .unset] [(.int (2 : Int32)), (.int (f2 (Int32.ofNat (mn + 1)) (Int32.ofNat N)))])) _
                              refine XS.icmpYes X507.here hx rfl (pc0 := 259) (pc' := 281) rfl (hb hby at_259) rfl (XT.ii_lt_t hc509) (by decide) (by decide) ?_
                              show Steps p.tables e below (T507.setTop (mkF m 281 #[.val (.int p0), .val (.int p1), .val (.int p2), .val (.int p3), .val (.int p4), .val (.int (Int32.ofNat N)), .val (.ref b390), .val (.ref b392), .val (.int k426_0), .val (.int (Int32.ofNat mn)), .val (.int (Int32.ofNat (mn + 1))), .val (.int (f2 (Int32.ofNat (mn + 1)) (Int32.ofNat N))), .unset, .unset] [])) _
                              refine XS.iload X507.here hx rfl (hb hby at_281) rfl ?_
                              show Steps p.tables e below (T507.setTop (mkF m 283 #[.val (.int p0), .val (.int p1), .val (.int p2), .val (.int p3), .val (.int p4), .val (.int (Int32.ofNat N)), .val (.ref b390), .val (.ref b392), .val (.int k426_0), .val (.int (Int32.ofNat mn)), .val (.int (Int32.ofNat (mn + 1))), .val (.int (f2 (Int32.ofNat (mn + 1)) (Int32.ofNat N))), .unset, .unset] [(.int (f2 (Int32.ofNat (mn + 1)) (Int32.ofNat N)))])) _
                              refine XS.iconst X507.here hx rfl (hb hby at_283) ?_
                              exact kt
                            by_cases hc510 : ((f2 (Int32.ofNat (mn + 1)) (Int32.ofNat N)) < (1 : Int32))
                            · refine Got.step (T' := T507) (g' := (mkF m 309 #[.val (.int p0), .val (.int p1), .val (.int p2), .val (.int p3), .val (.int p4), .val (.int (Int32.ofNat N)), .val (.ref b390), .val (.ref b392), .val (.int k426_0), .val (.int (Int32.ofNat mn)), .val (.int (Int32.ofNat (mn + 1))), .val (.int (f2 (Int32.ofNat (mn + 1)) (Int32.ofNat N))), .val (.int (0 : Int32)), .unset] [])) (fun tq kt => ?_) ?_
                              · show Steps p.tables e below (T507.setTop (mkF m 284 #[.val (.int p0), .val (.int p1), .val (.int p2), .val (.int p3), .val (.int p4), .val (.int (Int32.ofNat N)), .val (.ref b390), .val (.ref b392), .val (.int k426_0), .val (.int (Int32.ofNat mn)), .val (.int (Int32.ofNat (mn + 1))), .val (.int (f2 (Int32.ofNat (mn + 1)) (Int32.ofNat N))), .unset, .unset] [(.int (1 : Int32)), (.int (f2 (Int32.ofNat (mn + 1)) (Int32.ofNat N)))])) _
                                refine XS.icmpYes X507.here hx rfl (pc0 := 284) (pc' := 306) rfl (hb hby at_284) rfl (XT.ii_lt_t hc510) (by decide) (by decide) ?_
                                show Steps p.tables e below (T507.setTop (mkF m 306 #[.val (.int p0), .val (.int p1), .val (.int p2), .val (.int p3), .val (.int p4), .val (.int (Int32.ofNat N)), .val (.ref b390), .val (.ref b392), .val (.int k426_0), .val (.int (Int32.ofNat mn)), .val (.int (Int32.ofNat (mn + 1))), .val (.int (f2 (Int32.ofNat (mn + 1)) (Int32.ofNat N))), .unset, .unset] [])) _
                                refine XS.iconst X507.here hx rfl (hb hby at_306) ?_
                                show Steps p.tables e below (T507.setTop (mkF m 307 #[.val (.int p0), .val (.int p1), .val (.int p2), .val (.int p3), .val (.int p4), .val (.int (Int32.ofNat N)), .val (.ref b390), .val (.ref b392), .val (.int k426_0), .val (.int (Int32.ofNat mn)), .val (.int (Int32.ofNat (mn + 1))), .val (.int (f2 (Int32.ofNat (mn + 1)) (Int32.ofNat N))), .unset, .unset] [(.int (0 : Int32))])) _
                                refine XS.istore X507.here hx rfl (hb hby at_307) rfl (l' := #[.val (.int p0), .val (.int p1), .val (.int p2), .val (.int p3), .val (.int p4), .val (.int (Int32.ofNat N)), .val (.ref b390), .val (.ref b392), .val (.int k426_0), .val (.int (Int32.ofNat mn)), .val (.int (Int32.ofNat (mn + 1))), .val (.int (f2 (Int32.ofNat (mn + 1)) (Int32.ofNat N))), .val (.int (0 : Int32)), .unset]) rfl ?_
                                exact kt
                              exact J472 _ _ _ (X507.more (by decide) (by decide)) e507 N507 (0 : Int32) ((if_neg hc473).trans ((if_pos hc496).trans ((if_neg hc497).trans ((if_pos hc508).trans ((if_pos hc509).trans (if_pos hc510)))))).symm Z0_469 V420_470 V468
                            · refine Got.step (T' := T507) (g' := (mkF m 294 #[.val (.int p0), .val (.int p1), .val (.int p2), .val (.int p3), .val (.int p4), .val (.int (Int32.ofNat N)), .val (.ref b390), .val (.ref b392), .val (.int k426_0), .val (.int (Int32.ofNat mn)), .val (.int (Int32.ofNat (mn + 1))), .val (.int (f2 (Int32.ofNat (mn + 1)) (Int32.ofNat N))), .unset, .unset] [(.int (1 : Int32)), (.int (Int32.ofNat (mn + 1))), (.ref b392), (.ref b390)])) (fun tq kt => ?_) ?_
                              · show Steps p.tables e below (T507.setTop (mkF m 284 #[.val (.int p0), .val (.int p1), .val (.int p2), .val (.int p3), .val (.int p4), .val (.int (Int32.ofNat N)), .val (.ref b390), .val (.ref b392), .val (.int k426_0), .val (.int (Int32.ofNat mn)), .val (.int (Int32.ofNat (mn + 1))), .val (.int (f2 (Int32.ofNat (mn + 1)) (Int32.ofNat N))), .unset, .unset] [(.int (1 : Int32)), (.int (f2 (Int32.ofNat (mn + 1)) (Int32.ofNat N)))])) _
                                refine XS.icmpNo X507.here hx rfl (hb hby at_284) rfl (XT.ii_lt_f hc510) ?_
                                show Steps p.tables e below (T507.setTop (mkF m 287 #[.val (.int p0), .val (.int p1), .val (.int p2), .val (.int p3), .val (.int p4), .val (.int (Int32.ofNat N)), .val (.ref b390), .val (.ref b392), .val (.int k426_0), .val (.int (Int32.ofNat mn)), .val (.int (Int32.ofNat (mn + 1))), .val (.int (f2 (Int32.ofNat (mn + 1)) (Int32.ofNat N))), .unset, .unset] [])) _
                                refine XS.aload X507.here hx rfl (hb hby at_287) rfl rfl ?_
                                show Steps p.tables e below (T507.setTop (mkF m 289 #[.val (.int p0), .val (.int p1), .val (.int p2), .val (.int p3), .val (.int p4), .val (.int (Int32.ofNat N)), .val (.ref b390), .val (.ref b392), .val (.int k426_0), .val (.int (Int32.ofNat mn)), .val (.int (Int32.ofNat (mn + 1))), .val (.int (f2 (Int32.ofNat (mn + 1)) (Int32.ofNat N))), .unset, .unset] [(.ref b390)])) _
                                refine XS.aload X507.here hx rfl (hb hby at_289) rfl rfl ?_
                                show Steps p.tables e below (T507.setTop (mkF m 291 #[.val (.int p0), .val (.int p1), .val (.int p2), .val (.int p3), .val (.int p4), .val (.int (Int32.ofNat N)), .val (.ref b390), .val (.ref b392), .val (.int k426_0), .val (.int (Int32.ofNat mn)), .val (.int (Int32.ofNat (mn + 1))), .val (.int (f2 (Int32.ofNat (mn + 1)) (Int32.ofNat N))), .unset, .unset] [(.ref b392), (.ref b390)])) _
                                refine XS.iload X507.here hx rfl (hb hby at_291) rfl ?_
                                show Steps p.tables e below (T507.setTop (mkF m 293 #[.val (.int p0), .val (.int p1), .val (.int p2), .val (.int p3), .val (.int p4), .val (.int (Int32.ofNat N)), .val (.ref b390), .val (.ref b392), .val (.int k426_0), .val (.int (Int32.ofNat mn)), .val (.int (Int32.ofNat (mn + 1))), .val (.int (f2 (Int32.ofNat (mn + 1)) (Int32.ofNat N))), .unset, .unset] [(.int (Int32.ofNat (mn + 1))), (.ref b392), (.ref b390)])) _
                                refine XS.iconst X507.here hx rfl (hb hby at_293) ?_
                                exact kt
                              obtain ⟨_, _, ⟨T511, L511, k511, n511⟩, -, X511, ⟨Lc511, hQ511, l511, y511, z511⟩, st511⟩ := Jvm.LawKit.callS X507 hx (y := (⟨"com/example/sidestep/sidestep/CompiledPatternAdvancePinLaw", "ends", "([I[III)Z"⟩ : MethodName)) hown (mvT hZ (hw _ (List.mem_of_getElem? (i := 10) rfl))) (mvT hZ (hw _ (List.mem_of_getElem? (i := 11) rfl))) (mvT hZ (hw _ (List.mem_of_getElem? (i := 3) rfl))) (mvT hZ (hw _ (List.mem_of_getElem? (i := 12) rfl))) (by decide) (backOf (W := 0) (rmE1 l Z a0 hw [] b390 b392 (mn + 1) (p2 + (f1 (p3 &&& (3 : Int32)))) y399_b390_1 y408_b390_2 y417_b390_3 (S0.set mn k426_0) k390 k392 N h468 n0 Z0_469 V420_470 V468 (own_q1 hN hmn hc510).1 (own_q1 hN hmn hc510).2) hZ (hw _ (List.mem_of_getElem? (i := 12) rfl)) (hw _ (List.mem_of_getElem? (i := 3) rfl)) (by decide) (by decide)) (g := (mkF m 294 #[.val (.int p0), .val (.int p1), .val (.int p2), .val (.int p3), .val (.int p4), .val (.int (Int32.ofNat N)), .val (.ref b390), .val (.ref b392), .val (.int k426_0), .val (.int (Int32.ofNat mn)), .val (.int (Int32.ofNat (mn + 1))), .val (.int (f2 (Int32.ofNat (mn + 1)) (Int32.ofNat N))), .unset, .unset] [(.int (1 : Int32)), (.int (Int32.ofNat (mn + 1))), (.ref b392), (.ref b390)])) rfl (by rw [hml]; rfl) (argsL := [(.ref b390), (.ref b392), (.int (Int32.ofNat (mn + 1))), (.int (1 : Int32))]) (rest := []) (lenOf pd_3 rfl) rfl (by show 2 * 0 + _ ≤ _; exact Nat.le_of_eq rfl) (hb hby at_294) (fun _ _ => ⟨rfl, e507, (by decide : 2 + 0 ≤ _), (by decide : 9 + 0 ≤ _)⟩)
                              dsimp only [Pt.U, Pt.locs, Pt.cells, Pt.slots] at X511 l511 y511 z511 st511 hQ511
                              subst y511 z511
                              obtain ⟨rfl, Nq511, e511⟩ := hQ511
                              have N511 : Fr n0 L511 := by rw [l511]; exact Fr.app N507 Nq511
                              refine Got.step st511 ?_
                              show Got p e below s _ _ _ _ T511 (mkF m 297 #[.val (.int p0), .val (.int p1), .val (.int p2), .val (.int p3), .val (.int p4), .val (.int (Int32.ofNat N)), .val (.ref b390), .val (.ref b392), .val (.int k426_0), .val (.int (Int32.ofNat mn)), .val (.int (Int32.ofNat (mn + 1))), .val (.int (f2 (Int32.ofNat (mn + 1)) (Int32.ofNat N))), .unset, .unset] [(.int (fE1 (p2 + (f1 (p3 &&& (3 : Int32)))) y399_b390_1 y408_b390_2 y417_b390_3 (S0.set mn k426_0) (mn + 1)))])
                              by_cases hc512 : ((fE1 (p2 + (f1 (p3 &&& (3 : Int32)))) y399_b390_1 y408_b390_2 y417_b390_3 (S0.set mn k426_0) (mn + 1)) = 0)
                              · refine Got.step (T' := T511) (g' := (mkF m 309 #[.val (.int p0), .val (.int p1), .val (.int p2), .val (.int p3), .val (.int p4), .val (.int (Int32.ofNat N)), .val (.ref b390), .val (.ref b392), .val (.int k426_0), .val (.int (Int32.ofNat mn)), .val (.int (Int32.ofNat (mn + 1))), .val (.int (f2 (Int32.ofNat (mn + 1)) (Int32.ofNat N))), .val (.int (0 : Int32)), .unset] [])) (fun tq kt => ?_) ?_
                                · show Steps p.tables e below (T511.setTop (mkF m 297 #[.val (.int p0), .val (.int p1), .val (.int p2), .val (.int p3), .val (.int p4), .val (.int (Int32.ofNat N)), .val (.ref b390), .val (.ref b392), .val (.int k426_0), .val (.int (Int32.ofNat mn)), .val (.int (Int32.ofNat (mn + 1))), .val (.int (f2 (Int32.ofNat (mn + 1)) (Int32.ofNat N))), .unset, .unset] [(.int (fE1 (p2 + (f1 (p3 &&& (3 : Int32)))) y399_b390_1 y408_b390_2 y417_b390_3 (S0.set mn k426_0) (mn + 1)))])) _
                                  refine XS.ifYes X511.here hx rfl (pc0 := 297) (pc' := 306) rfl (hb hby at_297) rfl (XT.i0_eq_t hc512) (by decide) (by decide) ?_
                                  show Steps p.tables e below (T511.setTop (mkF m 306 #[.val (.int p0), .val (.int p1), .val (.int p2), .val (.int p3), .val (.int p4), .val (.int (Int32.ofNat N)), .val (.ref b390), .val (.ref b392), .val (.int k426_0), .val (.int (Int32.ofNat mn)), .val (.int (Int32.ofNat (mn + 1))), .val (.int (f2 (Int32.ofNat (mn + 1)) (Int32.ofNat N))), .unset, .unset] [])) _
                                  refine XS.iconst X511.here hx rfl (hb hby at_306) ?_
                                  show Steps p.tables e below (T511.setTop (mkF m 307 #[.val (.int p0), .val (.int p1), .val (.int p2), .val (.int p3), .val (.int p4), .val (.int (Int32.ofNat N)), .val (.ref b390), .val (.ref b392), .val (.int k426_0), .val (.int (Int32.ofNat mn)), .val (.int (Int32.ofNat (mn + 1))), .val (.int (f2 (Int32.ofNat (mn + 1)) (Int32.ofNat N))), .unset, .unset] [(.int (0 : Int32))])) _
                                  refine XS.istore X511.here hx rfl (hb hby at_307) rfl (l' := #[.val (.int p0), .val (.int p1), .val (.int p2), .val (.int p3), .val (.int p4), .val (.int (Int32.ofNat N)), .val (.ref b390), .val (.ref b392), .val (.int k426_0), .val (.int (Int32.ofNat mn)), .val (.int (Int32.ofNat (mn + 1))), .val (.int (f2 (Int32.ofNat (mn + 1)) (Int32.ofNat N))), .val (.int (0 : Int32)), .unset]) rfl ?_
                                  exact kt
                                exact J472 _ _ _ (X511.more (by decide) (by decide)) e511 N511 (0 : Int32) ((if_neg hc473).trans ((if_pos hc496).trans ((if_neg hc497).trans ((if_pos hc508).trans ((if_pos hc509).trans ((if_neg hc510).trans (if_pos hc512))))))).symm Z0_469 V420_470 V468
                              · refine Got.step (T' := T511) (g' := (mkF m 309 #[.val (.int p0), .val (.int p1), .val (.int p2), .val (.int p3), .val (.int p4), .val (.int (Int32.ofNat N)), .val (.ref b390), .val (.ref b392), .val (.int k426_0), .val (.int (Int32.ofNat mn)), .val (.int (Int32.ofNat (mn + 1))), .val (.int (f2 (Int32.ofNat (mn + 1)) (Int32.ofNat N))), .val (.int (1 : Int32)), .unset] [])) (fun tq kt => ?_) ?_
                                · show Steps p.tables e below (T511.setTop (mkF m 297 #[.val (.int p0), .val (.int p1), .val (.int p2), .val (.int p3), .val (.int p4), .val (.int (Int32.ofNat N)), .val (.ref b390), .val (.ref b392), .val (.int k426_0), .val (.int (Int32.ofNat mn)), .val (.int (Int32.ofNat (mn + 1))), .val (.int (f2 (Int32.ofNat (mn + 1)) (Int32.ofNat N))), .unset, .unset] [(.int (fE1 (p2 + (f1 (p3 &&& (3 : Int32)))) y399_b390_1 y408_b390_2 y417_b390_3 (S0.set mn k426_0) (mn + 1)))])) _
                                  refine XS.ifNo X511.here hx rfl (hb hby at_297) rfl (XT.i0_eq_f hc512) ?_
                                  show Steps p.tables e below (T511.setTop (mkF m 300 #[.val (.int p0), .val (.int p1), .val (.int p2), .val (.int p3), .val (.int p4), .val (.int (Int32.ofNat N)), .val (.ref b390), .val (.ref b392), .val (.int k426_0), .val (.int (Int32.ofNat mn)), .val (.int (Int32.ofNat (mn + 1))), .val (.int (f2 (Int32.ofNat (mn + 1)) (Int32.ofNat N))), .unset, .unset] [])) _
                                  refine XS.iconst X511.here hx rfl (hb hby at_300) ?_
                                  show Steps p.tables e below (T511.setTop (mkF m 301 #[.val (.int p0), .val (.int p1), .val (.int p2), .val (.int p3), .val (.int p4), .val (.int (Int32.ofNat N)), .val (.ref b390), .val (.ref b392), .val (.int k426_0), .val (.int (Int32.ofNat mn)), .val (.int (Int32.ofNat (mn + 1))), .val (.int (f2 (Int32.ofNat (mn + 1)) (Int32.ofNat N))), .unset, .unset] [(.int (1 : Int32))])) _
                                  refine XS.istore X511.here hx rfl (hb hby at_301) rfl (l' := #[.val (.int p0), .val (.int p1), .val (.int p2), .val (.int p3), .val (.int p4), .val (.int (Int32.ofNat N)), .val (.ref b390), .val (.ref b392), .val (.int k426_0), .val (.int (Int32.ofNat mn)), .val (.int (Int32.ofNat (mn + 1))), .val (.int (f2 (Int32.ofNat (mn + 1)) (Int32.ofNat N))), .val (.int (1 : Int32)), .unset]) rfl ?_
                                  show Steps p.tables e below (T511.setTop (mkF m 303 #[.val (.int p0), .val (.int p1), .val (.int p2), .val (.int p3), .val (.int p4), .val (.int (Int32.ofNat N)), .val (.ref b390), .val (.ref b392), .val (.int k426_0), .val (.int (Int32.ofNat mn)), .val (.int (Int32.ofNat (mn + 1))), .val (.int (f2 (Int32.ofNat (mn + 1)) (Int32.ofNat N))), .val (.int (1 : Int32)), .unset] [])) _
                                  refine XS.goto X511.here hx rfl (pc0 := 303) (pc' := 309) rfl (hb hby at_303) (by decide) (by decide) ?_
                                  exact kt
                                exact J472 _ _ _ (X511.more (by decide) (by decide)) e511 N511 (1 : Int32) ((if_neg hc473).trans ((if_pos hc496).trans ((if_neg hc497).trans ((if_pos hc508).trans ((if_pos hc509).trans ((if_neg hc510).trans (if_neg hc512))))))).symm Z0_469 V420_470 V468
                          · refine Got.step (T' := T507) (g' := (mkF m 269 #[.val (.int p0), .val (.int p1), .val (.int p2), .val (.int p3), .val (.int p4), .val (.int (Int32.ofNat N)), .val (.ref b390), .val (.ref b392), .val (.int k426_0), .val (.int (Int32.ofNat mn)), .val (.int (Int32.ofNat (mn + 1))), .val (.int (f2 (Int32.ofNat (mn + 1)) (Int32.ofNat N))), .unset, .unset] [(.int (2 : Int32)), (.int (Int32.ofNat (mn + 1))), (.ref b392), (.ref b390)])) (fun tq kt => ?_) ?_
                            · show Steps p.tables e below (T507.setTop (mkF m 259 #[.val (.int p0), .val (.int p1), .val (.int p2), .val (.int p3), .val (.int p4), .val (.int (Int32.ofNat N)), .val (.ref b390), .val (.ref b392), .val (.int k426_0), .val (.int (Int32.ofNat mn)), .val (.int (Int32.ofNat (mn + 1))), .val (.int (f2 (Int32.ofNat (mn + 1)) (Int32.ofNat N))), .unset, .unset] [(.int (2 : Int32)), (.int (f2 (Int32.ofNat (mn + 1)) (Int32.ofNat N)))])) _
                              refine XS.icmpNo X507.here hx rfl (hb hby at_259) rfl (XT.ii_lt_f hc509) ?_
                              show Steps p.tables e below (T507.setTop (mkF m 262 #[.val (.int p0), .val (.int p1), .val (.int p2), .val (.int p3), .val (.int p4), .val (.int (Int32.ofNat N)), .val (.ref b390), .val (.ref b392), .val (.int k426_0), .val (.int (Int32.ofNat mn)), .val (.int (Int32.ofNat (mn + 1))), .val (.int (f2 (Int32.ofNat (mn + 1)) (Int32.ofNat N))), .unset, .unset] [])) _
                              refine XS.aload X507.here hx rfl (hb hby at_262) rfl rfl ?_
                              show Steps p.tables e below (T507.setTop (mkF m 264 #[.val (.int p0), .val (.int p1), .val (.int p2), .val (.int p3), .val (.int p4), .val (.int (Int32.ofNat N)), .val (.ref b390), .val (.ref b392), .val (.int k426_0), .val (.int (Int32.ofNat mn)), .val (.int (Int32.ofNat (mn + 1))), .val (.int (f2 (Int32.ofNat (mn + 1)) (Int32.ofNat N))), .unset, .unset] [(.ref b390)])) _
                              refine XS.aload X507.here hx rfl (hb hby at_264) rfl rfl ?_
                              show Steps p.tables e below (T507.setTop (mkF m 266 #[.val (.int p0), .val (.int p1), .val (.int p2), .val (.int p3), .val (.int p4), .val (.int (Int32.ofNat N)), .val (.ref b390), .val (.ref b392), .val (.int k426_0), .val (.int (Int32.ofNat mn)), .val (.int (Int32.ofNat (mn + 1))), .val (.int (f2 (Int32.ofNat (mn + 1)) (Int32.ofNat N))), .unset, .unset] [(.ref b392), (.ref b390)])) _
                              refine XS.iload X507.here hx rfl (hb hby at_266) rfl ?_
                              show Steps p.tables e below (T507.setTop (mkF m 268 #[.val (.int p0), .val (.int p1), .val (.int p2), .val (.int p3), .val (.int p4), .val (.int (Int32.ofNat N)), .val (.ref b390), .val (.ref b392), .val (.int k426_0), .val (.int (Int32.ofNat mn)), .val (.int (Int32.ofNat (mn + 1))), .val (.int (f2 (Int32.ofNat (mn + 1)) (Int32.ofNat N))), .unset, .unset] [(.int (Int32.ofNat (mn + 1))), (.ref b392), (.ref b390)])) _
                              refine XS.iconst X507.here hx rfl (hb hby at_268) ?_
                              exact kt
                            obtain ⟨_, _, ⟨T513, L513, k513, n513⟩, -, X513, ⟨Lc513, hQ513, l513, y513, z513⟩, st513⟩ := Jvm.LawKit.callS X507 hx (y := (⟨"com/example/sidestep/sidestep/CompiledPatternAdvancePinLaw", "ends", "([I[III)Z"⟩ : MethodName)) hown (mvT hZ (hw _ (List.mem_of_getElem? (i := 10) rfl))) (mvT hZ (hw _ (List.mem_of_getElem? (i := 11) rfl))) (mvT hZ (hw _ (List.mem_of_getElem? (i := 3) rfl))) (mvT hZ (hw _ (List.mem_of_getElem? (i := 12) rfl))) (by decide) (backOf (W := 0) (rmE2 l Z a0 hw [] b390 b392 (mn + 1) (p2 + (f1 (p3 &&& (3 : Int32)))) y399_b390_1 y408_b390_2 y417_b390_3 (S0.set mn k426_0) k390 k392 N h468 n0 Z0_469 V420_470 V468 (own_q2 hN hmn hc509).1 (own_q2 hN hmn hc509).2) hZ (hw _ (List.mem_of_getElem? (i := 12) rfl)) (hw _ (List.mem_of_getElem? (i := 3) rfl)) (by decide) (by decide)) (g := (mkF m 269 #[.val (.int p0), .val (.int p1), .val (.int p2), .val (.int p3), .val (.int p4), .val (.int (Int32.ofNat N)), .val (.ref b390), .val (.ref b392), .val (.int k426_0), .val (.int (Int32.ofNat mn)), .val (.int (Int32.ofNat (mn + 1))), .val (.int (f2 (Int32.ofNat (mn + 1)) (Int32.ofNat N))), .unset, .unset] [(.int (2 : Int32)), (.int (Int32.ofNat (mn + 1))), (.ref b392), (.ref b390)])) rfl (by rw [hml]; rfl) (argsL := [(.ref b390), (.ref b392), (.int (Int32.ofNat (mn + 1))), (.int (2 : Int32))]) (rest := []) (lenOf pd_3 rfl) rfl (by show 2 * 0 + _ ≤ _; exact Nat.le_of_eq rfl) (hb hby at_269) (fun _ _ => ⟨rfl, e507, (by decide : 2 + 0 ≤ _), (by decide : 9 + 0 ≤ _)⟩)
                            dsimp only [Pt.U, Pt.locs, Pt.cells, Pt.slots] at X513 l513 y513 z513 st513 hQ513
                            subst y513 z513
                            obtain ⟨rfl, Nq513, e513⟩ := hQ513
                            have N513 : Fr n0 L513 := by rw [l513]; exact Fr.app N507 Nq513
                            refine Got.step st513 ?_
                            show Got p e below s _ _ _ _ T513 (mkF m 272 #[.val (.int p0), .val (.int p1), .val (.int p2), .val (.int p3), .val (.int p4), .val (.int (Int32.ofNat N)), .val (.ref b390), .val (.ref b392), .val (.int k426_0), .val (.int (Int32.ofNat mn)), .val (.int (Int32.ofNat (mn + 1))), .val (.int (f2 (Int32.ofNat (mn + 1)) (Int32.ofNat N))), .unset, .unset] [(.int (fE2 (p2 + (f1 (p3 &&& (3 : Int32)))) y399_b390_1 y408_b390_2 y417_b390_3 (S0.set mn k426_0) (mn + 1)))])
                            by_cases hc514 : ((fE2 (p2 + (f1 (p3 &&& (3 : Int32)))) y399_b390_1 y408_b390_2 y417_b390_3 (S0.set mn k426_0) (mn + 1)) = 0)
                            · refine Got.step (T' := T513) (g' := (mkF m 284 #[.val (.int p0), .val (.int p1), .val (.int p2), .val (.int p3), .val (.int p4), .val (.int (Int32.ofNat N)), .val (.ref b390), .val (.ref b392), .val (.int k426_0), .val (.int (Int32.ofNat mn)), .val (.int (Int32.ofNat (mn + 1))), .val (.int (f2 (Int32.ofNat (mn + 1)) (Int32.ofNat N))), .unset, .unset] [(.int (1 : Int32)), (.int (f2 (Int32.ofNat (mn + 1)) (Int32.ofNat N)))])) (fun tq kt => ?_) ?_
                              · show Steps p.tables e below (T513.setTop (mkF m 272 #[.val (.int p0), .val (.int p1), .val (.int p2), .val (.int p3), .val (.int p4), .val (.int (Int32.ofNat N)), .val (.ref b390), .val (.ref b392), .val (.int k426_0), .val (.int (Int32.ofNat mn)), .val (.int (Int32.ofNat (mn + 1))), .val (.int (f2 (Int32.ofNat (mn + 1)) (Int32.ofNat N))), .unset, .unset] [(.int (fE2 (p2 + (f1 (p3 &&& (3 : Int32)))) y399_b390_1 y408_b390_2 y417_b390_3 (S0.set mn k426_0) (mn + 1)))])) _
                                refine XS.ifYes X513.here hx rfl (pc0 := 272) (pc' := 281) rfl (hb hby at_272) rfl (XT.i0_eq_t hc514) (by decide) (by decide) ?_
                                show Steps p.tables e below (T513.setTop (mkF m 281 #[.val (.int p0), .val (.int p1), .val (.int p2), .val (.int p3), .val (.int p4), .val (.int (Int32.ofNat N)), .val (.ref b390), .val (.ref b392), .val (.int k426_0), .val (.int (Int32.ofNat mn)), .val (.int (Int32.ofNat (mn + 1))), .val (.int (f2 (Int32.ofNat (mn + 1)) (Int32.ofNat N))), .unset, .unset] [])) _
                                refine XS.iload X513.here hx rfl (hb hby at_281) rfl ?_
                                show Steps p.tables e below (T513.setTop (mkF m 283 #[.val (.int p0), .val (.int p1), .val (.int p2), .val (.int p3), .val (.int p4), .val (.int (Int32.ofNat N)), .val (.ref b390), .val (.ref b392), .val (.int k426_0), .val (.int (Int32.ofNat mn)), .val (.int (Int32.ofNat (mn + 1))), .val (.int (f2 (Int32.ofNat (mn + 1)) (Int32.ofNat N))), .unset, .unset] [(.int (f2 (Int32.ofNat (mn + 1)) (Int32.ofNat N)))])) _
                                refine XS.iconst X513.here hx rfl (hb hby at_283) ?_
                                exact kt
                              by_cases hc515 : ((f2 (Int32.ofNat (mn + 1)) (Int32.ofNat N)) < (1 : Int32))
                              · refine Got.step (T' := T513) (g' := (mkF m 309 #[.val (.int p0), .val (.int p1), .val (.int p2), .val (.int p3), .val (.int p4), .val (.int (Int32.ofNat N)), .val (.ref b390), .val (.ref b392), .val (.int k426_0), .val (.int (Int32.ofNat mn)), .val (.int (Int32.ofNat (mn + 1))), .val (.int (f2 (Int32.ofNat (mn + 1)) (Int32.ofNat N))), .val (.int (0 : Int32)), .unset] [])) (fun tq kt => ?_) ?_
                                · show Steps p.tables e below (T513.setTop (mkF m 284 #[.val (.int p0), .val (.int p1), .val (.int p2), .val (.int p3), .val (.int p4), .val (.int (Int32.ofNat N)), .val (.ref b390), .val (.ref b392), .val (.int k426_0), .val (.int (Int32.ofNat mn)), .val (.int (Int32.ofNat (mn + 1))), .val (.int (f2 (Int32.ofNat (mn + 1)) (Int32.ofNat N))), .unset, .unset] [(.int (1 : Int32)), (.int (f2 (Int32.ofNat (mn + 1)) (Int32.ofNat N)))])) _
                                  refine XS.icmpYes X513.here hx rfl (pc0 := 284) (pc' := 306) rfl (hb hby at_284) rfl (XT.ii_lt_t hc515) (by decide) (by decide) ?_
                                  show Steps p.tables e below (T513.setTop (mkF m 306 #[.val (.int p0), .val (.int p1), .val (.int p2), .val (.int p3), .val (.int p4), .val (.int (Int32.ofNat N)), .val (.ref b390), .val (.ref b392), .val (.int k426_0), .val (.int (Int32.ofNat mn)), .val (.int (Int32.ofNat (mn + 1))), .val (.int (f2 (Int32.ofNat (mn + 1)) (Int32.ofNat N))), .unset, .unset] [])) _
                                  refine XS.iconst X513.here hx rfl (hb hby at_306) ?_
                                  show Steps p.tables e below (T513.setTop (mkF m 307 #[.val (.int p0), .val (.int p1), .val (.int p2), .val (.int p3), .val (.int p4), .val (.int (Int32.ofNat N)), .val (.ref b390), .val (.ref b392), .val (.int k426_0), .val (.int (Int32.ofNat mn)), .val (.int (Int32.ofNat (mn + 1))), .val (.int (f2 (Int32.ofNat (mn + 1)) (Int32.ofNat N))), .unset, .unset] [(.int (0 : Int32))])) _
                                  refine XS.istore X513.here hx rfl (hb hby at_307) rfl (l' := #[.val (.int p0), .val (.int p1), .val (.int p2), .val (.int p3), .val (.int p4), .val (.int (Int32.ofNat N)), .val (.ref b390), .val (.ref b392), .val (.int k426_0), .val (.int (Int32.ofNat mn)), .val (.int (Int32.ofNat (mn + 1))), .val (.int (f2 (Int32.ofNat (mn + 1)) (Int32.ofNat N))), .val (.int (0 : Int32)), .unset]) rfl ?_
                                  exact kt
                                exact J472 _ _ _ (X513.more (by decide) (by decide)) e513 N513 (0 : Int32) ((if_neg hc473).trans ((if_pos hc496).trans ((if_neg hc497).trans ((if_pos hc508).trans ((if_neg hc509).trans ((if_pos hc514).trans (if_pos hc515))))))).symm Z0_469 V420_470 V468
                              · refine Got.step (T' := T513) (g' := (mkF m 294 #[.val (.int p0), .val (.int p1), .val (.int p2), .val (.int p3), .val (.int p4), .val (.int (Int32.ofNat N)), .val (.ref b390), .val (.ref b392), .val (.int k426_0), .val (.int (Int32.ofNat mn)), .val (.int (Int32.ofNat (mn + 1))), .val (.int (f2 (Int32.ofNat (mn + 1)) (Int32.ofNat N))), .unset, .unset] [(.int (1 : Int32)), (.int (Int32.ofNat (mn + 1))), (.ref b392), (.ref b390)])) (fun tq kt => ?_) ?_
                                · show Steps p.tables e below (T513.setTop (mkF m 284 #[.val (.int p0), .val (.int p1), .val (.int p2), .val (.int p3), .val (.int p4), .val (.int (Int32.ofNat N)), .val (.ref b390), .val (.ref b392), .val (.int k426_0), .val (.int (Int32.ofNat mn)), .val (.int (Int32.ofNat (mn + 1))), .val (.int (f2 (Int32.ofNat (mn + 1)) (Int32.ofNat N))), .unset, .unset] [(.int (1 : Int32)), (.int (f2 (Int32.ofNat (mn + 1)) (Int32.ofNat N)))])) _
                                  refine XS.icmpNo X513.here hx rfl (hb hby at_284) rfl (XT.ii_lt_f hc515) ?_
                                  show Steps p.tables e below (T513.setTop (mkF m 287 #[.val (.int p0), .val (.int p1), .val (.int p2), .val (.int p3), .val (.int p4), .val (.int (Int32.ofNat N)), .val (.ref b390), .val (.ref b392), .val (.int k426_0), .val (.int (Int32.ofNat mn)), .val (.int (Int32.ofNat (mn + 1))), .val (.int (f2 (Int32.ofNat (mn + 1)) (Int32.ofNat N))), .unset, .unset] [])) _
                                  refine XS.aload X513.here hx rfl (hb hby at_287) rfl rfl ?_
                                  show Steps p.tables e below (T513.setTop (mkF m 289 #[.val (.int p0), .val (.int p1), .val (.int p2), .val (.int p3), .val (.int p4), .val (.int (Int32.ofNat N)), .val (.ref b390), .val (.ref b392), .val (.int k426_0), .val (.int (Int32.ofNat mn)), .val (.int (Int32.ofNat (mn + 1))), .val (.int (f2 (Int32.ofNat (mn + 1)) (Int32.ofNat N))), .unset, .unset] [(.ref b390)])) _
                                  refine XS.aload X513.here hx rfl (hb hby at_289) rfl rfl ?_
                                  show Steps p.tables e below (T513.setTop (mkF m 291 #[.val (.int p0), .val (.int p1), .val (.int p2), .val (.int p3), .val (.int p4), .val (.int (Int32.ofNat N)), .val (.ref b390), .val (.ref b392), .val (.int k426_0), .val (.int (Int32.ofNat mn)), .val (.int (Int32.ofNat (mn + 1))), .val (.int (f2 (Int32.ofNat (mn + 1)) (Int32.ofNat N))), .unset, .unset] [(.ref b392), (.ref b390)])) _
                                  refine XS.iload X513.here hx rfl (hb hby at_291) rfl ?_
                                  show Steps p.tables e below (T513.setTop (mkF m 293 #[.val (.int p0), .val (.int p1), .val (.int p2), .val (.int p3), .val (.int p4), .val (.int (Int32.ofNat N)), .val (.ref b390), .val (.ref b392), .val (.int k426_0), .val (.int (Int32.ofNat mn)), .val (.int (Int32.ofNat (mn + 1))), .val (.int (f2 (Int32.ofNat (mn + 1)) (Int32.ofNat N))), .unset, .unset] [(.int (Int32.ofNat (mn + 1))), (.ref b392), (.ref b390)])) _
                                  refine XS.iconst X513.here hx rfl (hb hby at_293) ?_
                                  exact kt
                                obtain ⟨_, _, ⟨T516, L516, k516, n516⟩, -, X516, ⟨Lc516, hQ516, l516, y516, z516⟩, st516⟩ := Jvm.LawKit.callS X513 hx (y := (⟨"com/example/sidestep/sidestep/CompiledPatternAdvancePinLaw", "ends", "([I[III)Z"⟩ : MethodName)) hown (mvT hZ (hw _ (List.mem_of_getElem? (i := 10) rfl))) (mvT hZ (hw _ (List.mem_of_getElem? (i := 11) rfl))) (mvT hZ (hw _ (List.mem_of_getElem? (i := 3) rfl))) (mvT hZ (hw _ (List.mem_of_getElem? (i := 12) rfl))) (by decide) (backOf (W := 0) (rmE1 l Z a0 hw [] b390 b392 (mn + 1) (p2 + (f1 (p3 &&& (3 : Int32)))) y399_b390_1 y408_b390_2 y417_b390_3 (S0.set mn k426_0) k390 k392 N h468 n0 Z0_469 V420_470 V468 (own_q1 hN hmn hc515).1 (own_q1 hN hmn hc515).2) hZ (hw _ (List.mem_of_getElem? (i := 12) rfl)) (hw _ (List.mem_of_getElem? (i := 3) rfl)) (by decide) (by decide)) (g := (mkF m 294 #[.val (.int p0), .val (.int p1), .val (.int p2), .val (.int p3), .val (.int p4), .val (.int (Int32.ofNat N)), .val (.ref b390), .val (.ref b392), .val (.int k426_0), .val (.int (Int32.ofNat mn)), .val (.int (Int32.ofNat (mn + 1))), .val (.int (f2 (Int32.ofNat (mn + 1)) (Int32.ofNat N))), .unset, .unset] [(.int (1 : Int32)), (.int (Int32.ofNat (mn + 1))), (.ref b392), (.ref b390)])) rfl (by rw [hml]; rfl) (argsL := [(.ref b390), (.ref b392), (.int (Int32.ofNat (mn + 1))), (.int (1 : Int32))]) (rest := []) (lenOf pd_3 rfl) rfl (by show 2 * 0 + _ ≤ _; exact Nat.le_of_eq rfl) (hb hby at_294) (fun _ _ => ⟨rfl, e513, (by decide : 2 + 0 ≤ _), (by decide : 9 + 0 ≤ _)⟩)
                                dsimp only [Pt.U, Pt.locs, Pt.cells, Pt.slots] at X516 l516 y516 z516 st516 hQ516
                                subst y516 z516
                                obtain ⟨rfl, Nq516, e516⟩ := hQ516
                                have N516 : Fr n0 L516 := by rw [l516]; exact Fr.app N513 Nq516
                                refine Got.step st516 ?_
                                show Got p e below s _ _ _ _ T516 (mkF m 297 #[.val (.int p0), .val (.int p1), .val (.int p2), .val (.int p3), .val (.int p4), .val (.int (Int32.ofNat N)), .val (.ref b390), .val (.ref b392), .val (.int k426_0), .val (.int (Int32.ofNat mn)), .val (.int (Int32.ofNat (mn + 1))), .val (.int (f2 (Int32.ofNat (mn + 1)) (Int32.ofNat N))), .unset, .unset] [(.int (fE1 (p2 + (f1 (p3 &&& (3 : Int32)))) y399_b390_1 y408_b390_2 y417_b390_3 (S0.set mn k426_0) (mn + 1)))])
                                by_cases hc517 : ((fE1 (p2 + (f1 (p3 &&& (3 : Int32)))) y399_b390_1 y408_b390_2 y417_b390_3 (S0.set mn k426_0) (mn + 1)) = 0)
                                · refine Got.step (T' := T516) (g' := (mkF m 309 #[.val (.int p0), .val (.int p1), .val (.int p2), .val (.int p3), .val (.int p4), .val (.int (Int32.ofNat N)), .val (.ref b390), .val (.ref b392), .val (.int k426_0), .val (.int (Int32.ofNat mn)), .val (.int (Int32.ofNat (mn + 1))), .val (.int (f2 (Int32.ofNat (mn + 1)) (Int32.ofNat N))), .val (.int (0 : Int32)), .unset] [])) (fun tq kt => ?_) ?_
                                  · show Steps p.tables e below (T516.setTop (mkF m 297 #[.val (.int p0), .val (.int p1), .val (.int p2), .val (.int p3), .val (.int p4), .val (.int (Int32.ofNat N)), .val (.ref b390), .val (.ref b392), .val (.int k426_0), .val (.int (Int32.ofNat mn)), .val (.int (Int32.ofNat (mn + 1))), .val (.int (f2 (Int32.ofNat (mn + 1)) (Int32.ofNat N))), .unset, .unset] [(.int (fE1 (p2 + (f1 (p3 &&& (3 : Int32)))) y399_b390_1 y408_b390_2 y417_b390_3 (S0.set mn k426_0) (mn + 1)))])) _
                                    refine XS.ifYes X516.here hx rfl (pc0 := 297) (pc' := 306) rfl (hb hby at_297) rfl (XT.i0_eq_t hc517) (by decide) (by decide) ?_
                                    show Steps p.tables e below (T516.setTop (mkF m 306 #[.val (.int p0), .val (.int p1), .val (.int p2), .val (.int p3), .val (.int p4), .val (.int (Int32.ofNat N)), .val (.ref b390), .val (.ref b392), .val (.int k426_0), .val (.int (Int32.ofNat mn)), .val (.int (Int32.ofNat (mn + 1))), .val (.int (f2 (Int32.ofNat (mn + 1)) (Int32.ofNat N))), .unset, .unset] [])) _
                                    refine XS.iconst X516.here hx rfl (hb hby at_306) ?_
                                    show Steps p.tables e below (T516.setTop (mkF m 307 #[.val (.int p0), .val (.int p1), .val (.int p2), .val (.int p3), .val (.int p4), .val (.int (Int32.ofNat N)), .val (.ref b390), .val (.ref b392), .val (.int k426_0), .val (.int (Int32.ofNat mn)), .val (.int (Int32.ofNat (mn + 1))), .val (.int (f2 (Int32.ofNat (mn + 1)) (Int32.ofNat N))), .unset, .unset] [(.int (0 : Int32))])) _
                                    refine XS.istore X516.here hx rfl (hb hby at_307) rfl (l' := #[.val (.int p0), .val (.int p1), .val (.int p2), .val (.int p3), .val (.int p4), .val (.int (Int32.ofNat N)), .val (.ref b390), .val (.ref b392), .val (.int k426_0), .val (.int (Int32.ofNat mn)), .val (.int (Int32.ofNat (mn + 1))), .val (.int (f2 (Int32.ofNat (mn + 1)) (Int32.ofNat N))), .val (.int (0 : Int32)), .unset]) rfl ?_
                                    exact kt
                                  exact J472 _ _ _ (X516.more (by decide) (by decide)) e516 N516 (0 : Int32) ((if_neg hc473).trans ((if_pos hc496).trans ((if_neg hc497).trans ((if_pos hc508).trans ((if_neg hc509).trans ((if_pos hc514).trans ((if_neg hc515).trans (if_pos hc517)))))))).symm Z0_469 V420_470 V468
                                · refine Got.step (T' := T516) (g' := (mkF m 309 #[.val (.int p0), .val (.int p1), .val (.int p2), .val (.int p3), .val (.int p4), .val (.int (Int32.ofNat N)), .val (.ref b390), .val (.ref b392), .val (.int k426_0), .val (.int (Int32.ofNat mn)), .val (.int (Int32.ofNat (mn + 1))), .val (.int (f2 (Int32.ofNat (mn + 1)) (Int32.ofNat N))), .val (.int (1 : Int32)), .unset] [])) (fun tq kt => ?_) ?_
                                  · show Steps p.tables e below (T516.setTop (mkF m 297 #[.val (.int p0), .val (.int p1), .val (.int p2), .val (.int p3), .val (.int p4), .val (.int (Int32.ofNat N)), .val (.ref b390), .val (.ref b392), .val (.int k426_0), .val (.int (Int32.ofNat mn)), .val (.int (Int32.ofNat (mn + 1))), .val (.int (f2 (Int32.ofNat (mn + 1)) (Int32.ofNat N))), .unset, .unset] [(.int (fE1 (p2 + (f1 (p3 &&& (3 : Int32)))) y399_b390_1 y408_b390_2 y417_b390_3 (S0.set mn k426_0) (mn + 1)))])) _
                                    refine XS.ifNo X516.here hx rfl (hb hby at_297) rfl (XT.i0_eq_f hc517) ?_
                                    show Steps p.tables e below (T516.setTop (mkF m 300 #[.val (.int p0), .val (.int p1), .val (.int p2), .val (.int p3), .val (.int p4), .val (.int (Int32.ofNat N)), .val (.ref b390), .val (.ref b392), .val (.int k426_0), .val (.int (Int32.ofNat mn)), .val (.int (Int32.ofNat (mn + 1))), .val (.int (f2 (Int32.ofNat (mn + 1)) (Int32.ofNat N))), .unset, .unset] [])) _
                                    refine XS.iconst X516.here hx rfl (hb hby at_300) ?_
                                    show Steps p.tables e below (T516.setTop (mkF m 301 #[.val (.int p0), .val (.int p1), .val (.int p2), .val (.int p3), .val (.int p4), .val (.int (Int32.ofNat N)), .val (.ref b390), .val (.ref b392), .val (.int k426_0), .val (.int (Int32.ofNat mn)), .val (.int (Int32.ofNat (mn + 1))), .val (.int (f2 (Int32.ofNat (mn + 1)) (Int32.ofNat N))), .unset, .unset] [(.int (1 : Int32))])) _
                                    refine XS.istore X516.here hx rfl (hb hby at_301) rfl (l' := #[.val (.int p0), .val (.int p1), .val (.int p2), .val (.int p3), .val (.int p4), .val (.int (Int32.ofNat N)), .val (.ref b390), .val (.ref b392), .val (.int k426_0), .val (.int (Int32.ofNat mn)), .val (.int (Int32.ofNat (mn + 1))), .val (.int (f2 (Int32.ofNat (mn + 1)) (Int32.ofNat N))), .val (.int (1 : Int32)), .unset]) rfl ?_
                                    show Steps p.tables e below (T516.setTop (mkF m 303 #[.val (.int p0), .val (.int p1), .val (.int p2), .val (.int p3), .val (.int p4), .val (.int (Int32.ofNat N)), .val (.ref b390), .val (.ref b392), .val (.int k426_0), .val (.int (Int32.ofNat mn)), .val (.int (Int32.ofNat (mn + 1))), .val (.int (f2 (Int32.ofNat (mn + 1)) (Int32.ofNat N))), .val (.int (1 : Int32)), .unset] [])) _
                                    refine XS.goto X516.here hx rfl (pc0 := 303) (pc' := 309) rfl (hb hby at_303) (by decide) (by decide) ?_
                                    exact kt
                                  exact J472 _ _ _ (X516.more (by decide) (by decide)) e516 N516 (1 : Int32) ((if_neg hc473).trans ((if_pos hc496).trans ((if_neg hc497).trans ((if_pos hc508).trans ((if_neg hc509).trans ((if_pos hc514).trans ((if_neg hc515).trans (if_neg hc517)))))))).symm Z0_469 V420_470 V468
                            · refine Got.step (T' := T513) (g' := (mkF m 309 #[.val (.int p0), .val (.int p1), .val (.int p2), .val (.int p3), .val (.int p4), .val (.int (Int32.ofNat N)), .val (.ref b390), .val (.ref b392), .val (.int k426_0), .val (.int (Int32.ofNat mn)), .val (.int (Int32.ofNat (mn + 1))), .val (.int (f2 (Int32.ofNat (mn + 1)) (Int32.ofNat N))), .val (.int (2 : Int32)), .unset] [])) (fun tq kt => ?_) ?_
                              · show Steps p.tables e below (T513.setTop (mkF m 272 #[.val (.int p0), .val (.int p1), .val (.int p2), .val (.int p3), .val (.int p4), .val (.int (Int32.ofNat N)), .val (.ref b390), .val (.ref b392), .val (.int k426_0), .val (.int (Int32.ofNat mn)), .val (.int (Int32.ofNat (mn + 1))), .val (.int (f2 (Int32.ofNat (mn + 1)) (Int32.ofNat N))), .unset, .unset] [(.int (fE2 (p2 + (f1 (p3 &&& (3 : Int32)))) y399_b390_1 y408_b390_2 y417_b390_3 (S0.set mn k426_0) (mn + 1)))])) _
                                refine XS.ifNo X513.here hx rfl (hb hby at_272) rfl (XT.i0_eq_f hc514) ?_
                                show Steps p.tables e below (T513.setTop (mkF m 275 #[.val (.int p0), .val (.int p1), .val (.int p2), .val (.int p3), .val (.int p4), .val (.int (Int32.ofNat N)), .val (.ref b390), .val (.ref b392), .val (.int k426_0), .val (.int (Int32.ofNat mn)), .val (.int (Int32.ofNat (mn + 1))), .val (.int (f2 (Int32.ofNat (mn + 1)) (Int32.ofNat N))), .unset, .unset] [])) _
                                refine XS.iconst X513.here hx rfl (hb hby at_275) ?_
                                show Steps p.tables e below (T513.setTop (mkF m 276 #[.val (.int p0), .val (.int p1), .val (.int p2), .val (.int p3), .val (.int p4), .val (.int (Int32.ofNat N)), .val (.ref b390), .val (.ref b392), .val (.int k426_0), .val (.int (Int32.ofNat mn)), .val (.int (Int32.ofNat (mn + 1))), .val (.int (f2 (Int32.ofNat (mn + 1)) (Int32.ofNat N))), .unset, .unset] [(.int (2 : Int32))])) _
                                refine XS.istore X513.here hx rfl (hb hby at_276) rfl (l' := #[.val (.int p0), .val (.int p1), .val (.int p2), .val (.int p3), .val (.int p4), .val (.int (Int32.ofNat N)), .val (.ref b390), .val (.ref b392), .val (.int k426_0), .val (.int (Int32.ofNat mn)), .val (.int (Int32.ofNat (mn + 1))), .val (.int (f2 (Int32.ofNat (mn + 1)) (Int32.ofNat N))), .val (.int (2 : Int32)), .unset]) rfl ?_
                                show Steps p.tables e below (T513.setTop (mkF m 278 #[.val (.int p0), .val (.int p1), .val (.int p2), .val (.int p3), .val (.int p4), .val (.int (Int32.ofNat N)), .val (.ref b390), .val (.ref b392), .val (.int k426_0), .val (.int (Int32.ofNat mn)), .val (.int (Int32.ofNat (mn + 1))), .val (.int (f2 (Int32.ofNat (mn + 1)) (Int32.ofNat N))), .val (.int (2 : Int32)), .unset] [])) _
                                refine XS.goto X513.here hx rfl (pc0 := 278) (pc' := 309) rfl (hb hby at_278) (by decide) (by decide) ?_
                                exact kt
                              exact J472 _ _ _ (X513.more (by decide) (by decide)) e513 N513 (2 : Int32) ((if_neg hc473).trans ((if_pos hc496).trans ((if_neg hc497).trans ((if_pos hc508).trans ((if_neg hc509).trans (if_neg hc514)))))).symm Z0_469 V420_470 V468
                        · refine Got.step (T' := T507) (g' := (mkF m 309 #[.val (.int p0), .val (.int p1), .val (.int p2), .val (.int p3), .val (.int p4), .val (.int (Int32.ofNat N)), .val (.ref b390), .val (.ref b392), .val (.int k426_0), .val (.int (Int32.ofNat mn)), .val (.int (Int32.ofNat (mn + 1))), .val (.int (f2 (Int32.ofNat (mn + 1)) (Int32.ofNat N))), .val (.int (3 : Int32)), .unset] [])) (fun tq kt => ?_) ?_
                          · show Steps p.tables e below (T507.setTop (mkF m 247 #[.val (.int p0), .val (.int p1), .val (.int p2), .val (.int p3), .val (.int p4), .val (.int (Int32.ofNat N)), .val (.ref b390), .val (.ref b392), .val (.int k426_0), .val (.int (Int32.ofNat mn)), .val (.int (Int32.ofNat (mn + 1))), .val (.int (f2 (Int32.ofNat (mn + 1)) (Int32.ofNat N))), .unset, .unset] [(.int (fE3 (p2 + (f1 (p3 &&& (3 : Int32)))) y399_b390_1 y408_b390_2 y417_b390_3 (S0.set mn k426_0) (mn + 1)))])) _
                            refine XS.ifNo X507.here hx rfl (hb hby at_247) rfl (XT.i0_eq_f hc508) ?_
                            show Steps p.tables e below (T507.setTop (mkF m 250 #[.val (.int p0), .val (.int p1), .val (.int p2), .val (.int p3), .val (.int p4), .val (.int (Int32.ofNat N)), .val (.ref b390), .val (.ref b392), .val (.int k426_0), .val (.int (Int32.ofNat mn)), .val (.int (Int32.ofNat (mn + 1))), .val (.int (f2 (Int32.ofNat (mn + 1)) (Int32.ofNat N))), .unset, .unset] [])) _
                            refine XS.iconst X507.here hx rfl (hb hby at_250) ?_
                            show Steps p.tables e below (T507.setTop (mkF m 251 #[.val (.int p0), .val (.int p1), .val (.int p2), .val (.int p3), .val (.int p4), .val (.int (Int32.ofNat N)), .val (.ref b390), .val (.ref b392), .val (.int k426_0), .val (.int (Int32.ofNat mn)), .val (.int (Int32.ofNat (mn + 1))), .val (.int (f2 (Int32.ofNat (mn + 1)) (Int32.ofNat N))), .unset, .unset] [(.int (3 : Int32))])) _
                            refine XS.istore X507.here hx rfl (hb hby at_251) rfl (l' := #[.val (.int p0), .val (.int p1), .val (.int p2), .val (.int p3), .val (.int p4), .val (.int (Int32.ofNat N)), .val (.ref b390), .val (.ref b392), .val (.int k426_0), .val (.int (Int32.ofNat mn)), .val (.int (Int32.ofNat (mn + 1))), .val (.int (f2 (Int32.ofNat (mn + 1)) (Int32.ofNat N))), .val (.int (3 : Int32)), .unset]) rfl ?_
                            show Steps p.tables e below (T507.setTop (mkF m 253 #[.val (.int p0), .val (.int p1), .val (.int p2), .val (.int p3), .val (.int p4), .val (.int (Int32.ofNat N)), .val (.ref b390), .val (.ref b392), .val (.int k426_0), .val (.int (Int32.ofNat mn)), .val (.int (Int32.ofNat (mn + 1))), .val (.int (f2 (Int32.ofNat (mn + 1)) (Int32.ofNat N))), .val (.int (3 : Int32)), .unset] [])) _
                            refine XS.goto X507.here hx rfl (pc0 := 253) (pc' := 309) rfl (hb hby at_253) (by decide) (by decide) ?_
                            exact kt
                          exact J472 _ _ _ (X507.more (by decide) (by decide)) e507 N507 (3 : Int32) ((if_neg hc473).trans ((if_pos hc496).trans ((if_neg hc497).trans (if_neg hc508)))).symm Z0_469 V420_470 V468
                    · refine Got.step (T' := T495) (g' := (mkF m 309 #[.val (.int p0), .val (.int p1), .val (.int p2), .val (.int p3), .val (.int p4), .val (.int (Int32.ofNat N)), .val (.ref b390), .val (.ref b392), .val (.int k426_0), .val (.int (Int32.ofNat mn)), .val (.int (Int32.ofNat (mn + 1))), .val (.int (f2 (Int32.ofNat (mn + 1)) (Int32.ofNat N))), .val (.int (4 : Int32)), .unset] [])) (fun tq kt => ?_) ?_
                      · show Steps p.tables e below (T495.setTop (mkF m 222 #[.val (.int p0), .val (.int p1), .val (.int p2), .val (.int p3), .val (.int p4), .val (.int (Int32.ofNat N)), .val (.ref b390), .val (.ref b392), .val (.int k426_0), .val (.int (Int32.ofNat mn)), .val (.int (Int32.ofNat (mn + 1))), .val (.int (f2 (Int32.ofNat (mn + 1)) (Int32.ofNat N))), .unset, .unset] [(.int (fE4 (p2 + (f1 (p3 &&& (3 : Int32)))) y399_b390_1 y408_b390_2 y417_b390_3 (S0.set mn k426_0) (mn + 1)))])) _
                        refine XS.ifNo X495.here hx rfl (hb hby at_222) rfl (XT.i0_eq_f hc496) ?_
                        show Steps p.tables e below (T495.setTop (mkF m 225 #[.val (.int p0), .val (.int p1), .val (.int p2), .val (.int p3), .val (.int p4), .val (.int (Int32.ofNat N)), .val (.ref b390), .val (.ref b392), .val (.int k426_0), .val (.int (Int32.ofNat mn)), .val (.int (Int32.ofNat (mn + 1))), .val (.int (f2 (Int32.ofNat (mn + 1)) (Int32.ofNat N))), .unset, .unset] [])) _
                        refine XS.iconst X495.here hx rfl (hb hby at_225) ?_
                        show Steps p.tables e below (T495.setTop (mkF m 226 #[.val (.int p0), .val (.int p1), .val (.int p2), .val (.int p3), .val (.int p4), .val (.int (Int32.ofNat N)), .val (.ref b390), .val (.ref b392), .val (.int k426_0), .val (.int (Int32.ofNat mn)), .val (.int (Int32.ofNat (mn + 1))), .val (.int (f2 (Int32.ofNat (mn + 1)) (Int32.ofNat N))), .unset, .unset] [(.int (4 : Int32))])) _
                        refine XS.istore X495.here hx rfl (hb hby at_226) rfl (l' := #[.val (.int p0), .val (.int p1), .val (.int p2), .val (.int p3), .val (.int p4), .val (.int (Int32.ofNat N)), .val (.ref b390), .val (.ref b392), .val (.int k426_0), .val (.int (Int32.ofNat mn)), .val (.int (Int32.ofNat (mn + 1))), .val (.int (f2 (Int32.ofNat (mn + 1)) (Int32.ofNat N))), .val (.int (4 : Int32)), .unset]) rfl ?_
                        show Steps p.tables e below (T495.setTop (mkF m 228 #[.val (.int p0), .val (.int p1), .val (.int p2), .val (.int p3), .val (.int p4), .val (.int (Int32.ofNat N)), .val (.ref b390), .val (.ref b392), .val (.int k426_0), .val (.int (Int32.ofNat mn)), .val (.int (Int32.ofNat (mn + 1))), .val (.int (f2 (Int32.ofNat (mn + 1)) (Int32.ofNat N))), .val (.int (4 : Int32)), .unset] [])) _
                        refine XS.goto X495.here hx rfl (pc0 := 228) (pc' := 309) rfl (hb hby at_228) (by decide) (by decide) ?_
                        exact kt
                      exact J472 _ _ _ (X495.more (by decide) (by decide)) e495 N495 (4 : Int32) ((if_neg hc473).trans (if_neg hc496)).symm Z0_469 V420_470 V468
                by_cases hc460 : ((3 : Int32) < (Int32.ofNat mn))
                · refine Got.step (T' := T450) (g' := (mkF m 182 #[.val (.int p0), .val (.int p1), .val (.int p2), .val (.int p3), .val (.int p4), .val (.int (Int32.ofNat N)), .val (.ref b390), .val (.ref b392), .val (.int k426_0), .val (.int (Int32.ofNat mn)), .unset, .unset, .unset, .unset] [(.int (3 : Int32)), (.ref b390), (.int (3 : Int32)), (.ref b392)])) (fun tq kt => ?_) ?_
                  · show Steps p.tables e below (T450.setTop (mkF m 173 #[.val (.int p0), .val (.int p1), .val (.int p2), .val (.int p3), .val (.int p4), .val (.int (Int32.ofNat N)), .val (.ref b390), .val (.ref b392), .val (.int k426_0), .val (.int (Int32.ofNat mn)), .unset, .unset, .unset, .unset] [(.int (3 : Int32)), (.int (Int32.ofNat mn))])) _
                    refine XS.icmpNo X450.here hx rfl (hb hby at_173) rfl (XT.ii_le_f hc460) ?_
                    show Steps p.tables e below (T450.setTop (mkF m 176 #[.val (.int p0), .val (.int p1), .val (.int p2), .val (.int p3), .val (.int p4), .val (.int (Int32.ofNat N)), .val (.ref b390), .val (.ref b392), .val (.int k426_0), .val (.int (Int32.ofNat mn)), .unset, .unset, .unset, .unset] [])) _
                    refine XS.aload X450.here hx rfl (hb hby at_176) rfl rfl ?_
                    show Steps p.tables e below (T450.setTop (mkF m 178 #[.val (.int p0), .val (.int p1), .val (.int p2), .val (.int p3), .val (.int p4), .val (.int (Int32.ofNat N)), .val (.ref b390), .val (.ref b392), .val (.int k426_0), .val (.int (Int32.ofNat mn)), .unset, .unset, .unset, .unset] [(.ref b392)])) _
                    refine XS.iconst X450.here hx rfl (hb hby at_178) ?_
                    show Steps p.tables e below (T450.setTop (mkF m 179 #[.val (.int p0), .val (.int p1), .val (.int p2), .val (.int p3), .val (.int p4), .val (.int (Int32.ofNat N)), .val (.ref b390), .val (.ref b392), .val (.int k426_0), .val (.int (Int32.ofNat mn)), .unset, .unset, .unset, .unset] [(.int (3 : Int32)), (.ref b392)])) _
                    refine XS.aload X450.here hx rfl (hb hby at_179) rfl rfl ?_
                    show Steps p.tables e below (T450.setTop (mkF m 181 #[.val (.int p0), .val (.int p1), .val (.int p2), .val (.int p3), .val (.int p4), .val (.int (Int32.ofNat N)), .val (.ref b390), .val (.ref b392), .val (.int k426_0), .val (.int (Int32.ofNat mn)), .unset, .unset, .unset, .unset] [(.ref b390), (.int (3 : Int32)), (.ref b392)])) _
                    refine XS.iconst X450.here hx rfl (hb hby at_181) ?_
                    exact kt
                  obtain ⟨cl461, Ar461, q461, S461, M461, H461, G461⟩ := (id V420_457)
                  have hin461 : ¬ ((3 : Int32) < 0 ∨ cl461.slots.size ≤ ((3 : Int32)).toNatClampNeg) := inb_of S461 (own_m3 hN hmn hc460)
                  refine Got.step (T' := T450) (fun tq kt => X450.iaload hx (j := (3 : Int32)) (v := (.int y417_b390_3)) (by rw [e450]; exact Ar461.1) (State.isArrayOf_alike hZ.alike Ar461.2.1) Ar461.2.2 hin461 (H461.at hin461 rfl) (g := (mkF m 182 #[.val (.int p0), .val (.int p1), .val (.int p2), .val (.int p3), .val (.int p4), .val (.int (Int32.ofNat N)), .val (.ref b390), .val (.ref b392), .val (.int k426_0), .val (.int (Int32.ofNat mn)), .unset, .unset, .unset, .unset] [(.int (3 : Int32)), (.ref b390), (.int (3 : Int32)), (.ref b392)])) rfl rfl (hb hby at_182) tq kt) ?_
                  show Got p e below s _ _ _ _ T450 (mkF m 183 #[.val (.int p0), .val (.int p1), .val (.int p2), .val (.int p3), .val (.int p4), .val (.int (Int32.ofNat N)), .val (.ref b390), .val (.ref b392), .val (.int k426_0), .val (.int (Int32.ofNat mn)), .unset, .unset, .unset, .unset] [(.int y417_b390_3), (.int (3 : Int32)), (.ref b392)])
                  obtain ⟨cl462, Ar462, q462, S462, M462, H462, G462⟩ := (id V453_458)
                  have hin462 : ¬ ((3 : Int32) < 0 ∨ cl462.slots.size ≤ ((3 : Int32)).toNatClampNeg) := inb_of S462 ⟨by decide, by decide⟩
                  obtain ⟨T462, h462, X462, e462, W462, st462⟩ := stI X450 hx hZ e450 Ar462 (j := (3 : Int32)) hin462 (g := (mkF m 183 #[.val (.int p0), .val (.int p1), .val (.int p2), .val (.int p3), .val (.int p4), .val (.int (Int32.ofNat N)), .val (.ref b390), .val (.ref b392), .val (.int k426_0), .val (.int (Int32.ofNat mn)), .unset, .unset, .unset, .unset] [(.int y417_b390_3), (.int (3 : Int32)), (.ref b392)])) rfl rfl (hb hby at_183)
                  have Z0_463 : n0 ≤ h462.size := (Nat.le_trans Z0_456 (Keep.of_wr W462).1)
                  have V420_464 : Arv Z h462 b390 k390 .int (Int32.ofNat N) [(.int (p2 + (f1 (p3 &&& (3 : Int32))))), (.int y399_b390_1), (.int y408_b390_2), (.int y417_b390_3)] (.int (0 : Int32)) := (V420_457.other W462 ne_b390_b392)
                  have V462 : Arv Z h462 b392 k392 .int (5 : Int32) [(.int y432_b392_0), (.int y441_b392_1), (.int y450_b392_2), (.int y417_b390_3), (.int (0 : Int32))] (.int (0 : Int32)) := Arv.set Ar462 q462 S462 M462 H462 G462 rfl W462 3 rfl (Nat.le_of_ble_eq_true rfl)
                  have N462 := Fr.snoc X462 N450 gn_b392
                  refine Got.step st462 ?_
                  show Got p e below s _ _ _ _ T462 (mkF m 184 #[.val (.int p0), .val (.int p1), .val (.int p2), .val (.int p3), .val (.int p4), .val (.int (Int32.ofNat N)), .val (.ref b390), .val (.ref b392), .val (.int k426_0), .val (.int (Int32.ofNat mn)), .unset, .unset, .unset, .unset] [])
                  exact J459 _ _ _ X462 e462 N462 y417_b390_3 (if_pos hc460).symm Z0_463 V420_464 V462
                · refine Got.step (T' := T450) (g' := (mkF m 184 #[.val (.int p0), .val (.int p1), .val (.int p2), .val (.int p3), .val (.int p4), .val (.int (Int32.ofNat N)), .val (.ref b390), .val (.ref b392), .val (.int k426_0), .val (.int (Int32.ofNat mn)), .unset, .unset, .unset, .unset] [])) (fun tq kt => ?_) ?_
                  · show Steps p.tables e below (T450.setTop (mkF m 173 #[.val (.int p0), .val (.int p1), .val (.int p2), .val (.int p3), .val (.int p4), .val (.int (Int32.ofNat N)), .val (.ref b390), .val (.ref b392), .val (.int k426_0), .val (.int (Int32.ofNat mn)), .unset, .unset, .unset, .unset] [(.int (3 : Int32)), (.int (Int32.ofNat mn))])) _
                    refine XS.icmpYes X450.here hx rfl (pc0 := 173) (pc' := 184) rfl (hb hby at_173) rfl (XT.ii_le_t hc460) (by decide) (by decide) ?_
                    exact kt
                  exact J459 _ _ _ X450 e450 N450 (0 : Int32) (if_neg hc460).symm Z0_456 V420_457 V453_458
              by_cases hc451 : ((2 : Int32) < (Int32.ofNat mn))
              · refine Got.step (T' := T441) (g' := (mkF m 168 #[.val (.int p0), .val (.int p1), .val (.int p2), .val (.int p3), .val (.int p4), .val (.int (Int32.ofNat N)), .val (.ref b390), .val (.ref b392), .val (.int k426_0), .val (.int (Int32.ofNat mn)), .unset, .unset, .unset, .unset] [(.int (2 : Int32)), (.ref b390), (.int (2 : Int32)), (.ref b392)])) (fun tq kt => ?_) ?_
                · show Steps p.tables e below (T441.setTop (mkF m 159 #[.val (.int p0), .val (.int p1), .val (.int p2), .val (.int p3), .val (.int p4), .val (.int (Int32.ofNat N)), .val (.ref b390), .val (.ref b392), .val (.int k426_0), .val (.int (Int32.ofNat mn)), .unset, .unset, .unset, .unset] [(.int (2 : Int32)), (.int (Int32.ofNat mn))])) _
                  refine XS.icmpNo X441.here hx rfl (hb hby at_159) rfl (XT.ii_le_f hc451) ?_
                  show Steps p.tables e below (T441.setTop (mkF m 162 #[.val (.int p0), .val (.int p1), .val (.int p2), .val (.int p3), .val (.int p4), .val (.int (Int32.ofNat N)), .val (.ref b390), .val (.ref b392), .val (.int k426_0), .val (.int (Int32.ofNat mn)), .unset, .unset, .unset, .unset] [])) _
                  refine XS.aload X441.here hx rfl (hb hby at_162) rfl rfl ?_
                  show Steps p.tables e below (T441.setTop (mkF m 164 #[.val (.int p0), .val (.int p1), .val (.int p2), .val (.int p3), .val (.int p4), .val (.int (Int32.ofNat N)), .val (.ref b390), .val (.ref b392), .val (.int k426_0), .val (.int (Int32.ofNat mn)), .unset, .unset, .unset, .unset] [(.ref b392)])) _
                  refine XS.iconst X441.here hx rfl (hb hby at_164) ?_
                  show Steps p.tables e below (T441.setTop (mkF m 165 #[.val (.int p0), .val (.int p1), .val (.int p2), .val (.int p3), .val (.int p4), .val (.int (Int32.ofNat N)), .val (.ref b390), .val (.ref b392), .val (.int k426_0), .val (.int (Int32.ofNat mn)), .unset, .unset, .unset, .unset] [(.int (2 : Int32)), (.ref b392)])) _
                  refine XS.aload X441.here hx rfl (hb hby at_165) rfl rfl ?_
                  show Steps p.tables e below (T441.setTop (mkF m 167 #[.val (.int p0), .val (.int p1), .val (.int p2), .val (.int p3), .val (.int p4), .val (.int (Int32.ofNat N)), .val (.ref b390), .val (.ref b392), .val (.int k426_0), .val (.int (Int32.ofNat mn)), .unset, .unset, .unset, .unset] [(.ref b390), (.int (2 : Int32)), (.ref b392)])) _
                  refine XS.iconst X441.here hx rfl (hb hby at_167) ?_
                  exact kt
                obtain ⟨cl452, Ar452, q452, S452, M452, H452, G452⟩ := (id V420_448)
                have hin452 : ¬ ((2 : Int32) < 0 ∨ cl452.slots.size ≤ ((2 : Int32)).toNatClampNeg) := inb_of S452 (own_m2 hN hmn hc451)
                refine Got.step (T' := T441) (fun tq kt => X441.iaload hx (j := (2 : Int32)) (v := (.int y408_b390_2)) (by rw [e441]; exact Ar452.1) (State.isArrayOf_alike hZ.alike Ar452.2.1) Ar452.2.2 hin452 (H452.at hin452 rfl) (g := (mkF m 168 #[.val (.int p0), .val (.int p1), .val (.int p2), .val (.int p3), .val (.int p4), .val (.int (Int32.ofNat N)), .val (.ref b390), .val (.ref b392), .val (.int k426_0), .val (.int (Int32.ofNat mn)), .unset, .unset, .unset, .unset] [(.int (2 : Int32)), (.ref b390), (.int (2 : Int32)), (.ref b392)])) rfl rfl (hb hby at_168) tq kt) ?_
                show Got p e below s _ _ _ _ T441 (mkF m 169 #[.val (.int p0), .val (.int p1), .val (.int p2), .val (.int p3), .val (.int p4), .val (.int (Int32.ofNat N)), .val (.ref b390), .val (.ref b392), .val (.int k426_0), .val (.int (Int32.ofNat mn)), .unset, .unset, .unset, .unset] [(.int y408_b390_2), (.int (2 : Int32)), (.ref b392)])
                obtain ⟨cl453, Ar453, q453, S453, M453, H453, G453⟩ := (id V444_449)
                have hin453 : ¬ ((2 : Int32) < 0 ∨ cl453.slots.size ≤ ((2 : Int32)).toNatClampNeg) := inb_of S453 ⟨by decide, by decide⟩
                obtain ⟨T453, h453, X453, e453, W453, st453⟩ := stI X441 hx hZ e441 Ar453 (j := (2 : Int32)) hin453 (g := (mkF m 169 #[.val (.int p0), .val (.int p1), .val (.int p2), .val (.int p3), .val (.int p4), .val (.int (Int32.ofNat N)), .val (.ref b390), .val (.ref b392), .val (.int k426_0), .val (.int (Int32.ofNat mn)), .unset, .unset, .unset, .unset] [(.int y408_b390_2), (.int (2 : Int32)), (.ref b392)])) rfl rfl (hb hby at_169)
                have Z0_454 : n0 ≤ h453.size := (Nat.le_trans Z0_447 (Keep.of_wr W453).1)
                have V420_455 : Arv Z h453 b390 k390 .int (Int32.ofNat N) [(.int (p2 + (f1 (p3 &&& (3 : Int32))))), (.int y399_b390_1), (.int y408_b390_2), (.int y417_b390_3)] (.int (0 : Int32)) := (V420_448.other W453 ne_b390_b392)
                have V453 : Arv Z h453 b392 k392 .int (5 : Int32) [(.int y432_b392_0), (.int y441_b392_1), (.int y408_b390_2), (.int (0 : Int32)), (.int (0 : Int32))] (.int (0 : Int32)) := Arv.set Ar453 q453 S453 M453 H453 G453 rfl W453 2 rfl (Nat.le_of_ble_eq_true rfl)
                have N453 := Fr.snoc X453 N441 gn_b392
                refine Got.step st453 ?_
                show Got p e below s _ _ _ _ T453 (mkF m 170 #[.val (.int p0), .val (.int p1), .val (.int p2), .val (.int p3), .val (.int p4), .val (.int (Int32.ofNat N)), .val (.ref b390), .val (.ref b392), .val (.int k426_0), .val (.int (Int32.ofNat mn)), .unset, .unset, .unset, .unset] [])
                exact J450 _ _ _ X453 e453 N453 y408_b390_2 (if_pos hc451).symm Z0_454 V420_455 V453
              · refine Got.step (T' := T441) (g' := (mkF m 170 #[.val (.int p0), .val (.int p1), .val (.int p2), .val (.int p3), .val (.int p4), .val (.int (Int32.ofNat N)), .val (.ref b390), .val (.ref b392), .val (.int k426_0), .val (.int (Int32.ofNat mn)), .unset, .unset, .unset, .unset] [])) (fun tq kt => ?_) ?_
                · show Steps p.tables e below (T441.setTop (mkF m 159 #[.val (.int p0), .val (.int p1), .val (.int p2), .val (.int p3), .val (.int p4), .val (.int (Int32.ofNat N)), .val (.ref b390), .val (.ref b392), .val (.int k426_0), .val (.int (Int32.ofNat mn)), .unset, .unset, .unset, .unset] [(.int (2 : Int32)), (.int (Int32.ofNat mn))])) _
                  refine XS.icmpYes X441.here hx rfl (pc0 := 159) (pc' := 170) rfl (hb hby at_159) rfl (XT.ii_le_t hc451) (by decide) (by decide) ?_
                  exact kt
                exact J450 _ _ _ X441 e441 N441 (0 : Int32) (if_neg hc451).symm Z0_447 V420_448 V444_449
            by_cases hc442 : ((1 : Int32) < (Int32.ofNat mn))
            · refine Got.step (T' := T432) (g' := (mkF m 154 #[.val (.int p0), .val (.int p1), .val (.int p2), .val (.int p3), .val (.int p4), .val (.int (Int32.ofNat N)), .val (.ref b390), .val (.ref b392), .val (.int k426_0), .val (.int (Int32.ofNat mn)), .unset, .unset, .unset, .unset] [(.int (1 : Int32)), (.ref b390), (.int (1 : Int32)), (.ref b392)])) (fun tq kt => ?_) ?_
              · show Steps p.tables e below (T432.setTop (mkF m 145 #[.val (.int p0), .val (.int p1), .val (.int p2), .val (.int p3), .val (.int p4), .val (.int (Int32.ofNat N)), .val (.ref b390), .val (.ref b392), .val (.int k426_0), .val (.int (Int32.ofNat mn)), .unset, .unset, .unset, .unset] [(.int (1 : Int32)), (.int (Int32.ofNat mn))])) _
                refine XS.icmpNo X432.here hx rfl (hb hby at_145) rfl (XT.ii_le_f hc442) ?_
                show Steps p.tables e below (T432.setTop (mkF m 148 #[.val (.int p0), .val (.int p1), .val (.int p2), .val (.int p3), .val (.int p4), .val (.int (Int32.ofNat N)), .val (.ref b390), .val (.ref b392), .val (.int k426_0), .val (.int (Int32.ofNat mn)), .unset, .unset, .unset, .unset] [])) _
                refine XS.aload X432.here hx rfl (hb hby at_148) rfl rfl ?_
                show Steps p.tables e below (T432.setTop (mkF m 150 #[.val (.int p0), .val (.int p1), .val (.int p2), .val (.int p3), .val (.int p4), .val (.int (Int32.ofNat N)), .val (.ref b390), .val (.ref b392), .val (.int k426_0), .val (.int (Int32.ofNat mn)), .unset, .unset, .unset, .unset] [(.ref b392)])) _
                refine XS.iconst X432.here hx rfl (hb hby at_150) ?_
                show Steps p.tables e below (T432.setTop (mkF m 151 #[.val (.int p0), .val (.int p1), .val (.int p2), .val (.int p3), .val (.int p4), .val (.int (Int32.ofNat N)), .val (.ref b390), .val (.ref b392), .val (.int k426_0), .val (.int (Int32.ofNat mn)), .unset, .unset, .unset, .unset] [(.int (1 : Int32)), (.ref b392)])) _
                refine XS.aload X432.here hx rfl (hb hby at_151) rfl rfl ?_
                show Steps p.tables e below (T432.setTop (mkF m 153 #[.val (.int p0), .val (.int p1), .val (.int p2), .val (.int p3), .val (.int p4), .val (.int (Int32.ofNat N)), .val (.ref b390), .val (.ref b392), .val (.int k426_0), .val (.int (Int32.ofNat mn)), .unset, .unset, .unset, .unset] [(.ref b390), (.int (1 : Int32)), (.ref b392)])) _
                refine XS.iconst X432.here hx rfl (hb hby at_153) ?_
                exact kt
              obtain ⟨cl443, Ar443, q443, S443, M443, H443, G443⟩ := (id V420_439)
              have hin443 : ¬ ((1 : Int32) < 0 ∨ cl443.slots.size ≤ ((1 : Int32)).toNatClampNeg) := inb_of S443 (own_m1 hN hmn hc442)
              refine Got.step (T' := T432) (fun tq kt => X432.iaload hx (j := (1 : Int32)) (v := (.int y399_b390_1)) (by rw [e432]; exact Ar443.1) (State.isArrayOf_alike hZ.alike Ar443.2.1) Ar443.2.2 hin443 (H443.at hin443 rfl) (g := (mkF m 154 #[.val (.int p0), .val (.int p1), .val (.int p2), .val (.int p3), .val (.int p4), .val (.int (Int32.ofNat N)), .val (.ref b390), .val (.ref b392), .val (.int k426_0), .val (.int (Int32.ofNat mn)), .unset, .unset, .unset, .unset] [(.int (1 : Int32)), (.ref b390), (.int (1 : Int32)), (.ref b392)])) rfl rfl (hb hby at_154) tq kt) ?_
              show Got p e below s _ _ _ _ T432 (mkF m 155 #[.val (.int p0), .val (.int p1), .val (.int p2), .val (.int p3), .val (.int p4), .val (.int (Int32.ofNat N)), .val (.ref b390), .val (.ref b392), .val (.int k426_0), .val (.int (Int32.ofNat mn)), .unset, .unset, .unset, .unset] [(.int y399_b390_1), (.int (1 : Int32)), (.ref b392)])
              obtain ⟨cl444, Ar444, q444, S444, M444, H444, G444⟩ := (id V435_440)
              have hin444 : ¬ ((1 : Int32) < 0 ∨ cl444.slots.size ≤ ((1 : Int32)).toNatClampNeg) := inb_of S444 ⟨by decide, by decide⟩
              obtain ⟨T444, h444, X444, e444, W444, st444⟩ := stI X432 hx hZ e432 Ar444 (j := (1 : Int32)) hin444 (g := (mkF m 155 #[.val (.int p0), .val (.int p1), .val (.int p2), .val (.int p3), .val (.int p4), .val (.int (Int32.ofNat N)), .val (.ref b390), .val (.ref b392), .val (.int k426_0), .val (.int (Int32.ofNat mn)), .unset, .unset, .unset, .unset] [(.int y399_b390_1), (.int (1 : Int32)), (.ref b392)])) rfl rfl (hb hby at_155)
              have Z0_445 : n0 ≤ h444.size := (Nat.le_trans Z0_438 (Keep.of_wr W444).1)
              have V420_446 : Arv Z h444 b390 k390 .int (Int32.ofNat N) [(.int (p2 + (f1 (p3 &&& (3 : Int32))))), (.int y399_b390_1), (.int y408_b390_2), (.int y417_b390_3)] (.int (0 : Int32)) := (V420_439.other W444 ne_b390_b392)
              have V444 : Arv Z h444 b392 k392 .int (5 : Int32) [(.int y432_b392_0), (.int y399_b390_1), (.int (0 : Int32)), (.int (0 : Int32)), (.int (0 : Int32))] (.int (0 : Int32)) := Arv.set Ar444 q444 S444 M444 H444 G444 rfl W444 1 rfl (Nat.le_of_ble_eq_true rfl)
              have N444 := Fr.snoc X444 N432 gn_b392
              refine Got.step st444 ?_
              show Got p e below s _ _ _ _ T444 (mkF m 156 #[.val (.int p0), .val (.int p1), .val (.int p2), .val (.int p3), .val (.int p4), .val (.int (Int32.ofNat N)), .val (.ref b390), .val (.ref b392), .val (.int k426_0), .val (.int (Int32.ofNat mn)), .unset, .unset, .unset, .unset] [])
              exact J441 _ _ _ X444 e444 N444 y399_b390_1 (if_pos hc442).symm Z0_445 V420_446 V444
            · refine Got.step (T' := T432) (g' := (mkF m 156 #[.val (.int p0), .val (.int p1), .val (.int p2), .val (.int p3), .val (.int p4), .val (.int (Int32.ofNat N)), .val (.ref b390), .val (.ref b392), .val (.int k426_0), .val (.int (Int32.ofNat mn)), .unset, .unset, .unset, .unset] [])) (fun tq kt => ?_) ?_
              · show Steps p.tables e below (T432.setTop (mkF m 145 #[.val (.int p0), .val (.int p1), .val (.int p2), .val (.int p3), .val (.int p4), .val (.int (Int32.ofNat N)), .val (.ref b390), .val (.ref b392), .val (.int k426_0), .val (.int (Int32.ofNat mn)), .unset, .unset, .unset, .unset] [(.int (1 : Int32)), (.int (Int32.ofNat mn))])) _
                refine XS.icmpYes X432.here hx rfl (pc0 := 145) (pc' := 156) rfl (hb hby at_145) rfl (XT.ii_le_t hc442) (by decide) (by decide) ?_
                exact kt
              exact J441 _ _ _ X432 e432 N432 (0 : Int32) (if_neg hc442).symm Z0_438 V420_439 V435_440
          by_cases hc433 : (0 < (Int32.ofNat mn))
          · refine Got.step (T' := T426) (g' := (mkF m 140 #[.val (.int p0), .val (.int p1), .val (.int p2), .val (.int p3), .val (.int p4), .val (.int (Int32.ofNat N)), .val (.ref b390), .val (.ref b392), .val (.int k426_0), .val (.int (Int32.ofNat mn)), .unset, .unset, .unset, .unset] [(.int (0 : Int32)), (.ref b390), (.int (0 : Int32)), (.ref b392)])) (fun tq kt => ?_) ?_
            · show Steps p.tables e below (T426.setTop (mkF m 131 #[.val (.int p0), .val (.int p1), .val (.int p2), .val (.int p3), .val (.int p4), .val (.int (Int32.ofNat N)), .val (.ref b390), .val (.ref b392), .val (.int k426_0), .val (.int (Int32.ofNat mn)), .unset, .unset, .unset, .unset] [(.int (Int32.ofNat mn))])) _
              refine XS.ifNo X426.here hx rfl (hb hby at_131) rfl (XT.i0_le_f hc433) ?_
              show Steps p.tables e below (T426.setTop (mkF m 134 #[.val (.int p0), .val (.int p1), .val (.int p2), .val (.int p3), .val (.int p4), .val (.int (Int32.ofNat N)), .val (.ref b390), .val (.ref b392), .val (.int k426_0), .val (.int (Int32.ofNat mn)), .unset, .unset, .unset, .unset] [])) _
              refine XS.aload X426.here hx rfl (hb hby at_134) rfl rfl ?_
              show Steps p.tables e below (T426.setTop (mkF m 136 #[.val (.int p0), .val (.int p1), .val (.int p2), .val (.int p3), .val (.int p4), .val (.int (Int32.ofNat N)), .val (.ref b390), .val (.ref b392), .val (.int k426_0), .val (.int (Int32.ofNat mn)), .unset, .unset, .unset, .unset] [(.ref b392)])) _
              refine XS.iconst X426.here hx rfl (hb hby at_136) ?_
              show Steps p.tables e below (T426.setTop (mkF m 137 #[.val (.int p0), .val (.int p1), .val (.int p2), .val (.int p3), .val (.int p4), .val (.int (Int32.ofNat N)), .val (.ref b390), .val (.ref b392), .val (.int k426_0), .val (.int (Int32.ofNat mn)), .unset, .unset, .unset, .unset] [(.int (0 : Int32)), (.ref b392)])) _
              refine XS.aload X426.here hx rfl (hb hby at_137) rfl rfl ?_
              show Steps p.tables e below (T426.setTop (mkF m 139 #[.val (.int p0), .val (.int p1), .val (.int p2), .val (.int p3), .val (.int p4), .val (.int (Int32.ofNat N)), .val (.ref b390), .val (.ref b392), .val (.int k426_0), .val (.int (Int32.ofNat mn)), .unset, .unset, .unset, .unset] [(.ref b390), (.int (0 : Int32)), (.ref b392)])) _
              refine XS.iconst X426.here hx rfl (hb hby at_139) ?_
              exact kt
            obtain ⟨cl434, Ar434, q434, S434, M434, H434, G434⟩ := (id V420_430)
            have hin434 : ¬ ((0 : Int32) < 0 ∨ cl434.slots.size ≤ ((0 : Int32)).toNatClampNeg) := inb_of S434 (own_m0 hN hmn hc433)
            refine Got.step (T' := T426) (fun tq kt => X426.iaload hx (j := (0 : Int32)) (v := (.int (p2 + (f1 (p3 &&& (3 : Int32)))))) (by rw [e426]; exact Ar434.1) (State.isArrayOf_alike hZ.alike Ar434.2.1) Ar434.2.2 hin434 (H434.at hin434 rfl) (g := (mkF m 140 #[.val (.int p0), .val (.int p1), .val (.int p2), .val (.int p3), .val (.int p4), .val (.int (Int32.ofNat N)), .val (.ref b390), .val (.ref b392), .val (.int k426_0), .val (.int (Int32.ofNat mn)), .unset, .unset, .unset, .unset] [(.int (0 : Int32)), (.ref b390), (.int (0 : Int32)), (.ref b392)])) rfl rfl (hb hby at_140) tq kt) ?_
            show Got p e below s _ _ _ _ T426 (mkF m 141 #[.val (.int p0), .val (.int p1), .val (.int p2), .val (.int p3), .val (.int p4), .val (.int (Int32.ofNat N)), .val (.ref b390), .val (.ref b392), .val (.int k426_0), .val (.int (Int32.ofNat mn)), .unset, .unset, .unset, .unset] [(.int (p2 + (f1 (p3 &&& (3 : Int32))))), (.int (0 : Int32)), (.ref b392)])
            obtain ⟨cl435, Ar435, q435, S435, M435, H435, G435⟩ := (id V392_431)
            have hin435 : ¬ ((0 : Int32) < 0 ∨ cl435.slots.size ≤ ((0 : Int32)).toNatClampNeg) := inb_of S435 ⟨by decide, by decide⟩
            obtain ⟨T435, h435, X435, e435, W435, st435⟩ := stI X426 hx hZ e426 Ar435 (j := (0 : Int32)) hin435 (g := (mkF m 141 #[.val (.int p0), .val (.int p1), .val (.int p2), .val (.int p3), .val (.int p4), .val (.int (Int32.ofNat N)), .val (.ref b390), .val (.ref b392), .val (.int k426_0), .val (.int (Int32.ofNat mn)), .unset, .unset, .unset, .unset] [(.int (p2 + (f1 (p3 &&& (3 : Int32))))), (.int (0 : Int32)), (.ref b392)])) rfl rfl (hb hby at_141)
            have Z0_436 : n0 ≤ h435.size := (Nat.le_trans Z0_429 (Keep.of_wr W435).1)
            have V420_437 : Arv Z h435 b390 k390 .int (Int32.ofNat N) [(.int (p2 + (f1 (p3 &&& (3 : Int32))))), (.int y399_b390_1), (.int y408_b390_2), (.int y417_b390_3)] (.int (0 : Int32)) := (V420_430.other W435 ne_b390_b392)
            have V435 : Arv Z h435 b392 k392 .int (5 : Int32) [(.int (p2 + (f1 (p3 &&& (3 : Int32))))), (.int (0 : Int32)), (.int (0 : Int32)), (.int (0 : Int32)), (.int (0 : Int32))] (.int (0 : Int32)) := Arv.set Ar435 q435 S435 M435 H435 G435 rfl W435 0 rfl (Nat.le_of_ble_eq_true rfl)
            have N435 := Fr.snoc X435 N426 gn_b392
            refine Got.step st435 ?_
            show Got p e below s _ _ _ _ T435 (mkF m 142 #[.val (.int p0), .val (.int p1), .val (.int p2), .val (.int p3), .val (.int p4), .val (.int (Int32.ofNat N)), .val (.ref b390), .val (.ref b392), .val (.int k426_0), .val (.int (Int32.ofNat mn)), .unset, .unset, .unset, .unset] [])
            exact J432 _ _ _ X435 e435 N435 (p2 + (f1 (p3 &&& (3 : Int32)))) (if_pos hc433).symm Z0_436 V420_437 V435
          · refine Got.step (T' := T426) (g' := (mkF m 142 #[.val (.int p0), .val (.int p1), .val (.int p2), .val (.int p3), .val (.int p4), .val (.int (Int32.ofNat N)), .val (.ref b390), .val (.ref b392), .val (.int k426_0), .val (.int (Int32.ofNat mn)), .unset, .unset, .unset, .unset] [])) (fun tq kt => ?_) ?_
            · show Steps p.tables e below (T426.setTop (mkF m 131 #[.val (.int p0), .val (.int p1), .val (.int p2), .val (.int p3), .val (.int p4), .val (.int (Int32.ofNat N)), .val (.ref b390), .val (.ref b392), .val (.int k426_0), .val (.int (Int32.ofNat mn)), .unset, .unset, .unset, .unset] [(.int (Int32.ofNat mn))])) _
              refine XS.ifYes X426.here hx rfl (pc0 := 131) (pc' := 142) rfl (hb hby at_131) rfl (XT.i0_le_t hc433) (by decide) (by decide) ?_
              exact kt
            exact J432 _ _ _ X426 e426 N426 (0 : Int32) (if_neg hc433).symm Z0_429 V420_430 V392_431
        by_cases hc427 : ((((p3.toUInt32 >>> ((10 : Int32) &&& 31).toUInt32).toInt32) &&& (1 : Int32)) = 0)
        · refine Got.step (T' := T417) (g' := (mkF m 112 #[.val (.int p0), .val (.int p1), .val (.int p2), .val (.int p3), .val (.int p4), .val (.int (Int32.ofNat N)), .val (.ref b390), .val (.ref b392), .unset, .unset, .unset, .unset, .unset, .unset] [(.int (((p3.toUInt32 >>> ((8 : Int32) &&& 31).toUInt32).toInt32) &&& (3 : Int32))), (.int p2)])) (fun tq kt => ?_) ?_
          · show Steps p.tables e below (T417.setTop (mkF m 97 #[.val (.int p0), .val (.int p1), .val (.int p2), .val (.int p3), .val (.int p4), .val (.int (Int32.ofNat N)), .val (.ref b390), .val (.ref b392), .unset, .unset, .unset, .unset, .unset, .unset] [(.int (((p3.toUInt32 >>> ((10 : Int32) &&& 31).toUInt32).toInt32) &&& (1 : Int32)))])) _
            refine XS.ifYes X417.here hx rfl (pc0 := 97) (pc' := 105) rfl (hb hby at_97) rfl (XT.i0_eq_t hc427) (by decide) (by decide) ?_
            show Steps p.tables e below (T417.setTop (mkF m 105 #[.val (.int p0), .val (.int p1), .val (.int p2), .val (.int p3), .val (.int p4), .val (.int (Int32.ofNat N)), .val (.ref b390), .val (.ref b392), .unset, .unset, .unset, .unset, .unset, .unset] [])) _
            refine XS.iloadN X417.here hx rfl (hb hby at_105) rfl ?_
            show Steps p.tables e below (T417.setTop (mkF m 106 #[.val (.int p0), .val (.int p1), .val (.int p2), .val (.int p3), .val (.int p4), .val (.int (Int32.ofNat N)), .val (.ref b390), .val (.ref b392), .unset, .unset, .unset, .unset, .unset, .unset] [(.int p2)])) _
            refine XS.iloadN X417.here hx rfl (hb hby at_106) rfl ?_
            show Steps p.tables e below (T417.setTop (mkF m 107 #[.val (.int p0), .val (.int p1), .val (.int p2), .val (.int p3), .val (.int p4), .val (.int (Int32.ofNat N)), .val (.ref b390), .val (.ref b392), .unset, .unset, .unset, .unset, .unset, .unset] [(.int p3), (.int p2)])) _
            refine XS.bipush X417.here hx rfl (hb hby at_107) ?_
            show Steps p.tables e below (T417.setTop (mkF m 109 #[.val (.int p0), .val (.int p1), .val (.int p2), .val (.int p3), .val (.int p4), .val (.int (Int32.ofNat N)), .val (.ref b390), .val (.ref b392), .unset, .unset, .unset, .unset, .unset, .unset] [(.int (8 : Int32)), (.int p3), (.int p2)])) _
            refine XS.iushr X417.here hx rfl (hb hby at_109) rfl ?_
            show Steps p.tables e below (T417.setTop (mkF m 110 #[.val (.int p0), .val (.int p1), .val (.int p2), .val (.int p3), .val (.int p4), .val (.int (Int32.ofNat N)), .val (.ref b390), .val (.ref b392), .unset, .unset, .unset, .unset, .unset, .unset] [(.int ((p3.toUInt32 >>> ((8 : Int32) &&& 31).toUInt32).toInt32)), (.int p2)])) _
            refine XS.iconst X417.here hx rfl (hb hby at_110) ?_
            show Steps p.tables e below (T417.setTop (mkF m 111 #[.val (.int p0), .val (.int p1), .val (.int p2), .val (.int p3), .val (.int p4), .val (.int (Int32.ofNat N)), .val (.ref b390), .val (.ref b392), .unset, .unset, .unset, .unset, .unset, .unset] [(.int (3 : Int32)), (.int ((p3.toUInt32 >>> ((8 : Int32) &&& 31).toUInt32).toInt32)), (.int p2)])) _
            refine XS.iand X417.here hx rfl (hb hby at_111) rfl ?_
            exact kt
          obtain ⟨_, _, ⟨T428, L428, k428, n428⟩, -, X428, ⟨Lc428, hQ428, l428, y428, z428⟩, st428⟩ := Jvm.LawKit.callS X417 hx (y := (⟨"com/example/sidestep/sidestep/CompiledPatternAdvancePinLaw", "off", "(I)I"⟩ : MethodName)) hown (mvT hZ (hw _ (List.mem_of_getElem? (i := 1) rfl))) (mvT hZ (hw _ (List.mem_of_getElem? (i := 2) rfl))) (mvT hZ (hw _ (List.mem_of_getElem? (i := 3) rfl))) (mvT hZ (hw _ (List.mem_of_getElem? (i := 4) rfl))) (by decide) (backOf (W := 1) (rm1 l Z a0 hw [] (((p3.toUInt32 >>> ((8 : Int32) &&& 31).toUInt32).toInt32) &&& (3 : Int32)) h417 n0 Z0_423) hZ (hw _ (List.mem_of_getElem? (i := 4) rfl)) (hw _ (List.mem_of_getElem? (i := 3) rfl)) (by decide) (by decide)) (g := (mkF m 112 #[.val (.int p0), .val (.int p1), .val (.int p2), .val (.int p3), .val (.int p4), .val (.int (Int32.ofNat N)), .val (.ref b390), .val (.ref b392), .unset, .unset, .unset, .unset, .unset, .unset] [(.int (((p3.toUInt32 >>> ((8 : Int32) &&& 31).toUInt32).toInt32) &&& (3 : Int32))), (.int p2)])) rfl (by rw [hml]; rfl) (argsL := [(.int (((p3.toUInt32 >>> ((8 : Int32) &&& 31).toUInt32).toInt32) &&& (3 : Int32)))]) (rest := [(.int p2)]) (lenOf pd_1 rfl) rfl (by show 2 * 0 + _ ≤ _; exact Nat.le_of_eq rfl) (hb hby at_112) (fun _ _ => ⟨rfl, e417, (by decide : 2 + 0 ≤ _), (by decide : 9 + 0 ≤ _)⟩)
          dsimp only [Pt.U, Pt.locs, Pt.cells, Pt.slots] at X428 l428 y428 z428 st428 hQ428
          subst y428 z428
          obtain ⟨rfl, Nq428, e428⟩ := hQ428
          have N428 : Fr n0 L428 := by rw [l428]; exact Fr.app N417 Nq428
          refine Got.step st428 ?_
          show Got p e below s _ _ _ _ T428 (mkF m 115 #[.val (.int p0), .val (.int p1), .val (.int p2), .val (.int p3), .val (.int p4), .val (.int (Int32.ofNat N)), .val (.ref b390), .val (.ref b392), .unset, .unset, .unset, .unset, .unset, .unset] [(.int (f1 (((p3.toUInt32 >>> ((8 : Int32) &&& 31).toUInt32).toInt32) &&& (3 : Int32)))), (.int p2)])
          refine Got.step (T' := T428) (g' := (mkF m 116 #[.val (.int p0), .val (.int p1), .val (.int p2), .val (.int p3), .val (.int p4), .val (.int (Int32.ofNat N)), .val (.ref b390), .val (.ref b392), .unset, .unset, .unset, .unset, .unset, .unset] [(.int (p2 + (f1 (((p3.toUInt32 >>> ((8 : Int32) &&& 31).toUInt32).toInt32) &&& (3 : Int32)))))])) (fun tq kt => ?_) ?_
          · show Steps p.tables e below (T428.setTop (mkF m 115 #[.val (.int p0), .val (.int p1), .val (.int p2), .val (.int p3), .val (.int p4), .val (.int (Int32.ofNat N)), .val (.ref b390), .val (.ref b392), .unset, .unset, .unset, .unset, .unset, .unset] [(.int (f1 (((p3.toUInt32 >>> ((8 : Int32) &&& 31).toUInt32).toInt32) &&& (3 : Int32)))), (.int p2)])) _
            refine XS.iadd X428.here hx rfl (hb hby at_115) rfl ?_
            exact kt
          exact J426 _ _ _ X428 e428 N428 (p2 + (f1 (((p3.toUInt32 >>> ((8 : Int32) &&& 31).toUInt32).toInt32) &&& (3 : Int32)))) (if_pos hc427).symm Z0_423 V420_424 V392_425
        · refine Got.step (T' := T417) (g' := (mkF m 116 #[.val (.int p0), .val (.int p1), .val (.int p2), .val (.int p3), .val (.int p4), .val (.int (Int32.ofNat N)), .val (.ref b390), .val (.ref b392), .unset, .unset, .unset, .unset, .unset, .unset] [(.int p4)])) (fun tq kt => ?_) ?_
          · show Steps p.tables e below (T417.setTop (mkF m 97 #[.val (.int p0), .val (.int p1), .val (.int p2), .val (.int p3), .val (.int p4), .val (.int (Int32.ofNat N)), .val (.ref b390), .val (.ref b392), .unset, .unset, .unset, .unset, .unset, .unset] [(.int (((p3.toUInt32 >>> ((10 : Int32) &&& 31).toUInt32).toInt32) &&& (1 : Int32)))])) _
            refine XS.ifNo X417.here hx rfl (hb hby at_97) rfl (XT.i0_eq_f hc427) ?_
            show Steps p.tables e below (T417.setTop (mkF m 100 #[.val (.int p0), .val (.int p1), .val (.int p2), .val (.int p3), .val (.int p4), .val (.int (Int32.ofNat N)), .val (.ref b390), .val (.ref b392), .unset, .unset, .unset, .unset, .unset, .unset] [])) _
            refine XS.iload X417.here hx rfl (hb hby at_100) rfl ?_
            show Steps p.tables e below (T417.setTop (mkF m 102 #[.val (.int p0), .val (.int p1), .val (.int p2), .val (.int p3), .val (.int p4), .val (.int (Int32.ofNat N)), .val (.ref b390), .val (.ref b392), .unset, .unset, .unset, .unset, .unset, .unset] [(.int p4)])) _
            refine XS.goto X417.here hx rfl (pc0 := 102) (pc' := 116) rfl (hb hby at_102) (by decide) (by decide) ?_
            exact kt
          exact J426 _ _ _ X417 e417 N417 p4 (if_neg hc427).symm Z0_423 V420_424 V392_425
      by_cases hc418 : ((3 : Int32) < (Int32.ofNat N))
      · refine Got.step (T' := T408) (g' := (mkF m 86 #[.val (.int p0), .val (.int p1), .val (.int p2), .val (.int p3), .val (.int p4), .val (.int (Int32.ofNat N)), .val (.ref b390), .val (.ref b392), .unset, .unset, .unset, .unset, .unset, .unset] [(.int (((p3.toUInt32 >>> ((6 : Int32) &&& 31).toUInt32).toInt32) &&& (3 : Int32))), (.int p2), (.int (3 : Int32)), (.ref b390)])) (fun tq kt => ?_) ?_
        · show Steps p.tables e below (T408.setTop (mkF m 73 #[.val (.int p0), .val (.int p1), .val (.int p2), .val (.int p3), .val (.int p4), .val (.int (Int32.ofNat N)), .val (.ref b390), .val (.ref b392), .unset, .unset, .unset, .unset, .unset, .unset] [(.int (3 : Int32)), (.int (Int32.ofNat N))])) _
          refine XS.icmpNo X408.here hx rfl (hb hby at_73) rfl (XT.ii_le_f hc418) ?_
          show Steps p.tables e below (T408.setTop (mkF m 76 #[.val (.int p0), .val (.int p1), .val (.int p2), .val (.int p3), .val (.int p4), .val (.int (Int32.ofNat N)), .val (.ref b390), .val (.ref b392), .unset, .unset, .unset, .unset, .unset, .unset] [])) _
          refine XS.aload X408.here hx rfl (hb hby at_76) rfl rfl ?_
          show Steps p.tables e below (T408.setTop (mkF m 78 #[.val (.int p0), .val (.int p1), .val (.int p2), .val (.int p3), .val (.int p4), .val (.int (Int32.ofNat N)), .val (.ref b390), .val (.ref b392), .unset, .unset, .unset, .unset, .unset, .unset] [(.ref b390)])) _
          refine XS.iconst X408.here hx rfl (hb hby at_78) ?_
          show Steps p.tables e below (T408.setTop (mkF m 79 #[.val (.int p0), .val (.int p1), .val (.int p2), .val (.int p3), .val (.int p4), .val (.int (Int32.ofNat N)), .val (.ref b390), .val (.ref b392), .unset, .unset, .unset, .unset, .unset, .unset] [(.int (3 : Int32)), (.ref b390)])) _
          refine XS.iloadN X408.here hx rfl (hb hby at_79) rfl ?_
          show Steps p.tables e below (T408.setTop (mkF m 80 #[.val (.int p0), .val (.int p1), .val (.int p2), .val (.int p3), .val (.int p4), .val (.int (Int32.ofNat N)), .val (.ref b390), .val (.ref b392), .unset, .unset, .unset, .unset, .unset, .unset] [(.int p2), (.int (3 : Int32)), (.ref b390)])) _
          refine XS.iloadN X408.here hx rfl (hb hby at_80) rfl ?_
          show Steps p.tables e below (T408.setTop (mkF m 81 #[.val (.int p0), .val (.int p1), .val (.int p2), .val (.int p3), .val (.int p4), .val (.int (Int32.ofNat N)), .val (.ref b390), .val (.ref b392), .unset, .unset, .unset, .unset, .unset, .unset] [(.int p3), (.int p2), (.int (3 : Int32)), (.ref b390)])) _
          refine XS.bipush X408.here hx rfl (hb hby at_81) ?_
          show Steps p.tables e below (T408.setTop (mkF m 83 #[.val (.int p0), .val (.int p1), .val (.int p2), .val (.int p3), .val (.int p4), .val (.int (Int32.ofNat N)), .val (.ref b390), .val (.ref b392), .unset, .unset, .unset, .unset, .unset, .unset] [(.int (6 : Int32)), (.int p3), (.int p2), (.int (3 : Int32)), (.ref b390)])) _
          refine XS.iushr X408.here hx rfl (hb hby at_83) rfl ?_
          show Steps p.tables e below (T408.setTop (mkF m 84 #[.val (.int p0), .val (.int p1), .val (.int p2), .val (.int p3), .val (.int p4), .val (.int (Int32.ofNat N)), .val (.ref b390), .val (.ref b392), .unset, .unset, .unset, .unset, .unset, .unset] [(.int ((p3.toUInt32 >>> ((6 : Int32) &&& 31).toUInt32).toInt32)), (.int p2), (.int (3 : Int32)), (.ref b390)])) _
          refine XS.iconst X408.here hx rfl (hb hby at_84) ?_
          show Steps p.tables e below (T408.setTop (mkF m 85 #[.val (.int p0), .val (.int p1), .val (.int p2), .val (.int p3), .val (.int p4), .val (.int (Int32.ofNat N)), .val (.ref b390), .val (.ref b392), .unset, .unset, .unset, .unset, .unset, .unset] [(.int (3 : Int32)), (.int ((p3.toUInt32 >>> ((6 : Int32) &&& 31).toUInt32).toInt32)), (.int p2), (.int (3 : Int32)), (.ref b390)])) _
          refine XS.iand X408.here hx rfl (hb hby at_85) rfl ?_
          exact kt
        obtain ⟨_, _, ⟨T419, L419, k419, n419⟩, -, X419, ⟨Lc419, hQ419, l419, y419, z419⟩, st419⟩ := Jvm.LawKit.callS X408 hx (y := (⟨"com/example/sidestep/sidestep/CompiledPatternAdvancePinLaw", "off", "(I)I"⟩ : MethodName)) hown (mvT hZ (hw _ (List.mem_of_getElem? (i := 1) rfl))) (mvT hZ (hw _ (List.mem_of_getElem? (i := 2) rfl))) (mvT hZ (hw _ (List.mem_of_getElem? (i := 3) rfl))) (mvT hZ (hw _ (List.mem_of_getElem? (i := 4) rfl))) (by decide) (backOf (W := 3) (rm1 l Z a0 hw [] (((p3.toUInt32 >>> ((6 : Int32) &&& 31).toUInt32).toInt32) &&& (3 : Int32)) h408 n0 Z0_414) hZ (hw _ (List.mem_of_getElem? (i := 4) rfl)) (hw _ (List.mem_of_getElem? (i := 3) rfl)) (by decide) (by decide)) (g := (mkF m 86 #[.val (.int p0), .val (.int p1), .val (.int p2), .val (.int p3), .val (.int p4), .val (.int (Int32.ofNat N)), .val (.ref b390), .val (.ref b392), .unset, .unset, .unset, .unset, .unset, .unset] [(.int (((p3.toUInt32 >>> ((6 : Int32) &&& 31).toUInt32).toInt32) &&& (3 : Int32))), (.int p2), (.int (3 : Int32)), (.ref b390)])) rfl (by rw [hml]; rfl) (argsL := [(.int (((p3.toUInt32 >>> ((6 : Int32) &&& 31).toUInt32).toInt32) &&& (3 : Int32)))]) (rest := [(.int p2), (.int (3 : Int32)), (.ref b390)]) (lenOf pd_1 rfl) rfl (by show 2 * 0 + _ ≤ _; exact Nat.le_of_eq rfl) (hb hby at_86) (fun _ _ => ⟨rfl, e408, (by decide : 2 + 0 ≤ _), (by decide : 9 + 0 ≤ _)⟩)
        dsimp only [Pt.U, Pt.locs, Pt.cells, Pt.slots] at X419 l419 y419 z419 st419 hQ419
        subst y419 z419
        obtain ⟨rfl, Nq419, e419⟩ := hQ419
        have N419 : Fr n0 L419 := by rw [l419]; exact Fr.app N408 Nq419
        refine Got.step st419 ?_
        show Got p e below s _ _ _ _ T419 (mkF m 89 #[.val (.int p0), .val (.int p1), .val (.int p2), .val (.int p3), .val (.int p4), .val (.int (Int32.ofNat N)), .val (.ref b390), .val (.ref b392), .unset, .unset, .unset, .unset, .unset, .unset] [(.int (f1 (((p3.toUInt32 >>> ((6 : Int32) &&& 31).toUInt32).toInt32) &&& (3 : Int32)))), (.int p2), (.int (3 : Int32)), (.ref b390)])
        refine Got.step (T' := T419) (g' := (mkF m 90 #[.val (.int p0), .val (.int p1), .val (.int p2), .val (.int p3), .val (.int p4), .val (.int (Int32.ofNat N)), .val (.ref b390), .val (.ref b392), .unset, .unset, .unset, .unset, .unset, .unset] [(.int (p2 + (f1 (((p3.toUInt32 >>> ((6 : Int32) &&& 31).toUInt32).toInt32) &&& (3 : Int32))))), (.int (3 : Int32)), (.ref b390)])) (fun tq kt => ?_) ?_
        · show Steps p.tables e below (T419.setTop (mkF m 89 #[.val (.int p0), .val (.int p1), .val (.int p2), .val (.int p3), .val (.int p4), .val (.int (Int32.ofNat N)), .val (.ref b390), .val (.ref b392), .unset, .unset, .unset, .unset, .unset, .unset] [(.int (f1 (((p3.toUInt32 >>> ((6 : Int32) &&& 31).toUInt32).toInt32) &&& (3 : Int32)))), (.int p2), (.int (3 : Int32)), (.ref b390)])) _
          refine XS.iadd X419.here hx rfl (hb hby at_89) rfl ?_
          exact kt
        obtain ⟨cl420, Ar420, q420, S420, M420, H420, G420⟩ := (id V411_415)
        have hin420 : ¬ ((3 : Int32) < 0 ∨ cl420.slots.size ≤ ((3 : Int32)).toNatClampNeg) := inb_of S420 ⟨by decide, hc418⟩
        obtain ⟨T420, h420, X420, e420, W420, st420⟩ := stI X419 hx hZ e419 Ar420 (j := (3 : Int32)) hin420 (g := (mkF m 90 #[.val (.int p0), .val (.int p1), .val (.int p2), .val (.int p3), .val (.int p4), .val (.int (Int32.ofNat N)), .val (.ref b390), .val (.ref b392), .unset, .unset, .unset, .unset, .unset, .unset] [(.int (p2 + (f1 (((p3.toUInt32 >>> ((6 : Int32) &&& 31).toUInt32).toInt32) &&& (3 : Int32))))), (.int (3 : Int32)), (.ref b390)])) rfl rfl (hb hby at_90)
        have Z0_421 : n0 ≤ h420.size := (Nat.le_trans Z0_414 (Keep.of_wr W420).1)
        have V392_422 : Arv Z h420 b392 k392 .int (5 : Int32) [(.int (0 : Int32)), (.int (0 : Int32)), (.int (0 : Int32)), (.int (0 : Int32)), (.int (0 : Int32))] (.int (0 : Int32)) := (V392_416.other W420 (Ne.symm ne_b390_b392))
        have V420 : Arv Z h420 b390 k390 .int (Int32.ofNat N) [(.int (p2 + (f1 (p3 &&& (3 : Int32))))), (.int y399_b390_1), (.int y408_b390_2), (.int (p2 + (f1 (((p3.toUInt32 >>> ((6 : Int32) &&& 31).toUInt32).toInt32) &&& (3 : Int32)))))] (.int (0 : Int32)) := Arv.set Ar420 q420 S420 M420 H420 G420 rfl W420 3 rfl (Nat.le_of_ble_eq_true rfl)
        have N420 := Fr.snoc X420 N419 gn_b390
        refine Got.step st420 ?_
        show Got p e below s _ _ _ _ T420 (mkF m 91 #[.val (.int p0), .val (.int p1), .val (.int p2), .val (.int p3), .val (.int p4), .val (.int (Int32.ofNat N)), .val (.ref b390), .val (.ref b392), .unset, .unset, .unset, .unset, .unset, .unset] [])
        exact J417 _ _ _ X420 e420 N420 (p2 + (f1 (((p3.toUInt32 >>> ((6 : Int32) &&& 31).toUInt32).toInt32) &&& (3 : Int32)))) (if_pos hc418).symm Z0_421 V420 V392_422
      · refine Got.step (T' := T408) (g' := (mkF m 91 #[.val (.int p0), .val (.int p1), .val (.int p2), .val (.int p3), .val (.int p4), .val (.int (Int32.ofNat N)), .val (.ref b390), .val (.ref b392), .unset, .unset, .unset, .unset, .unset, .unset] [])) (fun tq kt => ?_) ?_
        · show Steps p.tables e below (T408.setTop (mkF m 73 #[.val (.int p0), .val (.int p1), .val (.int p2), .val (.int p3), .val (.int p4), .val (.int (Int32.ofNat N)), .val (.ref b390), .val (.ref b392), .unset, .unset, .unset, .unset, .unset, .unset] [(.int (3 : Int32)), (.int (Int32.ofNat N))])) _
          refine XS.icmpYes X408.here hx rfl (pc0 := 73) (pc' := 91) rfl (hb hby at_73) rfl (XT.ii_le_t hc418) (by decide) (by decide) ?_
          exact kt
        exact J417 _ _ _ X408 e408 N408 (0 : Int32) (if_neg hc418).symm Z0_414 V411_415 V392_416
    by_cases hc409 : ((2 : Int32) < (Int32.ofNat N))
    · refine Got.step (T' := T399) (g' := (mkF m 65 #[.val (.int p0), .val (.int p1), .val (.int p2), .val (.int p3), .val (.int p4), .val (.int (Int32.ofNat N)), .val (.ref b390), .val (.ref b392), .unset, .unset, .unset, .unset, .unset, .unset] [(.int (((p3.toUInt32 >>> ((4 : Int32) &&& 31).toUInt32).toInt32) &&& (3 : Int32))), (.int p2), (.int (2 : Int32)), (.ref b390)])) (fun tq kt => ?_) ?_
      · show Steps p.tables e below (T399.setTop (mkF m 53 #[.val (.int p0), .val (.int p1), .val (.int p2), .val (.int p3), .val (.int p4), .val (.int (Int32.ofNat N)), .val (.ref b390), .val (.ref b392), .unset, .unset, .unset, .unset, .unset, .unset] [(.int (2 : Int32)), (.int (Int32.ofNat N))])) _
        refine XS.icmpNo X399.here hx rfl (hb hby at_53) rfl (XT.ii_le_f hc409) ?_
        show Steps p.tables e below (T399.setTop (mkF m 56 #[.val (.int p0), .val (.int p1), .val (.int p2), .val (.int p3), .val (.int p4), .val (.int (Int32.ofNat N)), .val (.ref b390), .val (.ref b392), .unset, .unset, .unset, .unset, .unset, .unset] [])) _
        refine XS.aload X399.here hx rfl (hb hby at_56) rfl rfl ?_
        show Steps p.tables e below (T399.setTop (mkF m 58 #[.val (.int p0), .val (.int p1), .val (.int p2), .val (.int p3), .val (.int p4), .val (.int (Int32.ofNat N)), .val (.ref b390), .val (.ref b392), .unset, .unset, .unset, .unset, .unset, .unset] [(.ref b390)])) _
        refine XS.iconst X399.here hx rfl (hb hby at_58) ?_
        show Steps p.tables e below (T399.setTop (mkF m 59 #[.val (.int p0), .val (.int p1), .val (.int p2), .val (.int p3), .val (.int p4), .val (.int (Int32.ofNat N)), .val (.ref b390), .val (.ref b392), .unset, .unset, .unset, .unset, .unset, .unset] [(.int (2 : Int32)), (.ref b390)])) _
        refine XS.iloadN X399.here hx rfl (hb hby at_59) rfl ?_
        show Steps p.tables e below (T399.setTop (mkF m 60 #[.val (.int p0), .val (.int p1), .val (.int p2), .val (.int p3), .val (.int p4), .val (.int (Int32.ofNat N)), .val (.ref b390), .val (.ref b392), .unset, .unset, .unset, .unset, .unset, .unset] [(.int p2), (.int (2 : Int32)), (.ref b390)])) _
        refine XS.iloadN X399.here hx rfl (hb hby at_60) rfl ?_
        show Steps p.tables e below (T399.setTop (mkF m 61 #[.val (.int p0), .val (.int p1), .val (.int p2), .val (.int p3), .val (.int p4), .val (.int (Int32.ofNat N)), .val (.ref b390), .val (.ref b392), .unset, .unset, .unset, .unset, .unset, .unset] [(.int p3), (.int p2), (.int (2 : Int32)), (.ref b390)])) _
        refine XS.iconst X399.here hx rfl (hb hby at_61) ?_
        show Steps p.tables e below (T399.setTop (mkF m 62 #[.val (.int p0), .val (.int p1), .val (.int p2), .val (.int p3), .val (.int p4), .val (.int (Int32.ofNat N)), .val (.ref b390), .val (.ref b392), .unset, .unset, .unset, .unset, .unset, .unset] [(.int (4 : Int32)), (.int p3), (.int p2), (.int (2 : Int32)), (.ref b390)])) _
        refine XS.iushr X399.here hx rfl (hb hby at_62) rfl ?_
        show Steps p.tables e below (T399.setTop (mkF m 63 #[.val (.int p0), .val (.int p1), .val (.int p2), .val (.int p3), .val (.int p4), .val (.int (Int32.ofNat N)), .val (.ref b390), .val (.ref b392), .unset, .unset, .unset, .unset, .unset, .unset] [(.int ((p3.toUInt32 >>> ((4 : Int32) &&& 31).toUInt32).toInt32)), (.int p2), (.int (2 : Int32)), (.ref b390)])) _
        refine XS.iconst X399.here hx rfl (hb hby at_63) ?_
        show Steps p.tables e below (T399.setTop (mkF m 64 #[.val (.int p0), .val (.int p1), .val (.int p2), .val (.int p3), .val (.int p4), .val (.int (Int32.ofNat N)), .val (.ref b390), .val (.ref b392), .unset, .unset, .unset, .unset, .unset, .unset] [(.int (3 : Int32)), (.int ((p3.toUInt32 >>> ((4 : Int32) &&& 31).toUInt32).toInt32)), (.int p2), (.int (2 : Int32)), (.ref b390)])) _
        refine XS.iand X399.here hx rfl (hb hby at_64) rfl ?_
        exact kt
      obtain ⟨_, _, ⟨T410, L410, k410, n410⟩, -, X410, ⟨Lc410, hQ410, l410, y410, z410⟩, st410⟩ := Jvm.LawKit.callS X399 hx (y := (⟨"com/example/sidestep/sidestep/CompiledPatternAdvancePinLaw", "off", "(I)I"⟩ : MethodName)) hown (mvT hZ (hw _ (List.mem_of_getElem? (i := 1) rfl))) (mvT hZ (hw _ (List.mem_of_getElem? (i := 2) rfl))) (mvT hZ (hw _ (List.mem_of_getElem? (i := 3) rfl))) (mvT hZ (hw _ (List.mem_of_getElem? (i := 4) rfl))) (by decide) (backOf (W := 3) (rm1 l Z a0 hw [] (((p3.toUInt32 >>> ((4 : Int32) &&& 31).toUInt32).toInt32) &&& (3 : Int32)) h399 n0 Z0_405) hZ (hw _ (List.mem_of_getElem? (i := 4) rfl)) (hw _ (List.mem_of_getElem? (i := 3) rfl)) (by decide) (by decide)) (g := (mkF m 65 #[.val (.int p0), .val (.int p1), .val (.int p2), .val (.int p3), .val (.int p4), .val (.int (Int32.ofNat N)), .val (.ref b390), .val (.ref b392), .unset, .unset, .unset, .unset, .unset, .unset] [(.int (((p3.toUInt32 >>> ((4 : Int32) &&& 31).toUInt32).toInt32) &&& (3 : Int32))), (.int p2), (.int (2 : Int32)), (.ref b390)])) rfl (by rw [hml]; rfl) (argsL := [(.int (((p3.toUInt32 >>> ((4 : Int32) &&& 31).toUInt32).toInt32) &&& (3 : Int32)))]) (rest := [(.int p2), (.int (2 : Int32)), (.ref b390)]) (lenOf pd_1 rfl) rfl (by show 2 * 0 + _ ≤ _; exact Nat.le_of_eq rfl) (hb hby at_65) (fun _ _ => ⟨rfl, e399, (by decide : 2 + 0 ≤ _), (by decide : 9 + 0 ≤ _)⟩)
      dsimp only [Pt.U, Pt.locs, Pt.cells, Pt.slots] at X410 l410 y410 z410 st410 hQ410
      subst y410 z410
      obtain ⟨rfl, Nq410, e410⟩ := hQ410
      have N410 : Fr n0 L410 := by rw [l410]; exact Fr.app N399 Nq410
      refine Got.step st410 ?_
      show Got p e below s _ _ _ _ T410 (mkF m 68 #[.val (.int p0), .val (.int p1), .val (.int p2), .val (.int p3), .val (.int p4), .val (.int (Int32.ofNat N)), .val (.ref b390), .val (.ref b392), .unset, .unset, .unset, .unset, .unset, .unset] [(.int (f1 (((p3.toUInt32 >>> ((4 : Int32) &&& 31).toUInt32).toInt32) &&& (3 : Int32)))), (.int p2), (.int (2 : Int32)), (.ref b390)])
      refine Got.step (T' := T410) (g' := (mkF m 69 #[.val (.int p0), .val (.int p1), .val (.int p2), .val (.int p3), .val (.int p4), .val (.int (Int32.ofNat N)), .val (.ref b390), .val (.ref b392), .unset, .unset, .unset, .unset, .unset, .unset] [(.int (p2 + (f1 (((p3.toUInt32 >>> ((4 : Int32) &&& 31).toUInt32).toInt32) &&& (3 : Int32))))), (.int (2 : Int32)), (.ref b390)])) (fun tq kt => ?_) ?_
      · show Steps p.tables e below (T410.setTop (mkF m 68 #[.val (.int p0), .val (.int p1), .val (.int p2), .val (.int p3), .val (.int p4), .val (.int (Int32.ofNat N)), .val (.ref b390), .val (.ref b392), .unset, .unset, .unset, .unset, .unset, .unset] [(.int (f1 (((p3.toUInt32 >>> ((4 : Int32) &&& 31).toUInt32).toInt32) &&& (3 : Int32)))), (.int p2), (.int (2 : Int32)), (.ref b390)])) _
        refine XS.iadd X410.here hx rfl (hb hby at_68) rfl ?_
        exact kt
      obtain ⟨cl411, Ar411, q411, S411, M411, H411, G411⟩ := (id V402_406)
      have hin411 : ¬ ((2 : Int32) < 0 ∨ cl411.slots.size ≤ ((2 : Int32)).toNatClampNeg) := inb_of S411 ⟨by decide, hc409⟩
      obtain ⟨T411, h411, X411, e411, W411, st411⟩ := stI X410 hx hZ e410 Ar411 (j := (2 : Int32)) hin411 (g := (mkF m 69 #[.val (.int p0), .val (.int p1), .val (.int p2), .val (.int p3), .val (.int p4), .val (.int (Int32.ofNat N)), .val (.ref b390), .val (.ref b392), .unset, .unset, .unset, .unset, .unset, .unset] [(.int (p2 + (f1 (((p3.toUInt32 >>> ((4 : Int32) &&& 31).toUInt32).toInt32) &&& (3 : Int32))))), (.int (2 : Int32)), (.ref b390)])) rfl rfl (hb hby at_69)
      have Z0_412 : n0 ≤ h411.size := (Nat.le_trans Z0_405 (Keep.of_wr W411).1)
      have V392_413 : Arv Z h411 b392 k392 .int (5 : Int32) [(.int (0 : Int32)), (.int (0 : Int32)), (.int (0 : Int32)), (.int (0 : Int32)), (.int (0 : Int32))] (.int (0 : Int32)) := (V392_407.other W411 (Ne.symm ne_b390_b392))
      have V411 : Arv Z h411 b390 k390 .int (Int32.ofNat N) [(.int (p2 + (f1 (p3 &&& (3 : Int32))))), (.int y399_b390_1), (.int (p2 + (f1 (((p3.toUInt32 >>> ((4 : Int32) &&& 31).toUInt32).toInt32) &&& (3 : Int32))))), (.int (0 : Int32))] (.int (0 : Int32)) := Arv.set Ar411 q411 S411 M411 H411 G411 rfl W411 2 rfl (Nat.le_of_ble_eq_true rfl)
      have N411 := Fr.snoc X411 N410 gn_b390
      refine Got.step st411 ?_
      show Got p e below s _ _ _ _ T411 (mkF m 70 #[.val (.int p0), .val (.int p1), .val (.int p2), .val (.int p3), .val (.int p4), .val (.int (Int32.ofNat N)), .val (.ref b390), .val (.ref b392), .unset, .unset, .unset, .unset, .unset, .unset] [])
      exact J408 _ _ _ X411 e411 N411 (p2 + (f1 (((p3.toUInt32 >>> ((4 : Int32) &&& 31).toUInt32).toInt32) &&& (3 : Int32)))) (if_pos hc409).symm Z0_412 V411 V392_413
    · refine Got.step (T' := T399) (g' := (mkF m 70 #[.val (.int p0), .val (.int p1), .val (.int p2), .val (.int p3), .val (.int p4), .val (.int (Int32.ofNat N)), .val (.ref b390), .val (.ref b392), .unset, .unset, .unset, .unset, .unset, .unset] [])) (fun tq kt => ?_) ?_
      · show Steps p.tables e below (T399.setTop (mkF m 53 #[.val (.int p0), .val (.int p1), .val (.int p2), .val (.int p3), .val (.int p4), .val (.int (Int32.ofNat N)), .val (.ref b390), .val (.ref b392), .unset, .unset, .unset, .unset, .unset, .unset] [(.int (2 : Int32)), (.int (Int32.ofNat N))])) _
        refine XS.icmpYes X399.here hx rfl (pc0 := 53) (pc' := 70) rfl (hb hby at_53) rfl (XT.ii_le_t hc409) (by decide) (by decide) ?_
        exact kt
      exact J408 _ _ _ X399 e399 N399 (0 : Int32) (if_neg hc409).symm Z0_405 V402_406 V392_407
  by_cases hc400 : ((1 : Int32) < (Int32.ofNat N))
  · refine Got.step (T' := T396) (g' := (mkF m 45 #[.val (.int p0), .val (.int p1), .val (.int p2), .val (.int p3), .val (.int p4), .val (.int (Int32.ofNat N)), .val (.ref b390), .val (.ref b392), .unset, .unset, .unset, .unset, .unset, .unset] [(.int (((p3.toUInt32 >>> ((2 : Int32) &&& 31).toUInt32).toInt32) &&& (3 : Int32))), (.int p2), (.int (1 : Int32)), (.ref b390)])) (fun tq kt => ?_) ?_
    · show Steps p.tables e below (T396.setTop (mkF m 33 #[.val (.int p0), .val (.int p1), .val (.int p2), .val (.int p3), .val (.int p4), .val (.int (Int32.ofNat N)), .val (.ref b390), .val (.ref b392), .unset, .unset, .unset, .unset, .unset, .unset] [(.int (1 : Int32)), (.int (Int32.ofNat N))])) _
      refine XS.icmpNo X396.here hx rfl (hb hby at_33) rfl (XT.ii_le_f hc400) ?_
      show Steps p.tables e below (T396.setTop (mkF m 36 #[.val (.int p0), .val (.int p1), .val (.int p2), .val (.int p3), .val (.int p4), .val (.int (Int32.ofNat N)), .val (.ref b390), .val (.ref b392), .unset, .unset, .unset, .unset, .unset, .unset] [])) _
      refine XS.aload X396.here hx rfl (hb hby at_36) rfl rfl ?_
      show Steps p.tables e below (T396.setTop (mkF m 38 #[.val (.int p0), .val (.int p1), .val (.int p2), .val (.int p3), .val (.int p4), .val (.int (Int32.ofNat N)), .val (.ref b390), .val (.ref b392), .unset, .unset, .unset, .unset, .unset, .unset] [(.ref b390)])) _
      refine XS.iconst X396.here hx rfl (hb hby at_38) ?_
      show Steps p.tables e below (T396.setTop (mkF m 39 #[.val (.int p0), .val (.int p1), .val (.int p2), .val (.int p3), .val (.int p4), .val (.int (Int32.ofNat N)), .val (.ref b390), .val (.ref b392), .unset, .unset, .unset, .unset, .unset, .unset] [(.int (1 : Int32)), (.ref b390)])) _
      refine XS.iloadN X396.here hx rfl (hb hby at_39) rfl ?_
      show Steps p.tables e below (T396.setTop (mkF m 40 #[.val (.int p0), .val (.int p1), .val (.int p2), .val (.int p3), .val (.int p4), .val (.int (Int32.ofNat N)), .val (.ref b390), .val (.ref b392), .unset, .unset, .unset, .unset, .unset, .unset] [(.int p2), (.int (1 : Int32)), (.ref b390)])) _
      refine XS.iloadN X396.here hx rfl (hb hby at_40) rfl ?_
      show Steps p.tables e below (T396.setTop (mkF m 41 #[.val (.int p0), .val (.int p1), .val (.int p2), .val (.int p3), .val (.int p4), .val (.int (Int32.ofNat N)), .val (.ref b390), .val (.ref b392), .unset, .unset, .unset, .unset, .unset, .unset] [(.int p3), (.int p2), (.int (1 : Int32)), (.ref b390)])) _
      refine XS.iconst X396.here hx rfl (hb hby at_41) ?_
      show Steps p.tables e below (T396.setTop (mkF m 42 #[.val (.int p0), .val (.int p1), .val (.int p2), .val (.int p3), .val (.int p4), .val (.int (Int32.ofNat N)), .val (.ref b390), .val (.ref b392), .unset, .unset, .unset, .unset, .unset, .unset] [(.int (2 : Int32)), (.int p3), (.int p2), (.int (1 : Int32)), (.ref b390)])) _
      refine XS.iushr X396.here hx rfl (hb hby at_42) rfl ?_
      show Steps p.tables e below (T396.setTop (mkF m 43 #[.val (.int p0), .val (.int p1), .val (.int p2), .val (.int p3), .val (.int p4), .val (.int (Int32.ofNat N)), .val (.ref b390), .val (.ref b392), .unset, .unset, .unset, .unset, .unset, .unset] [(.int ((p3.toUInt32 >>> ((2 : Int32) &&& 31).toUInt32).toInt32)), (.int p2), (.int (1 : Int32)), (.ref b390)])) _
      refine XS.iconst X396.here hx rfl (hb hby at_43) ?_
      show Steps p.tables e below (T396.setTop (mkF m 44 #[.val (.int p0), .val (.int p1), .val (.int p2), .val (.int p3), .val (.int p4), .val (.int (Int32.ofNat N)), .val (.ref b390), .val (.ref b392), .unset, .unset, .unset, .unset, .unset, .unset] [(.int (3 : Int32)), (.int ((p3.toUInt32 >>> ((2 : Int32) &&& 31).toUInt32).toInt32)), (.int p2), (.int (1 : Int32)), (.ref b390)])) _
      refine XS.iand X396.here hx rfl (hb hby at_44) rfl ?_
      exact kt
    obtain ⟨_, _, ⟨T401, L401, k401, n401⟩, -, X401, ⟨Lc401, hQ401, l401, y401, z401⟩, st401⟩ := Jvm.LawKit.callS X396 hx (y := (⟨"com/example/sidestep/sidestep/CompiledPatternAdvancePinLaw", "off", "(I)I"⟩ : MethodName)) hown (mvT hZ (hw _ (List.mem_of_getElem? (i := 1) rfl))) (mvT hZ (hw _ (List.mem_of_getElem? (i := 2) rfl))) (mvT hZ (hw _ (List.mem_of_getElem? (i := 3) rfl))) (mvT hZ (hw _ (List.mem_of_getElem? (i := 4) rfl))) (by decide) (backOf (W := 3) (rm1 l Z a0 hw [] (((p3.toUInt32 >>> ((2 : Int32) &&& 31).toUInt32).toInt32) &&& (3 : Int32)) h396 n0 Z0_397) hZ (hw _ (List.mem_of_getElem? (i := 4) rfl)) (hw _ (List.mem_of_getElem? (i := 3) rfl)) (by decide) (by decide)) (g := (mkF m 45 #[.val (.int p0), .val (.int p1), .val (.int p2), .val (.int p3), .val (.int p4), .val (.int (Int32.ofNat N)), .val (.ref b390), .val (.ref b392), .unset, .unset, .unset, .unset, .unset, .unset] [(.int (((p3.toUInt32 >>> ((2 : Int32) &&& 31).toUInt32).toInt32) &&& (3 : Int32))), (.int p2), (.int (1 : Int32)), (.ref b390)])) rfl (by rw [hml]; rfl) (argsL := [(.int (((p3.toUInt32 >>> ((2 : Int32) &&& 31).toUInt32).toInt32) &&& (3 : Int32)))]) (rest := [(.int p2), (.int (1 : Int32)), (.ref b390)]) (lenOf pd_1 rfl) rfl (by show 2 * 0 + _ ≤ _; exact Nat.le_of_eq rfl) (hb hby at_45) (fun _ _ => ⟨rfl, e396, (by decide : 2 + 0 ≤ _), (by decide : 9 + 0 ≤ _)⟩)
    dsimp only [Pt.U, Pt.locs, Pt.cells, Pt.slots] at X401 l401 y401 z401 st401 hQ401
    subst y401 z401
    obtain ⟨rfl, Nq401, e401⟩ := hQ401
    have N401 : Fr n0 L401 := by rw [l401]; exact Fr.app N396 Nq401
    refine Got.step st401 ?_
    show Got p e below s _ _ _ _ T401 (mkF m 48 #[.val (.int p0), .val (.int p1), .val (.int p2), .val (.int p3), .val (.int p4), .val (.int (Int32.ofNat N)), .val (.ref b390), .val (.ref b392), .unset, .unset, .unset, .unset, .unset, .unset] [(.int (f1 (((p3.toUInt32 >>> ((2 : Int32) &&& 31).toUInt32).toInt32) &&& (3 : Int32)))), (.int p2), (.int (1 : Int32)), (.ref b390)])
    refine Got.step (T' := T401) (g' := (mkF m 49 #[.val (.int p0), .val (.int p1), .val (.int p2), .val (.int p3), .val (.int p4), .val (.int (Int32.ofNat N)), .val (.ref b390), .val (.ref b392), .unset, .unset, .unset, .unset, .unset, .unset] [(.int (p2 + (f1 (((p3.toUInt32 >>> ((2 : Int32) &&& 31).toUInt32).toInt32) &&& (3 : Int32))))), (.int (1 : Int32)), (.ref b390)])) (fun tq kt => ?_) ?_
    · show Steps p.tables e below (T401.setTop (mkF m 48 #[.val (.int p0), .val (.int p1), .val (.int p2), .val (.int p3), .val (.int p4), .val (.int (Int32.ofNat N)), .val (.ref b390), .val (.ref b392), .unset, .unset, .unset, .unset, .unset, .unset] [(.int (f1 (((p3.toUInt32 >>> ((2 : Int32) &&& 31).toUInt32).toInt32) &&& (3 : Int32)))), (.int p2), (.int (1 : Int32)), (.ref b390)])) _
      refine XS.iadd X401.here hx rfl (hb hby at_48) rfl ?_
      exact kt
    obtain ⟨cl402, Ar402, q402, S402, M402, H402, G402⟩ := (id V396)
    have hin402 : ¬ ((1 : Int32) < 0 ∨ cl402.slots.size ≤ ((1 : Int32)).toNatClampNeg) := inb_of S402 ⟨by decide, hc400⟩
    obtain ⟨T402, h402, X402, e402, W402, st402⟩ := stI X401 hx hZ e401 Ar402 (j := (1 : Int32)) hin402 (g := (mkF m 49 #[.val (.int p0), .val (.int p1), .val (.int p2), .val (.int p3), .val (.int p4), .val (.int (Int32.ofNat N)), .val (.ref b390), .val (.ref b392), .unset, .unset, .unset, .unset, .unset, .unset] [(.int (p2 + (f1 (((p3.toUInt32 >>> ((2 : Int32) &&& 31).toUInt32).toInt32) &&& (3 : Int32))))), (.int (1 : Int32)), (.ref b390)])) rfl rfl (hb hby at_49)
    have Z0_403 : n0 ≤ h402.size := (Nat.le_trans Z0_397 (Keep.of_wr W402).1)
    have V392_404 : Arv Z h402 b392 k392 .int (5 : Int32) [(.int (0 : Int32)), (.int (0 : Int32)), (.int (0 : Int32)), (.int (0 : Int32)), (.int (0 : Int32))] (.int (0 : Int32)) := (V392_398.other W402 (Ne.symm ne_b390_b392))
    have V402 : Arv Z h402 b390 k390 .int (Int32.ofNat N) [(.int (p2 + (f1 (p3 &&& (3 : Int32))))), (.int (p2 + (f1 (((p3.toUInt32 >>> ((2 : Int32) &&& 31).toUInt32).toInt32) &&& (3 : Int32))))), (.int (0 : Int32)), (.int (0 : Int32))] (.int (0 : Int32)) := Arv.set Ar402 q402 S402 M402 H402 G402 rfl W402 1 rfl (Nat.le_of_ble_eq_true rfl)
    have N402 := Fr.snoc X402 N401 gn_b390
    refine Got.step st402 ?_
    show Got p e below s _ _ _ _ T402 (mkF m 50 #[.val (.int p0), .val (.int p1), .val (.int p2), .val (.int p3), .val (.int p4), .val (.int (Int32.ofNat N)), .val (.ref b390), .val (.ref b392), .unset, .unset, .unset, .unset, .unset, .unset] [])
    exact J399 _ _ _ X402 e402 N402 (p2 + (f1 (((p3.toUInt32 >>> ((2 : Int32) &&& 31).toUInt32).toInt32) &&& (3 : Int32)))) (if_pos hc400).symm Z0_403 V402 V392_404
  · refine Got.step (T' := T396) (g' := (mkF m 50 #[.val (.int p0), .val (.int p1), .val (.int p2), .val (.int p3), .val (.int p4), .val (.int (Int32.ofNat N)), .val (.ref b390), .val (.ref b392), .unset, .unset, .unset, .unset, .unset, .unset] [])) (fun tq kt => ?_) ?_
    · show Steps p.tables e below (T396.setTop (mkF m 33 #[.val (.int p0), .val (.int p1), .val (.int p2), .val (.int p3), .val (.int p4), .val (.int (Int32.ofNat N)), .val (.ref b390), .val (.ref b392), .unset, .unset, .unset, .unset, .unset, .unset] [(.int (1 : Int32)), (.int (Int32.ofNat N))])) _
      refine XS.icmpYes X396.here hx rfl (pc0 := 33) (pc' := 50) rfl (hb hby at_33) rfl (XT.ii_le_t hc400) (by decide) (by decide) ?_
      exact kt
    exact J399 _ _ _ X396 e396 N396 (0 : Int32) (if_neg hc400).symm Z0_397 V396 V392_398
set_option maxRecDepth 65536 in
set_option maxHeartbeats 40000000 in
theorem comes_1 {Post : Tables → Env → Array Value → State → Outcome → State → Prop} (hpost : ∀ tb e args s v u, (limb_1_1.after args s (.returned v) u = true ∧ limb_1_2.after args s (.returned v) u = true ∧ True) → FrameEnd s (.returned v) u (Jvm.fieldLocs frame_1_writes args s ++ Jvm.arrayLocs frame_1_arrays args s ++ Jvm.staticLocs frame_1_statics s) 16 128 → Post tb e args s (.returned v) u) :
    ArmFor flags0 classFile x code maxLocals ret World_1 tables_1 room_1 Calls_1 rest_1 Pre_1 Post := by
  intro l hfl _ _ p e ha hc hk s m args below hf hA hF happ hP
  obtain ⟨hcalls, hrest, hpre⟩ := hP
  obtain ⟨-, -, -, hnamed, -, -, -, hat⟩ := (Spec.applies_iff hf).mp happ
  obtain ⟨hg, hn⟩ := and_e (Cond.before_iff.mp (show (Jvm.Cond.and given_1 narrow_1).before args s = true from hpre))
  obtain ⟨h1, g0⟩ := and_e hg
  obtain ⟨c0, g1⟩ := and_e g0
  obtain ⟨c1, g2⟩ := and_e g1
  obtain ⟨c2, g3⟩ := and_e g2
  obtain ⟨c3, g4⟩ := and_e g3
  obtain ⟨w0, w1, w2, w3, w4, rfl⟩ : ∃ w0 w1 w2 w3 w4 : Value, args = #[w0, w1, w2, w3, w4] := by
    have hs : args.size = 5 := by simpa [Cond.value, given_1] using h1
    obtain ⟨L⟩ := args
    match L, hs with
    | [w0, w1, w2, w3, w4], _ => exact ⟨w0, w1, w2, w3, w4, rfl⟩
  have hw := fun d (hd : d ∈ tables_1) => atoms_spec (ws := Jvm.Cond.code x code maxLocals ret :: tables_1) hat d (List.mem_cons_of_mem _ hd)
  obtain ⟨i0, e0⟩ := is_v c0
  obtain rfl : w0 = (.int i0) := Option.some.inj e0
  obtain ⟨i1, e1⟩ := is_v c1
  obtain rfl : w1 = (.int i1) := Option.some.inj e1
  obtain ⟨i2, e2⟩ := is_v c2
  obtain rfl : w2 = (.int i2) := Option.some.inj e2
  obtain ⟨i3, e3⟩ := is_v c3
  obtain rfl : w3 = (.int i3) := Option.some.inj e3
  obtain ⟨i4, e4⟩ := is_v g4
  obtain rfl : w4 = (.int i4) := Option.some.inj e4
  obtain ⟨n, o, h1, h2, h3, vq, L, rfl, ⟨hv, N⟩, hq⟩ := rm0 l s _ hw tables_1 i0 i1 i2 i3 i4  s.heap s.heap.size (Nat.le_refl _)  p e ha hc hk s m _ below hf ((Spec.applies_iff_loose hf).mp happ).1 ⟨rfl, State.Warmed39.refl s, rfl⟩ trivial
  subst hv
  refine ⟨n, _, h1, h2, h3, hpost _ _ _ _ _ _ ⟨Cond.after_iff.mpr rfl, Cond.after_iff.mpr (eq_i res_at (Term.int_eval (1)) rfl), trivial⟩ ⟨hq.1, hq.2.1, (hq.2.2.sift fun y hy => Or.inr (N y hy)).mono (by decide) (by decide)⟩⟩
theorem main_1_1 : Claimed_1_1 := comes_1 fun _ _ _ _ _ _ h hF => ⟨h.1, hF⟩
theorem main_1_2 : Claimed_1_2 := comes_1 fun _ _ _ _ _ _ h hF => ⟨h.2.1, hF⟩
end Jvm.Pilot.@@N@@
namespace Jvm.Pilot.@@N@@
open Jvm Jvm.ClassFile Sem Op Lib Jvm.Free Jvm.Stand Jvm.Pilot.@@N@@.Jvm.D
/-! MADE BY PROGRAM (witnessworld.py) out of the Statement's table words and the real class files: 10 classes; the members and pool entries that the words name. The judged class is class 1, her method 3. -/
namespace start1
open Jvm.ClassFile
def u (s : String) : CpInfo := .utf8 (stringToUtf16 s)
/-- a pool by its gaps: so many unusable entries, then the entry; so many at the end -/
def gap : Nat → List CpInfo → List CpInfo
  | 0, r => r
  | n + 1, r => .unusable :: gap n r
def poolList (es : List (Nat × CpInfo)) (last : Nat) : List CpInfo := es.foldr (fun e r => gap e.1 (e.2 :: r)) (gap last [])
def pool (es : List (Nat × CpInfo)) (last : Nat) : Array CpInfo := ⟨poolList es last⟩
def fileOf (pool : Array CpInfo) (this : Nat) (attrs : Array Attribute := #[]) (ms : Array MethodInfo := #[]) (fl : Nat := 33) (sup : Nat := 0) (ifs : Array Nat := #[]) (fds : Array FieldInfo := #[]) : ClassFile where
  minorVersion := 0
  majorVersion := 65
  constantPool := pool
  accessFlags := fl
  thisClass := this
  superClass := sup
  interfaces := ifs
  fields := fds
  methods := ms
  attributes := attrs
def plain (name : String) (sup : Option ClassId) : Class where
  name := name
  kind := .ordinary
  loader := none
  accessFlags := 33
  super := sup
  interfaces := #[]
  cf := none
  fields := #[]
  methods := #[]
  instanceTypes := #[]
  staticTypes := #[]
  resolved := #[]
  callSites := []
  init := .initialized
  statics := none
  mirror := none

def pool0 : Array CpInfo := pool [(5, u "<init>"), (0, u "()V"), (1, .class_ 10), (1, u "java/lang/Object")] 113

def k0c0 : Code := { maxStack := 0, maxLocals := 1, code := object_method_1_code, exceptionTable := #[], attributes := #[] }
def k0m0 : Method := { name := "<init>", desc := "()V", sig := { parameters := [], returnType := none }, accessFlags := 1, code := some k0c0 }
/-- java/lang/Object -/
def k0 : Class := { plain "java/lang/Object" none with
  accessFlags := 33
  interfaces := #[]
  cf := some (fileOf pool0 8 #[] #[{ accessFlags := 1, nameIndex := 5, descriptorIndex := 6, attributes := #[] }] 33 0 #[] #[])
  fields := #[]
  methods := #[k0m0]
  instanceTypes := #[]
  staticTypes := #[]
  resolved := Array.replicate 124 none
  statics := none }

def pool1 : Array CpInfo := pool [(2, .class_ 4), (1, u "java/lang/Object"), (0, u "<init>"), (0, u "()V"), (2, .integer 2147483648), (0, .methodref 11 12), (0, .class_ 13), (0, .nameAndType 14 15), (0, u "com/example/sidestep/sidestep/CompiledPatternAdvancePinLaw"), (0, u "off"), (0, u "(I)I"), (0, .integer 2147483647), (0, .methodref 18 19), (0, .class_ 20), (0, .nameAndType 21 22), (0, u "java/lang/Math"), (0, u "min"), (0, u "(II)I"), (0, .methodref 11 24), (0, .nameAndType 25 26), (0, u "ends"), (0, u "([I[III)Z"), (0, .class_ 28), (0, u "com/example/sidestep/sidestep/CompiledPattern"), (0, .methodref 27 30), (0, .nameAndType 5 31), (0, u "([I)V"), (0, .methodref 27 33), (0, .nameAndType 34 22), (0, u "advance"), (3, u "law"), (0, u "(IIIII)Z")] 4

def k1m0 : Method := { name := "<init>", desc := "()V", sig := { parameters := [], returnType := none }, accessFlags := 1, code := none }
def k1c1 : Code := { maxStack := 2, maxLocals := 1, code := method_2_code, exceptionTable := #[], attributes := #[] }
def k1m1 : Method := { name := "off", desc := "(I)I", sig := { parameters := [.int], returnType := some .int }, accessFlags := 10, code := some k1c1 }
def k1c2 : Code := { maxStack := 4, maxLocals := 4, code := method_3_code, exceptionTable := #[], attributes := #[] }
def k1m2 : Method := { name := "ends", desc := "([I[III)Z", sig := { parameters := [(.array .int), (.array .int), .int, .int], returnType := some .boolean }, accessFlags := 10, code := some k1c2 }
def k1c3 : Code := { maxStack := 5, maxLocals := 14, code := code, exceptionTable := #[], attributes := #[] }
def k1m3 : Method := { name := "law", desc := "(IIIII)Z", sig := { parameters := [.int, .int, .int, .int, .int], returnType := some .boolean }, accessFlags := 9, code := some k1c3 }
/-- com/example/sidestep/sidestep/CompiledPatternAdvancePinLaw -/
def k1 : Class := { plain "com/example/sidestep/sidestep/CompiledPatternAdvancePinLaw" (some 0) with
  accessFlags := 49
  interfaces := #[]
  cf := some (fileOf pool1 11 #[] #[{ accessFlags := 1, nameIndex := 5, descriptorIndex := 6, attributes := #[] }, { accessFlags := 10, nameIndex := 14, descriptorIndex := 15, attributes := #[] }, { accessFlags := 10, nameIndex := 25, descriptorIndex := 26, attributes := #[] }, { accessFlags := 9, nameIndex := 38, descriptorIndex := 39, attributes := #[] }] 49 2 #[] #[])
  fields := #[]
  methods := #[k1m0, k1m1, k1m2, k1m3]
  instanceTypes := #[]
  staticTypes := #[]
  resolved := Array.replicate 44 none
  statics := none }

def pool2 : Array CpInfo := pool [(1, .class_ 2), (0, u "java/lang/Math"), (1, .class_ 6), (1, u "java/lang/Object"), (0, u "<init>"), (0, u "()V"), (89, .class_ 100), (1, u "java/lang/Math$RandomNumberGeneratorHolder"), (71, u "negativeZeroFloatBits"), (0, u "J"), (2, u "negativeZeroDoubleBits"), (24, u "min"), (43, u "$assertionsDisabled"), (0, u "Z"), (88, u "(II)I"), (2, u "twoToTheDoubleScaleDown"), (0, u "D"), (4, u "twoToTheDoubleScaleUp"), (9, u "E"), (3, u "PI"), (2, u "TAU"), (2, u "DEGREES_TO_RADIANS"), (0, u "RADIANS_TO_DEGREES")] 94

def k2m0 : Method := { name := "<init>", desc := "()V", sig := { parameters := [], returnType := none }, accessFlags := 2, code := none }
def k2c1 : Code := { maxStack := 2, maxLocals := 2, code := jdk_29_method_69_code, exceptionTable := #[], attributes := #[] }
def k2m1 : Method := { name := "min", desc := "(II)I", sig := { parameters := [.int, .int], returnType := some .int }, accessFlags := 9, code := some k2c1 }
/-- java/lang/Math -/
def k2 : Class := { plain "java/lang/Math" (some 0) with
  accessFlags := 49
  interfaces := #[]
  cf := some (fileOf pool2 1 #[.nestMembers #[98]] #[{ accessFlags := 2, nameIndex := 7, descriptorIndex := 8, attributes := #[] }, { accessFlags := 9, nameIndex := 201, descriptorIndex := 335, attributes := #[] }] 49 4 #[] #[{ accessFlags := 25, nameIndex := 354, descriptorIndex := 339, attributes := #[] }, { accessFlags := 25, nameIndex := 358, descriptorIndex := 339, attributes := #[] }, { accessFlags := 25, nameIndex := 361, descriptorIndex := 339, attributes := #[] }, { accessFlags := 26, nameIndex := 364, descriptorIndex := 339, attributes := #[] }, { accessFlags := 26, nameIndex := 365, descriptorIndex := 339, attributes := #[] }, { accessFlags := 26, nameIndex := 172, descriptorIndex := 173, attributes := #[] }, { accessFlags := 26, nameIndex := 176, descriptorIndex := 173, attributes := #[] }, { accessFlags := 8, nameIndex := 344, descriptorIndex := 339, attributes := #[] }, { accessFlags := 8, nameIndex := 338, descriptorIndex := 339, attributes := #[] }, { accessFlags := 4120, nameIndex := 245, descriptorIndex := 246, attributes := #[] }])
  fields := #[{ name := "E", type := .double, accessFlags := 25, slot := 0, constantValue := 0 }, { name := "PI", type := .double, accessFlags := 25, slot := 1, constantValue := 0 }, { name := "TAU", type := .double, accessFlags := 25, slot := 2, constantValue := 0 }, { name := "DEGREES_TO_RADIANS", type := .double, accessFlags := 26, slot := 3, constantValue := 0 }, { name := "RADIANS_TO_DEGREES", type := .double, accessFlags := 26, slot := 4, constantValue := 0 }, { name := "negativeZeroFloatBits", type := .long, accessFlags := 26, slot := 5, constantValue := 0 }, { name := "negativeZeroDoubleBits", type := .long, accessFlags := 26, slot := 6, constantValue := 0 }, { name := "twoToTheDoubleScaleUp", type := .double, accessFlags := 8, slot := 7, constantValue := 0 }, { name := "twoToTheDoubleScaleDown", type := .double, accessFlags := 8, slot := 8, constantValue := 0 }, { name := "$assertionsDisabled", type := .boolean, accessFlags := 4120, slot := 9, constantValue := 0 }]
  methods := #[k2m0, k2m1]
  instanceTypes := #[]
  staticTypes := #[.double, .double, .double, .double, .double, .long, .long, .double, .double, .boolean]
  resolved := Array.replicate 460 none
  statics := none }

def pool3 : Array CpInfo := pool [(1, .methodref 2 3), (0, .class_ 4), (0, .nameAndType 5 6), (0, u "java/lang/Object"), (0, u "<init>"), (0, u "()V"), (7, .fieldref 15 16), (0, .class_ 17), (0, .nameAndType 18 19), (0, u "com/example/sidestep/sidestep/CompiledPattern"), (0, u "units"), (0, u "[I"), (0, .methodref 15 21), (0, .nameAndType 22 23), (0, u "prefixTable"), (0, u "([I)[I"), (0, .fieldref 15 25), (0, .nameAndType 22 19), (5, .methodref 15 32), (0, .nameAndType 33 34), (0, u "carried"), (0, u "(I)I"), (4, u "([I)V"), (12, u "advance"), (0, u "(II)I")] 9

def k3c0 : Code := { maxStack := 3, maxLocals := 2, code := prog_4_method_1_code, exceptionTable := #[], attributes := #[] }
def k3m0 : Method := { name := "<init>", desc := "([I)V", sig := { parameters := [(.array .int)], returnType := none }, accessFlags := 0, code := some k3c0 }
def k3c1 : Code := { maxStack := 3, maxLocals := 4, code := prog_4_method_4_code, exceptionTable := #[], attributes := #[] }
def k3m1 : Method := { name := "advance", desc := "(II)I", sig := { parameters := [.int, .int], returnType := some .int }, accessFlags := 0, code := some k3c1 }
def k3c2 : Code := { maxStack := 3, maxLocals := 2, code := prog_4_method_9_code, exceptionTable := #[], attributes := #[] }
def k3m2 : Method := { name := "carried", desc := "(I)I", sig := { parameters := [.int], returnType := some .int }, accessFlags := 2, code := some k3c2 }
def k3c3 : Code := { maxStack := 3, maxLocals := 4, code := prog_4_method_10_code, exceptionTable := #[], attributes := #[] }
def k3m3 : Method := { name := "prefixTable", desc := "([I)[I", sig := { parameters := [(.array .int)], returnType := some (.array .int) }, accessFlags := 10, code := some k3c3 }
/-- com/example/sidestep/sidestep/CompiledPattern -/
def k3 : Class := { plain "com/example/sidestep/sidestep/CompiledPattern" (some 0) with
  accessFlags := 48
  interfaces := #[]
  cf := some (fileOf pool3 15 #[] #[{ accessFlags := 0, nameIndex := 5, descriptorIndex := 39, attributes := #[] }, { accessFlags := 0, nameIndex := 52, descriptorIndex := 53, attributes := #[] }, { accessFlags := 2, nameIndex := 33, descriptorIndex := 34, attributes := #[] }, { accessFlags := 10, nameIndex := 22, descriptorIndex := 23, attributes := #[] }] 48 2 #[] #[{ accessFlags := 18, nameIndex := 18, descriptorIndex := 19, attributes := #[] }, { accessFlags := 18, nameIndex := 22, descriptorIndex := 19, attributes := #[] }])
  fields := #[{ name := "units", type := (.array .int), accessFlags := 18, slot := 0, constantValue := 0 }, { name := "prefixTable", type := (.array .int), accessFlags := 18, slot := 1, constantValue := 0 }]
  methods := #[k3m0, k3m1, k3m2, k3m3]
  instanceTypes := #[(.array .int), (.array .int)]
  staticTypes := #[]
  resolved := Array.replicate 63 none
  statics := none }

def pool4 : Array CpInfo := pool [(1, u "java/lang/Cloneable"), (0, .class_ 1), (0, u "java/lang/Object"), (0, .class_ 3)] 3

/-- java/lang/Cloneable -/
def k4 : Class := { plain "java/lang/Cloneable" (some 0) with
  accessFlags := 1537
  interfaces := #[]
  cf := some (fileOf pool4 2 #[] #[] 1537 4 #[] #[])
  fields := #[]
  methods := #[]
  instanceTypes := #[]
  staticTypes := #[]
  resolved := Array.replicate 8 none
  statics := none }

def pool5 : Array CpInfo := pool [(1, u "java/io/Serializable"), (0, .class_ 1), (0, u "java/lang/Object"), (0, .class_ 3)] 3

/-- java/io/Serializable -/
def k5 : Class := { plain "java/io/Serializable" (some 0) with
  accessFlags := 1537
  interfaces := #[]
  cf := some (fileOf pool5 2 #[] #[] 1537 4 #[] #[])
  fields := #[]
  methods := #[]
  instanceTypes := #[]
  staticTypes := #[]
  resolved := Array.replicate 8 none
  statics := none }

/-- the primitive byte -/
def k6 : Class := { plain "byte" none with kind := .primitive 'B', accessFlags := 0x411 }
/-- [B -/
def k7 : Class := { plain "[B" (some 0) with kind := .array 6 .byte, interfaces := #[4, 5], accessFlags := 1041 }

/-- the primitive int -/
def k8 : Class := { plain "int" none with kind := .primitive 'I', accessFlags := 0x411 }
/-- [I -/
def k9 : Class := { plain "[I" (some 0) with kind := .array 8 .int, interfaces := #[4, 5], accessFlags := 1041 }

def heap : Heap := #[]
def classes : Array Class := #[k0, k1, k2, k3, k4, k5, k6, k7, k8, k9]
def interned : List (Array UInt16 × Addr) := []
def slotsUsed : Nat := 0
def theMethod : MethodId := ⟨1, 3⟩
def args0 : Array Value := #[.int 5, .int 3, .int 4, .int 9, .int 7]
def aboutOver (below : List Frame) : State where
  vm := { classes := classes, interned := interned.toArray }
  heap := heap
  slotsUsed := slotsUsed
  threads := #[{ frames := .invoking theMethod args0 :: below }]
def below0 : List Frame := [.native { method := ⟨0, 0⟩, args := #[] }]
def about1 : State := aboutOver below0
def p0 : Program := .bare "" "" ""
def e0 : Env := launch0.env 0 0 0
theorem w_frames : about1.frames = Frame.invoking theMethod args0 :: below0 := rfl
set_option maxRecDepth 65536 in
theorem w_args : argsFit about1.vm theMethod args0 = true := by decide +kernel
set_option maxRecDepth 65536 in
theorem w_heap : heapFits about1 = true := by decide +kernel
set_option maxRecDepth 65536 in
theorem w_runnable : about1.curStatus? = some .runnable := by decide +kernel
set_option maxRecDepth 65536 in
theorem w_alone : about1.alone = true := by decide +kernel
set_option maxRecDepth 65536 in
theorem w_named : about1.methodNamed? x = some theMethod := by decide +kernel
set_option maxRecDepth 65536 in
theorem w_hears : about1.hears theMethod below0 = true := by decide +kernel
set_option maxRecDepth 65536 in
theorem w_ripe : about1.ripe theMethod args0 below0 = true := by decide +kernel
theorem w_running : about1.status = .running := rfl
set_option maxRecDepth 65536 in
theorem w_room : about1.hasRoom e0.platform room_1 = true :=
  launch0.hasRoom_least _ room_1 (by decide +kernel) (by decide +kernel) (by decide +kernel) (by decide +kernel) (by decide +kernel) (by decide +kernel)
theorem allAtoms_all (ts : List Jvm.Cond) (a : Array Jvm.Value) (st : Jvm.State) : (allAtoms ts).before a st = ts.all (fun c => c.before a st) := by
  induction ts with
  | nil => rfl
  | cons c t ih =>
    show (Jvm.Cond.and c (allAtoms t)).before a st = _
    rw [Jvm.Cond.before_and, ih, List.all_cons]
def words1 : List Jvm.Cond := Jvm.Cond.code x code maxLocals ret :: tables_1
/-- a 'code' word, met by the world's own term for the bytes: nothing is compared byte by byte -/
theorem code_word {y : MethodName} {bytes : ByteArray} {mx : Nat} {rt : Option FieldType} {a : Array Value} {s : State} {m : MethodId} {meth : Method} {c : Code} (h1 : s.methodNamed? y = some m) (h2 : s.vm.method? m = some meth) (h3 : meth.code = some c) (h4 : c.code = bytes)
    (h5 : (c.maxLocals == mx && c.exceptionTable.isEmpty && decide (c.maxStack ≤ mostOperands) && decide (meth.sig.returnType = rt) && !meth.locks && decide (parseMethodDescriptor y.desc = some meth.sig)) = true) : (Jvm.Cond.code y bytes mx rt).before a s = true := by
  simp only [Bool.and_eq_true, beq_iff_eq, Bool.not_eq_true', decide_eq_true_eq] at h5
  obtain ⟨⟨⟨⟨⟨g1, g2⟩, g3⟩, g4⟩, g5⟩, g6⟩ := h5
  simp [Cond.before, Cond.holds, Cond.value, h1, h2, h3, h4, g1, g2, g3, g4, g5, g6]
def isCode : Jvm.Cond → Bool
  | .code _ _ _ _ => true
  | _ => false
theorem all_split {L : List Jvm.Cond} {P : Jvm.Cond → Bool} (h1 : L.all (fun c => isCode c || P c) = true) (h2 : ∀ c ∈ L.filter isCode, P c = true) : L.all P = true := by
  refine List.all_eq_true.mpr fun c hc => ?_
  have h := List.all_eq_true.mp h1 c hc
  rcases Bool.eq_false_or_eq_true (isCode c) with hi | hi
  · exact h2 c (List.mem_filter.mpr ⟨hc, hi⟩)
  · simpa [hi] using h
set_option maxRecDepth 65536 in
theorem w_c0 : (Jvm.Cond.code x code maxLocals ret).before args0 about1 = true := code_word (m := ⟨1, 3⟩) (meth := k1m3) (c := k1c3) (by decide +kernel) rfl rfl rfl (by decide +kernel)
set_option maxRecDepth 65536 in
theorem w_c1 : (Jvm.Cond.code ({ cls := "com/example/sidestep/sidestep/CompiledPatternAdvancePinLaw", name := "off", desc := "(I)I" } : Jvm.MethodName) method_2_code (1 : Nat) (Option.some Jvm.ClassFile.FieldType.int)).before args0 about1 = true := code_word (m := ⟨1, 1⟩) (meth := k1m1) (c := k1c1) (by decide +kernel) rfl rfl rfl (by decide +kernel)
set_option maxRecDepth 65536 in
theorem w_c2 : (Jvm.Cond.code ({ cls := "java/lang/Math", name := "min", desc := "(II)I" } : Jvm.MethodName) jdk_29_method_69_code (2 : Nat) (Option.some Jvm.ClassFile.FieldType.int)).before args0 about1 = true := code_word (m := ⟨2, 1⟩) (meth := k2m1) (c := k2c1) (by decide +kernel) rfl rfl rfl (by decide +kernel)
set_option maxRecDepth 65536 in
theorem w_c3 : (Jvm.Cond.code ({ cls := "com/example/sidestep/sidestep/CompiledPatternAdvancePinLaw", name := "ends", desc := "([I[III)Z" } : Jvm.MethodName) method_3_code (4 : Nat) (Option.some Jvm.ClassFile.FieldType.boolean)).before args0 about1 = true := code_word (m := ⟨1, 2⟩) (meth := k1m2) (c := k1c2) (by decide +kernel) rfl rfl rfl (by decide +kernel)
set_option maxRecDepth 65536 in
theorem w_c4 : (Jvm.Cond.code ({ cls := "com/example/sidestep/sidestep/CompiledPattern", name := "<init>", desc := "([I)V" } : Jvm.MethodName) prog_4_method_1_code (2 : Nat) (Option.none : Option Jvm.ClassFile.FieldType)).before args0 about1 = true := code_word (m := ⟨3, 0⟩) (meth := k3m0) (c := k3c0) (by decide +kernel) rfl rfl rfl (by decide +kernel)
set_option maxRecDepth 65536 in
theorem w_c5 : (Jvm.Cond.code ({ cls := "java/lang/Object", name := "<init>", desc := "()V" } : Jvm.MethodName) object_method_1_code (1 : Nat) (Option.none : Option Jvm.ClassFile.FieldType)).before args0 about1 = true := code_word (m := ⟨0, 0⟩) (meth := k0m0) (c := k0c0) (by decide +kernel) rfl rfl rfl (by decide +kernel)
set_option maxRecDepth 65536 in
theorem w_c6 : (Jvm.Cond.code ({ cls := "com/example/sidestep/sidestep/CompiledPattern", name := "prefixTable", desc := "([I)[I" } : Jvm.MethodName) prog_4_method_10_code (4 : Nat) (Option.some (Jvm.ClassFile.FieldType.array Jvm.ClassFile.FieldType.int))).before args0 about1 = true := code_word (m := ⟨3, 3⟩) (meth := k3m3) (c := k3c3) (by decide +kernel) rfl rfl rfl (by decide +kernel)
set_option maxRecDepth 65536 in
theorem w_c7 : (Jvm.Cond.code ({ cls := "com/example/sidestep/sidestep/CompiledPattern", name := "advance", desc := "(II)I" } : Jvm.MethodName) prog_4_method_4_code (4 : Nat) (Option.some Jvm.ClassFile.FieldType.int)).before args0 about1 = true := code_word (m := ⟨3, 1⟩) (meth := k3m1) (c := k3c1) (by decide +kernel) rfl rfl rfl (by decide +kernel)
set_option maxRecDepth 65536 in
theorem w_c8 : (Jvm.Cond.code ({ cls := "com/example/sidestep/sidestep/CompiledPattern", name := "carried", desc := "(I)I" } : Jvm.MethodName) prog_4_method_9_code (2 : Nat) (Option.some Jvm.ClassFile.FieldType.int)).before args0 about1 = true := code_word (m := ⟨3, 2⟩) (meth := k3m2) (c := k3c2) (by decide +kernel) rfl rfl rfl (by decide +kernel)
def codes1 : List Jvm.Cond := [Jvm.Cond.code x code maxLocals ret, Jvm.Cond.code ({ cls := "com/example/sidestep/sidestep/CompiledPatternAdvancePinLaw", name := "off", desc := "(I)I" } : Jvm.MethodName) method_2_code (1 : Nat) (Option.some Jvm.ClassFile.FieldType.int), Jvm.Cond.code ({ cls := "java/lang/Math", name := "min", desc := "(II)I" } : Jvm.MethodName) jdk_29_method_69_code (2 : Nat) (Option.some Jvm.ClassFile.FieldType.int), Jvm.Cond.code ({ cls := "com/example/sidestep/sidestep/CompiledPatternAdvancePinLaw", name := "ends", desc := "([I[III)Z" } : Jvm.MethodName) method_3_code (4 : Nat) (Option.some Jvm.ClassFile.FieldType.boolean), Jvm.Cond.code ({ cls := "com/example/sidestep/sidestep/CompiledPattern", name := "<init>", desc := "([I)V" } : Jvm.MethodName) prog_4_method_1_code (2 : Nat) (Option.none : Option Jvm.ClassFile.FieldType), Jvm.Cond.code ({ cls := "java/lang/Object", name := "<init>", desc := "()V" } : Jvm.MethodName) object_method_1_code (1 : Nat) (Option.none : Option Jvm.ClassFile.FieldType), Jvm.Cond.code ({ cls := "com/example/sidestep/sidestep/CompiledPattern", name := "prefixTable", desc := "([I)[I" } : Jvm.MethodName) prog_4_method_10_code (4 : Nat) (Option.some (Jvm.ClassFile.FieldType.array Jvm.ClassFile.FieldType.int)), Jvm.Cond.code ({ cls := "com/example/sidestep/sidestep/CompiledPattern", name := "advance", desc := "(II)I" } : Jvm.MethodName) prog_4_method_4_code (4 : Nat) (Option.some Jvm.ClassFile.FieldType.int), Jvm.Cond.code ({ cls := "com/example/sidestep/sidestep/CompiledPattern", name := "carried", desc := "(I)I" } : Jvm.MethodName) prog_4_method_9_code (2 : Nat) (Option.some Jvm.ClassFile.FieldType.int)]
set_option maxRecDepth 65536 in
theorem codes_eq : words1.filter isCode = codes1 := rfl
theorem w_codes : ∀ c ∈ words1.filter isCode, c.before args0 about1 = true := by
  rw [codes_eq]
  intro c hc
  simp only [codes1, List.mem_cons, List.not_mem_nil, or_false] at hc
  rcases hc with rfl | rfl | rfl | rfl | rfl | rfl | rfl | rfl | rfl
  · exact w_c0
  · exact w_c1
  · exact w_c2
  · exact w_c3
  · exact w_c4
  · exact w_c5
  · exact w_c6
  · exact w_c7
  · exact w_c8
set_option maxRecDepth 65536 in
theorem w_t1 : (words1.take 24).all (fun c => isCode c || c.before args0 about1) = true := by decide +kernel
set_option maxRecDepth 65536 in
theorem w_t2 : (words1.drop 24).all (fun c => isCode c || c.before args0 about1) = true := by decide +kernel
theorem w_tables : (allAtoms (Jvm.Cond.code x code maxLocals ret :: tables_1)).before args0 about1 = true := by
  rw [allAtoms_all]
  show words1.all (fun c => c.before args0 about1) = true
  refine all_split ?_ w_codes
  rw [← List.take_append_drop 24 words1, List.all_append, w_t1, w_t2]
  rfl
set_option maxRecDepth 65536 in
theorem w_case : (Jvm.Cond.and given_1 narrow_1).before args0 about1 = true := by decide +kernel
theorem w_applies : (headSpec (Jvm.Cond.code x code maxLocals ret :: tables_1) room_1).applies x e0.platform about1 = true :=
  (Spec.applies_iff w_frames).mpr ⟨w_running, w_runnable, w_alone, w_named, w_hears, w_ripe, w_room, w_tables⟩
theorem atStart : AtStart classFile x code maxLocals ret World_1 tables_1 room_1 Calls_1 rest_1 Pre_1 launch0 p0 e0 about1 theMethod args0 below0 :=
  ⟨lists_1, trivial, launch0.admits_env _ _ _, launch0.least_env, fairChoices_fair.cas, fairChoices_fair.clock, w_frames, w_args, w_heap, w_applies, trivial, trivial, w_case⟩
end start1
theorem witness_1 : WitnessClaimed_1 := ⟨start1.p0, start1.e0, start1.about1, start1.theMethod, start1.args0, start1.below0, start1.atStart⟩
end Jvm.Pilot.@@N@@
