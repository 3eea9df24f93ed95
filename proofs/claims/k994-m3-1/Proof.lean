import JvmDerived
import JvmDerived.Pilot.@@N@@Statement
import JvmDerived.Pilot.@@N@@Code
set_option linter.unusedVariables false
set_option linter.unusedSimpArgs false
namespace Jvm.RoadKit
open Sem ClassFile Op Lib Jvm.Stand Jvm.Free Jvm.LawKit
section New
variable {p : Program} {l : Launch} {e : Env} {R : Room} {s : State} {m : MethodId} {args : Array Value} {below : List Frame} {meth : Method} {c : Code} {T T' : State} {locs : List Loc} {cells slots : Nat}
/-- what a body leaves: the value, and what is known of the heap and of the places written -/
def QV (w : Option Value) (P : Heap → List Loc → Prop) (v : Option Value) (h : Heap) (L : List Loc) : Prop := v = w ∧ P h L
/-- a body that writes nothing -/
def PureP (n0 : Nat) (h0 : Heap) (h : Heap) (L : List Loc) : Prop := Fr n0 L ∧ h = h0
/-- from here the body returns w and leaves P -/
def Got (p : Program) (e : Env) (below : List Frame) (s : State) (P : Heap → List Loc → Prop) (ck cs : Nat) (w : Option Value) (T : State) (g : JFrame) : Prop :=
  ∃ s₂ L, Steps p.tables e below (T.setTop g) s₂ ∧ s₂.status = .running ∧ Ended s₂ below (.returned w) ∧ P s₂.heap L ∧ FrameEnd s (.returned w) s₂ L ck cs
variable {P : Heap → List Loc → Prop} {ck cs : Nat} {w : Option Value} {g g' : JFrame}
theorem Got.step (h : ∀ t, Steps p.tables e below (T'.setTop g') t → Steps p.tables e below (T.setTop g) t) (k : Got p e below s P ck cs w T' g') : Got p e below s P ck cs w T g := by
  obtain ⟨s₂, L, h1, r⟩ := k
  exact ⟨s₂, L, h _ h1, r⟩
theorem Got.hop (h : Steps p.tables e below (T.setTop g) (T'.setTop g')) (k : Got p e below s P ck cs w T' g') : Got p e below s P ck cs w T g := Got.step (fun _ q => h.trans q) k
theorem Got.ite {q : Prop} [Decidable q] {x y : Int32} (h1 : q → Got p e below s P ck cs (some (.int x)) T g) (h2 : ¬ q → Got p e below s P ck cs (some (.int y)) T g) : Got p e below s P ck cs (some (.int (if q then x else y))) T g := by
  by_cases h : q
  · rw [if_pos h]; exact h1 h
  · rw [if_neg h]; exact h2 h
theorem Got.iteJ {q : Prop} [Decidable q] {x y : Int64} (h1 : q → Got p e below s P ck cs (some (.long x)) T g) (h2 : ¬ q → Got p e below s P ck cs (some (.long y)) T g) : Got p e below s P ck cs (some (.long (if q then x else y))) T g := by
  by_cases h : q
  · rw [if_pos h]; exact h1 h
  · rw [if_neg h]; exact h2 h
theorem Got.iteR {q : Prop} [Decidable q] {x y : Addr} (h1 : q → Got p e below s P ck cs (some (.ref x)) T g) (h2 : ¬ q → Got p e below s P ck cs (some (.ref y)) T g) : Got p e below s P ck cs (some (.ref (if q then x else y))) T g := by
  by_cases h : q
  · rw [if_pos h]; exact h1 h
  · rw [if_neg h]; exact h2 h
theorem Got.body {n : Nat} {as' : Array Value} (hg : entryFrame m as' n = g) (k : Got p e below s P ck cs w T g) :
    ∃ s₂ o, Steps p.tables e below (T.setTop (entryFrame m as' n)) s₂ ∧ s₂.status = .running ∧ Ended s₂ below o ∧ ∃ v L, o = .returned v ∧ QV w P v s₂.heap L ∧ FrameEnd s o s₂ L ck cs := by
  obtain ⟨s₂, L, h1, h2, h3, h4, h5⟩ := k
  exact ⟨s₂, _, by rw [hg]; exact h1, h2, h3, w, L, rfl, ⟨rfl, h4⟩, h5⟩
theorem Got.retN (X : Stand p l e R s m args below meth c T locs cells slots) (hx : p.tables.exec = Jvm.exec) {t : FieldType} (hret : meth.sig.returnType = some t) (ht : t = .boolean ∨ t = .byte ∨ t = .char ∨ t = .short) (hlk : meth.locks = false) {pc : Nat} {Ls : Array Slot} {z y : Int32} {rest : List Value}
    (hd : decode c.code pc = .ok (.ireturn, 1)) (hy : nar t z = y) (hP : P T.heap locs) (hc : cells ≤ ck) (hs : slots ≤ cs) : Got p e below s P ck cs (some (.int y)) T (mkF m pc Ls (.int z :: rest)) := by
  subst hy
  obtain ⟨fs, hr, hrun, hended, hW, hsame⟩ := X.leave (v := some (.int (nar t z))) (fun h => by rw [hret] at h; cases h) hlk
  exact ⟨_, locs, Jvm.RoadKit.retN X hx hret ht hd hr, hrun, hended, hP, ⟨_, rfl⟩, hW, hsame.mono hc hs⟩
theorem Got.retI (X : Stand p l e R s m args below meth c T locs cells slots) (hx : p.tables.exec = Jvm.exec) (hret : meth.sig.returnType = some .int) (hlk : meth.locks = false) {pc : Nat} {Ls : Array Slot} {z y : Int32} {rest : List Value}
    (hd : decode c.code pc = .ok (.ireturn, 1)) (hy : z = y) (hP : P T.heap locs) (hc : cells ≤ ck) (hs : slots ≤ cs) : Got p e below s P ck cs (some (.int y)) T (mkF m pc Ls (.int z :: rest)) := by
  subst hy
  obtain ⟨fs, hr, hrun, hended, hW, hsame⟩ := X.leave (v := some (.int z)) (fun h => by rw [hret] at h; cases h) hlk
  exact ⟨_, locs, retOut X hx hret rfl (Or.inl ⟨rfl, Or.inl rfl, z, rfl⟩) hd hr, hrun, hended, hP, ⟨_, rfl⟩, hW, hsame.mono hc hs⟩
theorem Got.retJ (X : Stand p l e R s m args below meth c T locs cells slots) (hx : p.tables.exec = Jvm.exec) (hret : meth.sig.returnType = some .long) (hlk : meth.locks = false) {pc : Nat} {Ls : Array Slot} {z y : Int64}
    (hd : decode c.code pc = .ok (.lreturn, 1)) (hy : z = y) (hP : P T.heap locs) (hc : cells ≤ ck) (hs : slots ≤ cs) : Got p e below s P ck cs (some (.long y)) T (mkF m pc Ls [.long z]) := by
  subst hy
  obtain ⟨fs, hr, hrun, hended, hW, hsame⟩ := X.leave (v := some (.long z)) (fun h => by rw [hret] at h; cases h) hlk
  exact ⟨_, locs, X.lreturnOut hx hret hd hr, hrun, hended, hP, ⟨_, rfl⟩, hW, hsame.mono hc hs⟩
theorem Got.retV (X : Stand p l e R s m args below meth c T locs cells slots) (hx : p.tables.exec = Jvm.exec) (hret : meth.sig.returnType = none) (hlk : meth.locks = false) {pc : Nat} {Ls : Array Slot}
    (hd : decode c.code pc = .ok (.return_, 1)) (hP : P T.heap locs) (hc : cells ≤ ck) (hs : slots ≤ cs) : Got p e below s P ck cs none T (mkF m pc Ls []) := by
  obtain ⟨fs, hr, hrun, hended, hW, hsame⟩ := X.leave (v := none) (fun _ => rfl) hlk
  exact ⟨_, locs, X.returnOut hx hret hd hr, hrun, hended, hP, ⟨_, rfl⟩, hW, hsame.mono hc hs⟩
theorem Got.retA (X : Stand p l e R s m args below meth c T locs cells slots) (hx : p.tables.exec = Jvm.exec) {t : FieldType} (hret : meth.sig.returnType = some t) (ht : t.isReference = true) (hlk : meth.locks = false) {pc : Nat} {Ls : Array Slot} {a : Addr} {rest : List Value}
    (hd : decode c.code pc = .ok (.areturn, 1)) (hn : narrow t (.ref a) = .ref a) (hP : P T.heap locs) (hc : cells ≤ ck) (hs : slots ≤ cs) : Got p e below s P ck cs (some (.ref a)) T (mkF m pc Ls (.ref a :: rest)) := by
  obtain ⟨fs, hr, hrun, hended, hW, hsame⟩ := X.leave (v := some (.ref a)) (fun h => by rw [hret] at h; cases h) hlk
  exact ⟨_, locs, retOut X hx hret hn (Or.inr (Or.inr (Or.inr (Or.inr ⟨rfl, ht, rfl⟩)))) hd hr, hrun, hended, hP, ⟨_, rfl⟩, hW, hsame.mono hc hs⟩
theorem remJ {g : JFrame} {target : State} (X : Stand p l e R s m args below meth c T locs cells slots) (hx : p.tables.exec = Jvm.exec) (hg : g.method = m) {x y : Int64} {rest : List Value} (hd : decode c.code g.pc = .ok (.lrem, 1)) (hs : g.stack = .long y :: .long x :: rest) (hy : y ≠ 0)
    (hr : Steps p.tables e below (T.setTop { g with pc := g.pc + 1, stack := .long (x % y) :: rest }) target) : Steps p.tables e below (T.setTop g) target := by
  rw [← lrem_mod x y] at hr
  exact XS.lrem X.here hx hg hd hs hy hr
theorem narB (x : Int32) : nar .byte x.toInt8.toInt32 = x.toInt8.toInt32 := by simp [nar]
end New
end Jvm.RoadKit
namespace Jvm.Pilot.@@N@@
open Jvm Jvm.ClassFile Sem Op Lib Jvm.Free Jvm.Stand Jvm.LawKit Jvm.RoadKit Bundle Jvm.Pilot.@@N@@.Jvm.D
def f2_42 (p0 : Int32)  : Int32 := (if p0 < (65536 : Int32) then (0 : Int32) else (if (1114111 : Int32) < p0 then (0 : Int32) else (1 : Int32)))
def f2_30 (p0 : Int32)  : Int32 := (if p0 < (57344 : Int32) then (f2_42 p0 ) else (if (65533 : Int32) < p0 then (f2_42 p0 ) else (1 : Int32)))
def f2 (p0 : Int32)  : Int32 := (if p0 = (9 : Int32) then (1 : Int32) else (if p0 = (10 : Int32) then (1 : Int32) else (if p0 = (13 : Int32) then (1 : Int32) else (if p0 < (32 : Int32) then (f2_30 p0 ) else (if (55295 : Int32) < p0 then (f2_30 p0 ) else (1 : Int32))))))
theorem ef_2 (m : MethodId) (x0 : Int32) : entryFrame m #[(.int x0)] 1 = mkF m 0 #[.val (.int x0)] [] := by first | (simp [entryFrame, mkF, argsToLocals, Value.category]; done) | rfl
theorem pn_0 : plainName "com/example/treegraft/treegraft/xml/XmlChars" = true := by first | (simp [plainName, overriddenIn]; done) | decide +kernel
theorem d2_0 : decode prog_166_method_5_code 0 = .ok (.iload_n 0, 1) := by decide +kernel
theorem d2_1 : decode prog_166_method_5_code 1 = .ok (.bipush 9, 2) := by decide +kernel
theorem d2_3 : decode prog_166_method_5_code 3 = .ok (.if_icmp .eq 51, 3) := by decide +kernel
theorem d2_6 : decode prog_166_method_5_code 6 = .ok (.iload_n 0, 1) := by decide +kernel
theorem d2_7 : decode prog_166_method_5_code 7 = .ok (.bipush 10, 2) := by decide +kernel
theorem d2_9 : decode prog_166_method_5_code 9 = .ok (.if_icmp .eq 45, 3) := by decide +kernel
theorem d2_12 : decode prog_166_method_5_code 12 = .ok (.iload_n 0, 1) := by decide +kernel
theorem d2_13 : decode prog_166_method_5_code 13 = .ok (.bipush 13, 2) := by decide +kernel
theorem d2_15 : decode prog_166_method_5_code 15 = .ok (.if_icmp .eq 39, 3) := by decide +kernel
theorem d2_18 : decode prog_166_method_5_code 18 = .ok (.iload_n 0, 1) := by decide +kernel
theorem d2_19 : decode prog_166_method_5_code 19 = .ok (.bipush 32, 2) := by decide +kernel
theorem d2_21 : decode prog_166_method_5_code 21 = .ok (.if_icmp .lt 9, 3) := by decide +kernel
theorem d2_24 : decode prog_166_method_5_code 24 = .ok (.iload_n 0, 1) := by decide +kernel
theorem d2_25 : decode prog_166_method_5_code 25 = .ok (.ldc 7, 2) := by decide +kernel
theorem d2_27 : decode prog_166_method_5_code 27 = .ok (.if_icmp .le 27, 3) := by decide +kernel
theorem d2_30 : decode prog_166_method_5_code 30 = .ok (.iload_n 0, 1) := by decide +kernel
theorem d2_31 : decode prog_166_method_5_code 31 = .ok (.ldc 42, 2) := by decide +kernel
theorem d2_33 : decode prog_166_method_5_code 33 = .ok (.if_icmp .lt 9, 3) := by decide +kernel
theorem d2_36 : decode prog_166_method_5_code 36 = .ok (.iload_n 0, 1) := by decide +kernel
theorem d2_37 : decode prog_166_method_5_code 37 = .ok (.ldc 11, 2) := by decide +kernel
theorem d2_39 : decode prog_166_method_5_code 39 = .ok (.if_icmp .le 15, 3) := by decide +kernel
theorem d2_42 : decode prog_166_method_5_code 42 = .ok (.iload_n 0, 1) := by decide +kernel
theorem d2_43 : decode prog_166_method_5_code 43 = .ok (.ldc 12, 2) := by decide +kernel
theorem d2_45 : decode prog_166_method_5_code 45 = .ok (.if_icmp .lt 13, 3) := by decide +kernel
theorem d2_48 : decode prog_166_method_5_code 48 = .ok (.iload_n 0, 1) := by decide +kernel
theorem d2_49 : decode prog_166_method_5_code 49 = .ok (.ldc 43, 2) := by decide +kernel
theorem d2_51 : decode prog_166_method_5_code 51 = .ok (.if_icmp .gt 7, 3) := by decide +kernel
theorem d2_54 : decode prog_166_method_5_code 54 = .ok (.iconst 1, 1) := by decide +kernel
theorem d2_55 : decode prog_166_method_5_code 55 = .ok (.goto 4, 3) := by decide +kernel
theorem d2_58 : decode prog_166_method_5_code 58 = .ok (.iconst 0, 1) := by decide +kernel
theorem d2_59 : decode prog_166_method_5_code 59 = .ok (.ireturn, 1) := by decide +kernel
set_option maxRecDepth 65536 in
set_option maxHeartbeats 40000000 in
theorem rm2 (l : Launch) (Z : State) (a0 : Array Value) (hw : ∀ d ∈ tables_1, d.before a0 Z = true) (ws : List Jvm.Cond) (p0 : Int32) (h0 : Heap) (n0 : Nat) (Z0 : n0 ≤ h0.size)  :
    MetFree l (⟨"com/example/treegraft/treegraft/xml/XmlChars", "isXmlChar", "(I)Z"⟩ : MethodName) (head1 (Jvm.Cond.code (⟨"com/example/treegraft/treegraft/xml/XmlChars", "isXmlChar", "(I)Z"⟩ : MethodName) prog_166_method_5_code 1 (some .boolean) :: ws) ({ frames := 0, cells := 0, slots := 0, locals := 0 } : Room)) (fun a U => a = #[(.int p0)] ∧ Z.Warmed39 U.vm ∧ U.heap = h0) (fun _ _ _ _ _ => True) (fun _ U o U' => ∃ v L, o = .returned v ∧ QV (some (.int (f2 p0))) (PureP n0 h0) v U'.heap L ∧ FrameEnd U o U' L ({ frames := 0, cells := 0, slots := 0, locals := 0 } : Room).cells ({ frames := 0, cells := 0, slots := 0, locals := 0 } : Room).slots) := by
  refine MetFree.of_bodySF (plainFor_of_name pn_0) hisR ?_
  intro p e s m args below meth c s₁ Bd hml0 hP hK
  obtain ⟨rfl, hZ, hh⟩ := hP
  have hx := Bd.exec
  have hby := Bd.bytes
  have hml : c.maxLocals = 1 := hml0
  have hown : s.vm.findClass "com/example/treegraft/treegraft/xml/XmlChars" = some m.cls := findClass_of_methodNamed Bd.named
  have hnm := (name_of_methodNamed Bd.named Bd.method).1
  have hlk : meth.locks = false := BodyLoose.notSynchronized Bd
  have X0 : Stand p l e ({ frames := 0, cells := 0, slots := 0, locals := 0 } : Room) s m #[(.int p0)] below meth c s₁ [] 0 0 := Stand.of_body Bd
  have e0 : s₁.heap = h0 := by rw [← hh, Bd.state]; rfl
  have N0 := Fr.nil n0
  refine Got.body (ef_2 m p0) ?_
  have J42 : ∀ (T_42 : State) (L_42 : List Loc), Stand p l e ({ frames := 0, cells := 0, slots := 0, locals := 0 } : Room) s m #[(.int p0)] below meth c T_42 L_42 0 0 → T_42.heap = h0 → Fr n0 L_42 → Got p e below s (PureP n0 h0) 0 0 (some (.int (f2_42 p0 ))) T_42 (mkF m 42 #[.val (.int p0)] []) := by
    intro T_42 L_42 X_42 e_42 N_42 
    refine Got.step (T' := T_42) (g' := (mkF m 45 #[.val (.int p0)] [(.int (65536 : Int32)), (.int p0)])) (fun tq kt => ?_) ?_
    · show Steps p.tables e below (T_42.setTop (mkF m 42 #[.val (.int p0)] [])) _
      refine XS.iloadN X_42.here hx rfl (hb hby d2_42) rfl ?_
      show Steps p.tables e below (T_42.setTop (mkF m 43 #[.val (.int p0)] [(.int p0)])) _
      refine X_42.ldcI hx hown (mvT hZ (hw _ (List.mem_of_getElem? (i := 21) rfl))) rfl (hb hby d2_43) ?_
      exact kt
    refine Got.ite (q := (p0 < (65536 : Int32))) (fun hc8 => ?_) (fun hc8 => ?_)
    · refine Got.step (T' := T_42) (g' := (mkF m 59 #[.val (.int p0)] [(.int (0 : Int32))])) (fun tq kt => ?_) ?_
      · show Steps p.tables e below (T_42.setTop (mkF m 45 #[.val (.int p0)] [(.int (65536 : Int32)), (.int p0)])) _
        refine XS.icmpYes X_42.here hx rfl (pc0 := 45) (pc' := 58) rfl (hb hby d2_45) rfl (XT.ii_lt_t hc8) (by decide) (by decide) ?_
        show Steps p.tables e below (T_42.setTop (mkF m 58 #[.val (.int p0)] [])) _
        refine XS.iconst X_42.here hx rfl (hb hby d2_58) ?_
        exact kt
      exact Got.retN (y := (0 : Int32)) (t := .boolean) X_42 hx Bd.returns (by simp) hlk (hb hby d2_59) (by decide) ⟨N_42, e_42⟩ (by decide) (by decide)
    · refine Got.step (T' := T_42) (g' := (mkF m 51 #[.val (.int p0)] [(.int (1114111 : Int32)), (.int p0)])) (fun tq kt => ?_) ?_
      · show Steps p.tables e below (T_42.setTop (mkF m 45 #[.val (.int p0)] [(.int (65536 : Int32)), (.int p0)])) _
        refine XS.icmpNo X_42.here hx rfl (hb hby d2_45) rfl (XT.ii_lt_f hc8) ?_
        show Steps p.tables e below (T_42.setTop (mkF m 48 #[.val (.int p0)] [])) _
        refine XS.iloadN X_42.here hx rfl (hb hby d2_48) rfl ?_
        show Steps p.tables e below (T_42.setTop (mkF m 49 #[.val (.int p0)] [(.int p0)])) _
        refine X_42.ldcI hx hown (mvT hZ (hw _ (List.mem_of_getElem? (i := 29) rfl))) rfl (hb hby d2_49) ?_
        exact kt
      refine Got.ite (q := ((1114111 : Int32) < p0)) (fun hc9 => ?_) (fun hc9 => ?_)
      · refine Got.step (T' := T_42) (g' := (mkF m 59 #[.val (.int p0)] [(.int (0 : Int32))])) (fun tq kt => ?_) ?_
        · show Steps p.tables e below (T_42.setTop (mkF m 51 #[.val (.int p0)] [(.int (1114111 : Int32)), (.int p0)])) _
          refine XS.icmpYes X_42.here hx rfl (pc0 := 51) (pc' := 58) rfl (hb hby d2_51) rfl (XT.ii_gt_t hc9) (by decide) (by decide) ?_
          show Steps p.tables e below (T_42.setTop (mkF m 58 #[.val (.int p0)] [])) _
          refine XS.iconst X_42.here hx rfl (hb hby d2_58) ?_
          exact kt
        exact Got.retN (y := (0 : Int32)) (t := .boolean) X_42 hx Bd.returns (by simp) hlk (hb hby d2_59) (by decide) ⟨N_42, e_42⟩ (by decide) (by decide)
      · refine Got.step (T' := T_42) (g' := (mkF m 59 #[.val (.int p0)] [(.int (1 : Int32))])) (fun tq kt => ?_) ?_
        · show Steps p.tables e below (T_42.setTop (mkF m 51 #[.val (.int p0)] [(.int (1114111 : Int32)), (.int p0)])) _
          refine XS.icmpNo X_42.here hx rfl (hb hby d2_51) rfl (XT.ii_gt_f hc9) ?_
          show Steps p.tables e below (T_42.setTop (mkF m 54 #[.val (.int p0)] [])) _
          refine XS.iconst X_42.here hx rfl (hb hby d2_54) ?_
          show Steps p.tables e below (T_42.setTop (mkF m 55 #[.val (.int p0)] [(.int (1 : Int32))])) _
          refine XS.goto X_42.here hx rfl (pc0 := 55) (pc' := 59) rfl (hb hby d2_55) (by decide) (by decide) ?_
          exact kt
        exact Got.retN (y := (1 : Int32)) (t := .boolean) X_42 hx Bd.returns (by simp) hlk (hb hby d2_59) (by decide) ⟨N_42, e_42⟩ (by decide) (by decide)
  have J30 : ∀ (T_30 : State) (L_30 : List Loc), Stand p l e ({ frames := 0, cells := 0, slots := 0, locals := 0 } : Room) s m #[(.int p0)] below meth c T_30 L_30 0 0 → T_30.heap = h0 → Fr n0 L_30 → Got p e below s (PureP n0 h0) 0 0 (some (.int (f2_30 p0 ))) T_30 (mkF m 30 #[.val (.int p0)] []) := by
    intro T_30 L_30 X_30 e_30 N_30 
    refine Got.step (T' := T_30) (g' := (mkF m 33 #[.val (.int p0)] [(.int (57344 : Int32)), (.int p0)])) (fun tq kt => ?_) ?_
    · show Steps p.tables e below (T_30.setTop (mkF m 30 #[.val (.int p0)] [])) _
      refine XS.iloadN X_30.here hx rfl (hb hby d2_30) rfl ?_
      show Steps p.tables e below (T_30.setTop (mkF m 31 #[.val (.int p0)] [(.int p0)])) _
      refine X_30.ldcI hx hown (mvT hZ (hw _ (List.mem_of_getElem? (i := 20) rfl))) rfl (hb hby d2_31) ?_
      exact kt
    refine Got.ite (q := (p0 < (57344 : Int32))) (fun hc6 => ?_) (fun hc6 => ?_)
    · refine Got.step (T' := T_30) (g' := (mkF m 42 #[.val (.int p0)] [])) (fun tq kt => ?_) ?_
      · show Steps p.tables e below (T_30.setTop (mkF m 33 #[.val (.int p0)] [(.int (57344 : Int32)), (.int p0)])) _
        refine XS.icmpYes X_30.here hx rfl (pc0 := 33) (pc' := 42) rfl (hb hby d2_33) rfl (XT.ii_lt_t hc6) (by decide) (by decide) ?_
        exact kt
      exact J42 _ _ X_30 e_30 N_30 
    · refine Got.step (T' := T_30) (g' := (mkF m 39 #[.val (.int p0)] [(.int (65533 : Int32)), (.int p0)])) (fun tq kt => ?_) ?_
      · show Steps p.tables e below (T_30.setTop (mkF m 33 #[.val (.int p0)] [(.int (57344 : Int32)), (.int p0)])) _
        refine XS.icmpNo X_30.here hx rfl (hb hby d2_33) rfl (XT.ii_lt_f hc6) ?_
        show Steps p.tables e below (T_30.setTop (mkF m 36 #[.val (.int p0)] [])) _
        refine XS.iloadN X_30.here hx rfl (hb hby d2_36) rfl ?_
        show Steps p.tables e below (T_30.setTop (mkF m 37 #[.val (.int p0)] [(.int p0)])) _
        refine X_30.ldcI hx hown (mvT hZ (hw _ (List.mem_of_getElem? (i := 28) rfl))) rfl (hb hby d2_37) ?_
        exact kt
      refine Got.ite (q := ((65533 : Int32) < p0)) (fun hc7 => ?_) (fun hc7 => ?_)
      · refine Got.step (T' := T_30) (g' := (mkF m 42 #[.val (.int p0)] [])) (fun tq kt => ?_) ?_
        · show Steps p.tables e below (T_30.setTop (mkF m 39 #[.val (.int p0)] [(.int (65533 : Int32)), (.int p0)])) _
          refine XS.icmpNo X_30.here hx rfl (hb hby d2_39) rfl (XT.ii_le_f hc7) ?_
          exact kt
        exact J42 _ _ X_30 e_30 N_30 
      · refine Got.step (T' := T_30) (g' := (mkF m 59 #[.val (.int p0)] [(.int (1 : Int32))])) (fun tq kt => ?_) ?_
        · show Steps p.tables e below (T_30.setTop (mkF m 39 #[.val (.int p0)] [(.int (65533 : Int32)), (.int p0)])) _
          refine XS.icmpYes X_30.here hx rfl (pc0 := 39) (pc' := 54) rfl (hb hby d2_39) rfl (XT.ii_le_t hc7) (by decide) (by decide) ?_
          show Steps p.tables e below (T_30.setTop (mkF m 54 #[.val (.int p0)] [])) _
          refine XS.iconst X_30.here hx rfl (hb hby d2_54) ?_
          show Steps p.tables e below (T_30.setTop (mkF m 55 #[.val (.int p0)] [(.int (1 : Int32))])) _
          refine XS.goto X_30.here hx rfl (pc0 := 55) (pc' := 59) rfl (hb hby d2_55) (by decide) (by decide) ?_
          exact kt
        exact Got.retN (y := (1 : Int32)) (t := .boolean) X_30 hx Bd.returns (by simp) hlk (hb hby d2_59) (by decide) ⟨N_30, e_30⟩ (by decide) (by decide)
  refine Got.step (T' := s₁) (g' := (mkF m 3 #[.val (.int p0)] [(.int (9 : Int32)), (.int p0)])) (fun tq kt => ?_) ?_
  · show Steps p.tables e below (s₁.setTop (mkF m 0 #[.val (.int p0)] [])) _
    refine XS.iloadN X0.here hx rfl (hb hby d2_0) rfl ?_
    show Steps p.tables e below (s₁.setTop (mkF m 1 #[.val (.int p0)] [(.int p0)])) _
    refine XS.bipush X0.here hx rfl (hb hby d2_1) ?_
    exact kt
  refine Got.ite (q := (p0 = (9 : Int32))) (fun hc1 => ?_) (fun hc1 => ?_)
  · refine Got.step (T' := s₁) (g' := (mkF m 59 #[.val (.int p0)] [(.int (1 : Int32))])) (fun tq kt => ?_) ?_
    · show Steps p.tables e below (s₁.setTop (mkF m 3 #[.val (.int p0)] [(.int (9 : Int32)), (.int p0)])) _
      refine XS.icmpYes X0.here hx rfl (pc0 := 3) (pc' := 54) rfl (hb hby d2_3) rfl (XT.ii_eq_t hc1) (by decide) (by decide) ?_
      show Steps p.tables e below (s₁.setTop (mkF m 54 #[.val (.int p0)] [])) _
      refine XS.iconst X0.here hx rfl (hb hby d2_54) ?_
      show Steps p.tables e below (s₁.setTop (mkF m 55 #[.val (.int p0)] [(.int (1 : Int32))])) _
      refine XS.goto X0.here hx rfl (pc0 := 55) (pc' := 59) rfl (hb hby d2_55) (by decide) (by decide) ?_
      exact kt
    exact Got.retN (y := (1 : Int32)) (t := .boolean) X0 hx Bd.returns (by simp) hlk (hb hby d2_59) (by decide) ⟨N0, e0⟩ (by decide) (by decide)
  · refine Got.step (T' := s₁) (g' := (mkF m 9 #[.val (.int p0)] [(.int (10 : Int32)), (.int p0)])) (fun tq kt => ?_) ?_
    · show Steps p.tables e below (s₁.setTop (mkF m 3 #[.val (.int p0)] [(.int (9 : Int32)), (.int p0)])) _
      refine XS.icmpNo X0.here hx rfl (hb hby d2_3) rfl (XT.ii_eq_f hc1) ?_
      show Steps p.tables e below (s₁.setTop (mkF m 6 #[.val (.int p0)] [])) _
      refine XS.iloadN X0.here hx rfl (hb hby d2_6) rfl ?_
      show Steps p.tables e below (s₁.setTop (mkF m 7 #[.val (.int p0)] [(.int p0)])) _
      refine XS.bipush X0.here hx rfl (hb hby d2_7) ?_
      exact kt
    refine Got.ite (q := (p0 = (10 : Int32))) (fun hc2 => ?_) (fun hc2 => ?_)
    · refine Got.step (T' := s₁) (g' := (mkF m 59 #[.val (.int p0)] [(.int (1 : Int32))])) (fun tq kt => ?_) ?_
      · show Steps p.tables e below (s₁.setTop (mkF m 9 #[.val (.int p0)] [(.int (10 : Int32)), (.int p0)])) _
        refine XS.icmpYes X0.here hx rfl (pc0 := 9) (pc' := 54) rfl (hb hby d2_9) rfl (XT.ii_eq_t hc2) (by decide) (by decide) ?_
        show Steps p.tables e below (s₁.setTop (mkF m 54 #[.val (.int p0)] [])) _
        refine XS.iconst X0.here hx rfl (hb hby d2_54) ?_
        show Steps p.tables e below (s₁.setTop (mkF m 55 #[.val (.int p0)] [(.int (1 : Int32))])) _
        refine XS.goto X0.here hx rfl (pc0 := 55) (pc' := 59) rfl (hb hby d2_55) (by decide) (by decide) ?_
        exact kt
      exact Got.retN (y := (1 : Int32)) (t := .boolean) X0 hx Bd.returns (by simp) hlk (hb hby d2_59) (by decide) ⟨N0, e0⟩ (by decide) (by decide)
    · refine Got.step (T' := s₁) (g' := (mkF m 15 #[.val (.int p0)] [(.int (13 : Int32)), (.int p0)])) (fun tq kt => ?_) ?_
      · show Steps p.tables e below (s₁.setTop (mkF m 9 #[.val (.int p0)] [(.int (10 : Int32)), (.int p0)])) _
        refine XS.icmpNo X0.here hx rfl (hb hby d2_9) rfl (XT.ii_eq_f hc2) ?_
        show Steps p.tables e below (s₁.setTop (mkF m 12 #[.val (.int p0)] [])) _
        refine XS.iloadN X0.here hx rfl (hb hby d2_12) rfl ?_
        show Steps p.tables e below (s₁.setTop (mkF m 13 #[.val (.int p0)] [(.int p0)])) _
        refine XS.bipush X0.here hx rfl (hb hby d2_13) ?_
        exact kt
      refine Got.ite (q := (p0 = (13 : Int32))) (fun hc3 => ?_) (fun hc3 => ?_)
      · refine Got.step (T' := s₁) (g' := (mkF m 59 #[.val (.int p0)] [(.int (1 : Int32))])) (fun tq kt => ?_) ?_
        · show Steps p.tables e below (s₁.setTop (mkF m 15 #[.val (.int p0)] [(.int (13 : Int32)), (.int p0)])) _
          refine XS.icmpYes X0.here hx rfl (pc0 := 15) (pc' := 54) rfl (hb hby d2_15) rfl (XT.ii_eq_t hc3) (by decide) (by decide) ?_
          show Steps p.tables e below (s₁.setTop (mkF m 54 #[.val (.int p0)] [])) _
          refine XS.iconst X0.here hx rfl (hb hby d2_54) ?_
          show Steps p.tables e below (s₁.setTop (mkF m 55 #[.val (.int p0)] [(.int (1 : Int32))])) _
          refine XS.goto X0.here hx rfl (pc0 := 55) (pc' := 59) rfl (hb hby d2_55) (by decide) (by decide) ?_
          exact kt
        exact Got.retN (y := (1 : Int32)) (t := .boolean) X0 hx Bd.returns (by simp) hlk (hb hby d2_59) (by decide) ⟨N0, e0⟩ (by decide) (by decide)
      · refine Got.step (T' := s₁) (g' := (mkF m 21 #[.val (.int p0)] [(.int (32 : Int32)), (.int p0)])) (fun tq kt => ?_) ?_
        · show Steps p.tables e below (s₁.setTop (mkF m 15 #[.val (.int p0)] [(.int (13 : Int32)), (.int p0)])) _
          refine XS.icmpNo X0.here hx rfl (hb hby d2_15) rfl (XT.ii_eq_f hc3) ?_
          show Steps p.tables e below (s₁.setTop (mkF m 18 #[.val (.int p0)] [])) _
          refine XS.iloadN X0.here hx rfl (hb hby d2_18) rfl ?_
          show Steps p.tables e below (s₁.setTop (mkF m 19 #[.val (.int p0)] [(.int p0)])) _
          refine XS.bipush X0.here hx rfl (hb hby d2_19) ?_
          exact kt
        refine Got.ite (q := (p0 < (32 : Int32))) (fun hc4 => ?_) (fun hc4 => ?_)
        · refine Got.step (T' := s₁) (g' := (mkF m 30 #[.val (.int p0)] [])) (fun tq kt => ?_) ?_
          · show Steps p.tables e below (s₁.setTop (mkF m 21 #[.val (.int p0)] [(.int (32 : Int32)), (.int p0)])) _
            refine XS.icmpYes X0.here hx rfl (pc0 := 21) (pc' := 30) rfl (hb hby d2_21) rfl (XT.ii_lt_t hc4) (by decide) (by decide) ?_
            exact kt
          exact J30 _ _ X0 e0 N0 
        · refine Got.step (T' := s₁) (g' := (mkF m 27 #[.val (.int p0)] [(.int (55295 : Int32)), (.int p0)])) (fun tq kt => ?_) ?_
          · show Steps p.tables e below (s₁.setTop (mkF m 21 #[.val (.int p0)] [(.int (32 : Int32)), (.int p0)])) _
            refine XS.icmpNo X0.here hx rfl (hb hby d2_21) rfl (XT.ii_lt_f hc4) ?_
            show Steps p.tables e below (s₁.setTop (mkF m 24 #[.val (.int p0)] [])) _
            refine XS.iloadN X0.here hx rfl (hb hby d2_24) rfl ?_
            show Steps p.tables e below (s₁.setTop (mkF m 25 #[.val (.int p0)] [(.int p0)])) _
            refine X0.ldcI hx hown (mvT hZ (hw _ (List.mem_of_getElem? (i := 26) rfl))) rfl (hb hby d2_25) ?_
            exact kt
          refine Got.ite (q := ((55295 : Int32) < p0)) (fun hc5 => ?_) (fun hc5 => ?_)
          · refine Got.step (T' := s₁) (g' := (mkF m 30 #[.val (.int p0)] [])) (fun tq kt => ?_) ?_
            · show Steps p.tables e below (s₁.setTop (mkF m 27 #[.val (.int p0)] [(.int (55295 : Int32)), (.int p0)])) _
              refine XS.icmpNo X0.here hx rfl (hb hby d2_27) rfl (XT.ii_le_f hc5) ?_
              exact kt
            exact J30 _ _ X0 e0 N0 
          · refine Got.step (T' := s₁) (g' := (mkF m 59 #[.val (.int p0)] [(.int (1 : Int32))])) (fun tq kt => ?_) ?_
            · show Steps p.tables e below (s₁.setTop (mkF m 27 #[.val (.int p0)] [(.int (55295 : Int32)), (.int p0)])) _
              refine XS.icmpYes X0.here hx rfl (pc0 := 27) (pc' := 54) rfl (hb hby d2_27) rfl (XT.ii_le_t hc5) (by decide) (by decide) ?_
              show Steps p.tables e below (s₁.setTop (mkF m 54 #[.val (.int p0)] [])) _
              refine XS.iconst X0.here hx rfl (hb hby d2_54) ?_
              show Steps p.tables e below (s₁.setTop (mkF m 55 #[.val (.int p0)] [(.int (1 : Int32))])) _
              refine XS.goto X0.here hx rfl (pc0 := 55) (pc' := 59) rfl (hb hby d2_55) (by decide) (by decide) ?_
              exact kt
            exact Got.retN (y := (1 : Int32)) (t := .boolean) X0 hx Bd.returns (by simp) hlk (hb hby d2_59) (by decide) ⟨N0, e0⟩ (by decide) (by decide)
def f3_56 (p0 : Int32)  : Int32 := (if p0 = (65534 : Int32) then (0 : Int32) else (if p0 = (65535 : Int32) then (0 : Int32) else (1 : Int32)))
def f3 (p0 : Int32)  : Int32 := (if p0 < 0 then (0 : Int32) else (if (1114111 : Int32) < p0 then (0 : Int32) else (if p0 < (32 : Int32) then (if p0 = (9 : Int32) then (1 : Int32) else (if p0 = (10 : Int32) then (1 : Int32) else (if p0 = (13 : Int32) then (1 : Int32) else (0 : Int32)))) else (if p0 < (55296 : Int32) then (f3_56 p0 ) else (if (57343 : Int32) < p0 then (f3_56 p0 ) else (0 : Int32))))))
theorem ef_3 (m : MethodId) (x0 : Int32) : entryFrame m #[(.int x0)] 1 = mkF m 0 #[.val (.int x0)] [] := by first | (simp [entryFrame, mkF, argsToLocals, Value.category]; done) | rfl
theorem pn_1 : plainName "com/example/treegraft/treegraft/xml/XmlCharsIsXmlCharPinLaw" = true := by first | (simp [plainName, overriddenIn]; done) | decide +kernel
theorem d3_0 : decode method_2_code 0 = .ok (.iload_n 0, 1) := by decide +kernel
theorem d3_1 : decode method_2_code 1 = .ok (.ifCond .lt 9, 3) := by decide +kernel
theorem d3_4 : decode method_2_code 4 = .ok (.iload_n 0, 1) := by decide +kernel
theorem d3_5 : decode method_2_code 5 = .ok (.ldc 7, 2) := by decide +kernel
theorem d3_7 : decode method_2_code 7 = .ok (.if_icmp .le 5, 3) := by decide +kernel
theorem d3_10 : decode method_2_code 10 = .ok (.iconst 0, 1) := by decide +kernel
theorem d3_11 : decode method_2_code 11 = .ok (.ireturn, 1) := by decide +kernel
theorem d3_12 : decode method_2_code 12 = .ok (.iload_n 0, 1) := by decide +kernel
theorem d3_13 : decode method_2_code 13 = .ok (.bipush 32, 2) := by decide +kernel
theorem d3_15 : decode method_2_code 15 = .ok (.if_icmp .ge 27, 3) := by decide +kernel
theorem d3_18 : decode method_2_code 18 = .ok (.iload_n 0, 1) := by decide +kernel
theorem d3_19 : decode method_2_code 19 = .ok (.bipush 9, 2) := by decide +kernel
theorem d3_21 : decode method_2_code 21 = .ok (.if_icmp .eq 15, 3) := by decide +kernel
theorem d3_24 : decode method_2_code 24 = .ok (.iload_n 0, 1) := by decide +kernel
theorem d3_25 : decode method_2_code 25 = .ok (.bipush 10, 2) := by decide +kernel
theorem d3_27 : decode method_2_code 27 = .ok (.if_icmp .eq 9, 3) := by decide +kernel
theorem d3_30 : decode method_2_code 30 = .ok (.iload_n 0, 1) := by decide +kernel
theorem d3_31 : decode method_2_code 31 = .ok (.bipush 13, 2) := by decide +kernel
theorem d3_33 : decode method_2_code 33 = .ok (.if_icmp .ne 7, 3) := by decide +kernel
theorem d3_36 : decode method_2_code 36 = .ok (.iconst 1, 1) := by decide +kernel
theorem d3_37 : decode method_2_code 37 = .ok (.goto 4, 3) := by decide +kernel
theorem d3_40 : decode method_2_code 40 = .ok (.iconst 0, 1) := by decide +kernel
theorem d3_41 : decode method_2_code 41 = .ok (.ireturn, 1) := by decide +kernel
theorem d3_42 : decode method_2_code 42 = .ok (.iload_n 0, 1) := by decide +kernel
theorem d3_43 : decode method_2_code 43 = .ok (.ldc 8, 2) := by decide +kernel
theorem d3_45 : decode method_2_code 45 = .ok (.if_icmp .lt 11, 3) := by decide +kernel
theorem d3_48 : decode method_2_code 48 = .ok (.iload_n 0, 1) := by decide +kernel
theorem d3_49 : decode method_2_code 49 = .ok (.ldc 9, 2) := by decide +kernel
theorem d3_51 : decode method_2_code 51 = .ok (.if_icmp .gt 5, 3) := by decide +kernel
theorem d3_54 : decode method_2_code 54 = .ok (.iconst 0, 1) := by decide +kernel
theorem d3_55 : decode method_2_code 55 = .ok (.ireturn, 1) := by decide +kernel
theorem d3_56 : decode method_2_code 56 = .ok (.iload_n 0, 1) := by decide +kernel
theorem d3_57 : decode method_2_code 57 = .ok (.ldc 10, 2) := by decide +kernel
theorem d3_59 : decode method_2_code 59 = .ok (.if_icmp .eq 9, 3) := by decide +kernel
theorem d3_62 : decode method_2_code 62 = .ok (.iload_n 0, 1) := by decide +kernel
theorem d3_63 : decode method_2_code 63 = .ok (.ldc 11, 2) := by decide +kernel
theorem d3_65 : decode method_2_code 65 = .ok (.if_icmp .ne 5, 3) := by decide +kernel
theorem d3_68 : decode method_2_code 68 = .ok (.iconst 0, 1) := by decide +kernel
theorem d3_69 : decode method_2_code 69 = .ok (.ireturn, 1) := by decide +kernel
theorem d3_70 : decode method_2_code 70 = .ok (.iconst 1, 1) := by decide +kernel
theorem d3_71 : decode method_2_code 71 = .ok (.ireturn, 1) := by decide +kernel
set_option maxRecDepth 65536 in
set_option maxHeartbeats 40000000 in
theorem rm3 (l : Launch) (Z : State) (a0 : Array Value) (hw : ∀ d ∈ tables_1, d.before a0 Z = true) (ws : List Jvm.Cond) (p0 : Int32) (h0 : Heap) (n0 : Nat) (Z0 : n0 ≤ h0.size)  :
    MetFree l (⟨"com/example/treegraft/treegraft/xml/XmlCharsIsXmlCharPinLaw", "ref", "(I)Z"⟩ : MethodName) (head1 (Jvm.Cond.code (⟨"com/example/treegraft/treegraft/xml/XmlCharsIsXmlCharPinLaw", "ref", "(I)Z"⟩ : MethodName) method_2_code 1 (some .boolean) :: ws) ({ frames := 0, cells := 0, slots := 0, locals := 0 } : Room)) (fun a U => a = #[(.int p0)] ∧ Z.Warmed39 U.vm ∧ U.heap = h0) (fun _ _ _ _ _ => True) (fun _ U o U' => ∃ v L, o = .returned v ∧ QV (some (.int (f3 p0))) (PureP n0 h0) v U'.heap L ∧ FrameEnd U o U' L ({ frames := 0, cells := 0, slots := 0, locals := 0 } : Room).cells ({ frames := 0, cells := 0, slots := 0, locals := 0 } : Room).slots) := by
  refine MetFree.of_bodySF (plainFor_of_name pn_1) hisR ?_
  intro p e s m args below meth c s₁ Bd hml0 hP hK
  obtain ⟨rfl, hZ, hh⟩ := hP
  have hx := Bd.exec
  have hby := Bd.bytes
  have hml : c.maxLocals = 1 := hml0
  have hown : s.vm.findClass "com/example/treegraft/treegraft/xml/XmlCharsIsXmlCharPinLaw" = some m.cls := findClass_of_methodNamed Bd.named
  have hnm := (name_of_methodNamed Bd.named Bd.method).1
  have hlk : meth.locks = false := BodyLoose.notSynchronized Bd
  have X0 : Stand p l e ({ frames := 0, cells := 0, slots := 0, locals := 0 } : Room) s m #[(.int p0)] below meth c s₁ [] 0 0 := Stand.of_body Bd
  have e0 : s₁.heap = h0 := by rw [← hh, Bd.state]; rfl
  have N0 := Fr.nil n0
  refine Got.body (ef_3 m p0) ?_
  have J56 : ∀ (T_56 : State) (L_56 : List Loc), Stand p l e ({ frames := 0, cells := 0, slots := 0, locals := 0 } : Room) s m #[(.int p0)] below meth c T_56 L_56 0 0 → T_56.heap = h0 → Fr n0 L_56 → Got p e below s (PureP n0 h0) 0 0 (some (.int (f3_56 p0 ))) T_56 (mkF m 56 #[.val (.int p0)] []) := by
    intro T_56 L_56 X_56 e_56 N_56 
    refine Got.step (T' := T_56) (g' := (mkF m 59 #[.val (.int p0)] [(.int (65534 : Int32)), (.int p0)])) (fun tq kt => ?_) ?_
    · show Steps p.tables e below (T_56.setTop (mkF m 56 #[.val (.int p0)] [])) _
      refine XS.iloadN X_56.here hx rfl (hb hby d3_56) rfl ?_
      show Steps p.tables e below (T_56.setTop (mkF m 57 #[.val (.int p0)] [(.int p0)])) _
      refine X_56.ldcI hx hown (mvT hZ (hw _ (List.mem_of_getElem? (i := 27) rfl))) rfl (hb hby d3_57) ?_
      exact kt
    refine Got.ite (q := (p0 = (65534 : Int32))) (fun hc18 => ?_) (fun hc18 => ?_)
    · refine Got.step (T' := T_56) (g' := (mkF m 69 #[.val (.int p0)] [(.int (0 : Int32))])) (fun tq kt => ?_) ?_
      · show Steps p.tables e below (T_56.setTop (mkF m 59 #[.val (.int p0)] [(.int (65534 : Int32)), (.int p0)])) _
        refine XS.icmpYes X_56.here hx rfl (pc0 := 59) (pc' := 68) rfl (hb hby d3_59) rfl (XT.ii_eq_t hc18) (by decide) (by decide) ?_
        show Steps p.tables e below (T_56.setTop (mkF m 68 #[.val (.int p0)] [])) _
        refine XS.iconst X_56.here hx rfl (hb hby d3_68) ?_
        exact kt
      exact Got.retN (y := (0 : Int32)) (t := .boolean) X_56 hx Bd.returns (by simp) hlk (hb hby d3_69) (by decide) ⟨N_56, e_56⟩ (by decide) (by decide)
    · refine Got.step (T' := T_56) (g' := (mkF m 65 #[.val (.int p0)] [(.int (65535 : Int32)), (.int p0)])) (fun tq kt => ?_) ?_
      · show Steps p.tables e below (T_56.setTop (mkF m 59 #[.val (.int p0)] [(.int (65534 : Int32)), (.int p0)])) _
        refine XS.icmpNo X_56.here hx rfl (hb hby d3_59) rfl (XT.ii_eq_f hc18) ?_
        show Steps p.tables e below (T_56.setTop (mkF m 62 #[.val (.int p0)] [])) _
        refine XS.iloadN X_56.here hx rfl (hb hby d3_62) rfl ?_
        show Steps p.tables e below (T_56.setTop (mkF m 63 #[.val (.int p0)] [(.int p0)])) _
        refine X_56.ldcI hx hown (mvT hZ (hw _ (List.mem_of_getElem? (i := 6) rfl))) rfl (hb hby d3_63) ?_
        exact kt
      refine Got.ite (q := (p0 = (65535 : Int32))) (fun hc19 => ?_) (fun hc19 => ?_)
      · refine Got.step (T' := T_56) (g' := (mkF m 69 #[.val (.int p0)] [(.int (0 : Int32))])) (fun tq kt => ?_) ?_
        · show Steps p.tables e below (T_56.setTop (mkF m 65 #[.val (.int p0)] [(.int (65535 : Int32)), (.int p0)])) _
          refine XS.icmpNo X_56.here hx rfl (hb hby d3_65) rfl (XT.ii_ne_f hc19) ?_
          show Steps p.tables e below (T_56.setTop (mkF m 68 #[.val (.int p0)] [])) _
          refine XS.iconst X_56.here hx rfl (hb hby d3_68) ?_
          exact kt
        exact Got.retN (y := (0 : Int32)) (t := .boolean) X_56 hx Bd.returns (by simp) hlk (hb hby d3_69) (by decide) ⟨N_56, e_56⟩ (by decide) (by decide)
      · refine Got.step (T' := T_56) (g' := (mkF m 71 #[.val (.int p0)] [(.int (1 : Int32))])) (fun tq kt => ?_) ?_
        · show Steps p.tables e below (T_56.setTop (mkF m 65 #[.val (.int p0)] [(.int (65535 : Int32)), (.int p0)])) _
          refine XS.icmpYes X_56.here hx rfl (pc0 := 65) (pc' := 70) rfl (hb hby d3_65) rfl (XT.ii_ne_t hc19) (by decide) (by decide) ?_
          show Steps p.tables e below (T_56.setTop (mkF m 70 #[.val (.int p0)] [])) _
          refine XS.iconst X_56.here hx rfl (hb hby d3_70) ?_
          exact kt
        exact Got.retN (y := (1 : Int32)) (t := .boolean) X_56 hx Bd.returns (by simp) hlk (hb hby d3_71) (by decide) ⟨N_56, e_56⟩ (by decide) (by decide)
  refine Got.step (T' := s₁) (g' := (mkF m 1 #[.val (.int p0)] [(.int p0)])) (fun tq kt => ?_) ?_
  · show Steps p.tables e below (s₁.setTop (mkF m 0 #[.val (.int p0)] [])) _
    refine XS.iloadN X0.here hx rfl (hb hby d3_0) rfl ?_
    exact kt
  refine Got.ite (q := (p0 < 0)) (fun hc10 => ?_) (fun hc10 => ?_)
  · refine Got.step (T' := s₁) (g' := (mkF m 11 #[.val (.int p0)] [(.int (0 : Int32))])) (fun tq kt => ?_) ?_
    · show Steps p.tables e below (s₁.setTop (mkF m 1 #[.val (.int p0)] [(.int p0)])) _
      refine XS.ifYes X0.here hx rfl (pc0 := 1) (pc' := 10) rfl (hb hby d3_1) rfl (XT.i0_lt_t hc10) (by decide) (by decide) ?_
      show Steps p.tables e below (s₁.setTop (mkF m 10 #[.val (.int p0)] [])) _
      refine XS.iconst X0.here hx rfl (hb hby d3_10) ?_
      exact kt
    exact Got.retN (y := (0 : Int32)) (t := .boolean) X0 hx Bd.returns (by simp) hlk (hb hby d3_11) (by decide) ⟨N0, e0⟩ (by decide) (by decide)
  · refine Got.step (T' := s₁) (g' := (mkF m 7 #[.val (.int p0)] [(.int (1114111 : Int32)), (.int p0)])) (fun tq kt => ?_) ?_
    · show Steps p.tables e below (s₁.setTop (mkF m 1 #[.val (.int p0)] [(.int p0)])) _
      refine XS.ifNo X0.here hx rfl (hb hby d3_1) rfl (XT.i0_lt_f hc10) ?_
      show Steps p.tables e below (s₁.setTop (mkF m 4 #[.val (.int p0)] [])) _
      refine XS.iloadN X0.here hx rfl (hb hby d3_4) rfl ?_
      show Steps p.tables e below (s₁.setTop (mkF m 5 #[.val (.int p0)] [(.int p0)])) _
      refine X0.ldcI hx hown (mvT hZ (hw _ (List.mem_of_getElem? (i := 8) rfl))) rfl (hb hby d3_5) ?_
      exact kt
    refine Got.ite (q := ((1114111 : Int32) < p0)) (fun hc11 => ?_) (fun hc11 => ?_)
    · refine Got.step (T' := s₁) (g' := (mkF m 11 #[.val (.int p0)] [(.int (0 : Int32))])) (fun tq kt => ?_) ?_
      · show Steps p.tables e below (s₁.setTop (mkF m 7 #[.val (.int p0)] [(.int (1114111 : Int32)), (.int p0)])) _
        refine XS.icmpNo X0.here hx rfl (hb hby d3_7) rfl (XT.ii_le_f hc11) ?_
        show Steps p.tables e below (s₁.setTop (mkF m 10 #[.val (.int p0)] [])) _
        refine XS.iconst X0.here hx rfl (hb hby d3_10) ?_
        exact kt
      exact Got.retN (y := (0 : Int32)) (t := .boolean) X0 hx Bd.returns (by simp) hlk (hb hby d3_11) (by decide) ⟨N0, e0⟩ (by decide) (by decide)
    · refine Got.step (T' := s₁) (g' := (mkF m 15 #[.val (.int p0)] [(.int (32 : Int32)), (.int p0)])) (fun tq kt => ?_) ?_
      · show Steps p.tables e below (s₁.setTop (mkF m 7 #[.val (.int p0)] [(.int (1114111 : Int32)), (.int p0)])) _
        refine XS.icmpYes X0.here hx rfl (pc0 := 7) (pc' := 12) rfl (hb hby d3_7) rfl (XT.ii_le_t hc11) (by decide) (by decide) ?_
        show Steps p.tables e below (s₁.setTop (mkF m 12 #[.val (.int p0)] [])) _
        refine XS.iloadN X0.here hx rfl (hb hby d3_12) rfl ?_
        show Steps p.tables e below (s₁.setTop (mkF m 13 #[.val (.int p0)] [(.int p0)])) _
        refine XS.bipush X0.here hx rfl (hb hby d3_13) ?_
        exact kt
      refine Got.ite (q := (p0 < (32 : Int32))) (fun hc12 => ?_) (fun hc12 => ?_)
      · refine Got.step (T' := s₁) (g' := (mkF m 21 #[.val (.int p0)] [(.int (9 : Int32)), (.int p0)])) (fun tq kt => ?_) ?_
        · show Steps p.tables e below (s₁.setTop (mkF m 15 #[.val (.int p0)] [(.int (32 : Int32)), (.int p0)])) _
          refine XS.icmpNo X0.here hx rfl (hb hby d3_15) rfl (XT.ii_ge_f hc12) ?_
          show Steps p.tables e below (s₁.setTop (mkF m 18 #[.val (.int p0)] [])) _
          refine XS.iloadN X0.here hx rfl (hb hby d3_18) rfl ?_
          show Steps p.tables e below (s₁.setTop (mkF m 19 #[.val (.int p0)] [(.int p0)])) _
          refine XS.bipush X0.here hx rfl (hb hby d3_19) ?_
          exact kt
        refine Got.ite (q := (p0 = (9 : Int32))) (fun hc13 => ?_) (fun hc13 => ?_)
        · refine Got.step (T' := s₁) (g' := (mkF m 41 #[.val (.int p0)] [(.int (1 : Int32))])) (fun tq kt => ?_) ?_
          · show Steps p.tables e below (s₁.setTop (mkF m 21 #[.val (.int p0)] [(.int (9 : Int32)), (.int p0)])) _
            refine XS.icmpYes X0.here hx rfl (pc0 := 21) (pc' := 36) rfl (hb hby d3_21) rfl (XT.ii_eq_t hc13) (by decide) (by decide) ?_
            show Steps p.tables e below (s₁.setTop (mkF m 36 #[.val (.int p0)] [])) _
            refine XS.iconst X0.here hx rfl (hb hby d3_36) ?_
            show Steps p.tables e below (s₁.setTop (mkF m 37 #[.val (.int p0)] [(.int (1 : Int32))])) _
            refine XS.goto X0.here hx rfl (pc0 := 37) (pc' := 41) rfl (hb hby d3_37) (by decide) (by decide) ?_
            exact kt
          exact Got.retN (y := (1 : Int32)) (t := .boolean) X0 hx Bd.returns (by simp) hlk (hb hby d3_41) (by decide) ⟨N0, e0⟩ (by decide) (by decide)
        · refine Got.step (T' := s₁) (g' := (mkF m 27 #[.val (.int p0)] [(.int (10 : Int32)), (.int p0)])) (fun tq kt => ?_) ?_
          · show Steps p.tables e below (s₁.setTop (mkF m 21 #[.val (.int p0)] [(.int (9 : Int32)), (.int p0)])) _
            refine XS.icmpNo X0.here hx rfl (hb hby d3_21) rfl (XT.ii_eq_f hc13) ?_
            show Steps p.tables e below (s₁.setTop (mkF m 24 #[.val (.int p0)] [])) _
            refine XS.iloadN X0.here hx rfl (hb hby d3_24) rfl ?_
            show Steps p.tables e below (s₁.setTop (mkF m 25 #[.val (.int p0)] [(.int p0)])) _
            refine XS.bipush X0.here hx rfl (hb hby d3_25) ?_
            exact kt
          refine Got.ite (q := (p0 = (10 : Int32))) (fun hc14 => ?_) (fun hc14 => ?_)
          · refine Got.step (T' := s₁) (g' := (mkF m 41 #[.val (.int p0)] [(.int (1 : Int32))])) (fun tq kt => ?_) ?_
            · show Steps p.tables e below (s₁.setTop (mkF m 27 #[.val (.int p0)] [(.int (10 : Int32)), (.int p0)])) _
              refine XS.icmpYes X0.here hx rfl (pc0 := 27) (pc' := 36) rfl (hb hby d3_27) rfl (XT.ii_eq_t hc14) (by decide) (by decide) ?_
              show Steps p.tables e below (s₁.setTop (mkF m 36 #[.val (.int p0)] [])) _
              refine XS.iconst X0.here hx rfl (hb hby d3_36) ?_
              show Steps p.tables e below (s₁.setTop (mkF m 37 #[.val (.int p0)] [(.int (1 : Int32))])) _
              refine XS.goto X0.here hx rfl (pc0 := 37) (pc' := 41) rfl (hb hby d3_37) (by decide) (by decide) ?_
              exact kt
            exact Got.retN (y := (1 : Int32)) (t := .boolean) X0 hx Bd.returns (by simp) hlk (hb hby d3_41) (by decide) ⟨N0, e0⟩ (by decide) (by decide)
          · refine Got.step (T' := s₁) (g' := (mkF m 33 #[.val (.int p0)] [(.int (13 : Int32)), (.int p0)])) (fun tq kt => ?_) ?_
            · show Steps p.tables e below (s₁.setTop (mkF m 27 #[.val (.int p0)] [(.int (10 : Int32)), (.int p0)])) _
              refine XS.icmpNo X0.here hx rfl (hb hby d3_27) rfl (XT.ii_eq_f hc14) ?_
              show Steps p.tables e below (s₁.setTop (mkF m 30 #[.val (.int p0)] [])) _
              refine XS.iloadN X0.here hx rfl (hb hby d3_30) rfl ?_
              show Steps p.tables e below (s₁.setTop (mkF m 31 #[.val (.int p0)] [(.int p0)])) _
              refine XS.bipush X0.here hx rfl (hb hby d3_31) ?_
              exact kt
            refine Got.ite (q := (p0 = (13 : Int32))) (fun hc15 => ?_) (fun hc15 => ?_)
            · refine Got.step (T' := s₁) (g' := (mkF m 41 #[.val (.int p0)] [(.int (1 : Int32))])) (fun tq kt => ?_) ?_
              · show Steps p.tables e below (s₁.setTop (mkF m 33 #[.val (.int p0)] [(.int (13 : Int32)), (.int p0)])) _
                refine XS.icmpNo X0.here hx rfl (hb hby d3_33) rfl (XT.ii_ne_f hc15) ?_
                show Steps p.tables e below (s₁.setTop (mkF m 36 #[.val (.int p0)] [])) _
                refine XS.iconst X0.here hx rfl (hb hby d3_36) ?_
                show Steps p.tables e below (s₁.setTop (mkF m 37 #[.val (.int p0)] [(.int (1 : Int32))])) _
                refine XS.goto X0.here hx rfl (pc0 := 37) (pc' := 41) rfl (hb hby d3_37) (by decide) (by decide) ?_
                exact kt
              exact Got.retN (y := (1 : Int32)) (t := .boolean) X0 hx Bd.returns (by simp) hlk (hb hby d3_41) (by decide) ⟨N0, e0⟩ (by decide) (by decide)
            · refine Got.step (T' := s₁) (g' := (mkF m 41 #[.val (.int p0)] [(.int (0 : Int32))])) (fun tq kt => ?_) ?_
              · show Steps p.tables e below (s₁.setTop (mkF m 33 #[.val (.int p0)] [(.int (13 : Int32)), (.int p0)])) _
                refine XS.icmpYes X0.here hx rfl (pc0 := 33) (pc' := 40) rfl (hb hby d3_33) rfl (XT.ii_ne_t hc15) (by decide) (by decide) ?_
                show Steps p.tables e below (s₁.setTop (mkF m 40 #[.val (.int p0)] [])) _
                refine XS.iconst X0.here hx rfl (hb hby d3_40) ?_
                exact kt
              exact Got.retN (y := (0 : Int32)) (t := .boolean) X0 hx Bd.returns (by simp) hlk (hb hby d3_41) (by decide) ⟨N0, e0⟩ (by decide) (by decide)
      · refine Got.step (T' := s₁) (g' := (mkF m 45 #[.val (.int p0)] [(.int (55296 : Int32)), (.int p0)])) (fun tq kt => ?_) ?_
        · show Steps p.tables e below (s₁.setTop (mkF m 15 #[.val (.int p0)] [(.int (32 : Int32)), (.int p0)])) _
          refine XS.icmpYes X0.here hx rfl (pc0 := 15) (pc' := 42) rfl (hb hby d3_15) rfl (XT.ii_ge_t hc12) (by decide) (by decide) ?_
          show Steps p.tables e below (s₁.setTop (mkF m 42 #[.val (.int p0)] [])) _
          refine XS.iloadN X0.here hx rfl (hb hby d3_42) rfl ?_
          show Steps p.tables e below (s₁.setTop (mkF m 43 #[.val (.int p0)] [(.int p0)])) _
          refine X0.ldcI hx hown (mvT hZ (hw _ (List.mem_of_getElem? (i := 2) rfl))) rfl (hb hby d3_43) ?_
          exact kt
        refine Got.ite (q := (p0 < (55296 : Int32))) (fun hc16 => ?_) (fun hc16 => ?_)
        · refine Got.step (T' := s₁) (g' := (mkF m 56 #[.val (.int p0)] [])) (fun tq kt => ?_) ?_
          · show Steps p.tables e below (s₁.setTop (mkF m 45 #[.val (.int p0)] [(.int (55296 : Int32)), (.int p0)])) _
            refine XS.icmpYes X0.here hx rfl (pc0 := 45) (pc' := 56) rfl (hb hby d3_45) rfl (XT.ii_lt_t hc16) (by decide) (by decide) ?_
            exact kt
          exact J56 _ _ X0 e0 N0 
        · refine Got.step (T' := s₁) (g' := (mkF m 51 #[.val (.int p0)] [(.int (57343 : Int32)), (.int p0)])) (fun tq kt => ?_) ?_
          · show Steps p.tables e below (s₁.setTop (mkF m 45 #[.val (.int p0)] [(.int (55296 : Int32)), (.int p0)])) _
            refine XS.icmpNo X0.here hx rfl (hb hby d3_45) rfl (XT.ii_lt_f hc16) ?_
            show Steps p.tables e below (s₁.setTop (mkF m 48 #[.val (.int p0)] [])) _
            refine XS.iloadN X0.here hx rfl (hb hby d3_48) rfl ?_
            show Steps p.tables e below (s₁.setTop (mkF m 49 #[.val (.int p0)] [(.int p0)])) _
            refine X0.ldcI hx hown (mvT hZ (hw _ (List.mem_of_getElem? (i := 3) rfl))) rfl (hb hby d3_49) ?_
            exact kt
          refine Got.ite (q := ((57343 : Int32) < p0)) (fun hc17 => ?_) (fun hc17 => ?_)
          · refine Got.step (T' := s₁) (g' := (mkF m 56 #[.val (.int p0)] [])) (fun tq kt => ?_) ?_
            · show Steps p.tables e below (s₁.setTop (mkF m 51 #[.val (.int p0)] [(.int (57343 : Int32)), (.int p0)])) _
              refine XS.icmpYes X0.here hx rfl (pc0 := 51) (pc' := 56) rfl (hb hby d3_51) rfl (XT.ii_gt_t hc17) (by decide) (by decide) ?_
              exact kt
            exact J56 _ _ X0 e0 N0 
          · refine Got.step (T' := s₁) (g' := (mkF m 55 #[.val (.int p0)] [(.int (0 : Int32))])) (fun tq kt => ?_) ?_
            · show Steps p.tables e below (s₁.setTop (mkF m 51 #[.val (.int p0)] [(.int (57343 : Int32)), (.int p0)])) _
              refine XS.icmpNo X0.here hx rfl (hb hby d3_51) rfl (XT.ii_gt_f hc17) ?_
              show Steps p.tables e below (s₁.setTop (mkF m 54 #[.val (.int p0)] [])) _
              refine XS.iconst X0.here hx rfl (hb hby d3_54) ?_
              exact kt
            exact Got.retN (y := (0 : Int32)) (t := .boolean) X0 hx Bd.returns (by simp) hlk (hb hby d3_55) (by decide) ⟨N0, e0⟩ (by decide) (by decide)
theorem pd_0 : parseMethodDescriptor "(I)Z" = some ⟨[.int], some .boolean⟩ := by decide +kernel
def f1 (p0 : Int32)  : Int32 := (if (f2 p0) = (f3 p0) then (1 : Int32) else (0 : Int32))
theorem ef_1 (m : MethodId) (x0 : Int32) : entryFrame m #[(.int x0)] 1 = mkF m 0 #[.val (.int x0)] [] := by first | (simp [entryFrame, mkF, argsToLocals, Value.category]; done) | rfl
theorem d1_0 : decode method_3_code 0 = .ok (.iload_n 0, 1) := by decide +kernel
theorem d1_1 : decode method_3_code 1 = .ok (.invokestatic 12, 3) := by decide +kernel
theorem d1_4 : decode method_3_code 4 = .ok (.iload_n 0, 1) := by decide +kernel
theorem d1_5 : decode method_3_code 5 = .ok (.invokestatic 18, 3) := by decide +kernel
theorem d1_8 : decode method_3_code 8 = .ok (.if_icmp .ne 7, 3) := by decide +kernel
theorem d1_11 : decode method_3_code 11 = .ok (.iconst 1, 1) := by decide +kernel
theorem d1_12 : decode method_3_code 12 = .ok (.goto 4, 3) := by decide +kernel
theorem d1_15 : decode method_3_code 15 = .ok (.iconst 0, 1) := by decide +kernel
theorem d1_16 : decode method_3_code 16 = .ok (.ireturn, 1) := by decide +kernel
set_option maxRecDepth 65536 in
set_option maxHeartbeats 40000000 in
theorem rm1 (l : Launch) (Z : State) (a0 : Array Value) (hw : ∀ d ∈ tables_1, d.before a0 Z = true) (ws : List Jvm.Cond) (p0 : Int32) (h0 : Heap) (n0 : Nat) (Z0 : n0 ≤ h0.size)  :
    MetFree l (⟨"com/example/treegraft/treegraft/xml/XmlCharsIsXmlCharPinLaw", "agrees", "(I)Z"⟩ : MethodName) (head1 (Jvm.Cond.code (⟨"com/example/treegraft/treegraft/xml/XmlCharsIsXmlCharPinLaw", "agrees", "(I)Z"⟩ : MethodName) method_3_code 1 (some .boolean) :: ws) ({ frames := 1, cells := 0, slots := 0, locals := 13 } : Room)) (fun a U => a = #[(.int p0)] ∧ Z.Warmed39 U.vm ∧ U.heap = h0) (fun _ _ _ _ _ => True) (fun _ U o U' => ∃ v L, o = .returned v ∧ QV (some (.int (f1 p0))) (PureP n0 h0) v U'.heap L ∧ FrameEnd U o U' L ({ frames := 1, cells := 0, slots := 0, locals := 13 } : Room).cells ({ frames := 1, cells := 0, slots := 0, locals := 13 } : Room).slots) := by
  refine MetFree.of_bodySF (plainFor_of_name pn_1) hisR ?_
  intro p e s m args below meth c s₁ Bd hml0 hP hK
  obtain ⟨rfl, hZ, hh⟩ := hP
  have hx := Bd.exec
  have hby := Bd.bytes
  have hml : c.maxLocals = 1 := hml0
  have hown : s.vm.findClass "com/example/treegraft/treegraft/xml/XmlCharsIsXmlCharPinLaw" = some m.cls := findClass_of_methodNamed Bd.named
  have hnm := (name_of_methodNamed Bd.named Bd.method).1
  have hlk : meth.locks = false := BodyLoose.notSynchronized Bd
  have X0 : Stand p l e ({ frames := 1, cells := 0, slots := 0, locals := 13 } : Room) s m #[(.int p0)] below meth c s₁ [] 0 0 := Stand.of_body Bd
  have e0 : s₁.heap = h0 := by rw [← hh, Bd.state]; rfl
  have N0 := Fr.nil n0
  refine Got.body (ef_1 m p0) ?_
  refine Got.step (T' := s₁) (g' := (mkF m 1 #[.val (.int p0)] [(.int p0)])) (fun tq kt => ?_) ?_
  · show Steps p.tables e below (s₁.setTop (mkF m 0 #[.val (.int p0)] [])) _
    refine XS.iloadN X0.here hx rfl (hb hby d1_0) rfl ?_
    exact kt
  obtain ⟨_, _, ⟨T20, L20, k20, n20⟩, -, X20, ⟨Lc20, hQ20, l20, y20, z20⟩, st20⟩ := Jvm.LawKit.callS X0 hx (y := (⟨"com/example/treegraft/treegraft/xml/XmlChars", "isXmlChar", "(I)Z"⟩ : MethodName)) hown (mvT hZ (hw _ (List.mem_of_getElem? (i := 16) rfl))) (mvT hZ (hw _ (List.mem_of_getElem? (i := 17) rfl))) (mvT hZ (hw _ (List.mem_of_getElem? (i := 18) rfl))) (mvT hZ (hw _ (List.mem_of_getElem? (i := 19) rfl))) (by decide) (backOf (W := 0) (rm2 l Z a0 hw [] p0 h0 n0 Z0) hZ (hw _ (List.mem_of_getElem? (i := 19) rfl)) (hw _ (List.mem_of_getElem? (i := 18) rfl)) (by decide) (by decide)) (g := (mkF m 1 #[.val (.int p0)] [(.int p0)])) rfl (by rw [hml]; rfl) (argsL := [(.int p0)]) (rest := []) (lenOf pd_0 rfl) rfl (by show 2 * 0 + _ ≤ _; exact Nat.le_of_eq rfl) (hb hby d1_1) (fun _ _ => ⟨rfl, e0, (by decide : 0 + 0 ≤ _), (by decide : 0 + 0 ≤ _)⟩)
  dsimp only [Pt.U, Pt.locs, Pt.cells, Pt.slots] at X20 l20 y20 z20 st20 hQ20
  subst l20 y20 z20
  obtain ⟨rfl, Nq20, e20⟩ := hQ20
  have N20 := Fr.app N0 Nq20
  refine Got.step st20 ?_
  show Got p e below s _ _ _ _ T20 (mkF m 4 #[.val (.int p0)] [(.int (f2 p0))])
  refine Got.step (T' := T20) (g' := (mkF m 5 #[.val (.int p0)] [(.int p0), (.int (f2 p0))])) (fun tq kt => ?_) ?_
  · show Steps p.tables e below (T20.setTop (mkF m 4 #[.val (.int p0)] [(.int (f2 p0))])) _
    refine XS.iloadN X20.here hx rfl (hb hby d1_4) rfl ?_
    exact kt
  obtain ⟨_, _, ⟨T21, L21, k21, n21⟩, -, X21, ⟨Lc21, hQ21, l21, y21, z21⟩, st21⟩ := Jvm.LawKit.callS X20 hx (y := (⟨"com/example/treegraft/treegraft/xml/XmlCharsIsXmlCharPinLaw", "ref", "(I)Z"⟩ : MethodName)) hown (mvT hZ (hw _ (List.mem_of_getElem? (i := 22) rfl))) (mvT hZ (hw _ (List.mem_of_getElem? (i := 23) rfl))) (mvT hZ (hw _ (List.mem_of_getElem? (i := 14) rfl))) (mvT hZ (hw _ (List.mem_of_getElem? (i := 24) rfl))) (by decide) (backOf (W := 1) (rm3 l Z a0 hw [] p0 h0 n0 Z0) hZ (hw _ (List.mem_of_getElem? (i := 24) rfl)) (hw _ (List.mem_of_getElem? (i := 14) rfl)) (by decide) (by decide)) (g := (mkF m 5 #[.val (.int p0)] [(.int p0), (.int (f2 p0))])) rfl (by rw [hml]; rfl) (argsL := [(.int p0)]) (rest := [(.int (f2 p0))]) (lenOf pd_0 rfl) rfl (by show 2 * 0 + _ ≤ _; exact Nat.le_of_eq rfl) (hb hby d1_5) (fun _ _ => ⟨rfl, e20, (by decide : 0 + 0 ≤ _), (by decide : 0 + 0 ≤ _)⟩)
  dsimp only [Pt.U, Pt.locs, Pt.cells, Pt.slots] at X21 l21 y21 z21 st21 hQ21
  subst l21 y21 z21
  obtain ⟨rfl, Nq21, e21⟩ := hQ21
  have N21 := Fr.app N20 Nq21
  refine Got.step st21 ?_
  show Got p e below s _ _ _ _ T21 (mkF m 8 #[.val (.int p0)] [(.int (f3 p0)), (.int (f2 p0))])
  refine Got.ite (q := ((f2 p0) = (f3 p0))) (fun hc22 => ?_) (fun hc22 => ?_)
  · refine Got.step (T' := T21) (g' := (mkF m 16 #[.val (.int p0)] [(.int (1 : Int32))])) (fun tq kt => ?_) ?_
    · show Steps p.tables e below (T21.setTop (mkF m 8 #[.val (.int p0)] [(.int (f3 p0)), (.int (f2 p0))])) _
      refine XS.icmpNo X21.here hx rfl (hb hby d1_8) rfl (XT.ii_ne_f hc22) ?_
      show Steps p.tables e below (T21.setTop (mkF m 11 #[.val (.int p0)] [])) _
      refine XS.iconst X21.here hx rfl (hb hby d1_11) ?_
      show Steps p.tables e below (T21.setTop (mkF m 12 #[.val (.int p0)] [(.int (1 : Int32))])) _
      refine XS.goto X21.here hx rfl (pc0 := 12) (pc' := 16) rfl (hb hby d1_12) (by decide) (by decide) ?_
      exact kt
    exact Got.retN (y := (1 : Int32)) (t := .boolean) X21 hx Bd.returns (by simp) hlk (hb hby d1_16) (by decide) ⟨N21, e21⟩ (by decide) (by decide)
  · refine Got.step (T' := T21) (g' := (mkF m 16 #[.val (.int p0)] [(.int (0 : Int32))])) (fun tq kt => ?_) ?_
    · show Steps p.tables e below (T21.setTop (mkF m 8 #[.val (.int p0)] [(.int (f3 p0)), (.int (f2 p0))])) _
      refine XS.icmpYes X21.here hx rfl (pc0 := 8) (pc' := 15) rfl (hb hby d1_8) rfl (XT.ii_ne_t hc22) (by decide) (by decide) ?_
      show Steps p.tables e below (T21.setTop (mkF m 15 #[.val (.int p0)] [])) _
      refine XS.iconst X21.here hx rfl (hb hby d1_15) ?_
      exact kt
    exact Got.retN (y := (0 : Int32)) (t := .boolean) X21 hx Bd.returns (by simp) hlk (hb hby d1_16) (by decide) ⟨N21, e21⟩ (by decide) (by decide)
theorem own_idx (k d : Int32) (n : Int) (hd : d.toInt = n) (hn : 0 < n) : ¬ ((k &&& (2147483647 : Int32)) % d) < 0 ∧ ((k &&& (2147483647 : Int32)) % d) < d := by
  have h1 := c_mask k 2147483647 31 (by decide) (by decide)
  have h2 := (c_irem (k &&& 2147483647) d n hd).1 (by omega)
  have h3 := Int.emod_nonneg (k &&& 2147483647).toInt (b := n) (by omega)
  have h4 := Int.emod_lt_of_pos (k &&& 2147483647).toInt hn
  have z : (0 : Int32).toInt = 0 := rfl
  rw [Int32.lt_iff_toInt_lt, Int32.lt_iff_toInt_lt, h2, hd, z]
  omega
theorem own_eq (p k : Int32) : p = k ↔ p.toInt = k.toInt := Int32.toInt_inj.symm
theorem same (p0 : Int32) : f2 p0 = f3 p0 := by
  simp only [f2, f2_30, f2_42, f3, f3_56, Int32.lt_iff_toInt_lt, own_eq p0, show (9 : Int32).toInt = 9 from rfl, show (10 : Int32).toInt = 10 from rfl, show (13 : Int32).toInt = 13 from rfl, show (32 : Int32).toInt = 32 from rfl, show (55295 : Int32).toInt = 55295 from rfl, show (57344 : Int32).toInt = 57344 from rfl, show (65533 : Int32).toInt = 65533 from rfl, show (65536 : Int32).toInt = 65536 from rfl, show (1114111 : Int32).toInt = 1114111 from rfl, show (0 : Int32).toInt = 0 from rfl, show (55296 : Int32).toInt = 55296 from rfl, show (57343 : Int32).toInt = 57343 from rfl, show (65534 : Int32).toInt = 65534 from rfl, show (65535 : Int32).toInt = 65535 from rfl]
  generalize p0.toInt = x
  repeat' split
  all_goals first | rfl | (exfalso; omega)
theorem agrees_ne (p0 : Int32) : ¬ f1 p0 = 0 := by
  rw [f1, if_pos (same p0)]
  decide

theorem ef_0 (m : MethodId) (x0 : Int32) (x1 : Int32) : entryFrame m #[(.int x0), (.int x1)] maxLocals = mkF m 0 #[.val (.int x0), .val (.int x1), .unset, .unset, .unset, .unset] [] := by first | (simp [entryFrame, mkF, argsToLocals, Value.category, maxLocals]; done) | rfl
set_option maxRecDepth 65536 in
set_option maxHeartbeats 40000000 in
theorem rm0 (l : Launch) (Z : State) (a0 : Array Value) (hw : ∀ d ∈ tables_1, d.before a0 Z = true) (ws : List Jvm.Cond) (p0 p1 : Int32) (h0 : Heap) (n0 : Nat) (Z0 : n0 ≤ h0.size)  :
    MetFree l x (head1 (Jvm.Cond.code x code maxLocals ret :: ws) room_1) (fun a U => a = #[(.int p0), (.int p1)] ∧ Z.Warmed39 U.vm ∧ U.heap = h0) (fun _ _ _ _ _ => True) (fun _ U o U' => ∃ v L, o = .returned v ∧ QV (some (.int 1)) (fun _ L => Fr n0 L) v U'.heap L ∧ FrameEnd U o U' L room_1.cells room_1.slots) := by
  refine MetFree.of_bodySF (plainFor_of_name pn_1) hisR ?_
  intro p e s m args below meth c s₁ Bd hml0 hP hK
  obtain ⟨rfl, hZ, hh⟩ := hP
  have hx := Bd.exec
  have hby := Bd.bytes
  have hml : c.maxLocals = 6 := hml0
  have hown : s.vm.findClass "com/example/treegraft/treegraft/xml/XmlCharsIsXmlCharPinLaw" = some m.cls := findClass_of_methodNamed Bd.named
  have hnm := (name_of_methodNamed Bd.named Bd.method).1
  have hlk : meth.locks = false := BodyLoose.notSynchronized Bd
  have X0 : Stand p l e room_1 s m #[(.int p0), (.int p1)] below meth c s₁ [] 0 0 := Stand.of_body Bd
  have e0 : s₁.heap = h0 := by rw [← hh, Bd.state]; rfl
  have N0 := Fr.nil n0
  refine Got.body (ef_0 m p0 p1) ?_
  refine Got.step (T' := s₁) (g' := (mkF m 2 #[.val (.int p0), .val (.int p1), .unset, .unset, .unset, .unset] [(.int (17 : Int32))])) (fun tq kt => ?_) ?_
  · show Steps p.tables e below (s₁.setTop (mkF m 0 #[.val (.int p0), .val (.int p1), .unset, .unset, .unset, .unset] [])) _
    refine XS.bipush X0.here hx rfl (hb hby at_0) ?_
    exact kt
  obtain ⟨T23, h23, k23, X23, e23, E23, A23, st23⟩ := newP X0 hx hZ (hw _ (List.mem_of_getElem? (i := 0) rfl)) e0 (g := (mkF m 2 #[.val (.int p0), .val (.int p1), .unset, .unset, .unset, .unset] [(.int (17 : Int32))])) rfl (hb hby at_2) rfl (by decide) (cap := 17) (by decide) (by decide) (by decide) (by decide)
  obtain ⟨b23, g23⟩ : ∃ z, z = h0.size := ⟨_, rfl⟩
  rw [← g23] at A23 st23
  have gn_b23 : n0 ≤ b23 := by rw [g23]; exact Z0
  have Z0_24 : n0 ≤ h23.size := (Nat.le_trans Z0 E23.1)
  have V23 : Arv Z h23 b23 k23 .int (17 : Int32) [(.int (0 : Int32)), (.int (0 : Int32)), (.int (0 : Int32)), (.int (0 : Int32)), (.int (0 : Int32)), (.int (0 : Int32)), (.int (0 : Int32)), (.int (0 : Int32)), (.int (0 : Int32)), (.int (0 : Int32)), (.int (0 : Int32)), (.int (0 : Int32)), (.int (0 : Int32)), (.int (0 : Int32)), (.int (0 : Int32)), (.int (0 : Int32)), (.int (0 : Int32))] (.int (0 : Int32)) := (Arv.new A23 (by decide)).pad (pad_rep [] (.int (0 : Int32)) 17)
  refine Got.step st23 ?_
  show Got p e below s _ _ _ _ T23 (mkF m 4 #[.val (.int p0), .val (.int p1), .unset, .unset, .unset, .unset] [(.ref b23)])
  refine Got.step (T' := T23) (g' := (mkF m 7 #[.val (.int p0), .val (.int p1), .unset, .unset, .unset, .unset] [(.int (0 : Int32)), (.int (0 : Int32)), (.ref b23), (.ref b23)])) (fun tq kt => ?_) ?_
  · show Steps p.tables e below (T23.setTop (mkF m 4 #[.val (.int p0), .val (.int p1), .unset, .unset, .unset, .unset] [(.ref b23)])) _
    refine XS.dup X23.here hx rfl (hb hby at_4) rfl rfl ?_
    show Steps p.tables e below (T23.setTop (mkF m 5 #[.val (.int p0), .val (.int p1), .unset, .unset, .unset, .unset] [(.ref b23), (.ref b23)])) _
    refine XS.iconst X23.here hx rfl (hb hby at_5) ?_
    show Steps p.tables e below (T23.setTop (mkF m 6 #[.val (.int p0), .val (.int p1), .unset, .unset, .unset, .unset] [(.int (0 : Int32)), (.ref b23), (.ref b23)])) _
    refine XS.iconst X23.here hx rfl (hb hby at_6) ?_
    exact kt
  obtain ⟨cl25, Ar25, q25, S25, M25, H25, G25⟩ := (id V23)
  have hin25 : ¬ ((0 : Int32) < 0 ∨ cl25.slots.size ≤ ((0 : Int32)).toNatClampNeg) := inb_of S25 ⟨by decide, by decide⟩
  obtain ⟨T25, h25, X25, e25, W25, st25⟩ := stI X23 hx hZ e23 Ar25 (j := (0 : Int32)) hin25 (g := (mkF m 7 #[.val (.int p0), .val (.int p1), .unset, .unset, .unset, .unset] [(.int (0 : Int32)), (.int (0 : Int32)), (.ref b23), (.ref b23)])) rfl rfl (hb hby at_7)
  have Z0_26 : n0 ≤ h25.size := (Nat.le_trans Z0_24 (Keep.of_wr W25).1)
  have V25 : Arv Z h25 b23 k23 .int (17 : Int32) [(.int (0 : Int32)), (.int (0 : Int32)), (.int (0 : Int32)), (.int (0 : Int32)), (.int (0 : Int32)), (.int (0 : Int32)), (.int (0 : Int32)), (.int (0 : Int32)), (.int (0 : Int32)), (.int (0 : Int32)), (.int (0 : Int32)), (.int (0 : Int32)), (.int (0 : Int32)), (.int (0 : Int32)), (.int (0 : Int32)), (.int (0 : Int32)), (.int (0 : Int32))] (.int (0 : Int32)) := Arv.set Ar25 q25 S25 M25 H25 G25 rfl W25 0 rfl (Nat.le_of_ble_eq_true rfl)
  have N25 := Fr.snoc X25 N0 gn_b23
  refine Got.step st25 ?_
  show Got p e below s _ _ _ _ T25 (mkF m 8 #[.val (.int p0), .val (.int p1), .unset, .unset, .unset, .unset] [(.ref b23)])
  refine Got.step (T' := T25) (g' := (mkF m 12 #[.val (.int p0), .val (.int p1), .unset, .unset, .unset, .unset] [(.int (9 : Int32)), (.int (1 : Int32)), (.ref b23), (.ref b23)])) (fun tq kt => ?_) ?_
  · show Steps p.tables e below (T25.setTop (mkF m 8 #[.val (.int p0), .val (.int p1), .unset, .unset, .unset, .unset] [(.ref b23)])) _
    refine XS.dup X25.here hx rfl (hb hby at_8) rfl rfl ?_
    show Steps p.tables e below (T25.setTop (mkF m 9 #[.val (.int p0), .val (.int p1), .unset, .unset, .unset, .unset] [(.ref b23), (.ref b23)])) _
    refine XS.iconst X25.here hx rfl (hb hby at_9) ?_
    show Steps p.tables e below (T25.setTop (mkF m 10 #[.val (.int p0), .val (.int p1), .unset, .unset, .unset, .unset] [(.int (1 : Int32)), (.ref b23), (.ref b23)])) _
    refine XS.bipush X25.here hx rfl (hb hby at_10) ?_
    exact kt
  obtain ⟨cl27, Ar27, q27, S27, M27, H27, G27⟩ := (id V25)
  have hin27 : ¬ ((1 : Int32) < 0 ∨ cl27.slots.size ≤ ((1 : Int32)).toNatClampNeg) := inb_of S27 ⟨by decide, by decide⟩
  obtain ⟨T27, h27, X27, e27, W27, st27⟩ := stI X25 hx hZ e25 Ar27 (j := (1 : Int32)) hin27 (g := (mkF m 12 #[.val (.int p0), .val (.int p1), .unset, .unset, .unset, .unset] [(.int (9 : Int32)), (.int (1 : Int32)), (.ref b23), (.ref b23)])) rfl rfl (hb hby at_12)
  have Z0_28 : n0 ≤ h27.size := (Nat.le_trans Z0_26 (Keep.of_wr W27).1)
  have V27 : Arv Z h27 b23 k23 .int (17 : Int32) [(.int (0 : Int32)), (.int (9 : Int32)), (.int (0 : Int32)), (.int (0 : Int32)), (.int (0 : Int32)), (.int (0 : Int32)), (.int (0 : Int32)), (.int (0 : Int32)), (.int (0 : Int32)), (.int (0 : Int32)), (.int (0 : Int32)), (.int (0 : Int32)), (.int (0 : Int32)), (.int (0 : Int32)), (.int (0 : Int32)), (.int (0 : Int32)), (.int (0 : Int32))] (.int (0 : Int32)) := Arv.set Ar27 q27 S27 M27 H27 G27 rfl W27 1 rfl (Nat.le_of_ble_eq_true rfl)
  have N27 := Fr.snoc X27 N25 gn_b23
  refine Got.step st27 ?_
  show Got p e below s _ _ _ _ T27 (mkF m 13 #[.val (.int p0), .val (.int p1), .unset, .unset, .unset, .unset] [(.ref b23)])
  refine Got.step (T' := T27) (g' := (mkF m 17 #[.val (.int p0), .val (.int p1), .unset, .unset, .unset, .unset] [(.int (10 : Int32)), (.int (2 : Int32)), (.ref b23), (.ref b23)])) (fun tq kt => ?_) ?_
  · show Steps p.tables e below (T27.setTop (mkF m 13 #[.val (.int p0), .val (.int p1), .unset, .unset, .unset, .unset] [(.ref b23)])) _
    refine XS.dup X27.here hx rfl (hb hby at_13) rfl rfl ?_
    show Steps p.tables e below (T27.setTop (mkF m 14 #[.val (.int p0), .val (.int p1), .unset, .unset, .unset, .unset] [(.ref b23), (.ref b23)])) _
    refine XS.iconst X27.here hx rfl (hb hby at_14) ?_
    show Steps p.tables e below (T27.setTop (mkF m 15 #[.val (.int p0), .val (.int p1), .unset, .unset, .unset, .unset] [(.int (2 : Int32)), (.ref b23), (.ref b23)])) _
    refine XS.bipush X27.here hx rfl (hb hby at_15) ?_
    exact kt
  obtain ⟨cl29, Ar29, q29, S29, M29, H29, G29⟩ := (id V27)
  have hin29 : ¬ ((2 : Int32) < 0 ∨ cl29.slots.size ≤ ((2 : Int32)).toNatClampNeg) := inb_of S29 ⟨by decide, by decide⟩
  obtain ⟨T29, h29, X29, e29, W29, st29⟩ := stI X27 hx hZ e27 Ar29 (j := (2 : Int32)) hin29 (g := (mkF m 17 #[.val (.int p0), .val (.int p1), .unset, .unset, .unset, .unset] [(.int (10 : Int32)), (.int (2 : Int32)), (.ref b23), (.ref b23)])) rfl rfl (hb hby at_17)
  have Z0_30 : n0 ≤ h29.size := (Nat.le_trans Z0_28 (Keep.of_wr W29).1)
  have V29 : Arv Z h29 b23 k23 .int (17 : Int32) [(.int (0 : Int32)), (.int (9 : Int32)), (.int (10 : Int32)), (.int (0 : Int32)), (.int (0 : Int32)), (.int (0 : Int32)), (.int (0 : Int32)), (.int (0 : Int32)), (.int (0 : Int32)), (.int (0 : Int32)), (.int (0 : Int32)), (.int (0 : Int32)), (.int (0 : Int32)), (.int (0 : Int32)), (.int (0 : Int32)), (.int (0 : Int32)), (.int (0 : Int32))] (.int (0 : Int32)) := Arv.set Ar29 q29 S29 M29 H29 G29 rfl W29 2 rfl (Nat.le_of_ble_eq_true rfl)
  have N29 := Fr.snoc X29 N27 gn_b23
  refine Got.step st29 ?_
  show Got p e below s _ _ _ _ T29 (mkF m 18 #[.val (.int p0), .val (.int p1), .unset, .unset, .unset, .unset] [(.ref b23)])
  refine Got.step (T' := T29) (g' := (mkF m 22 #[.val (.int p0), .val (.int p1), .unset, .unset, .unset, .unset] [(.int (13 : Int32)), (.int (3 : Int32)), (.ref b23), (.ref b23)])) (fun tq kt => ?_) ?_
  · show Steps p.tables e below (T29.setTop (mkF m 18 #[.val (.int p0), .val (.int p1), .unset, .unset, .unset, .unset] [(.ref b23)])) _
    refine XS.dup X29.here hx rfl (hb hby at_18) rfl rfl ?_
    show Steps p.tables e below (T29.setTop (mkF m 19 #[.val (.int p0), .val (.int p1), .unset, .unset, .unset, .unset] [(.ref b23), (.ref b23)])) _
    refine XS.iconst X29.here hx rfl (hb hby at_19) ?_
    show Steps p.tables e below (T29.setTop (mkF m 20 #[.val (.int p0), .val (.int p1), .unset, .unset, .unset, .unset] [(.int (3 : Int32)), (.ref b23), (.ref b23)])) _
    refine XS.bipush X29.here hx rfl (hb hby at_20) ?_
    exact kt
  obtain ⟨cl31, Ar31, q31, S31, M31, H31, G31⟩ := (id V29)
  have hin31 : ¬ ((3 : Int32) < 0 ∨ cl31.slots.size ≤ ((3 : Int32)).toNatClampNeg) := inb_of S31 ⟨by decide, by decide⟩
  obtain ⟨T31, h31, X31, e31, W31, st31⟩ := stI X29 hx hZ e29 Ar31 (j := (3 : Int32)) hin31 (g := (mkF m 22 #[.val (.int p0), .val (.int p1), .unset, .unset, .unset, .unset] [(.int (13 : Int32)), (.int (3 : Int32)), (.ref b23), (.ref b23)])) rfl rfl (hb hby at_22)
  have Z0_32 : n0 ≤ h31.size := (Nat.le_trans Z0_30 (Keep.of_wr W31).1)
  have V31 : Arv Z h31 b23 k23 .int (17 : Int32) [(.int (0 : Int32)), (.int (9 : Int32)), (.int (10 : Int32)), (.int (13 : Int32)), (.int (0 : Int32)), (.int (0 : Int32)), (.int (0 : Int32)), (.int (0 : Int32)), (.int (0 : Int32)), (.int (0 : Int32)), (.int (0 : Int32)), (.int (0 : Int32)), (.int (0 : Int32)), (.int (0 : Int32)), (.int (0 : Int32)), (.int (0 : Int32)), (.int (0 : Int32))] (.int (0 : Int32)) := Arv.set Ar31 q31 S31 M31 H31 G31 rfl W31 3 rfl (Nat.le_of_ble_eq_true rfl)
  have N31 := Fr.snoc X31 N29 gn_b23
  refine Got.step st31 ?_
  show Got p e below s _ _ _ _ T31 (mkF m 23 #[.val (.int p0), .val (.int p1), .unset, .unset, .unset, .unset] [(.ref b23)])
  refine Got.step (T' := T31) (g' := (mkF m 27 #[.val (.int p0), .val (.int p1), .unset, .unset, .unset, .unset] [(.int (31 : Int32)), (.int (4 : Int32)), (.ref b23), (.ref b23)])) (fun tq kt => ?_) ?_
  · show Steps p.tables e below (T31.setTop (mkF m 23 #[.val (.int p0), .val (.int p1), .unset, .unset, .unset, .unset] [(.ref b23)])) _
    refine XS.dup X31.here hx rfl (hb hby at_23) rfl rfl ?_
    show Steps p.tables e below (T31.setTop (mkF m 24 #[.val (.int p0), .val (.int p1), .unset, .unset, .unset, .unset] [(.ref b23), (.ref b23)])) _
    refine XS.iconst X31.here hx rfl (hb hby at_24) ?_
    show Steps p.tables e below (T31.setTop (mkF m 25 #[.val (.int p0), .val (.int p1), .unset, .unset, .unset, .unset] [(.int (4 : Int32)), (.ref b23), (.ref b23)])) _
    refine XS.bipush X31.here hx rfl (hb hby at_25) ?_
    exact kt
  obtain ⟨cl33, Ar33, q33, S33, M33, H33, G33⟩ := (id V31)
  have hin33 : ¬ ((4 : Int32) < 0 ∨ cl33.slots.size ≤ ((4 : Int32)).toNatClampNeg) := inb_of S33 ⟨by decide, by decide⟩
  obtain ⟨T33, h33, X33, e33, W33, st33⟩ := stI X31 hx hZ e31 Ar33 (j := (4 : Int32)) hin33 (g := (mkF m 27 #[.val (.int p0), .val (.int p1), .unset, .unset, .unset, .unset] [(.int (31 : Int32)), (.int (4 : Int32)), (.ref b23), (.ref b23)])) rfl rfl (hb hby at_27)
  have Z0_34 : n0 ≤ h33.size := (Nat.le_trans Z0_32 (Keep.of_wr W33).1)
  have V33 : Arv Z h33 b23 k23 .int (17 : Int32) [(.int (0 : Int32)), (.int (9 : Int32)), (.int (10 : Int32)), (.int (13 : Int32)), (.int (31 : Int32)), (.int (0 : Int32)), (.int (0 : Int32)), (.int (0 : Int32)), (.int (0 : Int32)), (.int (0 : Int32)), (.int (0 : Int32)), (.int (0 : Int32)), (.int (0 : Int32)), (.int (0 : Int32)), (.int (0 : Int32)), (.int (0 : Int32)), (.int (0 : Int32))] (.int (0 : Int32)) := Arv.set Ar33 q33 S33 M33 H33 G33 rfl W33 4 rfl (Nat.le_of_ble_eq_true rfl)
  have N33 := Fr.snoc X33 N31 gn_b23
  refine Got.step st33 ?_
  show Got p e below s _ _ _ _ T33 (mkF m 28 #[.val (.int p0), .val (.int p1), .unset, .unset, .unset, .unset] [(.ref b23)])
  refine Got.step (T' := T33) (g' := (mkF m 32 #[.val (.int p0), .val (.int p1), .unset, .unset, .unset, .unset] [(.int (32 : Int32)), (.int (5 : Int32)), (.ref b23), (.ref b23)])) (fun tq kt => ?_) ?_
  · show Steps p.tables e below (T33.setTop (mkF m 28 #[.val (.int p0), .val (.int p1), .unset, .unset, .unset, .unset] [(.ref b23)])) _
    refine XS.dup X33.here hx rfl (hb hby at_28) rfl rfl ?_
    show Steps p.tables e below (T33.setTop (mkF m 29 #[.val (.int p0), .val (.int p1), .unset, .unset, .unset, .unset] [(.ref b23), (.ref b23)])) _
    refine XS.iconst X33.here hx rfl (hb hby at_29) ?_
    show Steps p.tables e below (T33.setTop (mkF m 30 #[.val (.int p0), .val (.int p1), .unset, .unset, .unset, .unset] [(.int (5 : Int32)), (.ref b23), (.ref b23)])) _
    refine XS.bipush X33.here hx rfl (hb hby at_30) ?_
    exact kt
  obtain ⟨cl35, Ar35, q35, S35, M35, H35, G35⟩ := (id V33)
  have hin35 : ¬ ((5 : Int32) < 0 ∨ cl35.slots.size ≤ ((5 : Int32)).toNatClampNeg) := inb_of S35 ⟨by decide, by decide⟩
  obtain ⟨T35, h35, X35, e35, W35, st35⟩ := stI X33 hx hZ e33 Ar35 (j := (5 : Int32)) hin35 (g := (mkF m 32 #[.val (.int p0), .val (.int p1), .unset, .unset, .unset, .unset] [(.int (32 : Int32)), (.int (5 : Int32)), (.ref b23), (.ref b23)])) rfl rfl (hb hby at_32)
  have Z0_36 : n0 ≤ h35.size := (Nat.le_trans Z0_34 (Keep.of_wr W35).1)
  have V35 : Arv Z h35 b23 k23 .int (17 : Int32) [(.int (0 : Int32)), (.int (9 : Int32)), (.int (10 : Int32)), (.int (13 : Int32)), (.int (31 : Int32)), (.int (32 : Int32)), (.int (0 : Int32)), (.int (0 : Int32)), (.int (0 : Int32)), (.int (0 : Int32)), (.int (0 : Int32)), (.int (0 : Int32)), (.int (0 : Int32)), (.int (0 : Int32)), (.int (0 : Int32)), (.int (0 : Int32)), (.int (0 : Int32))] (.int (0 : Int32)) := Arv.set Ar35 q35 S35 M35 H35 G35 rfl W35 5 rfl (Nat.le_of_ble_eq_true rfl)
  have N35 := Fr.snoc X35 N33 gn_b23
  refine Got.step st35 ?_
  show Got p e below s _ _ _ _ T35 (mkF m 33 #[.val (.int p0), .val (.int p1), .unset, .unset, .unset, .unset] [(.ref b23)])
  refine Got.step (T' := T35) (g' := (mkF m 38 #[.val (.int p0), .val (.int p1), .unset, .unset, .unset, .unset] [(.int (55295 : Int32)), (.int (6 : Int32)), (.ref b23), (.ref b23)])) (fun tq kt => ?_) ?_
  · show Steps p.tables e below (T35.setTop (mkF m 33 #[.val (.int p0), .val (.int p1), .unset, .unset, .unset, .unset] [(.ref b23)])) _
    refine XS.dup X35.here hx rfl (hb hby at_33) rfl rfl ?_
    show Steps p.tables e below (T35.setTop (mkF m 34 #[.val (.int p0), .val (.int p1), .unset, .unset, .unset, .unset] [(.ref b23), (.ref b23)])) _
    refine XS.bipush X35.here hx rfl (hb hby at_34) ?_
    show Steps p.tables e below (T35.setTop (mkF m 36 #[.val (.int p0), .val (.int p1), .unset, .unset, .unset, .unset] [(.int (6 : Int32)), (.ref b23), (.ref b23)])) _
    refine X35.ldcI hx hown (mvT hZ (hw _ (List.mem_of_getElem? (i := 1) rfl))) rfl (hb hby at_36) ?_
    exact kt
  obtain ⟨cl37, Ar37, q37, S37, M37, H37, G37⟩ := (id V35)
  have hin37 : ¬ ((6 : Int32) < 0 ∨ cl37.slots.size ≤ ((6 : Int32)).toNatClampNeg) := inb_of S37 ⟨by decide, by decide⟩
  obtain ⟨T37, h37, X37, e37, W37, st37⟩ := stI X35 hx hZ e35 Ar37 (j := (6 : Int32)) hin37 (g := (mkF m 38 #[.val (.int p0), .val (.int p1), .unset, .unset, .unset, .unset] [(.int (55295 : Int32)), (.int (6 : Int32)), (.ref b23), (.ref b23)])) rfl rfl (hb hby at_38)
  have Z0_38 : n0 ≤ h37.size := (Nat.le_trans Z0_36 (Keep.of_wr W37).1)
  have V37 : Arv Z h37 b23 k23 .int (17 : Int32) [(.int (0 : Int32)), (.int (9 : Int32)), (.int (10 : Int32)), (.int (13 : Int32)), (.int (31 : Int32)), (.int (32 : Int32)), (.int (55295 : Int32)), (.int (0 : Int32)), (.int (0 : Int32)), (.int (0 : Int32)), (.int (0 : Int32)), (.int (0 : Int32)), (.int (0 : Int32)), (.int (0 : Int32)), (.int (0 : Int32)), (.int (0 : Int32)), (.int (0 : Int32))] (.int (0 : Int32)) := Arv.set Ar37 q37 S37 M37 H37 G37 rfl W37 6 rfl (Nat.le_of_ble_eq_true rfl)
  have N37 := Fr.snoc X37 N35 gn_b23
  refine Got.step st37 ?_
  show Got p e below s _ _ _ _ T37 (mkF m 39 #[.val (.int p0), .val (.int p1), .unset, .unset, .unset, .unset] [(.ref b23)])
  refine Got.step (T' := T37) (g' := (mkF m 44 #[.val (.int p0), .val (.int p1), .unset, .unset, .unset, .unset] [(.int (55296 : Int32)), (.int (7 : Int32)), (.ref b23), (.ref b23)])) (fun tq kt => ?_) ?_
  · show Steps p.tables e below (T37.setTop (mkF m 39 #[.val (.int p0), .val (.int p1), .unset, .unset, .unset, .unset] [(.ref b23)])) _
    refine XS.dup X37.here hx rfl (hb hby at_39) rfl rfl ?_
    show Steps p.tables e below (T37.setTop (mkF m 40 #[.val (.int p0), .val (.int p1), .unset, .unset, .unset, .unset] [(.ref b23), (.ref b23)])) _
    refine XS.bipush X37.here hx rfl (hb hby at_40) ?_
    show Steps p.tables e below (T37.setTop (mkF m 42 #[.val (.int p0), .val (.int p1), .unset, .unset, .unset, .unset] [(.int (7 : Int32)), (.ref b23), (.ref b23)])) _
    refine X37.ldcI hx hown (mvT hZ (hw _ (List.mem_of_getElem? (i := 2) rfl))) rfl (hb hby at_42) ?_
    exact kt
  obtain ⟨cl39, Ar39, q39, S39, M39, H39, G39⟩ := (id V37)
  have hin39 : ¬ ((7 : Int32) < 0 ∨ cl39.slots.size ≤ ((7 : Int32)).toNatClampNeg) := inb_of S39 ⟨by decide, by decide⟩
  obtain ⟨T39, h39, X39, e39, W39, st39⟩ := stI X37 hx hZ e37 Ar39 (j := (7 : Int32)) hin39 (g := (mkF m 44 #[.val (.int p0), .val (.int p1), .unset, .unset, .unset, .unset] [(.int (55296 : Int32)), (.int (7 : Int32)), (.ref b23), (.ref b23)])) rfl rfl (hb hby at_44)
  have Z0_40 : n0 ≤ h39.size := (Nat.le_trans Z0_38 (Keep.of_wr W39).1)
  have V39 : Arv Z h39 b23 k23 .int (17 : Int32) [(.int (0 : Int32)), (.int (9 : Int32)), (.int (10 : Int32)), (.int (13 : Int32)), (.int (31 : Int32)), (.int (32 : Int32)), (.int (55295 : Int32)), (.int (55296 : Int32)), (.int (0 : Int32)), (.int (0 : Int32)), (.int (0 : Int32)), (.int (0 : Int32)), (.int (0 : Int32)), (.int (0 : Int32)), (.int (0 : Int32)), (.int (0 : Int32)), (.int (0 : Int32))] (.int (0 : Int32)) := Arv.set Ar39 q39 S39 M39 H39 G39 rfl W39 7 rfl (Nat.le_of_ble_eq_true rfl)
  have N39 := Fr.snoc X39 N37 gn_b23
  refine Got.step st39 ?_
  show Got p e below s _ _ _ _ T39 (mkF m 45 #[.val (.int p0), .val (.int p1), .unset, .unset, .unset, .unset] [(.ref b23)])
  refine Got.step (T' := T39) (g' := (mkF m 50 #[.val (.int p0), .val (.int p1), .unset, .unset, .unset, .unset] [(.int (57343 : Int32)), (.int (8 : Int32)), (.ref b23), (.ref b23)])) (fun tq kt => ?_) ?_
  · show Steps p.tables e below (T39.setTop (mkF m 45 #[.val (.int p0), .val (.int p1), .unset, .unset, .unset, .unset] [(.ref b23)])) _
    refine XS.dup X39.here hx rfl (hb hby at_45) rfl rfl ?_
    show Steps p.tables e below (T39.setTop (mkF m 46 #[.val (.int p0), .val (.int p1), .unset, .unset, .unset, .unset] [(.ref b23), (.ref b23)])) _
    refine XS.bipush X39.here hx rfl (hb hby at_46) ?_
    show Steps p.tables e below (T39.setTop (mkF m 48 #[.val (.int p0), .val (.int p1), .unset, .unset, .unset, .unset] [(.int (8 : Int32)), (.ref b23), (.ref b23)])) _
    refine X39.ldcI hx hown (mvT hZ (hw _ (List.mem_of_getElem? (i := 3) rfl))) rfl (hb hby at_48) ?_
    exact kt
  obtain ⟨cl41, Ar41, q41, S41, M41, H41, G41⟩ := (id V39)
  have hin41 : ¬ ((8 : Int32) < 0 ∨ cl41.slots.size ≤ ((8 : Int32)).toNatClampNeg) := inb_of S41 ⟨by decide, by decide⟩
  obtain ⟨T41, h41, X41, e41, W41, st41⟩ := stI X39 hx hZ e39 Ar41 (j := (8 : Int32)) hin41 (g := (mkF m 50 #[.val (.int p0), .val (.int p1), .unset, .unset, .unset, .unset] [(.int (57343 : Int32)), (.int (8 : Int32)), (.ref b23), (.ref b23)])) rfl rfl (hb hby at_50)
  have Z0_42 : n0 ≤ h41.size := (Nat.le_trans Z0_40 (Keep.of_wr W41).1)
  have V41 : Arv Z h41 b23 k23 .int (17 : Int32) [(.int (0 : Int32)), (.int (9 : Int32)), (.int (10 : Int32)), (.int (13 : Int32)), (.int (31 : Int32)), (.int (32 : Int32)), (.int (55295 : Int32)), (.int (55296 : Int32)), (.int (57343 : Int32)), (.int (0 : Int32)), (.int (0 : Int32)), (.int (0 : Int32)), (.int (0 : Int32)), (.int (0 : Int32)), (.int (0 : Int32)), (.int (0 : Int32)), (.int (0 : Int32))] (.int (0 : Int32)) := Arv.set Ar41 q41 S41 M41 H41 G41 rfl W41 8 rfl (Nat.le_of_ble_eq_true rfl)
  have N41 := Fr.snoc X41 N39 gn_b23
  refine Got.step st41 ?_
  show Got p e below s _ _ _ _ T41 (mkF m 51 #[.val (.int p0), .val (.int p1), .unset, .unset, .unset, .unset] [(.ref b23)])
  refine Got.step (T' := T41) (g' := (mkF m 56 #[.val (.int p0), .val (.int p1), .unset, .unset, .unset, .unset] [(.int (57344 : Int32)), (.int (9 : Int32)), (.ref b23), (.ref b23)])) (fun tq kt => ?_) ?_
  · show Steps p.tables e below (T41.setTop (mkF m 51 #[.val (.int p0), .val (.int p1), .unset, .unset, .unset, .unset] [(.ref b23)])) _
    refine XS.dup X41.here hx rfl (hb hby at_51) rfl rfl ?_
    show Steps p.tables e below (T41.setTop (mkF m 52 #[.val (.int p0), .val (.int p1), .unset, .unset, .unset, .unset] [(.ref b23), (.ref b23)])) _
    refine XS.bipush X41.here hx rfl (hb hby at_52) ?_
    show Steps p.tables e below (T41.setTop (mkF m 54 #[.val (.int p0), .val (.int p1), .unset, .unset, .unset, .unset] [(.int (9 : Int32)), (.ref b23), (.ref b23)])) _
    refine X41.ldcI hx hown (mvT hZ (hw _ (List.mem_of_getElem? (i := 4) rfl))) rfl (hb hby at_54) ?_
    exact kt
  obtain ⟨cl43, Ar43, q43, S43, M43, H43, G43⟩ := (id V41)
  have hin43 : ¬ ((9 : Int32) < 0 ∨ cl43.slots.size ≤ ((9 : Int32)).toNatClampNeg) := inb_of S43 ⟨by decide, by decide⟩
  obtain ⟨T43, h43, X43, e43, W43, st43⟩ := stI X41 hx hZ e41 Ar43 (j := (9 : Int32)) hin43 (g := (mkF m 56 #[.val (.int p0), .val (.int p1), .unset, .unset, .unset, .unset] [(.int (57344 : Int32)), (.int (9 : Int32)), (.ref b23), (.ref b23)])) rfl rfl (hb hby at_56)
  have Z0_44 : n0 ≤ h43.size := (Nat.le_trans Z0_42 (Keep.of_wr W43).1)
  have V43 : Arv Z h43 b23 k23 .int (17 : Int32) [(.int (0 : Int32)), (.int (9 : Int32)), (.int (10 : Int32)), (.int (13 : Int32)), (.int (31 : Int32)), (.int (32 : Int32)), (.int (55295 : Int32)), (.int (55296 : Int32)), (.int (57343 : Int32)), (.int (57344 : Int32)), (.int (0 : Int32)), (.int (0 : Int32)), (.int (0 : Int32)), (.int (0 : Int32)), (.int (0 : Int32)), (.int (0 : Int32)), (.int (0 : Int32))] (.int (0 : Int32)) := Arv.set Ar43 q43 S43 M43 H43 G43 rfl W43 9 rfl (Nat.le_of_ble_eq_true rfl)
  have N43 := Fr.snoc X43 N41 gn_b23
  refine Got.step st43 ?_
  show Got p e below s _ _ _ _ T43 (mkF m 57 #[.val (.int p0), .val (.int p1), .unset, .unset, .unset, .unset] [(.ref b23)])
  refine Got.step (T' := T43) (g' := (mkF m 62 #[.val (.int p0), .val (.int p1), .unset, .unset, .unset, .unset] [(.int (65533 : Int32)), (.int (10 : Int32)), (.ref b23), (.ref b23)])) (fun tq kt => ?_) ?_
  · show Steps p.tables e below (T43.setTop (mkF m 57 #[.val (.int p0), .val (.int p1), .unset, .unset, .unset, .unset] [(.ref b23)])) _
    refine XS.dup X43.here hx rfl (hb hby at_57) rfl rfl ?_
    show Steps p.tables e below (T43.setTop (mkF m 58 #[.val (.int p0), .val (.int p1), .unset, .unset, .unset, .unset] [(.ref b23), (.ref b23)])) _
    refine XS.bipush X43.here hx rfl (hb hby at_58) ?_
    show Steps p.tables e below (T43.setTop (mkF m 60 #[.val (.int p0), .val (.int p1), .unset, .unset, .unset, .unset] [(.int (10 : Int32)), (.ref b23), (.ref b23)])) _
    refine X43.ldcI hx hown (mvT hZ (hw _ (List.mem_of_getElem? (i := 5) rfl))) rfl (hb hby at_60) ?_
    exact kt
  obtain ⟨cl45, Ar45, q45, S45, M45, H45, G45⟩ := (id V43)
  have hin45 : ¬ ((10 : Int32) < 0 ∨ cl45.slots.size ≤ ((10 : Int32)).toNatClampNeg) := inb_of S45 ⟨by decide, by decide⟩
  obtain ⟨T45, h45, X45, e45, W45, st45⟩ := stI X43 hx hZ e43 Ar45 (j := (10 : Int32)) hin45 (g := (mkF m 62 #[.val (.int p0), .val (.int p1), .unset, .unset, .unset, .unset] [(.int (65533 : Int32)), (.int (10 : Int32)), (.ref b23), (.ref b23)])) rfl rfl (hb hby at_62)
  have Z0_46 : n0 ≤ h45.size := (Nat.le_trans Z0_44 (Keep.of_wr W45).1)
  have V45 : Arv Z h45 b23 k23 .int (17 : Int32) [(.int (0 : Int32)), (.int (9 : Int32)), (.int (10 : Int32)), (.int (13 : Int32)), (.int (31 : Int32)), (.int (32 : Int32)), (.int (55295 : Int32)), (.int (55296 : Int32)), (.int (57343 : Int32)), (.int (57344 : Int32)), (.int (65533 : Int32)), (.int (0 : Int32)), (.int (0 : Int32)), (.int (0 : Int32)), (.int (0 : Int32)), (.int (0 : Int32)), (.int (0 : Int32))] (.int (0 : Int32)) := Arv.set Ar45 q45 S45 M45 H45 G45 rfl W45 10 rfl (Nat.le_of_ble_eq_true rfl)
  have N45 := Fr.snoc X45 N43 gn_b23
  refine Got.step st45 ?_
  show Got p e below s _ _ _ _ T45 (mkF m 63 #[.val (.int p0), .val (.int p1), .unset, .unset, .unset, .unset] [(.ref b23)])
  refine Got.step (T' := T45) (g' := (mkF m 68 #[.val (.int p0), .val (.int p1), .unset, .unset, .unset, .unset] [(.int (65535 : Int32)), (.int (11 : Int32)), (.ref b23), (.ref b23)])) (fun tq kt => ?_) ?_
  · show Steps p.tables e below (T45.setTop (mkF m 63 #[.val (.int p0), .val (.int p1), .unset, .unset, .unset, .unset] [(.ref b23)])) _
    refine XS.dup X45.here hx rfl (hb hby at_63) rfl rfl ?_
    show Steps p.tables e below (T45.setTop (mkF m 64 #[.val (.int p0), .val (.int p1), .unset, .unset, .unset, .unset] [(.ref b23), (.ref b23)])) _
    refine XS.bipush X45.here hx rfl (hb hby at_64) ?_
    show Steps p.tables e below (T45.setTop (mkF m 66 #[.val (.int p0), .val (.int p1), .unset, .unset, .unset, .unset] [(.int (11 : Int32)), (.ref b23), (.ref b23)])) _
    refine X45.ldcI hx hown (mvT hZ (hw _ (List.mem_of_getElem? (i := 6) rfl))) rfl (hb hby at_66) ?_
    exact kt
  obtain ⟨cl47, Ar47, q47, S47, M47, H47, G47⟩ := (id V45)
  have hin47 : ¬ ((11 : Int32) < 0 ∨ cl47.slots.size ≤ ((11 : Int32)).toNatClampNeg) := inb_of S47 ⟨by decide, by decide⟩
  obtain ⟨T47, h47, X47, e47, W47, st47⟩ := stI X45 hx hZ e45 Ar47 (j := (11 : Int32)) hin47 (g := (mkF m 68 #[.val (.int p0), .val (.int p1), .unset, .unset, .unset, .unset] [(.int (65535 : Int32)), (.int (11 : Int32)), (.ref b23), (.ref b23)])) rfl rfl (hb hby at_68)
  have Z0_48 : n0 ≤ h47.size := (Nat.le_trans Z0_46 (Keep.of_wr W47).1)
  have V47 : Arv Z h47 b23 k23 .int (17 : Int32) [(.int (0 : Int32)), (.int (9 : Int32)), (.int (10 : Int32)), (.int (13 : Int32)), (.int (31 : Int32)), (.int (32 : Int32)), (.int (55295 : Int32)), (.int (55296 : Int32)), (.int (57343 : Int32)), (.int (57344 : Int32)), (.int (65533 : Int32)), (.int (65535 : Int32)), (.int (0 : Int32)), (.int (0 : Int32)), (.int (0 : Int32)), (.int (0 : Int32)), (.int (0 : Int32))] (.int (0 : Int32)) := Arv.set Ar47 q47 S47 M47 H47 G47 rfl W47 11 rfl (Nat.le_of_ble_eq_true rfl)
  have N47 := Fr.snoc X47 N45 gn_b23
  refine Got.step st47 ?_
  show Got p e below s _ _ _ _ T47 (mkF m 69 #[.val (.int p0), .val (.int p1), .unset, .unset, .unset, .unset] [(.ref b23)])
  refine Got.step (T' := T47) (g' := (mkF m 74 #[.val (.int p0), .val (.int p1), .unset, .unset, .unset, .unset] [(.int (65536 : Int32)), (.int (12 : Int32)), (.ref b23), (.ref b23)])) (fun tq kt => ?_) ?_
  · show Steps p.tables e below (T47.setTop (mkF m 69 #[.val (.int p0), .val (.int p1), .unset, .unset, .unset, .unset] [(.ref b23)])) _
    refine XS.dup X47.here hx rfl (hb hby at_69) rfl rfl ?_
    show Steps p.tables e below (T47.setTop (mkF m 70 #[.val (.int p0), .val (.int p1), .unset, .unset, .unset, .unset] [(.ref b23), (.ref b23)])) _
    refine XS.bipush X47.here hx rfl (hb hby at_70) ?_
    show Steps p.tables e below (T47.setTop (mkF m 72 #[.val (.int p0), .val (.int p1), .unset, .unset, .unset, .unset] [(.int (12 : Int32)), (.ref b23), (.ref b23)])) _
    refine X47.ldcI hx hown (mvT hZ (hw _ (List.mem_of_getElem? (i := 7) rfl))) rfl (hb hby at_72) ?_
    exact kt
  obtain ⟨cl49, Ar49, q49, S49, M49, H49, G49⟩ := (id V47)
  have hin49 : ¬ ((12 : Int32) < 0 ∨ cl49.slots.size ≤ ((12 : Int32)).toNatClampNeg) := inb_of S49 ⟨by decide, by decide⟩
  obtain ⟨T49, h49, X49, e49, W49, st49⟩ := stI X47 hx hZ e47 Ar49 (j := (12 : Int32)) hin49 (g := (mkF m 74 #[.val (.int p0), .val (.int p1), .unset, .unset, .unset, .unset] [(.int (65536 : Int32)), (.int (12 : Int32)), (.ref b23), (.ref b23)])) rfl rfl (hb hby at_74)
  have Z0_50 : n0 ≤ h49.size := (Nat.le_trans Z0_48 (Keep.of_wr W49).1)
  have V49 : Arv Z h49 b23 k23 .int (17 : Int32) [(.int (0 : Int32)), (.int (9 : Int32)), (.int (10 : Int32)), (.int (13 : Int32)), (.int (31 : Int32)), (.int (32 : Int32)), (.int (55295 : Int32)), (.int (55296 : Int32)), (.int (57343 : Int32)), (.int (57344 : Int32)), (.int (65533 : Int32)), (.int (65535 : Int32)), (.int (65536 : Int32)), (.int (0 : Int32)), (.int (0 : Int32)), (.int (0 : Int32)), (.int (0 : Int32))] (.int (0 : Int32)) := Arv.set Ar49 q49 S49 M49 H49 G49 rfl W49 12 rfl (Nat.le_of_ble_eq_true rfl)
  have N49 := Fr.snoc X49 N47 gn_b23
  refine Got.step st49 ?_
  show Got p e below s _ _ _ _ T49 (mkF m 75 #[.val (.int p0), .val (.int p1), .unset, .unset, .unset, .unset] [(.ref b23)])
  refine Got.step (T' := T49) (g' := (mkF m 80 #[.val (.int p0), .val (.int p1), .unset, .unset, .unset, .unset] [(.int (1114111 : Int32)), (.int (13 : Int32)), (.ref b23), (.ref b23)])) (fun tq kt => ?_) ?_
  · show Steps p.tables e below (T49.setTop (mkF m 75 #[.val (.int p0), .val (.int p1), .unset, .unset, .unset, .unset] [(.ref b23)])) _
    refine XS.dup X49.here hx rfl (hb hby at_75) rfl rfl ?_
    show Steps p.tables e below (T49.setTop (mkF m 76 #[.val (.int p0), .val (.int p1), .unset, .unset, .unset, .unset] [(.ref b23), (.ref b23)])) _
    refine XS.bipush X49.here hx rfl (hb hby at_76) ?_
    show Steps p.tables e below (T49.setTop (mkF m 78 #[.val (.int p0), .val (.int p1), .unset, .unset, .unset, .unset] [(.int (13 : Int32)), (.ref b23), (.ref b23)])) _
    refine X49.ldcI hx hown (mvT hZ (hw _ (List.mem_of_getElem? (i := 8) rfl))) rfl (hb hby at_78) ?_
    exact kt
  obtain ⟨cl51, Ar51, q51, S51, M51, H51, G51⟩ := (id V49)
  have hin51 : ¬ ((13 : Int32) < 0 ∨ cl51.slots.size ≤ ((13 : Int32)).toNatClampNeg) := inb_of S51 ⟨by decide, by decide⟩
  obtain ⟨T51, h51, X51, e51, W51, st51⟩ := stI X49 hx hZ e49 Ar51 (j := (13 : Int32)) hin51 (g := (mkF m 80 #[.val (.int p0), .val (.int p1), .unset, .unset, .unset, .unset] [(.int (1114111 : Int32)), (.int (13 : Int32)), (.ref b23), (.ref b23)])) rfl rfl (hb hby at_80)
  have Z0_52 : n0 ≤ h51.size := (Nat.le_trans Z0_50 (Keep.of_wr W51).1)
  have V51 : Arv Z h51 b23 k23 .int (17 : Int32) [(.int (0 : Int32)), (.int (9 : Int32)), (.int (10 : Int32)), (.int (13 : Int32)), (.int (31 : Int32)), (.int (32 : Int32)), (.int (55295 : Int32)), (.int (55296 : Int32)), (.int (57343 : Int32)), (.int (57344 : Int32)), (.int (65533 : Int32)), (.int (65535 : Int32)), (.int (65536 : Int32)), (.int (1114111 : Int32)), (.int (0 : Int32)), (.int (0 : Int32)), (.int (0 : Int32))] (.int (0 : Int32)) := Arv.set Ar51 q51 S51 M51 H51 G51 rfl W51 13 rfl (Nat.le_of_ble_eq_true rfl)
  have N51 := Fr.snoc X51 N49 gn_b23
  refine Got.step st51 ?_
  show Got p e below s _ _ _ _ T51 (mkF m 81 #[.val (.int p0), .val (.int p1), .unset, .unset, .unset, .unset] [(.ref b23)])
  refine Got.step (T' := T51) (g' := (mkF m 86 #[.val (.int p0), .val (.int p1), .unset, .unset, .unset, .unset] [(.int (1114112 : Int32)), (.int (14 : Int32)), (.ref b23), (.ref b23)])) (fun tq kt => ?_) ?_
  · show Steps p.tables e below (T51.setTop (mkF m 81 #[.val (.int p0), .val (.int p1), .unset, .unset, .unset, .unset] [(.ref b23)])) _
    refine XS.dup X51.here hx rfl (hb hby at_81) rfl rfl ?_
    show Steps p.tables e below (T51.setTop (mkF m 82 #[.val (.int p0), .val (.int p1), .unset, .unset, .unset, .unset] [(.ref b23), (.ref b23)])) _
    refine XS.bipush X51.here hx rfl (hb hby at_82) ?_
    show Steps p.tables e below (T51.setTop (mkF m 84 #[.val (.int p0), .val (.int p1), .unset, .unset, .unset, .unset] [(.int (14 : Int32)), (.ref b23), (.ref b23)])) _
    refine X51.ldcI hx hown (mvT hZ (hw _ (List.mem_of_getElem? (i := 9) rfl))) rfl (hb hby at_84) ?_
    exact kt
  obtain ⟨cl53, Ar53, q53, S53, M53, H53, G53⟩ := (id V51)
  have hin53 : ¬ ((14 : Int32) < 0 ∨ cl53.slots.size ≤ ((14 : Int32)).toNatClampNeg) := inb_of S53 ⟨by decide, by decide⟩
  obtain ⟨T53, h53, X53, e53, W53, st53⟩ := stI X51 hx hZ e51 Ar53 (j := (14 : Int32)) hin53 (g := (mkF m 86 #[.val (.int p0), .val (.int p1), .unset, .unset, .unset, .unset] [(.int (1114112 : Int32)), (.int (14 : Int32)), (.ref b23), (.ref b23)])) rfl rfl (hb hby at_86)
  have Z0_54 : n0 ≤ h53.size := (Nat.le_trans Z0_52 (Keep.of_wr W53).1)
  have V53 : Arv Z h53 b23 k23 .int (17 : Int32) [(.int (0 : Int32)), (.int (9 : Int32)), (.int (10 : Int32)), (.int (13 : Int32)), (.int (31 : Int32)), (.int (32 : Int32)), (.int (55295 : Int32)), (.int (55296 : Int32)), (.int (57343 : Int32)), (.int (57344 : Int32)), (.int (65533 : Int32)), (.int (65535 : Int32)), (.int (65536 : Int32)), (.int (1114111 : Int32)), (.int (1114112 : Int32)), (.int (0 : Int32)), (.int (0 : Int32))] (.int (0 : Int32)) := Arv.set Ar53 q53 S53 M53 H53 G53 rfl W53 14 rfl (Nat.le_of_ble_eq_true rfl)
  have N53 := Fr.snoc X53 N51 gn_b23
  refine Got.step st53 ?_
  show Got p e below s _ _ _ _ T53 (mkF m 87 #[.val (.int p0), .val (.int p1), .unset, .unset, .unset, .unset] [(.ref b23)])
  refine Got.step (T' := T53) (g' := (mkF m 92 #[.val (.int p0), .val (.int p1), .unset, .unset, .unset, .unset] [(.int (-2147483648 : Int32)), (.int (15 : Int32)), (.ref b23), (.ref b23)])) (fun tq kt => ?_) ?_
  · show Steps p.tables e below (T53.setTop (mkF m 87 #[.val (.int p0), .val (.int p1), .unset, .unset, .unset, .unset] [(.ref b23)])) _
    refine XS.dup X53.here hx rfl (hb hby at_87) rfl rfl ?_
    show Steps p.tables e below (T53.setTop (mkF m 88 #[.val (.int p0), .val (.int p1), .unset, .unset, .unset, .unset] [(.ref b23), (.ref b23)])) _
    refine XS.bipush X53.here hx rfl (hb hby at_88) ?_
    show Steps p.tables e below (T53.setTop (mkF m 90 #[.val (.int p0), .val (.int p1), .unset, .unset, .unset, .unset] [(.int (15 : Int32)), (.ref b23), (.ref b23)])) _
    refine X53.ldcI hx hown (mvT hZ (hw _ (List.mem_of_getElem? (i := 10) rfl))) rfl (hb hby at_90) ?_
    exact kt
  obtain ⟨cl55, Ar55, q55, S55, M55, H55, G55⟩ := (id V53)
  have hin55 : ¬ ((15 : Int32) < 0 ∨ cl55.slots.size ≤ ((15 : Int32)).toNatClampNeg) := inb_of S55 ⟨by decide, by decide⟩
  obtain ⟨T55, h55, X55, e55, W55, st55⟩ := stI X53 hx hZ e53 Ar55 (j := (15 : Int32)) hin55 (g := (mkF m 92 #[.val (.int p0), .val (.int p1), .unset, .unset, .unset, .unset] [(.int (-2147483648 : Int32)), (.int (15 : Int32)), (.ref b23), (.ref b23)])) rfl rfl (hb hby at_92)
  have Z0_56 : n0 ≤ h55.size := (Nat.le_trans Z0_54 (Keep.of_wr W55).1)
  have V55 : Arv Z h55 b23 k23 .int (17 : Int32) [(.int (0 : Int32)), (.int (9 : Int32)), (.int (10 : Int32)), (.int (13 : Int32)), (.int (31 : Int32)), (.int (32 : Int32)), (.int (55295 : Int32)), (.int (55296 : Int32)), (.int (57343 : Int32)), (.int (57344 : Int32)), (.int (65533 : Int32)), (.int (65535 : Int32)), (.int (65536 : Int32)), (.int (1114111 : Int32)), (.int (1114112 : Int32)), (.int (-2147483648 : Int32)), (.int (0 : Int32))] (.int (0 : Int32)) := Arv.set Ar55 q55 S55 M55 H55 G55 rfl W55 15 rfl (Nat.le_of_ble_eq_true rfl)
  have N55 := Fr.snoc X55 N53 gn_b23
  refine Got.step st55 ?_
  show Got p e below s _ _ _ _ T55 (mkF m 93 #[.val (.int p0), .val (.int p1), .unset, .unset, .unset, .unset] [(.ref b23)])
  refine Got.step (T' := T55) (g' := (mkF m 98 #[.val (.int p0), .val (.int p1), .unset, .unset, .unset, .unset] [(.int (2147483647 : Int32)), (.int (16 : Int32)), (.ref b23), (.ref b23)])) (fun tq kt => ?_) ?_
  · show Steps p.tables e below (T55.setTop (mkF m 93 #[.val (.int p0), .val (.int p1), .unset, .unset, .unset, .unset] [(.ref b23)])) _
    refine XS.dup X55.here hx rfl (hb hby at_93) rfl rfl ?_
    show Steps p.tables e below (T55.setTop (mkF m 94 #[.val (.int p0), .val (.int p1), .unset, .unset, .unset, .unset] [(.ref b23), (.ref b23)])) _
    refine XS.bipush X55.here hx rfl (hb hby at_94) ?_
    show Steps p.tables e below (T55.setTop (mkF m 96 #[.val (.int p0), .val (.int p1), .unset, .unset, .unset, .unset] [(.int (16 : Int32)), (.ref b23), (.ref b23)])) _
    refine X55.ldcI hx hown (mvT hZ (hw _ (List.mem_of_getElem? (i := 11) rfl))) rfl (hb hby at_96) ?_
    exact kt
  obtain ⟨cl57, Ar57, q57, S57, M57, H57, G57⟩ := (id V55)
  have hin57 : ¬ ((16 : Int32) < 0 ∨ cl57.slots.size ≤ ((16 : Int32)).toNatClampNeg) := inb_of S57 ⟨by decide, by decide⟩
  obtain ⟨T57, h57, X57, e57, W57, st57⟩ := stI X55 hx hZ e55 Ar57 (j := (16 : Int32)) hin57 (g := (mkF m 98 #[.val (.int p0), .val (.int p1), .unset, .unset, .unset, .unset] [(.int (2147483647 : Int32)), (.int (16 : Int32)), (.ref b23), (.ref b23)])) rfl rfl (hb hby at_98)
  have Z0_58 : n0 ≤ h57.size := (Nat.le_trans Z0_56 (Keep.of_wr W57).1)
  have V57 : Arv Z h57 b23 k23 .int (17 : Int32) [(.int (0 : Int32)), (.int (9 : Int32)), (.int (10 : Int32)), (.int (13 : Int32)), (.int (31 : Int32)), (.int (32 : Int32)), (.int (55295 : Int32)), (.int (55296 : Int32)), (.int (57343 : Int32)), (.int (57344 : Int32)), (.int (65533 : Int32)), (.int (65535 : Int32)), (.int (65536 : Int32)), (.int (1114111 : Int32)), (.int (1114112 : Int32)), (.int (-2147483648 : Int32)), (.int (2147483647 : Int32))] (.int (0 : Int32)) := Arv.set Ar57 q57 S57 M57 H57 G57 rfl W57 16 rfl (Nat.le_of_ble_eq_true rfl)
  have N57 := Fr.snoc X57 N55 gn_b23
  refine Got.step st57 ?_
  show Got p e below s _ _ _ _ T57 (mkF m 99 #[.val (.int p0), .val (.int p1), .unset, .unset, .unset, .unset] [(.ref b23)])
  refine Got.step (T' := T57) (g' := (mkF m 105 #[.val (.int p0), .val (.int p1), .val (.ref b23), .unset, .unset, .unset] [(.ref b23), (.int (p1 &&& (2147483647 : Int32)))])) (fun tq kt => ?_) ?_
  · show Steps p.tables e below (T57.setTop (mkF m 99 #[.val (.int p0), .val (.int p1), .unset, .unset, .unset, .unset] [(.ref b23)])) _
    refine XS.astoreN X57.here hx rfl (hb hby at_99) rfl rfl (l' := #[.val (.int p0), .val (.int p1), .val (.ref b23), .unset, .unset, .unset]) rfl ?_
    show Steps p.tables e below (T57.setTop (mkF m 100 #[.val (.int p0), .val (.int p1), .val (.ref b23), .unset, .unset, .unset] [])) _
    refine XS.iloadN X57.here hx rfl (hb hby at_100) rfl ?_
    show Steps p.tables e below (T57.setTop (mkF m 101 #[.val (.int p0), .val (.int p1), .val (.ref b23), .unset, .unset, .unset] [(.int p1)])) _
    refine X57.ldcI hx hown (mvT hZ (hw _ (List.mem_of_getElem? (i := 11) rfl))) rfl (hb hby at_101) ?_
    show Steps p.tables e below (T57.setTop (mkF m 103 #[.val (.int p0), .val (.int p1), .val (.ref b23), .unset, .unset, .unset] [(.int (2147483647 : Int32)), (.int p1)])) _
    refine XS.iand X57.here hx rfl (hb hby at_103) rfl ?_
    show Steps p.tables e below (T57.setTop (mkF m 104 #[.val (.int p0), .val (.int p1), .val (.ref b23), .unset, .unset, .unset] [(.int (p1 &&& (2147483647 : Int32)))])) _
    refine XS.aloadN X57.here hx rfl (hb hby at_104) rfl rfl ?_
    exact kt
  obtain ⟨cl59, Ar59, q59, S59, M59, H59, G59⟩ := (id V57)
  refine Got.step (T' := T57) (fun tq kt => X57.arraylength hx (cell := cl59) (by rw [e57]; exact Ar59.1) (State.isArrayOf_alike hZ.alike Ar59.2.1) (g := (mkF m 105 #[.val (.int p0), .val (.int p1), .val (.ref b23), .unset, .unset, .unset] [(.ref b23), (.int (p1 &&& (2147483647 : Int32)))])) rfl (rest := [(.int (p1 &&& (2147483647 : Int32)))]) rfl (hb hby at_105) tq kt) ?_
  rw [len_of S59 M59]
  show Got p e below s _ _ _ _ T57 (mkF m 106 #[.val (.int p0), .val (.int p1), .val (.ref b23), .unset, .unset, .unset] [(.int (17 : Int32)), (.int (p1 &&& (2147483647 : Int32)))])
  refine Got.step (T' := T57) (g' := (mkF m 120 #[.val (.int p0), .val (.int p1), .val (.ref b23), .val (.int ((p1 &&& (2147483647 : Int32)) % (17 : Int32))), .val (.int ((((p1.toUInt32 >>> ((28 : Int32) &&& 31).toUInt32).toInt32) % (3 : Int32)) - (1 : Int32))), .unset] [(.int ((p1 &&& (2147483647 : Int32)) % (17 : Int32))), (.ref b23)])) (fun tq kt => ?_) ?_
  · show Steps p.tables e below (T57.setTop (mkF m 106 #[.val (.int p0), .val (.int p1), .val (.ref b23), .unset, .unset, .unset] [(.int (17 : Int32)), (.int (p1 &&& (2147483647 : Int32)))])) _
    refine iremM X57 hx rfl (hb hby at_106) rfl (by decide) ?_
    show Steps p.tables e below (T57.setTop (mkF m 107 #[.val (.int p0), .val (.int p1), .val (.ref b23), .unset, .unset, .unset] [(.int ((p1 &&& (2147483647 : Int32)) % (17 : Int32)))])) _
    refine XS.istoreN X57.here hx rfl (hb hby at_107) rfl (l' := #[.val (.int p0), .val (.int p1), .val (.ref b23), .val (.int ((p1 &&& (2147483647 : Int32)) % (17 : Int32))), .unset, .unset]) rfl ?_
    show Steps p.tables e below (T57.setTop (mkF m 108 #[.val (.int p0), .val (.int p1), .val (.ref b23), .val (.int ((p1 &&& (2147483647 : Int32)) % (17 : Int32))), .unset, .unset] [])) _
    refine XS.iloadN X57.here hx rfl (hb hby at_108) rfl ?_
    show Steps p.tables e below (T57.setTop (mkF m 109 #[.val (.int p0), .val (.int p1), .val (.ref b23), .val (.int ((p1 &&& (2147483647 : Int32)) % (17 : Int32))), .unset, .unset] [(.int p1)])) _
    refine XS.bipush X57.here hx rfl (hb hby at_109) ?_
    show Steps p.tables e below (T57.setTop (mkF m 111 #[.val (.int p0), .val (.int p1), .val (.ref b23), .val (.int ((p1 &&& (2147483647 : Int32)) % (17 : Int32))), .unset, .unset] [(.int (28 : Int32)), (.int p1)])) _
    refine XS.iushr X57.here hx rfl (hb hby at_111) rfl ?_
    show Steps p.tables e below (T57.setTop (mkF m 112 #[.val (.int p0), .val (.int p1), .val (.ref b23), .val (.int ((p1 &&& (2147483647 : Int32)) % (17 : Int32))), .unset, .unset] [(.int ((p1.toUInt32 >>> ((28 : Int32) &&& 31).toUInt32).toInt32))])) _
    refine XS.iconst X57.here hx rfl (hb hby at_112) ?_
    show Steps p.tables e below (T57.setTop (mkF m 113 #[.val (.int p0), .val (.int p1), .val (.ref b23), .val (.int ((p1 &&& (2147483647 : Int32)) % (17 : Int32))), .unset, .unset] [(.int (3 : Int32)), (.int ((p1.toUInt32 >>> ((28 : Int32) &&& 31).toUInt32).toInt32))])) _
    refine iremM X57 hx rfl (hb hby at_113) rfl (by decide) ?_
    show Steps p.tables e below (T57.setTop (mkF m 114 #[.val (.int p0), .val (.int p1), .val (.ref b23), .val (.int ((p1 &&& (2147483647 : Int32)) % (17 : Int32))), .unset, .unset] [(.int (((p1.toUInt32 >>> ((28 : Int32) &&& 31).toUInt32).toInt32) % (3 : Int32)))])) _
    refine XS.iconst X57.here hx rfl (hb hby at_114) ?_
    show Steps p.tables e below (T57.setTop (mkF m 115 #[.val (.int p0), .val (.int p1), .val (.ref b23), .val (.int ((p1 &&& (2147483647 : Int32)) % (17 : Int32))), .unset, .unset] [(.int (1 : Int32)), (.int (((p1.toUInt32 >>> ((28 : Int32) &&& 31).toUInt32).toInt32) % (3 : Int32)))])) _
    refine XS.isub X57.here hx rfl (hb hby at_115) rfl ?_
    show Steps p.tables e below (T57.setTop (mkF m 116 #[.val (.int p0), .val (.int p1), .val (.ref b23), .val (.int ((p1 &&& (2147483647 : Int32)) % (17 : Int32))), .unset, .unset] [(.int ((((p1.toUInt32 >>> ((28 : Int32) &&& 31).toUInt32).toInt32) % (3 : Int32)) - (1 : Int32)))])) _
    refine XS.istore X57.here hx rfl (hb hby at_116) rfl (l' := #[.val (.int p0), .val (.int p1), .val (.ref b23), .val (.int ((p1 &&& (2147483647 : Int32)) % (17 : Int32))), .val (.int ((((p1.toUInt32 >>> ((28 : Int32) &&& 31).toUInt32).toInt32) % (3 : Int32)) - (1 : Int32))), .unset]) rfl ?_
    show Steps p.tables e below (T57.setTop (mkF m 118 #[.val (.int p0), .val (.int p1), .val (.ref b23), .val (.int ((p1 &&& (2147483647 : Int32)) % (17 : Int32))), .val (.int ((((p1.toUInt32 >>> ((28 : Int32) &&& 31).toUInt32).toInt32) % (3 : Int32)) - (1 : Int32))), .unset] [])) _
    refine XS.aloadN X57.here hx rfl (hb hby at_118) rfl rfl ?_
    show Steps p.tables e below (T57.setTop (mkF m 119 #[.val (.int p0), .val (.int p1), .val (.ref b23), .val (.int ((p1 &&& (2147483647 : Int32)) % (17 : Int32))), .val (.int ((((p1.toUInt32 >>> ((28 : Int32) &&& 31).toUInt32).toInt32) % (3 : Int32)) - (1 : Int32))), .unset] [(.ref b23)])) _
    refine XS.iloadN X57.here hx rfl (hb hby at_119) rfl ?_
    exact kt
  obtain ⟨cl60, Ar60, q60, S60, M60, H60, G60⟩ := (id V57)
  have hin60 : ¬ (((p1 &&& (2147483647 : Int32)) % (17 : Int32)) < 0 ∨ cl60.slots.size ≤ (((p1 &&& (2147483647 : Int32)) % (17 : Int32))).toNatClampNeg) := inb_of S60 (own_idx p1 17 17 rfl (by decide))
  obtain ⟨x60, hx60⟩ := fit_I (G60 _ (Nat.lt_of_not_le fun y => hin60 (Or.inr y))) (by simp)
  refine Got.step (T' := T57) (fun tq kt => X57.iaload hx (j := ((p1 &&& (2147483647 : Int32)) % (17 : Int32))) (v := (.int x60)) (by rw [e57]; exact Ar60.1) (State.isArrayOf_alike hZ.alike Ar60.2.1) Ar60.2.2 hin60 (H60.at hin60 hx60) (g := (mkF m 120 #[.val (.int p0), .val (.int p1), .val (.ref b23), .val (.int ((p1 &&& (2147483647 : Int32)) % (17 : Int32))), .val (.int ((((p1.toUInt32 >>> ((28 : Int32) &&& 31).toUInt32).toInt32) % (3 : Int32)) - (1 : Int32))), .unset] [(.int ((p1 &&& (2147483647 : Int32)) % (17 : Int32))), (.ref b23)])) rfl rfl (hb hby at_120) tq kt) ?_
  show Got p e below s _ _ _ _ T57 (mkF m 121 #[.val (.int p0), .val (.int p1), .val (.ref b23), .val (.int ((p1 &&& (2147483647 : Int32)) % (17 : Int32))), .val (.int ((((p1.toUInt32 >>> ((28 : Int32) &&& 31).toUInt32).toInt32) % (3 : Int32)) - (1 : Int32))), .unset] [(.int x60)])
  refine Got.step (T' := T57) (g' := (mkF m 127 #[.val (.int p0), .val (.int p1), .val (.ref b23), .val (.int ((p1 &&& (2147483647 : Int32)) % (17 : Int32))), .val (.int ((((p1.toUInt32 >>> ((28 : Int32) &&& 31).toUInt32).toInt32) % (3 : Int32)) - (1 : Int32))), .val (.int (x60 + ((((p1.toUInt32 >>> ((28 : Int32) &&& 31).toUInt32).toInt32) % (3 : Int32)) - (1 : Int32))))] [(.int p0)])) (fun tq kt => ?_) ?_
  · show Steps p.tables e below (T57.setTop (mkF m 121 #[.val (.int p0), .val (.int p1), .val (.ref b23), .val (.int ((p1 &&& (2147483647 : Int32)) % (17 : Int32))), .val (.int ((((p1.toUInt32 >>> ((28 : Int32) &&& 31).toUInt32).toInt32) % (3 : Int32)) - (1 : Int32))), .unset] [(.int x60)])) _
    refine XS.iload X57.here hx rfl (hb hby at_121) rfl ?_
    show Steps p.tables e below (T57.setTop (mkF m 123 #[.val (.int p0), .val (.int p1), .val (.ref b23), .val (.int ((p1 &&& (2147483647 : Int32)) % (17 : Int32))), .val (.int ((((p1.toUInt32 >>> ((28 : Int32) &&& 31).toUInt32).toInt32) % (3 : Int32)) - (1 : Int32))), .unset] [(.int ((((p1.toUInt32 >>> ((28 : Int32) &&& 31).toUInt32).toInt32) % (3 : Int32)) - (1 : Int32))), (.int x60)])) _
    refine XS.iadd X57.here hx rfl (hb hby at_123) rfl ?_
    show Steps p.tables e below (T57.setTop (mkF m 124 #[.val (.int p0), .val (.int p1), .val (.ref b23), .val (.int ((p1 &&& (2147483647 : Int32)) % (17 : Int32))), .val (.int ((((p1.toUInt32 >>> ((28 : Int32) &&& 31).toUInt32).toInt32) % (3 : Int32)) - (1 : Int32))), .unset] [(.int (x60 + ((((p1.toUInt32 >>> ((28 : Int32) &&& 31).toUInt32).toInt32) % (3 : Int32)) - (1 : Int32))))])) _
    refine XS.istore X57.here hx rfl (hb hby at_124) rfl (l' := #[.val (.int p0), .val (.int p1), .val (.ref b23), .val (.int ((p1 &&& (2147483647 : Int32)) % (17 : Int32))), .val (.int ((((p1.toUInt32 >>> ((28 : Int32) &&& 31).toUInt32).toInt32) % (3 : Int32)) - (1 : Int32))), .val (.int (x60 + ((((p1.toUInt32 >>> ((28 : Int32) &&& 31).toUInt32).toInt32) % (3 : Int32)) - (1 : Int32))))]) rfl ?_
    show Steps p.tables e below (T57.setTop (mkF m 126 #[.val (.int p0), .val (.int p1), .val (.ref b23), .val (.int ((p1 &&& (2147483647 : Int32)) % (17 : Int32))), .val (.int ((((p1.toUInt32 >>> ((28 : Int32) &&& 31).toUInt32).toInt32) % (3 : Int32)) - (1 : Int32))), .val (.int (x60 + ((((p1.toUInt32 >>> ((28 : Int32) &&& 31).toUInt32).toInt32) % (3 : Int32)) - (1 : Int32))))] [])) _
    refine XS.iloadN X57.here hx rfl (hb hby at_126) rfl ?_
    exact kt
  obtain ⟨_, _, ⟨T61, L61, k61, n61⟩, -, X61, ⟨Lc61, hQ61, l61, y61, z61⟩, st61⟩ := Jvm.LawKit.callS X57 hx (y := (⟨"com/example/treegraft/treegraft/xml/XmlCharsIsXmlCharPinLaw", "agrees", "(I)Z"⟩ : MethodName)) hown (mvT hZ (hw _ (List.mem_of_getElem? (i := 12) rfl))) (mvT hZ (hw _ (List.mem_of_getElem? (i := 13) rfl))) (mvT hZ (hw _ (List.mem_of_getElem? (i := 14) rfl))) (mvT hZ (hw _ (List.mem_of_getElem? (i := 15) rfl))) (by decide) (backOf (W := 0) (rm1 l Z a0 hw [] p0 h57 n0 Z0_58) hZ (hw _ (List.mem_of_getElem? (i := 15) rfl)) (hw _ (List.mem_of_getElem? (i := 14) rfl)) (by decide) (by decide)) (g := (mkF m 127 #[.val (.int p0), .val (.int p1), .val (.ref b23), .val (.int ((p1 &&& (2147483647 : Int32)) % (17 : Int32))), .val (.int ((((p1.toUInt32 >>> ((28 : Int32) &&& 31).toUInt32).toInt32) % (3 : Int32)) - (1 : Int32))), .val (.int (x60 + ((((p1.toUInt32 >>> ((28 : Int32) &&& 31).toUInt32).toInt32) % (3 : Int32)) - (1 : Int32))))] [(.int p0)])) rfl (by rw [hml]; rfl) (argsL := [(.int p0)]) (rest := []) (lenOf pd_0 rfl) rfl (by show 2 * 0 + _ ≤ _; exact Nat.le_of_eq rfl) (hb hby at_127) (fun _ _ => ⟨rfl, e57, (by decide : 1 + 0 ≤ _), (by decide : 17 + 0 ≤ _)⟩)
  dsimp only [Pt.U, Pt.locs, Pt.cells, Pt.slots] at X61 l61 y61 z61 st61 hQ61
  subst l61 y61 z61
  obtain ⟨rfl, Nq61, e61⟩ := hQ61
  have N61 := Fr.app N57 Nq61
  refine Got.step st61 ?_
  show Got p e below s _ _ _ _ T61 (mkF m 130 #[.val (.int p0), .val (.int p1), .val (.ref b23), .val (.int ((p1 &&& (2147483647 : Int32)) % (17 : Int32))), .val (.int ((((p1.toUInt32 >>> ((28 : Int32) &&& 31).toUInt32).toInt32) % (3 : Int32)) - (1 : Int32))), .val (.int (x60 + ((((p1.toUInt32 >>> ((28 : Int32) &&& 31).toUInt32).toInt32) % (3 : Int32)) - (1 : Int32))))] [(.int (f1 p0))])
  refine Got.step (T' := T61) (g' := (mkF m 137 #[.val (.int p0), .val (.int p1), .val (.ref b23), .val (.int ((p1 &&& (2147483647 : Int32)) % (17 : Int32))), .val (.int ((((p1.toUInt32 >>> ((28 : Int32) &&& 31).toUInt32).toInt32) % (3 : Int32)) - (1 : Int32))), .val (.int (x60 + ((((p1.toUInt32 >>> ((28 : Int32) &&& 31).toUInt32).toInt32) % (3 : Int32)) - (1 : Int32))))] [(.int (p0 &&& (2097151 : Int32)))])) (fun tq kt => ?_) ?_
  · show Steps p.tables e below (T61.setTop (mkF m 130 #[.val (.int p0), .val (.int p1), .val (.ref b23), .val (.int ((p1 &&& (2147483647 : Int32)) % (17 : Int32))), .val (.int ((((p1.toUInt32 >>> ((28 : Int32) &&& 31).toUInt32).toInt32) % (3 : Int32)) - (1 : Int32))), .val (.int (x60 + ((((p1.toUInt32 >>> ((28 : Int32) &&& 31).toUInt32).toInt32) % (3 : Int32)) - (1 : Int32))))] [(.int (f1 p0))])) _
    refine XS.ifNo X61.here hx rfl (hb hby at_130) rfl (XT.i0_eq_f (agrees_ne _)) ?_
    show Steps p.tables e below (T61.setTop (mkF m 133 #[.val (.int p0), .val (.int p1), .val (.ref b23), .val (.int ((p1 &&& (2147483647 : Int32)) % (17 : Int32))), .val (.int ((((p1.toUInt32 >>> ((28 : Int32) &&& 31).toUInt32).toInt32) % (3 : Int32)) - (1 : Int32))), .val (.int (x60 + ((((p1.toUInt32 >>> ((28 : Int32) &&& 31).toUInt32).toInt32) % (3 : Int32)) - (1 : Int32))))] [])) _
    refine XS.iloadN X61.here hx rfl (hb hby at_133) rfl ?_
    show Steps p.tables e below (T61.setTop (mkF m 134 #[.val (.int p0), .val (.int p1), .val (.ref b23), .val (.int ((p1 &&& (2147483647 : Int32)) % (17 : Int32))), .val (.int ((((p1.toUInt32 >>> ((28 : Int32) &&& 31).toUInt32).toInt32) % (3 : Int32)) - (1 : Int32))), .val (.int (x60 + ((((p1.toUInt32 >>> ((28 : Int32) &&& 31).toUInt32).toInt32) % (3 : Int32)) - (1 : Int32))))] [(.int p0)])) _
    refine X61.ldcI hx hown (mvT hZ (hw _ (List.mem_of_getElem? (i := 25) rfl))) rfl (hb hby at_134) ?_
    show Steps p.tables e below (T61.setTop (mkF m 136 #[.val (.int p0), .val (.int p1), .val (.ref b23), .val (.int ((p1 &&& (2147483647 : Int32)) % (17 : Int32))), .val (.int ((((p1.toUInt32 >>> ((28 : Int32) &&& 31).toUInt32).toInt32) % (3 : Int32)) - (1 : Int32))), .val (.int (x60 + ((((p1.toUInt32 >>> ((28 : Int32) &&& 31).toUInt32).toInt32) % (3 : Int32)) - (1 : Int32))))] [(.int (2097151 : Int32)), (.int p0)])) _
    refine XS.iand X61.here hx rfl (hb hby at_136) rfl ?_
    exact kt
  obtain ⟨_, _, ⟨T62, L62, k62, n62⟩, -, X62, ⟨Lc62, hQ62, l62, y62, z62⟩, st62⟩ := Jvm.LawKit.callS X61 hx (y := (⟨"com/example/treegraft/treegraft/xml/XmlCharsIsXmlCharPinLaw", "agrees", "(I)Z"⟩ : MethodName)) hown (mvT hZ (hw _ (List.mem_of_getElem? (i := 12) rfl))) (mvT hZ (hw _ (List.mem_of_getElem? (i := 13) rfl))) (mvT hZ (hw _ (List.mem_of_getElem? (i := 14) rfl))) (mvT hZ (hw _ (List.mem_of_getElem? (i := 15) rfl))) (by decide) (backOf (W := 0) (rm1 l Z a0 hw [] (p0 &&& (2097151 : Int32)) h57 n0 Z0_58) hZ (hw _ (List.mem_of_getElem? (i := 15) rfl)) (hw _ (List.mem_of_getElem? (i := 14) rfl)) (by decide) (by decide)) (g := (mkF m 137 #[.val (.int p0), .val (.int p1), .val (.ref b23), .val (.int ((p1 &&& (2147483647 : Int32)) % (17 : Int32))), .val (.int ((((p1.toUInt32 >>> ((28 : Int32) &&& 31).toUInt32).toInt32) % (3 : Int32)) - (1 : Int32))), .val (.int (x60 + ((((p1.toUInt32 >>> ((28 : Int32) &&& 31).toUInt32).toInt32) % (3 : Int32)) - (1 : Int32))))] [(.int (p0 &&& (2097151 : Int32)))])) rfl (by rw [hml]; rfl) (argsL := [(.int (p0 &&& (2097151 : Int32)))]) (rest := []) (lenOf pd_0 rfl) rfl (by show 2 * 0 + _ ≤ _; exact Nat.le_of_eq rfl) (hb hby at_137) (fun _ _ => ⟨rfl, e61, (by decide : 1 + 0 ≤ _), (by decide : 17 + 0 ≤ _)⟩)
  dsimp only [Pt.U, Pt.locs, Pt.cells, Pt.slots] at X62 l62 y62 z62 st62 hQ62
  subst l62 y62 z62
  obtain ⟨rfl, Nq62, e62⟩ := hQ62
  have N62 := Fr.app N61 Nq62
  refine Got.step st62 ?_
  show Got p e below s _ _ _ _ T62 (mkF m 140 #[.val (.int p0), .val (.int p1), .val (.ref b23), .val (.int ((p1 &&& (2147483647 : Int32)) % (17 : Int32))), .val (.int ((((p1.toUInt32 >>> ((28 : Int32) &&& 31).toUInt32).toInt32) % (3 : Int32)) - (1 : Int32))), .val (.int (x60 + ((((p1.toUInt32 >>> ((28 : Int32) &&& 31).toUInt32).toInt32) % (3 : Int32)) - (1 : Int32))))] [(.int (f1 (p0 &&& (2097151 : Int32))))])
  refine Got.step (T' := T62) (g' := (mkF m 147 #[.val (.int p0), .val (.int p1), .val (.ref b23), .val (.int ((p1 &&& (2147483647 : Int32)) % (17 : Int32))), .val (.int ((((p1.toUInt32 >>> ((28 : Int32) &&& 31).toUInt32).toInt32) % (3 : Int32)) - (1 : Int32))), .val (.int (x60 + ((((p1.toUInt32 >>> ((28 : Int32) &&& 31).toUInt32).toInt32) % (3 : Int32)) - (1 : Int32))))] [(.int (p0 &&& (63 : Int32)))])) (fun tq kt => ?_) ?_
  · show Steps p.tables e below (T62.setTop (mkF m 140 #[.val (.int p0), .val (.int p1), .val (.ref b23), .val (.int ((p1 &&& (2147483647 : Int32)) % (17 : Int32))), .val (.int ((((p1.toUInt32 >>> ((28 : Int32) &&& 31).toUInt32).toInt32) % (3 : Int32)) - (1 : Int32))), .val (.int (x60 + ((((p1.toUInt32 >>> ((28 : Int32) &&& 31).toUInt32).toInt32) % (3 : Int32)) - (1 : Int32))))] [(.int (f1 (p0 &&& (2097151 : Int32))))])) _
    refine XS.ifNo X62.here hx rfl (hb hby at_140) rfl (XT.i0_eq_f (agrees_ne _)) ?_
    show Steps p.tables e below (T62.setTop (mkF m 143 #[.val (.int p0), .val (.int p1), .val (.ref b23), .val (.int ((p1 &&& (2147483647 : Int32)) % (17 : Int32))), .val (.int ((((p1.toUInt32 >>> ((28 : Int32) &&& 31).toUInt32).toInt32) % (3 : Int32)) - (1 : Int32))), .val (.int (x60 + ((((p1.toUInt32 >>> ((28 : Int32) &&& 31).toUInt32).toInt32) % (3 : Int32)) - (1 : Int32))))] [])) _
    refine XS.iloadN X62.here hx rfl (hb hby at_143) rfl ?_
    show Steps p.tables e below (T62.setTop (mkF m 144 #[.val (.int p0), .val (.int p1), .val (.ref b23), .val (.int ((p1 &&& (2147483647 : Int32)) % (17 : Int32))), .val (.int ((((p1.toUInt32 >>> ((28 : Int32) &&& 31).toUInt32).toInt32) % (3 : Int32)) - (1 : Int32))), .val (.int (x60 + ((((p1.toUInt32 >>> ((28 : Int32) &&& 31).toUInt32).toInt32) % (3 : Int32)) - (1 : Int32))))] [(.int p0)])) _
    refine XS.bipush X62.here hx rfl (hb hby at_144) ?_
    show Steps p.tables e below (T62.setTop (mkF m 146 #[.val (.int p0), .val (.int p1), .val (.ref b23), .val (.int ((p1 &&& (2147483647 : Int32)) % (17 : Int32))), .val (.int ((((p1.toUInt32 >>> ((28 : Int32) &&& 31).toUInt32).toInt32) % (3 : Int32)) - (1 : Int32))), .val (.int (x60 + ((((p1.toUInt32 >>> ((28 : Int32) &&& 31).toUInt32).toInt32) % (3 : Int32)) - (1 : Int32))))] [(.int (63 : Int32)), (.int p0)])) _
    refine XS.iand X62.here hx rfl (hb hby at_146) rfl ?_
    exact kt
  obtain ⟨_, _, ⟨T63, L63, k63, n63⟩, -, X63, ⟨Lc63, hQ63, l63, y63, z63⟩, st63⟩ := Jvm.LawKit.callS X62 hx (y := (⟨"com/example/treegraft/treegraft/xml/XmlCharsIsXmlCharPinLaw", "agrees", "(I)Z"⟩ : MethodName)) hown (mvT hZ (hw _ (List.mem_of_getElem? (i := 12) rfl))) (mvT hZ (hw _ (List.mem_of_getElem? (i := 13) rfl))) (mvT hZ (hw _ (List.mem_of_getElem? (i := 14) rfl))) (mvT hZ (hw _ (List.mem_of_getElem? (i := 15) rfl))) (by decide) (backOf (W := 0) (rm1 l Z a0 hw [] (p0 &&& (63 : Int32)) h57 n0 Z0_58) hZ (hw _ (List.mem_of_getElem? (i := 15) rfl)) (hw _ (List.mem_of_getElem? (i := 14) rfl)) (by decide) (by decide)) (g := (mkF m 147 #[.val (.int p0), .val (.int p1), .val (.ref b23), .val (.int ((p1 &&& (2147483647 : Int32)) % (17 : Int32))), .val (.int ((((p1.toUInt32 >>> ((28 : Int32) &&& 31).toUInt32).toInt32) % (3 : Int32)) - (1 : Int32))), .val (.int (x60 + ((((p1.toUInt32 >>> ((28 : Int32) &&& 31).toUInt32).toInt32) % (3 : Int32)) - (1 : Int32))))] [(.int (p0 &&& (63 : Int32)))])) rfl (by rw [hml]; rfl) (argsL := [(.int (p0 &&& (63 : Int32)))]) (rest := []) (lenOf pd_0 rfl) rfl (by show 2 * 0 + _ ≤ _; exact Nat.le_of_eq rfl) (hb hby at_147) (fun _ _ => ⟨rfl, e62, (by decide : 1 + 0 ≤ _), (by decide : 17 + 0 ≤ _)⟩)
  dsimp only [Pt.U, Pt.locs, Pt.cells, Pt.slots] at X63 l63 y63 z63 st63 hQ63
  subst l63 y63 z63
  obtain ⟨rfl, Nq63, e63⟩ := hQ63
  have N63 := Fr.app N62 Nq63
  refine Got.step st63 ?_
  show Got p e below s _ _ _ _ T63 (mkF m 150 #[.val (.int p0), .val (.int p1), .val (.ref b23), .val (.int ((p1 &&& (2147483647 : Int32)) % (17 : Int32))), .val (.int ((((p1.toUInt32 >>> ((28 : Int32) &&& 31).toUInt32).toInt32) % (3 : Int32)) - (1 : Int32))), .val (.int (x60 + ((((p1.toUInt32 >>> ((28 : Int32) &&& 31).toUInt32).toInt32) % (3 : Int32)) - (1 : Int32))))] [(.int (f1 (p0 &&& (63 : Int32))))])
  refine Got.step (T' := T63) (g' := (mkF m 155 #[.val (.int p0), .val (.int p1), .val (.ref b23), .val (.int ((p1 &&& (2147483647 : Int32)) % (17 : Int32))), .val (.int ((((p1.toUInt32 >>> ((28 : Int32) &&& 31).toUInt32).toInt32) % (3 : Int32)) - (1 : Int32))), .val (.int (x60 + ((((p1.toUInt32 >>> ((28 : Int32) &&& 31).toUInt32).toInt32) % (3 : Int32)) - (1 : Int32))))] [(.int (x60 + ((((p1.toUInt32 >>> ((28 : Int32) &&& 31).toUInt32).toInt32) % (3 : Int32)) - (1 : Int32))))])) (fun tq kt => ?_) ?_
  · show Steps p.tables e below (T63.setTop (mkF m 150 #[.val (.int p0), .val (.int p1), .val (.ref b23), .val (.int ((p1 &&& (2147483647 : Int32)) % (17 : Int32))), .val (.int ((((p1.toUInt32 >>> ((28 : Int32) &&& 31).toUInt32).toInt32) % (3 : Int32)) - (1 : Int32))), .val (.int (x60 + ((((p1.toUInt32 >>> ((28 : Int32) &&& 31).toUInt32).toInt32) % (3 : Int32)) - (1 : Int32))))] [(.int (f1 (p0 &&& (63 : Int32))))])) _
    refine XS.ifNo X63.here hx rfl (hb hby at_150) rfl (XT.i0_eq_f (agrees_ne _)) ?_
    show Steps p.tables e below (T63.setTop (mkF m 153 #[.val (.int p0), .val (.int p1), .val (.ref b23), .val (.int ((p1 &&& (2147483647 : Int32)) % (17 : Int32))), .val (.int ((((p1.toUInt32 >>> ((28 : Int32) &&& 31).toUInt32).toInt32) % (3 : Int32)) - (1 : Int32))), .val (.int (x60 + ((((p1.toUInt32 >>> ((28 : Int32) &&& 31).toUInt32).toInt32) % (3 : Int32)) - (1 : Int32))))] [])) _
    refine XS.iload X63.here hx rfl (hb hby at_153) rfl ?_
    exact kt
  obtain ⟨_, _, ⟨T64, L64, k64, n64⟩, -, X64, ⟨Lc64, hQ64, l64, y64, z64⟩, st64⟩ := Jvm.LawKit.callS X63 hx (y := (⟨"com/example/treegraft/treegraft/xml/XmlCharsIsXmlCharPinLaw", "agrees", "(I)Z"⟩ : MethodName)) hown (mvT hZ (hw _ (List.mem_of_getElem? (i := 12) rfl))) (mvT hZ (hw _ (List.mem_of_getElem? (i := 13) rfl))) (mvT hZ (hw _ (List.mem_of_getElem? (i := 14) rfl))) (mvT hZ (hw _ (List.mem_of_getElem? (i := 15) rfl))) (by decide) (backOf (W := 0) (rm1 l Z a0 hw [] (x60 + ((((p1.toUInt32 >>> ((28 : Int32) &&& 31).toUInt32).toInt32) % (3 : Int32)) - (1 : Int32))) h57 n0 Z0_58) hZ (hw _ (List.mem_of_getElem? (i := 15) rfl)) (hw _ (List.mem_of_getElem? (i := 14) rfl)) (by decide) (by decide)) (g := (mkF m 155 #[.val (.int p0), .val (.int p1), .val (.ref b23), .val (.int ((p1 &&& (2147483647 : Int32)) % (17 : Int32))), .val (.int ((((p1.toUInt32 >>> ((28 : Int32) &&& 31).toUInt32).toInt32) % (3 : Int32)) - (1 : Int32))), .val (.int (x60 + ((((p1.toUInt32 >>> ((28 : Int32) &&& 31).toUInt32).toInt32) % (3 : Int32)) - (1 : Int32))))] [(.int (x60 + ((((p1.toUInt32 >>> ((28 : Int32) &&& 31).toUInt32).toInt32) % (3 : Int32)) - (1 : Int32))))])) rfl (by rw [hml]; rfl) (argsL := [(.int (x60 + ((((p1.toUInt32 >>> ((28 : Int32) &&& 31).toUInt32).toInt32) % (3 : Int32)) - (1 : Int32))))]) (rest := []) (lenOf pd_0 rfl) rfl (by show 2 * 0 + _ ≤ _; exact Nat.le_of_eq rfl) (hb hby at_155) (fun _ _ => ⟨rfl, e63, (by decide : 1 + 0 ≤ _), (by decide : 17 + 0 ≤ _)⟩)
  dsimp only [Pt.U, Pt.locs, Pt.cells, Pt.slots] at X64 l64 y64 z64 st64 hQ64
  subst l64 y64 z64
  obtain ⟨rfl, Nq64, e64⟩ := hQ64
  have N64 := Fr.app N63 Nq64
  refine Got.step st64 ?_
  show Got p e below s _ _ _ _ T64 (mkF m 158 #[.val (.int p0), .val (.int p1), .val (.ref b23), .val (.int ((p1 &&& (2147483647 : Int32)) % (17 : Int32))), .val (.int ((((p1.toUInt32 >>> ((28 : Int32) &&& 31).toUInt32).toInt32) % (3 : Int32)) - (1 : Int32))), .val (.int (x60 + ((((p1.toUInt32 >>> ((28 : Int32) &&& 31).toUInt32).toInt32) % (3 : Int32)) - (1 : Int32))))] [(.int (f1 (x60 + ((((p1.toUInt32 >>> ((28 : Int32) &&& 31).toUInt32).toInt32) % (3 : Int32)) - (1 : Int32)))))])
  refine Got.step (T' := T64) (g' := (mkF m 166 #[.val (.int p0), .val (.int p1), .val (.ref b23), .val (.int ((p1 &&& (2147483647 : Int32)) % (17 : Int32))), .val (.int ((((p1.toUInt32 >>> ((28 : Int32) &&& 31).toUInt32).toInt32) % (3 : Int32)) - (1 : Int32))), .val (.int (x60 + ((((p1.toUInt32 >>> ((28 : Int32) &&& 31).toUInt32).toInt32) % (3 : Int32)) - (1 : Int32))))] [(.int (1 : Int32))])) (fun tq kt => ?_) ?_
  · show Steps p.tables e below (T64.setTop (mkF m 158 #[.val (.int p0), .val (.int p1), .val (.ref b23), .val (.int ((p1 &&& (2147483647 : Int32)) % (17 : Int32))), .val (.int ((((p1.toUInt32 >>> ((28 : Int32) &&& 31).toUInt32).toInt32) % (3 : Int32)) - (1 : Int32))), .val (.int (x60 + ((((p1.toUInt32 >>> ((28 : Int32) &&& 31).toUInt32).toInt32) % (3 : Int32)) - (1 : Int32))))] [(.int (f1 (x60 + ((((p1.toUInt32 >>> ((28 : Int32) &&& 31).toUInt32).toInt32) % (3 : Int32)) - (1 : Int32)))))])) _
    refine XS.ifNo X64.here hx rfl (hb hby at_158) rfl (XT.i0_eq_f (agrees_ne _)) ?_
    show Steps p.tables e below (T64.setTop (mkF m 161 #[.val (.int p0), .val (.int p1), .val (.ref b23), .val (.int ((p1 &&& (2147483647 : Int32)) % (17 : Int32))), .val (.int ((((p1.toUInt32 >>> ((28 : Int32) &&& 31).toUInt32).toInt32) % (3 : Int32)) - (1 : Int32))), .val (.int (x60 + ((((p1.toUInt32 >>> ((28 : Int32) &&& 31).toUInt32).toInt32) % (3 : Int32)) - (1 : Int32))))] [])) _
    refine XS.iconst X64.here hx rfl (hb hby at_161) ?_
    show Steps p.tables e below (T64.setTop (mkF m 162 #[.val (.int p0), .val (.int p1), .val (.ref b23), .val (.int ((p1 &&& (2147483647 : Int32)) % (17 : Int32))), .val (.int ((((p1.toUInt32 >>> ((28 : Int32) &&& 31).toUInt32).toInt32) % (3 : Int32)) - (1 : Int32))), .val (.int (x60 + ((((p1.toUInt32 >>> ((28 : Int32) &&& 31).toUInt32).toInt32) % (3 : Int32)) - (1 : Int32))))] [(.int (1 : Int32))])) _
    refine XS.goto X64.here hx rfl (pc0 := 162) (pc' := 166) rfl (hb hby at_162) (by decide) (by decide) ?_
    exact kt
  exact Got.retN (y := (1 : Int32)) (t := .boolean) X64 hx Bd.returns (by simp) hlk (hb hby at_166) (by decide) N64 (by decide) (by decide)
set_option maxRecDepth 65536 in
set_option maxHeartbeats 40000000 in
theorem comes_1 {Post : Tables → Env → Array Value → State → Outcome → State → Prop} (hpost : ∀ tb e args s v u, (limb_1_1.after args s (.returned v) u = true ∧ limb_1_2.after args s (.returned v) u = true ∧ True) → FrameEnd s (.returned v) u (Jvm.fieldLocs frame_1_writes args s ++ Jvm.arrayLocs frame_1_arrays args s ++ Jvm.staticLocs frame_1_statics s) 16 128 → Post tb e args s (.returned v) u) :
    ArmFor flags0 classFile x code maxLocals ret World_1 tables_1 room_1 Calls_1 rest_1 Pre_1 Post := by
  intro l hfl _ _ p e ha hc hk s m args below hf hA hF happ hP
  obtain ⟨hcalls, hrest, hpre⟩ := hP
  obtain ⟨-, -, -, hnamed, -, -, -, hat⟩ := (Spec.applies_iff hf).mp happ
  obtain ⟨hg, hn⟩ := and_e (Cond.before_iff.mp (show (Jvm.Cond.and given_1 narrow_1).before args s = true from hpre))
  obtain ⟨h1, g0⟩ := and_e hg
  obtain ⟨c0, g1⟩ := and_e g0
  obtain ⟨w0, w1, rfl⟩ : ∃ w0 w1 : Value, args = #[w0, w1] := by
    have hs : args.size = 2 := by simpa [Cond.value, given_1] using h1
    obtain ⟨L⟩ := args
    match L, hs with
    | [w0, w1], _ => exact ⟨w0, w1, rfl⟩
  have hw := fun d (hd : d ∈ tables_1) => atoms_spec (ws := Jvm.Cond.code x code maxLocals ret :: tables_1) hat d (List.mem_cons_of_mem _ hd)
  obtain ⟨i0, e0⟩ := is_v c0
  obtain rfl : w0 = (.int i0) := Option.some.inj e0
  obtain ⟨i1, e1⟩ := is_v g1
  obtain rfl : w1 = (.int i1) := Option.some.inj e1
  obtain ⟨n, o, h1, h2, h3, vq, L, rfl, ⟨hv, N⟩, hq⟩ := rm0 l s _ hw tables_1 i0 i1  s.heap s.heap.size (Nat.le_refl _) p e ha hc hk s m _ below hf ((Spec.applies_iff_loose hf).mp happ).1 ⟨rfl, State.Warmed39.refl s, rfl⟩ trivial
  subst hv
  refine ⟨n, _, h1, h2, h3, hpost _ _ _ _ _ _ ⟨Cond.after_iff.mpr rfl, Cond.after_iff.mpr (eq_i res_at (Term.int_eval (1)) rfl), trivial⟩ ⟨hq.1, hq.2.1, (hq.2.2.sift fun y hy => Or.inr (N y hy)).mono (by decide) (by decide)⟩⟩
theorem main_1_1 : Claimed_1_1 := comes_1 fun _ _ _ _ _ _ h hF => ⟨h.1, hF⟩
theorem main_1_2 : Claimed_1_2 := comes_1 fun _ _ _ _ _ _ h hF => ⟨h.2.1, hF⟩
end Jvm.Pilot.@@N@@
namespace Jvm.Pilot.@@N@@
open Jvm Jvm.ClassFile Sem Op Lib Jvm.Free Jvm.Stand Jvm.Pilot.@@N@@.Jvm.D
/-! MADE BY PROGRAM (witnessworld.py) out of the Statement's table words and the real class files: 9 classes; the members and pool entries that the words name. The judged class is class 1, her method 3. -/
namespace start1
open Jvm.ClassFile
def u (s : String) : CpInfo := .utf8 (stringToUtf16 s)
/-- a pool by its gaps: so many unusable entries, then the entry; so many at the end -/
def gap : Nat → List CpInfo → List CpInfo
  | 0, r => r
  | n + 1, r => .unusable :: gap n r
def poolList (es : List (Nat × CpInfo)) (last : Nat) : List CpInfo := es.foldr (fun e r => gap e.1 (e.2 :: r)) (gap last [])
def pool (es : List (Nat × CpInfo)) (last : Nat) : Array CpInfo := ⟨poolList es last⟩
def fileOf (pool : Array CpInfo) (this : Nat) (attrs : Array Attribute := #[]) (ms : Array MethodInfo := #[]) (fl : Nat := 33) (sup : Nat := 0) (ifs : Array Nat := #[]) (fds : Array FieldInfo := #[]) : ClassFile where
  minorVersion := 0
  majorVersion := 65
  constantPool := pool
  accessFlags := fl
  thisClass := this
  superClass := sup
  interfaces := ifs
  fields := fds
  methods := ms
  attributes := attrs
def plain (name : String) (sup : Option ClassId) : Class where
  name := name
  kind := .ordinary
  loader := none
  accessFlags := 33
  super := sup
  interfaces := #[]
  cf := none
  fields := #[]
  methods := #[]
  instanceTypes := #[]
  staticTypes := #[]
  resolved := #[]
  callSites := []
  init := .initialized
  statics := none
  mirror := none

def pool0 : Array CpInfo := pool [(5, u "<init>"), (0, u "()V"), (1, .class_ 10), (1, u "java/lang/Object")] 113

def k0m0 : Method := { name := "<init>", desc := "()V", sig := { parameters := [], returnType := none }, accessFlags := 1, code := none }
/-- java/lang/Object -/
def k0 : Class := { plain "java/lang/Object" none with
  accessFlags := 33
  interfaces := #[]
  cf := some (fileOf pool0 8 #[] #[{ accessFlags := 1, nameIndex := 5, descriptorIndex := 6, attributes := #[] }] 33 0 #[] #[])
  fields := #[]
  methods := #[k0m0]
  instanceTypes := #[]
  staticTypes := #[]
  resolved := Array.replicate 124 none
  statics := none }

def pool1 : Array CpInfo := pool [(2, .class_ 4), (1, u "java/lang/Object"), (0, u "<init>"), (0, u "()V"), (0, .integer 1114111), (0, .integer 55296), (0, .integer 57343), (0, .integer 65534), (0, .integer 65535), (0, .methodref 13 14), (0, .class_ 15), (0, .nameAndType 16 17), (0, u "com/example/treegraft/treegraft/xml/XmlChars"), (0, u "isXmlChar"), (0, u "(I)Z"), (0, .methodref 19 20), (0, .class_ 21), (0, .nameAndType 22 17), (0, u "com/example/treegraft/treegraft/xml/XmlCharsIsXmlCharPinLaw"), (0, u "ref"), (0, .integer 55295), (0, .integer 57344), (0, .integer 65533), (0, .integer 65536), (0, .integer 1114112), (2, .integer 2147483648), (0, .integer 2147483647), (0, .methodref 19 33), (0, .nameAndType 34 17), (0, u "agrees"), (0, .integer 2097151), (3, u "law"), (0, u "(II)Z")] 4

def k1m0 : Method := { name := "<init>", desc := "()V", sig := { parameters := [], returnType := none }, accessFlags := 2, code := none }
def k1c1 : Code := { maxStack := 2, maxLocals := 1, code := method_2_code, exceptionTable := #[], attributes := #[] }
def k1m1 : Method := { name := "ref", desc := "(I)Z", sig := { parameters := [.int], returnType := some .boolean }, accessFlags := 10, code := some k1c1 }
def k1c2 : Code := { maxStack := 2, maxLocals := 1, code := method_3_code, exceptionTable := #[], attributes := #[] }
def k1m2 : Method := { name := "agrees", desc := "(I)Z", sig := { parameters := [.int], returnType := some .boolean }, accessFlags := 10, code := some k1c2 }
def k1c3 : Code := { maxStack := 4, maxLocals := 6, code := code, exceptionTable := #[], attributes := #[] }
def k1m3 : Method := { name := "law", desc := "(II)Z", sig := { parameters := [.int, .int], returnType := some .boolean }, accessFlags := 9, code := some k1c3 }
/-- com/example/treegraft/treegraft/xml/XmlCharsIsXmlCharPinLaw -/
def k1 : Class := { plain "com/example/treegraft/treegraft/xml/XmlCharsIsXmlCharPinLaw" (some 0) with
  accessFlags := 49
  interfaces := #[]
  cf := some (fileOf pool1 19 #[] #[{ accessFlags := 2, nameIndex := 5, descriptorIndex := 6, attributes := #[] }, { accessFlags := 10, nameIndex := 22, descriptorIndex := 17, attributes := #[] }, { accessFlags := 10, nameIndex := 34, descriptorIndex := 17, attributes := #[] }, { accessFlags := 9, nameIndex := 39, descriptorIndex := 40, attributes := #[] }] 49 2 #[] #[])
  fields := #[]
  methods := #[k1m0, k1m1, k1m2, k1m3]
  instanceTypes := #[]
  staticTypes := #[]
  resolved := Array.replicate 45 none
  statics := none }

def pool2 : Array CpInfo := pool [(2, .class_ 4), (1, u "java/lang/Object"), (0, u "<init>"), (0, u "()V"), (0, .integer 55295), (3, .integer 65533), (0, .integer 65536), (2, .class_ 17), (1, u "com/example/treegraft/treegraft/xml/XmlChars"), (1, u "(I)Z"), (22, .integer 57344), (0, .integer 1114111), (53, u "isXmlChar")] 9

def k2m0 : Method := { name := "<init>", desc := "()V", sig := { parameters := [], returnType := none }, accessFlags := 2, code := none }
def k2c1 : Code := { maxStack := 2, maxLocals := 1, code := prog_166_method_5_code, exceptionTable := #[], attributes := #[] }
def k2m1 : Method := { name := "isXmlChar", desc := "(I)Z", sig := { parameters := [.int], returnType := some .boolean }, accessFlags := 9, code := some k2c1 }
/-- com/example/treegraft/treegraft/xml/XmlChars -/
def k2 : Class := { plain "com/example/treegraft/treegraft/xml/XmlChars" (some 0) with
  accessFlags := 49
  interfaces := #[]
  cf := some (fileOf pool2 15 #[] #[{ accessFlags := 2, nameIndex := 5, descriptorIndex := 6, attributes := #[] }, { accessFlags := 9, nameIndex := 97, descriptorIndex := 19, attributes := #[] }] 49 2 #[] #[])
  fields := #[]
  methods := #[k2m0, k2m1]
  instanceTypes := #[]
  staticTypes := #[]
  resolved := Array.replicate 107 none
  statics := none }

def pool3 : Array CpInfo := pool [(1, u "java/lang/Cloneable"), (0, .class_ 1), (0, u "java/lang/Object"), (0, .class_ 3)] 3

/-- java/lang/Cloneable -/
def k3 : Class := { plain "java/lang/Cloneable" (some 0) with
  accessFlags := 1537
  interfaces := #[]
  cf := some (fileOf pool3 2 #[] #[] 1537 4 #[] #[])
  fields := #[]
  methods := #[]
  instanceTypes := #[]
  staticTypes := #[]
  resolved := Array.replicate 8 none
  statics := none }

def pool4 : Array CpInfo := pool [(1, u "java/io/Serializable"), (0, .class_ 1), (0, u "java/lang/Object"), (0, .class_ 3)] 3

/-- java/io/Serializable -/
def k4 : Class := { plain "java/io/Serializable" (some 0) with
  accessFlags := 1537
  interfaces := #[]
  cf := some (fileOf pool4 2 #[] #[] 1537 4 #[] #[])
  fields := #[]
  methods := #[]
  instanceTypes := #[]
  staticTypes := #[]
  resolved := Array.replicate 8 none
  statics := none }

/-- the primitive byte -/
def k5 : Class := { plain "byte" none with kind := .primitive 'B', accessFlags := 0x411 }
/-- [B -/
def k6 : Class := { plain "[B" (some 0) with kind := .array 5 .byte, interfaces := #[3, 4], accessFlags := 1041 }

/-- the primitive int -/
def k7 : Class := { plain "int" none with kind := .primitive 'I', accessFlags := 0x411 }
/-- [I -/
def k8 : Class := { plain "[I" (some 0) with kind := .array 7 .int, interfaces := #[3, 4], accessFlags := 1041 }

def heap : Heap := #[]
def classes : Array Class := #[k0, k1, k2, k3, k4, k5, k6, k7, k8]
def interned : List (Array UInt16 × Addr) := []
def slotsUsed : Nat := 0
def theMethod : MethodId := ⟨1, 3⟩
def args0 : Array Value := #[.int 5, .int 3]
def aboutOver (below : List Frame) : State where
  vm := { classes := classes, interned := interned.toArray }
  heap := heap
  slotsUsed := slotsUsed
  threads := #[{ frames := .invoking theMethod args0 :: below }]
def below0 : List Frame := [.native { method := ⟨0, 0⟩, args := #[] }]
def about1 : State := aboutOver below0
def p0 : Program := .bare "" "" ""
def e0 : Env := launch0.env 0 0 0
theorem w_frames : about1.frames = Frame.invoking theMethod args0 :: below0 := rfl
set_option maxRecDepth 65536 in
theorem w_args : argsFit about1.vm theMethod args0 = true := by decide +kernel
set_option maxRecDepth 65536 in
theorem w_heap : heapFits about1 = true := by decide +kernel
set_option maxRecDepth 65536 in
theorem w_runnable : about1.curStatus? = some .runnable := by decide +kernel
set_option maxRecDepth 65536 in
theorem w_alone : about1.alone = true := by decide +kernel
set_option maxRecDepth 65536 in
theorem w_named : about1.methodNamed? x = some theMethod := by decide +kernel
set_option maxRecDepth 65536 in
theorem w_hears : about1.hears theMethod below0 = true := by decide +kernel
set_option maxRecDepth 65536 in
theorem w_ripe : about1.ripe theMethod args0 below0 = true := by decide +kernel
theorem w_running : about1.status = .running := rfl
set_option maxRecDepth 65536 in
theorem w_room : about1.hasRoom e0.platform room_1 = true :=
  launch0.hasRoom_least _ room_1 (by decide +kernel) (by decide +kernel) (by decide +kernel) (by decide +kernel) (by decide +kernel) (by decide +kernel)
theorem allAtoms_all (ts : List Jvm.Cond) (a : Array Jvm.Value) (st : Jvm.State) : (allAtoms ts).before a st = ts.all (fun c => c.before a st) := by
  induction ts with
  | nil => rfl
  | cons c t ih =>
    show (Jvm.Cond.and c (allAtoms t)).before a st = _
    rw [Jvm.Cond.before_and, ih, List.all_cons]
def words1 : List Jvm.Cond := Jvm.Cond.code x code maxLocals ret :: tables_1
/-- a 'code' word, met by the world's own term for the bytes: nothing is compared byte by byte -/
theorem code_word {y : MethodName} {bytes : ByteArray} {mx : Nat} {rt : Option FieldType} {a : Array Value} {s : State} {m : MethodId} {meth : Method} {c : Code} (h1 : s.methodNamed? y = some m) (h2 : s.vm.method? m = some meth) (h3 : meth.code = some c) (h4 : c.code = bytes)
    (h5 : (c.maxLocals == mx && c.exceptionTable.isEmpty && decide (c.maxStack ≤ mostOperands) && decide (meth.sig.returnType = rt) && !meth.locks && decide (parseMethodDescriptor y.desc = some meth.sig)) = true) : (Jvm.Cond.code y bytes mx rt).before a s = true := by
  simp only [Bool.and_eq_true, beq_iff_eq, Bool.not_eq_true', decide_eq_true_eq] at h5
  obtain ⟨⟨⟨⟨⟨g1, g2⟩, g3⟩, g4⟩, g5⟩, g6⟩ := h5
  simp [Cond.before, Cond.holds, Cond.value, h1, h2, h3, h4, g1, g2, g3, g4, g5, g6]
def isCode : Jvm.Cond → Bool
  | .code _ _ _ _ => true
  | _ => false
theorem all_split {L : List Jvm.Cond} {P : Jvm.Cond → Bool} (h1 : L.all (fun c => isCode c || P c) = true) (h2 : ∀ c ∈ L.filter isCode, P c = true) : L.all P = true := by
  refine List.all_eq_true.mpr fun c hc => ?_
  have h := List.all_eq_true.mp h1 c hc
  rcases Bool.eq_false_or_eq_true (isCode c) with hi | hi
  · exact h2 c (List.mem_filter.mpr ⟨hc, hi⟩)
  · simpa [hi] using h
set_option maxRecDepth 65536 in
theorem w_c0 : (Jvm.Cond.code x code maxLocals ret).before args0 about1 = true := code_word (m := ⟨1, 3⟩) (meth := k1m3) (c := k1c3) (by decide +kernel) rfl rfl rfl (by decide +kernel)
set_option maxRecDepth 65536 in
theorem w_c1 : (Jvm.Cond.code ({ cls := "com/example/treegraft/treegraft/xml/XmlCharsIsXmlCharPinLaw", name := "agrees", desc := "(I)Z" } : Jvm.MethodName) method_3_code (1 : Nat) (Option.some Jvm.ClassFile.FieldType.boolean)).before args0 about1 = true := code_word (m := ⟨1, 2⟩) (meth := k1m2) (c := k1c2) (by decide +kernel) rfl rfl rfl (by decide +kernel)
set_option maxRecDepth 65536 in
theorem w_c2 : (Jvm.Cond.code ({ cls := "com/example/treegraft/treegraft/xml/XmlChars", name := "isXmlChar", desc := "(I)Z" } : Jvm.MethodName) prog_166_method_5_code (1 : Nat) (Option.some Jvm.ClassFile.FieldType.boolean)).before args0 about1 = true := code_word (m := ⟨2, 1⟩) (meth := k2m1) (c := k2c1) (by decide +kernel) rfl rfl rfl (by decide +kernel)
set_option maxRecDepth 65536 in
theorem w_c3 : (Jvm.Cond.code ({ cls := "com/example/treegraft/treegraft/xml/XmlCharsIsXmlCharPinLaw", name := "ref", desc := "(I)Z" } : Jvm.MethodName) method_2_code (1 : Nat) (Option.some Jvm.ClassFile.FieldType.boolean)).before args0 about1 = true := code_word (m := ⟨1, 1⟩) (meth := k1m1) (c := k1c1) (by decide +kernel) rfl rfl rfl (by decide +kernel)
def codes1 : List Jvm.Cond := [Jvm.Cond.code x code maxLocals ret, Jvm.Cond.code ({ cls := "com/example/treegraft/treegraft/xml/XmlCharsIsXmlCharPinLaw", name := "agrees", desc := "(I)Z" } : Jvm.MethodName) method_3_code (1 : Nat) (Option.some Jvm.ClassFile.FieldType.boolean), Jvm.Cond.code ({ cls := "com/example/treegraft/treegraft/xml/XmlChars", name := "isXmlChar", desc := "(I)Z" } : Jvm.MethodName) prog_166_method_5_code (1 : Nat) (Option.some Jvm.ClassFile.FieldType.boolean), Jvm.Cond.code ({ cls := "com/example/treegraft/treegraft/xml/XmlCharsIsXmlCharPinLaw", name := "ref", desc := "(I)Z" } : Jvm.MethodName) method_2_code (1 : Nat) (Option.some Jvm.ClassFile.FieldType.boolean)]
set_option maxRecDepth 65536 in
theorem codes_eq : words1.filter isCode = codes1 := rfl
theorem w_codes : ∀ c ∈ words1.filter isCode, c.before args0 about1 = true := by
  rw [codes_eq]
  intro c hc
  simp only [codes1, List.mem_cons, List.not_mem_nil, or_false] at hc
  rcases hc with rfl | rfl | rfl | rfl
  · exact w_c0
  · exact w_c1
  · exact w_c2
  · exact w_c3
set_option maxRecDepth 65536 in
theorem w_t1 : (words1.take 24).all (fun c => isCode c || c.before args0 about1) = true := by decide +kernel
set_option maxRecDepth 65536 in
theorem w_t2 : (words1.drop 24).all (fun c => isCode c || c.before args0 about1) = true := by decide +kernel
theorem w_tables : (allAtoms (Jvm.Cond.code x code maxLocals ret :: tables_1)).before args0 about1 = true := by
  rw [allAtoms_all]
  show words1.all (fun c => c.before args0 about1) = true
  refine all_split ?_ w_codes
  rw [← List.take_append_drop 24 words1, List.all_append, w_t1, w_t2]
  rfl
set_option maxRecDepth 65536 in
theorem w_case : (Jvm.Cond.and given_1 narrow_1).before args0 about1 = true := by decide +kernel
theorem w_applies : (headSpec (Jvm.Cond.code x code maxLocals ret :: tables_1) room_1).applies x e0.platform about1 = true :=
  (Spec.applies_iff w_frames).mpr ⟨w_running, w_runnable, w_alone, w_named, w_hears, w_ripe, w_room, w_tables⟩
theorem atStart : AtStart classFile x code maxLocals ret World_1 tables_1 room_1 Calls_1 rest_1 Pre_1 launch0 p0 e0 about1 theMethod args0 below0 :=
  ⟨lists_1, trivial, launch0.admits_env _ _ _, launch0.least_env, fairChoices_fair.cas, fairChoices_fair.clock, w_frames, w_args, w_heap, w_applies, trivial, trivial, w_case⟩
end start1
theorem witness_1 : WitnessClaimed_1 := ⟨start1.p0, start1.e0, start1.about1, start1.theMethod, start1.args0, start1.below0, start1.atStart⟩
end Jvm.Pilot.@@N@@
