import JvmDerived
import JvmDerived.Pilot.@@N@@Statement
import JvmDerived.Pilot.@@N@@Code
set_option linter.unusedVariables false
set_option linter.unusedSimpArgs false
namespace Jvm.RoadKit
open Sem ClassFile Op Lib Jvm.Stand Jvm.Free Jvm.LawKit
section New
variable {p : Program} {l : Launch} {e : Env} {R : Room} {s : State} {m : MethodId} {args : Array Value} {below : List Frame} {meth : Method} {c : Code} {T T' : State} {locs : List Loc} {cells slots : Nat}
/-- what a body leaves: the value, and what is known of the heap and of the places written -/
def QV (w : Option Value) (P : Heap → List Loc → Prop) (v : Option Value) (h : Heap) (L : List Loc) : Prop := v = w ∧ P h L
/-- a body that writes nothing -/
def PureP (n0 : Nat) (h0 : Heap) (h : Heap) (L : List Loc) : Prop := Fr n0 L ∧ h = h0
/-- from here the body returns w and leaves P -/
def Got (p : Program) (e : Env) (below : List Frame) (s : State) (P : Heap → List Loc → Prop) (ck cs : Nat) (w : Option Value) (T : State) (g : JFrame) : Prop :=
  ∃ s₂ L, Steps p.tables e below (T.setTop g) s₂ ∧ s₂.status = .running ∧ Ended s₂ below (.returned w) ∧ P s₂.heap L ∧ FrameEnd s (.returned w) s₂ L ck cs
variable {P : Heap → List Loc → Prop} {ck cs : Nat} {w : Option Value} {g g' : JFrame}
theorem Got.step (h : ∀ t, Steps p.tables e below (T'.setTop g') t → Steps p.tables e below (T.setTop g) t) (k : Got p e below s P ck cs w T' g') : Got p e below s P ck cs w T g := by
  obtain ⟨s₂, L, h1, r⟩ := k
  exact ⟨s₂, L, h _ h1, r⟩
theorem Got.hop (h : Steps p.tables e below (T.setTop g) (T'.setTop g')) (k : Got p e below s P ck cs w T' g') : Got p e below s P ck cs w T g := Got.step (fun _ q => h.trans q) k
theorem Got.ite {q : Prop} [Decidable q] {x y : Int32} (h1 : q → Got p e below s P ck cs (some (.int x)) T g) (h2 : ¬ q → Got p e below s P ck cs (some (.int y)) T g) : Got p e below s P ck cs (some (.int (if q then x else y))) T g := by
  by_cases h : q
  · rw [if_pos h]; exact h1 h
  · rw [if_neg h]; exact h2 h
theorem Got.iteJ {q : Prop} [Decidable q] {x y : Int64} (h1 : q → Got p e below s P ck cs (some (.long x)) T g) (h2 : ¬ q → Got p e below s P ck cs (some (.long y)) T g) : Got p e below s P ck cs (some (.long (if q then x else y))) T g := by
  by_cases h : q
  · rw [if_pos h]; exact h1 h
  · rw [if_neg h]; exact h2 h
theorem Got.iteR {q : Prop} [Decidable q] {x y : Addr} (h1 : q → Got p e below s P ck cs (some (.ref x)) T g) (h2 : ¬ q → Got p e below s P ck cs (some (.ref y)) T g) : Got p e below s P ck cs (some (.ref (if q then x else y))) T g := by
  by_cases h : q
  · rw [if_pos h]; exact h1 h
  · rw [if_neg h]; exact h2 h
theorem Got.body {n : Nat} {as' : Array Value} (hg : entryFrame m as' n = g) (k : Got p e below s P ck cs w T g) :
    ∃ s₂ o, Steps p.tables e below (T.setTop (entryFrame m as' n)) s₂ ∧ s₂.status = .running ∧ Ended s₂ below o ∧ ∃ v L, o = .returned v ∧ QV w P v s₂.heap L ∧ FrameEnd s o s₂ L ck cs := by
  obtain ⟨s₂, L, h1, h2, h3, h4, h5⟩ := k
  exact ⟨s₂, _, by rw [hg]; exact h1, h2, h3, w, L, rfl, ⟨rfl, h4⟩, h5⟩
theorem Got.retN (X : Stand p l e R s m args below meth c T locs cells slots) (hx : p.tables.exec = Jvm.exec) {t : FieldType} (hret : meth.sig.returnType = some t) (ht : t = .boolean ∨ t = .byte ∨ t = .char ∨ t = .short) (hlk : meth.locks = false) {pc : Nat} {Ls : Array Slot} {z y : Int32} {rest : List Value}
    (hd : decode c.code pc = .ok (.ireturn, 1)) (hy : nar t z = y) (hP : P T.heap locs) (hc : cells ≤ ck) (hs : slots ≤ cs) : Got p e below s P ck cs (some (.int y)) T (mkF m pc Ls (.int z :: rest)) := by
  subst hy
  obtain ⟨fs, hr, hrun, hended, hW, hsame⟩ := X.leave (v := some (.int (nar t z))) (fun h => by rw [hret] at h; cases h) hlk
  exact ⟨_, locs, Jvm.RoadKit.retN X hx hret ht hd hr, hrun, hended, hP, ⟨_, rfl⟩, hW, hsame.mono hc hs⟩
theorem Got.retI (X : Stand p l e R s m args below meth c T locs cells slots) (hx : p.tables.exec = Jvm.exec) (hret : meth.sig.returnType = some .int) (hlk : meth.locks = false) {pc : Nat} {Ls : Array Slot} {z y : Int32} {rest : List Value}
    (hd : decode c.code pc = .ok (.ireturn, 1)) (hy : z = y) (hP : P T.heap locs) (hc : cells ≤ ck) (hs : slots ≤ cs) : Got p e below s P ck cs (some (.int y)) T (mkF m pc Ls (.int z :: rest)) := by
  subst hy
  obtain ⟨fs, hr, hrun, hended, hW, hsame⟩ := X.leave (v := some (.int z)) (fun h => by rw [hret] at h; cases h) hlk
  exact ⟨_, locs, retOut X hx hret rfl (Or.inl ⟨rfl, Or.inl rfl, z, rfl⟩) hd hr, hrun, hended, hP, ⟨_, rfl⟩, hW, hsame.mono hc hs⟩
theorem Got.retJ (X : Stand p l e R s m args below meth c T locs cells slots) (hx : p.tables.exec = Jvm.exec) (hret : meth.sig.returnType = some .long) (hlk : meth.locks = false) {pc : Nat} {Ls : Array Slot} {z y : Int64}
    (hd : decode c.code pc = .ok (.lreturn, 1)) (hy : z = y) (hP : P T.heap locs) (hc : cells ≤ ck) (hs : slots ≤ cs) : Got p e below s P ck cs (some (.long y)) T (mkF m pc Ls [.long z]) := by
  subst hy
  obtain ⟨fs, hr, hrun, hended, hW, hsame⟩ := X.leave (v := some (.long z)) (fun h => by rw [hret] at h; cases h) hlk
  exact ⟨_, locs, X.lreturnOut hx hret hd hr, hrun, hended, hP, ⟨_, rfl⟩, hW, hsame.mono hc hs⟩
theorem Got.retV (X : Stand p l e R s m args below meth c T locs cells slots) (hx : p.tables.exec = Jvm.exec) (hret : meth.sig.returnType = none) (hlk : meth.locks = false) {pc : Nat} {Ls : Array Slot}
    (hd : decode c.code pc = .ok (.return_, 1)) (hP : P T.heap locs) (hc : cells ≤ ck) (hs : slots ≤ cs) : Got p e below s P ck cs none T (mkF m pc Ls []) := by
  obtain ⟨fs, hr, hrun, hended, hW, hsame⟩ := X.leave (v := none) (fun _ => rfl) hlk
  exact ⟨_, locs, X.returnOut hx hret hd hr, hrun, hended, hP, ⟨_, rfl⟩, hW, hsame.mono hc hs⟩
theorem Got.retA (X : Stand p l e R s m args below meth c T locs cells slots) (hx : p.tables.exec = Jvm.exec) {t : FieldType} (hret : meth.sig.returnType = some t) (ht : t.isReference = true) (hlk : meth.locks = false) {pc : Nat} {Ls : Array Slot} {a : Addr} {rest : List Value}
    (hd : decode c.code pc = .ok (.areturn, 1)) (hn : narrow t (.ref a) = .ref a) (hP : P T.heap locs) (hc : cells ≤ ck) (hs : slots ≤ cs) : Got p e below s P ck cs (some (.ref a)) T (mkF m pc Ls (.ref a :: rest)) := by
  obtain ⟨fs, hr, hrun, hended, hW, hsame⟩ := X.leave (v := some (.ref a)) (fun h => by rw [hret] at h; cases h) hlk
  exact ⟨_, locs, retOut X hx hret hn (Or.inr (Or.inr (Or.inr (Or.inr ⟨rfl, ht, rfl⟩)))) hd hr, hrun, hended, hP, ⟨_, rfl⟩, hW, hsame.mono hc hs⟩
theorem remJ {g : JFrame} {target : State} (X : Stand p l e R s m args below meth c T locs cells slots) (hx : p.tables.exec = Jvm.exec) (hg : g.method = m) {x y : Int64} {rest : List Value} (hd : decode c.code g.pc = .ok (.lrem, 1)) (hs : g.stack = .long y :: .long x :: rest) (hy : y ≠ 0)
    (hr : Steps p.tables e below (T.setTop { g with pc := g.pc + 1, stack := .long (x % y) :: rest }) target) : Steps p.tables e below (T.setTop g) target := by
  rw [← lrem_mod x y] at hr
  exact XS.lrem X.here hx hg hd hs hy hr
theorem one_unset : One .unset := Or.inl rfl
theorem one_int (x : Int32) : One (.val (.int x)) := Or.inr ⟨_, rfl, rfl⟩
theorem one_ref (x : Addr) : One (.val (.ref x)) := Or.inr ⟨_, rfl, rfl⟩
theorem narB (x : Int32) : nar .byte x.toInt8.toInt32 = x.toInt8.toInt32 := by simp [nar]
end New
end Jvm.RoadKit
namespace Jvm.Pilot.@@N@@
open Jvm Jvm.ClassFile Sem Op Lib Jvm.Free Jvm.Stand Jvm.LawKit Jvm.RoadKit Bundle Jvm.Pilot.@@N@@.Jvm.D
def f1_192 (p0 : Int32)  : Int32 := (if p0 < (65536 : Int32) then (0 : Int32) else (if (983039 : Int32) < p0 then (0 : Int32) else (1 : Int32)))
def f1_180 (p0 : Int32)  : Int32 := (if p0 < (65008 : Int32) then (f1_192 p0 ) else (if (65533 : Int32) < p0 then (f1_192 p0 ) else (1 : Int32)))
def f1_168 (p0 : Int32)  : Int32 := (if p0 < (63744 : Int32) then (f1_180 p0 ) else (if (64975 : Int32) < p0 then (f1_180 p0 ) else (1 : Int32)))
def f1_155 (p0 : Int32)  : Int32 := (if p0 < (12289 : Int32) then (f1_168 p0 ) else (if (55295 : Int32) < p0 then (f1_168 p0 ) else (1 : Int32)))
def f1_141 (p0 : Int32)  : Int32 := (if p0 < (11264 : Int32) then (f1_155 p0 ) else (if (12271 : Int32) < p0 then (f1_155 p0 ) else (1 : Int32)))
def f1_127 (p0 : Int32)  : Int32 := (if p0 < (8304 : Int32) then (f1_141 p0 ) else (if (8591 : Int32) < p0 then (f1_141 p0 ) else (1 : Int32)))
def f1_113 (p0 : Int32)  : Int32 := (if p0 < (8204 : Int32) then (f1_127 p0 ) else (if (8205 : Int32) < p0 then (f1_127 p0 ) else (1 : Int32)))
def f1_99 (p0 : Int32)  : Int32 := (if p0 < (895 : Int32) then (f1_113 p0 ) else (if (8191 : Int32) < p0 then (f1_113 p0 ) else (1 : Int32)))
def f1_85 (p0 : Int32)  : Int32 := (if p0 < (880 : Int32) then (f1_99 p0 ) else (if (893 : Int32) < p0 then (f1_99 p0 ) else (1 : Int32)))
def f1_71 (p0 : Int32)  : Int32 := (if p0 < (248 : Int32) then (f1_85 p0 ) else (if (767 : Int32) < p0 then (f1_85 p0 ) else (1 : Int32)))
def f1_57 (p0 : Int32)  : Int32 := (if p0 < (216 : Int32) then (f1_71 p0 ) else (if (246 : Int32) < p0 then (f1_71 p0 ) else (1 : Int32)))
def f1_31 (p0 : Int32)  : Int32 := (if p0 = (95 : Int32) then (1 : Int32) else (0 : Int32))
def f1_19 (p0 : Int32)  : Int32 := (if p0 < (65 : Int32) then (f1_31 p0 ) else (if (90 : Int32) < p0 then (f1_31 p0 ) else (1 : Int32)))
def f1 (p0 : Int32)  : Int32 := (if p0 < (128 : Int32) then (if p0 < (97 : Int32) then (f1_19 p0 ) else (if (122 : Int32) < p0 then (f1_19 p0 ) else (1 : Int32))) else (if p0 < (192 : Int32) then (f1_57 p0 ) else (if (214 : Int32) < p0 then (f1_57 p0 ) else (1 : Int32))))
theorem ef_1 (m : MethodId) (x0 : Int32) : entryFrame m #[(.int x0)] 1 = mkF m 0 #[.val (.int x0)] [] := by first | (simp [entryFrame, mkF, argsToLocals, Value.category]; done) | rfl
theorem pn_0 : plainName "com/example/treegraft/treegraft/xml/XmlChars" = true := by first | (simp [plainName, overriddenIn]; done) | decide +kernel
theorem d1_0 : decode prog_166_method_2_code 0 = .ok (.iload_n 0, 1) := by decide +kernel
theorem d1_1 : decode prog_166_method_2_code 1 = .ok (.sipush 128, 3) := by decide +kernel
theorem d1_4 : decode prog_166_method_2_code 4 = .ok (.if_icmp .ge 39, 3) := by decide +kernel
theorem d1_7 : decode prog_166_method_2_code 7 = .ok (.iload_n 0, 1) := by decide +kernel
theorem d1_8 : decode prog_166_method_2_code 8 = .ok (.bipush 97, 2) := by decide +kernel
theorem d1_10 : decode prog_166_method_2_code 10 = .ok (.if_icmp .lt 9, 3) := by decide +kernel
theorem d1_13 : decode prog_166_method_2_code 13 = .ok (.iload_n 0, 1) := by decide +kernel
theorem d1_14 : decode prog_166_method_2_code 14 = .ok (.bipush 122, 2) := by decide +kernel
theorem d1_16 : decode prog_166_method_2_code 16 = .ok (.if_icmp .le 21, 3) := by decide +kernel
theorem d1_19 : decode prog_166_method_2_code 19 = .ok (.iload_n 0, 1) := by decide +kernel
theorem d1_20 : decode prog_166_method_2_code 20 = .ok (.bipush 65, 2) := by decide +kernel
theorem d1_22 : decode prog_166_method_2_code 22 = .ok (.if_icmp .lt 9, 3) := by decide +kernel
theorem d1_25 : decode prog_166_method_2_code 25 = .ok (.iload_n 0, 1) := by decide +kernel
theorem d1_26 : decode prog_166_method_2_code 26 = .ok (.bipush 90, 2) := by decide +kernel
theorem d1_28 : decode prog_166_method_2_code 28 = .ok (.if_icmp .le 9, 3) := by decide +kernel
theorem d1_31 : decode prog_166_method_2_code 31 = .ok (.iload_n 0, 1) := by decide +kernel
theorem d1_32 : decode prog_166_method_2_code 32 = .ok (.bipush 95, 2) := by decide +kernel
theorem d1_34 : decode prog_166_method_2_code 34 = .ok (.if_icmp .ne 7, 3) := by decide +kernel
theorem d1_37 : decode prog_166_method_2_code 37 = .ok (.iconst 1, 1) := by decide +kernel
theorem d1_38 : decode prog_166_method_2_code 38 = .ok (.goto 4, 3) := by decide +kernel
theorem d1_41 : decode prog_166_method_2_code 41 = .ok (.iconst 0, 1) := by decide +kernel
theorem d1_42 : decode prog_166_method_2_code 42 = .ok (.ireturn, 1) := by decide +kernel
theorem d1_43 : decode prog_166_method_2_code 43 = .ok (.iload_n 0, 1) := by decide +kernel
theorem d1_44 : decode prog_166_method_2_code 44 = .ok (.sipush 192, 3) := by decide +kernel
theorem d1_47 : decode prog_166_method_2_code 47 = .ok (.if_icmp .lt 10, 3) := by decide +kernel
theorem d1_50 : decode prog_166_method_2_code 50 = .ok (.iload_n 0, 1) := by decide +kernel
theorem d1_51 : decode prog_166_method_2_code 51 = .ok (.sipush 214, 3) := by decide +kernel
theorem d1_54 : decode prog_166_method_2_code 54 = .ok (.if_icmp .le 150, 3) := by decide +kernel
theorem d1_57 : decode prog_166_method_2_code 57 = .ok (.iload_n 0, 1) := by decide +kernel
theorem d1_58 : decode prog_166_method_2_code 58 = .ok (.sipush 216, 3) := by decide +kernel
theorem d1_61 : decode prog_166_method_2_code 61 = .ok (.if_icmp .lt 10, 3) := by decide +kernel
theorem d1_64 : decode prog_166_method_2_code 64 = .ok (.iload_n 0, 1) := by decide +kernel
theorem d1_65 : decode prog_166_method_2_code 65 = .ok (.sipush 246, 3) := by decide +kernel
theorem d1_68 : decode prog_166_method_2_code 68 = .ok (.if_icmp .le 136, 3) := by decide +kernel
theorem d1_71 : decode prog_166_method_2_code 71 = .ok (.iload_n 0, 1) := by decide +kernel
theorem d1_72 : decode prog_166_method_2_code 72 = .ok (.sipush 248, 3) := by decide +kernel
theorem d1_75 : decode prog_166_method_2_code 75 = .ok (.if_icmp .lt 10, 3) := by decide +kernel
theorem d1_78 : decode prog_166_method_2_code 78 = .ok (.iload_n 0, 1) := by decide +kernel
theorem d1_79 : decode prog_166_method_2_code 79 = .ok (.sipush 767, 3) := by decide +kernel
theorem d1_82 : decode prog_166_method_2_code 82 = .ok (.if_icmp .le 122, 3) := by decide +kernel
theorem d1_85 : decode prog_166_method_2_code 85 = .ok (.iload_n 0, 1) := by decide +kernel
theorem d1_86 : decode prog_166_method_2_code 86 = .ok (.sipush 880, 3) := by decide +kernel
theorem d1_89 : decode prog_166_method_2_code 89 = .ok (.if_icmp .lt 10, 3) := by decide +kernel
theorem d1_92 : decode prog_166_method_2_code 92 = .ok (.iload_n 0, 1) := by decide +kernel
theorem d1_93 : decode prog_166_method_2_code 93 = .ok (.sipush 893, 3) := by decide +kernel
theorem d1_96 : decode prog_166_method_2_code 96 = .ok (.if_icmp .le 108, 3) := by decide +kernel
theorem d1_99 : decode prog_166_method_2_code 99 = .ok (.iload_n 0, 1) := by decide +kernel
theorem d1_100 : decode prog_166_method_2_code 100 = .ok (.sipush 895, 3) := by decide +kernel
theorem d1_103 : decode prog_166_method_2_code 103 = .ok (.if_icmp .lt 10, 3) := by decide +kernel
theorem d1_106 : decode prog_166_method_2_code 106 = .ok (.iload_n 0, 1) := by decide +kernel
theorem d1_107 : decode prog_166_method_2_code 107 = .ok (.sipush 8191, 3) := by decide +kernel
theorem d1_110 : decode prog_166_method_2_code 110 = .ok (.if_icmp .le 94, 3) := by decide +kernel
theorem d1_113 : decode prog_166_method_2_code 113 = .ok (.iload_n 0, 1) := by decide +kernel
theorem d1_114 : decode prog_166_method_2_code 114 = .ok (.sipush 8204, 3) := by decide +kernel
theorem d1_117 : decode prog_166_method_2_code 117 = .ok (.if_icmp .lt 10, 3) := by decide +kernel
theorem d1_120 : decode prog_166_method_2_code 120 = .ok (.iload_n 0, 1) := by decide +kernel
theorem d1_121 : decode prog_166_method_2_code 121 = .ok (.sipush 8205, 3) := by decide +kernel
theorem d1_124 : decode prog_166_method_2_code 124 = .ok (.if_icmp .le 80, 3) := by decide +kernel
theorem d1_127 : decode prog_166_method_2_code 127 = .ok (.iload_n 0, 1) := by decide +kernel
theorem d1_128 : decode prog_166_method_2_code 128 = .ok (.sipush 8304, 3) := by decide +kernel
theorem d1_131 : decode prog_166_method_2_code 131 = .ok (.if_icmp .lt 10, 3) := by decide +kernel
theorem d1_134 : decode prog_166_method_2_code 134 = .ok (.iload_n 0, 1) := by decide +kernel
theorem d1_135 : decode prog_166_method_2_code 135 = .ok (.sipush 8591, 3) := by decide +kernel
theorem d1_138 : decode prog_166_method_2_code 138 = .ok (.if_icmp .le 66, 3) := by decide +kernel
theorem d1_141 : decode prog_166_method_2_code 141 = .ok (.iload_n 0, 1) := by decide +kernel
theorem d1_142 : decode prog_166_method_2_code 142 = .ok (.sipush 11264, 3) := by decide +kernel
theorem d1_145 : decode prog_166_method_2_code 145 = .ok (.if_icmp .lt 10, 3) := by decide +kernel
theorem d1_148 : decode prog_166_method_2_code 148 = .ok (.iload_n 0, 1) := by decide +kernel
theorem d1_149 : decode prog_166_method_2_code 149 = .ok (.sipush 12271, 3) := by decide +kernel
theorem d1_152 : decode prog_166_method_2_code 152 = .ok (.if_icmp .le 52, 3) := by decide +kernel
theorem d1_155 : decode prog_166_method_2_code 155 = .ok (.iload_n 0, 1) := by decide +kernel
theorem d1_156 : decode prog_166_method_2_code 156 = .ok (.sipush 12289, 3) := by decide +kernel
theorem d1_159 : decode prog_166_method_2_code 159 = .ok (.if_icmp .lt 9, 3) := by decide +kernel
theorem d1_162 : decode prog_166_method_2_code 162 = .ok (.iload_n 0, 1) := by decide +kernel
theorem d1_163 : decode prog_166_method_2_code 163 = .ok (.ldc 7, 2) := by decide +kernel
theorem d1_165 : decode prog_166_method_2_code 165 = .ok (.if_icmp .le 39, 3) := by decide +kernel
theorem d1_168 : decode prog_166_method_2_code 168 = .ok (.iload_n 0, 1) := by decide +kernel
theorem d1_169 : decode prog_166_method_2_code 169 = .ok (.ldc 8, 2) := by decide +kernel
theorem d1_171 : decode prog_166_method_2_code 171 = .ok (.if_icmp .lt 9, 3) := by decide +kernel
theorem d1_174 : decode prog_166_method_2_code 174 = .ok (.iload_n 0, 1) := by decide +kernel
theorem d1_175 : decode prog_166_method_2_code 175 = .ok (.ldc 9, 2) := by decide +kernel
theorem d1_177 : decode prog_166_method_2_code 177 = .ok (.if_icmp .le 27, 3) := by decide +kernel
theorem d1_180 : decode prog_166_method_2_code 180 = .ok (.iload_n 0, 1) := by decide +kernel
theorem d1_181 : decode prog_166_method_2_code 181 = .ok (.ldc 10, 2) := by decide +kernel
theorem d1_183 : decode prog_166_method_2_code 183 = .ok (.if_icmp .lt 9, 3) := by decide +kernel
theorem d1_186 : decode prog_166_method_2_code 186 = .ok (.iload_n 0, 1) := by decide +kernel
theorem d1_187 : decode prog_166_method_2_code 187 = .ok (.ldc 11, 2) := by decide +kernel
theorem d1_189 : decode prog_166_method_2_code 189 = .ok (.if_icmp .le 15, 3) := by decide +kernel
theorem d1_192 : decode prog_166_method_2_code 192 = .ok (.iload_n 0, 1) := by decide +kernel
theorem d1_193 : decode prog_166_method_2_code 193 = .ok (.ldc 12, 2) := by decide +kernel
theorem d1_195 : decode prog_166_method_2_code 195 = .ok (.if_icmp .lt 13, 3) := by decide +kernel
theorem d1_198 : decode prog_166_method_2_code 198 = .ok (.iload_n 0, 1) := by decide +kernel
theorem d1_199 : decode prog_166_method_2_code 199 = .ok (.ldc 13, 2) := by decide +kernel
theorem d1_201 : decode prog_166_method_2_code 201 = .ok (.if_icmp .gt 7, 3) := by decide +kernel
theorem d1_204 : decode prog_166_method_2_code 204 = .ok (.iconst 1, 1) := by decide +kernel
theorem d1_205 : decode prog_166_method_2_code 205 = .ok (.goto 4, 3) := by decide +kernel
theorem d1_208 : decode prog_166_method_2_code 208 = .ok (.iconst 0, 1) := by decide +kernel
theorem d1_209 : decode prog_166_method_2_code 209 = .ok (.ireturn, 1) := by decide +kernel
set_option maxRecDepth 65536 in
set_option maxHeartbeats 40000000 in
theorem rm1 (l : Launch) (Z : State) (a0 : Array Value) (hw : ∀ d ∈ tables_1, d.before a0 Z = true) (ws : List Jvm.Cond) (p0 : Int32)  (h0 : Heap) (n0 : Nat) (Z0 : n0 ≤ h0.size)  :
    MetFree l (⟨"com/example/treegraft/treegraft/xml/XmlChars", "isNameStartChar", "(I)Z"⟩ : MethodName) (head1 (Jvm.Cond.code (⟨"com/example/treegraft/treegraft/xml/XmlChars", "isNameStartChar", "(I)Z"⟩ : MethodName) prog_166_method_2_code 1 (some .boolean) :: ws) ({ frames := 0, cells := 0, slots := 0, locals := 0 } : Room)) (fun a U => a = #[(.int p0)] ∧ Z.Warmed39 U.vm ∧ U.heap = h0) (fun _ _ _ _ _ => True) (fun _ U o U' => ∃ v L, o = .returned v ∧ QV (some (.int (f1 p0))) (PureP n0 h0) v U'.heap L ∧ FrameEnd U o U' L ({ frames := 0, cells := 0, slots := 0, locals := 0 } : Room).cells ({ frames := 0, cells := 0, slots := 0, locals := 0 } : Room).slots) := by
  refine MetFree.of_bodySF (plainFor_of_name pn_0) hisR ?_
  intro p e s m args below meth c s₁ Bd hml0 hP hK
  obtain ⟨rfl, hZ, hh⟩ := hP
  have hx := Bd.exec
  have hby := Bd.bytes
  have hml : c.maxLocals = 1 := hml0
  have hown : s.vm.findClass "com/example/treegraft/treegraft/xml/XmlChars" = some m.cls := findClass_of_methodNamed Bd.named
  have hnm := (name_of_methodNamed Bd.named Bd.method).1
  have hlk : meth.locks = false := BodyLoose.notSynchronized Bd
  have X0 : Stand p l e ({ frames := 0, cells := 0, slots := 0, locals := 0 } : Room) s m #[(.int p0)] below meth c s₁ [] 0 0 := Stand.of_body Bd
  have e0 : s₁.heap = h0 := by rw [← hh, Bd.state]; rfl
  have N0 := Fr.nil n0
  refine Got.body (ef_1 m p0) ?_
  have J192 : ∀ (T_192 : State) (L_192 : List Loc), Stand p l e ({ frames := 0, cells := 0, slots := 0, locals := 0 } : Room) s m #[(.int p0)] below meth c T_192 L_192 0 0 → T_192.heap = h0 → Fr n0 L_192 → Got p e below s (PureP n0 h0) 0 0 (some (.int (f1_192 p0 ))) T_192 (mkF m 192 #[.val (.int p0)] []) := by
    intro T_192 L_192 X_192 e_192 N_192 
    refine Got.step (T' := T_192) (g' := (mkF m 195 #[.val (.int p0)] [(.int (65536 : Int32)), (.int p0)])) (fun tq kt => ?_) ?_
    · show Steps p.tables e below (T_192.setTop (mkF m 192 #[.val (.int p0)] [])) _
      refine XS.iloadN X_192.here hx rfl (hb hby d1_192) rfl ?_
      show Steps p.tables e below (T_192.setTop (mkF m 193 #[.val (.int p0)] [(.int p0)])) _
      refine X_192.ldcI hx hown (mvT hZ (hw _ (List.mem_of_getElem? (i := 22) rfl))) rfl (hb hby d1_193) ?_
      exact kt
    refine Got.ite (q := (p0 < (65536 : Int32))) (fun hc29 => ?_) (fun hc29 => ?_)
    · refine Got.step (T' := T_192) (g' := (mkF m 209 #[.val (.int p0)] [(.int (0 : Int32))])) (fun tq kt => ?_) ?_
      · show Steps p.tables e below (T_192.setTop (mkF m 195 #[.val (.int p0)] [(.int (65536 : Int32)), (.int p0)])) _
        refine XS.icmpYes X_192.here hx rfl (pc0 := 195) (pc' := 208) rfl (hb hby d1_195) rfl (XT.ii_lt_t hc29) (by decide) (by decide) ?_
        show Steps p.tables e below (T_192.setTop (mkF m 208 #[.val (.int p0)] [])) _
        refine XS.iconst X_192.here hx rfl (hb hby d1_208) ?_
        exact kt
      exact Got.retN (y := (0 : Int32)) (t := .boolean) X_192 hx Bd.returns (by simp) hlk (hb hby d1_209) (by decide) ⟨N_192, e_192⟩ (by decide) (by decide)
    · refine Got.step (T' := T_192) (g' := (mkF m 201 #[.val (.int p0)] [(.int (983039 : Int32)), (.int p0)])) (fun tq kt => ?_) ?_
      · show Steps p.tables e below (T_192.setTop (mkF m 195 #[.val (.int p0)] [(.int (65536 : Int32)), (.int p0)])) _
        refine XS.icmpNo X_192.here hx rfl (hb hby d1_195) rfl (XT.ii_lt_f hc29) ?_
        show Steps p.tables e below (T_192.setTop (mkF m 198 #[.val (.int p0)] [])) _
        refine XS.iloadN X_192.here hx rfl (hb hby d1_198) rfl ?_
        show Steps p.tables e below (T_192.setTop (mkF m 199 #[.val (.int p0)] [(.int p0)])) _
        refine X_192.ldcI hx hown (mvT hZ (hw _ (List.mem_of_getElem? (i := 26) rfl))) rfl (hb hby d1_199) ?_
        exact kt
      refine Got.ite (q := ((983039 : Int32) < p0)) (fun hc30 => ?_) (fun hc30 => ?_)
      · refine Got.step (T' := T_192) (g' := (mkF m 209 #[.val (.int p0)] [(.int (0 : Int32))])) (fun tq kt => ?_) ?_
        · show Steps p.tables e below (T_192.setTop (mkF m 201 #[.val (.int p0)] [(.int (983039 : Int32)), (.int p0)])) _
          refine XS.icmpYes X_192.here hx rfl (pc0 := 201) (pc' := 208) rfl (hb hby d1_201) rfl (XT.ii_gt_t hc30) (by decide) (by decide) ?_
          show Steps p.tables e below (T_192.setTop (mkF m 208 #[.val (.int p0)] [])) _
          refine XS.iconst X_192.here hx rfl (hb hby d1_208) ?_
          exact kt
        exact Got.retN (y := (0 : Int32)) (t := .boolean) X_192 hx Bd.returns (by simp) hlk (hb hby d1_209) (by decide) ⟨N_192, e_192⟩ (by decide) (by decide)
      · refine Got.step (T' := T_192) (g' := (mkF m 209 #[.val (.int p0)] [(.int (1 : Int32))])) (fun tq kt => ?_) ?_
        · show Steps p.tables e below (T_192.setTop (mkF m 201 #[.val (.int p0)] [(.int (983039 : Int32)), (.int p0)])) _
          refine XS.icmpNo X_192.here hx rfl (hb hby d1_201) rfl (XT.ii_gt_f hc30) ?_
          show Steps p.tables e below (T_192.setTop (mkF m 204 #[.val (.int p0)] [])) _
          refine XS.iconst X_192.here hx rfl (hb hby d1_204) ?_
          show Steps p.tables e below (T_192.setTop (mkF m 205 #[.val (.int p0)] [(.int (1 : Int32))])) _
          refine XS.goto X_192.here hx rfl (pc0 := 205) (pc' := 209) rfl (hb hby d1_205) (by decide) (by decide) ?_
          exact kt
        exact Got.retN (y := (1 : Int32)) (t := .boolean) X_192 hx Bd.returns (by simp) hlk (hb hby d1_209) (by decide) ⟨N_192, e_192⟩ (by decide) (by decide)
  have J180 : ∀ (T_180 : State) (L_180 : List Loc), Stand p l e ({ frames := 0, cells := 0, slots := 0, locals := 0 } : Room) s m #[(.int p0)] below meth c T_180 L_180 0 0 → T_180.heap = h0 → Fr n0 L_180 → Got p e below s (PureP n0 h0) 0 0 (some (.int (f1_180 p0 ))) T_180 (mkF m 180 #[.val (.int p0)] []) := by
    intro T_180 L_180 X_180 e_180 N_180 
    refine Got.step (T' := T_180) (g' := (mkF m 183 #[.val (.int p0)] [(.int (65008 : Int32)), (.int p0)])) (fun tq kt => ?_) ?_
    · show Steps p.tables e below (T_180.setTop (mkF m 180 #[.val (.int p0)] [])) _
      refine XS.iloadN X_180.here hx rfl (hb hby d1_180) rfl ?_
      show Steps p.tables e below (T_180.setTop (mkF m 181 #[.val (.int p0)] [(.int p0)])) _
      refine X_180.ldcI hx hown (mvT hZ (hw _ (List.mem_of_getElem? (i := 21) rfl))) rfl (hb hby d1_181) ?_
      exact kt
    refine Got.ite (q := (p0 < (65008 : Int32))) (fun hc27 => ?_) (fun hc27 => ?_)
    · refine Got.step (T' := T_180) (g' := (mkF m 192 #[.val (.int p0)] [])) (fun tq kt => ?_) ?_
      · show Steps p.tables e below (T_180.setTop (mkF m 183 #[.val (.int p0)] [(.int (65008 : Int32)), (.int p0)])) _
        refine XS.icmpYes X_180.here hx rfl (pc0 := 183) (pc' := 192) rfl (hb hby d1_183) rfl (XT.ii_lt_t hc27) (by decide) (by decide) ?_
        exact kt
      exact J192 _ _ X_180 e_180 N_180 
    · refine Got.step (T' := T_180) (g' := (mkF m 189 #[.val (.int p0)] [(.int (65533 : Int32)), (.int p0)])) (fun tq kt => ?_) ?_
      · show Steps p.tables e below (T_180.setTop (mkF m 183 #[.val (.int p0)] [(.int (65008 : Int32)), (.int p0)])) _
        refine XS.icmpNo X_180.here hx rfl (hb hby d1_183) rfl (XT.ii_lt_f hc27) ?_
        show Steps p.tables e below (T_180.setTop (mkF m 186 #[.val (.int p0)] [])) _
        refine XS.iloadN X_180.here hx rfl (hb hby d1_186) rfl ?_
        show Steps p.tables e below (T_180.setTop (mkF m 187 #[.val (.int p0)] [(.int p0)])) _
        refine X_180.ldcI hx hown (mvT hZ (hw _ (List.mem_of_getElem? (i := 25) rfl))) rfl (hb hby d1_187) ?_
        exact kt
      refine Got.ite (q := ((65533 : Int32) < p0)) (fun hc28 => ?_) (fun hc28 => ?_)
      · refine Got.step (T' := T_180) (g' := (mkF m 192 #[.val (.int p0)] [])) (fun tq kt => ?_) ?_
        · show Steps p.tables e below (T_180.setTop (mkF m 189 #[.val (.int p0)] [(.int (65533 : Int32)), (.int p0)])) _
          refine XS.icmpNo X_180.here hx rfl (hb hby d1_189) rfl (XT.ii_le_f hc28) ?_
          exact kt
        exact J192 _ _ X_180 e_180 N_180 
      · refine Got.step (T' := T_180) (g' := (mkF m 209 #[.val (.int p0)] [(.int (1 : Int32))])) (fun tq kt => ?_) ?_
        · show Steps p.tables e below (T_180.setTop (mkF m 189 #[.val (.int p0)] [(.int (65533 : Int32)), (.int p0)])) _
          refine XS.icmpYes X_180.here hx rfl (pc0 := 189) (pc' := 204) rfl (hb hby d1_189) rfl (XT.ii_le_t hc28) (by decide) (by decide) ?_
          show Steps p.tables e below (T_180.setTop (mkF m 204 #[.val (.int p0)] [])) _
          refine XS.iconst X_180.here hx rfl (hb hby d1_204) ?_
          show Steps p.tables e below (T_180.setTop (mkF m 205 #[.val (.int p0)] [(.int (1 : Int32))])) _
          refine XS.goto X_180.here hx rfl (pc0 := 205) (pc' := 209) rfl (hb hby d1_205) (by decide) (by decide) ?_
          exact kt
        exact Got.retN (y := (1 : Int32)) (t := .boolean) X_180 hx Bd.returns (by simp) hlk (hb hby d1_209) (by decide) ⟨N_180, e_180⟩ (by decide) (by decide)
  have J168 : ∀ (T_168 : State) (L_168 : List Loc), Stand p l e ({ frames := 0, cells := 0, slots := 0, locals := 0 } : Room) s m #[(.int p0)] below meth c T_168 L_168 0 0 → T_168.heap = h0 → Fr n0 L_168 → Got p e below s (PureP n0 h0) 0 0 (some (.int (f1_168 p0 ))) T_168 (mkF m 168 #[.val (.int p0)] []) := by
    intro T_168 L_168 X_168 e_168 N_168 
    refine Got.step (T' := T_168) (g' := (mkF m 171 #[.val (.int p0)] [(.int (63744 : Int32)), (.int p0)])) (fun tq kt => ?_) ?_
    · show Steps p.tables e below (T_168.setTop (mkF m 168 #[.val (.int p0)] [])) _
      refine XS.iloadN X_168.here hx rfl (hb hby d1_168) rfl ?_
      show Steps p.tables e below (T_168.setTop (mkF m 169 #[.val (.int p0)] [(.int p0)])) _
      refine X_168.ldcI hx hown (mvT hZ (hw _ (List.mem_of_getElem? (i := 20) rfl))) rfl (hb hby d1_169) ?_
      exact kt
    refine Got.ite (q := (p0 < (63744 : Int32))) (fun hc25 => ?_) (fun hc25 => ?_)
    · refine Got.step (T' := T_168) (g' := (mkF m 180 #[.val (.int p0)] [])) (fun tq kt => ?_) ?_
      · show Steps p.tables e below (T_168.setTop (mkF m 171 #[.val (.int p0)] [(.int (63744 : Int32)), (.int p0)])) _
        refine XS.icmpYes X_168.here hx rfl (pc0 := 171) (pc' := 180) rfl (hb hby d1_171) rfl (XT.ii_lt_t hc25) (by decide) (by decide) ?_
        exact kt
      exact J180 _ _ X_168 e_168 N_168 
    · refine Got.step (T' := T_168) (g' := (mkF m 177 #[.val (.int p0)] [(.int (64975 : Int32)), (.int p0)])) (fun tq kt => ?_) ?_
      · show Steps p.tables e below (T_168.setTop (mkF m 171 #[.val (.int p0)] [(.int (63744 : Int32)), (.int p0)])) _
        refine XS.icmpNo X_168.here hx rfl (hb hby d1_171) rfl (XT.ii_lt_f hc25) ?_
        show Steps p.tables e below (T_168.setTop (mkF m 174 #[.val (.int p0)] [])) _
        refine XS.iloadN X_168.here hx rfl (hb hby d1_174) rfl ?_
        show Steps p.tables e below (T_168.setTop (mkF m 175 #[.val (.int p0)] [(.int p0)])) _
        refine X_168.ldcI hx hown (mvT hZ (hw _ (List.mem_of_getElem? (i := 24) rfl))) rfl (hb hby d1_175) ?_
        exact kt
      refine Got.ite (q := ((64975 : Int32) < p0)) (fun hc26 => ?_) (fun hc26 => ?_)
      · refine Got.step (T' := T_168) (g' := (mkF m 180 #[.val (.int p0)] [])) (fun tq kt => ?_) ?_
        · show Steps p.tables e below (T_168.setTop (mkF m 177 #[.val (.int p0)] [(.int (64975 : Int32)), (.int p0)])) _
          refine XS.icmpNo X_168.here hx rfl (hb hby d1_177) rfl (XT.ii_le_f hc26) ?_
          exact kt
        exact J180 _ _ X_168 e_168 N_168 
      · refine Got.step (T' := T_168) (g' := (mkF m 209 #[.val (.int p0)] [(.int (1 : Int32))])) (fun tq kt => ?_) ?_
        · show Steps p.tables e below (T_168.setTop (mkF m 177 #[.val (.int p0)] [(.int (64975 : Int32)), (.int p0)])) _
          refine XS.icmpYes X_168.here hx rfl (pc0 := 177) (pc' := 204) rfl (hb hby d1_177) rfl (XT.ii_le_t hc26) (by decide) (by decide) ?_
          show Steps p.tables e below (T_168.setTop (mkF m 204 #[.val (.int p0)] [])) _
          refine XS.iconst X_168.here hx rfl (hb hby d1_204) ?_
          show Steps p.tables e below (T_168.setTop (mkF m 205 #[.val (.int p0)] [(.int (1 : Int32))])) _
          refine XS.goto X_168.here hx rfl (pc0 := 205) (pc' := 209) rfl (hb hby d1_205) (by decide) (by decide) ?_
          exact kt
        exact Got.retN (y := (1 : Int32)) (t := .boolean) X_168 hx Bd.returns (by simp) hlk (hb hby d1_209) (by decide) ⟨N_168, e_168⟩ (by decide) (by decide)
  have J155 : ∀ (T_155 : State) (L_155 : List Loc), Stand p l e ({ frames := 0, cells := 0, slots := 0, locals := 0 } : Room) s m #[(.int p0)] below meth c T_155 L_155 0 0 → T_155.heap = h0 → Fr n0 L_155 → Got p e below s (PureP n0 h0) 0 0 (some (.int (f1_155 p0 ))) T_155 (mkF m 155 #[.val (.int p0)] []) := by
    intro T_155 L_155 X_155 e_155 N_155 
    refine Got.step (T' := T_155) (g' := (mkF m 159 #[.val (.int p0)] [(.int (12289 : Int32)), (.int p0)])) (fun tq kt => ?_) ?_
    · show Steps p.tables e below (T_155.setTop (mkF m 155 #[.val (.int p0)] [])) _
      refine XS.iloadN X_155.here hx rfl (hb hby d1_155) rfl ?_
      show Steps p.tables e below (T_155.setTop (mkF m 156 #[.val (.int p0)] [(.int p0)])) _
      refine XS.sipush X_155.here hx rfl (hb hby d1_156) ?_
      exact kt
    refine Got.ite (q := (p0 < (12289 : Int32))) (fun hc23 => ?_) (fun hc23 => ?_)
    · refine Got.step (T' := T_155) (g' := (mkF m 168 #[.val (.int p0)] [])) (fun tq kt => ?_) ?_
      · show Steps p.tables e below (T_155.setTop (mkF m 159 #[.val (.int p0)] [(.int (12289 : Int32)), (.int p0)])) _
        refine XS.icmpYes X_155.here hx rfl (pc0 := 159) (pc' := 168) rfl (hb hby d1_159) rfl (XT.ii_lt_t hc23) (by decide) (by decide) ?_
        exact kt
      exact J168 _ _ X_155 e_155 N_155 
    · refine Got.step (T' := T_155) (g' := (mkF m 165 #[.val (.int p0)] [(.int (55295 : Int32)), (.int p0)])) (fun tq kt => ?_) ?_
      · show Steps p.tables e below (T_155.setTop (mkF m 159 #[.val (.int p0)] [(.int (12289 : Int32)), (.int p0)])) _
        refine XS.icmpNo X_155.here hx rfl (hb hby d1_159) rfl (XT.ii_lt_f hc23) ?_
        show Steps p.tables e below (T_155.setTop (mkF m 162 #[.val (.int p0)] [])) _
        refine XS.iloadN X_155.here hx rfl (hb hby d1_162) rfl ?_
        show Steps p.tables e below (T_155.setTop (mkF m 163 #[.val (.int p0)] [(.int p0)])) _
        refine X_155.ldcI hx hown (mvT hZ (hw _ (List.mem_of_getElem? (i := 23) rfl))) rfl (hb hby d1_163) ?_
        exact kt
      refine Got.ite (q := ((55295 : Int32) < p0)) (fun hc24 => ?_) (fun hc24 => ?_)
      · refine Got.step (T' := T_155) (g' := (mkF m 168 #[.val (.int p0)] [])) (fun tq kt => ?_) ?_
        · show Steps p.tables e below (T_155.setTop (mkF m 165 #[.val (.int p0)] [(.int (55295 : Int32)), (.int p0)])) _
          refine XS.icmpNo X_155.here hx rfl (hb hby d1_165) rfl (XT.ii_le_f hc24) ?_
          exact kt
        exact J168 _ _ X_155 e_155 N_155 
      · refine Got.step (T' := T_155) (g' := (mkF m 209 #[.val (.int p0)] [(.int (1 : Int32))])) (fun tq kt => ?_) ?_
        · show Steps p.tables e below (T_155.setTop (mkF m 165 #[.val (.int p0)] [(.int (55295 : Int32)), (.int p0)])) _
          refine XS.icmpYes X_155.here hx rfl (pc0 := 165) (pc' := 204) rfl (hb hby d1_165) rfl (XT.ii_le_t hc24) (by decide) (by decide) ?_
          show Steps p.tables e below (T_155.setTop (mkF m 204 #[.val (.int p0)] [])) _
          refine XS.iconst X_155.here hx rfl (hb hby d1_204) ?_
          show Steps p.tables e below (T_155.setTop (mkF m 205 #[.val (.int p0)] [(.int (1 : Int32))])) _
          refine XS.goto X_155.here hx rfl (pc0 := 205) (pc' := 209) rfl (hb hby d1_205) (by decide) (by decide) ?_
          exact kt
        exact Got.retN (y := (1 : Int32)) (t := .boolean) X_155 hx Bd.returns (by simp) hlk (hb hby d1_209) (by decide) ⟨N_155, e_155⟩ (by decide) (by decide)
  have J141 : ∀ (T_141 : State) (L_141 : List Loc), Stand p l e ({ frames := 0, cells := 0, slots := 0, locals := 0 } : Room) s m #[(.int p0)] below meth c T_141 L_141 0 0 → T_141.heap = h0 → Fr n0 L_141 → Got p e below s (PureP n0 h0) 0 0 (some (.int (f1_141 p0 ))) T_141 (mkF m 141 #[.val (.int p0)] []) := by
    intro T_141 L_141 X_141 e_141 N_141 
    refine Got.step (T' := T_141) (g' := (mkF m 145 #[.val (.int p0)] [(.int (11264 : Int32)), (.int p0)])) (fun tq kt => ?_) ?_
    · show Steps p.tables e below (T_141.setTop (mkF m 141 #[.val (.int p0)] [])) _
      refine XS.iloadN X_141.here hx rfl (hb hby d1_141) rfl ?_
      show Steps p.tables e below (T_141.setTop (mkF m 142 #[.val (.int p0)] [(.int p0)])) _
      refine XS.sipush X_141.here hx rfl (hb hby d1_142) ?_
      exact kt
    refine Got.ite (q := (p0 < (11264 : Int32))) (fun hc21 => ?_) (fun hc21 => ?_)
    · refine Got.step (T' := T_141) (g' := (mkF m 155 #[.val (.int p0)] [])) (fun tq kt => ?_) ?_
      · show Steps p.tables e below (T_141.setTop (mkF m 145 #[.val (.int p0)] [(.int (11264 : Int32)), (.int p0)])) _
        refine XS.icmpYes X_141.here hx rfl (pc0 := 145) (pc' := 155) rfl (hb hby d1_145) rfl (XT.ii_lt_t hc21) (by decide) (by decide) ?_
        exact kt
      exact J155 _ _ X_141 e_141 N_141 
    · refine Got.step (T' := T_141) (g' := (mkF m 152 #[.val (.int p0)] [(.int (12271 : Int32)), (.int p0)])) (fun tq kt => ?_) ?_
      · show Steps p.tables e below (T_141.setTop (mkF m 145 #[.val (.int p0)] [(.int (11264 : Int32)), (.int p0)])) _
        refine XS.icmpNo X_141.here hx rfl (hb hby d1_145) rfl (XT.ii_lt_f hc21) ?_
        show Steps p.tables e below (T_141.setTop (mkF m 148 #[.val (.int p0)] [])) _
        refine XS.iloadN X_141.here hx rfl (hb hby d1_148) rfl ?_
        show Steps p.tables e below (T_141.setTop (mkF m 149 #[.val (.int p0)] [(.int p0)])) _
        refine XS.sipush X_141.here hx rfl (hb hby d1_149) ?_
        exact kt
      refine Got.ite (q := ((12271 : Int32) < p0)) (fun hc22 => ?_) (fun hc22 => ?_)
      · refine Got.step (T' := T_141) (g' := (mkF m 155 #[.val (.int p0)] [])) (fun tq kt => ?_) ?_
        · show Steps p.tables e below (T_141.setTop (mkF m 152 #[.val (.int p0)] [(.int (12271 : Int32)), (.int p0)])) _
          refine XS.icmpNo X_141.here hx rfl (hb hby d1_152) rfl (XT.ii_le_f hc22) ?_
          exact kt
        exact J155 _ _ X_141 e_141 N_141 
      · refine Got.step (T' := T_141) (g' := (mkF m 209 #[.val (.int p0)] [(.int (1 : Int32))])) (fun tq kt => ?_) ?_
        · show Steps p.tables e below (T_141.setTop (mkF m 152 #[.val (.int p0)] [(.int (12271 : Int32)), (.int p0)])) _
          refine XS.icmpYes X_141.here hx rfl (pc0 := 152) (pc' := 204) rfl (hb hby d1_152) rfl (XT.ii_le_t hc22) (by decide) (by decide) ?_
          show Steps p.tables e below (T_141.setTop (mkF m 204 #[.val (.int p0)] [])) _
          refine XS.iconst X_141.here hx rfl (hb hby d1_204) ?_
          show Steps p.tables e below (T_141.setTop (mkF m 205 #[.val (.int p0)] [(.int (1 : Int32))])) _
          refine XS.goto X_141.here hx rfl (pc0 := 205) (pc' := 209) rfl (hb hby d1_205) (by decide) (by decide) ?_
          exact kt
        exact Got.retN (y := (1 : Int32)) (t := .boolean) X_141 hx Bd.returns (by simp) hlk (hb hby d1_209) (by decide) ⟨N_141, e_141⟩ (by decide) (by decide)
  have J127 : ∀ (T_127 : State) (L_127 : List Loc), Stand p l e ({ frames := 0, cells := 0, slots := 0, locals := 0 } : Room) s m #[(.int p0)] below meth c T_127 L_127 0 0 → T_127.heap = h0 → Fr n0 L_127 → Got p e below s (PureP n0 h0) 0 0 (some (.int (f1_127 p0 ))) T_127 (mkF m 127 #[.val (.int p0)] []) := by
    intro T_127 L_127 X_127 e_127 N_127 
    refine Got.step (T' := T_127) (g' := (mkF m 131 #[.val (.int p0)] [(.int (8304 : Int32)), (.int p0)])) (fun tq kt => ?_) ?_
    · show Steps p.tables e below (T_127.setTop (mkF m 127 #[.val (.int p0)] [])) _
      refine XS.iloadN X_127.here hx rfl (hb hby d1_127) rfl ?_
      show Steps p.tables e below (T_127.setTop (mkF m 128 #[.val (.int p0)] [(.int p0)])) _
      refine XS.sipush X_127.here hx rfl (hb hby d1_128) ?_
      exact kt
    refine Got.ite (q := (p0 < (8304 : Int32))) (fun hc19 => ?_) (fun hc19 => ?_)
    · refine Got.step (T' := T_127) (g' := (mkF m 141 #[.val (.int p0)] [])) (fun tq kt => ?_) ?_
      · show Steps p.tables e below (T_127.setTop (mkF m 131 #[.val (.int p0)] [(.int (8304 : Int32)), (.int p0)])) _
        refine XS.icmpYes X_127.here hx rfl (pc0 := 131) (pc' := 141) rfl (hb hby d1_131) rfl (XT.ii_lt_t hc19) (by decide) (by decide) ?_
        exact kt
      exact J141 _ _ X_127 e_127 N_127 
    · refine Got.step (T' := T_127) (g' := (mkF m 138 #[.val (.int p0)] [(.int (8591 : Int32)), (.int p0)])) (fun tq kt => ?_) ?_
      · show Steps p.tables e below (T_127.setTop (mkF m 131 #[.val (.int p0)] [(.int (8304 : Int32)), (.int p0)])) _
        refine XS.icmpNo X_127.here hx rfl (hb hby d1_131) rfl (XT.ii_lt_f hc19) ?_
        show Steps p.tables e below (T_127.setTop (mkF m 134 #[.val (.int p0)] [])) _
        refine XS.iloadN X_127.here hx rfl (hb hby d1_134) rfl ?_
        show Steps p.tables e below (T_127.setTop (mkF m 135 #[.val (.int p0)] [(.int p0)])) _
        refine XS.sipush X_127.here hx rfl (hb hby d1_135) ?_
        exact kt
      refine Got.ite (q := ((8591 : Int32) < p0)) (fun hc20 => ?_) (fun hc20 => ?_)
      · refine Got.step (T' := T_127) (g' := (mkF m 141 #[.val (.int p0)] [])) (fun tq kt => ?_) ?_
        · show Steps p.tables e below (T_127.setTop (mkF m 138 #[.val (.int p0)] [(.int (8591 : Int32)), (.int p0)])) _
          refine XS.icmpNo X_127.here hx rfl (hb hby d1_138) rfl (XT.ii_le_f hc20) ?_
          exact kt
        exact J141 _ _ X_127 e_127 N_127 
      · refine Got.step (T' := T_127) (g' := (mkF m 209 #[.val (.int p0)] [(.int (1 : Int32))])) (fun tq kt => ?_) ?_
        · show Steps p.tables e below (T_127.setTop (mkF m 138 #[.val (.int p0)] [(.int (8591 : Int32)), (.int p0)])) _
          refine XS.icmpYes X_127.here hx rfl (pc0 := 138) (pc' := 204) rfl (hb hby d1_138) rfl (XT.ii_le_t hc20) (by decide) (by decide) ?_
          show Steps p.tables e below (T_127.setTop (mkF m 204 #[.val (.int p0)] [])) _
          refine XS.iconst X_127.here hx rfl (hb hby d1_204) ?_
          show Steps p.tables e below (T_127.setTop (mkF m 205 #[.val (.int p0)] [(.int (1 : Int32))])) _
          refine XS.goto X_127.here hx rfl (pc0 := 205) (pc' := 209) rfl (hb hby d1_205) (by decide) (by decide) ?_
          exact kt
        exact Got.retN (y := (1 : Int32)) (t := .boolean) X_127 hx Bd.returns (by simp) hlk (hb hby d1_209) (by decide) ⟨N_127, e_127⟩ (by decide) (by decide)
  have J113 : ∀ (T_113 : State) (L_113 : List Loc), Stand p l e ({ frames := 0, cells := 0, slots := 0, locals := 0 } : Room) s m #[(.int p0)] below meth c T_113 L_113 0 0 → T_113.heap = h0 → Fr n0 L_113 → Got p e below s (PureP n0 h0) 0 0 (some (.int (f1_113 p0 ))) T_113 (mkF m 113 #[.val (.int p0)] []) := by
    intro T_113 L_113 X_113 e_113 N_113 
    refine Got.step (T' := T_113) (g' := (mkF m 117 #[.val (.int p0)] [(.int (8204 : Int32)), (.int p0)])) (fun tq kt => ?_) ?_
    · show Steps p.tables e below (T_113.setTop (mkF m 113 #[.val (.int p0)] [])) _
      refine XS.iloadN X_113.here hx rfl (hb hby d1_113) rfl ?_
      show Steps p.tables e below (T_113.setTop (mkF m 114 #[.val (.int p0)] [(.int p0)])) _
      refine XS.sipush X_113.here hx rfl (hb hby d1_114) ?_
      exact kt
    refine Got.ite (q := (p0 < (8204 : Int32))) (fun hc17 => ?_) (fun hc17 => ?_)
    · refine Got.step (T' := T_113) (g' := (mkF m 127 #[.val (.int p0)] [])) (fun tq kt => ?_) ?_
      · show Steps p.tables e below (T_113.setTop (mkF m 117 #[.val (.int p0)] [(.int (8204 : Int32)), (.int p0)])) _
        refine XS.icmpYes X_113.here hx rfl (pc0 := 117) (pc' := 127) rfl (hb hby d1_117) rfl (XT.ii_lt_t hc17) (by decide) (by decide) ?_
        exact kt
      exact J127 _ _ X_113 e_113 N_113 
    · refine Got.step (T' := T_113) (g' := (mkF m 124 #[.val (.int p0)] [(.int (8205 : Int32)), (.int p0)])) (fun tq kt => ?_) ?_
      · show Steps p.tables e below (T_113.setTop (mkF m 117 #[.val (.int p0)] [(.int (8204 : Int32)), (.int p0)])) _
        refine XS.icmpNo X_113.here hx rfl (hb hby d1_117) rfl (XT.ii_lt_f hc17) ?_
        show Steps p.tables e below (T_113.setTop (mkF m 120 #[.val (.int p0)] [])) _
        refine XS.iloadN X_113.here hx rfl (hb hby d1_120) rfl ?_
        show Steps p.tables e below (T_113.setTop (mkF m 121 #[.val (.int p0)] [(.int p0)])) _
        refine XS.sipush X_113.here hx rfl (hb hby d1_121) ?_
        exact kt
      refine Got.ite (q := ((8205 : Int32) < p0)) (fun hc18 => ?_) (fun hc18 => ?_)
      · refine Got.step (T' := T_113) (g' := (mkF m 127 #[.val (.int p0)] [])) (fun tq kt => ?_) ?_
        · show Steps p.tables e below (T_113.setTop (mkF m 124 #[.val (.int p0)] [(.int (8205 : Int32)), (.int p0)])) _
          refine XS.icmpNo X_113.here hx rfl (hb hby d1_124) rfl (XT.ii_le_f hc18) ?_
          exact kt
        exact J127 _ _ X_113 e_113 N_113 
      · refine Got.step (T' := T_113) (g' := (mkF m 209 #[.val (.int p0)] [(.int (1 : Int32))])) (fun tq kt => ?_) ?_
        · show Steps p.tables e below (T_113.setTop (mkF m 124 #[.val (.int p0)] [(.int (8205 : Int32)), (.int p0)])) _
          refine XS.icmpYes X_113.here hx rfl (pc0 := 124) (pc' := 204) rfl (hb hby d1_124) rfl (XT.ii_le_t hc18) (by decide) (by decide) ?_
          show Steps p.tables e below (T_113.setTop (mkF m 204 #[.val (.int p0)] [])) _
          refine XS.iconst X_113.here hx rfl (hb hby d1_204) ?_
          show Steps p.tables e below (T_113.setTop (mkF m 205 #[.val (.int p0)] [(.int (1 : Int32))])) _
          refine XS.goto X_113.here hx rfl (pc0 := 205) (pc' := 209) rfl (hb hby d1_205) (by decide) (by decide) ?_
          exact kt
        exact Got.retN (y := (1 : Int32)) (t := .boolean) X_113 hx Bd.returns (by simp) hlk (hb hby d1_209) (by decide) ⟨N_113, e_113⟩ (by decide) (by decide)
  have J99 : ∀ (T_99 : State) (L_99 : List Loc), Stand p l e ({ frames := 0, cells := 0, slots := 0, locals := 0 } : Room) s m #[(.int p0)] below meth c T_99 L_99 0 0 → T_99.heap = h0 → Fr n0 L_99 → Got p e below s (PureP n0 h0) 0 0 (some (.int (f1_99 p0 ))) T_99 (mkF m 99 #[.val (.int p0)] []) := by
    intro T_99 L_99 X_99 e_99 N_99 
    refine Got.step (T' := T_99) (g' := (mkF m 103 #[.val (.int p0)] [(.int (895 : Int32)), (.int p0)])) (fun tq kt => ?_) ?_
    · show Steps p.tables e below (T_99.setTop (mkF m 99 #[.val (.int p0)] [])) _
      refine XS.iloadN X_99.here hx rfl (hb hby d1_99) rfl ?_
      show Steps p.tables e below (T_99.setTop (mkF m 100 #[.val (.int p0)] [(.int p0)])) _
      refine XS.sipush X_99.here hx rfl (hb hby d1_100) ?_
      exact kt
    refine Got.ite (q := (p0 < (895 : Int32))) (fun hc15 => ?_) (fun hc15 => ?_)
    · refine Got.step (T' := T_99) (g' := (mkF m 113 #[.val (.int p0)] [])) (fun tq kt => ?_) ?_
      · show Steps p.tables e below (T_99.setTop (mkF m 103 #[.val (.int p0)] [(.int (895 : Int32)), (.int p0)])) _
        refine XS.icmpYes X_99.here hx rfl (pc0 := 103) (pc' := 113) rfl (hb hby d1_103) rfl (XT.ii_lt_t hc15) (by decide) (by decide) ?_
        exact kt
      exact J113 _ _ X_99 e_99 N_99 
    · refine Got.step (T' := T_99) (g' := (mkF m 110 #[.val (.int p0)] [(.int (8191 : Int32)), (.int p0)])) (fun tq kt => ?_) ?_
      · show Steps p.tables e below (T_99.setTop (mkF m 103 #[.val (.int p0)] [(.int (895 : Int32)), (.int p0)])) _
        refine XS.icmpNo X_99.here hx rfl (hb hby d1_103) rfl (XT.ii_lt_f hc15) ?_
        show Steps p.tables e below (T_99.setTop (mkF m 106 #[.val (.int p0)] [])) _
        refine XS.iloadN X_99.here hx rfl (hb hby d1_106) rfl ?_
        show Steps p.tables e below (T_99.setTop (mkF m 107 #[.val (.int p0)] [(.int p0)])) _
        refine XS.sipush X_99.here hx rfl (hb hby d1_107) ?_
        exact kt
      refine Got.ite (q := ((8191 : Int32) < p0)) (fun hc16 => ?_) (fun hc16 => ?_)
      · refine Got.step (T' := T_99) (g' := (mkF m 113 #[.val (.int p0)] [])) (fun tq kt => ?_) ?_
        · show Steps p.tables e below (T_99.setTop (mkF m 110 #[.val (.int p0)] [(.int (8191 : Int32)), (.int p0)])) _
          refine XS.icmpNo X_99.here hx rfl (hb hby d1_110) rfl (XT.ii_le_f hc16) ?_
          exact kt
        exact J113 _ _ X_99 e_99 N_99 
      · refine Got.step (T' := T_99) (g' := (mkF m 209 #[.val (.int p0)] [(.int (1 : Int32))])) (fun tq kt => ?_) ?_
        · show Steps p.tables e below (T_99.setTop (mkF m 110 #[.val (.int p0)] [(.int (8191 : Int32)), (.int p0)])) _
          refine XS.icmpYes X_99.here hx rfl (pc0 := 110) (pc' := 204) rfl (hb hby d1_110) rfl (XT.ii_le_t hc16) (by decide) (by decide) ?_
          show Steps p.tables e below (T_99.setTop (mkF m 204 #[.val (.int p0)] [])) _
          refine XS.iconst X_99.here hx rfl (hb hby d1_204) ?_
          show Steps p.tables e below (T_99.setTop (mkF m 205 #[.val (.int p0)] [(.int (1 : Int32))])) _
          refine XS.goto X_99.here hx rfl (pc0 := 205) (pc' := 209) rfl (hb hby d1_205) (by decide) (by decide) ?_
          exact kt
        exact Got.retN (y := (1 : Int32)) (t := .boolean) X_99 hx Bd.returns (by simp) hlk (hb hby d1_209) (by decide) ⟨N_99, e_99⟩ (by decide) (by decide)
  have J85 : ∀ (T_85 : State) (L_85 : List Loc), Stand p l e ({ frames := 0, cells := 0, slots := 0, locals := 0 } : Room) s m #[(.int p0)] below meth c T_85 L_85 0 0 → T_85.heap = h0 → Fr n0 L_85 → Got p e below s (PureP n0 h0) 0 0 (some (.int (f1_85 p0 ))) T_85 (mkF m 85 #[.val (.int p0)] []) := by
    intro T_85 L_85 X_85 e_85 N_85 
    refine Got.step (T' := T_85) (g' := (mkF m 89 #[.val (.int p0)] [(.int (880 : Int32)), (.int p0)])) (fun tq kt => ?_) ?_
    · show Steps p.tables e below (T_85.setTop (mkF m 85 #[.val (.int p0)] [])) _
      refine XS.iloadN X_85.here hx rfl (hb hby d1_85) rfl ?_
      show Steps p.tables e below (T_85.setTop (mkF m 86 #[.val (.int p0)] [(.int p0)])) _
      refine XS.sipush X_85.here hx rfl (hb hby d1_86) ?_
      exact kt
    refine Got.ite (q := (p0 < (880 : Int32))) (fun hc13 => ?_) (fun hc13 => ?_)
    · refine Got.step (T' := T_85) (g' := (mkF m 99 #[.val (.int p0)] [])) (fun tq kt => ?_) ?_
      · show Steps p.tables e below (T_85.setTop (mkF m 89 #[.val (.int p0)] [(.int (880 : Int32)), (.int p0)])) _
        refine XS.icmpYes X_85.here hx rfl (pc0 := 89) (pc' := 99) rfl (hb hby d1_89) rfl (XT.ii_lt_t hc13) (by decide) (by decide) ?_
        exact kt
      exact J99 _ _ X_85 e_85 N_85 
    · refine Got.step (T' := T_85) (g' := (mkF m 96 #[.val (.int p0)] [(.int (893 : Int32)), (.int p0)])) (fun tq kt => ?_) ?_
      · show Steps p.tables e below (T_85.setTop (mkF m 89 #[.val (.int p0)] [(.int (880 : Int32)), (.int p0)])) _
        refine XS.icmpNo X_85.here hx rfl (hb hby d1_89) rfl (XT.ii_lt_f hc13) ?_
        show Steps p.tables e below (T_85.setTop (mkF m 92 #[.val (.int p0)] [])) _
        refine XS.iloadN X_85.here hx rfl (hb hby d1_92) rfl ?_
        show Steps p.tables e below (T_85.setTop (mkF m 93 #[.val (.int p0)] [(.int p0)])) _
        refine XS.sipush X_85.here hx rfl (hb hby d1_93) ?_
        exact kt
      refine Got.ite (q := ((893 : Int32) < p0)) (fun hc14 => ?_) (fun hc14 => ?_)
      · refine Got.step (T' := T_85) (g' := (mkF m 99 #[.val (.int p0)] [])) (fun tq kt => ?_) ?_
        · show Steps p.tables e below (T_85.setTop (mkF m 96 #[.val (.int p0)] [(.int (893 : Int32)), (.int p0)])) _
          refine XS.icmpNo X_85.here hx rfl (hb hby d1_96) rfl (XT.ii_le_f hc14) ?_
          exact kt
        exact J99 _ _ X_85 e_85 N_85 
      · refine Got.step (T' := T_85) (g' := (mkF m 209 #[.val (.int p0)] [(.int (1 : Int32))])) (fun tq kt => ?_) ?_
        · show Steps p.tables e below (T_85.setTop (mkF m 96 #[.val (.int p0)] [(.int (893 : Int32)), (.int p0)])) _
          refine XS.icmpYes X_85.here hx rfl (pc0 := 96) (pc' := 204) rfl (hb hby d1_96) rfl (XT.ii_le_t hc14) (by decide) (by decide) ?_
          show Steps p.tables e below (T_85.setTop (mkF m 204 #[.val (.int p0)] [])) _
          refine XS.iconst X_85.here hx rfl (hb hby d1_204) ?_
          show Steps p.tables e below (T_85.setTop (mkF m 205 #[.val (.int p0)] [(.int (1 : Int32))])) _
          refine XS.goto X_85.here hx rfl (pc0 := 205) (pc' := 209) rfl (hb hby d1_205) (by decide) (by decide) ?_
          exact kt
        exact Got.retN (y := (1 : Int32)) (t := .boolean) X_85 hx Bd.returns (by simp) hlk (hb hby d1_209) (by decide) ⟨N_85, e_85⟩ (by decide) (by decide)
  have J71 : ∀ (T_71 : State) (L_71 : List Loc), Stand p l e ({ frames := 0, cells := 0, slots := 0, locals := 0 } : Room) s m #[(.int p0)] below meth c T_71 L_71 0 0 → T_71.heap = h0 → Fr n0 L_71 → Got p e below s (PureP n0 h0) 0 0 (some (.int (f1_71 p0 ))) T_71 (mkF m 71 #[.val (.int p0)] []) := by
    intro T_71 L_71 X_71 e_71 N_71 
    refine Got.step (T' := T_71) (g' := (mkF m 75 #[.val (.int p0)] [(.int (248 : Int32)), (.int p0)])) (fun tq kt => ?_) ?_
    · show Steps p.tables e below (T_71.setTop (mkF m 71 #[.val (.int p0)] [])) _
      refine XS.iloadN X_71.here hx rfl (hb hby d1_71) rfl ?_
      show Steps p.tables e below (T_71.setTop (mkF m 72 #[.val (.int p0)] [(.int p0)])) _
      refine XS.sipush X_71.here hx rfl (hb hby d1_72) ?_
      exact kt
    refine Got.ite (q := (p0 < (248 : Int32))) (fun hc11 => ?_) (fun hc11 => ?_)
    · refine Got.step (T' := T_71) (g' := (mkF m 85 #[.val (.int p0)] [])) (fun tq kt => ?_) ?_
      · show Steps p.tables e below (T_71.setTop (mkF m 75 #[.val (.int p0)] [(.int (248 : Int32)), (.int p0)])) _
        refine XS.icmpYes X_71.here hx rfl (pc0 := 75) (pc' := 85) rfl (hb hby d1_75) rfl (XT.ii_lt_t hc11) (by decide) (by decide) ?_
        exact kt
      exact J85 _ _ X_71 e_71 N_71 
    · refine Got.step (T' := T_71) (g' := (mkF m 82 #[.val (.int p0)] [(.int (767 : Int32)), (.int p0)])) (fun tq kt => ?_) ?_
      · show Steps p.tables e below (T_71.setTop (mkF m 75 #[.val (.int p0)] [(.int (248 : Int32)), (.int p0)])) _
        refine XS.icmpNo X_71.here hx rfl (hb hby d1_75) rfl (XT.ii_lt_f hc11) ?_
        show Steps p.tables e below (T_71.setTop (mkF m 78 #[.val (.int p0)] [])) _
        refine XS.iloadN X_71.here hx rfl (hb hby d1_78) rfl ?_
        show Steps p.tables e below (T_71.setTop (mkF m 79 #[.val (.int p0)] [(.int p0)])) _
        refine XS.sipush X_71.here hx rfl (hb hby d1_79) ?_
        exact kt
      refine Got.ite (q := ((767 : Int32) < p0)) (fun hc12 => ?_) (fun hc12 => ?_)
      · refine Got.step (T' := T_71) (g' := (mkF m 85 #[.val (.int p0)] [])) (fun tq kt => ?_) ?_
        · show Steps p.tables e below (T_71.setTop (mkF m 82 #[.val (.int p0)] [(.int (767 : Int32)), (.int p0)])) _
          refine XS.icmpNo X_71.here hx rfl (hb hby d1_82) rfl (XT.ii_le_f hc12) ?_
          exact kt
        exact J85 _ _ X_71 e_71 N_71 
      · refine Got.step (T' := T_71) (g' := (mkF m 209 #[.val (.int p0)] [(.int (1 : Int32))])) (fun tq kt => ?_) ?_
        · show Steps p.tables e below (T_71.setTop (mkF m 82 #[.val (.int p0)] [(.int (767 : Int32)), (.int p0)])) _
          refine XS.icmpYes X_71.here hx rfl (pc0 := 82) (pc' := 204) rfl (hb hby d1_82) rfl (XT.ii_le_t hc12) (by decide) (by decide) ?_
          show Steps p.tables e below (T_71.setTop (mkF m 204 #[.val (.int p0)] [])) _
          refine XS.iconst X_71.here hx rfl (hb hby d1_204) ?_
          show Steps p.tables e below (T_71.setTop (mkF m 205 #[.val (.int p0)] [(.int (1 : Int32))])) _
          refine XS.goto X_71.here hx rfl (pc0 := 205) (pc' := 209) rfl (hb hby d1_205) (by decide) (by decide) ?_
          exact kt
        exact Got.retN (y := (1 : Int32)) (t := .boolean) X_71 hx Bd.returns (by simp) hlk (hb hby d1_209) (by decide) ⟨N_71, e_71⟩ (by decide) (by decide)
  have J57 : ∀ (T_57 : State) (L_57 : List Loc), Stand p l e ({ frames := 0, cells := 0, slots := 0, locals := 0 } : Room) s m #[(.int p0)] below meth c T_57 L_57 0 0 → T_57.heap = h0 → Fr n0 L_57 → Got p e below s (PureP n0 h0) 0 0 (some (.int (f1_57 p0 ))) T_57 (mkF m 57 #[.val (.int p0)] []) := by
    intro T_57 L_57 X_57 e_57 N_57 
    refine Got.step (T' := T_57) (g' := (mkF m 61 #[.val (.int p0)] [(.int (216 : Int32)), (.int p0)])) (fun tq kt => ?_) ?_
    · show Steps p.tables e below (T_57.setTop (mkF m 57 #[.val (.int p0)] [])) _
      refine XS.iloadN X_57.here hx rfl (hb hby d1_57) rfl ?_
      show Steps p.tables e below (T_57.setTop (mkF m 58 #[.val (.int p0)] [(.int p0)])) _
      refine XS.sipush X_57.here hx rfl (hb hby d1_58) ?_
      exact kt
    refine Got.ite (q := (p0 < (216 : Int32))) (fun hc9 => ?_) (fun hc9 => ?_)
    · refine Got.step (T' := T_57) (g' := (mkF m 71 #[.val (.int p0)] [])) (fun tq kt => ?_) ?_
      · show Steps p.tables e below (T_57.setTop (mkF m 61 #[.val (.int p0)] [(.int (216 : Int32)), (.int p0)])) _
        refine XS.icmpYes X_57.here hx rfl (pc0 := 61) (pc' := 71) rfl (hb hby d1_61) rfl (XT.ii_lt_t hc9) (by decide) (by decide) ?_
        exact kt
      exact J71 _ _ X_57 e_57 N_57 
    · refine Got.step (T' := T_57) (g' := (mkF m 68 #[.val (.int p0)] [(.int (246 : Int32)), (.int p0)])) (fun tq kt => ?_) ?_
      · show Steps p.tables e below (T_57.setTop (mkF m 61 #[.val (.int p0)] [(.int (216 : Int32)), (.int p0)])) _
        refine XS.icmpNo X_57.here hx rfl (hb hby d1_61) rfl (XT.ii_lt_f hc9) ?_
        show Steps p.tables e below (T_57.setTop (mkF m 64 #[.val (.int p0)] [])) _
        refine XS.iloadN X_57.here hx rfl (hb hby d1_64) rfl ?_
        show Steps p.tables e below (T_57.setTop (mkF m 65 #[.val (.int p0)] [(.int p0)])) _
        refine XS.sipush X_57.here hx rfl (hb hby d1_65) ?_
        exact kt
      refine Got.ite (q := ((246 : Int32) < p0)) (fun hc10 => ?_) (fun hc10 => ?_)
      · refine Got.step (T' := T_57) (g' := (mkF m 71 #[.val (.int p0)] [])) (fun tq kt => ?_) ?_
        · show Steps p.tables e below (T_57.setTop (mkF m 68 #[.val (.int p0)] [(.int (246 : Int32)), (.int p0)])) _
          refine XS.icmpNo X_57.here hx rfl (hb hby d1_68) rfl (XT.ii_le_f hc10) ?_
          exact kt
        exact J71 _ _ X_57 e_57 N_57 
      · refine Got.step (T' := T_57) (g' := (mkF m 209 #[.val (.int p0)] [(.int (1 : Int32))])) (fun tq kt => ?_) ?_
        · show Steps p.tables e below (T_57.setTop (mkF m 68 #[.val (.int p0)] [(.int (246 : Int32)), (.int p0)])) _
          refine XS.icmpYes X_57.here hx rfl (pc0 := 68) (pc' := 204) rfl (hb hby d1_68) rfl (XT.ii_le_t hc10) (by decide) (by decide) ?_
          show Steps p.tables e below (T_57.setTop (mkF m 204 #[.val (.int p0)] [])) _
          refine XS.iconst X_57.here hx rfl (hb hby d1_204) ?_
          show Steps p.tables e below (T_57.setTop (mkF m 205 #[.val (.int p0)] [(.int (1 : Int32))])) _
          refine XS.goto X_57.here hx rfl (pc0 := 205) (pc' := 209) rfl (hb hby d1_205) (by decide) (by decide) ?_
          exact kt
        exact Got.retN (y := (1 : Int32)) (t := .boolean) X_57 hx Bd.returns (by simp) hlk (hb hby d1_209) (by decide) ⟨N_57, e_57⟩ (by decide) (by decide)
  have J31 : ∀ (T_31 : State) (L_31 : List Loc), Stand p l e ({ frames := 0, cells := 0, slots := 0, locals := 0 } : Room) s m #[(.int p0)] below meth c T_31 L_31 0 0 → T_31.heap = h0 → Fr n0 L_31 → Got p e below s (PureP n0 h0) 0 0 (some (.int (f1_31 p0 ))) T_31 (mkF m 31 #[.val (.int p0)] []) := by
    intro T_31 L_31 X_31 e_31 N_31 
    refine Got.step (T' := T_31) (g' := (mkF m 34 #[.val (.int p0)] [(.int (95 : Int32)), (.int p0)])) (fun tq kt => ?_) ?_
    · show Steps p.tables e below (T_31.setTop (mkF m 31 #[.val (.int p0)] [])) _
      refine XS.iloadN X_31.here hx rfl (hb hby d1_31) rfl ?_
      show Steps p.tables e below (T_31.setTop (mkF m 32 #[.val (.int p0)] [(.int p0)])) _
      refine XS.bipush X_31.here hx rfl (hb hby d1_32) ?_
      exact kt
    refine Got.ite (q := (p0 = (95 : Int32))) (fun hc8 => ?_) (fun hc8 => ?_)
    · refine Got.step (T' := T_31) (g' := (mkF m 42 #[.val (.int p0)] [(.int (1 : Int32))])) (fun tq kt => ?_) ?_
      · show Steps p.tables e below (T_31.setTop (mkF m 34 #[.val (.int p0)] [(.int (95 : Int32)), (.int p0)])) _
        refine XS.icmpNo X_31.here hx rfl (hb hby d1_34) rfl (XT.ii_ne_f hc8) ?_
        show Steps p.tables e below (T_31.setTop (mkF m 37 #[.val (.int p0)] [])) _
        refine XS.iconst X_31.here hx rfl (hb hby d1_37) ?_
        show Steps p.tables e below (T_31.setTop (mkF m 38 #[.val (.int p0)] [(.int (1 : Int32))])) _
        refine XS.goto X_31.here hx rfl (pc0 := 38) (pc' := 42) rfl (hb hby d1_38) (by decide) (by decide) ?_
        exact kt
      exact Got.retN (y := (1 : Int32)) (t := .boolean) X_31 hx Bd.returns (by simp) hlk (hb hby d1_42) (by decide) ⟨N_31, e_31⟩ (by decide) (by decide)
    · refine Got.step (T' := T_31) (g' := (mkF m 42 #[.val (.int p0)] [(.int (0 : Int32))])) (fun tq kt => ?_) ?_
      · show Steps p.tables e below (T_31.setTop (mkF m 34 #[.val (.int p0)] [(.int (95 : Int32)), (.int p0)])) _
        refine XS.icmpYes X_31.here hx rfl (pc0 := 34) (pc' := 41) rfl (hb hby d1_34) rfl (XT.ii_ne_t hc8) (by decide) (by decide) ?_
        show Steps p.tables e below (T_31.setTop (mkF m 41 #[.val (.int p0)] [])) _
        refine XS.iconst X_31.here hx rfl (hb hby d1_41) ?_
        exact kt
      exact Got.retN (y := (0 : Int32)) (t := .boolean) X_31 hx Bd.returns (by simp) hlk (hb hby d1_42) (by decide) ⟨N_31, e_31⟩ (by decide) (by decide)
  have J19 : ∀ (T_19 : State) (L_19 : List Loc), Stand p l e ({ frames := 0, cells := 0, slots := 0, locals := 0 } : Room) s m #[(.int p0)] below meth c T_19 L_19 0 0 → T_19.heap = h0 → Fr n0 L_19 → Got p e below s (PureP n0 h0) 0 0 (some (.int (f1_19 p0 ))) T_19 (mkF m 19 #[.val (.int p0)] []) := by
    intro T_19 L_19 X_19 e_19 N_19 
    refine Got.step (T' := T_19) (g' := (mkF m 22 #[.val (.int p0)] [(.int (65 : Int32)), (.int p0)])) (fun tq kt => ?_) ?_
    · show Steps p.tables e below (T_19.setTop (mkF m 19 #[.val (.int p0)] [])) _
      refine XS.iloadN X_19.here hx rfl (hb hby d1_19) rfl ?_
      show Steps p.tables e below (T_19.setTop (mkF m 20 #[.val (.int p0)] [(.int p0)])) _
      refine XS.bipush X_19.here hx rfl (hb hby d1_20) ?_
      exact kt
    refine Got.ite (q := (p0 < (65 : Int32))) (fun hc6 => ?_) (fun hc6 => ?_)
    · refine Got.step (T' := T_19) (g' := (mkF m 31 #[.val (.int p0)] [])) (fun tq kt => ?_) ?_
      · show Steps p.tables e below (T_19.setTop (mkF m 22 #[.val (.int p0)] [(.int (65 : Int32)), (.int p0)])) _
        refine XS.icmpYes X_19.here hx rfl (pc0 := 22) (pc' := 31) rfl (hb hby d1_22) rfl (XT.ii_lt_t hc6) (by decide) (by decide) ?_
        exact kt
      exact J31 _ _ X_19 e_19 N_19 
    · refine Got.step (T' := T_19) (g' := (mkF m 28 #[.val (.int p0)] [(.int (90 : Int32)), (.int p0)])) (fun tq kt => ?_) ?_
      · show Steps p.tables e below (T_19.setTop (mkF m 22 #[.val (.int p0)] [(.int (65 : Int32)), (.int p0)])) _
        refine XS.icmpNo X_19.here hx rfl (hb hby d1_22) rfl (XT.ii_lt_f hc6) ?_
        show Steps p.tables e below (T_19.setTop (mkF m 25 #[.val (.int p0)] [])) _
        refine XS.iloadN X_19.here hx rfl (hb hby d1_25) rfl ?_
        show Steps p.tables e below (T_19.setTop (mkF m 26 #[.val (.int p0)] [(.int p0)])) _
        refine XS.bipush X_19.here hx rfl (hb hby d1_26) ?_
        exact kt
      refine Got.ite (q := ((90 : Int32) < p0)) (fun hc7 => ?_) (fun hc7 => ?_)
      · refine Got.step (T' := T_19) (g' := (mkF m 31 #[.val (.int p0)] [])) (fun tq kt => ?_) ?_
        · show Steps p.tables e below (T_19.setTop (mkF m 28 #[.val (.int p0)] [(.int (90 : Int32)), (.int p0)])) _
          refine XS.icmpNo X_19.here hx rfl (hb hby d1_28) rfl (XT.ii_le_f hc7) ?_
          exact kt
        exact J31 _ _ X_19 e_19 N_19 
      · refine Got.step (T' := T_19) (g' := (mkF m 42 #[.val (.int p0)] [(.int (1 : Int32))])) (fun tq kt => ?_) ?_
        · show Steps p.tables e below (T_19.setTop (mkF m 28 #[.val (.int p0)] [(.int (90 : Int32)), (.int p0)])) _
          refine XS.icmpYes X_19.here hx rfl (pc0 := 28) (pc' := 37) rfl (hb hby d1_28) rfl (XT.ii_le_t hc7) (by decide) (by decide) ?_
          show Steps p.tables e below (T_19.setTop (mkF m 37 #[.val (.int p0)] [])) _
          refine XS.iconst X_19.here hx rfl (hb hby d1_37) ?_
          show Steps p.tables e below (T_19.setTop (mkF m 38 #[.val (.int p0)] [(.int (1 : Int32))])) _
          refine XS.goto X_19.here hx rfl (pc0 := 38) (pc' := 42) rfl (hb hby d1_38) (by decide) (by decide) ?_
          exact kt
        exact Got.retN (y := (1 : Int32)) (t := .boolean) X_19 hx Bd.returns (by simp) hlk (hb hby d1_42) (by decide) ⟨N_19, e_19⟩ (by decide) (by decide)
  refine Got.step (T' := s₁) (g' := (mkF m 4 #[.val (.int p0)] [(.int (128 : Int32)), (.int p0)])) (fun tq kt => ?_) ?_
  · show Steps p.tables e below (s₁.setTop (mkF m 0 #[.val (.int p0)] [])) _
    refine XS.iloadN X0.here hx rfl (hb hby d1_0) rfl ?_
    show Steps p.tables e below (s₁.setTop (mkF m 1 #[.val (.int p0)] [(.int p0)])) _
    refine XS.sipush X0.here hx rfl (hb hby d1_1) ?_
    exact kt
  refine Got.ite (q := (p0 < (128 : Int32))) (fun hc1 => ?_) (fun hc1 => ?_)
  · refine Got.step (T' := s₁) (g' := (mkF m 10 #[.val (.int p0)] [(.int (97 : Int32)), (.int p0)])) (fun tq kt => ?_) ?_
    · show Steps p.tables e below (s₁.setTop (mkF m 4 #[.val (.int p0)] [(.int (128 : Int32)), (.int p0)])) _
      refine XS.icmpNo X0.here hx rfl (hb hby d1_4) rfl (XT.ii_ge_f hc1) ?_
      show Steps p.tables e below (s₁.setTop (mkF m 7 #[.val (.int p0)] [])) _
      refine XS.iloadN X0.here hx rfl (hb hby d1_7) rfl ?_
      show Steps p.tables e below (s₁.setTop (mkF m 8 #[.val (.int p0)] [(.int p0)])) _
      refine XS.bipush X0.here hx rfl (hb hby d1_8) ?_
      exact kt
    refine Got.ite (q := (p0 < (97 : Int32))) (fun hc2 => ?_) (fun hc2 => ?_)
    · refine Got.step (T' := s₁) (g' := (mkF m 19 #[.val (.int p0)] [])) (fun tq kt => ?_) ?_
      · show Steps p.tables e below (s₁.setTop (mkF m 10 #[.val (.int p0)] [(.int (97 : Int32)), (.int p0)])) _
        refine XS.icmpYes X0.here hx rfl (pc0 := 10) (pc' := 19) rfl (hb hby d1_10) rfl (XT.ii_lt_t hc2) (by decide) (by decide) ?_
        exact kt
      exact J19 _ _ X0 e0 N0 
    · refine Got.step (T' := s₁) (g' := (mkF m 16 #[.val (.int p0)] [(.int (122 : Int32)), (.int p0)])) (fun tq kt => ?_) ?_
      · show Steps p.tables e below (s₁.setTop (mkF m 10 #[.val (.int p0)] [(.int (97 : Int32)), (.int p0)])) _
        refine XS.icmpNo X0.here hx rfl (hb hby d1_10) rfl (XT.ii_lt_f hc2) ?_
        show Steps p.tables e below (s₁.setTop (mkF m 13 #[.val (.int p0)] [])) _
        refine XS.iloadN X0.here hx rfl (hb hby d1_13) rfl ?_
        show Steps p.tables e below (s₁.setTop (mkF m 14 #[.val (.int p0)] [(.int p0)])) _
        refine XS.bipush X0.here hx rfl (hb hby d1_14) ?_
        exact kt
      refine Got.ite (q := ((122 : Int32) < p0)) (fun hc3 => ?_) (fun hc3 => ?_)
      · refine Got.step (T' := s₁) (g' := (mkF m 19 #[.val (.int p0)] [])) (fun tq kt => ?_) ?_
        · show Steps p.tables e below (s₁.setTop (mkF m 16 #[.val (.int p0)] [(.int (122 : Int32)), (.int p0)])) _
          refine XS.icmpNo X0.here hx rfl (hb hby d1_16) rfl (XT.ii_le_f hc3) ?_
          exact kt
        exact J19 _ _ X0 e0 N0 
      · refine Got.step (T' := s₁) (g' := (mkF m 42 #[.val (.int p0)] [(.int (1 : Int32))])) (fun tq kt => ?_) ?_
        · show Steps p.tables e below (s₁.setTop (mkF m 16 #[.val (.int p0)] [(.int (122 : Int32)), (.int p0)])) _
          refine XS.icmpYes X0.here hx rfl (pc0 := 16) (pc' := 37) rfl (hb hby d1_16) rfl (XT.ii_le_t hc3) (by decide) (by decide) ?_
          show Steps p.tables e below (s₁.setTop (mkF m 37 #[.val (.int p0)] [])) _
          refine XS.iconst X0.here hx rfl (hb hby d1_37) ?_
          show Steps p.tables e below (s₁.setTop (mkF m 38 #[.val (.int p0)] [(.int (1 : Int32))])) _
          refine XS.goto X0.here hx rfl (pc0 := 38) (pc' := 42) rfl (hb hby d1_38) (by decide) (by decide) ?_
          exact kt
        exact Got.retN (y := (1 : Int32)) (t := .boolean) X0 hx Bd.returns (by simp) hlk (hb hby d1_42) (by decide) ⟨N0, e0⟩ (by decide) (by decide)
  · refine Got.step (T' := s₁) (g' := (mkF m 47 #[.val (.int p0)] [(.int (192 : Int32)), (.int p0)])) (fun tq kt => ?_) ?_
    · show Steps p.tables e below (s₁.setTop (mkF m 4 #[.val (.int p0)] [(.int (128 : Int32)), (.int p0)])) _
      refine XS.icmpYes X0.here hx rfl (pc0 := 4) (pc' := 43) rfl (hb hby d1_4) rfl (XT.ii_ge_t hc1) (by decide) (by decide) ?_
      show Steps p.tables e below (s₁.setTop (mkF m 43 #[.val (.int p0)] [])) _
      refine XS.iloadN X0.here hx rfl (hb hby d1_43) rfl ?_
      show Steps p.tables e below (s₁.setTop (mkF m 44 #[.val (.int p0)] [(.int p0)])) _
      refine XS.sipush X0.here hx rfl (hb hby d1_44) ?_
      exact kt
    refine Got.ite (q := (p0 < (192 : Int32))) (fun hc4 => ?_) (fun hc4 => ?_)
    · refine Got.step (T' := s₁) (g' := (mkF m 57 #[.val (.int p0)] [])) (fun tq kt => ?_) ?_
      · show Steps p.tables e below (s₁.setTop (mkF m 47 #[.val (.int p0)] [(.int (192 : Int32)), (.int p0)])) _
        refine XS.icmpYes X0.here hx rfl (pc0 := 47) (pc' := 57) rfl (hb hby d1_47) rfl (XT.ii_lt_t hc4) (by decide) (by decide) ?_
        exact kt
      exact J57 _ _ X0 e0 N0 
    · refine Got.step (T' := s₁) (g' := (mkF m 54 #[.val (.int p0)] [(.int (214 : Int32)), (.int p0)])) (fun tq kt => ?_) ?_
      · show Steps p.tables e below (s₁.setTop (mkF m 47 #[.val (.int p0)] [(.int (192 : Int32)), (.int p0)])) _
        refine XS.icmpNo X0.here hx rfl (hb hby d1_47) rfl (XT.ii_lt_f hc4) ?_
        show Steps p.tables e below (s₁.setTop (mkF m 50 #[.val (.int p0)] [])) _
        refine XS.iloadN X0.here hx rfl (hb hby d1_50) rfl ?_
        show Steps p.tables e below (s₁.setTop (mkF m 51 #[.val (.int p0)] [(.int p0)])) _
        refine XS.sipush X0.here hx rfl (hb hby d1_51) ?_
        exact kt
      refine Got.ite (q := ((214 : Int32) < p0)) (fun hc5 => ?_) (fun hc5 => ?_)
      · refine Got.step (T' := s₁) (g' := (mkF m 57 #[.val (.int p0)] [])) (fun tq kt => ?_) ?_
        · show Steps p.tables e below (s₁.setTop (mkF m 54 #[.val (.int p0)] [(.int (214 : Int32)), (.int p0)])) _
          refine XS.icmpNo X0.here hx rfl (hb hby d1_54) rfl (XT.ii_le_f hc5) ?_
          exact kt
        exact J57 _ _ X0 e0 N0 
      · refine Got.step (T' := s₁) (g' := (mkF m 209 #[.val (.int p0)] [(.int (1 : Int32))])) (fun tq kt => ?_) ?_
        · show Steps p.tables e below (s₁.setTop (mkF m 54 #[.val (.int p0)] [(.int (214 : Int32)), (.int p0)])) _
          refine XS.icmpYes X0.here hx rfl (pc0 := 54) (pc' := 204) rfl (hb hby d1_54) rfl (XT.ii_le_t hc5) (by decide) (by decide) ?_
          show Steps p.tables e below (s₁.setTop (mkF m 204 #[.val (.int p0)] [])) _
          refine XS.iconst X0.here hx rfl (hb hby d1_204) ?_
          show Steps p.tables e below (s₁.setTop (mkF m 205 #[.val (.int p0)] [(.int (1 : Int32))])) _
          refine XS.goto X0.here hx rfl (pc0 := 205) (pc' := 209) rfl (hb hby d1_205) (by decide) (by decide) ?_
          exact kt
        exact Got.retN (y := (1 : Int32)) (t := .boolean) X0 hx Bd.returns (by simp) hlk (hb hby d1_209) (by decide) ⟨N0, e0⟩ (by decide) (by decide)
def f3 (p0 : Int32) (p1 : Int32) (p2 : Int32)  : Int32 := (if p0 < p1 then (0 : Int32) else (if p2 < p0 then (0 : Int32) else (1 : Int32)))
theorem ef_3 (m : MethodId) (x0 : Int32) (x1 : Int32) (x2 : Int32) : entryFrame m #[(.int x0), (.int x1), (.int x2)] 3 = mkF m 0 #[.val (.int x0), .val (.int x1), .val (.int x2)] [] := by first | (simp [entryFrame, mkF, argsToLocals, Value.category]; done) | rfl
theorem pn_1 : plainName "com/example/treegraft/treegraft/xml/XmlCharsIsNameStartCharPinLaw" = true := by first | (simp [plainName, overriddenIn]; done) | decide +kernel
theorem d3_0 : decode method_2_code 0 = .ok (.iload_n 0, 1) := by decide +kernel
theorem d3_1 : decode method_2_code 1 = .ok (.iload_n 1, 1) := by decide +kernel
theorem d3_2 : decode method_2_code 2 = .ok (.if_icmp .lt 12, 3) := by decide +kernel
theorem d3_5 : decode method_2_code 5 = .ok (.iload_n 0, 1) := by decide +kernel
theorem d3_6 : decode method_2_code 6 = .ok (.iload_n 2, 1) := by decide +kernel
theorem d3_7 : decode method_2_code 7 = .ok (.if_icmp .gt 7, 3) := by decide +kernel
theorem d3_10 : decode method_2_code 10 = .ok (.iconst 1, 1) := by decide +kernel
theorem d3_11 : decode method_2_code 11 = .ok (.goto 4, 3) := by decide +kernel
theorem d3_14 : decode method_2_code 14 = .ok (.iconst 0, 1) := by decide +kernel
theorem d3_15 : decode method_2_code 15 = .ok (.ireturn, 1) := by decide +kernel
set_option maxRecDepth 65536 in
set_option maxHeartbeats 40000000 in
theorem rm3 (l : Launch) (Z : State) (a0 : Array Value) (hw : ∀ d ∈ tables_1, d.before a0 Z = true) (ws : List Jvm.Cond) (p0 : Int32) (p1 : Int32) (p2 : Int32)  (h0 : Heap) (n0 : Nat) (Z0 : n0 ≤ h0.size)  :
    MetFree l (⟨"com/example/treegraft/treegraft/xml/XmlCharsIsNameStartCharPinLaw", "in", "(III)Z"⟩ : MethodName) (head1 (Jvm.Cond.code (⟨"com/example/treegraft/treegraft/xml/XmlCharsIsNameStartCharPinLaw", "in", "(III)Z"⟩ : MethodName) method_2_code 3 (some .boolean) :: ws) ({ frames := 0, cells := 0, slots := 0, locals := 0 } : Room)) (fun a U => a = #[(.int p0), (.int p1), (.int p2)] ∧ Z.Warmed39 U.vm ∧ U.heap = h0) (fun _ _ _ _ _ => True) (fun _ U o U' => ∃ v L, o = .returned v ∧ QV (some (.int (f3 p0 p1 p2))) (PureP n0 h0) v U'.heap L ∧ FrameEnd U o U' L ({ frames := 0, cells := 0, slots := 0, locals := 0 } : Room).cells ({ frames := 0, cells := 0, slots := 0, locals := 0 } : Room).slots) := by
  refine MetFree.of_bodySF (plainFor_of_name pn_1) hisR ?_
  intro p e s m args below meth c s₁ Bd hml0 hP hK
  obtain ⟨rfl, hZ, hh⟩ := hP
  have hx := Bd.exec
  have hby := Bd.bytes
  have hml : c.maxLocals = 3 := hml0
  have hown : s.vm.findClass "com/example/treegraft/treegraft/xml/XmlCharsIsNameStartCharPinLaw" = some m.cls := findClass_of_methodNamed Bd.named
  have hnm := (name_of_methodNamed Bd.named Bd.method).1
  have hlk : meth.locks = false := BodyLoose.notSynchronized Bd
  have X0 : Stand p l e ({ frames := 0, cells := 0, slots := 0, locals := 0 } : Room) s m #[(.int p0), (.int p1), (.int p2)] below meth c s₁ [] 0 0 := Stand.of_body Bd
  have e0 : s₁.heap = h0 := by rw [← hh, Bd.state]; rfl
  have N0 := Fr.nil n0
  refine Got.body (ef_3 m p0 p1 p2) ?_
  refine Got.step (T' := s₁) (g' := (mkF m 2 #[.val (.int p0), .val (.int p1), .val (.int p2)] [(.int p1), (.int p0)])) (fun tq kt => ?_) ?_
  · show Steps p.tables e below (s₁.setTop (mkF m 0 #[.val (.int p0), .val (.int p1), .val (.int p2)] [])) _
    refine XS.iloadN X0.here hx rfl (hb hby d3_0) rfl ?_
    show Steps p.tables e below (s₁.setTop (mkF m 1 #[.val (.int p0), .val (.int p1), .val (.int p2)] [(.int p0)])) _
    refine XS.iloadN X0.here hx rfl (hb hby d3_1) rfl ?_
    exact kt
  refine Got.ite (q := (p0 < p1)) (fun hc31 => ?_) (fun hc31 => ?_)
  · refine Got.step (T' := s₁) (g' := (mkF m 15 #[.val (.int p0), .val (.int p1), .val (.int p2)] [(.int (0 : Int32))])) (fun tq kt => ?_) ?_
    · show Steps p.tables e below (s₁.setTop (mkF m 2 #[.val (.int p0), .val (.int p1), .val (.int p2)] [(.int p1), (.int p0)])) _
      refine XS.icmpYes X0.here hx rfl (pc0 := 2) (pc' := 14) rfl (hb hby d3_2) rfl (XT.ii_lt_t hc31) (by decide) (by decide) ?_
      show Steps p.tables e below (s₁.setTop (mkF m 14 #[.val (.int p0), .val (.int p1), .val (.int p2)] [])) _
      refine XS.iconst X0.here hx rfl (hb hby d3_14) ?_
      exact kt
    exact Got.retN (y := (0 : Int32)) (t := .boolean) X0 hx Bd.returns (by simp) hlk (hb hby d3_15) (by decide) ⟨N0, e0⟩ (by decide) (by decide)
  · refine Got.step (T' := s₁) (g' := (mkF m 7 #[.val (.int p0), .val (.int p1), .val (.int p2)] [(.int p2), (.int p0)])) (fun tq kt => ?_) ?_
    · show Steps p.tables e below (s₁.setTop (mkF m 2 #[.val (.int p0), .val (.int p1), .val (.int p2)] [(.int p1), (.int p0)])) _
      refine XS.icmpNo X0.here hx rfl (hb hby d3_2) rfl (XT.ii_lt_f hc31) ?_
      show Steps p.tables e below (s₁.setTop (mkF m 5 #[.val (.int p0), .val (.int p1), .val (.int p2)] [])) _
      refine XS.iloadN X0.here hx rfl (hb hby d3_5) rfl ?_
      show Steps p.tables e below (s₁.setTop (mkF m 6 #[.val (.int p0), .val (.int p1), .val (.int p2)] [(.int p0)])) _
      refine XS.iloadN X0.here hx rfl (hb hby d3_6) rfl ?_
      exact kt
    refine Got.ite (q := (p2 < p0)) (fun hc32 => ?_) (fun hc32 => ?_)
    · refine Got.step (T' := s₁) (g' := (mkF m 15 #[.val (.int p0), .val (.int p1), .val (.int p2)] [(.int (0 : Int32))])) (fun tq kt => ?_) ?_
      · show Steps p.tables e below (s₁.setTop (mkF m 7 #[.val (.int p0), .val (.int p1), .val (.int p2)] [(.int p2), (.int p0)])) _
        refine XS.icmpYes X0.here hx rfl (pc0 := 7) (pc' := 14) rfl (hb hby d3_7) rfl (XT.ii_gt_t hc32) (by decide) (by decide) ?_
        show Steps p.tables e below (s₁.setTop (mkF m 14 #[.val (.int p0), .val (.int p1), .val (.int p2)] [])) _
        refine XS.iconst X0.here hx rfl (hb hby d3_14) ?_
        exact kt
      exact Got.retN (y := (0 : Int32)) (t := .boolean) X0 hx Bd.returns (by simp) hlk (hb hby d3_15) (by decide) ⟨N0, e0⟩ (by decide) (by decide)
    · refine Got.step (T' := s₁) (g' := (mkF m 15 #[.val (.int p0), .val (.int p1), .val (.int p2)] [(.int (1 : Int32))])) (fun tq kt => ?_) ?_
      · show Steps p.tables e below (s₁.setTop (mkF m 7 #[.val (.int p0), .val (.int p1), .val (.int p2)] [(.int p2), (.int p0)])) _
        refine XS.icmpNo X0.here hx rfl (hb hby d3_7) rfl (XT.ii_gt_f hc32) ?_
        show Steps p.tables e below (s₁.setTop (mkF m 10 #[.val (.int p0), .val (.int p1), .val (.int p2)] [])) _
        refine XS.iconst X0.here hx rfl (hb hby d3_10) ?_
        show Steps p.tables e below (s₁.setTop (mkF m 11 #[.val (.int p0), .val (.int p1), .val (.int p2)] [(.int (1 : Int32))])) _
        refine XS.goto X0.here hx rfl (pc0 := 11) (pc' := 15) rfl (hb hby d3_11) (by decide) (by decide) ?_
        exact kt
      exact Got.retN (y := (1 : Int32)) (t := .boolean) X0 hx Bd.returns (by simp) hlk (hb hby d3_15) (by decide) ⟨N0, e0⟩ (by decide) (by decide)
theorem pd_0 : parseMethodDescriptor "(III)Z" = some ⟨[.int, .int, .int], some .boolean⟩ := by decide +kernel
def f2_168 (p0 : Int32) (k168_0 : Int32) : Int32 := (if k168_0 = 0 then (1 : Int32) else (0 : Int32))
def f2_163 (p0 : Int32)  : Int32 := (f2_168 p0 (1 : Int32))
def f2_24 (p0 : Int32)  : Int32 := (if p0 = (95 : Int32) then (1 : Int32) else (0 : Int32))
def f2 (p0 : Int32)  : Int32 := (if p0 < (192 : Int32) then (if (p0 ||| (32 : Int32)) < (97 : Int32) then (f2_24 p0 ) else (if (122 : Int32) < (p0 ||| (32 : Int32)) then (f2_24 p0 ) else (1 : Int32))) else (if (983039 : Int32) < p0 then (0 : Int32) else (if p0 = (215 : Int32) then (f2_163 p0 ) else (if p0 = (247 : Int32) then (f2_163 p0 ) else (if (f3 p0 (768 : Int32) (879 : Int32)) = 0 then (if p0 = (894 : Int32) then (f2_163 p0 ) else (if (f3 p0 (8192 : Int32) (8203 : Int32)) = 0 then (if (f3 p0 (8206 : Int32) (8303 : Int32)) = 0 then (if (f3 p0 (8592 : Int32) (11263 : Int32)) = 0 then (if (f3 p0 (12272 : Int32) (12288 : Int32)) = 0 then (if (f3 p0 (55296 : Int32) (63743 : Int32)) = 0 then (if (f3 p0 (64976 : Int32) (65007 : Int32)) = 0 then (if (f3 p0 (65534 : Int32) (65535 : Int32)) = 0 then (f2_168 p0 (0 : Int32)) else (f2_163 p0 )) else (f2_163 p0 )) else (f2_163 p0 )) else (f2_163 p0 )) else (f2_163 p0 )) else (f2_163 p0 )) else (f2_163 p0 ))) else (f2_163 p0 ))))))
theorem ef_2 (m : MethodId) (x0 : Int32) : entryFrame m #[(.int x0)] 2 = mkF m 0 #[.val (.int x0), .unset] [] := by first | (simp [entryFrame, mkF, argsToLocals, Value.category]; done) | rfl
theorem d2_0 : decode method_3_code 0 = .ok (.iload_n 0, 1) := by decide +kernel
theorem d2_1 : decode method_3_code 1 = .ok (.sipush 192, 3) := by decide +kernel
theorem d2_4 : decode method_3_code 4 = .ok (.if_icmp .ge 32, 3) := by decide +kernel
theorem d2_7 : decode method_3_code 7 = .ok (.iload_n 0, 1) := by decide +kernel
theorem d2_8 : decode method_3_code 8 = .ok (.bipush 32, 2) := by decide +kernel
theorem d2_10 : decode method_3_code 10 = .ok (.ior, 1) := by decide +kernel
theorem d2_11 : decode method_3_code 11 = .ok (.istore_n 1, 1) := by decide +kernel
theorem d2_12 : decode method_3_code 12 = .ok (.iload_n 1, 1) := by decide +kernel
theorem d2_13 : decode method_3_code 13 = .ok (.bipush 97, 2) := by decide +kernel
theorem d2_15 : decode method_3_code 15 = .ok (.if_icmp .lt 9, 3) := by decide +kernel
theorem d2_18 : decode method_3_code 18 = .ok (.iload_n 1, 1) := by decide +kernel
theorem d2_19 : decode method_3_code 19 = .ok (.bipush 122, 2) := by decide +kernel
theorem d2_21 : decode method_3_code 21 = .ok (.if_icmp .le 9, 3) := by decide +kernel
theorem d2_24 : decode method_3_code 24 = .ok (.iload_n 0, 1) := by decide +kernel
theorem d2_25 : decode method_3_code 25 = .ok (.bipush 95, 2) := by decide +kernel
theorem d2_27 : decode method_3_code 27 = .ok (.if_icmp .ne 7, 3) := by decide +kernel
theorem d2_30 : decode method_3_code 30 = .ok (.iconst 1, 1) := by decide +kernel
theorem d2_31 : decode method_3_code 31 = .ok (.goto 4, 3) := by decide +kernel
theorem d2_34 : decode method_3_code 34 = .ok (.iconst 0, 1) := by decide +kernel
theorem d2_35 : decode method_3_code 35 = .ok (.ireturn, 1) := by decide +kernel
theorem d2_36 : decode method_3_code 36 = .ok (.iload_n 0, 1) := by decide +kernel
theorem d2_37 : decode method_3_code 37 = .ok (.ldc 7, 2) := by decide +kernel
theorem d2_39 : decode method_3_code 39 = .ok (.if_icmp .le 5, 3) := by decide +kernel
theorem d2_42 : decode method_3_code 42 = .ok (.iconst 0, 1) := by decide +kernel
theorem d2_43 : decode method_3_code 43 = .ok (.ireturn, 1) := by decide +kernel
theorem d2_44 : decode method_3_code 44 = .ok (.iload_n 0, 1) := by decide +kernel
theorem d2_45 : decode method_3_code 45 = .ok (.sipush 215, 3) := by decide +kernel
theorem d2_48 : decode method_3_code 48 = .ok (.if_icmp .eq 115, 3) := by decide +kernel
theorem d2_51 : decode method_3_code 51 = .ok (.iload_n 0, 1) := by decide +kernel
theorem d2_52 : decode method_3_code 52 = .ok (.sipush 247, 3) := by decide +kernel
theorem d2_55 : decode method_3_code 55 = .ok (.if_icmp .eq 108, 3) := by decide +kernel
theorem d2_58 : decode method_3_code 58 = .ok (.iload_n 0, 1) := by decide +kernel
theorem d2_59 : decode method_3_code 59 = .ok (.sipush 768, 3) := by decide +kernel
theorem d2_62 : decode method_3_code 62 = .ok (.sipush 879, 3) := by decide +kernel
theorem d2_65 : decode method_3_code 65 = .ok (.invokestatic 8, 3) := by decide +kernel
theorem d2_68 : decode method_3_code 68 = .ok (.ifCond .ne 95, 3) := by decide +kernel
theorem d2_71 : decode method_3_code 71 = .ok (.iload_n 0, 1) := by decide +kernel
theorem d2_72 : decode method_3_code 72 = .ok (.sipush 894, 3) := by decide +kernel
theorem d2_75 : decode method_3_code 75 = .ok (.if_icmp .eq 88, 3) := by decide +kernel
theorem d2_78 : decode method_3_code 78 = .ok (.iload_n 0, 1) := by decide +kernel
theorem d2_79 : decode method_3_code 79 = .ok (.sipush 8192, 3) := by decide +kernel
theorem d2_82 : decode method_3_code 82 = .ok (.sipush 8203, 3) := by decide +kernel
theorem d2_85 : decode method_3_code 85 = .ok (.invokestatic 8, 3) := by decide +kernel
theorem d2_88 : decode method_3_code 88 = .ok (.ifCond .ne 75, 3) := by decide +kernel
theorem d2_91 : decode method_3_code 91 = .ok (.iload_n 0, 1) := by decide +kernel
theorem d2_92 : decode method_3_code 92 = .ok (.sipush 8206, 3) := by decide +kernel
theorem d2_95 : decode method_3_code 95 = .ok (.sipush 8303, 3) := by decide +kernel
theorem d2_98 : decode method_3_code 98 = .ok (.invokestatic 8, 3) := by decide +kernel
theorem d2_101 : decode method_3_code 101 = .ok (.ifCond .ne 62, 3) := by decide +kernel
theorem d2_104 : decode method_3_code 104 = .ok (.iload_n 0, 1) := by decide +kernel
theorem d2_105 : decode method_3_code 105 = .ok (.sipush 8592, 3) := by decide +kernel
theorem d2_108 : decode method_3_code 108 = .ok (.sipush 11263, 3) := by decide +kernel
theorem d2_111 : decode method_3_code 111 = .ok (.invokestatic 8, 3) := by decide +kernel
theorem d2_114 : decode method_3_code 114 = .ok (.ifCond .ne 49, 3) := by decide +kernel
theorem d2_117 : decode method_3_code 117 = .ok (.iload_n 0, 1) := by decide +kernel
theorem d2_118 : decode method_3_code 118 = .ok (.sipush 12272, 3) := by decide +kernel
theorem d2_121 : decode method_3_code 121 = .ok (.sipush 12288, 3) := by decide +kernel
theorem d2_124 : decode method_3_code 124 = .ok (.invokestatic 8, 3) := by decide +kernel
theorem d2_127 : decode method_3_code 127 = .ok (.ifCond .ne 36, 3) := by decide +kernel
theorem d2_130 : decode method_3_code 130 = .ok (.iload_n 0, 1) := by decide +kernel
theorem d2_131 : decode method_3_code 131 = .ok (.ldc 14, 2) := by decide +kernel
theorem d2_133 : decode method_3_code 133 = .ok (.ldc 15, 2) := by decide +kernel
theorem d2_135 : decode method_3_code 135 = .ok (.invokestatic 8, 3) := by decide +kernel
theorem d2_138 : decode method_3_code 138 = .ok (.ifCond .ne 25, 3) := by decide +kernel
theorem d2_141 : decode method_3_code 141 = .ok (.iload_n 0, 1) := by decide +kernel
theorem d2_142 : decode method_3_code 142 = .ok (.ldc 16, 2) := by decide +kernel
theorem d2_144 : decode method_3_code 144 = .ok (.ldc 17, 2) := by decide +kernel
theorem d2_146 : decode method_3_code 146 = .ok (.invokestatic 8, 3) := by decide +kernel
theorem d2_149 : decode method_3_code 149 = .ok (.ifCond .ne 14, 3) := by decide +kernel
theorem d2_152 : decode method_3_code 152 = .ok (.iload_n 0, 1) := by decide +kernel
theorem d2_153 : decode method_3_code 153 = .ok (.ldc 18, 2) := by decide +kernel
theorem d2_155 : decode method_3_code 155 = .ok (.ldc 19, 2) := by decide +kernel
theorem d2_157 : decode method_3_code 157 = .ok (.invokestatic 8, 3) := by decide +kernel
theorem d2_160 : decode method_3_code 160 = .ok (.ifCond .eq 7, 3) := by decide +kernel
theorem d2_163 : decode method_3_code 163 = .ok (.iconst 1, 1) := by decide +kernel
theorem d2_164 : decode method_3_code 164 = .ok (.goto 4, 3) := by decide +kernel
theorem d2_167 : decode method_3_code 167 = .ok (.iconst 0, 1) := by decide +kernel
theorem d2_168 : decode method_3_code 168 = .ok (.istore_n 1, 1) := by decide +kernel
theorem d2_169 : decode method_3_code 169 = .ok (.iload_n 1, 1) := by decide +kernel
theorem d2_170 : decode method_3_code 170 = .ok (.ifCond .ne 7, 3) := by decide +kernel
theorem d2_173 : decode method_3_code 173 = .ok (.iconst 1, 1) := by decide +kernel
theorem d2_174 : decode method_3_code 174 = .ok (.goto 4, 3) := by decide +kernel
theorem d2_177 : decode method_3_code 177 = .ok (.iconst 0, 1) := by decide +kernel
theorem d2_178 : decode method_3_code 178 = .ok (.ireturn, 1) := by decide +kernel
set_option maxRecDepth 65536 in
set_option maxHeartbeats 40000000 in
theorem rm2 (l : Launch) (Z : State) (a0 : Array Value) (hw : ∀ d ∈ tables_1, d.before a0 Z = true) (ws : List Jvm.Cond) (p0 : Int32)  (h0 : Heap) (n0 : Nat) (Z0 : n0 ≤ h0.size)  :
    MetFree l (⟨"com/example/treegraft/treegraft/xml/XmlCharsIsNameStartCharPinLaw", "reference", "(I)Z"⟩ : MethodName) (head1 (Jvm.Cond.code (⟨"com/example/treegraft/treegraft/xml/XmlCharsIsNameStartCharPinLaw", "reference", "(I)Z"⟩ : MethodName) method_3_code 2 (some .boolean) :: ws) ({ frames := 1, cells := 0, slots := 0, locals := 14 } : Room)) (fun a U => a = #[(.int p0)] ∧ Z.Warmed39 U.vm ∧ U.heap = h0) (fun _ _ _ _ _ => True) (fun _ U o U' => ∃ v L, o = .returned v ∧ QV (some (.int (f2 p0))) (PureP n0 h0) v U'.heap L ∧ FrameEnd U o U' L ({ frames := 1, cells := 0, slots := 0, locals := 14 } : Room).cells ({ frames := 1, cells := 0, slots := 0, locals := 14 } : Room).slots) := by
  refine MetFree.of_bodySF (plainFor_of_name pn_1) hisR ?_
  intro p e s m args below meth c s₁ Bd hml0 hP hK
  obtain ⟨rfl, hZ, hh⟩ := hP
  have hx := Bd.exec
  have hby := Bd.bytes
  have hml : c.maxLocals = 2 := hml0
  have hown : s.vm.findClass "com/example/treegraft/treegraft/xml/XmlCharsIsNameStartCharPinLaw" = some m.cls := findClass_of_methodNamed Bd.named
  have hnm := (name_of_methodNamed Bd.named Bd.method).1
  have hlk : meth.locks = false := BodyLoose.notSynchronized Bd
  have X0 : Stand p l e ({ frames := 1, cells := 0, slots := 0, locals := 14 } : Room) s m #[(.int p0)] below meth c s₁ [] 0 0 := Stand.of_body Bd
  have e0 : s₁.heap = h0 := by rw [← hh, Bd.state]; rfl
  have N0 := Fr.nil n0
  refine Got.body (ef_2 m p0) ?_
  have J168 : ∀ (T_168 : State) (L_168 : List Loc), Stand p l e ({ frames := 1, cells := 0, slots := 0, locals := 14 } : Room) s m #[(.int p0)] below meth c T_168 L_168 0 0 → T_168.heap = h0 → Fr n0 L_168 → ∀ (k168_0 : Int32), Got p e below s (PureP n0 h0) 0 0 (some (.int (f2_168 p0 k168_0))) T_168 (mkF m 168 #[.val (.int p0), .unset] [(.int k168_0)]) := by
    intro T_168 L_168 X_168 e_168 N_168 k168_0
    refine Got.step (T' := T_168) (g' := (mkF m 170 #[.val (.int p0), .val (.int k168_0)] [(.int k168_0)])) (fun tq kt => ?_) ?_
    · show Steps p.tables e below (T_168.setTop (mkF m 168 #[.val (.int p0), .unset] [(.int k168_0)])) _
      refine XS.istoreN X_168.here hx rfl (hb hby d2_168) rfl (l' := #[.val (.int p0), .val (.int k168_0)]) rfl ?_
      show Steps p.tables e below (T_168.setTop (mkF m 169 #[.val (.int p0), .val (.int k168_0)] [])) _
      refine XS.iloadN X_168.here hx rfl (hb hby d2_169) rfl ?_
      exact kt
    refine Got.ite (q := (k168_0 = 0)) (fun hc57 => ?_) (fun hc57 => ?_)
    · refine Got.step (T' := T_168) (g' := (mkF m 178 #[.val (.int p0), .val (.int k168_0)] [(.int (1 : Int32))])) (fun tq kt => ?_) ?_
      · show Steps p.tables e below (T_168.setTop (mkF m 170 #[.val (.int p0), .val (.int k168_0)] [(.int k168_0)])) _
        refine XS.ifNo X_168.here hx rfl (hb hby d2_170) rfl (XT.i0_ne_f hc57) ?_
        show Steps p.tables e below (T_168.setTop (mkF m 173 #[.val (.int p0), .val (.int k168_0)] [])) _
        refine XS.iconst X_168.here hx rfl (hb hby d2_173) ?_
        show Steps p.tables e below (T_168.setTop (mkF m 174 #[.val (.int p0), .val (.int k168_0)] [(.int (1 : Int32))])) _
        refine XS.goto X_168.here hx rfl (pc0 := 174) (pc' := 178) rfl (hb hby d2_174) (by decide) (by decide) ?_
        exact kt
      exact Got.retN (y := (1 : Int32)) (t := .boolean) X_168 hx Bd.returns (by simp) hlk (hb hby d2_178) (by decide) ⟨N_168, e_168⟩ (by decide) (by decide)
    · refine Got.step (T' := T_168) (g' := (mkF m 178 #[.val (.int p0), .val (.int k168_0)] [(.int (0 : Int32))])) (fun tq kt => ?_) ?_
      · show Steps p.tables e below (T_168.setTop (mkF m 170 #[.val (.int p0), .val (.int k168_0)] [(.int k168_0)])) _
        refine XS.ifYes X_168.here hx rfl (pc0 := 170) (pc' := 177) rfl (hb hby d2_170) rfl (XT.i0_ne_t hc57) (by decide) (by decide) ?_
        show Steps p.tables e below (T_168.setTop (mkF m 177 #[.val (.int p0), .val (.int k168_0)] [])) _
        refine XS.iconst X_168.here hx rfl (hb hby d2_177) ?_
        exact kt
      exact Got.retN (y := (0 : Int32)) (t := .boolean) X_168 hx Bd.returns (by simp) hlk (hb hby d2_178) (by decide) ⟨N_168, e_168⟩ (by decide) (by decide)
  have J163 : ∀ (T_163 : State) (L_163 : List Loc), Stand p l e ({ frames := 1, cells := 0, slots := 0, locals := 14 } : Room) s m #[(.int p0)] below meth c T_163 L_163 0 0 → T_163.heap = h0 → Fr n0 L_163 → Got p e below s (PureP n0 h0) 0 0 (some (.int (f2_163 p0 ))) T_163 (mkF m 163 #[.val (.int p0), .unset] []) := by
    intro T_163 L_163 X_163 e_163 N_163 
    refine Got.step (T' := T_163) (g' := (mkF m 168 #[.val (.int p0), .unset] [(.int (1 : Int32))])) (fun tq kt => ?_) ?_
    · show Steps p.tables e below (T_163.setTop (mkF m 163 #[.val (.int p0), .unset] [])) _
      refine XS.iconst X_163.here hx rfl (hb hby d2_163) ?_
      show Steps p.tables e below (T_163.setTop (mkF m 164 #[.val (.int p0), .unset] [(.int (1 : Int32))])) _
      refine XS.goto X_163.here hx rfl (pc0 := 164) (pc' := 168) rfl (hb hby d2_164) (by decide) (by decide) ?_
      exact kt
    exact J168 _ _ X_163 e_163 N_163 (1 : Int32)
  have J24 : ∀ (T_24 : State) (L_24 : List Loc), Stand p l e ({ frames := 1, cells := 0, slots := 0, locals := 14 } : Room) s m #[(.int p0)] below meth c T_24 L_24 0 0 → T_24.heap = h0 → Fr n0 L_24 → Got p e below s (PureP n0 h0) 0 0 (some (.int (f2_24 p0 ))) T_24 (mkF m 24 #[.val (.int p0), .val (.int (p0 ||| (32 : Int32)))] []) := by
    intro T_24 L_24 X_24 e_24 N_24 
    refine Got.step (T' := T_24) (g' := (mkF m 27 #[.val (.int p0), .val (.int (p0 ||| (32 : Int32)))] [(.int (95 : Int32)), (.int p0)])) (fun tq kt => ?_) ?_
    · show Steps p.tables e below (T_24.setTop (mkF m 24 #[.val (.int p0), .val (.int (p0 ||| (32 : Int32)))] [])) _
      refine XS.iloadN X_24.here hx rfl (hb hby d2_24) rfl ?_
      show Steps p.tables e below (T_24.setTop (mkF m 25 #[.val (.int p0), .val (.int (p0 ||| (32 : Int32)))] [(.int p0)])) _
      refine XS.bipush X_24.here hx rfl (hb hby d2_25) ?_
      exact kt
    refine Got.ite (q := (p0 = (95 : Int32))) (fun hc56 => ?_) (fun hc56 => ?_)
    · refine Got.step (T' := T_24) (g' := (mkF m 35 #[.val (.int p0), .val (.int (p0 ||| (32 : Int32)))] [(.int (1 : Int32))])) (fun tq kt => ?_) ?_
      · show Steps p.tables e below (T_24.setTop (mkF m 27 #[.val (.int p0), .val (.int (p0 ||| (32 : Int32)))] [(.int (95 : Int32)), (.int p0)])) _
        refine XS.icmpNo X_24.here hx rfl (hb hby d2_27) rfl (XT.ii_ne_f hc56) ?_
        show Steps p.tables e below (T_24.setTop (mkF m 30 #[.val (.int p0), .val (.int (p0 ||| (32 : Int32)))] [])) _
        refine XS.iconst X_24.here hx rfl (hb hby d2_30) ?_
        show Steps p.tables e below (T_24.setTop (mkF m 31 #[.val (.int p0), .val (.int (p0 ||| (32 : Int32)))] [(.int (1 : Int32))])) _
        refine XS.goto X_24.here hx rfl (pc0 := 31) (pc' := 35) rfl (hb hby d2_31) (by decide) (by decide) ?_
        exact kt
      exact Got.retN (y := (1 : Int32)) (t := .boolean) X_24 hx Bd.returns (by simp) hlk (hb hby d2_35) (by decide) ⟨N_24, e_24⟩ (by decide) (by decide)
    · refine Got.step (T' := T_24) (g' := (mkF m 35 #[.val (.int p0), .val (.int (p0 ||| (32 : Int32)))] [(.int (0 : Int32))])) (fun tq kt => ?_) ?_
      · show Steps p.tables e below (T_24.setTop (mkF m 27 #[.val (.int p0), .val (.int (p0 ||| (32 : Int32)))] [(.int (95 : Int32)), (.int p0)])) _
        refine XS.icmpYes X_24.here hx rfl (pc0 := 27) (pc' := 34) rfl (hb hby d2_27) rfl (XT.ii_ne_t hc56) (by decide) (by decide) ?_
        show Steps p.tables e below (T_24.setTop (mkF m 34 #[.val (.int p0), .val (.int (p0 ||| (32 : Int32)))] [])) _
        refine XS.iconst X_24.here hx rfl (hb hby d2_34) ?_
        exact kt
      exact Got.retN (y := (0 : Int32)) (t := .boolean) X_24 hx Bd.returns (by simp) hlk (hb hby d2_35) (by decide) ⟨N_24, e_24⟩ (by decide) (by decide)
  refine Got.step (T' := s₁) (g' := (mkF m 4 #[.val (.int p0), .unset] [(.int (192 : Int32)), (.int p0)])) (fun tq kt => ?_) ?_
  · show Steps p.tables e below (s₁.setTop (mkF m 0 #[.val (.int p0), .unset] [])) _
    refine XS.iloadN X0.here hx rfl (hb hby d2_0) rfl ?_
    show Steps p.tables e below (s₁.setTop (mkF m 1 #[.val (.int p0), .unset] [(.int p0)])) _
    refine XS.sipush X0.here hx rfl (hb hby d2_1) ?_
    exact kt
  refine Got.ite (q := (p0 < (192 : Int32))) (fun hc33 => ?_) (fun hc33 => ?_)
  · refine Got.step (T' := s₁) (g' := (mkF m 15 #[.val (.int p0), .val (.int (p0 ||| (32 : Int32)))] [(.int (97 : Int32)), (.int (p0 ||| (32 : Int32)))])) (fun tq kt => ?_) ?_
    · show Steps p.tables e below (s₁.setTop (mkF m 4 #[.val (.int p0), .unset] [(.int (192 : Int32)), (.int p0)])) _
      refine XS.icmpNo X0.here hx rfl (hb hby d2_4) rfl (XT.ii_ge_f hc33) ?_
      show Steps p.tables e below (s₁.setTop (mkF m 7 #[.val (.int p0), .unset] [])) _
      refine XS.iloadN X0.here hx rfl (hb hby d2_7) rfl ?_
      show Steps p.tables e below (s₁.setTop (mkF m 8 #[.val (.int p0), .unset] [(.int p0)])) _
      refine XS.bipush X0.here hx rfl (hb hby d2_8) ?_
      show Steps p.tables e below (s₁.setTop (mkF m 10 #[.val (.int p0), .unset] [(.int (32 : Int32)), (.int p0)])) _
      refine XS.ior X0.here hx rfl (hb hby d2_10) rfl ?_
      show Steps p.tables e below (s₁.setTop (mkF m 11 #[.val (.int p0), .unset] [(.int (p0 ||| (32 : Int32)))])) _
      refine XS.istoreN X0.here hx rfl (hb hby d2_11) rfl (l' := #[.val (.int p0), .val (.int (p0 ||| (32 : Int32)))]) rfl ?_
      show Steps p.tables e below (s₁.setTop (mkF m 12 #[.val (.int p0), .val (.int (p0 ||| (32 : Int32)))] [])) _
      refine XS.iloadN X0.here hx rfl (hb hby d2_12) rfl ?_
      show Steps p.tables e below (s₁.setTop (mkF m 13 #[.val (.int p0), .val (.int (p0 ||| (32 : Int32)))] [(.int (p0 ||| (32 : Int32)))])) _
      refine XS.bipush X0.here hx rfl (hb hby d2_13) ?_
      exact kt
    refine Got.ite (q := ((p0 ||| (32 : Int32)) < (97 : Int32))) (fun hc34 => ?_) (fun hc34 => ?_)
    · refine Got.step (T' := s₁) (g' := (mkF m 24 #[.val (.int p0), .val (.int (p0 ||| (32 : Int32)))] [])) (fun tq kt => ?_) ?_
      · show Steps p.tables e below (s₁.setTop (mkF m 15 #[.val (.int p0), .val (.int (p0 ||| (32 : Int32)))] [(.int (97 : Int32)), (.int (p0 ||| (32 : Int32)))])) _
        refine XS.icmpYes X0.here hx rfl (pc0 := 15) (pc' := 24) rfl (hb hby d2_15) rfl (XT.ii_lt_t hc34) (by decide) (by decide) ?_
        exact kt
      exact J24 _ _ X0 e0 N0 
    · refine Got.step (T' := s₁) (g' := (mkF m 21 #[.val (.int p0), .val (.int (p0 ||| (32 : Int32)))] [(.int (122 : Int32)), (.int (p0 ||| (32 : Int32)))])) (fun tq kt => ?_) ?_
      · show Steps p.tables e below (s₁.setTop (mkF m 15 #[.val (.int p0), .val (.int (p0 ||| (32 : Int32)))] [(.int (97 : Int32)), (.int (p0 ||| (32 : Int32)))])) _
        refine XS.icmpNo X0.here hx rfl (hb hby d2_15) rfl (XT.ii_lt_f hc34) ?_
        show Steps p.tables e below (s₁.setTop (mkF m 18 #[.val (.int p0), .val (.int (p0 ||| (32 : Int32)))] [])) _
        refine XS.iloadN X0.here hx rfl (hb hby d2_18) rfl ?_
        show Steps p.tables e below (s₁.setTop (mkF m 19 #[.val (.int p0), .val (.int (p0 ||| (32 : Int32)))] [(.int (p0 ||| (32 : Int32)))])) _
        refine XS.bipush X0.here hx rfl (hb hby d2_19) ?_
        exact kt
      refine Got.ite (q := ((122 : Int32) < (p0 ||| (32 : Int32)))) (fun hc35 => ?_) (fun hc35 => ?_)
      · refine Got.step (T' := s₁) (g' := (mkF m 24 #[.val (.int p0), .val (.int (p0 ||| (32 : Int32)))] [])) (fun tq kt => ?_) ?_
        · show Steps p.tables e below (s₁.setTop (mkF m 21 #[.val (.int p0), .val (.int (p0 ||| (32 : Int32)))] [(.int (122 : Int32)), (.int (p0 ||| (32 : Int32)))])) _
          refine XS.icmpNo X0.here hx rfl (hb hby d2_21) rfl (XT.ii_le_f hc35) ?_
          exact kt
        exact J24 _ _ X0 e0 N0 
      · refine Got.step (T' := s₁) (g' := (mkF m 35 #[.val (.int p0), .val (.int (p0 ||| (32 : Int32)))] [(.int (1 : Int32))])) (fun tq kt => ?_) ?_
        · show Steps p.tables e below (s₁.setTop (mkF m 21 #[.val (.int p0), .val (.int (p0 ||| (32 : Int32)))] [(.int (122 : Int32)), (.int (p0 ||| (32 : Int32)))])) _
          refine XS.icmpYes X0.here hx rfl (pc0 := 21) (pc' := 30) rfl (hb hby d2_21) rfl (XT.ii_le_t hc35) (by decide) (by decide) ?_
          show Steps p.tables e below (s₁.setTop (mkF m 30 #[.val (.int p0), .val (.int (p0 ||| (32 : Int32)))] [])) _
          refine XS.iconst X0.here hx rfl (hb hby d2_30) ?_
          show Steps p.tables e below (s₁.setTop (mkF m 31 #[.val (.int p0), .val (.int (p0 ||| (32 : Int32)))] [(.int (1 : Int32))])) _
          refine XS.goto X0.here hx rfl (pc0 := 31) (pc' := 35) rfl (hb hby d2_31) (by decide) (by decide) ?_
          exact kt
        exact Got.retN (y := (1 : Int32)) (t := .boolean) X0 hx Bd.returns (by simp) hlk (hb hby d2_35) (by decide) ⟨N0, e0⟩ (by decide) (by decide)
  · refine Got.step (T' := s₁) (g' := (mkF m 39 #[.val (.int p0), .unset] [(.int (983039 : Int32)), (.int p0)])) (fun tq kt => ?_) ?_
    · show Steps p.tables e below (s₁.setTop (mkF m 4 #[.val (.int p0), .unset] [(.int (192 : Int32)), (.int p0)])) _
      refine XS.icmpYes X0.here hx rfl (pc0 := 4) (pc' := 36) rfl (hb hby d2_4) rfl (XT.ii_ge_t hc33) (by decide) (by decide) ?_
      show Steps p.tables e below (s₁.setTop (mkF m 36 #[.val (.int p0), .unset] [])) _
      refine XS.iloadN X0.here hx rfl (hb hby d2_36) rfl ?_
      show Steps p.tables e below (s₁.setTop (mkF m 37 #[.val (.int p0), .unset] [(.int p0)])) _
      refine X0.ldcI hx hown (mvT hZ (hw _ (List.mem_of_getElem? (i := 7) rfl))) rfl (hb hby d2_37) ?_
      exact kt
    refine Got.ite (q := ((983039 : Int32) < p0)) (fun hc36 => ?_) (fun hc36 => ?_)
    · refine Got.step (T' := s₁) (g' := (mkF m 43 #[.val (.int p0), .unset] [(.int (0 : Int32))])) (fun tq kt => ?_) ?_
      · show Steps p.tables e below (s₁.setTop (mkF m 39 #[.val (.int p0), .unset] [(.int (983039 : Int32)), (.int p0)])) _
        refine XS.icmpNo X0.here hx rfl (hb hby d2_39) rfl (XT.ii_le_f hc36) ?_
        show Steps p.tables e below (s₁.setTop (mkF m 42 #[.val (.int p0), .unset] [])) _
        refine XS.iconst X0.here hx rfl (hb hby d2_42) ?_
        exact kt
      exact Got.retN (y := (0 : Int32)) (t := .boolean) X0 hx Bd.returns (by simp) hlk (hb hby d2_43) (by decide) ⟨N0, e0⟩ (by decide) (by decide)
    · refine Got.step (T' := s₁) (g' := (mkF m 48 #[.val (.int p0), .unset] [(.int (215 : Int32)), (.int p0)])) (fun tq kt => ?_) ?_
      · show Steps p.tables e below (s₁.setTop (mkF m 39 #[.val (.int p0), .unset] [(.int (983039 : Int32)), (.int p0)])) _
        refine XS.icmpYes X0.here hx rfl (pc0 := 39) (pc' := 44) rfl (hb hby d2_39) rfl (XT.ii_le_t hc36) (by decide) (by decide) ?_
        show Steps p.tables e below (s₁.setTop (mkF m 44 #[.val (.int p0), .unset] [])) _
        refine XS.iloadN X0.here hx rfl (hb hby d2_44) rfl ?_
        show Steps p.tables e below (s₁.setTop (mkF m 45 #[.val (.int p0), .unset] [(.int p0)])) _
        refine XS.sipush X0.here hx rfl (hb hby d2_45) ?_
        exact kt
      refine Got.ite (q := (p0 = (215 : Int32))) (fun hc37 => ?_) (fun hc37 => ?_)
      · refine Got.step (T' := s₁) (g' := (mkF m 163 #[.val (.int p0), .unset] [])) (fun tq kt => ?_) ?_
        · show Steps p.tables e below (s₁.setTop (mkF m 48 #[.val (.int p0), .unset] [(.int (215 : Int32)), (.int p0)])) _
          refine XS.icmpYes X0.here hx rfl (pc0 := 48) (pc' := 163) rfl (hb hby d2_48) rfl (XT.ii_eq_t hc37) (by decide) (by decide) ?_
          exact kt
        exact J163 _ _ X0 e0 N0 
      · refine Got.step (T' := s₁) (g' := (mkF m 55 #[.val (.int p0), .unset] [(.int (247 : Int32)), (.int p0)])) (fun tq kt => ?_) ?_
        · show Steps p.tables e below (s₁.setTop (mkF m 48 #[.val (.int p0), .unset] [(.int (215 : Int32)), (.int p0)])) _
          refine XS.icmpNo X0.here hx rfl (hb hby d2_48) rfl (XT.ii_eq_f hc37) ?_
          show Steps p.tables e below (s₁.setTop (mkF m 51 #[.val (.int p0), .unset] [])) _
          refine XS.iloadN X0.here hx rfl (hb hby d2_51) rfl ?_
          show Steps p.tables e below (s₁.setTop (mkF m 52 #[.val (.int p0), .unset] [(.int p0)])) _
          refine XS.sipush X0.here hx rfl (hb hby d2_52) ?_
          exact kt
        refine Got.ite (q := (p0 = (247 : Int32))) (fun hc38 => ?_) (fun hc38 => ?_)
        · refine Got.step (T' := s₁) (g' := (mkF m 163 #[.val (.int p0), .unset] [])) (fun tq kt => ?_) ?_
          · show Steps p.tables e below (s₁.setTop (mkF m 55 #[.val (.int p0), .unset] [(.int (247 : Int32)), (.int p0)])) _
            refine XS.icmpYes X0.here hx rfl (pc0 := 55) (pc' := 163) rfl (hb hby d2_55) rfl (XT.ii_eq_t hc38) (by decide) (by decide) ?_
            exact kt
          exact J163 _ _ X0 e0 N0 
        · refine Got.step (T' := s₁) (g' := (mkF m 65 #[.val (.int p0), .unset] [(.int (879 : Int32)), (.int (768 : Int32)), (.int p0)])) (fun tq kt => ?_) ?_
          · show Steps p.tables e below (s₁.setTop (mkF m 55 #[.val (.int p0), .unset] [(.int (247 : Int32)), (.int p0)])) _
            refine XS.icmpNo X0.here hx rfl (hb hby d2_55) rfl (XT.ii_eq_f hc38) ?_
            show Steps p.tables e below (s₁.setTop (mkF m 58 #[.val (.int p0), .unset] [])) _
            refine XS.iloadN X0.here hx rfl (hb hby d2_58) rfl ?_
            show Steps p.tables e below (s₁.setTop (mkF m 59 #[.val (.int p0), .unset] [(.int p0)])) _
            refine XS.sipush X0.here hx rfl (hb hby d2_59) ?_
            show Steps p.tables e below (s₁.setTop (mkF m 62 #[.val (.int p0), .unset] [(.int (768 : Int32)), (.int p0)])) _
            refine XS.sipush X0.here hx rfl (hb hby d2_62) ?_
            exact kt
          obtain ⟨_, _, ⟨T39, L39, k39, n39⟩, -, X39, ⟨Lc39, hQ39, l39, y39, z39⟩, st39⟩ := Jvm.LawKit.callS X0 hx (y := (⟨"com/example/treegraft/treegraft/xml/XmlCharsIsNameStartCharPinLaw", "in", "(III)Z"⟩ : MethodName)) hown (mvT hZ (hw _ (List.mem_of_getElem? (i := 17) rfl))) (mvT hZ (hw _ (List.mem_of_getElem? (i := 18) rfl))) (mvT hZ (hw _ (List.mem_of_getElem? (i := 15) rfl))) (mvT hZ (hw _ (List.mem_of_getElem? (i := 19) rfl))) (by decide) (backOf (W := 0) (rm3 l Z a0 hw [] p0 (768 : Int32) (879 : Int32) h0 n0 Z0) hZ (hw _ (List.mem_of_getElem? (i := 19) rfl)) (hw _ (List.mem_of_getElem? (i := 15) rfl)) (by decide) (by decide)) (g := (mkF m 65 #[.val (.int p0), .unset] [(.int (879 : Int32)), (.int (768 : Int32)), (.int p0)])) rfl (by rw [hml]; rfl) (argsL := [(.int p0), (.int (768 : Int32)), (.int (879 : Int32))]) (rest := []) (lenOf pd_0 rfl) rfl (by show 2 * 0 + _ ≤ _; exact Nat.le_of_eq rfl) (hb hby d2_65) (fun _ _ => ⟨rfl, e0, (by decide : 0 + 0 ≤ _), (by decide : 0 + 0 ≤ _)⟩)
          dsimp only [Pt.U, Pt.locs, Pt.cells, Pt.slots] at X39 l39 y39 z39 st39 hQ39
          subst y39 z39
          obtain ⟨rfl, Nq39, e39⟩ := hQ39
          have N39 : Fr n0 L39 := by rw [l39]; exact Fr.app N0 Nq39
          refine Got.step st39 ?_
          show Got p e below s _ _ _ _ T39 (mkF m 68 #[.val (.int p0), .unset] [(.int (f3 p0 (768 : Int32) (879 : Int32)))])
          refine Got.ite (q := ((f3 p0 (768 : Int32) (879 : Int32)) = 0)) (fun hc40 => ?_) (fun hc40 => ?_)
          · refine Got.step (T' := T39) (g' := (mkF m 75 #[.val (.int p0), .unset] [(.int (894 : Int32)), (.int p0)])) (fun tq kt => ?_) ?_
            · show Steps p.tables e below (T39.setTop (mkF m 68 #[.val (.int p0), .unset] [(.int (f3 p0 (768 : Int32) (879 : Int32)))])) _
              refine XS.ifNo X39.here hx rfl (hb hby d2_68) rfl (XT.i0_ne_f hc40) ?_
              show Steps p.tables e below (T39.setTop (mkF m 71 #[.val (.int p0), .unset] [])) _
              refine XS.iloadN X39.here hx rfl (hb hby d2_71) rfl ?_
              show Steps p.tables e below (T39.setTop (mkF m 72 #[.val (.int p0), .unset] [(.int p0)])) _
              refine XS.sipush X39.here hx rfl (hb hby d2_72) ?_
              exact kt
            refine Got.ite (q := (p0 = (894 : Int32))) (fun hc41 => ?_) (fun hc41 => ?_)
            · refine Got.step (T' := T39) (g' := (mkF m 163 #[.val (.int p0), .unset] [])) (fun tq kt => ?_) ?_
              · show Steps p.tables e below (T39.setTop (mkF m 75 #[.val (.int p0), .unset] [(.int (894 : Int32)), (.int p0)])) _
                refine XS.icmpYes X39.here hx rfl (pc0 := 75) (pc' := 163) rfl (hb hby d2_75) rfl (XT.ii_eq_t hc41) (by decide) (by decide) ?_
                exact kt
              exact J163 _ _ X39 e39 N39 
            · refine Got.step (T' := T39) (g' := (mkF m 85 #[.val (.int p0), .unset] [(.int (8203 : Int32)), (.int (8192 : Int32)), (.int p0)])) (fun tq kt => ?_) ?_
              · show Steps p.tables e below (T39.setTop (mkF m 75 #[.val (.int p0), .unset] [(.int (894 : Int32)), (.int p0)])) _
                refine XS.icmpNo X39.here hx rfl (hb hby d2_75) rfl (XT.ii_eq_f hc41) ?_
                show Steps p.tables e below (T39.setTop (mkF m 78 #[.val (.int p0), .unset] [])) _
                refine XS.iloadN X39.here hx rfl (hb hby d2_78) rfl ?_
                show Steps p.tables e below (T39.setTop (mkF m 79 #[.val (.int p0), .unset] [(.int p0)])) _
                refine XS.sipush X39.here hx rfl (hb hby d2_79) ?_
                show Steps p.tables e below (T39.setTop (mkF m 82 #[.val (.int p0), .unset] [(.int (8192 : Int32)), (.int p0)])) _
                refine XS.sipush X39.here hx rfl (hb hby d2_82) ?_
                exact kt
              obtain ⟨_, _, ⟨T42, L42, k42, n42⟩, -, X42, ⟨Lc42, hQ42, l42, y42, z42⟩, st42⟩ := Jvm.LawKit.callS X39 hx (y := (⟨"com/example/treegraft/treegraft/xml/XmlCharsIsNameStartCharPinLaw", "in", "(III)Z"⟩ : MethodName)) hown (mvT hZ (hw _ (List.mem_of_getElem? (i := 17) rfl))) (mvT hZ (hw _ (List.mem_of_getElem? (i := 18) rfl))) (mvT hZ (hw _ (List.mem_of_getElem? (i := 15) rfl))) (mvT hZ (hw _ (List.mem_of_getElem? (i := 19) rfl))) (by decide) (backOf (W := 0) (rm3 l Z a0 hw [] p0 (8192 : Int32) (8203 : Int32) h0 n0 Z0) hZ (hw _ (List.mem_of_getElem? (i := 19) rfl)) (hw _ (List.mem_of_getElem? (i := 15) rfl)) (by decide) (by decide)) (g := (mkF m 85 #[.val (.int p0), .unset] [(.int (8203 : Int32)), (.int (8192 : Int32)), (.int p0)])) rfl (by rw [hml]; rfl) (argsL := [(.int p0), (.int (8192 : Int32)), (.int (8203 : Int32))]) (rest := []) (lenOf pd_0 rfl) rfl (by show 2 * 0 + _ ≤ _; exact Nat.le_of_eq rfl) (hb hby d2_85) (fun _ _ => ⟨rfl, e39, (by decide : 0 + 0 ≤ _), (by decide : 0 + 0 ≤ _)⟩)
              dsimp only [Pt.U, Pt.locs, Pt.cells, Pt.slots] at X42 l42 y42 z42 st42 hQ42
              subst y42 z42
              obtain ⟨rfl, Nq42, e42⟩ := hQ42
              have N42 : Fr n0 L42 := by rw [l42]; exact Fr.app N39 Nq42
              refine Got.step st42 ?_
              show Got p e below s _ _ _ _ T42 (mkF m 88 #[.val (.int p0), .unset] [(.int (f3 p0 (8192 : Int32) (8203 : Int32)))])
              refine Got.ite (q := ((f3 p0 (8192 : Int32) (8203 : Int32)) = 0)) (fun hc43 => ?_) (fun hc43 => ?_)
              · refine Got.step (T' := T42) (g' := (mkF m 98 #[.val (.int p0), .unset] [(.int (8303 : Int32)), (.int (8206 : Int32)), (.int p0)])) (fun tq kt => ?_) ?_
                · show Steps p.tables e below (T42.setTop (mkF m 88 #[.val (.int p0), .unset] [(.int (f3 p0 (8192 : Int32) (8203 : Int32)))])) _
                  refine XS.ifNo X42.here hx rfl (hb hby d2_88) rfl (XT.i0_ne_f hc43) ?_
                  show Steps p.tables e below (T42.setTop (mkF m 91 #[.val (.int p0), .unset] [])) _
                  refine XS.iloadN X42.here hx rfl (hb hby d2_91) rfl ?_
                  show Steps p.tables e below (T42.setTop (mkF m 92 #[.val (.int p0), .unset] [(.int p0)])) _
                  refine XS.sipush X42.here hx rfl (hb hby d2_92) ?_
                  show Steps p.tables e below (T42.setTop (mkF m 95 #[.val (.int p0), .unset] [(.int (8206 : Int32)), (.int p0)])) _
                  refine XS.sipush X42.here hx rfl (hb hby d2_95) ?_
                  exact kt
                obtain ⟨_, _, ⟨T44, L44, k44, n44⟩, -, X44, ⟨Lc44, hQ44, l44, y44, z44⟩, st44⟩ := Jvm.LawKit.callS X42 hx (y := (⟨"com/example/treegraft/treegraft/xml/XmlCharsIsNameStartCharPinLaw", "in", "(III)Z"⟩ : MethodName)) hown (mvT hZ (hw _ (List.mem_of_getElem? (i := 17) rfl))) (mvT hZ (hw _ (List.mem_of_getElem? (i := 18) rfl))) (mvT hZ (hw _ (List.mem_of_getElem? (i := 15) rfl))) (mvT hZ (hw _ (List.mem_of_getElem? (i := 19) rfl))) (by decide) (backOf (W := 0) (rm3 l Z a0 hw [] p0 (8206 : Int32) (8303 : Int32) h0 n0 Z0) hZ (hw _ (List.mem_of_getElem? (i := 19) rfl)) (hw _ (List.mem_of_getElem? (i := 15) rfl)) (by decide) (by decide)) (g := (mkF m 98 #[.val (.int p0), .unset] [(.int (8303 : Int32)), (.int (8206 : Int32)), (.int p0)])) rfl (by rw [hml]; rfl) (argsL := [(.int p0), (.int (8206 : Int32)), (.int (8303 : Int32))]) (rest := []) (lenOf pd_0 rfl) rfl (by show 2 * 0 + _ ≤ _; exact Nat.le_of_eq rfl) (hb hby d2_98) (fun _ _ => ⟨rfl, e42, (by decide : 0 + 0 ≤ _), (by decide : 0 + 0 ≤ _)⟩)
                dsimp only [Pt.U, Pt.locs, Pt.cells, Pt.slots] at X44 l44 y44 z44 st44 hQ44
                subst y44 z44
                obtain ⟨rfl, Nq44, e44⟩ := hQ44
                have N44 : Fr n0 L44 := by rw [l44]; exact Fr.app N42 Nq44
                refine Got.step st44 ?_
                show Got p e below s _ _ _ _ T44 (mkF m 101 #[.val (.int p0), .unset] [(.int (f3 p0 (8206 : Int32) (8303 : Int32)))])
                refine Got.ite (q := ((f3 p0 (8206 : Int32) (8303 : Int32)) = 0)) (fun hc45 => ?_) (fun hc45 => ?_)
                · refine Got.step (T' := T44) (g' := (mkF m 111 #[.val (.int p0), .unset] [(.int (11263 : Int32)), (.int (8592 : Int32)), (.int p0)])) (fun tq kt => ?_) ?_
                  · show Steps p.tables e below (T44.setTop (mkF m 101 #[.val (.int p0), .unset] [(.int (f3 p0 (8206 : Int32) (8303 : Int32)))])) _
                    refine XS.ifNo X44.here hx rfl (hb hby d2_101) rfl (XT.i0_ne_f hc45) ?_
                    show Steps p.tables e below (T44.setTop (mkF m 104 #[.val (.int p0), .unset] [])) _
                    refine XS.iloadN X44.here hx rfl (hb hby d2_104) rfl ?_
                    show Steps p.tables e below (T44.setTop (mkF m 105 #[.val (.int p0), .unset] [(.int p0)])) _
                    refine XS.sipush X44.here hx rfl (hb hby d2_105) ?_
                    show Steps p.tables e below (T44.setTop (mkF m 108 #[.val (.int p0), .unset] [(.int (8592 : Int32)), (.int p0)])) _
                    refine XS.sipush X44.here hx rfl (hb hby d2_108) ?_
                    exact kt
                  obtain ⟨_, _, ⟨T46, L46, k46, n46⟩, -, X46, ⟨Lc46, hQ46, l46, y46, z46⟩, st46⟩ := Jvm.LawKit.callS X44 hx (y := (⟨"com/example/treegraft/treegraft/xml/XmlCharsIsNameStartCharPinLaw", "in", "(III)Z"⟩ : MethodName)) hown (mvT hZ (hw _ (List.mem_of_getElem? (i := 17) rfl))) (mvT hZ (hw _ (List.mem_of_getElem? (i := 18) rfl))) (mvT hZ (hw _ (List.mem_of_getElem? (i := 15) rfl))) (mvT hZ (hw _ (List.mem_of_getElem? (i := 19) rfl))) (by decide) (backOf (W := 0) (rm3 l Z a0 hw [] p0 (8592 : Int32) (11263 : Int32) h0 n0 Z0) hZ (hw _ (List.mem_of_getElem? (i := 19) rfl)) (hw _ (List.mem_of_getElem? (i := 15) rfl)) (by decide) (by decide)) (g := (mkF m 111 #[.val (.int p0), .unset] [(.int (11263 : Int32)), (.int (8592 : Int32)), (.int p0)])) rfl (by rw [hml]; rfl) (argsL := [(.int p0), (.int (8592 : Int32)), (.int (11263 : Int32))]) (rest := []) (lenOf pd_0 rfl) rfl (by show 2 * 0 + _ ≤ _; exact Nat.le_of_eq rfl) (hb hby d2_111) (fun _ _ => ⟨rfl, e44, (by decide : 0 + 0 ≤ _), (by decide : 0 + 0 ≤ _)⟩)
                  dsimp only [Pt.U, Pt.locs, Pt.cells, Pt.slots] at X46 l46 y46 z46 st46 hQ46
                  subst y46 z46
                  obtain ⟨rfl, Nq46, e46⟩ := hQ46
                  have N46 : Fr n0 L46 := by rw [l46]; exact Fr.app N44 Nq46
                  refine Got.step st46 ?_
                  show Got p e below s _ _ _ _ T46 (mkF m 114 #[.val (.int p0), .unset] [(.int (f3 p0 (8592 : Int32) (11263 : Int32)))])
                  refine Got.ite (q := ((f3 p0 (8592 : Int32) (11263 : Int32)) = 0)) (fun hc47 => ?_) (fun hc47 => ?_)
                  · refine Got.step (T' := T46) (g' := (mkF m 124 #[.val (.int p0), .unset] [(.int (12288 : Int32)), (.int (12272 : Int32)), (.int p0)])) (fun tq kt => ?_) ?_
                    · show Steps p.tables e below (T46.setTop (mkF m 114 #[.val (.int p0), .unset] [(.int (f3 p0 (8592 : Int32) (11263 : Int32)))])) _
                      refine XS.ifNo X46.here hx rfl (hb hby d2_114) rfl (XT.i0_ne_f hc47) ?_
                      show Steps p.tables e below (T46.setTop (mkF m 117 #[.val (.int p0), .unset] [])) _
                      refine XS.iloadN X46.here hx rfl (hb hby d2_117) rfl ?_
                      show Steps p.tables e below (T46.setTop (mkF m 118 #[.val (.int p0), .unset] [(.int p0)])) _
                      refine XS.sipush X46.here hx rfl (hb hby d2_118) ?_
                      show Steps p.tables e below (T46.setTop (mkF m 121 #[.val (.int p0), .unset] [(.int (12272 : Int32)), (.int p0)])) _
                      refine XS.sipush X46.here hx rfl (hb hby d2_121) ?_
                      exact kt
                    obtain ⟨_, _, ⟨T48, L48, k48, n48⟩, -, X48, ⟨Lc48, hQ48, l48, y48, z48⟩, st48⟩ := Jvm.LawKit.callS X46 hx (y := (⟨"com/example/treegraft/treegraft/xml/XmlCharsIsNameStartCharPinLaw", "in", "(III)Z"⟩ : MethodName)) hown (mvT hZ (hw _ (List.mem_of_getElem? (i := 17) rfl))) (mvT hZ (hw _ (List.mem_of_getElem? (i := 18) rfl))) (mvT hZ (hw _ (List.mem_of_getElem? (i := 15) rfl))) (mvT hZ (hw _ (List.mem_of_getElem? (i := 19) rfl))) (by decide) (backOf (W := 0) (rm3 l Z a0 hw [] p0 (12272 : Int32) (12288 : Int32) h0 n0 Z0) hZ (hw _ (List.mem_of_getElem? (i := 19) rfl)) (hw _ (List.mem_of_getElem? (i := 15) rfl)) (by decide) (by decide)) (g := (mkF m 124 #[.val (.int p0), .unset] [(.int (12288 : Int32)), (.int (12272 : Int32)), (.int p0)])) rfl (by rw [hml]; rfl) (argsL := [(.int p0), (.int (12272 : Int32)), (.int (12288 : Int32))]) (rest := []) (lenOf pd_0 rfl) rfl (by show 2 * 0 + _ ≤ _; exact Nat.le_of_eq rfl) (hb hby d2_124) (fun _ _ => ⟨rfl, e46, (by decide : 0 + 0 ≤ _), (by decide : 0 + 0 ≤ _)⟩)
                    dsimp only [Pt.U, Pt.locs, Pt.cells, Pt.slots] at X48 l48 y48 z48 st48 hQ48
                    subst y48 z48
                    obtain ⟨rfl, Nq48, e48⟩ := hQ48
                    have N48 : Fr n0 L48 := by rw [l48]; exact Fr.app N46 Nq48
                    refine Got.step st48 ?_
                    show Got p e below s _ _ _ _ T48 (mkF m 127 #[.val (.int p0), .unset] [(.int (f3 p0 (12272 : Int32) (12288 : Int32)))])
                    refine Got.ite (q := ((f3 p0 (12272 : Int32) (12288 : Int32)) = 0)) (fun hc49 => ?_) (fun hc49 => ?_)
                    · refine Got.step (T' := T48) (g' := (mkF m 135 #[.val (.int p0), .unset] [(.int (63743 : Int32)), (.int (55296 : Int32)), (.int p0)])) (fun tq kt => ?_) ?_
                      · show Steps p.tables e below (T48.setTop (mkF m 127 #[.val (.int p0), .unset] [(.int (f3 p0 (12272 : Int32) (12288 : Int32)))])) _
                        refine XS.ifNo X48.here hx rfl (hb hby d2_127) rfl (XT.i0_ne_f hc49) ?_
                        show Steps p.tables e below (T48.setTop (mkF m 130 #[.val (.int p0), .unset] [])) _
                        refine XS.iloadN X48.here hx rfl (hb hby d2_130) rfl ?_
                        show Steps p.tables e below (T48.setTop (mkF m 131 #[.val (.int p0), .unset] [(.int p0)])) _
                        refine X48.ldcI hx hown (mvT hZ (hw _ (List.mem_of_getElem? (i := 1) rfl))) rfl (hb hby d2_131) ?_
                        show Steps p.tables e below (T48.setTop (mkF m 133 #[.val (.int p0), .unset] [(.int (55296 : Int32)), (.int p0)])) _
                        refine X48.ldcI hx hown (mvT hZ (hw _ (List.mem_of_getElem? (i := 2) rfl))) rfl (hb hby d2_133) ?_
                        exact kt
                      obtain ⟨_, _, ⟨T50, L50, k50, n50⟩, -, X50, ⟨Lc50, hQ50, l50, y50, z50⟩, st50⟩ := Jvm.LawKit.callS X48 hx (y := (⟨"com/example/treegraft/treegraft/xml/XmlCharsIsNameStartCharPinLaw", "in", "(III)Z"⟩ : MethodName)) hown (mvT hZ (hw _ (List.mem_of_getElem? (i := 17) rfl))) (mvT hZ (hw _ (List.mem_of_getElem? (i := 18) rfl))) (mvT hZ (hw _ (List.mem_of_getElem? (i := 15) rfl))) (mvT hZ (hw _ (List.mem_of_getElem? (i := 19) rfl))) (by decide) (backOf (W := 0) (rm3 l Z a0 hw [] p0 (55296 : Int32) (63743 : Int32) h0 n0 Z0) hZ (hw _ (List.mem_of_getElem? (i := 19) rfl)) (hw _ (List.mem_of_getElem? (i := 15) rfl)) (by decide) (by decide)) (g := (mkF m 135 #[.val (.int p0), .unset] [(.int (63743 : Int32)), (.int (55296 : Int32)), (.int p0)])) rfl (by rw [hml]; rfl) (argsL := [(.int p0), (.int (55296 : Int32)), (.int (63743 : Int32))]) (rest := []) (lenOf pd_0 rfl) rfl (by show 2 * 0 + _ ≤ _; exact Nat.le_of_eq rfl) (hb hby d2_135) (fun _ _ => ⟨rfl, e48, (by decide : 0 + 0 ≤ _), (by decide : 0 + 0 ≤ _)⟩)
                      dsimp only [Pt.U, Pt.locs, Pt.cells, Pt.slots] at X50 l50 y50 z50 st50 hQ50
                      subst y50 z50
                      obtain ⟨rfl, Nq50, e50⟩ := hQ50
                      have N50 : Fr n0 L50 := by rw [l50]; exact Fr.app N48 Nq50
                      refine Got.step st50 ?_
                      show Got p e below s _ _ _ _ T50 (mkF m 138 #[.val (.int p0), .unset] [(.int (f3 p0 (55296 : Int32) (63743 : Int32)))])
                      refine Got.ite (q := ((f3 p0 (55296 : Int32) (63743 : Int32)) = 0)) (fun hc51 => ?_) (fun hc51 => ?_)
                      · refine Got.step (T' := T50) (g' := (mkF m 146 #[.val (.int p0), .unset] [(.int (65007 : Int32)), (.int (64976 : Int32)), (.int p0)])) (fun tq kt => ?_) ?_
                        · show Steps p.tables e below (T50.setTop (mkF m 138 #[.val (.int p0), .unset] [(.int (f3 p0 (55296 : Int32) (63743 : Int32)))])) _
                          refine XS.ifNo X50.here hx rfl (hb hby d2_138) rfl (XT.i0_ne_f hc51) ?_
                          show Steps p.tables e below (T50.setTop (mkF m 141 #[.val (.int p0), .unset] [])) _
                          refine XS.iloadN X50.here hx rfl (hb hby d2_141) rfl ?_
                          show Steps p.tables e below (T50.setTop (mkF m 142 #[.val (.int p0), .unset] [(.int p0)])) _
                          refine X50.ldcI hx hown (mvT hZ (hw _ (List.mem_of_getElem? (i := 3) rfl))) rfl (hb hby d2_142) ?_
                          show Steps p.tables e below (T50.setTop (mkF m 144 #[.val (.int p0), .unset] [(.int (64976 : Int32)), (.int p0)])) _
                          refine X50.ldcI hx hown (mvT hZ (hw _ (List.mem_of_getElem? (i := 4) rfl))) rfl (hb hby d2_144) ?_
                          exact kt
                        obtain ⟨_, _, ⟨T52, L52, k52, n52⟩, -, X52, ⟨Lc52, hQ52, l52, y52, z52⟩, st52⟩ := Jvm.LawKit.callS X50 hx (y := (⟨"com/example/treegraft/treegraft/xml/XmlCharsIsNameStartCharPinLaw", "in", "(III)Z"⟩ : MethodName)) hown (mvT hZ (hw _ (List.mem_of_getElem? (i := 17) rfl))) (mvT hZ (hw _ (List.mem_of_getElem? (i := 18) rfl))) (mvT hZ (hw _ (List.mem_of_getElem? (i := 15) rfl))) (mvT hZ (hw _ (List.mem_of_getElem? (i := 19) rfl))) (by decide) (backOf (W := 0) (rm3 l Z a0 hw [] p0 (64976 : Int32) (65007 : Int32) h0 n0 Z0) hZ (hw _ (List.mem_of_getElem? (i := 19) rfl)) (hw _ (List.mem_of_getElem? (i := 15) rfl)) (by decide) (by decide)) (g := (mkF m 146 #[.val (.int p0), .unset] [(.int (65007 : Int32)), (.int (64976 : Int32)), (.int p0)])) rfl (by rw [hml]; rfl) (argsL := [(.int p0), (.int (64976 : Int32)), (.int (65007 : Int32))]) (rest := []) (lenOf pd_0 rfl) rfl (by show 2 * 0 + _ ≤ _; exact Nat.le_of_eq rfl) (hb hby d2_146) (fun _ _ => ⟨rfl, e50, (by decide : 0 + 0 ≤ _), (by decide : 0 + 0 ≤ _)⟩)
                        dsimp only [Pt.U, Pt.locs, Pt.cells, Pt.slots] at X52 l52 y52 z52 st52 hQ52
                        subst y52 z52
                        obtain ⟨rfl, Nq52, e52⟩ := hQ52
                        have N52 : Fr n0 L52 := by rw [l52]; exact Fr.app N50 Nq52
                        refine Got.step st52 ?_
                        show Got p e below s _ _ _ _ T52 (mkF m 149 #[.val (.int p0), .unset] [(.int (f3 p0 (64976 : Int32) (65007 : Int32)))])
                        refine Got.ite (q := ((f3 p0 (64976 : Int32) (65007 : Int32)) = 0)) (fun hc53 => ?_) (fun hc53 => ?_)
                        · refine Got.step (T' := T52) (g' := (mkF m 157 #[.val (.int p0), .unset] [(.int (65535 : Int32)), (.int (65534 : Int32)), (.int p0)])) (fun tq kt => ?_) ?_
                          · show Steps p.tables e below (T52.setTop (mkF m 149 #[.val (.int p0), .unset] [(.int (f3 p0 (64976 : Int32) (65007 : Int32)))])) _
                            refine XS.ifNo X52.here hx rfl (hb hby d2_149) rfl (XT.i0_ne_f hc53) ?_
                            show Steps p.tables e below (T52.setTop (mkF m 152 #[.val (.int p0), .unset] [])) _
                            refine XS.iloadN X52.here hx rfl (hb hby d2_152) rfl ?_
                            show Steps p.tables e below (T52.setTop (mkF m 153 #[.val (.int p0), .unset] [(.int p0)])) _
                            refine X52.ldcI hx hown (mvT hZ (hw _ (List.mem_of_getElem? (i := 5) rfl))) rfl (hb hby d2_153) ?_
                            show Steps p.tables e below (T52.setTop (mkF m 155 #[.val (.int p0), .unset] [(.int (65534 : Int32)), (.int p0)])) _
                            refine X52.ldcI hx hown (mvT hZ (hw _ (List.mem_of_getElem? (i := 6) rfl))) rfl (hb hby d2_155) ?_
                            exact kt
                          obtain ⟨_, _, ⟨T54, L54, k54, n54⟩, -, X54, ⟨Lc54, hQ54, l54, y54, z54⟩, st54⟩ := Jvm.LawKit.callS X52 hx (y := (⟨"com/example/treegraft/treegraft/xml/XmlCharsIsNameStartCharPinLaw", "in", "(III)Z"⟩ : MethodName)) hown (mvT hZ (hw _ (List.mem_of_getElem? (i := 17) rfl))) (mvT hZ (hw _ (List.mem_of_getElem? (i := 18) rfl))) (mvT hZ (hw _ (List.mem_of_getElem? (i := 15) rfl))) (mvT hZ (hw _ (List.mem_of_getElem? (i := 19) rfl))) (by decide) (backOf (W := 0) (rm3 l Z a0 hw [] p0 (65534 : Int32) (65535 : Int32) h0 n0 Z0) hZ (hw _ (List.mem_of_getElem? (i := 19) rfl)) (hw _ (List.mem_of_getElem? (i := 15) rfl)) (by decide) (by decide)) (g := (mkF m 157 #[.val (.int p0), .unset] [(.int (65535 : Int32)), (.int (65534 : Int32)), (.int p0)])) rfl (by rw [hml]; rfl) (argsL := [(.int p0), (.int (65534 : Int32)), (.int (65535 : Int32))]) (rest := []) (lenOf pd_0 rfl) rfl (by show 2 * 0 + _ ≤ _; exact Nat.le_of_eq rfl) (hb hby d2_157) (fun _ _ => ⟨rfl, e52, (by decide : 0 + 0 ≤ _), (by decide : 0 + 0 ≤ _)⟩)
                          dsimp only [Pt.U, Pt.locs, Pt.cells, Pt.slots] at X54 l54 y54 z54 st54 hQ54
                          subst y54 z54
                          obtain ⟨rfl, Nq54, e54⟩ := hQ54
                          have N54 : Fr n0 L54 := by rw [l54]; exact Fr.app N52 Nq54
                          refine Got.step st54 ?_
                          show Got p e below s _ _ _ _ T54 (mkF m 160 #[.val (.int p0), .unset] [(.int (f3 p0 (65534 : Int32) (65535 : Int32)))])
                          refine Got.ite (q := ((f3 p0 (65534 : Int32) (65535 : Int32)) = 0)) (fun hc55 => ?_) (fun hc55 => ?_)
                          · refine Got.step (T' := T54) (g' := (mkF m 168 #[.val (.int p0), .unset] [(.int (0 : Int32))])) (fun tq kt => ?_) ?_
                            · show Steps p.tables e below (T54.setTop (mkF m 160 #[.val (.int p0), .unset] [(.int (f3 p0 (65534 : Int32) (65535 : Int32)))])) _
                              refine XS.ifYes X54.here hx rfl (pc0 := 160) (pc' := 167) rfl (hb hby d2_160) rfl (XT.i0_eq_t hc55) (by decide) (by decide) ?_
                              show Steps p.tables e below (T54.setTop (mkF m 167 #[.val (.int p0), .unset] [])) _
                              refine XS.iconst X54.here hx rfl (hb hby d2_167) ?_
                              exact kt
                            exact J168 _ _ X54 e54 N54 (0 : Int32)
                          · refine Got.step (T' := T54) (g' := (mkF m 163 #[.val (.int p0), .unset] [])) (fun tq kt => ?_) ?_
                            · show Steps p.tables e below (T54.setTop (mkF m 160 #[.val (.int p0), .unset] [(.int (f3 p0 (65534 : Int32) (65535 : Int32)))])) _
                              refine XS.ifNo X54.here hx rfl (hb hby d2_160) rfl (XT.i0_eq_f hc55) ?_
                              exact kt
                            exact J163 _ _ X54 e54 N54 
                        · refine Got.step (T' := T52) (g' := (mkF m 163 #[.val (.int p0), .unset] [])) (fun tq kt => ?_) ?_
                          · show Steps p.tables e below (T52.setTop (mkF m 149 #[.val (.int p0), .unset] [(.int (f3 p0 (64976 : Int32) (65007 : Int32)))])) _
                            refine XS.ifYes X52.here hx rfl (pc0 := 149) (pc' := 163) rfl (hb hby d2_149) rfl (XT.i0_ne_t hc53) (by decide) (by decide) ?_
                            exact kt
                          exact J163 _ _ X52 e52 N52 
                      · refine Got.step (T' := T50) (g' := (mkF m 163 #[.val (.int p0), .unset] [])) (fun tq kt => ?_) ?_
                        · show Steps p.tables e below (T50.setTop (mkF m 138 #[.val (.int p0), .unset] [(.int (f3 p0 (55296 : Int32) (63743 : Int32)))])) _
                          refine XS.ifYes X50.here hx rfl (pc0 := 138) (pc' := 163) rfl (hb hby d2_138) rfl (XT.i0_ne_t hc51) (by decide) (by decide) ?_
                          exact kt
                        exact J163 _ _ X50 e50 N50 
                    · refine Got.step (T' := T48) (g' := (mkF m 163 #[.val (.int p0), .unset] [])) (fun tq kt => ?_) ?_
                      · show Steps p.tables e below (T48.setTop (mkF m 127 #[.val (.int p0), .unset] [(.int (f3 p0 (12272 : Int32) (12288 : Int32)))])) _
                        refine XS.ifYes X48.here hx rfl (pc0 := 127) (pc' := 163) rfl (hb hby d2_127) rfl (XT.i0_ne_t hc49) (by decide) (by decide) ?_
                        exact kt
                      exact J163 _ _ X48 e48 N48 
                  · refine Got.step (T' := T46) (g' := (mkF m 163 #[.val (.int p0), .unset] [])) (fun tq kt => ?_) ?_
                    · show Steps p.tables e below (T46.setTop (mkF m 114 #[.val (.int p0), .unset] [(.int (f3 p0 (8592 : Int32) (11263 : Int32)))])) _
                      refine XS.ifYes X46.here hx rfl (pc0 := 114) (pc' := 163) rfl (hb hby d2_114) rfl (XT.i0_ne_t hc47) (by decide) (by decide) ?_
                      exact kt
                    exact J163 _ _ X46 e46 N46 
                · refine Got.step (T' := T44) (g' := (mkF m 163 #[.val (.int p0), .unset] [])) (fun tq kt => ?_) ?_
                  · show Steps p.tables e below (T44.setTop (mkF m 101 #[.val (.int p0), .unset] [(.int (f3 p0 (8206 : Int32) (8303 : Int32)))])) _
                    refine XS.ifYes X44.here hx rfl (pc0 := 101) (pc' := 163) rfl (hb hby d2_101) rfl (XT.i0_ne_t hc45) (by decide) (by decide) ?_
                    exact kt
                  exact J163 _ _ X44 e44 N44 
              · refine Got.step (T' := T42) (g' := (mkF m 163 #[.val (.int p0), .unset] [])) (fun tq kt => ?_) ?_
                · show Steps p.tables e below (T42.setTop (mkF m 88 #[.val (.int p0), .unset] [(.int (f3 p0 (8192 : Int32) (8203 : Int32)))])) _
                  refine XS.ifYes X42.here hx rfl (pc0 := 88) (pc' := 163) rfl (hb hby d2_88) rfl (XT.i0_ne_t hc43) (by decide) (by decide) ?_
                  exact kt
                exact J163 _ _ X42 e42 N42 
          · refine Got.step (T' := T39) (g' := (mkF m 163 #[.val (.int p0), .unset] [])) (fun tq kt => ?_) ?_
            · show Steps p.tables e below (T39.setTop (mkF m 68 #[.val (.int p0), .unset] [(.int (f3 p0 (768 : Int32) (879 : Int32)))])) _
              refine XS.ifYes X39.here hx rfl (pc0 := 68) (pc' := 163) rfl (hb hby d2_68) rfl (XT.i0_ne_t hc40) (by decide) (by decide) ?_
              exact kt
            exact J163 _ _ X39 e39 N39 
theorem own_idx (k d : Int32) (n : Int) (hd : d.toInt = n) (hn : 0 < n) : ¬ ((k &&& (2147483647 : Int32)) % d) < 0 ∧ ((k &&& (2147483647 : Int32)) % d) < d := by
  have h1 := c_mask k 2147483647 31 (by decide) (by decide)
  have h2 := (c_irem (k &&& 2147483647) d n hd).1 (by omega)
  have h3 := Int.emod_nonneg (k &&& 2147483647).toInt (b := n) (by omega)
  have h4 := Int.emod_lt_of_pos (k &&& 2147483647).toInt hn
  have z : (0 : Int32).toInt = 0 := rfl
  rw [Int32.lt_iff_toInt_lt, Int32.lt_iff_toInt_lt, h2, hd, z]
  omega
theorem own_eq (p k : Int32) : p = k ↔ p.toInt = k.toInt := Int32.toInt_inj.symm
theorem own_or (p : Int32) (h0 : 0 ≤ p.toInt) (h1 : p.toInt < 192) : (p ||| (32 : Int32)).toInt = if p.toInt / 32 % 2 = 1 then p.toInt else p.toInt + 32 := by
  have k : ∀ i : Fin 192, (Int32.ofNat i.1 ||| 32).toInt = if ((i.1 : Nat) : Int) / 32 % 2 = 1 then ((i.1 : Nat) : Int) else ((i.1 : Nat) : Int) + 32 := by decide +kernel
  have e1 : (p.toInt.toNat : Int) = p.toInt := Int.toNat_of_nonneg h0
  have e : p = Int32.ofNat p.toInt.toNat := by
    rw [← Int32.toInt_inj, Int32.toInt_ofNat_of_lt (by omega), e1]
  have q := k ⟨p.toInt.toNat, by omega⟩
  simp only [← e, e1] at q
  exact q
theorem own_in (p a b : Int32) : (f3 p a b = 0) ↔ (p < a ∨ b < p) := by
  unfold f3
  by_cases h1 : p < a
  · rw [if_pos h1]; exact ⟨fun _ => Or.inl h1, fun _ => rfl⟩
  · rw [if_neg h1]
    by_cases h2 : b < p
    · rw [if_pos h2]; exact ⟨fun _ => Or.inr h2, fun _ => rfl⟩
    · rw [if_neg h2]; exact ⟨fun h => absurd h (by decide), fun h => (h.elim h1 h2).elim⟩
theorem e_163 (p0 : Int32) : f2_163 p0 = 0 := rfl
theorem own_blk (p lo hi n : Int32) : (if p < lo then n else (if hi < p then n else (1 : Int32))) = (if (¬ p < lo ∧ ¬ hi < p) then (1 : Int32) else n) := by
  by_cases h1 : p < lo
  · rw [if_pos h1, if_neg (fun h => h.1 h1)]
  · rw [if_neg h1]
    by_cases h2 : hi < p
    · rw [if_pos h2, if_neg (fun h => h.2 h2)]
    · rw [if_neg h2, if_pos ⟨h1, h2⟩]
theorem e_f1_192 (p0 : Int32) : f1_192 p0 = (if (¬ p0 < (65536 : Int32) ∧ ¬ (983039 : Int32) < p0) then (1 : Int32) else (0 : Int32)) := own_blk _ _ _ _
theorem e_f1_180 (p0 : Int32) : f1_180 p0 = (if (¬ p0 < (65008 : Int32) ∧ ¬ (65533 : Int32) < p0) then (1 : Int32) else (f1_192 p0 )) := own_blk _ _ _ _
theorem e_f1_168 (p0 : Int32) : f1_168 p0 = (if (¬ p0 < (63744 : Int32) ∧ ¬ (64975 : Int32) < p0) then (1 : Int32) else (f1_180 p0 )) := own_blk _ _ _ _
theorem e_f1_155 (p0 : Int32) : f1_155 p0 = (if (¬ p0 < (12289 : Int32) ∧ ¬ (55295 : Int32) < p0) then (1 : Int32) else (f1_168 p0 )) := own_blk _ _ _ _
theorem e_f1_141 (p0 : Int32) : f1_141 p0 = (if (¬ p0 < (11264 : Int32) ∧ ¬ (12271 : Int32) < p0) then (1 : Int32) else (f1_155 p0 )) := own_blk _ _ _ _
theorem e_f1_127 (p0 : Int32) : f1_127 p0 = (if (¬ p0 < (8304 : Int32) ∧ ¬ (8591 : Int32) < p0) then (1 : Int32) else (f1_141 p0 )) := own_blk _ _ _ _
theorem e_f1_113 (p0 : Int32) : f1_113 p0 = (if (¬ p0 < (8204 : Int32) ∧ ¬ (8205 : Int32) < p0) then (1 : Int32) else (f1_127 p0 )) := own_blk _ _ _ _
theorem e_f1_99 (p0 : Int32) : f1_99 p0 = (if (¬ p0 < (895 : Int32) ∧ ¬ (8191 : Int32) < p0) then (1 : Int32) else (f1_113 p0 )) := own_blk _ _ _ _
theorem e_f1_85 (p0 : Int32) : f1_85 p0 = (if (¬ p0 < (880 : Int32) ∧ ¬ (893 : Int32) < p0) then (1 : Int32) else (f1_99 p0 )) := own_blk _ _ _ _
theorem e_f1_71 (p0 : Int32) : f1_71 p0 = (if (¬ p0 < (248 : Int32) ∧ ¬ (767 : Int32) < p0) then (1 : Int32) else (f1_85 p0 )) := own_blk _ _ _ _
theorem e_f1_57 (p0 : Int32) : f1_57 p0 = (if (¬ p0 < (216 : Int32) ∧ ¬ (246 : Int32) < p0) then (1 : Int32) else (f1_71 p0 )) := own_blk _ _ _ _
theorem e_f1_19 (p0 : Int32) : f1_19 p0 = (if (¬ p0 < (65 : Int32) ∧ ¬ (90 : Int32) < p0) then (1 : Int32) else (f1_31 p0 )) := own_blk _ _ _ _
set_option maxHeartbeats 4000000 in
theorem same (p0 : Int32) : f1 p0 = f2 p0 := by
  have o1 : 0 ≤ p0.toInt → p0.toInt < 192 → (p0.toInt / 32 % 2 = 1 → (p0 ||| (32 : Int32)).toInt = p0.toInt) ∧ (p0.toInt / 32 % 2 = 0 → (p0 ||| (32 : Int32)).toInt = p0.toInt + 32) := fun a b => by
    rw [own_or p0 a b]
    exact ⟨fun h => if_pos h, fun h => if_neg (by omega)⟩
  have o2 := (c_orS p0 32).2.1
  simp only [f1, e_f1_192, e_f1_180, e_f1_168, e_f1_155, e_f1_141, e_f1_127, e_f1_113, e_f1_99, e_f1_85, e_f1_71, e_f1_57, e_f1_19, f1_31, f2, e_163, f2_24, f2_168, own_in, Int32.lt_iff_toInt_lt, own_eq p0, show (0 : Int32).toInt = 0 from rfl, show (1 : Int32).toInt = 1 from rfl, show (32 : Int32).toInt = 32 from rfl, show (65 : Int32).toInt = 65 from rfl, show (90 : Int32).toInt = 90 from rfl, show (95 : Int32).toInt = 95 from rfl, show (97 : Int32).toInt = 97 from rfl, show (122 : Int32).toInt = 122 from rfl, show (128 : Int32).toInt = 128 from rfl, show (192 : Int32).toInt = 192 from rfl, show (214 : Int32).toInt = 214 from rfl, show (215 : Int32).toInt = 215 from rfl, show (216 : Int32).toInt = 216 from rfl, show (246 : Int32).toInt = 246 from rfl, show (247 : Int32).toInt = 247 from rfl, show (248 : Int32).toInt = 248 from rfl, show (767 : Int32).toInt = 767 from rfl, show (768 : Int32).toInt = 768 from rfl, show (879 : Int32).toInt = 879 from rfl, show (880 : Int32).toInt = 880 from rfl, show (893 : Int32).toInt = 893 from rfl, show (894 : Int32).toInt = 894 from rfl, show (895 : Int32).toInt = 895 from rfl, show (8191 : Int32).toInt = 8191 from rfl, show (8192 : Int32).toInt = 8192 from rfl, show (8203 : Int32).toInt = 8203 from rfl, show (8204 : Int32).toInt = 8204 from rfl, show (8205 : Int32).toInt = 8205 from rfl, show (8206 : Int32).toInt = 8206 from rfl, show (8303 : Int32).toInt = 8303 from rfl, show (8304 : Int32).toInt = 8304 from rfl, show (8591 : Int32).toInt = 8591 from rfl, show (8592 : Int32).toInt = 8592 from rfl, show (11263 : Int32).toInt = 11263 from rfl, show (11264 : Int32).toInt = 11264 from rfl, show (12271 : Int32).toInt = 12271 from rfl, show (12272 : Int32).toInt = 12272 from rfl, show (12288 : Int32).toInt = 12288 from rfl, show (12289 : Int32).toInt = 12289 from rfl, show (55295 : Int32).toInt = 55295 from rfl, show (55296 : Int32).toInt = 55296 from rfl, show (63743 : Int32).toInt = 63743 from rfl, show (63744 : Int32).toInt = 63744 from rfl, show (64975 : Int32).toInt = 64975 from rfl, show (64976 : Int32).toInt = 64976 from rfl, show (65007 : Int32).toInt = 65007 from rfl, show (65008 : Int32).toInt = 65008 from rfl, show (65533 : Int32).toInt = 65533 from rfl, show (65534 : Int32).toInt = 65534 from rfl, show (65535 : Int32).toInt = 65535 from rfl, show (65536 : Int32).toInt = 65536 from rfl, show (983039 : Int32).toInt = 983039 from rfl]
  generalize p0.toInt = x at *
  generalize (p0 ||| (32 : Int32)).toInt = y at *
  rcases Int.lt_or_le x 0 with h | h0
  · rw [if_pos (by omega), if_pos (by omega), if_neg (by omega), if_neg (by omega), if_pos (by omega), if_pos (by omega)]
    try rw [if_neg (by omega)]
    try rw [if_pos trivial]
  rcases Int.lt_or_le x 32 with h | h32
  · rw [if_pos (by omega), if_pos (by omega), if_neg (by omega), if_neg (by omega), if_pos (by omega), if_pos (by omega)]
    try rw [if_neg (by omega)]
    try rw [if_pos trivial]
  clear h0
  rcases Int.lt_or_le x 64 with h | h64
  · rw [if_pos (by omega), if_pos (by omega), if_neg (by omega), if_neg (by omega), if_pos (by omega), if_pos (by omega)]
    try rw [if_neg (by omega)]
    try rw [if_pos trivial]
  clear h32
  rcases Int.lt_or_le x 65 with h | h65
  · rw [if_pos (by omega), if_pos (by omega), if_neg (by omega), if_neg (by omega), if_pos (by omega), if_pos (by omega)]
    try rw [if_neg (by omega)]
    try rw [if_pos trivial]
  clear h64
  rcases Int.lt_or_le x 91 with h | h91
  · rw [if_pos (by omega), if_pos (by omega), if_pos (by omega), if_pos (by omega), if_neg (by omega)]
    try rw [if_neg (by omega)]
    try rw [if_pos trivial]
  clear h65
  rcases Int.lt_or_le x 95 with h | h95
  · rw [if_pos (by omega), if_pos (by omega), if_neg (by omega), if_neg (by omega), if_pos (by omega), if_neg (by omega), if_pos (by omega)]
    try rw [if_neg (by omega)]
    try rw [if_pos trivial]
  clear h91
  rcases Int.lt_or_le x 96 with h | h96
  · rw [if_pos (by omega), if_pos (by omega), if_neg (by omega), if_pos (by omega), if_pos (by omega), if_neg (by omega), if_pos (by omega)]
    try rw [if_pos (by omega)]
    try rw [if_pos trivial]
  clear h95
  rcases Int.lt_or_le x 97 with h | h97
  · rw [if_pos (by omega), if_pos (by omega), if_neg (by omega), if_neg (by omega), if_pos (by omega), if_pos (by omega)]
    try rw [if_neg (by omega)]
    try rw [if_pos trivial]
  clear h96
  rcases Int.lt_or_le x 123 with h | h123
  · rw [if_pos (by omega), if_neg (by omega), if_neg (by omega), if_pos (by omega), if_neg (by omega)]
    try rw [if_neg (by omega)]
    try rw [if_pos trivial]
  clear h97
  rcases Int.lt_or_le x 128 with h | h128
  · rw [if_pos (by omega), if_neg (by omega), if_pos (by omega), if_neg (by omega), if_neg (by omega), if_pos (by omega), if_neg (by omega), if_pos (by omega)]
    try rw [if_neg (by omega)]
    try rw [if_pos trivial]
  clear h123
  rcases Int.lt_or_le x 160 with h | h160
  · rw [if_neg (by omega), if_pos (by omega), if_neg (by omega), if_neg (by omega), if_neg (by omega), if_neg (by omega), if_neg (by omega), if_neg (by omega), if_neg (by omega), if_neg (by omega), if_neg (by omega), if_neg (by omega), if_neg (by omega), if_pos (by omega), if_neg (by omega), if_pos (by omega)]
    try rw [if_neg (by omega)]
    try rw [if_pos trivial]
  clear h128
  rcases Int.lt_or_le x 192 with h | h192
  · rw [if_neg (by omega), if_pos (by omega), if_neg (by omega), if_neg (by omega), if_neg (by omega), if_neg (by omega), if_neg (by omega), if_neg (by omega), if_neg (by omega), if_neg (by omega), if_neg (by omega), if_neg (by omega), if_neg (by omega), if_pos (by omega), if_neg (by omega), if_pos (by omega)]
    try rw [if_neg (by omega)]
    try rw [if_pos trivial]
  clear h160
  clear o1 o2
  rcases Int.lt_or_le x 215 with h | h215
  · rw [if_neg (by omega), if_neg (by omega), if_neg (by omega), if_neg (by omega), if_neg (by omega), if_neg (by omega), if_neg (by omega), if_pos (by omega), if_neg (by omega), if_pos (by omega), if_pos (by omega), if_pos (by omega), if_pos (by omega), if_pos (by omega), if_pos (by omega)]
    try rw [if_pos (by omega)]
    try rw [if_pos trivial]
  clear h192
  rcases Int.lt_or_le x 216 with h | h216
  · rw [if_neg (by omega), if_neg (by omega), if_pos (by omega), if_neg (by omega), if_neg (by omega), if_neg (by omega), if_neg (by omega), if_neg (by omega), if_neg (by omega), if_neg (by omega), if_neg (by omega), if_neg (by omega), if_neg (by omega), if_neg (by omega), if_neg (by omega), if_neg (by omega)]
    try rw [if_pos (by omega)]
    try rw [if_pos trivial]
  clear h215
  rcases Int.lt_or_le x 247 with h | h247
  · rw [if_neg (by omega), if_neg (by omega), if_pos (by omega), if_pos (by omega), if_neg (by omega), if_neg (by omega), if_neg (by omega), if_neg (by omega), if_pos (by omega), if_neg (by omega), if_pos (by omega), if_pos (by omega), if_pos (by omega), if_pos (by omega), if_pos (by omega), if_pos (by omega)]
    try rw [if_pos (by omega)]
    try rw [if_pos trivial]
  clear h216
  rcases Int.lt_or_le x 248 with h | h248
  · rw [if_neg (by omega), if_neg (by omega), if_pos (by omega), if_neg (by omega), if_neg (by omega), if_neg (by omega), if_neg (by omega), if_neg (by omega), if_neg (by omega), if_neg (by omega), if_neg (by omega), if_neg (by omega), if_neg (by omega), if_neg (by omega), if_neg (by omega), if_neg (by omega), if_neg (by omega)]
    try rw [if_pos (by omega)]
    try rw [if_pos trivial]
  clear h247
  rcases Int.lt_or_le x 768 with h | h768
  · rw [if_neg (by omega), if_neg (by omega), if_pos (by omega), if_neg (by omega), if_pos (by omega), if_neg (by omega), if_neg (by omega), if_neg (by omega), if_neg (by omega), if_pos (by omega), if_neg (by omega), if_pos (by omega), if_pos (by omega), if_pos (by omega), if_pos (by omega), if_pos (by omega), if_pos (by omega)]
    try rw [if_pos (by omega)]
    try rw [if_pos trivial]
  clear h248
  rcases Int.lt_or_le x 880 with h | h880
  · rw [if_neg (by omega), if_neg (by omega), if_pos (by omega), if_neg (by omega), if_neg (by omega), if_neg (by omega), if_neg (by omega), if_neg (by omega), if_neg (by omega), if_neg (by omega), if_neg (by omega), if_neg (by omega), if_neg (by omega), if_neg (by omega), if_neg (by omega), if_neg (by omega), if_neg (by omega), if_neg (by omega)]
    try rw [if_neg (by omega)]
    try rw [if_pos trivial]
  clear h768
  rcases Int.lt_or_le x 894 with h | h894
  · rw [if_neg (by omega), if_neg (by omega), if_pos (by omega), if_neg (by omega), if_neg (by omega), if_pos (by omega), if_neg (by omega), if_neg (by omega), if_neg (by omega), if_neg (by omega), if_pos (by omega), if_neg (by omega), if_pos (by omega), if_pos (by omega), if_pos (by omega), if_pos (by omega), if_pos (by omega), if_pos (by omega)]
    try rw [if_pos (by omega)]
    try rw [if_pos trivial]
  clear h880
  rcases Int.lt_or_le x 895 with h | h895
  · rw [if_neg (by omega), if_neg (by omega), if_pos (by omega), if_neg (by omega), if_neg (by omega), if_neg (by omega), if_neg (by omega), if_neg (by omega), if_neg (by omega), if_neg (by omega), if_neg (by omega), if_neg (by omega), if_neg (by omega), if_neg (by omega), if_neg (by omega), if_neg (by omega), if_neg (by omega), if_neg (by omega), if_pos (by omega)]
    try rw [if_pos (by omega)]
    try rw [if_pos trivial]
  clear h894
  rcases Int.lt_or_le x 8192 with h | h8192
  · rw [if_neg (by omega), if_neg (by omega), if_pos (by omega), if_neg (by omega), if_neg (by omega), if_neg (by omega), if_pos (by omega), if_neg (by omega), if_neg (by omega), if_neg (by omega), if_neg (by omega), if_pos (by omega), if_neg (by omega), if_pos (by omega), if_pos (by omega), if_pos (by omega), if_pos (by omega), if_pos (by omega), if_pos (by omega)]
    try rw [if_pos (by omega)]
    try rw [if_pos trivial]
  clear h895
  rcases Int.lt_or_le x 8204 with h | h8204
  · rw [if_neg (by omega), if_neg (by omega), if_pos (by omega), if_neg (by omega), if_neg (by omega), if_neg (by omega), if_neg (by omega), if_neg (by omega), if_neg (by omega), if_neg (by omega), if_neg (by omega), if_neg (by omega), if_neg (by omega), if_neg (by omega), if_neg (by omega), if_neg (by omega), if_neg (by omega), if_neg (by omega), if_pos (by omega), if_neg (by omega)]
    try rw [if_neg (by omega)]
    try rw [if_pos trivial]
  clear h8192
  rcases Int.lt_or_le x 8206 with h | h8206
  · rw [if_neg (by omega), if_neg (by omega), if_pos (by omega), if_neg (by omega), if_neg (by omega), if_neg (by omega), if_neg (by omega), if_pos (by omega), if_neg (by omega), if_neg (by omega), if_neg (by omega), if_neg (by omega), if_pos (by omega), if_neg (by omega), if_pos (by omega), if_pos (by omega), if_pos (by omega), if_pos (by omega), if_pos (by omega), if_pos (by omega)]
    try rw [if_pos (by omega)]
    try rw [if_pos trivial]
  clear h8204
  rcases Int.lt_or_le x 8304 with h | h8304
  · rw [if_neg (by omega), if_neg (by omega), if_pos (by omega), if_neg (by omega), if_neg (by omega), if_neg (by omega), if_neg (by omega), if_neg (by omega), if_neg (by omega), if_neg (by omega), if_neg (by omega), if_neg (by omega), if_neg (by omega), if_neg (by omega), if_neg (by omega), if_neg (by omega), if_neg (by omega), if_neg (by omega), if_pos (by omega), if_neg (by omega), if_pos (by omega)]
    try rw [if_neg (by omega)]
    try rw [if_pos trivial]
  clear h8206
  rcases Int.lt_or_le x 8592 with h | h8592
  · rw [if_neg (by omega), if_neg (by omega), if_pos (by omega), if_neg (by omega), if_neg (by omega), if_neg (by omega), if_neg (by omega), if_neg (by omega), if_pos (by omega), if_neg (by omega), if_neg (by omega), if_neg (by omega), if_neg (by omega), if_pos (by omega), if_neg (by omega), if_pos (by omega), if_pos (by omega), if_pos (by omega), if_pos (by omega), if_pos (by omega), if_pos (by omega)]
    try rw [if_pos (by omega)]
    try rw [if_pos trivial]
  clear h8304
  rcases Int.lt_or_le x 11264 with h | h11264
  · rw [if_neg (by omega), if_neg (by omega), if_pos (by omega), if_neg (by omega), if_neg (by omega), if_neg (by omega), if_neg (by omega), if_neg (by omega), if_neg (by omega), if_neg (by omega), if_neg (by omega), if_neg (by omega), if_neg (by omega), if_neg (by omega), if_neg (by omega), if_neg (by omega), if_neg (by omega), if_neg (by omega), if_pos (by omega), if_neg (by omega), if_pos (by omega), if_pos (by omega)]
    try rw [if_neg (by omega)]
    try rw [if_pos trivial]
  clear h8592
  rcases Int.lt_or_le x 12272 with h | h12272
  · rw [if_neg (by omega), if_neg (by omega), if_pos (by omega), if_neg (by omega), if_neg (by omega), if_neg (by omega), if_neg (by omega), if_neg (by omega), if_neg (by omega), if_pos (by omega), if_neg (by omega), if_neg (by omega), if_neg (by omega), if_neg (by omega), if_pos (by omega), if_neg (by omega), if_pos (by omega), if_pos (by omega), if_pos (by omega), if_pos (by omega), if_pos (by omega), if_pos (by omega)]
    try rw [if_pos (by omega)]
    try rw [if_pos trivial]
  clear h11264
  rcases Int.lt_or_le x 12289 with h | h12289
  · rw [if_neg (by omega), if_neg (by omega), if_pos (by omega), if_neg (by omega), if_neg (by omega), if_neg (by omega), if_neg (by omega), if_neg (by omega), if_neg (by omega), if_neg (by omega), if_neg (by omega), if_neg (by omega), if_neg (by omega), if_neg (by omega), if_neg (by omega), if_neg (by omega), if_neg (by omega), if_neg (by omega), if_pos (by omega), if_neg (by omega), if_pos (by omega), if_pos (by omega), if_pos (by omega)]
    try rw [if_neg (by omega)]
    try rw [if_pos trivial]
  clear h12272
  rcases Int.lt_or_le x 55296 with h | h55296
  · rw [if_neg (by omega), if_neg (by omega), if_pos (by omega), if_neg (by omega), if_neg (by omega), if_neg (by omega), if_neg (by omega), if_neg (by omega), if_neg (by omega), if_neg (by omega), if_pos (by omega), if_neg (by omega), if_neg (by omega), if_neg (by omega), if_neg (by omega), if_pos (by omega), if_neg (by omega), if_pos (by omega), if_pos (by omega), if_pos (by omega), if_pos (by omega), if_pos (by omega), if_pos (by omega)]
    try rw [if_pos (by omega)]
    try rw [if_pos trivial]
  clear h12289
  rcases Int.lt_or_le x 63744 with h | h63744
  · rw [if_neg (by omega), if_neg (by omega), if_pos (by omega), if_neg (by omega), if_neg (by omega), if_neg (by omega), if_neg (by omega), if_neg (by omega), if_neg (by omega), if_neg (by omega), if_neg (by omega), if_neg (by omega), if_neg (by omega), if_neg (by omega), if_neg (by omega), if_neg (by omega), if_neg (by omega), if_neg (by omega), if_pos (by omega), if_neg (by omega), if_pos (by omega), if_pos (by omega), if_pos (by omega), if_pos (by omega)]
    try rw [if_neg (by omega)]
    try rw [if_pos trivial]
  clear h55296
  rcases Int.lt_or_le x 64976 with h | h64976
  · rw [if_neg (by omega), if_neg (by omega), if_pos (by omega), if_neg (by omega), if_neg (by omega), if_neg (by omega), if_neg (by omega), if_neg (by omega), if_neg (by omega), if_neg (by omega), if_neg (by omega), if_pos (by omega), if_neg (by omega), if_neg (by omega), if_neg (by omega), if_neg (by omega), if_pos (by omega), if_neg (by omega), if_pos (by omega), if_pos (by omega), if_pos (by omega), if_pos (by omega), if_pos (by omega), if_pos (by omega)]
    try rw [if_pos (by omega)]
    try rw [if_pos trivial]
  clear h63744
  rcases Int.lt_or_le x 65008 with h | h65008
  · rw [if_neg (by omega), if_neg (by omega), if_pos (by omega), if_neg (by omega), if_neg (by omega), if_neg (by omega), if_neg (by omega), if_neg (by omega), if_neg (by omega), if_neg (by omega), if_neg (by omega), if_neg (by omega), if_neg (by omega), if_neg (by omega), if_neg (by omega), if_neg (by omega), if_neg (by omega), if_neg (by omega), if_pos (by omega), if_neg (by omega), if_pos (by omega), if_pos (by omega), if_pos (by omega), if_pos (by omega), if_pos (by omega)]
    try rw [if_neg (by omega)]
    try rw [if_pos trivial]
  clear h64976
  rcases Int.lt_or_le x 65534 with h | h65534
  · rw [if_neg (by omega), if_neg (by omega), if_pos (by omega), if_neg (by omega), if_neg (by omega), if_neg (by omega), if_neg (by omega), if_neg (by omega), if_neg (by omega), if_neg (by omega), if_neg (by omega), if_neg (by omega), if_pos (by omega), if_neg (by omega), if_neg (by omega), if_neg (by omega), if_neg (by omega), if_pos (by omega), if_neg (by omega), if_pos (by omega), if_pos (by omega), if_pos (by omega), if_pos (by omega), if_pos (by omega), if_pos (by omega)]
    try rw [if_pos (by omega)]
    try rw [if_pos trivial]
  clear h65008
  rcases Int.lt_or_le x 65536 with h | h65536
  · rw [if_neg (by omega), if_neg (by omega), if_pos (by omega), if_neg (by omega), if_neg (by omega), if_neg (by omega), if_neg (by omega), if_neg (by omega), if_neg (by omega), if_neg (by omega), if_neg (by omega), if_neg (by omega), if_neg (by omega), if_neg (by omega), if_neg (by omega), if_neg (by omega), if_neg (by omega), if_neg (by omega), if_pos (by omega), if_neg (by omega), if_pos (by omega), if_pos (by omega), if_pos (by omega), if_pos (by omega), if_pos (by omega), if_pos (by omega)]
    try rw [if_neg (by omega)]
    try rw [if_pos trivial]
  clear h65534
  rcases Int.lt_or_le x 983040 with h | h983040
  · rw [if_neg (by omega), if_neg (by omega), if_pos (by omega), if_neg (by omega), if_neg (by omega), if_neg (by omega), if_neg (by omega), if_neg (by omega), if_neg (by omega), if_neg (by omega), if_neg (by omega), if_neg (by omega), if_neg (by omega), if_pos (by omega), if_neg (by omega), if_neg (by omega), if_neg (by omega), if_neg (by omega), if_pos (by omega), if_neg (by omega), if_pos (by omega), if_pos (by omega), if_pos (by omega), if_pos (by omega), if_pos (by omega), if_pos (by omega)]
    try rw [if_pos (by omega)]
    try rw [if_pos trivial]
  clear h65536
  rw [if_neg (by omega), if_neg (by omega), if_pos (by omega), if_neg (by omega), if_neg (by omega), if_neg (by omega), if_neg (by omega), if_neg (by omega), if_neg (by omega), if_neg (by omega), if_neg (by omega), if_neg (by omega), if_neg (by omega), if_neg (by omega), if_neg (by omega)]
  try rw [if_pos (by omega)]
  try rw [if_pos trivial]

theorem pd_1 : parseMethodDescriptor "(I)Z" = some ⟨[.int], some .boolean⟩ := by decide +kernel
theorem ef_0 (m : MethodId) (x0 : Int32) (x1 : Int32) (x2 : Int32) : entryFrame m #[(.int x0), (.int x1), (.int x2)] maxLocals = mkF m 0 #[.val (.int x0), .val (.int x1), .val (.int x2), .unset, .unset, .unset, .unset] [] := by first | (simp [entryFrame, mkF, argsToLocals, Value.category, maxLocals]; done) | rfl
set_option maxRecDepth 65536 in
set_option maxHeartbeats 40000000 in
theorem rm0 (l : Launch) (Z : State) (a0 : Array Value) (hw : ∀ d ∈ tables_1, d.before a0 Z = true) (ws : List Jvm.Cond) (p0 p1 p2 : Int32) (h0 : Heap) (n0 : Nat) (Z0 : n0 ≤ h0.size)  :
    MetFree l x (head1 (Jvm.Cond.code x code maxLocals ret :: ws) room_1) (fun a U => a = #[(.int p0), (.int p1), (.int p2)] ∧ Z.Warmed39 U.vm ∧ U.heap = h0) (fun _ _ _ _ _ => True) (fun _ U o U' => ∃ v L, o = .returned v ∧ QV (some (.int 1)) (fun _ L => Fr n0 L) v U'.heap L ∧ FrameEnd U o U' L room_1.cells room_1.slots) := by
  refine MetFree.of_bodySF (plainFor_of_name pn_1) hisR ?_
  intro p e s m args below meth c s₁ Bd hml0 hP hK
  obtain ⟨rfl, hZ, hh⟩ := hP
  have hx := Bd.exec
  have hby := Bd.bytes
  have hml : c.maxLocals = 7 := hml0
  have hown : s.vm.findClass "com/example/treegraft/treegraft/xml/XmlCharsIsNameStartCharPinLaw" = some m.cls := findClass_of_methodNamed Bd.named
  have hnm := (name_of_methodNamed Bd.named Bd.method).1
  have hlk : meth.locks = false := BodyLoose.notSynchronized Bd
  have X0 : Stand p l e room_1 s m #[(.int p0), (.int p1), (.int p2)] below meth c s₁ [] 0 0 := Stand.of_body Bd
  have e0 : s₁.heap = h0 := by rw [← hh, Bd.state]; rfl
  have N0 := Fr.nil n0
  refine Got.body (ef_0 m p0 p1 p2) ?_
  refine Got.step (T' := s₁) (g' := (mkF m 2 #[.val (.int p0), .val (.int p1), .val (.int p2), .unset, .unset, .unset, .unset] [(.int (29 : Int32))])) (fun tq kt => ?_) ?_
  · show Steps p.tables e below (s₁.setTop (mkF m 0 #[.val (.int p0), .val (.int p1), .val (.int p2), .unset, .unset, .unset, .unset] [])) _
    refine XS.bipush X0.here hx rfl (hb hby at_0) ?_
    exact kt
  obtain ⟨T58, h58, k58, X58, e58, E58, A58, st58⟩ := newP X0 hx hZ (hw _ (List.mem_of_getElem? (i := 0) rfl)) e0 (g := (mkF m 2 #[.val (.int p0), .val (.int p1), .val (.int p2), .unset, .unset, .unset, .unset] [(.int (29 : Int32))])) rfl (hb hby at_2) rfl (by decide) (cap := 29) (by decide) (by decide) (by decide) (by decide)
  obtain ⟨b58, g58⟩ : ∃ z, z = h0.size := ⟨_, rfl⟩
  rw [← g58] at A58 st58
  have gn_b58 : n0 ≤ b58 := by rw [g58]; exact Z0
  have Z0_59 : n0 ≤ h58.size := (Nat.le_trans Z0 E58.1)
  have V58 : Arv Z h58 b58 k58 .int (29 : Int32) [(.int (0 : Int32)), (.int (0 : Int32)), (.int (0 : Int32)), (.int (0 : Int32)), (.int (0 : Int32)), (.int (0 : Int32)), (.int (0 : Int32)), (.int (0 : Int32)), (.int (0 : Int32)), (.int (0 : Int32)), (.int (0 : Int32)), (.int (0 : Int32)), (.int (0 : Int32)), (.int (0 : Int32)), (.int (0 : Int32)), (.int (0 : Int32)), (.int (0 : Int32)), (.int (0 : Int32)), (.int (0 : Int32)), (.int (0 : Int32)), (.int (0 : Int32)), (.int (0 : Int32)), (.int (0 : Int32)), (.int (0 : Int32)), (.int (0 : Int32)), (.int (0 : Int32)), (.int (0 : Int32)), (.int (0 : Int32)), (.int (0 : Int32))] (.int (0 : Int32)) := (Arv.new A58 (by decide)).pad (pad_rep [] (.int (0 : Int32)) 29)
  refine Got.step st58 ?_
  show Got p e below s _ _ _ _ T58 (mkF m 4 #[.val (.int p0), .val (.int p1), .val (.int p2), .unset, .unset, .unset, .unset] [(.ref b58)])
  refine Got.step (T' := T58) (g' := (mkF m 7 #[.val (.int p0), .val (.int p1), .val (.int p2), .unset, .unset, .unset, .unset] [(.int (0 : Int32)), (.int (0 : Int32)), (.ref b58), (.ref b58)])) (fun tq kt => ?_) ?_
  · show Steps p.tables e below (T58.setTop (mkF m 4 #[.val (.int p0), .val (.int p1), .val (.int p2), .unset, .unset, .unset, .unset] [(.ref b58)])) _
    refine XS.dup X58.here hx rfl (hb hby at_4) rfl rfl ?_
    show Steps p.tables e below (T58.setTop (mkF m 5 #[.val (.int p0), .val (.int p1), .val (.int p2), .unset, .unset, .unset, .unset] [(.ref b58), (.ref b58)])) _
    refine XS.iconst X58.here hx rfl (hb hby at_5) ?_
    show Steps p.tables e below (T58.setTop (mkF m 6 #[.val (.int p0), .val (.int p1), .val (.int p2), .unset, .unset, .unset, .unset] [(.int (0 : Int32)), (.ref b58), (.ref b58)])) _
    refine XS.iconst X58.here hx rfl (hb hby at_6) ?_
    exact kt
  obtain ⟨cl60, Ar60, q60, S60, M60, H60, G60⟩ := (id V58)
  have hin60 : ¬ ((0 : Int32) < 0 ∨ cl60.slots.size ≤ ((0 : Int32)).toNatClampNeg) := inb_of S60 ⟨by decide, by decide⟩
  obtain ⟨T60, h60, X60, e60, W60, st60⟩ := stI X58 hx hZ e58 Ar60 (j := (0 : Int32)) hin60 (g := (mkF m 7 #[.val (.int p0), .val (.int p1), .val (.int p2), .unset, .unset, .unset, .unset] [(.int (0 : Int32)), (.int (0 : Int32)), (.ref b58), (.ref b58)])) rfl rfl (hb hby at_7)
  have Z0_61 : n0 ≤ h60.size := (Nat.le_trans Z0_59 (Keep.of_wr W60).1)
  have V60 : Arv Z h60 b58 k58 .int (29 : Int32) [(.int (0 : Int32)), (.int (0 : Int32)), (.int (0 : Int32)), (.int (0 : Int32)), (.int (0 : Int32)), (.int (0 : Int32)), (.int (0 : Int32)), (.int (0 : Int32)), (.int (0 : Int32)), (.int (0 : Int32)), (.int (0 : Int32)), (.int (0 : Int32)), (.int (0 : Int32)), (.int (0 : Int32)), (.int (0 : Int32)), (.int (0 : Int32)), (.int (0 : Int32)), (.int (0 : Int32)), (.int (0 : Int32)), (.int (0 : Int32)), (.int (0 : Int32)), (.int (0 : Int32)), (.int (0 : Int32)), (.int (0 : Int32)), (.int (0 : Int32)), (.int (0 : Int32)), (.int (0 : Int32)), (.int (0 : Int32)), (.int (0 : Int32))] (.int (0 : Int32)) := Arv.set Ar60 q60 S60 M60 H60 G60 rfl W60 0 rfl (Nat.le_of_ble_eq_true rfl)
  have N60 := Fr.snoc X60 N0 gn_b58
  refine Got.step st60 ?_
  show Got p e below s _ _ _ _ T60 (mkF m 8 #[.val (.int p0), .val (.int p1), .val (.int p2), .unset, .unset, .unset, .unset] [(.ref b58)])
  refine Got.step (T' := T60) (g' := (mkF m 12 #[.val (.int p0), .val (.int p1), .val (.int p2), .unset, .unset, .unset, .unset] [(.int (65 : Int32)), (.int (1 : Int32)), (.ref b58), (.ref b58)])) (fun tq kt => ?_) ?_
  · show Steps p.tables e below (T60.setTop (mkF m 8 #[.val (.int p0), .val (.int p1), .val (.int p2), .unset, .unset, .unset, .unset] [(.ref b58)])) _
    refine XS.dup X60.here hx rfl (hb hby at_8) rfl rfl ?_
    show Steps p.tables e below (T60.setTop (mkF m 9 #[.val (.int p0), .val (.int p1), .val (.int p2), .unset, .unset, .unset, .unset] [(.ref b58), (.ref b58)])) _
    refine XS.iconst X60.here hx rfl (hb hby at_9) ?_
    show Steps p.tables e below (T60.setTop (mkF m 10 #[.val (.int p0), .val (.int p1), .val (.int p2), .unset, .unset, .unset, .unset] [(.int (1 : Int32)), (.ref b58), (.ref b58)])) _
    refine XS.bipush X60.here hx rfl (hb hby at_10) ?_
    exact kt
  obtain ⟨cl62, Ar62, q62, S62, M62, H62, G62⟩ := (id V60)
  have hin62 : ¬ ((1 : Int32) < 0 ∨ cl62.slots.size ≤ ((1 : Int32)).toNatClampNeg) := inb_of S62 ⟨by decide, by decide⟩
  obtain ⟨T62, h62, X62, e62, W62, st62⟩ := stI X60 hx hZ e60 Ar62 (j := (1 : Int32)) hin62 (g := (mkF m 12 #[.val (.int p0), .val (.int p1), .val (.int p2), .unset, .unset, .unset, .unset] [(.int (65 : Int32)), (.int (1 : Int32)), (.ref b58), (.ref b58)])) rfl rfl (hb hby at_12)
  have Z0_63 : n0 ≤ h62.size := (Nat.le_trans Z0_61 (Keep.of_wr W62).1)
  have V62 : Arv Z h62 b58 k58 .int (29 : Int32) [(.int (0 : Int32)), (.int (65 : Int32)), (.int (0 : Int32)), (.int (0 : Int32)), (.int (0 : Int32)), (.int (0 : Int32)), (.int (0 : Int32)), (.int (0 : Int32)), (.int (0 : Int32)), (.int (0 : Int32)), (.int (0 : Int32)), (.int (0 : Int32)), (.int (0 : Int32)), (.int (0 : Int32)), (.int (0 : Int32)), (.int (0 : Int32)), (.int (0 : Int32)), (.int (0 : Int32)), (.int (0 : Int32)), (.int (0 : Int32)), (.int (0 : Int32)), (.int (0 : Int32)), (.int (0 : Int32)), (.int (0 : Int32)), (.int (0 : Int32)), (.int (0 : Int32)), (.int (0 : Int32)), (.int (0 : Int32)), (.int (0 : Int32))] (.int (0 : Int32)) := Arv.set Ar62 q62 S62 M62 H62 G62 rfl W62 1 rfl (Nat.le_of_ble_eq_true rfl)
  have N62 := Fr.snoc X62 N60 gn_b58
  refine Got.step st62 ?_
  show Got p e below s _ _ _ _ T62 (mkF m 13 #[.val (.int p0), .val (.int p1), .val (.int p2), .unset, .unset, .unset, .unset] [(.ref b58)])
  refine Got.step (T' := T62) (g' := (mkF m 17 #[.val (.int p0), .val (.int p1), .val (.int p2), .unset, .unset, .unset, .unset] [(.int (90 : Int32)), (.int (2 : Int32)), (.ref b58), (.ref b58)])) (fun tq kt => ?_) ?_
  · show Steps p.tables e below (T62.setTop (mkF m 13 #[.val (.int p0), .val (.int p1), .val (.int p2), .unset, .unset, .unset, .unset] [(.ref b58)])) _
    refine XS.dup X62.here hx rfl (hb hby at_13) rfl rfl ?_
    show Steps p.tables e below (T62.setTop (mkF m 14 #[.val (.int p0), .val (.int p1), .val (.int p2), .unset, .unset, .unset, .unset] [(.ref b58), (.ref b58)])) _
    refine XS.iconst X62.here hx rfl (hb hby at_14) ?_
    show Steps p.tables e below (T62.setTop (mkF m 15 #[.val (.int p0), .val (.int p1), .val (.int p2), .unset, .unset, .unset, .unset] [(.int (2 : Int32)), (.ref b58), (.ref b58)])) _
    refine XS.bipush X62.here hx rfl (hb hby at_15) ?_
    exact kt
  obtain ⟨cl64, Ar64, q64, S64, M64, H64, G64⟩ := (id V62)
  have hin64 : ¬ ((2 : Int32) < 0 ∨ cl64.slots.size ≤ ((2 : Int32)).toNatClampNeg) := inb_of S64 ⟨by decide, by decide⟩
  obtain ⟨T64, h64, X64, e64, W64, st64⟩ := stI X62 hx hZ e62 Ar64 (j := (2 : Int32)) hin64 (g := (mkF m 17 #[.val (.int p0), .val (.int p1), .val (.int p2), .unset, .unset, .unset, .unset] [(.int (90 : Int32)), (.int (2 : Int32)), (.ref b58), (.ref b58)])) rfl rfl (hb hby at_17)
  have Z0_65 : n0 ≤ h64.size := (Nat.le_trans Z0_63 (Keep.of_wr W64).1)
  have V64 : Arv Z h64 b58 k58 .int (29 : Int32) [(.int (0 : Int32)), (.int (65 : Int32)), (.int (90 : Int32)), (.int (0 : Int32)), (.int (0 : Int32)), (.int (0 : Int32)), (.int (0 : Int32)), (.int (0 : Int32)), (.int (0 : Int32)), (.int (0 : Int32)), (.int (0 : Int32)), (.int (0 : Int32)), (.int (0 : Int32)), (.int (0 : Int32)), (.int (0 : Int32)), (.int (0 : Int32)), (.int (0 : Int32)), (.int (0 : Int32)), (.int (0 : Int32)), (.int (0 : Int32)), (.int (0 : Int32)), (.int (0 : Int32)), (.int (0 : Int32)), (.int (0 : Int32)), (.int (0 : Int32)), (.int (0 : Int32)), (.int (0 : Int32)), (.int (0 : Int32)), (.int (0 : Int32))] (.int (0 : Int32)) := Arv.set Ar64 q64 S64 M64 H64 G64 rfl W64 2 rfl (Nat.le_of_ble_eq_true rfl)
  have N64 := Fr.snoc X64 N62 gn_b58
  refine Got.step st64 ?_
  show Got p e below s _ _ _ _ T64 (mkF m 18 #[.val (.int p0), .val (.int p1), .val (.int p2), .unset, .unset, .unset, .unset] [(.ref b58)])
  refine Got.step (T' := T64) (g' := (mkF m 22 #[.val (.int p0), .val (.int p1), .val (.int p2), .unset, .unset, .unset, .unset] [(.int (97 : Int32)), (.int (3 : Int32)), (.ref b58), (.ref b58)])) (fun tq kt => ?_) ?_
  · show Steps p.tables e below (T64.setTop (mkF m 18 #[.val (.int p0), .val (.int p1), .val (.int p2), .unset, .unset, .unset, .unset] [(.ref b58)])) _
    refine XS.dup X64.here hx rfl (hb hby at_18) rfl rfl ?_
    show Steps p.tables e below (T64.setTop (mkF m 19 #[.val (.int p0), .val (.int p1), .val (.int p2), .unset, .unset, .unset, .unset] [(.ref b58), (.ref b58)])) _
    refine XS.iconst X64.here hx rfl (hb hby at_19) ?_
    show Steps p.tables e below (T64.setTop (mkF m 20 #[.val (.int p0), .val (.int p1), .val (.int p2), .unset, .unset, .unset, .unset] [(.int (3 : Int32)), (.ref b58), (.ref b58)])) _
    refine XS.bipush X64.here hx rfl (hb hby at_20) ?_
    exact kt
  obtain ⟨cl66, Ar66, q66, S66, M66, H66, G66⟩ := (id V64)
  have hin66 : ¬ ((3 : Int32) < 0 ∨ cl66.slots.size ≤ ((3 : Int32)).toNatClampNeg) := inb_of S66 ⟨by decide, by decide⟩
  obtain ⟨T66, h66, X66, e66, W66, st66⟩ := stI X64 hx hZ e64 Ar66 (j := (3 : Int32)) hin66 (g := (mkF m 22 #[.val (.int p0), .val (.int p1), .val (.int p2), .unset, .unset, .unset, .unset] [(.int (97 : Int32)), (.int (3 : Int32)), (.ref b58), (.ref b58)])) rfl rfl (hb hby at_22)
  have Z0_67 : n0 ≤ h66.size := (Nat.le_trans Z0_65 (Keep.of_wr W66).1)
  have V66 : Arv Z h66 b58 k58 .int (29 : Int32) [(.int (0 : Int32)), (.int (65 : Int32)), (.int (90 : Int32)), (.int (97 : Int32)), (.int (0 : Int32)), (.int (0 : Int32)), (.int (0 : Int32)), (.int (0 : Int32)), (.int (0 : Int32)), (.int (0 : Int32)), (.int (0 : Int32)), (.int (0 : Int32)), (.int (0 : Int32)), (.int (0 : Int32)), (.int (0 : Int32)), (.int (0 : Int32)), (.int (0 : Int32)), (.int (0 : Int32)), (.int (0 : Int32)), (.int (0 : Int32)), (.int (0 : Int32)), (.int (0 : Int32)), (.int (0 : Int32)), (.int (0 : Int32)), (.int (0 : Int32)), (.int (0 : Int32)), (.int (0 : Int32)), (.int (0 : Int32)), (.int (0 : Int32))] (.int (0 : Int32)) := Arv.set Ar66 q66 S66 M66 H66 G66 rfl W66 3 rfl (Nat.le_of_ble_eq_true rfl)
  have N66 := Fr.snoc X66 N64 gn_b58
  refine Got.step st66 ?_
  show Got p e below s _ _ _ _ T66 (mkF m 23 #[.val (.int p0), .val (.int p1), .val (.int p2), .unset, .unset, .unset, .unset] [(.ref b58)])
  refine Got.step (T' := T66) (g' := (mkF m 27 #[.val (.int p0), .val (.int p1), .val (.int p2), .unset, .unset, .unset, .unset] [(.int (122 : Int32)), (.int (4 : Int32)), (.ref b58), (.ref b58)])) (fun tq kt => ?_) ?_
  · show Steps p.tables e below (T66.setTop (mkF m 23 #[.val (.int p0), .val (.int p1), .val (.int p2), .unset, .unset, .unset, .unset] [(.ref b58)])) _
    refine XS.dup X66.here hx rfl (hb hby at_23) rfl rfl ?_
    show Steps p.tables e below (T66.setTop (mkF m 24 #[.val (.int p0), .val (.int p1), .val (.int p2), .unset, .unset, .unset, .unset] [(.ref b58), (.ref b58)])) _
    refine XS.iconst X66.here hx rfl (hb hby at_24) ?_
    show Steps p.tables e below (T66.setTop (mkF m 25 #[.val (.int p0), .val (.int p1), .val (.int p2), .unset, .unset, .unset, .unset] [(.int (4 : Int32)), (.ref b58), (.ref b58)])) _
    refine XS.bipush X66.here hx rfl (hb hby at_25) ?_
    exact kt
  obtain ⟨cl68, Ar68, q68, S68, M68, H68, G68⟩ := (id V66)
  have hin68 : ¬ ((4 : Int32) < 0 ∨ cl68.slots.size ≤ ((4 : Int32)).toNatClampNeg) := inb_of S68 ⟨by decide, by decide⟩
  obtain ⟨T68, h68, X68, e68, W68, st68⟩ := stI X66 hx hZ e66 Ar68 (j := (4 : Int32)) hin68 (g := (mkF m 27 #[.val (.int p0), .val (.int p1), .val (.int p2), .unset, .unset, .unset, .unset] [(.int (122 : Int32)), (.int (4 : Int32)), (.ref b58), (.ref b58)])) rfl rfl (hb hby at_27)
  have Z0_69 : n0 ≤ h68.size := (Nat.le_trans Z0_67 (Keep.of_wr W68).1)
  have V68 : Arv Z h68 b58 k58 .int (29 : Int32) [(.int (0 : Int32)), (.int (65 : Int32)), (.int (90 : Int32)), (.int (97 : Int32)), (.int (122 : Int32)), (.int (0 : Int32)), (.int (0 : Int32)), (.int (0 : Int32)), (.int (0 : Int32)), (.int (0 : Int32)), (.int (0 : Int32)), (.int (0 : Int32)), (.int (0 : Int32)), (.int (0 : Int32)), (.int (0 : Int32)), (.int (0 : Int32)), (.int (0 : Int32)), (.int (0 : Int32)), (.int (0 : Int32)), (.int (0 : Int32)), (.int (0 : Int32)), (.int (0 : Int32)), (.int (0 : Int32)), (.int (0 : Int32)), (.int (0 : Int32)), (.int (0 : Int32)), (.int (0 : Int32)), (.int (0 : Int32)), (.int (0 : Int32))] (.int (0 : Int32)) := Arv.set Ar68 q68 S68 M68 H68 G68 rfl W68 4 rfl (Nat.le_of_ble_eq_true rfl)
  have N68 := Fr.snoc X68 N66 gn_b58
  refine Got.step st68 ?_
  show Got p e below s _ _ _ _ T68 (mkF m 28 #[.val (.int p0), .val (.int p1), .val (.int p2), .unset, .unset, .unset, .unset] [(.ref b58)])
  refine Got.step (T' := T68) (g' := (mkF m 32 #[.val (.int p0), .val (.int p1), .val (.int p2), .unset, .unset, .unset, .unset] [(.int (95 : Int32)), (.int (5 : Int32)), (.ref b58), (.ref b58)])) (fun tq kt => ?_) ?_
  · show Steps p.tables e below (T68.setTop (mkF m 28 #[.val (.int p0), .val (.int p1), .val (.int p2), .unset, .unset, .unset, .unset] [(.ref b58)])) _
    refine XS.dup X68.here hx rfl (hb hby at_28) rfl rfl ?_
    show Steps p.tables e below (T68.setTop (mkF m 29 #[.val (.int p0), .val (.int p1), .val (.int p2), .unset, .unset, .unset, .unset] [(.ref b58), (.ref b58)])) _
    refine XS.iconst X68.here hx rfl (hb hby at_29) ?_
    show Steps p.tables e below (T68.setTop (mkF m 30 #[.val (.int p0), .val (.int p1), .val (.int p2), .unset, .unset, .unset, .unset] [(.int (5 : Int32)), (.ref b58), (.ref b58)])) _
    refine XS.bipush X68.here hx rfl (hb hby at_30) ?_
    exact kt
  obtain ⟨cl70, Ar70, q70, S70, M70, H70, G70⟩ := (id V68)
  have hin70 : ¬ ((5 : Int32) < 0 ∨ cl70.slots.size ≤ ((5 : Int32)).toNatClampNeg) := inb_of S70 ⟨by decide, by decide⟩
  obtain ⟨T70, h70, X70, e70, W70, st70⟩ := stI X68 hx hZ e68 Ar70 (j := (5 : Int32)) hin70 (g := (mkF m 32 #[.val (.int p0), .val (.int p1), .val (.int p2), .unset, .unset, .unset, .unset] [(.int (95 : Int32)), (.int (5 : Int32)), (.ref b58), (.ref b58)])) rfl rfl (hb hby at_32)
  have Z0_71 : n0 ≤ h70.size := (Nat.le_trans Z0_69 (Keep.of_wr W70).1)
  have V70 : Arv Z h70 b58 k58 .int (29 : Int32) [(.int (0 : Int32)), (.int (65 : Int32)), (.int (90 : Int32)), (.int (97 : Int32)), (.int (122 : Int32)), (.int (95 : Int32)), (.int (0 : Int32)), (.int (0 : Int32)), (.int (0 : Int32)), (.int (0 : Int32)), (.int (0 : Int32)), (.int (0 : Int32)), (.int (0 : Int32)), (.int (0 : Int32)), (.int (0 : Int32)), (.int (0 : Int32)), (.int (0 : Int32)), (.int (0 : Int32)), (.int (0 : Int32)), (.int (0 : Int32)), (.int (0 : Int32)), (.int (0 : Int32)), (.int (0 : Int32)), (.int (0 : Int32)), (.int (0 : Int32)), (.int (0 : Int32)), (.int (0 : Int32)), (.int (0 : Int32)), (.int (0 : Int32))] (.int (0 : Int32)) := Arv.set Ar70 q70 S70 M70 H70 G70 rfl W70 5 rfl (Nat.le_of_ble_eq_true rfl)
  have N70 := Fr.snoc X70 N68 gn_b58
  refine Got.step st70 ?_
  show Got p e below s _ _ _ _ T70 (mkF m 33 #[.val (.int p0), .val (.int p1), .val (.int p2), .unset, .unset, .unset, .unset] [(.ref b58)])
  refine Got.step (T' := T70) (g' := (mkF m 38 #[.val (.int p0), .val (.int p1), .val (.int p2), .unset, .unset, .unset, .unset] [(.int (127 : Int32)), (.int (6 : Int32)), (.ref b58), (.ref b58)])) (fun tq kt => ?_) ?_
  · show Steps p.tables e below (T70.setTop (mkF m 33 #[.val (.int p0), .val (.int p1), .val (.int p2), .unset, .unset, .unset, .unset] [(.ref b58)])) _
    refine XS.dup X70.here hx rfl (hb hby at_33) rfl rfl ?_
    show Steps p.tables e below (T70.setTop (mkF m 34 #[.val (.int p0), .val (.int p1), .val (.int p2), .unset, .unset, .unset, .unset] [(.ref b58), (.ref b58)])) _
    refine XS.bipush X70.here hx rfl (hb hby at_34) ?_
    show Steps p.tables e below (T70.setTop (mkF m 36 #[.val (.int p0), .val (.int p1), .val (.int p2), .unset, .unset, .unset, .unset] [(.int (6 : Int32)), (.ref b58), (.ref b58)])) _
    refine XS.bipush X70.here hx rfl (hb hby at_36) ?_
    exact kt
  obtain ⟨cl72, Ar72, q72, S72, M72, H72, G72⟩ := (id V70)
  have hin72 : ¬ ((6 : Int32) < 0 ∨ cl72.slots.size ≤ ((6 : Int32)).toNatClampNeg) := inb_of S72 ⟨by decide, by decide⟩
  obtain ⟨T72, h72, X72, e72, W72, st72⟩ := stI X70 hx hZ e70 Ar72 (j := (6 : Int32)) hin72 (g := (mkF m 38 #[.val (.int p0), .val (.int p1), .val (.int p2), .unset, .unset, .unset, .unset] [(.int (127 : Int32)), (.int (6 : Int32)), (.ref b58), (.ref b58)])) rfl rfl (hb hby at_38)
  have Z0_73 : n0 ≤ h72.size := (Nat.le_trans Z0_71 (Keep.of_wr W72).1)
  have V72 : Arv Z h72 b58 k58 .int (29 : Int32) [(.int (0 : Int32)), (.int (65 : Int32)), (.int (90 : Int32)), (.int (97 : Int32)), (.int (122 : Int32)), (.int (95 : Int32)), (.int (127 : Int32)), (.int (0 : Int32)), (.int (0 : Int32)), (.int (0 : Int32)), (.int (0 : Int32)), (.int (0 : Int32)), (.int (0 : Int32)), (.int (0 : Int32)), (.int (0 : Int32)), (.int (0 : Int32)), (.int (0 : Int32)), (.int (0 : Int32)), (.int (0 : Int32)), (.int (0 : Int32)), (.int (0 : Int32)), (.int (0 : Int32)), (.int (0 : Int32)), (.int (0 : Int32)), (.int (0 : Int32)), (.int (0 : Int32)), (.int (0 : Int32)), (.int (0 : Int32)), (.int (0 : Int32))] (.int (0 : Int32)) := Arv.set Ar72 q72 S72 M72 H72 G72 rfl W72 6 rfl (Nat.le_of_ble_eq_true rfl)
  have N72 := Fr.snoc X72 N70 gn_b58
  refine Got.step st72 ?_
  show Got p e below s _ _ _ _ T72 (mkF m 39 #[.val (.int p0), .val (.int p1), .val (.int p2), .unset, .unset, .unset, .unset] [(.ref b58)])
  refine Got.step (T' := T72) (g' := (mkF m 45 #[.val (.int p0), .val (.int p1), .val (.int p2), .unset, .unset, .unset, .unset] [(.int (128 : Int32)), (.int (7 : Int32)), (.ref b58), (.ref b58)])) (fun tq kt => ?_) ?_
  · show Steps p.tables e below (T72.setTop (mkF m 39 #[.val (.int p0), .val (.int p1), .val (.int p2), .unset, .unset, .unset, .unset] [(.ref b58)])) _
    refine XS.dup X72.here hx rfl (hb hby at_39) rfl rfl ?_
    show Steps p.tables e below (T72.setTop (mkF m 40 #[.val (.int p0), .val (.int p1), .val (.int p2), .unset, .unset, .unset, .unset] [(.ref b58), (.ref b58)])) _
    refine XS.bipush X72.here hx rfl (hb hby at_40) ?_
    show Steps p.tables e below (T72.setTop (mkF m 42 #[.val (.int p0), .val (.int p1), .val (.int p2), .unset, .unset, .unset, .unset] [(.int (7 : Int32)), (.ref b58), (.ref b58)])) _
    refine XS.sipush X72.here hx rfl (hb hby at_42) ?_
    exact kt
  obtain ⟨cl74, Ar74, q74, S74, M74, H74, G74⟩ := (id V72)
  have hin74 : ¬ ((7 : Int32) < 0 ∨ cl74.slots.size ≤ ((7 : Int32)).toNatClampNeg) := inb_of S74 ⟨by decide, by decide⟩
  obtain ⟨T74, h74, X74, e74, W74, st74⟩ := stI X72 hx hZ e72 Ar74 (j := (7 : Int32)) hin74 (g := (mkF m 45 #[.val (.int p0), .val (.int p1), .val (.int p2), .unset, .unset, .unset, .unset] [(.int (128 : Int32)), (.int (7 : Int32)), (.ref b58), (.ref b58)])) rfl rfl (hb hby at_45)
  have Z0_75 : n0 ≤ h74.size := (Nat.le_trans Z0_73 (Keep.of_wr W74).1)
  have V74 : Arv Z h74 b58 k58 .int (29 : Int32) [(.int (0 : Int32)), (.int (65 : Int32)), (.int (90 : Int32)), (.int (97 : Int32)), (.int (122 : Int32)), (.int (95 : Int32)), (.int (127 : Int32)), (.int (128 : Int32)), (.int (0 : Int32)), (.int (0 : Int32)), (.int (0 : Int32)), (.int (0 : Int32)), (.int (0 : Int32)), (.int (0 : Int32)), (.int (0 : Int32)), (.int (0 : Int32)), (.int (0 : Int32)), (.int (0 : Int32)), (.int (0 : Int32)), (.int (0 : Int32)), (.int (0 : Int32)), (.int (0 : Int32)), (.int (0 : Int32)), (.int (0 : Int32)), (.int (0 : Int32)), (.int (0 : Int32)), (.int (0 : Int32)), (.int (0 : Int32)), (.int (0 : Int32))] (.int (0 : Int32)) := Arv.set Ar74 q74 S74 M74 H74 G74 rfl W74 7 rfl (Nat.le_of_ble_eq_true rfl)
  have N74 := Fr.snoc X74 N72 gn_b58
  refine Got.step st74 ?_
  show Got p e below s _ _ _ _ T74 (mkF m 46 #[.val (.int p0), .val (.int p1), .val (.int p2), .unset, .unset, .unset, .unset] [(.ref b58)])
  refine Got.step (T' := T74) (g' := (mkF m 52 #[.val (.int p0), .val (.int p1), .val (.int p2), .unset, .unset, .unset, .unset] [(.int (192 : Int32)), (.int (8 : Int32)), (.ref b58), (.ref b58)])) (fun tq kt => ?_) ?_
  · show Steps p.tables e below (T74.setTop (mkF m 46 #[.val (.int p0), .val (.int p1), .val (.int p2), .unset, .unset, .unset, .unset] [(.ref b58)])) _
    refine XS.dup X74.here hx rfl (hb hby at_46) rfl rfl ?_
    show Steps p.tables e below (T74.setTop (mkF m 47 #[.val (.int p0), .val (.int p1), .val (.int p2), .unset, .unset, .unset, .unset] [(.ref b58), (.ref b58)])) _
    refine XS.bipush X74.here hx rfl (hb hby at_47) ?_
    show Steps p.tables e below (T74.setTop (mkF m 49 #[.val (.int p0), .val (.int p1), .val (.int p2), .unset, .unset, .unset, .unset] [(.int (8 : Int32)), (.ref b58), (.ref b58)])) _
    refine XS.sipush X74.here hx rfl (hb hby at_49) ?_
    exact kt
  obtain ⟨cl76, Ar76, q76, S76, M76, H76, G76⟩ := (id V74)
  have hin76 : ¬ ((8 : Int32) < 0 ∨ cl76.slots.size ≤ ((8 : Int32)).toNatClampNeg) := inb_of S76 ⟨by decide, by decide⟩
  obtain ⟨T76, h76, X76, e76, W76, st76⟩ := stI X74 hx hZ e74 Ar76 (j := (8 : Int32)) hin76 (g := (mkF m 52 #[.val (.int p0), .val (.int p1), .val (.int p2), .unset, .unset, .unset, .unset] [(.int (192 : Int32)), (.int (8 : Int32)), (.ref b58), (.ref b58)])) rfl rfl (hb hby at_52)
  have Z0_77 : n0 ≤ h76.size := (Nat.le_trans Z0_75 (Keep.of_wr W76).1)
  have V76 : Arv Z h76 b58 k58 .int (29 : Int32) [(.int (0 : Int32)), (.int (65 : Int32)), (.int (90 : Int32)), (.int (97 : Int32)), (.int (122 : Int32)), (.int (95 : Int32)), (.int (127 : Int32)), (.int (128 : Int32)), (.int (192 : Int32)), (.int (0 : Int32)), (.int (0 : Int32)), (.int (0 : Int32)), (.int (0 : Int32)), (.int (0 : Int32)), (.int (0 : Int32)), (.int (0 : Int32)), (.int (0 : Int32)), (.int (0 : Int32)), (.int (0 : Int32)), (.int (0 : Int32)), (.int (0 : Int32)), (.int (0 : Int32)), (.int (0 : Int32)), (.int (0 : Int32)), (.int (0 : Int32)), (.int (0 : Int32)), (.int (0 : Int32)), (.int (0 : Int32)), (.int (0 : Int32))] (.int (0 : Int32)) := Arv.set Ar76 q76 S76 M76 H76 G76 rfl W76 8 rfl (Nat.le_of_ble_eq_true rfl)
  have N76 := Fr.snoc X76 N74 gn_b58
  refine Got.step st76 ?_
  show Got p e below s _ _ _ _ T76 (mkF m 53 #[.val (.int p0), .val (.int p1), .val (.int p2), .unset, .unset, .unset, .unset] [(.ref b58)])
  refine Got.step (T' := T76) (g' := (mkF m 59 #[.val (.int p0), .val (.int p1), .val (.int p2), .unset, .unset, .unset, .unset] [(.int (215 : Int32)), (.int (9 : Int32)), (.ref b58), (.ref b58)])) (fun tq kt => ?_) ?_
  · show Steps p.tables e below (T76.setTop (mkF m 53 #[.val (.int p0), .val (.int p1), .val (.int p2), .unset, .unset, .unset, .unset] [(.ref b58)])) _
    refine XS.dup X76.here hx rfl (hb hby at_53) rfl rfl ?_
    show Steps p.tables e below (T76.setTop (mkF m 54 #[.val (.int p0), .val (.int p1), .val (.int p2), .unset, .unset, .unset, .unset] [(.ref b58), (.ref b58)])) _
    refine XS.bipush X76.here hx rfl (hb hby at_54) ?_
    show Steps p.tables e below (T76.setTop (mkF m 56 #[.val (.int p0), .val (.int p1), .val (.int p2), .unset, .unset, .unset, .unset] [(.int (9 : Int32)), (.ref b58), (.ref b58)])) _
    refine XS.sipush X76.here hx rfl (hb hby at_56) ?_
    exact kt
  obtain ⟨cl78, Ar78, q78, S78, M78, H78, G78⟩ := (id V76)
  have hin78 : ¬ ((9 : Int32) < 0 ∨ cl78.slots.size ≤ ((9 : Int32)).toNatClampNeg) := inb_of S78 ⟨by decide, by decide⟩
  obtain ⟨T78, h78, X78, e78, W78, st78⟩ := stI X76 hx hZ e76 Ar78 (j := (9 : Int32)) hin78 (g := (mkF m 59 #[.val (.int p0), .val (.int p1), .val (.int p2), .unset, .unset, .unset, .unset] [(.int (215 : Int32)), (.int (9 : Int32)), (.ref b58), (.ref b58)])) rfl rfl (hb hby at_59)
  have Z0_79 : n0 ≤ h78.size := (Nat.le_trans Z0_77 (Keep.of_wr W78).1)
  have V78 : Arv Z h78 b58 k58 .int (29 : Int32) [(.int (0 : Int32)), (.int (65 : Int32)), (.int (90 : Int32)), (.int (97 : Int32)), (.int (122 : Int32)), (.int (95 : Int32)), (.int (127 : Int32)), (.int (128 : Int32)), (.int (192 : Int32)), (.int (215 : Int32)), (.int (0 : Int32)), (.int (0 : Int32)), (.int (0 : Int32)), (.int (0 : Int32)), (.int (0 : Int32)), (.int (0 : Int32)), (.int (0 : Int32)), (.int (0 : Int32)), (.int (0 : Int32)), (.int (0 : Int32)), (.int (0 : Int32)), (.int (0 : Int32)), (.int (0 : Int32)), (.int (0 : Int32)), (.int (0 : Int32)), (.int (0 : Int32)), (.int (0 : Int32)), (.int (0 : Int32)), (.int (0 : Int32))] (.int (0 : Int32)) := Arv.set Ar78 q78 S78 M78 H78 G78 rfl W78 9 rfl (Nat.le_of_ble_eq_true rfl)
  have N78 := Fr.snoc X78 N76 gn_b58
  refine Got.step st78 ?_
  show Got p e below s _ _ _ _ T78 (mkF m 60 #[.val (.int p0), .val (.int p1), .val (.int p2), .unset, .unset, .unset, .unset] [(.ref b58)])
  refine Got.step (T' := T78) (g' := (mkF m 66 #[.val (.int p0), .val (.int p1), .val (.int p2), .unset, .unset, .unset, .unset] [(.int (247 : Int32)), (.int (10 : Int32)), (.ref b58), (.ref b58)])) (fun tq kt => ?_) ?_
  · show Steps p.tables e below (T78.setTop (mkF m 60 #[.val (.int p0), .val (.int p1), .val (.int p2), .unset, .unset, .unset, .unset] [(.ref b58)])) _
    refine XS.dup X78.here hx rfl (hb hby at_60) rfl rfl ?_
    show Steps p.tables e below (T78.setTop (mkF m 61 #[.val (.int p0), .val (.int p1), .val (.int p2), .unset, .unset, .unset, .unset] [(.ref b58), (.ref b58)])) _
    refine XS.bipush X78.here hx rfl (hb hby at_61) ?_
    show Steps p.tables e below (T78.setTop (mkF m 63 #[.val (.int p0), .val (.int p1), .val (.int p2), .unset, .unset, .unset, .unset] [(.int (10 : Int32)), (.ref b58), (.ref b58)])) _
    refine XS.sipush X78.here hx rfl (hb hby at_63) ?_
    exact kt
  obtain ⟨cl80, Ar80, q80, S80, M80, H80, G80⟩ := (id V78)
  have hin80 : ¬ ((10 : Int32) < 0 ∨ cl80.slots.size ≤ ((10 : Int32)).toNatClampNeg) := inb_of S80 ⟨by decide, by decide⟩
  obtain ⟨T80, h80, X80, e80, W80, st80⟩ := stI X78 hx hZ e78 Ar80 (j := (10 : Int32)) hin80 (g := (mkF m 66 #[.val (.int p0), .val (.int p1), .val (.int p2), .unset, .unset, .unset, .unset] [(.int (247 : Int32)), (.int (10 : Int32)), (.ref b58), (.ref b58)])) rfl rfl (hb hby at_66)
  have Z0_81 : n0 ≤ h80.size := (Nat.le_trans Z0_79 (Keep.of_wr W80).1)
  have V80 : Arv Z h80 b58 k58 .int (29 : Int32) [(.int (0 : Int32)), (.int (65 : Int32)), (.int (90 : Int32)), (.int (97 : Int32)), (.int (122 : Int32)), (.int (95 : Int32)), (.int (127 : Int32)), (.int (128 : Int32)), (.int (192 : Int32)), (.int (215 : Int32)), (.int (247 : Int32)), (.int (0 : Int32)), (.int (0 : Int32)), (.int (0 : Int32)), (.int (0 : Int32)), (.int (0 : Int32)), (.int (0 : Int32)), (.int (0 : Int32)), (.int (0 : Int32)), (.int (0 : Int32)), (.int (0 : Int32)), (.int (0 : Int32)), (.int (0 : Int32)), (.int (0 : Int32)), (.int (0 : Int32)), (.int (0 : Int32)), (.int (0 : Int32)), (.int (0 : Int32)), (.int (0 : Int32))] (.int (0 : Int32)) := Arv.set Ar80 q80 S80 M80 H80 G80 rfl W80 10 rfl (Nat.le_of_ble_eq_true rfl)
  have N80 := Fr.snoc X80 N78 gn_b58
  refine Got.step st80 ?_
  show Got p e below s _ _ _ _ T80 (mkF m 67 #[.val (.int p0), .val (.int p1), .val (.int p2), .unset, .unset, .unset, .unset] [(.ref b58)])
  refine Got.step (T' := T80) (g' := (mkF m 73 #[.val (.int p0), .val (.int p1), .val (.int p2), .unset, .unset, .unset, .unset] [(.int (768 : Int32)), (.int (11 : Int32)), (.ref b58), (.ref b58)])) (fun tq kt => ?_) ?_
  · show Steps p.tables e below (T80.setTop (mkF m 67 #[.val (.int p0), .val (.int p1), .val (.int p2), .unset, .unset, .unset, .unset] [(.ref b58)])) _
    refine XS.dup X80.here hx rfl (hb hby at_67) rfl rfl ?_
    show Steps p.tables e below (T80.setTop (mkF m 68 #[.val (.int p0), .val (.int p1), .val (.int p2), .unset, .unset, .unset, .unset] [(.ref b58), (.ref b58)])) _
    refine XS.bipush X80.here hx rfl (hb hby at_68) ?_
    show Steps p.tables e below (T80.setTop (mkF m 70 #[.val (.int p0), .val (.int p1), .val (.int p2), .unset, .unset, .unset, .unset] [(.int (11 : Int32)), (.ref b58), (.ref b58)])) _
    refine XS.sipush X80.here hx rfl (hb hby at_70) ?_
    exact kt
  obtain ⟨cl82, Ar82, q82, S82, M82, H82, G82⟩ := (id V80)
  have hin82 : ¬ ((11 : Int32) < 0 ∨ cl82.slots.size ≤ ((11 : Int32)).toNatClampNeg) := inb_of S82 ⟨by decide, by decide⟩
  obtain ⟨T82, h82, X82, e82, W82, st82⟩ := stI X80 hx hZ e80 Ar82 (j := (11 : Int32)) hin82 (g := (mkF m 73 #[.val (.int p0), .val (.int p1), .val (.int p2), .unset, .unset, .unset, .unset] [(.int (768 : Int32)), (.int (11 : Int32)), (.ref b58), (.ref b58)])) rfl rfl (hb hby at_73)
  have Z0_83 : n0 ≤ h82.size := (Nat.le_trans Z0_81 (Keep.of_wr W82).1)
  have V82 : Arv Z h82 b58 k58 .int (29 : Int32) [(.int (0 : Int32)), (.int (65 : Int32)), (.int (90 : Int32)), (.int (97 : Int32)), (.int (122 : Int32)), (.int (95 : Int32)), (.int (127 : Int32)), (.int (128 : Int32)), (.int (192 : Int32)), (.int (215 : Int32)), (.int (247 : Int32)), (.int (768 : Int32)), (.int (0 : Int32)), (.int (0 : Int32)), (.int (0 : Int32)), (.int (0 : Int32)), (.int (0 : Int32)), (.int (0 : Int32)), (.int (0 : Int32)), (.int (0 : Int32)), (.int (0 : Int32)), (.int (0 : Int32)), (.int (0 : Int32)), (.int (0 : Int32)), (.int (0 : Int32)), (.int (0 : Int32)), (.int (0 : Int32)), (.int (0 : Int32)), (.int (0 : Int32))] (.int (0 : Int32)) := Arv.set Ar82 q82 S82 M82 H82 G82 rfl W82 11 rfl (Nat.le_of_ble_eq_true rfl)
  have N82 := Fr.snoc X82 N80 gn_b58
  refine Got.step st82 ?_
  show Got p e below s _ _ _ _ T82 (mkF m 74 #[.val (.int p0), .val (.int p1), .val (.int p2), .unset, .unset, .unset, .unset] [(.ref b58)])
  refine Got.step (T' := T82) (g' := (mkF m 80 #[.val (.int p0), .val (.int p1), .val (.int p2), .unset, .unset, .unset, .unset] [(.int (879 : Int32)), (.int (12 : Int32)), (.ref b58), (.ref b58)])) (fun tq kt => ?_) ?_
  · show Steps p.tables e below (T82.setTop (mkF m 74 #[.val (.int p0), .val (.int p1), .val (.int p2), .unset, .unset, .unset, .unset] [(.ref b58)])) _
    refine XS.dup X82.here hx rfl (hb hby at_74) rfl rfl ?_
    show Steps p.tables e below (T82.setTop (mkF m 75 #[.val (.int p0), .val (.int p1), .val (.int p2), .unset, .unset, .unset, .unset] [(.ref b58), (.ref b58)])) _
    refine XS.bipush X82.here hx rfl (hb hby at_75) ?_
    show Steps p.tables e below (T82.setTop (mkF m 77 #[.val (.int p0), .val (.int p1), .val (.int p2), .unset, .unset, .unset, .unset] [(.int (12 : Int32)), (.ref b58), (.ref b58)])) _
    refine XS.sipush X82.here hx rfl (hb hby at_77) ?_
    exact kt
  obtain ⟨cl84, Ar84, q84, S84, M84, H84, G84⟩ := (id V82)
  have hin84 : ¬ ((12 : Int32) < 0 ∨ cl84.slots.size ≤ ((12 : Int32)).toNatClampNeg) := inb_of S84 ⟨by decide, by decide⟩
  obtain ⟨T84, h84, X84, e84, W84, st84⟩ := stI X82 hx hZ e82 Ar84 (j := (12 : Int32)) hin84 (g := (mkF m 80 #[.val (.int p0), .val (.int p1), .val (.int p2), .unset, .unset, .unset, .unset] [(.int (879 : Int32)), (.int (12 : Int32)), (.ref b58), (.ref b58)])) rfl rfl (hb hby at_80)
  have Z0_85 : n0 ≤ h84.size := (Nat.le_trans Z0_83 (Keep.of_wr W84).1)
  have V84 : Arv Z h84 b58 k58 .int (29 : Int32) [(.int (0 : Int32)), (.int (65 : Int32)), (.int (90 : Int32)), (.int (97 : Int32)), (.int (122 : Int32)), (.int (95 : Int32)), (.int (127 : Int32)), (.int (128 : Int32)), (.int (192 : Int32)), (.int (215 : Int32)), (.int (247 : Int32)), (.int (768 : Int32)), (.int (879 : Int32)), (.int (0 : Int32)), (.int (0 : Int32)), (.int (0 : Int32)), (.int (0 : Int32)), (.int (0 : Int32)), (.int (0 : Int32)), (.int (0 : Int32)), (.int (0 : Int32)), (.int (0 : Int32)), (.int (0 : Int32)), (.int (0 : Int32)), (.int (0 : Int32)), (.int (0 : Int32)), (.int (0 : Int32)), (.int (0 : Int32)), (.int (0 : Int32))] (.int (0 : Int32)) := Arv.set Ar84 q84 S84 M84 H84 G84 rfl W84 12 rfl (Nat.le_of_ble_eq_true rfl)
  have N84 := Fr.snoc X84 N82 gn_b58
  refine Got.step st84 ?_
  show Got p e below s _ _ _ _ T84 (mkF m 81 #[.val (.int p0), .val (.int p1), .val (.int p2), .unset, .unset, .unset, .unset] [(.ref b58)])
  refine Got.step (T' := T84) (g' := (mkF m 87 #[.val (.int p0), .val (.int p1), .val (.int p2), .unset, .unset, .unset, .unset] [(.int (894 : Int32)), (.int (13 : Int32)), (.ref b58), (.ref b58)])) (fun tq kt => ?_) ?_
  · show Steps p.tables e below (T84.setTop (mkF m 81 #[.val (.int p0), .val (.int p1), .val (.int p2), .unset, .unset, .unset, .unset] [(.ref b58)])) _
    refine XS.dup X84.here hx rfl (hb hby at_81) rfl rfl ?_
    show Steps p.tables e below (T84.setTop (mkF m 82 #[.val (.int p0), .val (.int p1), .val (.int p2), .unset, .unset, .unset, .unset] [(.ref b58), (.ref b58)])) _
    refine XS.bipush X84.here hx rfl (hb hby at_82) ?_
    show Steps p.tables e below (T84.setTop (mkF m 84 #[.val (.int p0), .val (.int p1), .val (.int p2), .unset, .unset, .unset, .unset] [(.int (13 : Int32)), (.ref b58), (.ref b58)])) _
    refine XS.sipush X84.here hx rfl (hb hby at_84) ?_
    exact kt
  obtain ⟨cl86, Ar86, q86, S86, M86, H86, G86⟩ := (id V84)
  have hin86 : ¬ ((13 : Int32) < 0 ∨ cl86.slots.size ≤ ((13 : Int32)).toNatClampNeg) := inb_of S86 ⟨by decide, by decide⟩
  obtain ⟨T86, h86, X86, e86, W86, st86⟩ := stI X84 hx hZ e84 Ar86 (j := (13 : Int32)) hin86 (g := (mkF m 87 #[.val (.int p0), .val (.int p1), .val (.int p2), .unset, .unset, .unset, .unset] [(.int (894 : Int32)), (.int (13 : Int32)), (.ref b58), (.ref b58)])) rfl rfl (hb hby at_87)
  have Z0_87 : n0 ≤ h86.size := (Nat.le_trans Z0_85 (Keep.of_wr W86).1)
  have V86 : Arv Z h86 b58 k58 .int (29 : Int32) [(.int (0 : Int32)), (.int (65 : Int32)), (.int (90 : Int32)), (.int (97 : Int32)), (.int (122 : Int32)), (.int (95 : Int32)), (.int (127 : Int32)), (.int (128 : Int32)), (.int (192 : Int32)), (.int (215 : Int32)), (.int (247 : Int32)), (.int (768 : Int32)), (.int (879 : Int32)), (.int (894 : Int32)), (.int (0 : Int32)), (.int (0 : Int32)), (.int (0 : Int32)), (.int (0 : Int32)), (.int (0 : Int32)), (.int (0 : Int32)), (.int (0 : Int32)), (.int (0 : Int32)), (.int (0 : Int32)), (.int (0 : Int32)), (.int (0 : Int32)), (.int (0 : Int32)), (.int (0 : Int32)), (.int (0 : Int32)), (.int (0 : Int32))] (.int (0 : Int32)) := Arv.set Ar86 q86 S86 M86 H86 G86 rfl W86 13 rfl (Nat.le_of_ble_eq_true rfl)
  have N86 := Fr.snoc X86 N84 gn_b58
  refine Got.step st86 ?_
  show Got p e below s _ _ _ _ T86 (mkF m 88 #[.val (.int p0), .val (.int p1), .val (.int p2), .unset, .unset, .unset, .unset] [(.ref b58)])
  refine Got.step (T' := T86) (g' := (mkF m 94 #[.val (.int p0), .val (.int p1), .val (.int p2), .unset, .unset, .unset, .unset] [(.int (8192 : Int32)), (.int (14 : Int32)), (.ref b58), (.ref b58)])) (fun tq kt => ?_) ?_
  · show Steps p.tables e below (T86.setTop (mkF m 88 #[.val (.int p0), .val (.int p1), .val (.int p2), .unset, .unset, .unset, .unset] [(.ref b58)])) _
    refine XS.dup X86.here hx rfl (hb hby at_88) rfl rfl ?_
    show Steps p.tables e below (T86.setTop (mkF m 89 #[.val (.int p0), .val (.int p1), .val (.int p2), .unset, .unset, .unset, .unset] [(.ref b58), (.ref b58)])) _
    refine XS.bipush X86.here hx rfl (hb hby at_89) ?_
    show Steps p.tables e below (T86.setTop (mkF m 91 #[.val (.int p0), .val (.int p1), .val (.int p2), .unset, .unset, .unset, .unset] [(.int (14 : Int32)), (.ref b58), (.ref b58)])) _
    refine XS.sipush X86.here hx rfl (hb hby at_91) ?_
    exact kt
  obtain ⟨cl88, Ar88, q88, S88, M88, H88, G88⟩ := (id V86)
  have hin88 : ¬ ((14 : Int32) < 0 ∨ cl88.slots.size ≤ ((14 : Int32)).toNatClampNeg) := inb_of S88 ⟨by decide, by decide⟩
  obtain ⟨T88, h88, X88, e88, W88, st88⟩ := stI X86 hx hZ e86 Ar88 (j := (14 : Int32)) hin88 (g := (mkF m 94 #[.val (.int p0), .val (.int p1), .val (.int p2), .unset, .unset, .unset, .unset] [(.int (8192 : Int32)), (.int (14 : Int32)), (.ref b58), (.ref b58)])) rfl rfl (hb hby at_94)
  have Z0_89 : n0 ≤ h88.size := (Nat.le_trans Z0_87 (Keep.of_wr W88).1)
  have V88 : Arv Z h88 b58 k58 .int (29 : Int32) [(.int (0 : Int32)), (.int (65 : Int32)), (.int (90 : Int32)), (.int (97 : Int32)), (.int (122 : Int32)), (.int (95 : Int32)), (.int (127 : Int32)), (.int (128 : Int32)), (.int (192 : Int32)), (.int (215 : Int32)), (.int (247 : Int32)), (.int (768 : Int32)), (.int (879 : Int32)), (.int (894 : Int32)), (.int (8192 : Int32)), (.int (0 : Int32)), (.int (0 : Int32)), (.int (0 : Int32)), (.int (0 : Int32)), (.int (0 : Int32)), (.int (0 : Int32)), (.int (0 : Int32)), (.int (0 : Int32)), (.int (0 : Int32)), (.int (0 : Int32)), (.int (0 : Int32)), (.int (0 : Int32)), (.int (0 : Int32)), (.int (0 : Int32))] (.int (0 : Int32)) := Arv.set Ar88 q88 S88 M88 H88 G88 rfl W88 14 rfl (Nat.le_of_ble_eq_true rfl)
  have N88 := Fr.snoc X88 N86 gn_b58
  refine Got.step st88 ?_
  show Got p e below s _ _ _ _ T88 (mkF m 95 #[.val (.int p0), .val (.int p1), .val (.int p2), .unset, .unset, .unset, .unset] [(.ref b58)])
  refine Got.step (T' := T88) (g' := (mkF m 101 #[.val (.int p0), .val (.int p1), .val (.int p2), .unset, .unset, .unset, .unset] [(.int (8203 : Int32)), (.int (15 : Int32)), (.ref b58), (.ref b58)])) (fun tq kt => ?_) ?_
  · show Steps p.tables e below (T88.setTop (mkF m 95 #[.val (.int p0), .val (.int p1), .val (.int p2), .unset, .unset, .unset, .unset] [(.ref b58)])) _
    refine XS.dup X88.here hx rfl (hb hby at_95) rfl rfl ?_
    show Steps p.tables e below (T88.setTop (mkF m 96 #[.val (.int p0), .val (.int p1), .val (.int p2), .unset, .unset, .unset, .unset] [(.ref b58), (.ref b58)])) _
    refine XS.bipush X88.here hx rfl (hb hby at_96) ?_
    show Steps p.tables e below (T88.setTop (mkF m 98 #[.val (.int p0), .val (.int p1), .val (.int p2), .unset, .unset, .unset, .unset] [(.int (15 : Int32)), (.ref b58), (.ref b58)])) _
    refine XS.sipush X88.here hx rfl (hb hby at_98) ?_
    exact kt
  obtain ⟨cl90, Ar90, q90, S90, M90, H90, G90⟩ := (id V88)
  have hin90 : ¬ ((15 : Int32) < 0 ∨ cl90.slots.size ≤ ((15 : Int32)).toNatClampNeg) := inb_of S90 ⟨by decide, by decide⟩
  obtain ⟨T90, h90, X90, e90, W90, st90⟩ := stI X88 hx hZ e88 Ar90 (j := (15 : Int32)) hin90 (g := (mkF m 101 #[.val (.int p0), .val (.int p1), .val (.int p2), .unset, .unset, .unset, .unset] [(.int (8203 : Int32)), (.int (15 : Int32)), (.ref b58), (.ref b58)])) rfl rfl (hb hby at_101)
  have Z0_91 : n0 ≤ h90.size := (Nat.le_trans Z0_89 (Keep.of_wr W90).1)
  have V90 : Arv Z h90 b58 k58 .int (29 : Int32) [(.int (0 : Int32)), (.int (65 : Int32)), (.int (90 : Int32)), (.int (97 : Int32)), (.int (122 : Int32)), (.int (95 : Int32)), (.int (127 : Int32)), (.int (128 : Int32)), (.int (192 : Int32)), (.int (215 : Int32)), (.int (247 : Int32)), (.int (768 : Int32)), (.int (879 : Int32)), (.int (894 : Int32)), (.int (8192 : Int32)), (.int (8203 : Int32)), (.int (0 : Int32)), (.int (0 : Int32)), (.int (0 : Int32)), (.int (0 : Int32)), (.int (0 : Int32)), (.int (0 : Int32)), (.int (0 : Int32)), (.int (0 : Int32)), (.int (0 : Int32)), (.int (0 : Int32)), (.int (0 : Int32)), (.int (0 : Int32)), (.int (0 : Int32))] (.int (0 : Int32)) := Arv.set Ar90 q90 S90 M90 H90 G90 rfl W90 15 rfl (Nat.le_of_ble_eq_true rfl)
  have N90 := Fr.snoc X90 N88 gn_b58
  refine Got.step st90 ?_
  show Got p e below s _ _ _ _ T90 (mkF m 102 #[.val (.int p0), .val (.int p1), .val (.int p2), .unset, .unset, .unset, .unset] [(.ref b58)])
  refine Got.step (T' := T90) (g' := (mkF m 108 #[.val (.int p0), .val (.int p1), .val (.int p2), .unset, .unset, .unset, .unset] [(.int (8206 : Int32)), (.int (16 : Int32)), (.ref b58), (.ref b58)])) (fun tq kt => ?_) ?_
  · show Steps p.tables e below (T90.setTop (mkF m 102 #[.val (.int p0), .val (.int p1), .val (.int p2), .unset, .unset, .unset, .unset] [(.ref b58)])) _
    refine XS.dup X90.here hx rfl (hb hby at_102) rfl rfl ?_
    show Steps p.tables e below (T90.setTop (mkF m 103 #[.val (.int p0), .val (.int p1), .val (.int p2), .unset, .unset, .unset, .unset] [(.ref b58), (.ref b58)])) _
    refine XS.bipush X90.here hx rfl (hb hby at_103) ?_
    show Steps p.tables e below (T90.setTop (mkF m 105 #[.val (.int p0), .val (.int p1), .val (.int p2), .unset, .unset, .unset, .unset] [(.int (16 : Int32)), (.ref b58), (.ref b58)])) _
    refine XS.sipush X90.here hx rfl (hb hby at_105) ?_
    exact kt
  obtain ⟨cl92, Ar92, q92, S92, M92, H92, G92⟩ := (id V90)
  have hin92 : ¬ ((16 : Int32) < 0 ∨ cl92.slots.size ≤ ((16 : Int32)).toNatClampNeg) := inb_of S92 ⟨by decide, by decide⟩
  obtain ⟨T92, h92, X92, e92, W92, st92⟩ := stI X90 hx hZ e90 Ar92 (j := (16 : Int32)) hin92 (g := (mkF m 108 #[.val (.int p0), .val (.int p1), .val (.int p2), .unset, .unset, .unset, .unset] [(.int (8206 : Int32)), (.int (16 : Int32)), (.ref b58), (.ref b58)])) rfl rfl (hb hby at_108)
  have Z0_93 : n0 ≤ h92.size := (Nat.le_trans Z0_91 (Keep.of_wr W92).1)
  have V92 : Arv Z h92 b58 k58 .int (29 : Int32) [(.int (0 : Int32)), (.int (65 : Int32)), (.int (90 : Int32)), (.int (97 : Int32)), (.int (122 : Int32)), (.int (95 : Int32)), (.int (127 : Int32)), (.int (128 : Int32)), (.int (192 : Int32)), (.int (215 : Int32)), (.int (247 : Int32)), (.int (768 : Int32)), (.int (879 : Int32)), (.int (894 : Int32)), (.int (8192 : Int32)), (.int (8203 : Int32)), (.int (8206 : Int32)), (.int (0 : Int32)), (.int (0 : Int32)), (.int (0 : Int32)), (.int (0 : Int32)), (.int (0 : Int32)), (.int (0 : Int32)), (.int (0 : Int32)), (.int (0 : Int32)), (.int (0 : Int32)), (.int (0 : Int32)), (.int (0 : Int32)), (.int (0 : Int32))] (.int (0 : Int32)) := Arv.set Ar92 q92 S92 M92 H92 G92 rfl W92 16 rfl (Nat.le_of_ble_eq_true rfl)
  have N92 := Fr.snoc X92 N90 gn_b58
  refine Got.step st92 ?_
  show Got p e below s _ _ _ _ T92 (mkF m 109 #[.val (.int p0), .val (.int p1), .val (.int p2), .unset, .unset, .unset, .unset] [(.ref b58)])
  refine Got.step (T' := T92) (g' := (mkF m 115 #[.val (.int p0), .val (.int p1), .val (.int p2), .unset, .unset, .unset, .unset] [(.int (8303 : Int32)), (.int (17 : Int32)), (.ref b58), (.ref b58)])) (fun tq kt => ?_) ?_
  · show Steps p.tables e below (T92.setTop (mkF m 109 #[.val (.int p0), .val (.int p1), .val (.int p2), .unset, .unset, .unset, .unset] [(.ref b58)])) _
    refine XS.dup X92.here hx rfl (hb hby at_109) rfl rfl ?_
    show Steps p.tables e below (T92.setTop (mkF m 110 #[.val (.int p0), .val (.int p1), .val (.int p2), .unset, .unset, .unset, .unset] [(.ref b58), (.ref b58)])) _
    refine XS.bipush X92.here hx rfl (hb hby at_110) ?_
    show Steps p.tables e below (T92.setTop (mkF m 112 #[.val (.int p0), .val (.int p1), .val (.int p2), .unset, .unset, .unset, .unset] [(.int (17 : Int32)), (.ref b58), (.ref b58)])) _
    refine XS.sipush X92.here hx rfl (hb hby at_112) ?_
    exact kt
  obtain ⟨cl94, Ar94, q94, S94, M94, H94, G94⟩ := (id V92)
  have hin94 : ¬ ((17 : Int32) < 0 ∨ cl94.slots.size ≤ ((17 : Int32)).toNatClampNeg) := inb_of S94 ⟨by decide, by decide⟩
  obtain ⟨T94, h94, X94, e94, W94, st94⟩ := stI X92 hx hZ e92 Ar94 (j := (17 : Int32)) hin94 (g := (mkF m 115 #[.val (.int p0), .val (.int p1), .val (.int p2), .unset, .unset, .unset, .unset] [(.int (8303 : Int32)), (.int (17 : Int32)), (.ref b58), (.ref b58)])) rfl rfl (hb hby at_115)
  have Z0_95 : n0 ≤ h94.size := (Nat.le_trans Z0_93 (Keep.of_wr W94).1)
  have V94 : Arv Z h94 b58 k58 .int (29 : Int32) [(.int (0 : Int32)), (.int (65 : Int32)), (.int (90 : Int32)), (.int (97 : Int32)), (.int (122 : Int32)), (.int (95 : Int32)), (.int (127 : Int32)), (.int (128 : Int32)), (.int (192 : Int32)), (.int (215 : Int32)), (.int (247 : Int32)), (.int (768 : Int32)), (.int (879 : Int32)), (.int (894 : Int32)), (.int (8192 : Int32)), (.int (8203 : Int32)), (.int (8206 : Int32)), (.int (8303 : Int32)), (.int (0 : Int32)), (.int (0 : Int32)), (.int (0 : Int32)), (.int (0 : Int32)), (.int (0 : Int32)), (.int (0 : Int32)), (.int (0 : Int32)), (.int (0 : Int32)), (.int (0 : Int32)), (.int (0 : Int32)), (.int (0 : Int32))] (.int (0 : Int32)) := Arv.set Ar94 q94 S94 M94 H94 G94 rfl W94 17 rfl (Nat.le_of_ble_eq_true rfl)
  have N94 := Fr.snoc X94 N92 gn_b58
  refine Got.step st94 ?_
  show Got p e below s _ _ _ _ T94 (mkF m 116 #[.val (.int p0), .val (.int p1), .val (.int p2), .unset, .unset, .unset, .unset] [(.ref b58)])
  refine Got.step (T' := T94) (g' := (mkF m 122 #[.val (.int p0), .val (.int p1), .val (.int p2), .unset, .unset, .unset, .unset] [(.int (8592 : Int32)), (.int (18 : Int32)), (.ref b58), (.ref b58)])) (fun tq kt => ?_) ?_
  · show Steps p.tables e below (T94.setTop (mkF m 116 #[.val (.int p0), .val (.int p1), .val (.int p2), .unset, .unset, .unset, .unset] [(.ref b58)])) _
    refine XS.dup X94.here hx rfl (hb hby at_116) rfl rfl ?_
    show Steps p.tables e below (T94.setTop (mkF m 117 #[.val (.int p0), .val (.int p1), .val (.int p2), .unset, .unset, .unset, .unset] [(.ref b58), (.ref b58)])) _
    refine XS.bipush X94.here hx rfl (hb hby at_117) ?_
    show Steps p.tables e below (T94.setTop (mkF m 119 #[.val (.int p0), .val (.int p1), .val (.int p2), .unset, .unset, .unset, .unset] [(.int (18 : Int32)), (.ref b58), (.ref b58)])) _
    refine XS.sipush X94.here hx rfl (hb hby at_119) ?_
    exact kt
  obtain ⟨cl96, Ar96, q96, S96, M96, H96, G96⟩ := (id V94)
  have hin96 : ¬ ((18 : Int32) < 0 ∨ cl96.slots.size ≤ ((18 : Int32)).toNatClampNeg) := inb_of S96 ⟨by decide, by decide⟩
  obtain ⟨T96, h96, X96, e96, W96, st96⟩ := stI X94 hx hZ e94 Ar96 (j := (18 : Int32)) hin96 (g := (mkF m 122 #[.val (.int p0), .val (.int p1), .val (.int p2), .unset, .unset, .unset, .unset] [(.int (8592 : Int32)), (.int (18 : Int32)), (.ref b58), (.ref b58)])) rfl rfl (hb hby at_122)
  have Z0_97 : n0 ≤ h96.size := (Nat.le_trans Z0_95 (Keep.of_wr W96).1)
  have V96 : Arv Z h96 b58 k58 .int (29 : Int32) [(.int (0 : Int32)), (.int (65 : Int32)), (.int (90 : Int32)), (.int (97 : Int32)), (.int (122 : Int32)), (.int (95 : Int32)), (.int (127 : Int32)), (.int (128 : Int32)), (.int (192 : Int32)), (.int (215 : Int32)), (.int (247 : Int32)), (.int (768 : Int32)), (.int (879 : Int32)), (.int (894 : Int32)), (.int (8192 : Int32)), (.int (8203 : Int32)), (.int (8206 : Int32)), (.int (8303 : Int32)), (.int (8592 : Int32)), (.int (0 : Int32)), (.int (0 : Int32)), (.int (0 : Int32)), (.int (0 : Int32)), (.int (0 : Int32)), (.int (0 : Int32)), (.int (0 : Int32)), (.int (0 : Int32)), (.int (0 : Int32)), (.int (0 : Int32))] (.int (0 : Int32)) := Arv.set Ar96 q96 S96 M96 H96 G96 rfl W96 18 rfl (Nat.le_of_ble_eq_true rfl)
  have N96 := Fr.snoc X96 N94 gn_b58
  refine Got.step st96 ?_
  show Got p e below s _ _ _ _ T96 (mkF m 123 #[.val (.int p0), .val (.int p1), .val (.int p2), .unset, .unset, .unset, .unset] [(.ref b58)])
  refine Got.step (T' := T96) (g' := (mkF m 129 #[.val (.int p0), .val (.int p1), .val (.int p2), .unset, .unset, .unset, .unset] [(.int (11263 : Int32)), (.int (19 : Int32)), (.ref b58), (.ref b58)])) (fun tq kt => ?_) ?_
  · show Steps p.tables e below (T96.setTop (mkF m 123 #[.val (.int p0), .val (.int p1), .val (.int p2), .unset, .unset, .unset, .unset] [(.ref b58)])) _
    refine XS.dup X96.here hx rfl (hb hby at_123) rfl rfl ?_
    show Steps p.tables e below (T96.setTop (mkF m 124 #[.val (.int p0), .val (.int p1), .val (.int p2), .unset, .unset, .unset, .unset] [(.ref b58), (.ref b58)])) _
    refine XS.bipush X96.here hx rfl (hb hby at_124) ?_
    show Steps p.tables e below (T96.setTop (mkF m 126 #[.val (.int p0), .val (.int p1), .val (.int p2), .unset, .unset, .unset, .unset] [(.int (19 : Int32)), (.ref b58), (.ref b58)])) _
    refine XS.sipush X96.here hx rfl (hb hby at_126) ?_
    exact kt
  obtain ⟨cl98, Ar98, q98, S98, M98, H98, G98⟩ := (id V96)
  have hin98 : ¬ ((19 : Int32) < 0 ∨ cl98.slots.size ≤ ((19 : Int32)).toNatClampNeg) := inb_of S98 ⟨by decide, by decide⟩
  obtain ⟨T98, h98, X98, e98, W98, st98⟩ := stI X96 hx hZ e96 Ar98 (j := (19 : Int32)) hin98 (g := (mkF m 129 #[.val (.int p0), .val (.int p1), .val (.int p2), .unset, .unset, .unset, .unset] [(.int (11263 : Int32)), (.int (19 : Int32)), (.ref b58), (.ref b58)])) rfl rfl (hb hby at_129)
  have Z0_99 : n0 ≤ h98.size := (Nat.le_trans Z0_97 (Keep.of_wr W98).1)
  have V98 : Arv Z h98 b58 k58 .int (29 : Int32) [(.int (0 : Int32)), (.int (65 : Int32)), (.int (90 : Int32)), (.int (97 : Int32)), (.int (122 : Int32)), (.int (95 : Int32)), (.int (127 : Int32)), (.int (128 : Int32)), (.int (192 : Int32)), (.int (215 : Int32)), (.int (247 : Int32)), (.int (768 : Int32)), (.int (879 : Int32)), (.int (894 : Int32)), (.int (8192 : Int32)), (.int (8203 : Int32)), (.int (8206 : Int32)), (.int (8303 : Int32)), (.int (8592 : Int32)), (.int (11263 : Int32)), (.int (0 : Int32)), (.int (0 : Int32)), (.int (0 : Int32)), (.int (0 : Int32)), (.int (0 : Int32)), (.int (0 : Int32)), (.int (0 : Int32)), (.int (0 : Int32)), (.int (0 : Int32))] (.int (0 : Int32)) := Arv.set Ar98 q98 S98 M98 H98 G98 rfl W98 19 rfl (Nat.le_of_ble_eq_true rfl)
  have N98 := Fr.snoc X98 N96 gn_b58
  refine Got.step st98 ?_
  show Got p e below s _ _ _ _ T98 (mkF m 130 #[.val (.int p0), .val (.int p1), .val (.int p2), .unset, .unset, .unset, .unset] [(.ref b58)])
  refine Got.step (T' := T98) (g' := (mkF m 136 #[.val (.int p0), .val (.int p1), .val (.int p2), .unset, .unset, .unset, .unset] [(.int (12272 : Int32)), (.int (20 : Int32)), (.ref b58), (.ref b58)])) (fun tq kt => ?_) ?_
  · show Steps p.tables e below (T98.setTop (mkF m 130 #[.val (.int p0), .val (.int p1), .val (.int p2), .unset, .unset, .unset, .unset] [(.ref b58)])) _
    refine XS.dup X98.here hx rfl (hb hby at_130) rfl rfl ?_
    show Steps p.tables e below (T98.setTop (mkF m 131 #[.val (.int p0), .val (.int p1), .val (.int p2), .unset, .unset, .unset, .unset] [(.ref b58), (.ref b58)])) _
    refine XS.bipush X98.here hx rfl (hb hby at_131) ?_
    show Steps p.tables e below (T98.setTop (mkF m 133 #[.val (.int p0), .val (.int p1), .val (.int p2), .unset, .unset, .unset, .unset] [(.int (20 : Int32)), (.ref b58), (.ref b58)])) _
    refine XS.sipush X98.here hx rfl (hb hby at_133) ?_
    exact kt
  obtain ⟨cl100, Ar100, q100, S100, M100, H100, G100⟩ := (id V98)
  have hin100 : ¬ ((20 : Int32) < 0 ∨ cl100.slots.size ≤ ((20 : Int32)).toNatClampNeg) := inb_of S100 ⟨by decide, by decide⟩
  obtain ⟨T100, h100, X100, e100, W100, st100⟩ := stI X98 hx hZ e98 Ar100 (j := (20 : Int32)) hin100 (g := (mkF m 136 #[.val (.int p0), .val (.int p1), .val (.int p2), .unset, .unset, .unset, .unset] [(.int (12272 : Int32)), (.int (20 : Int32)), (.ref b58), (.ref b58)])) rfl rfl (hb hby at_136)
  have Z0_101 : n0 ≤ h100.size := (Nat.le_trans Z0_99 (Keep.of_wr W100).1)
  have V100 : Arv Z h100 b58 k58 .int (29 : Int32) [(.int (0 : Int32)), (.int (65 : Int32)), (.int (90 : Int32)), (.int (97 : Int32)), (.int (122 : Int32)), (.int (95 : Int32)), (.int (127 : Int32)), (.int (128 : Int32)), (.int (192 : Int32)), (.int (215 : Int32)), (.int (247 : Int32)), (.int (768 : Int32)), (.int (879 : Int32)), (.int (894 : Int32)), (.int (8192 : Int32)), (.int (8203 : Int32)), (.int (8206 : Int32)), (.int (8303 : Int32)), (.int (8592 : Int32)), (.int (11263 : Int32)), (.int (12272 : Int32)), (.int (0 : Int32)), (.int (0 : Int32)), (.int (0 : Int32)), (.int (0 : Int32)), (.int (0 : Int32)), (.int (0 : Int32)), (.int (0 : Int32)), (.int (0 : Int32))] (.int (0 : Int32)) := Arv.set Ar100 q100 S100 M100 H100 G100 rfl W100 20 rfl (Nat.le_of_ble_eq_true rfl)
  have N100 := Fr.snoc X100 N98 gn_b58
  refine Got.step st100 ?_
  show Got p e below s _ _ _ _ T100 (mkF m 137 #[.val (.int p0), .val (.int p1), .val (.int p2), .unset, .unset, .unset, .unset] [(.ref b58)])
  refine Got.step (T' := T100) (g' := (mkF m 143 #[.val (.int p0), .val (.int p1), .val (.int p2), .unset, .unset, .unset, .unset] [(.int (12288 : Int32)), (.int (21 : Int32)), (.ref b58), (.ref b58)])) (fun tq kt => ?_) ?_
  · show Steps p.tables e below (T100.setTop (mkF m 137 #[.val (.int p0), .val (.int p1), .val (.int p2), .unset, .unset, .unset, .unset] [(.ref b58)])) _
    refine XS.dup X100.here hx rfl (hb hby at_137) rfl rfl ?_
    show Steps p.tables e below (T100.setTop (mkF m 138 #[.val (.int p0), .val (.int p1), .val (.int p2), .unset, .unset, .unset, .unset] [(.ref b58), (.ref b58)])) _
    refine XS.bipush X100.here hx rfl (hb hby at_138) ?_
    show Steps p.tables e below (T100.setTop (mkF m 140 #[.val (.int p0), .val (.int p1), .val (.int p2), .unset, .unset, .unset, .unset] [(.int (21 : Int32)), (.ref b58), (.ref b58)])) _
    refine XS.sipush X100.here hx rfl (hb hby at_140) ?_
    exact kt
  obtain ⟨cl102, Ar102, q102, S102, M102, H102, G102⟩ := (id V100)
  have hin102 : ¬ ((21 : Int32) < 0 ∨ cl102.slots.size ≤ ((21 : Int32)).toNatClampNeg) := inb_of S102 ⟨by decide, by decide⟩
  obtain ⟨T102, h102, X102, e102, W102, st102⟩ := stI X100 hx hZ e100 Ar102 (j := (21 : Int32)) hin102 (g := (mkF m 143 #[.val (.int p0), .val (.int p1), .val (.int p2), .unset, .unset, .unset, .unset] [(.int (12288 : Int32)), (.int (21 : Int32)), (.ref b58), (.ref b58)])) rfl rfl (hb hby at_143)
  have Z0_103 : n0 ≤ h102.size := (Nat.le_trans Z0_101 (Keep.of_wr W102).1)
  have V102 : Arv Z h102 b58 k58 .int (29 : Int32) [(.int (0 : Int32)), (.int (65 : Int32)), (.int (90 : Int32)), (.int (97 : Int32)), (.int (122 : Int32)), (.int (95 : Int32)), (.int (127 : Int32)), (.int (128 : Int32)), (.int (192 : Int32)), (.int (215 : Int32)), (.int (247 : Int32)), (.int (768 : Int32)), (.int (879 : Int32)), (.int (894 : Int32)), (.int (8192 : Int32)), (.int (8203 : Int32)), (.int (8206 : Int32)), (.int (8303 : Int32)), (.int (8592 : Int32)), (.int (11263 : Int32)), (.int (12272 : Int32)), (.int (12288 : Int32)), (.int (0 : Int32)), (.int (0 : Int32)), (.int (0 : Int32)), (.int (0 : Int32)), (.int (0 : Int32)), (.int (0 : Int32)), (.int (0 : Int32))] (.int (0 : Int32)) := Arv.set Ar102 q102 S102 M102 H102 G102 rfl W102 21 rfl (Nat.le_of_ble_eq_true rfl)
  have N102 := Fr.snoc X102 N100 gn_b58
  refine Got.step st102 ?_
  show Got p e below s _ _ _ _ T102 (mkF m 144 #[.val (.int p0), .val (.int p1), .val (.int p2), .unset, .unset, .unset, .unset] [(.ref b58)])
  refine Got.step (T' := T102) (g' := (mkF m 149 #[.val (.int p0), .val (.int p1), .val (.int p2), .unset, .unset, .unset, .unset] [(.int (55296 : Int32)), (.int (22 : Int32)), (.ref b58), (.ref b58)])) (fun tq kt => ?_) ?_
  · show Steps p.tables e below (T102.setTop (mkF m 144 #[.val (.int p0), .val (.int p1), .val (.int p2), .unset, .unset, .unset, .unset] [(.ref b58)])) _
    refine XS.dup X102.here hx rfl (hb hby at_144) rfl rfl ?_
    show Steps p.tables e below (T102.setTop (mkF m 145 #[.val (.int p0), .val (.int p1), .val (.int p2), .unset, .unset, .unset, .unset] [(.ref b58), (.ref b58)])) _
    refine XS.bipush X102.here hx rfl (hb hby at_145) ?_
    show Steps p.tables e below (T102.setTop (mkF m 147 #[.val (.int p0), .val (.int p1), .val (.int p2), .unset, .unset, .unset, .unset] [(.int (22 : Int32)), (.ref b58), (.ref b58)])) _
    refine X102.ldcI hx hown (mvT hZ (hw _ (List.mem_of_getElem? (i := 1) rfl))) rfl (hb hby at_147) ?_
    exact kt
  obtain ⟨cl104, Ar104, q104, S104, M104, H104, G104⟩ := (id V102)
  have hin104 : ¬ ((22 : Int32) < 0 ∨ cl104.slots.size ≤ ((22 : Int32)).toNatClampNeg) := inb_of S104 ⟨by decide, by decide⟩
  obtain ⟨T104, h104, X104, e104, W104, st104⟩ := stI X102 hx hZ e102 Ar104 (j := (22 : Int32)) hin104 (g := (mkF m 149 #[.val (.int p0), .val (.int p1), .val (.int p2), .unset, .unset, .unset, .unset] [(.int (55296 : Int32)), (.int (22 : Int32)), (.ref b58), (.ref b58)])) rfl rfl (hb hby at_149)
  have Z0_105 : n0 ≤ h104.size := (Nat.le_trans Z0_103 (Keep.of_wr W104).1)
  have V104 : Arv Z h104 b58 k58 .int (29 : Int32) [(.int (0 : Int32)), (.int (65 : Int32)), (.int (90 : Int32)), (.int (97 : Int32)), (.int (122 : Int32)), (.int (95 : Int32)), (.int (127 : Int32)), (.int (128 : Int32)), (.int (192 : Int32)), (.int (215 : Int32)), (.int (247 : Int32)), (.int (768 : Int32)), (.int (879 : Int32)), (.int (894 : Int32)), (.int (8192 : Int32)), (.int (8203 : Int32)), (.int (8206 : Int32)), (.int (8303 : Int32)), (.int (8592 : Int32)), (.int (11263 : Int32)), (.int (12272 : Int32)), (.int (12288 : Int32)), (.int (55296 : Int32)), (.int (0 : Int32)), (.int (0 : Int32)), (.int (0 : Int32)), (.int (0 : Int32)), (.int (0 : Int32)), (.int (0 : Int32))] (.int (0 : Int32)) := Arv.set Ar104 q104 S104 M104 H104 G104 rfl W104 22 rfl (Nat.le_of_ble_eq_true rfl)
  have N104 := Fr.snoc X104 N102 gn_b58
  refine Got.step st104 ?_
  show Got p e below s _ _ _ _ T104 (mkF m 150 #[.val (.int p0), .val (.int p1), .val (.int p2), .unset, .unset, .unset, .unset] [(.ref b58)])
  refine Got.step (T' := T104) (g' := (mkF m 155 #[.val (.int p0), .val (.int p1), .val (.int p2), .unset, .unset, .unset, .unset] [(.int (63743 : Int32)), (.int (23 : Int32)), (.ref b58), (.ref b58)])) (fun tq kt => ?_) ?_
  · show Steps p.tables e below (T104.setTop (mkF m 150 #[.val (.int p0), .val (.int p1), .val (.int p2), .unset, .unset, .unset, .unset] [(.ref b58)])) _
    refine XS.dup X104.here hx rfl (hb hby at_150) rfl rfl ?_
    show Steps p.tables e below (T104.setTop (mkF m 151 #[.val (.int p0), .val (.int p1), .val (.int p2), .unset, .unset, .unset, .unset] [(.ref b58), (.ref b58)])) _
    refine XS.bipush X104.here hx rfl (hb hby at_151) ?_
    show Steps p.tables e below (T104.setTop (mkF m 153 #[.val (.int p0), .val (.int p1), .val (.int p2), .unset, .unset, .unset, .unset] [(.int (23 : Int32)), (.ref b58), (.ref b58)])) _
    refine X104.ldcI hx hown (mvT hZ (hw _ (List.mem_of_getElem? (i := 2) rfl))) rfl (hb hby at_153) ?_
    exact kt
  obtain ⟨cl106, Ar106, q106, S106, M106, H106, G106⟩ := (id V104)
  have hin106 : ¬ ((23 : Int32) < 0 ∨ cl106.slots.size ≤ ((23 : Int32)).toNatClampNeg) := inb_of S106 ⟨by decide, by decide⟩
  obtain ⟨T106, h106, X106, e106, W106, st106⟩ := stI X104 hx hZ e104 Ar106 (j := (23 : Int32)) hin106 (g := (mkF m 155 #[.val (.int p0), .val (.int p1), .val (.int p2), .unset, .unset, .unset, .unset] [(.int (63743 : Int32)), (.int (23 : Int32)), (.ref b58), (.ref b58)])) rfl rfl (hb hby at_155)
  have Z0_107 : n0 ≤ h106.size := (Nat.le_trans Z0_105 (Keep.of_wr W106).1)
  have V106 : Arv Z h106 b58 k58 .int (29 : Int32) [(.int (0 : Int32)), (.int (65 : Int32)), (.int (90 : Int32)), (.int (97 : Int32)), (.int (122 : Int32)), (.int (95 : Int32)), (.int (127 : Int32)), (.int (128 : Int32)), (.int (192 : Int32)), (.int (215 : Int32)), (.int (247 : Int32)), (.int (768 : Int32)), (.int (879 : Int32)), (.int (894 : Int32)), (.int (8192 : Int32)), (.int (8203 : Int32)), (.int (8206 : Int32)), (.int (8303 : Int32)), (.int (8592 : Int32)), (.int (11263 : Int32)), (.int (12272 : Int32)), (.int (12288 : Int32)), (.int (55296 : Int32)), (.int (63743 : Int32)), (.int (0 : Int32)), (.int (0 : Int32)), (.int (0 : Int32)), (.int (0 : Int32)), (.int (0 : Int32))] (.int (0 : Int32)) := Arv.set Ar106 q106 S106 M106 H106 G106 rfl W106 23 rfl (Nat.le_of_ble_eq_true rfl)
  have N106 := Fr.snoc X106 N104 gn_b58
  refine Got.step st106 ?_
  show Got p e below s _ _ _ _ T106 (mkF m 156 #[.val (.int p0), .val (.int p1), .val (.int p2), .unset, .unset, .unset, .unset] [(.ref b58)])
  refine Got.step (T' := T106) (g' := (mkF m 161 #[.val (.int p0), .val (.int p1), .val (.int p2), .unset, .unset, .unset, .unset] [(.int (64976 : Int32)), (.int (24 : Int32)), (.ref b58), (.ref b58)])) (fun tq kt => ?_) ?_
  · show Steps p.tables e below (T106.setTop (mkF m 156 #[.val (.int p0), .val (.int p1), .val (.int p2), .unset, .unset, .unset, .unset] [(.ref b58)])) _
    refine XS.dup X106.here hx rfl (hb hby at_156) rfl rfl ?_
    show Steps p.tables e below (T106.setTop (mkF m 157 #[.val (.int p0), .val (.int p1), .val (.int p2), .unset, .unset, .unset, .unset] [(.ref b58), (.ref b58)])) _
    refine XS.bipush X106.here hx rfl (hb hby at_157) ?_
    show Steps p.tables e below (T106.setTop (mkF m 159 #[.val (.int p0), .val (.int p1), .val (.int p2), .unset, .unset, .unset, .unset] [(.int (24 : Int32)), (.ref b58), (.ref b58)])) _
    refine X106.ldcI hx hown (mvT hZ (hw _ (List.mem_of_getElem? (i := 3) rfl))) rfl (hb hby at_159) ?_
    exact kt
  obtain ⟨cl108, Ar108, q108, S108, M108, H108, G108⟩ := (id V106)
  have hin108 : ¬ ((24 : Int32) < 0 ∨ cl108.slots.size ≤ ((24 : Int32)).toNatClampNeg) := inb_of S108 ⟨by decide, by decide⟩
  obtain ⟨T108, h108, X108, e108, W108, st108⟩ := stI X106 hx hZ e106 Ar108 (j := (24 : Int32)) hin108 (g := (mkF m 161 #[.val (.int p0), .val (.int p1), .val (.int p2), .unset, .unset, .unset, .unset] [(.int (64976 : Int32)), (.int (24 : Int32)), (.ref b58), (.ref b58)])) rfl rfl (hb hby at_161)
  have Z0_109 : n0 ≤ h108.size := (Nat.le_trans Z0_107 (Keep.of_wr W108).1)
  have V108 : Arv Z h108 b58 k58 .int (29 : Int32) [(.int (0 : Int32)), (.int (65 : Int32)), (.int (90 : Int32)), (.int (97 : Int32)), (.int (122 : Int32)), (.int (95 : Int32)), (.int (127 : Int32)), (.int (128 : Int32)), (.int (192 : Int32)), (.int (215 : Int32)), (.int (247 : Int32)), (.int (768 : Int32)), (.int (879 : Int32)), (.int (894 : Int32)), (.int (8192 : Int32)), (.int (8203 : Int32)), (.int (8206 : Int32)), (.int (8303 : Int32)), (.int (8592 : Int32)), (.int (11263 : Int32)), (.int (12272 : Int32)), (.int (12288 : Int32)), (.int (55296 : Int32)), (.int (63743 : Int32)), (.int (64976 : Int32)), (.int (0 : Int32)), (.int (0 : Int32)), (.int (0 : Int32)), (.int (0 : Int32))] (.int (0 : Int32)) := Arv.set Ar108 q108 S108 M108 H108 G108 rfl W108 24 rfl (Nat.le_of_ble_eq_true rfl)
  have N108 := Fr.snoc X108 N106 gn_b58
  refine Got.step st108 ?_
  show Got p e below s _ _ _ _ T108 (mkF m 162 #[.val (.int p0), .val (.int p1), .val (.int p2), .unset, .unset, .unset, .unset] [(.ref b58)])
  refine Got.step (T' := T108) (g' := (mkF m 167 #[.val (.int p0), .val (.int p1), .val (.int p2), .unset, .unset, .unset, .unset] [(.int (65007 : Int32)), (.int (25 : Int32)), (.ref b58), (.ref b58)])) (fun tq kt => ?_) ?_
  · show Steps p.tables e below (T108.setTop (mkF m 162 #[.val (.int p0), .val (.int p1), .val (.int p2), .unset, .unset, .unset, .unset] [(.ref b58)])) _
    refine XS.dup X108.here hx rfl (hb hby at_162) rfl rfl ?_
    show Steps p.tables e below (T108.setTop (mkF m 163 #[.val (.int p0), .val (.int p1), .val (.int p2), .unset, .unset, .unset, .unset] [(.ref b58), (.ref b58)])) _
    refine XS.bipush X108.here hx rfl (hb hby at_163) ?_
    show Steps p.tables e below (T108.setTop (mkF m 165 #[.val (.int p0), .val (.int p1), .val (.int p2), .unset, .unset, .unset, .unset] [(.int (25 : Int32)), (.ref b58), (.ref b58)])) _
    refine X108.ldcI hx hown (mvT hZ (hw _ (List.mem_of_getElem? (i := 4) rfl))) rfl (hb hby at_165) ?_
    exact kt
  obtain ⟨cl110, Ar110, q110, S110, M110, H110, G110⟩ := (id V108)
  have hin110 : ¬ ((25 : Int32) < 0 ∨ cl110.slots.size ≤ ((25 : Int32)).toNatClampNeg) := inb_of S110 ⟨by decide, by decide⟩
  obtain ⟨T110, h110, X110, e110, W110, st110⟩ := stI X108 hx hZ e108 Ar110 (j := (25 : Int32)) hin110 (g := (mkF m 167 #[.val (.int p0), .val (.int p1), .val (.int p2), .unset, .unset, .unset, .unset] [(.int (65007 : Int32)), (.int (25 : Int32)), (.ref b58), (.ref b58)])) rfl rfl (hb hby at_167)
  have Z0_111 : n0 ≤ h110.size := (Nat.le_trans Z0_109 (Keep.of_wr W110).1)
  have V110 : Arv Z h110 b58 k58 .int (29 : Int32) [(.int (0 : Int32)), (.int (65 : Int32)), (.int (90 : Int32)), (.int (97 : Int32)), (.int (122 : Int32)), (.int (95 : Int32)), (.int (127 : Int32)), (.int (128 : Int32)), (.int (192 : Int32)), (.int (215 : Int32)), (.int (247 : Int32)), (.int (768 : Int32)), (.int (879 : Int32)), (.int (894 : Int32)), (.int (8192 : Int32)), (.int (8203 : Int32)), (.int (8206 : Int32)), (.int (8303 : Int32)), (.int (8592 : Int32)), (.int (11263 : Int32)), (.int (12272 : Int32)), (.int (12288 : Int32)), (.int (55296 : Int32)), (.int (63743 : Int32)), (.int (64976 : Int32)), (.int (65007 : Int32)), (.int (0 : Int32)), (.int (0 : Int32)), (.int (0 : Int32))] (.int (0 : Int32)) := Arv.set Ar110 q110 S110 M110 H110 G110 rfl W110 25 rfl (Nat.le_of_ble_eq_true rfl)
  have N110 := Fr.snoc X110 N108 gn_b58
  refine Got.step st110 ?_
  show Got p e below s _ _ _ _ T110 (mkF m 168 #[.val (.int p0), .val (.int p1), .val (.int p2), .unset, .unset, .unset, .unset] [(.ref b58)])
  refine Got.step (T' := T110) (g' := (mkF m 173 #[.val (.int p0), .val (.int p1), .val (.int p2), .unset, .unset, .unset, .unset] [(.int (65534 : Int32)), (.int (26 : Int32)), (.ref b58), (.ref b58)])) (fun tq kt => ?_) ?_
  · show Steps p.tables e below (T110.setTop (mkF m 168 #[.val (.int p0), .val (.int p1), .val (.int p2), .unset, .unset, .unset, .unset] [(.ref b58)])) _
    refine XS.dup X110.here hx rfl (hb hby at_168) rfl rfl ?_
    show Steps p.tables e below (T110.setTop (mkF m 169 #[.val (.int p0), .val (.int p1), .val (.int p2), .unset, .unset, .unset, .unset] [(.ref b58), (.ref b58)])) _
    refine XS.bipush X110.here hx rfl (hb hby at_169) ?_
    show Steps p.tables e below (T110.setTop (mkF m 171 #[.val (.int p0), .val (.int p1), .val (.int p2), .unset, .unset, .unset, .unset] [(.int (26 : Int32)), (.ref b58), (.ref b58)])) _
    refine X110.ldcI hx hown (mvT hZ (hw _ (List.mem_of_getElem? (i := 5) rfl))) rfl (hb hby at_171) ?_
    exact kt
  obtain ⟨cl112, Ar112, q112, S112, M112, H112, G112⟩ := (id V110)
  have hin112 : ¬ ((26 : Int32) < 0 ∨ cl112.slots.size ≤ ((26 : Int32)).toNatClampNeg) := inb_of S112 ⟨by decide, by decide⟩
  obtain ⟨T112, h112, X112, e112, W112, st112⟩ := stI X110 hx hZ e110 Ar112 (j := (26 : Int32)) hin112 (g := (mkF m 173 #[.val (.int p0), .val (.int p1), .val (.int p2), .unset, .unset, .unset, .unset] [(.int (65534 : Int32)), (.int (26 : Int32)), (.ref b58), (.ref b58)])) rfl rfl (hb hby at_173)
  have Z0_113 : n0 ≤ h112.size := (Nat.le_trans Z0_111 (Keep.of_wr W112).1)
  have V112 : Arv Z h112 b58 k58 .int (29 : Int32) [(.int (0 : Int32)), (.int (65 : Int32)), (.int (90 : Int32)), (.int (97 : Int32)), (.int (122 : Int32)), (.int (95 : Int32)), (.int (127 : Int32)), (.int (128 : Int32)), (.int (192 : Int32)), (.int (215 : Int32)), (.int (247 : Int32)), (.int (768 : Int32)), (.int (879 : Int32)), (.int (894 : Int32)), (.int (8192 : Int32)), (.int (8203 : Int32)), (.int (8206 : Int32)), (.int (8303 : Int32)), (.int (8592 : Int32)), (.int (11263 : Int32)), (.int (12272 : Int32)), (.int (12288 : Int32)), (.int (55296 : Int32)), (.int (63743 : Int32)), (.int (64976 : Int32)), (.int (65007 : Int32)), (.int (65534 : Int32)), (.int (0 : Int32)), (.int (0 : Int32))] (.int (0 : Int32)) := Arv.set Ar112 q112 S112 M112 H112 G112 rfl W112 26 rfl (Nat.le_of_ble_eq_true rfl)
  have N112 := Fr.snoc X112 N110 gn_b58
  refine Got.step st112 ?_
  show Got p e below s _ _ _ _ T112 (mkF m 174 #[.val (.int p0), .val (.int p1), .val (.int p2), .unset, .unset, .unset, .unset] [(.ref b58)])
  refine Got.step (T' := T112) (g' := (mkF m 179 #[.val (.int p0), .val (.int p1), .val (.int p2), .unset, .unset, .unset, .unset] [(.int (65535 : Int32)), (.int (27 : Int32)), (.ref b58), (.ref b58)])) (fun tq kt => ?_) ?_
  · show Steps p.tables e below (T112.setTop (mkF m 174 #[.val (.int p0), .val (.int p1), .val (.int p2), .unset, .unset, .unset, .unset] [(.ref b58)])) _
    refine XS.dup X112.here hx rfl (hb hby at_174) rfl rfl ?_
    show Steps p.tables e below (T112.setTop (mkF m 175 #[.val (.int p0), .val (.int p1), .val (.int p2), .unset, .unset, .unset, .unset] [(.ref b58), (.ref b58)])) _
    refine XS.bipush X112.here hx rfl (hb hby at_175) ?_
    show Steps p.tables e below (T112.setTop (mkF m 177 #[.val (.int p0), .val (.int p1), .val (.int p2), .unset, .unset, .unset, .unset] [(.int (27 : Int32)), (.ref b58), (.ref b58)])) _
    refine X112.ldcI hx hown (mvT hZ (hw _ (List.mem_of_getElem? (i := 6) rfl))) rfl (hb hby at_177) ?_
    exact kt
  obtain ⟨cl114, Ar114, q114, S114, M114, H114, G114⟩ := (id V112)
  have hin114 : ¬ ((27 : Int32) < 0 ∨ cl114.slots.size ≤ ((27 : Int32)).toNatClampNeg) := inb_of S114 ⟨by decide, by decide⟩
  obtain ⟨T114, h114, X114, e114, W114, st114⟩ := stI X112 hx hZ e112 Ar114 (j := (27 : Int32)) hin114 (g := (mkF m 179 #[.val (.int p0), .val (.int p1), .val (.int p2), .unset, .unset, .unset, .unset] [(.int (65535 : Int32)), (.int (27 : Int32)), (.ref b58), (.ref b58)])) rfl rfl (hb hby at_179)
  have Z0_115 : n0 ≤ h114.size := (Nat.le_trans Z0_113 (Keep.of_wr W114).1)
  have V114 : Arv Z h114 b58 k58 .int (29 : Int32) [(.int (0 : Int32)), (.int (65 : Int32)), (.int (90 : Int32)), (.int (97 : Int32)), (.int (122 : Int32)), (.int (95 : Int32)), (.int (127 : Int32)), (.int (128 : Int32)), (.int (192 : Int32)), (.int (215 : Int32)), (.int (247 : Int32)), (.int (768 : Int32)), (.int (879 : Int32)), (.int (894 : Int32)), (.int (8192 : Int32)), (.int (8203 : Int32)), (.int (8206 : Int32)), (.int (8303 : Int32)), (.int (8592 : Int32)), (.int (11263 : Int32)), (.int (12272 : Int32)), (.int (12288 : Int32)), (.int (55296 : Int32)), (.int (63743 : Int32)), (.int (64976 : Int32)), (.int (65007 : Int32)), (.int (65534 : Int32)), (.int (65535 : Int32)), (.int (0 : Int32))] (.int (0 : Int32)) := Arv.set Ar114 q114 S114 M114 H114 G114 rfl W114 27 rfl (Nat.le_of_ble_eq_true rfl)
  have N114 := Fr.snoc X114 N112 gn_b58
  refine Got.step st114 ?_
  show Got p e below s _ _ _ _ T114 (mkF m 180 #[.val (.int p0), .val (.int p1), .val (.int p2), .unset, .unset, .unset, .unset] [(.ref b58)])
  refine Got.step (T' := T114) (g' := (mkF m 185 #[.val (.int p0), .val (.int p1), .val (.int p2), .unset, .unset, .unset, .unset] [(.int (983039 : Int32)), (.int (28 : Int32)), (.ref b58), (.ref b58)])) (fun tq kt => ?_) ?_
  · show Steps p.tables e below (T114.setTop (mkF m 180 #[.val (.int p0), .val (.int p1), .val (.int p2), .unset, .unset, .unset, .unset] [(.ref b58)])) _
    refine XS.dup X114.here hx rfl (hb hby at_180) rfl rfl ?_
    show Steps p.tables e below (T114.setTop (mkF m 181 #[.val (.int p0), .val (.int p1), .val (.int p2), .unset, .unset, .unset, .unset] [(.ref b58), (.ref b58)])) _
    refine XS.bipush X114.here hx rfl (hb hby at_181) ?_
    show Steps p.tables e below (T114.setTop (mkF m 183 #[.val (.int p0), .val (.int p1), .val (.int p2), .unset, .unset, .unset, .unset] [(.int (28 : Int32)), (.ref b58), (.ref b58)])) _
    refine X114.ldcI hx hown (mvT hZ (hw _ (List.mem_of_getElem? (i := 7) rfl))) rfl (hb hby at_183) ?_
    exact kt
  obtain ⟨cl116, Ar116, q116, S116, M116, H116, G116⟩ := (id V114)
  have hin116 : ¬ ((28 : Int32) < 0 ∨ cl116.slots.size ≤ ((28 : Int32)).toNatClampNeg) := inb_of S116 ⟨by decide, by decide⟩
  obtain ⟨T116, h116, X116, e116, W116, st116⟩ := stI X114 hx hZ e114 Ar116 (j := (28 : Int32)) hin116 (g := (mkF m 185 #[.val (.int p0), .val (.int p1), .val (.int p2), .unset, .unset, .unset, .unset] [(.int (983039 : Int32)), (.int (28 : Int32)), (.ref b58), (.ref b58)])) rfl rfl (hb hby at_185)
  have Z0_117 : n0 ≤ h116.size := (Nat.le_trans Z0_115 (Keep.of_wr W116).1)
  have V116 : Arv Z h116 b58 k58 .int (29 : Int32) [(.int (0 : Int32)), (.int (65 : Int32)), (.int (90 : Int32)), (.int (97 : Int32)), (.int (122 : Int32)), (.int (95 : Int32)), (.int (127 : Int32)), (.int (128 : Int32)), (.int (192 : Int32)), (.int (215 : Int32)), (.int (247 : Int32)), (.int (768 : Int32)), (.int (879 : Int32)), (.int (894 : Int32)), (.int (8192 : Int32)), (.int (8203 : Int32)), (.int (8206 : Int32)), (.int (8303 : Int32)), (.int (8592 : Int32)), (.int (11263 : Int32)), (.int (12272 : Int32)), (.int (12288 : Int32)), (.int (55296 : Int32)), (.int (63743 : Int32)), (.int (64976 : Int32)), (.int (65007 : Int32)), (.int (65534 : Int32)), (.int (65535 : Int32)), (.int (983039 : Int32))] (.int (0 : Int32)) := Arv.set Ar116 q116 S116 M116 H116 G116 rfl W116 28 rfl (Nat.le_of_ble_eq_true rfl)
  have N116 := Fr.snoc X116 N114 gn_b58
  refine Got.step st116 ?_
  show Got p e below s _ _ _ _ T116 (mkF m 186 #[.val (.int p0), .val (.int p1), .val (.int p2), .unset, .unset, .unset, .unset] [(.ref b58)])
  refine Got.step (T' := T116) (g' := (mkF m 195 #[.val (.int p0), .val (.int p1), .val (.int p2), .val (.ref b58), .unset, .unset, .unset] [(.int ((p1 &&& (2147483647 : Int32)) % (29 : Int32))), (.ref b58)])) (fun tq kt => ?_) ?_
  · show Steps p.tables e below (T116.setTop (mkF m 186 #[.val (.int p0), .val (.int p1), .val (.int p2), .unset, .unset, .unset, .unset] [(.ref b58)])) _
    refine XS.astoreN X116.here hx rfl (hb hby at_186) rfl rfl (l' := #[.val (.int p0), .val (.int p1), .val (.int p2), .val (.ref b58), .unset, .unset, .unset]) rfl ?_
    show Steps p.tables e below (T116.setTop (mkF m 187 #[.val (.int p0), .val (.int p1), .val (.int p2), .val (.ref b58), .unset, .unset, .unset] [])) _
    refine XS.aloadN X116.here hx rfl (hb hby at_187) rfl rfl ?_
    show Steps p.tables e below (T116.setTop (mkF m 188 #[.val (.int p0), .val (.int p1), .val (.int p2), .val (.ref b58), .unset, .unset, .unset] [(.ref b58)])) _
    refine XS.iloadN X116.here hx rfl (hb hby at_188) rfl ?_
    show Steps p.tables e below (T116.setTop (mkF m 189 #[.val (.int p0), .val (.int p1), .val (.int p2), .val (.ref b58), .unset, .unset, .unset] [(.int p1), (.ref b58)])) _
    refine X116.ldcI hx hown (mvT hZ (hw _ (List.mem_of_getElem? (i := 8) rfl))) rfl (hb hby at_189) ?_
    show Steps p.tables e below (T116.setTop (mkF m 191 #[.val (.int p0), .val (.int p1), .val (.int p2), .val (.ref b58), .unset, .unset, .unset] [(.int (2147483647 : Int32)), (.int p1), (.ref b58)])) _
    refine XS.iand X116.here hx rfl (hb hby at_191) rfl ?_
    show Steps p.tables e below (T116.setTop (mkF m 192 #[.val (.int p0), .val (.int p1), .val (.int p2), .val (.ref b58), .unset, .unset, .unset] [(.int (p1 &&& (2147483647 : Int32))), (.ref b58)])) _
    refine XS.bipush X116.here hx rfl (hb hby at_192) ?_
    show Steps p.tables e below (T116.setTop (mkF m 194 #[.val (.int p0), .val (.int p1), .val (.int p2), .val (.ref b58), .unset, .unset, .unset] [(.int (29 : Int32)), (.int (p1 &&& (2147483647 : Int32))), (.ref b58)])) _
    refine iremM X116 hx rfl (hb hby at_194) rfl (by decide) ?_
    exact kt
  obtain ⟨cl118, Ar118, q118, S118, M118, H118, G118⟩ := (id V116)
  have hin118 : ¬ (((p1 &&& (2147483647 : Int32)) % (29 : Int32)) < 0 ∨ cl118.slots.size ≤ (((p1 &&& (2147483647 : Int32)) % (29 : Int32))).toNatClampNeg) := inb_of S118 (own_idx p1 29 29 rfl (by decide))
  obtain ⟨x118, hx118⟩ := fit_I (G118 _ (Nat.lt_of_not_le fun y => hin118 (Or.inr y))) (by simp)
  refine Got.step (T' := T116) (fun tq kt => X116.iaload hx (j := ((p1 &&& (2147483647 : Int32)) % (29 : Int32))) (v := (.int x118)) (by rw [e116]; exact Ar118.1) (State.isArrayOf_alike hZ.alike Ar118.2.1) Ar118.2.2 hin118 (H118.at hin118 hx118) (g := (mkF m 195 #[.val (.int p0), .val (.int p1), .val (.int p2), .val (.ref b58), .unset, .unset, .unset] [(.int ((p1 &&& (2147483647 : Int32)) % (29 : Int32))), (.ref b58)])) rfl rfl (hb hby at_195) tq kt) ?_
  show Got p e below s _ _ _ _ T116 (mkF m 196 #[.val (.int p0), .val (.int p1), .val (.int p2), .val (.ref b58), .unset, .unset, .unset] [(.int x118)])
  refine Got.step (T' := T116) (g' := (mkF m 208 #[.val (.int p0), .val (.int p1), .val (.int p2), .val (.ref b58), .val (.int ((x118 + ((p2 &&& (2147483647 : Int32)) % (5 : Int32))) - (2 : Int32))), .unset, .unset] [(.int p0)])) (fun tq kt => ?_) ?_
  · show Steps p.tables e below (T116.setTop (mkF m 196 #[.val (.int p0), .val (.int p1), .val (.int p2), .val (.ref b58), .unset, .unset, .unset] [(.int x118)])) _
    refine XS.iloadN X116.here hx rfl (hb hby at_196) rfl ?_
    show Steps p.tables e below (T116.setTop (mkF m 197 #[.val (.int p0), .val (.int p1), .val (.int p2), .val (.ref b58), .unset, .unset, .unset] [(.int p2), (.int x118)])) _
    refine X116.ldcI hx hown (mvT hZ (hw _ (List.mem_of_getElem? (i := 8) rfl))) rfl (hb hby at_197) ?_
    show Steps p.tables e below (T116.setTop (mkF m 199 #[.val (.int p0), .val (.int p1), .val (.int p2), .val (.ref b58), .unset, .unset, .unset] [(.int (2147483647 : Int32)), (.int p2), (.int x118)])) _
    refine XS.iand X116.here hx rfl (hb hby at_199) rfl ?_
    show Steps p.tables e below (T116.setTop (mkF m 200 #[.val (.int p0), .val (.int p1), .val (.int p2), .val (.ref b58), .unset, .unset, .unset] [(.int (p2 &&& (2147483647 : Int32))), (.int x118)])) _
    refine XS.iconst X116.here hx rfl (hb hby at_200) ?_
    show Steps p.tables e below (T116.setTop (mkF m 201 #[.val (.int p0), .val (.int p1), .val (.int p2), .val (.ref b58), .unset, .unset, .unset] [(.int (5 : Int32)), (.int (p2 &&& (2147483647 : Int32))), (.int x118)])) _
    refine iremM X116 hx rfl (hb hby at_201) rfl (by decide) ?_
    show Steps p.tables e below (T116.setTop (mkF m 202 #[.val (.int p0), .val (.int p1), .val (.int p2), .val (.ref b58), .unset, .unset, .unset] [(.int ((p2 &&& (2147483647 : Int32)) % (5 : Int32))), (.int x118)])) _
    refine XS.iadd X116.here hx rfl (hb hby at_202) rfl ?_
    show Steps p.tables e below (T116.setTop (mkF m 203 #[.val (.int p0), .val (.int p1), .val (.int p2), .val (.ref b58), .unset, .unset, .unset] [(.int (x118 + ((p2 &&& (2147483647 : Int32)) % (5 : Int32))))])) _
    refine XS.iconst X116.here hx rfl (hb hby at_203) ?_
    show Steps p.tables e below (T116.setTop (mkF m 204 #[.val (.int p0), .val (.int p1), .val (.int p2), .val (.ref b58), .unset, .unset, .unset] [(.int (2 : Int32)), (.int (x118 + ((p2 &&& (2147483647 : Int32)) % (5 : Int32))))])) _
    refine XS.isub X116.here hx rfl (hb hby at_204) rfl ?_
    show Steps p.tables e below (T116.setTop (mkF m 205 #[.val (.int p0), .val (.int p1), .val (.int p2), .val (.ref b58), .unset, .unset, .unset] [(.int ((x118 + ((p2 &&& (2147483647 : Int32)) % (5 : Int32))) - (2 : Int32)))])) _
    refine XS.istore X116.here hx rfl (hb hby at_205) rfl (l' := #[.val (.int p0), .val (.int p1), .val (.int p2), .val (.ref b58), .val (.int ((x118 + ((p2 &&& (2147483647 : Int32)) % (5 : Int32))) - (2 : Int32))), .unset, .unset]) rfl ?_
    show Steps p.tables e below (T116.setTop (mkF m 207 #[.val (.int p0), .val (.int p1), .val (.int p2), .val (.ref b58), .val (.int ((x118 + ((p2 &&& (2147483647 : Int32)) % (5 : Int32))) - (2 : Int32))), .unset, .unset] [])) _
    refine XS.iloadN X116.here hx rfl (hb hby at_207) rfl ?_
    exact kt
  obtain ⟨_, _, ⟨T119, L119, k119, n119⟩, -, X119, ⟨Lc119, hQ119, l119, y119, z119⟩, st119⟩ := Jvm.LawKit.callS X116 hx (y := (⟨"com/example/treegraft/treegraft/xml/XmlChars", "isNameStartChar", "(I)Z"⟩ : MethodName)) hown (mvT hZ (hw _ (List.mem_of_getElem? (i := 9) rfl))) (mvT hZ (hw _ (List.mem_of_getElem? (i := 10) rfl))) (mvT hZ (hw _ (List.mem_of_getElem? (i := 11) rfl))) (mvT hZ (hw _ (List.mem_of_getElem? (i := 12) rfl))) (by decide) (backOf (W := 0) (rm1 l Z a0 hw [] p0 h116 n0 Z0_117) hZ (hw _ (List.mem_of_getElem? (i := 12) rfl)) (hw _ (List.mem_of_getElem? (i := 11) rfl)) (by decide) (by decide)) (g := (mkF m 208 #[.val (.int p0), .val (.int p1), .val (.int p2), .val (.ref b58), .val (.int ((x118 + ((p2 &&& (2147483647 : Int32)) % (5 : Int32))) - (2 : Int32))), .unset, .unset] [(.int p0)])) rfl (by rw [hml]; rfl) (argsL := [(.int p0)]) (rest := []) (lenOf pd_1 rfl) rfl (by show 2 * 0 + _ ≤ _; exact Nat.le_of_eq rfl) (hb hby at_208) (fun _ _ => ⟨rfl, e116, (by decide : 1 + 0 ≤ _), (by decide : 29 + 0 ≤ _)⟩)
  dsimp only [Pt.U, Pt.locs, Pt.cells, Pt.slots] at X119 l119 y119 z119 st119 hQ119
  subst y119 z119
  obtain ⟨rfl, Nq119, e119⟩ := hQ119
  have N119 : Fr n0 L119 := by rw [l119]; exact Fr.app N116 Nq119
  refine Got.step st119 ?_
  show Got p e below s _ _ _ _ T119 (mkF m 211 #[.val (.int p0), .val (.int p1), .val (.int p2), .val (.ref b58), .val (.int ((x118 + ((p2 &&& (2147483647 : Int32)) % (5 : Int32))) - (2 : Int32))), .unset, .unset] [(.int (f1 p0))])
  refine Got.step (T' := T119) (g' := (mkF m 212 #[.val (.int p0), .val (.int p1), .val (.int p2), .val (.ref b58), .val (.int ((x118 + ((p2 &&& (2147483647 : Int32)) % (5 : Int32))) - (2 : Int32))), .unset, .unset] [(.int p0), (.int (f1 p0))])) (fun tq kt => ?_) ?_
  · show Steps p.tables e below (T119.setTop (mkF m 211 #[.val (.int p0), .val (.int p1), .val (.int p2), .val (.ref b58), .val (.int ((x118 + ((p2 &&& (2147483647 : Int32)) % (5 : Int32))) - (2 : Int32))), .unset, .unset] [(.int (f1 p0))])) _
    refine XS.iloadN X119.here hx rfl (hb hby at_211) rfl ?_
    exact kt
  obtain ⟨_, _, ⟨T120, L120, k120, n120⟩, -, X120, ⟨Lc120, hQ120, l120, y120, z120⟩, st120⟩ := Jvm.LawKit.callS X119 hx (y := (⟨"com/example/treegraft/treegraft/xml/XmlCharsIsNameStartCharPinLaw", "reference", "(I)Z"⟩ : MethodName)) hown (mvT hZ (hw _ (List.mem_of_getElem? (i := 13) rfl))) (mvT hZ (hw _ (List.mem_of_getElem? (i := 14) rfl))) (mvT hZ (hw _ (List.mem_of_getElem? (i := 15) rfl))) (mvT hZ (hw _ (List.mem_of_getElem? (i := 16) rfl))) (by decide) (backOf (W := 1) (rm2 l Z a0 hw [] p0 h116 n0 Z0_117) hZ (hw _ (List.mem_of_getElem? (i := 16) rfl)) (hw _ (List.mem_of_getElem? (i := 15) rfl)) (by decide) (by decide)) (g := (mkF m 212 #[.val (.int p0), .val (.int p1), .val (.int p2), .val (.ref b58), .val (.int ((x118 + ((p2 &&& (2147483647 : Int32)) % (5 : Int32))) - (2 : Int32))), .unset, .unset] [(.int p0), (.int (f1 p0))])) rfl (by rw [hml]; rfl) (argsL := [(.int p0)]) (rest := [(.int (f1 p0))]) (lenOf pd_1 rfl) rfl (by show 2 * 0 + _ ≤ _; exact Nat.le_of_eq rfl) (hb hby at_212) (fun _ _ => ⟨rfl, e119, (by decide : 1 + 0 ≤ _), (by decide : 29 + 0 ≤ _)⟩)
  dsimp only [Pt.U, Pt.locs, Pt.cells, Pt.slots] at X120 l120 y120 z120 st120 hQ120
  subst y120 z120
  obtain ⟨rfl, Nq120, e120⟩ := hQ120
  have N120 : Fr n0 L120 := by rw [l120]; exact Fr.app N119 Nq120
  refine Got.step st120 ?_
  show Got p e below s _ _ _ _ T120 (mkF m 215 #[.val (.int p0), .val (.int p1), .val (.int p2), .val (.ref b58), .val (.int ((x118 + ((p2 &&& (2147483647 : Int32)) % (5 : Int32))) - (2 : Int32))), .unset, .unset] [(.int (f2 p0)), (.int (f1 p0))])
  refine Got.step (T' := T120) (g' := (mkF m 227 #[.val (.int p0), .val (.int p1), .val (.int p2), .val (.ref b58), .val (.int ((x118 + ((p2 &&& (2147483647 : Int32)) % (5 : Int32))) - (2 : Int32))), .val (.int (1 : Int32)), .unset] [(.int ((x118 + ((p2 &&& (2147483647 : Int32)) % (5 : Int32))) - (2 : Int32)))])) (fun tq kt => ?_) ?_
  · show Steps p.tables e below (T120.setTop (mkF m 215 #[.val (.int p0), .val (.int p1), .val (.int p2), .val (.ref b58), .val (.int ((x118 + ((p2 &&& (2147483647 : Int32)) % (5 : Int32))) - (2 : Int32))), .unset, .unset] [(.int (f2 p0)), (.int (f1 p0))])) _
    refine XS.icmpNo X120.here hx rfl (hb hby at_215) rfl (XT.ii_ne_f (same _)) ?_
    show Steps p.tables e below (T120.setTop (mkF m 218 #[.val (.int p0), .val (.int p1), .val (.int p2), .val (.ref b58), .val (.int ((x118 + ((p2 &&& (2147483647 : Int32)) % (5 : Int32))) - (2 : Int32))), .unset, .unset] [])) _
    refine XS.iconst X120.here hx rfl (hb hby at_218) ?_
    show Steps p.tables e below (T120.setTop (mkF m 219 #[.val (.int p0), .val (.int p1), .val (.int p2), .val (.ref b58), .val (.int ((x118 + ((p2 &&& (2147483647 : Int32)) % (5 : Int32))) - (2 : Int32))), .unset, .unset] [(.int (1 : Int32))])) _
    refine XS.goto X120.here hx rfl (pc0 := 219) (pc' := 223) rfl (hb hby at_219) (by decide) (by decide) ?_
    show Steps p.tables e below (T120.setTop (mkF m 223 #[.val (.int p0), .val (.int p1), .val (.int p2), .val (.ref b58), .val (.int ((x118 + ((p2 &&& (2147483647 : Int32)) % (5 : Int32))) - (2 : Int32))), .unset, .unset] [(.int (1 : Int32))])) _
    refine XS.istore X120.here hx rfl (hb hby at_223) rfl (l' := #[.val (.int p0), .val (.int p1), .val (.int p2), .val (.ref b58), .val (.int ((x118 + ((p2 &&& (2147483647 : Int32)) % (5 : Int32))) - (2 : Int32))), .val (.int (1 : Int32)), .unset]) rfl ?_
    show Steps p.tables e below (T120.setTop (mkF m 225 #[.val (.int p0), .val (.int p1), .val (.int p2), .val (.ref b58), .val (.int ((x118 + ((p2 &&& (2147483647 : Int32)) % (5 : Int32))) - (2 : Int32))), .val (.int (1 : Int32)), .unset] [])) _
    refine XS.iload X120.here hx rfl (hb hby at_225) rfl ?_
    exact kt
  obtain ⟨_, _, ⟨T121, L121, k121, n121⟩, -, X121, ⟨Lc121, hQ121, l121, y121, z121⟩, st121⟩ := Jvm.LawKit.callS X120 hx (y := (⟨"com/example/treegraft/treegraft/xml/XmlChars", "isNameStartChar", "(I)Z"⟩ : MethodName)) hown (mvT hZ (hw _ (List.mem_of_getElem? (i := 9) rfl))) (mvT hZ (hw _ (List.mem_of_getElem? (i := 10) rfl))) (mvT hZ (hw _ (List.mem_of_getElem? (i := 11) rfl))) (mvT hZ (hw _ (List.mem_of_getElem? (i := 12) rfl))) (by decide) (backOf (W := 0) (rm1 l Z a0 hw [] ((x118 + ((p2 &&& (2147483647 : Int32)) % (5 : Int32))) - (2 : Int32)) h116 n0 Z0_117) hZ (hw _ (List.mem_of_getElem? (i := 12) rfl)) (hw _ (List.mem_of_getElem? (i := 11) rfl)) (by decide) (by decide)) (g := (mkF m 227 #[.val (.int p0), .val (.int p1), .val (.int p2), .val (.ref b58), .val (.int ((x118 + ((p2 &&& (2147483647 : Int32)) % (5 : Int32))) - (2 : Int32))), .val (.int (1 : Int32)), .unset] [(.int ((x118 + ((p2 &&& (2147483647 : Int32)) % (5 : Int32))) - (2 : Int32)))])) rfl (by rw [hml]; rfl) (argsL := [(.int ((x118 + ((p2 &&& (2147483647 : Int32)) % (5 : Int32))) - (2 : Int32)))]) (rest := []) (lenOf pd_1 rfl) rfl (by show 2 * 0 + _ ≤ _; exact Nat.le_of_eq rfl) (hb hby at_227) (fun _ _ => ⟨rfl, e120, (by decide : 1 + 0 ≤ _), (by decide : 29 + 0 ≤ _)⟩)
  dsimp only [Pt.U, Pt.locs, Pt.cells, Pt.slots] at X121 l121 y121 z121 st121 hQ121
  subst y121 z121
  obtain ⟨rfl, Nq121, e121⟩ := hQ121
  have N121 : Fr n0 L121 := by rw [l121]; exact Fr.app N120 Nq121
  refine Got.step st121 ?_
  show Got p e below s _ _ _ _ T121 (mkF m 230 #[.val (.int p0), .val (.int p1), .val (.int p2), .val (.ref b58), .val (.int ((x118 + ((p2 &&& (2147483647 : Int32)) % (5 : Int32))) - (2 : Int32))), .val (.int (1 : Int32)), .unset] [(.int (f1 ((x118 + ((p2 &&& (2147483647 : Int32)) % (5 : Int32))) - (2 : Int32))))])
  refine Got.step (T' := T121) (g' := (mkF m 232 #[.val (.int p0), .val (.int p1), .val (.int p2), .val (.ref b58), .val (.int ((x118 + ((p2 &&& (2147483647 : Int32)) % (5 : Int32))) - (2 : Int32))), .val (.int (1 : Int32)), .unset] [(.int ((x118 + ((p2 &&& (2147483647 : Int32)) % (5 : Int32))) - (2 : Int32))), (.int (f1 ((x118 + ((p2 &&& (2147483647 : Int32)) % (5 : Int32))) - (2 : Int32))))])) (fun tq kt => ?_) ?_
  · show Steps p.tables e below (T121.setTop (mkF m 230 #[.val (.int p0), .val (.int p1), .val (.int p2), .val (.ref b58), .val (.int ((x118 + ((p2 &&& (2147483647 : Int32)) % (5 : Int32))) - (2 : Int32))), .val (.int (1 : Int32)), .unset] [(.int (f1 ((x118 + ((p2 &&& (2147483647 : Int32)) % (5 : Int32))) - (2 : Int32))))])) _
    refine XS.iload X121.here hx rfl (hb hby at_230) rfl ?_
    exact kt
  obtain ⟨_, _, ⟨T122, L122, k122, n122⟩, -, X122, ⟨Lc122, hQ122, l122, y122, z122⟩, st122⟩ := Jvm.LawKit.callS X121 hx (y := (⟨"com/example/treegraft/treegraft/xml/XmlCharsIsNameStartCharPinLaw", "reference", "(I)Z"⟩ : MethodName)) hown (mvT hZ (hw _ (List.mem_of_getElem? (i := 13) rfl))) (mvT hZ (hw _ (List.mem_of_getElem? (i := 14) rfl))) (mvT hZ (hw _ (List.mem_of_getElem? (i := 15) rfl))) (mvT hZ (hw _ (List.mem_of_getElem? (i := 16) rfl))) (by decide) (backOf (W := 1) (rm2 l Z a0 hw [] ((x118 + ((p2 &&& (2147483647 : Int32)) % (5 : Int32))) - (2 : Int32)) h116 n0 Z0_117) hZ (hw _ (List.mem_of_getElem? (i := 16) rfl)) (hw _ (List.mem_of_getElem? (i := 15) rfl)) (by decide) (by decide)) (g := (mkF m 232 #[.val (.int p0), .val (.int p1), .val (.int p2), .val (.ref b58), .val (.int ((x118 + ((p2 &&& (2147483647 : Int32)) % (5 : Int32))) - (2 : Int32))), .val (.int (1 : Int32)), .unset] [(.int ((x118 + ((p2 &&& (2147483647 : Int32)) % (5 : Int32))) - (2 : Int32))), (.int (f1 ((x118 + ((p2 &&& (2147483647 : Int32)) % (5 : Int32))) - (2 : Int32))))])) rfl (by rw [hml]; rfl) (argsL := [(.int ((x118 + ((p2 &&& (2147483647 : Int32)) % (5 : Int32))) - (2 : Int32)))]) (rest := [(.int (f1 ((x118 + ((p2 &&& (2147483647 : Int32)) % (5 : Int32))) - (2 : Int32))))]) (lenOf pd_1 rfl) rfl (by show 2 * 0 + _ ≤ _; exact Nat.le_of_eq rfl) (hb hby at_232) (fun _ _ => ⟨rfl, e121, (by decide : 1 + 0 ≤ _), (by decide : 29 + 0 ≤ _)⟩)
  dsimp only [Pt.U, Pt.locs, Pt.cells, Pt.slots] at X122 l122 y122 z122 st122 hQ122
  subst y122 z122
  obtain ⟨rfl, Nq122, e122⟩ := hQ122
  have N122 : Fr n0 L122 := by rw [l122]; exact Fr.app N121 Nq122
  refine Got.step st122 ?_
  show Got p e below s _ _ _ _ T122 (mkF m 235 #[.val (.int p0), .val (.int p1), .val (.int p2), .val (.ref b58), .val (.int ((x118 + ((p2 &&& (2147483647 : Int32)) % (5 : Int32))) - (2 : Int32))), .val (.int (1 : Int32)), .unset] [(.int (f2 ((x118 + ((p2 &&& (2147483647 : Int32)) % (5 : Int32))) - (2 : Int32)))), (.int (f1 ((x118 + ((p2 &&& (2147483647 : Int32)) % (5 : Int32))) - (2 : Int32))))])
  refine Got.step (T' := T122) (g' := (mkF m 260 #[.val (.int p0), .val (.int p1), .val (.int p2), .val (.ref b58), .val (.int ((x118 + ((p2 &&& (2147483647 : Int32)) % (5 : Int32))) - (2 : Int32))), .val (.int (1 : Int32)), .val (.int (1 : Int32))] [(.int (1 : Int32))])) (fun tq kt => ?_) ?_
  · show Steps p.tables e below (T122.setTop (mkF m 235 #[.val (.int p0), .val (.int p1), .val (.int p2), .val (.ref b58), .val (.int ((x118 + ((p2 &&& (2147483647 : Int32)) % (5 : Int32))) - (2 : Int32))), .val (.int (1 : Int32)), .unset] [(.int (f2 ((x118 + ((p2 &&& (2147483647 : Int32)) % (5 : Int32))) - (2 : Int32)))), (.int (f1 ((x118 + ((p2 &&& (2147483647 : Int32)) % (5 : Int32))) - (2 : Int32))))])) _
    refine XS.icmpNo X122.here hx rfl (hb hby at_235) rfl (XT.ii_ne_f (same _)) ?_
    show Steps p.tables e below (T122.setTop (mkF m 238 #[.val (.int p0), .val (.int p1), .val (.int p2), .val (.ref b58), .val (.int ((x118 + ((p2 &&& (2147483647 : Int32)) % (5 : Int32))) - (2 : Int32))), .val (.int (1 : Int32)), .unset] [])) _
    refine XS.iconst X122.here hx rfl (hb hby at_238) ?_
    show Steps p.tables e below (T122.setTop (mkF m 239 #[.val (.int p0), .val (.int p1), .val (.int p2), .val (.ref b58), .val (.int ((x118 + ((p2 &&& (2147483647 : Int32)) % (5 : Int32))) - (2 : Int32))), .val (.int (1 : Int32)), .unset] [(.int (1 : Int32))])) _
    refine XS.goto X122.here hx rfl (pc0 := 239) (pc' := 243) rfl (hb hby at_239) (by decide) (by decide) ?_
    show Steps p.tables e below (T122.setTop (mkF m 243 #[.val (.int p0), .val (.int p1), .val (.int p2), .val (.ref b58), .val (.int ((x118 + ((p2 &&& (2147483647 : Int32)) % (5 : Int32))) - (2 : Int32))), .val (.int (1 : Int32)), .unset] [(.int (1 : Int32))])) _
    refine XS.istore X122.here hx rfl (hb hby at_243) rfl (l' := #[.val (.int p0), .val (.int p1), .val (.int p2), .val (.ref b58), .val (.int ((x118 + ((p2 &&& (2147483647 : Int32)) % (5 : Int32))) - (2 : Int32))), .val (.int (1 : Int32)), .val (.int (1 : Int32))]) rfl ?_
    show Steps p.tables e below (T122.setTop (mkF m 245 #[.val (.int p0), .val (.int p1), .val (.int p2), .val (.ref b58), .val (.int ((x118 + ((p2 &&& (2147483647 : Int32)) % (5 : Int32))) - (2 : Int32))), .val (.int (1 : Int32)), .val (.int (1 : Int32))] [])) _
    refine XS.iload X122.here hx rfl (hb hby at_245) rfl ?_
    show Steps p.tables e below (T122.setTop (mkF m 247 #[.val (.int p0), .val (.int p1), .val (.int p2), .val (.ref b58), .val (.int ((x118 + ((p2 &&& (2147483647 : Int32)) % (5 : Int32))) - (2 : Int32))), .val (.int (1 : Int32)), .val (.int (1 : Int32))] [(.int (1 : Int32))])) _
    refine XS.ifNo X122.here hx rfl (hb hby at_247) rfl (XT.i0_eq_f (by decide)) ?_
    show Steps p.tables e below (T122.setTop (mkF m 250 #[.val (.int p0), .val (.int p1), .val (.int p2), .val (.ref b58), .val (.int ((x118 + ((p2 &&& (2147483647 : Int32)) % (5 : Int32))) - (2 : Int32))), .val (.int (1 : Int32)), .val (.int (1 : Int32))] [])) _
    refine XS.iload X122.here hx rfl (hb hby at_250) rfl ?_
    show Steps p.tables e below (T122.setTop (mkF m 252 #[.val (.int p0), .val (.int p1), .val (.int p2), .val (.ref b58), .val (.int ((x118 + ((p2 &&& (2147483647 : Int32)) % (5 : Int32))) - (2 : Int32))), .val (.int (1 : Int32)), .val (.int (1 : Int32))] [(.int (1 : Int32))])) _
    refine XS.ifNo X122.here hx rfl (hb hby at_252) rfl (XT.i0_eq_f (by decide)) ?_
    show Steps p.tables e below (T122.setTop (mkF m 255 #[.val (.int p0), .val (.int p1), .val (.int p2), .val (.ref b58), .val (.int ((x118 + ((p2 &&& (2147483647 : Int32)) % (5 : Int32))) - (2 : Int32))), .val (.int (1 : Int32)), .val (.int (1 : Int32))] [])) _
    refine XS.iconst X122.here hx rfl (hb hby at_255) ?_
    show Steps p.tables e below (T122.setTop (mkF m 256 #[.val (.int p0), .val (.int p1), .val (.int p2), .val (.ref b58), .val (.int ((x118 + ((p2 &&& (2147483647 : Int32)) % (5 : Int32))) - (2 : Int32))), .val (.int (1 : Int32)), .val (.int (1 : Int32))] [(.int (1 : Int32))])) _
    refine XS.goto X122.here hx rfl (pc0 := 256) (pc' := 260) rfl (hb hby at_256) (by decide) (by decide) ?_
    exact kt
  exact Got.retN (y := (1 : Int32)) (t := .boolean) X122 hx Bd.returns (by simp) hlk (hb hby at_260) (by decide) N122 (by decide) (by decide)
set_option maxRecDepth 65536 in
set_option maxHeartbeats 40000000 in
theorem comes_1 {Post : Tables → Env → Array Value → State → Outcome → State → Prop} (hpost : ∀ tb e args s v u, (limb_1_1.after args s (.returned v) u = true ∧ limb_1_2.after args s (.returned v) u = true ∧ True) → FrameEnd s (.returned v) u (Jvm.fieldLocs frame_1_writes args s ++ Jvm.arrayLocs frame_1_arrays args s ++ Jvm.staticLocs frame_1_statics s) 16 128 → Post tb e args s (.returned v) u) :
    ArmFor flags0 classFile x code maxLocals ret World_1 tables_1 room_1 Calls_1 rest_1 Pre_1 Post := by
  intro l hfl _ _ p e ha hc hk s m args below hf hA hF happ hP
  obtain ⟨hcalls, hrest, hpre⟩ := hP
  obtain ⟨-, -, -, hnamed, -, -, -, hat⟩ := (Spec.applies_iff hf).mp happ
  obtain ⟨hg, hn⟩ := and_e (Cond.before_iff.mp (show (Jvm.Cond.and given_1 narrow_1).before args s = true from hpre))
  obtain ⟨h1, g0⟩ := and_e hg
  obtain ⟨c0, g1⟩ := and_e g0
  obtain ⟨c1, g2⟩ := and_e g1
  obtain ⟨w0, w1, w2, rfl⟩ : ∃ w0 w1 w2 : Value, args = #[w0, w1, w2] := by
    have hs : args.size = 3 := by simpa [Cond.value, given_1] using h1
    obtain ⟨L⟩ := args
    match L, hs with
    | [w0, w1, w2], _ => exact ⟨w0, w1, w2, rfl⟩
  have hw := fun d (hd : d ∈ tables_1) => atoms_spec (ws := Jvm.Cond.code x code maxLocals ret :: tables_1) hat d (List.mem_cons_of_mem _ hd)
  obtain ⟨i0, e0⟩ := is_v c0
  obtain rfl : w0 = (.int i0) := Option.some.inj e0
  obtain ⟨i1, e1⟩ := is_v c1
  obtain rfl : w1 = (.int i1) := Option.some.inj e1
  obtain ⟨i2, e2⟩ := is_v g2
  obtain rfl : w2 = (.int i2) := Option.some.inj e2
  obtain ⟨n, o, h1, h2, h3, vq, L, rfl, ⟨hv, N⟩, hq⟩ := rm0 l s _ hw tables_1 i0 i1 i2  s.heap s.heap.size (Nat.le_refl _)  p e ha hc hk s m _ below hf ((Spec.applies_iff_loose hf).mp happ).1 ⟨rfl, State.Warmed39.refl s, rfl⟩ trivial
  subst hv
  refine ⟨n, _, h1, h2, h3, hpost _ _ _ _ _ _ ⟨Cond.after_iff.mpr rfl, Cond.after_iff.mpr (eq_i res_at (Term.int_eval (1)) rfl), trivial⟩ ⟨hq.1, hq.2.1, (hq.2.2.sift fun y hy => Or.inr (N y hy)).mono (by decide) (by decide)⟩⟩
theorem main_1_1 : Claimed_1_1 := comes_1 fun _ _ _ _ _ _ h hF => ⟨h.1, hF⟩
theorem main_1_2 : Claimed_1_2 := comes_1 fun _ _ _ _ _ _ h hF => ⟨h.2.1, hF⟩
end Jvm.Pilot.@@N@@
namespace Jvm.Pilot.@@N@@
open Jvm Jvm.ClassFile Sem Op Lib Jvm.Free Jvm.Stand Jvm.Pilot.@@N@@.Jvm.D
/-! MADE BY PROGRAM (witnessworld.py) out of the Statement's table words and the real class files: 9 classes; the members and pool entries that the words name. The judged class is class 1, her method 3. -/
namespace start1
open Jvm.ClassFile
def u (s : String) : CpInfo := .utf8 (stringToUtf16 s)
/-- a pool by its gaps: so many unusable entries, then the entry; so many at the end -/
def gap : Nat → List CpInfo → List CpInfo
  | 0, r => r
  | n + 1, r => .unusable :: gap n r
def poolList (es : List (Nat × CpInfo)) (last : Nat) : List CpInfo := es.foldr (fun e r => gap e.1 (e.2 :: r)) (gap last [])
def pool (es : List (Nat × CpInfo)) (last : Nat) : Array CpInfo := ⟨poolList es last⟩
def fileOf (pool : Array CpInfo) (this : Nat) (attrs : Array Attribute := #[]) (ms : Array MethodInfo := #[]) (fl : Nat := 33) (sup : Nat := 0) (ifs : Array Nat := #[]) (fds : Array FieldInfo := #[]) : ClassFile where
  minorVersion := 0
  majorVersion := 65
  constantPool := pool
  accessFlags := fl
  thisClass := this
  superClass := sup
  interfaces := ifs
  fields := fds
  methods := ms
  attributes := attrs
def plain (name : String) (sup : Option ClassId) : Class where
  name := name
  kind := .ordinary
  loader := none
  accessFlags := 33
  super := sup
  interfaces := #[]
  cf := none
  fields := #[]
  methods := #[]
  instanceTypes := #[]
  staticTypes := #[]
  resolved := #[]
  callSites := []
  init := .initialized
  statics := none
  mirror := none

def pool0 : Array CpInfo := pool [(5, u "<init>"), (0, u "()V"), (1, .class_ 10), (1, u "java/lang/Object")] 113

def k0m0 : Method := { name := "<init>", desc := "()V", sig := { parameters := [], returnType := none }, accessFlags := 1, code := none }
/-- java/lang/Object -/
def k0 : Class := { plain "java/lang/Object" none with
  accessFlags := 33
  interfaces := #[]
  cf := some (fileOf pool0 8 #[] #[{ accessFlags := 1, nameIndex := 5, descriptorIndex := 6, attributes := #[] }] 33 0 #[] #[])
  fields := #[]
  methods := #[k0m0]
  instanceTypes := #[]
  staticTypes := #[]
  resolved := Array.replicate 124 none
  statics := none }

def pool1 : Array CpInfo := pool [(2, .class_ 4), (1, u "java/lang/Object"), (0, u "<init>"), (0, u "()V"), (0, .integer 983039), (0, .methodref 9 10), (0, .class_ 11), (0, .nameAndType 12 13), (0, u "com/example/treegraft/treegraft/xml/XmlCharsIsNameStartCharPinLaw"), (0, u "in"), (0, u "(III)Z"), (0, .integer 55296), (0, .integer 63743), (0, .integer 64976), (0, .integer 65007), (0, .integer 65534), (0, .integer 65535), (0, .integer 2147483647), (0, .methodref 22 23), (0, .class_ 24), (0, .nameAndType 25 26), (0, u "com/example/treegraft/treegraft/xml/XmlChars"), (0, u "isNameStartChar"), (0, u "(I)Z"), (0, .methodref 9 28), (0, .nameAndType 29 26), (0, u "reference"), (3, u "law")] 4

def k1m0 : Method := { name := "<init>", desc := "()V", sig := { parameters := [], returnType := none }, accessFlags := 2, code := none }
def k1c1 : Code := { maxStack := 2, maxLocals := 3, code := method_2_code, exceptionTable := #[], attributes := #[] }
def k1m1 : Method := { name := "in", desc := "(III)Z", sig := { parameters := [.int, .int, .int], returnType := some .boolean }, accessFlags := 10, code := some k1c1 }
def k1c2 : Code := { maxStack := 3, maxLocals := 2, code := method_3_code, exceptionTable := #[], attributes := #[] }
def k1m2 : Method := { name := "reference", desc := "(I)Z", sig := { parameters := [.int], returnType := some .boolean }, accessFlags := 10, code := some k1c2 }
def k1c3 : Code := { maxStack := 4, maxLocals := 7, code := code, exceptionTable := #[], attributes := #[] }
def k1m3 : Method := { name := "law", desc := "(III)Z", sig := { parameters := [.int, .int, .int], returnType := some .boolean }, accessFlags := 9, code := some k1c3 }
/-- com/example/treegraft/treegraft/xml/XmlCharsIsNameStartCharPinLaw -/
def k1 : Class := { plain "com/example/treegraft/treegraft/xml/XmlCharsIsNameStartCharPinLaw" (some 0) with
  accessFlags := 49
  interfaces := #[]
  cf := some (fileOf pool1 9 #[] #[{ accessFlags := 2, nameIndex := 5, descriptorIndex := 6, attributes := #[] }, { accessFlags := 10, nameIndex := 12, descriptorIndex := 13, attributes := #[] }, { accessFlags := 10, nameIndex := 29, descriptorIndex := 26, attributes := #[] }, { accessFlags := 9, nameIndex := 33, descriptorIndex := 13, attributes := #[] }] 49 2 #[] #[])
  fields := #[]
  methods := #[k1m0, k1m1, k1m2, k1m3]
  instanceTypes := #[]
  staticTypes := #[]
  resolved := Array.replicate 38 none
  statics := none }

def pool2 : Array CpInfo := pool [(2, .class_ 4), (1, u "java/lang/Object"), (0, u "<init>"), (0, u "()V"), (0, .integer 55295), (0, .integer 63744), (0, .integer 64975), (0, .integer 65008), (0, .integer 65533), (0, .integer 65536), (0, .integer 983039), (1, .class_ 17), (1, u "com/example/treegraft/treegraft/xml/XmlChars"), (0, u "isNameStartChar"), (0, u "(I)Z")] 87

def k2m0 : Method := { name := "<init>", desc := "()V", sig := { parameters := [], returnType := none }, accessFlags := 2, code := none }
def k2c1 : Code := { maxStack := 2, maxLocals := 1, code := prog_166_method_2_code, exceptionTable := #[], attributes := #[] }
def k2m1 : Method := { name := "isNameStartChar", desc := "(I)Z", sig := { parameters := [.int], returnType := some .boolean }, accessFlags := 9, code := some k2c1 }
/-- com/example/treegraft/treegraft/xml/XmlChars -/
def k2 : Class := { plain "com/example/treegraft/treegraft/xml/XmlChars" (some 0) with
  accessFlags := 49
  interfaces := #[]
  cf := some (fileOf pool2 15 #[] #[{ accessFlags := 2, nameIndex := 5, descriptorIndex := 6, attributes := #[] }, { accessFlags := 9, nameIndex := 18, descriptorIndex := 19, attributes := #[] }] 49 2 #[] #[])
  fields := #[]
  methods := #[k2m0, k2m1]
  instanceTypes := #[]
  staticTypes := #[]
  resolved := Array.replicate 107 none
  statics := none }

def pool3 : Array CpInfo := pool [(1, u "java/lang/Cloneable"), (0, .class_ 1), (0, u "java/lang/Object"), (0, .class_ 3)] 3

/-- java/lang/Cloneable -/
def k3 : Class := { plain "java/lang/Cloneable" (some 0) with
  accessFlags := 1537
  interfaces := #[]
  cf := some (fileOf pool3 2 #[] #[] 1537 4 #[] #[])
  fields := #[]
  methods := #[]
  instanceTypes := #[]
  staticTypes := #[]
  resolved := Array.replicate 8 none
  statics := none }

def pool4 : Array CpInfo := pool [(1, u "java/io/Serializable"), (0, .class_ 1), (0, u "java/lang/Object"), (0, .class_ 3)] 3

/-- java/io/Serializable -/
def k4 : Class := { plain "java/io/Serializable" (some 0) with
  accessFlags := 1537
  interfaces := #[]
  cf := some (fileOf pool4 2 #[] #[] 1537 4 #[] #[])
  fields := #[]
  methods := #[]
  instanceTypes := #[]
  staticTypes := #[]
  resolved := Array.replicate 8 none
  statics := none }

/-- the primitive byte -/
def k5 : Class := { plain "byte" none with kind := .primitive 'B', accessFlags := 0x411 }
/-- [B -/
def k6 : Class := { plain "[B" (some 0) with kind := .array 5 .byte, interfaces := #[3, 4], accessFlags := 1041 }

/-- the primitive int -/
def k7 : Class := { plain "int" none with kind := .primitive 'I', accessFlags := 0x411 }
/-- [I -/
def k8 : Class := { plain "[I" (some 0) with kind := .array 7 .int, interfaces := #[3, 4], accessFlags := 1041 }

def heap : Heap := #[]
def classes : Array Class := #[k0, k1, k2, k3, k4, k5, k6, k7, k8]
def interned : List (Array UInt16 × Addr) := []
def slotsUsed : Nat := 0
def theMethod : MethodId := ⟨1, 3⟩
def args0 : Array Value := #[.int 5, .int 3, .int 4]
def aboutOver (below : List Frame) : State where
  vm := { classes := classes, interned := interned.toArray }
  heap := heap
  slotsUsed := slotsUsed
  threads := #[{ frames := .invoking theMethod args0 :: below }]
def below0 : List Frame := [.native { method := ⟨0, 0⟩, args := #[] }]
def about1 : State := aboutOver below0
def p0 : Program := .bare "" "" ""
def e0 : Env := launch0.env 0 0 0
theorem w_frames : about1.frames = Frame.invoking theMethod args0 :: below0 := rfl
set_option maxRecDepth 65536 in
theorem w_args : argsFit about1.vm theMethod args0 = true := by decide +kernel
set_option maxRecDepth 65536 in
theorem w_heap : heapFits about1 = true := by decide +kernel
set_option maxRecDepth 65536 in
theorem w_runnable : about1.curStatus? = some .runnable := by decide +kernel
set_option maxRecDepth 65536 in
theorem w_alone : about1.alone = true := by decide +kernel
set_option maxRecDepth 65536 in
theorem w_named : about1.methodNamed? x = some theMethod := by decide +kernel
set_option maxRecDepth 65536 in
theorem w_hears : about1.hears theMethod below0 = true := by decide +kernel
set_option maxRecDepth 65536 in
theorem w_ripe : about1.ripe theMethod args0 below0 = true := by decide +kernel
theorem w_running : about1.status = .running := rfl
set_option maxRecDepth 65536 in
theorem w_room : about1.hasRoom e0.platform room_1 = true :=
  launch0.hasRoom_least _ room_1 (by decide +kernel) (by decide +kernel) (by decide +kernel) (by decide +kernel) (by decide +kernel) (by decide +kernel)
theorem allAtoms_all (ts : List Jvm.Cond) (a : Array Jvm.Value) (st : Jvm.State) : (allAtoms ts).before a st = ts.all (fun c => c.before a st) := by
  induction ts with
  | nil => rfl
  | cons c t ih =>
    show (Jvm.Cond.and c (allAtoms t)).before a st = _
    rw [Jvm.Cond.before_and, ih, List.all_cons]
def words1 : List Jvm.Cond := Jvm.Cond.code x code maxLocals ret :: tables_1
/-- a 'code' word, met by the world's own term for the bytes: nothing is compared byte by byte -/
theorem code_word {y : MethodName} {bytes : ByteArray} {mx : Nat} {rt : Option FieldType} {a : Array Value} {s : State} {m : MethodId} {meth : Method} {c : Code} (h1 : s.methodNamed? y = some m) (h2 : s.vm.method? m = some meth) (h3 : meth.code = some c) (h4 : c.code = bytes)
    (h5 : (c.maxLocals == mx && c.exceptionTable.isEmpty && decide (c.maxStack ≤ mostOperands) && decide (meth.sig.returnType = rt) && !meth.locks && decide (parseMethodDescriptor y.desc = some meth.sig)) = true) : (Jvm.Cond.code y bytes mx rt).before a s = true := by
  simp only [Bool.and_eq_true, beq_iff_eq, Bool.not_eq_true', decide_eq_true_eq] at h5
  obtain ⟨⟨⟨⟨⟨g1, g2⟩, g3⟩, g4⟩, g5⟩, g6⟩ := h5
  simp [Cond.before, Cond.holds, Cond.value, h1, h2, h3, h4, g1, g2, g3, g4, g5, g6]
def isCode : Jvm.Cond → Bool
  | .code _ _ _ _ => true
  | _ => false
theorem all_split {L : List Jvm.Cond} {P : Jvm.Cond → Bool} (h1 : L.all (fun c => isCode c || P c) = true) (h2 : ∀ c ∈ L.filter isCode, P c = true) : L.all P = true := by
  refine List.all_eq_true.mpr fun c hc => ?_
  have h := List.all_eq_true.mp h1 c hc
  rcases Bool.eq_false_or_eq_true (isCode c) with hi | hi
  · exact h2 c (List.mem_filter.mpr ⟨hc, hi⟩)
  · simpa [hi] using h
set_option maxRecDepth 65536 in
theorem w_c0 : (Jvm.Cond.code x code maxLocals ret).before args0 about1 = true := code_word (m := ⟨1, 3⟩) (meth := k1m3) (c := k1c3) (by decide +kernel) rfl rfl rfl (by decide +kernel)
set_option maxRecDepth 65536 in
theorem w_c1 : (Jvm.Cond.code ({ cls := "com/example/treegraft/treegraft/xml/XmlChars", name := "isNameStartChar", desc := "(I)Z" } : Jvm.MethodName) prog_166_method_2_code (1 : Nat) (Option.some Jvm.ClassFile.FieldType.boolean)).before args0 about1 = true := code_word (m := ⟨2, 1⟩) (meth := k2m1) (c := k2c1) (by decide +kernel) rfl rfl rfl (by decide +kernel)
set_option maxRecDepth 65536 in
theorem w_c2 : (Jvm.Cond.code ({ cls := "com/example/treegraft/treegraft/xml/XmlCharsIsNameStartCharPinLaw", name := "reference", desc := "(I)Z" } : Jvm.MethodName) method_3_code (2 : Nat) (Option.some Jvm.ClassFile.FieldType.boolean)).before args0 about1 = true := code_word (m := ⟨1, 2⟩) (meth := k1m2) (c := k1c2) (by decide +kernel) rfl rfl rfl (by decide +kernel)
set_option maxRecDepth 65536 in
theorem w_c3 : (Jvm.Cond.code ({ cls := "com/example/treegraft/treegraft/xml/XmlCharsIsNameStartCharPinLaw", name := "in", desc := "(III)Z" } : Jvm.MethodName) method_2_code (3 : Nat) (Option.some Jvm.ClassFile.FieldType.boolean)).before args0 about1 = true := code_word (m := ⟨1, 1⟩) (meth := k1m1) (c := k1c1) (by decide +kernel) rfl rfl rfl (by decide +kernel)
def codes1 : List Jvm.Cond := [Jvm.Cond.code x code maxLocals ret, Jvm.Cond.code ({ cls := "com/example/treegraft/treegraft/xml/XmlChars", name := "isNameStartChar", desc := "(I)Z" } : Jvm.MethodName) prog_166_method_2_code (1 : Nat) (Option.some Jvm.ClassFile.FieldType.boolean), Jvm.Cond.code ({ cls := "com/example/treegraft/treegraft/xml/XmlCharsIsNameStartCharPinLaw", name := "reference", desc := "(I)Z" } : Jvm.MethodName) method_3_code (2 : Nat) (Option.some Jvm.ClassFile.FieldType.boolean), Jvm.Cond.code ({ cls := "com/example/treegraft/treegraft/xml/XmlCharsIsNameStartCharPinLaw", name := "in", desc := "(III)Z" } : Jvm.MethodName) method_2_code (3 : Nat) (Option.some Jvm.ClassFile.FieldType.boolean)]
set_option maxRecDepth 65536 in
theorem codes_eq : words1.filter isCode = codes1 := rfl
theorem w_codes : ∀ c ∈ words1.filter isCode, c.before args0 about1 = true := by
  rw [codes_eq]
  intro c hc
  simp only [codes1, List.mem_cons, List.not_mem_nil, or_false] at hc
  rcases hc with rfl | rfl | rfl | rfl
  · exact w_c0
  · exact w_c1
  · exact w_c2
  · exact w_c3
set_option maxRecDepth 65536 in
theorem w_t1 : (words1.take 24).all (fun c => isCode c || c.before args0 about1) = true := by decide +kernel
set_option maxRecDepth 65536 in
theorem w_t2 : (words1.drop 24).all (fun c => isCode c || c.before args0 about1) = true := by decide +kernel
theorem w_tables : (allAtoms (Jvm.Cond.code x code maxLocals ret :: tables_1)).before args0 about1 = true := by
  rw [allAtoms_all]
  show words1.all (fun c => c.before args0 about1) = true
  refine all_split ?_ w_codes
  rw [← List.take_append_drop 24 words1, List.all_append, w_t1, w_t2]
  rfl
set_option maxRecDepth 65536 in
theorem w_case : (Jvm.Cond.and given_1 narrow_1).before args0 about1 = true := by decide +kernel
theorem w_applies : (headSpec (Jvm.Cond.code x code maxLocals ret :: tables_1) room_1).applies x e0.platform about1 = true :=
  (Spec.applies_iff w_frames).mpr ⟨w_running, w_runnable, w_alone, w_named, w_hears, w_ripe, w_room, w_tables⟩
theorem atStart : AtStart classFile x code maxLocals ret World_1 tables_1 room_1 Calls_1 rest_1 Pre_1 launch0 p0 e0 about1 theMethod args0 below0 :=
  ⟨lists_1, trivial, launch0.admits_env _ _ _, launch0.least_env, fairChoices_fair.cas, fairChoices_fair.clock, w_frames, w_args, w_heap, w_applies, trivial, trivial, w_case⟩
end start1
theorem witness_1 : WitnessClaimed_1 := ⟨start1.p0, start1.e0, start1.about1, start1.theMethod, start1.args0, start1.below0, start1.atStart⟩
end Jvm.Pilot.@@N@@
