import JvmDerived
import JvmDerived.Pilot.@@N@@Statement
import JvmDerived.Pilot.@@N@@Code
set_option linter.unusedVariables false
set_option linter.unusedSimpArgs false
namespace Jvm.OwnKit
open Sem ClassFile Op Lib Jvm.Stand Jvm.Free Jvm.LawKit Jvm.RoadKit
section New
variable {p : Program} {l : Launch} {e : Env} {R : Room} {s : State} {m : MethodId} {args : Array Value} {below : List Frame} {meth : Method} {c : Code} {T T' : State} {locs : List Loc} {cells slots : Nat} {g g' : JFrame} {F : Outcome → State → Prop}
/-- from here the body runs to its end, and F says what is there -/
def Go (p : Program) (e : Env) (below : List Frame) (T : State) (g : JFrame) (F : Outcome → State → Prop) : Prop :=
  ∃ s₂ o, Steps p.tables e below (T.setTop g) s₂ ∧ s₂.status = .running ∧ Ended s₂ below o ∧ F o s₂
theorem Go.step (st : ∀ t, Steps p.tables e below (T'.setTop g') t → Steps p.tables e below (T.setTop g) t) (k : Go p e below T' g' F) : Go p e below T g F := by
  obtain ⟨a, o, h1, h2⟩ := k
  exact ⟨a, o, st _ h1, h2⟩
theorem Go.call (st : Steps p.tables e below (T.setTop g) (T'.setTop g')) (k : Go p e below T' g' F) : Go p e below T g F := by
  obtain ⟨a, o, h1, h2⟩ := k
  exact ⟨a, o, st.trans h1, h2⟩
abbrev Fin (s : State) (Q : Option Value → Heap → List Loc → Prop) (C S : Nat) : Outcome → State → Prop := fun o U' => ∃ v L, o = .returned v ∧ Q v U'.heap L ∧ FrameEnd s o U' L C S
variable {Q : Option Value → Heap → List Loc → Prop} {C S : Nat}
theorem Go.ret0 (X : Stand p l e R s m args below meth c T locs cells slots) (hx : p.tables.exec = Jvm.exec) {pc : Nat} {Ls : Array Slot} (hret : meth.sig.returnType = none) (hlk : meth.locks = false) (hd : decode c.code pc = .ok (.return_, 1))
    (hQ : Q none T.heap locs) (h1 : cells ≤ C) (h2 : slots ≤ S) : Go p e below T (mkF m pc Ls []) (Fin s Q C S) := by
  obtain ⟨fs, hr, hrun, hended, hW, hsame⟩ := X.leave (v := none) (fun _ => rfl) hlk
  exact ⟨_, _, X.returnOut hx hret hd hr, hrun, hended, _, _, rfl, hQ, ⟨_, rfl⟩, hW, hsame.mono h1 h2⟩
theorem Go.retI (X : Stand p l e R s m args below meth c T locs cells slots) (hx : p.tables.exec = Jvm.exec) {pc : Nat} {Ls : Array Slot} {z : Int32} {rest : List Value} (hret : meth.sig.returnType = some .int) (hlk : meth.locks = false) (hd : decode c.code pc = .ok (.ireturn, 1))
    (hQ : Q (some (.int z)) T.heap locs) (h1 : cells ≤ C) (h2 : slots ≤ S) : Go p e below T (mkF m pc Ls (.int z :: rest)) (Fin s Q C S) := by
  obtain ⟨fs, hr, hrun, hended, hW, hsame⟩ := X.leave (v := some (.int z)) (fun h => by rw [hret] at h; cases h) hlk
  exact ⟨_, _, retOut X hx hret rfl (Or.inl ⟨rfl, Or.inl rfl, _, rfl⟩) hd hr, hrun, hended, _, _, rfl, hQ, ⟨_, rfl⟩, hW, hsame.mono h1 h2⟩
theorem Go.retL (X : Stand p l e R s m args below meth c T locs cells slots) (hx : p.tables.exec = Jvm.exec) {pc : Nat} {Ls : Array Slot} {z : Int64} {rest : List Value} (hret : meth.sig.returnType = some .long) (hlk : meth.locks = false) (hd : decode c.code pc = .ok (.lreturn, 1))
    (hQ : Q (some (.long z)) T.heap locs) (h1 : cells ≤ C) (h2 : slots ≤ S) : Go p e below T (mkF m pc Ls (.long z :: rest)) (Fin s Q C S) := by
  obtain ⟨fs, hr, hrun, hended, hW, hsame⟩ := X.leave (v := some (.long z)) (fun h => by rw [hret] at h; cases h) hlk
  exact ⟨_, _, retOut X hx hret rfl (Or.inr (Or.inl ⟨rfl, rfl, _, rfl⟩)) hd hr, hrun, hended, _, _, rfl, hQ, ⟨_, rfl⟩, hW, hsame.mono h1 h2⟩
theorem Go.retA (X : Stand p l e R s m args below meth c T locs cells slots) (hx : p.tables.exec = Jvm.exec) {pc : Nat} {Ls : Array Slot} {w : Value} {t : FieldType} {rest : List Value} (hret : meth.sig.returnType = some t) (ht : t.isReference = true) (hv : w.isRef = true) (hlk : meth.locks = false) (hd : decode c.code pc = .ok (.areturn, 1))
    (hQ : Q (some w) T.heap locs) (h1 : cells ≤ C) (h2 : slots ≤ S) : Go p e below T (mkF m pc Ls (w :: rest)) (Fin s Q C S) := by
  obtain ⟨fs, hr, hrun, hended, hW, hsame⟩ := X.leave (v := some w) (fun h => by rw [hret] at h; cases h) hlk
  have hn : narrow t w = w := by cases w <;> cases t <;> simp_all [narrow, Value.isRef, FieldType.isReference]
  exact ⟨_, _, retOut X hx hret hn (Or.inr (Or.inr (Or.inr (Or.inr ⟨rfl, ht, hv⟩)))) hd hr, hrun, hended, _, _, rfl, hQ, ⟨_, rfl⟩, hW, hsame.mono h1 h2⟩
theorem Go.retN {t : FieldType} (X : Stand p l e R s m args below meth c T locs cells slots) (hx : p.tables.exec = Jvm.exec) {pc : Nat} {Ls : Array Slot} {z z' : Int32} {rest : List Value} (hret : meth.sig.returnType = some t) (ht : t = .boolean ∨ t = .byte ∨ t = .char ∨ t = .short) (hlk : meth.locks = false) (hd : decode c.code pc = .ok (.ireturn, 1))
    (hz : nar t z = z') (hQ : Q (some (.int z')) T.heap locs) (h1 : cells ≤ C) (h2 : slots ≤ S) : Go p e below T (mkF m pc Ls (.int z :: rest)) (Fin s Q C S) := by
  subst hz
  obtain ⟨fs, hr, hrun, hended, hW, hsame⟩ := X.leave (v := some (.int (nar t z))) (fun h => by rw [hret] at h; cases h) hlk
  exact ⟨_, _, Jvm.RoadKit.retN X hx hret ht hd hr, hrun, hended, _, _, rfl, hQ, ⟨_, rfl⟩, hW, hsame.mono h1 h2⟩
theorem own_fitsRef {t : FieldType} {v : Value} (ht : t.isReference = true) (h : v.isRef = true) : fits t v = true := by cases t <;> cases v <;> simp_all [fits, Value.isRef, FieldType.isReference]
theorem own_narrowRef {t : FieldType} {v : Value} (ht : t.isReference = true) (h : v.isRef = true) : narrow t v = v := by cases v <;> cases t <;> simp_all [narrow, Value.isRef, FieldType.isReference]
theorem own_staKeep {Z : State} {h h' : Heap} {C n d : String} {v : Value} {ws : List Addr} (F : Sta Z h C n d v) (K : Keep h h' ws) (q : ∀ x ∈ ws, ∀ cell : Cell, h[x]? = some cell → cell.vm.isStatics = false) : Sta Z h' C n d v := by
  obtain ⟨cf, i, k, f, st, cell, h1, h2, h3, h4, h5, h6, h7⟩ := F
  exact ⟨cf, i, k, f, st, cell, h1, h2, h3, h4, K.2.1 st cell h5 (fun m => by rw [q st m cell h5] at h6; cases h6), h6, h7⟩
theorem own_arrKeep {Z : State} {h h' : Heap} {a : Addr} {cl : Cell} {ty : FieldType} {ws : List Addr} (F : Arr Z h a cl ty) (K : Keep h h' ws) (q : a ∉ ws) : Arr Z h' a cl ty := ⟨K.2.1 a cl F.1 q, F.2⟩
theorem own_plainE {Z : State} {h : Heap} {a : Addr} {C : String} (E : Exa Z h a C) : ∀ cell : Cell, h[a]? = some cell → cell.vm.isStatics = false := fun cell hc => by
  obtain ⟨c2, k, h1, -, -, h4, -⟩ := E
  cases hc.symm.trans h1
  exact h4
theorem own_plainV {Z : State} {h : Heap} {a : Addr} {k : ClassId} {ty : FieldType} {z : Int32} {vs : List Value} {dv : Value} (V : Arv Z h a k ty z vs dv) : ∀ cell : Cell, h[a]? = some cell → cell.vm.isStatics = false := fun cell hc => by
  obtain ⟨c2, A, -⟩ := V
  cases hc.symm.trans A.1
  exact A.plain
end New
end Jvm.OwnKit

namespace Jvm.OwnKit
open Sem ClassFile Op Lib Jvm.Stand Jvm.Free Jvm.LawKit Jvm.RoadKit
theorem own_fldI {args : Array Value} {Z : State} {t : Term} {a : Addr} {C n d : String} {k : Int32} (ev : t.eval args Z none [] Z = some (.ref a)) (h : (Cond.eq (Term.field t C n d) (Term.int k)).value args Z none Z [] = some true) : Fld Z Z.heap a C n d (.int k) := by
  obtain ⟨x, y, e1, e2, k1, k2⟩ := cmp_v (Or.inl h)
  rw [Term.int_eval] at e2
  cases e2
  obtain ⟨z, rfl⟩ := k2
  have e3 := e1
  rw [fld_at ev] at e3
  have q : z = k := by simpa [Cond.value, e1, Term.int_eval] using h
  subst q
  exact Fld.start e3

end Jvm.OwnKit

namespace Jvm.OwnKit
open Jvm.RoadKit Jvm.Free
theorem own_win (q : Int64) : ¬ lcmpW ((1 : Int64) + ((q &&& (9223372036854775807 : Int64)) - ((q &&& (9223372036854775807 : Int64)) / (3153600000 : Int64)) * (3153600000 : Int64))) (1 : Int64) < (0 : Int32) ∧ ¬ (0 : Int32) < lcmpW ((1 : Int64) + ((q &&& (9223372036854775807 : Int64)) - ((q &&& (9223372036854775807 : Int64)) / (3153600000 : Int64)) * (3153600000 : Int64))) (3153600000 : Int64) := by
  have h1 := c_maskL q 9223372036854775807 63 (by decide) (by decide)
  have h0 : 0 ≤ (q &&& (9223372036854775807 : Int64)).toInt := by rw [h1]; omega
  have h2 := (c_lrem (q &&& (9223372036854775807 : Int64)) 3153600000 3153600000 (by decide)).1 h0
  generalize (q &&& (9223372036854775807 : Int64)) - ((q &&& (9223372036854775807 : Int64)) / (3153600000 : Int64)) * (3153600000 : Int64) = r at h2 ⊢
  have h3 := c_ladd 1 r
  have h4 : (1 : Int64).toInt = 1 := by decide
  have h5 := rng64 (1 + r)
  have h6 : (3153600000 : Int64).toInt = 3153600000 := by decide
  rw [lw_lt, lw_gt, Int64.lt_iff_toInt_lt, Int64.lt_iff_toInt_lt, h4, h6]
  rw [h4] at h3
  omega
theorem own_pre (q : Int32) : ¬ ((1 : Int32) + ((q &&& (2147483647 : Int32)) % (128 : Int32))) < (1 : Int32) ∧ ¬ (128 : Int32) < ((1 : Int32) + ((q &&& (2147483647 : Int32)) % (128 : Int32))) := by
  have h1 := c_and q 2147483647 (by decide)
  have h2 := (c_irem (q &&& 2147483647) 128 128 (by decide)).1 h1.1
  have h3 := c_iadd 1 ((q &&& 2147483647) % 128)
  have h4 : (1 : Int32).toInt = 1 := by decide
  have h5 := rng32 (1 + (q &&& 2147483647) % 128)
  have h6 : (128 : Int32).toInt = 128 := by decide
  rw [Int32.lt_iff_toInt_lt, Int32.lt_iff_toInt_lt, h4, h6]
  rw [h4] at h3
  omega
theorem own_fail (x : Int32) : ¬ (((x.toUInt32 >>> ((1 : Int32) &&& 31).toUInt32).toInt32) % (1001 : Int32)) < (0 : Int32) ∧ ¬ (1000 : Int32) < (((x.toUInt32 >>> ((1 : Int32) &&& 31).toUInt32).toInt32) % (1001 : Int32)) := by
  have h1 := c_iushr x 1 1 (by decide) (by decide)
  have h0 : 0 ≤ ((x.toUInt32 >>> ((1 : Int32) &&& 31).toUInt32).toInt32).toInt := by rw [h1]; omega
  have h2 := (c_irem ((x.toUInt32 >>> ((1 : Int32) &&& 31).toUInt32).toInt32) 1001 1001 (by decide)).1 h0
  have h4 : (0 : Int32).toInt = 0 := by decide
  have h6 : (1000 : Int32).toInt = 1000 := by decide
  rw [Int32.lt_iff_toInt_lt, Int32.lt_iff_toInt_lt, h4, h6]
  omega
end Jvm.OwnKit
namespace Jvm.Pilot.@@N@@
open Jvm Jvm.ClassFile Sem Op Lib Jvm.Free Jvm.Stand Jvm.LawKit Jvm.RoadKit Jvm.OwnKit Bundle Jvm.Pilot.@@N@@.Jvm.D
theorem d2_0 : decode jdk_30_method_1_code 0 = .ok (.aload_n 0, 1) := by decide +kernel
theorem d2_1 : decode jdk_30_method_1_code 1 = .ok (.invokespecial 1, 3) := by decide +kernel
theorem d2_4 : decode jdk_30_method_1_code 4 = .ok (.return_, 1) := by decide +kernel
theorem pn_0 : plainName "java/lang/Record" = true := by first | (simp [plainName, overriddenIn]; done) | decide +kernel
theorem ef_rm2 (m : MethodId) (x0 : Addr) : entryFrame m #[(.ref x0)] 1 = mkF m 0 #[.val (.ref x0)] [] := by first | rfl | (simp [entryFrame, mkF, argsToLocals, Value.category]; done)
def Q2 (Z : State) (a1 : Addr) (h0 : Heap) (n0 : Nat) (v : Option Value) (h : Heap) (L : List Loc) : Prop := v = none ∧ Fr n0 L ∧ h = h0
set_option maxRecDepth 65536 in
set_option maxHeartbeats 40000000 in
theorem rm2 (l : Launch) (Z : State) (a0 : Array Value) (hw : ∀ d ∈ tables_1, d.before a0 Z = true) (ws : List Jvm.Cond) (a1 : Addr) (h0 : Heap) (n0 : Nat) (Z0 : n0 ≤ h0.size)  :
    MetFree l (⟨"java/lang/Record", "<init>", "()V"⟩ : MethodName) (head1 (Jvm.Cond.code (⟨"java/lang/Record", "<init>", "()V"⟩ : MethodName) jdk_30_method_1_code 1 none :: ws) ({ frames := 1, cells := 0, slots := 0, locals := 12 } : Room)) (fun a U => a = #[(.ref a1)] ∧ Z.Warmed39 U.vm ∧ U.heap = h0) (fun _ _ _ _ _ => True) (fun _ U o U' => ∃ v L, o = .returned v ∧ Q2 Z a1 h0 n0 v U'.heap L ∧ FrameEnd U o U' L ({ frames := 1, cells := 0, slots := 0, locals := 12 } : Room).cells ({ frames := 1, cells := 0, slots := 0, locals := 12 } : Room).slots) := by
  refine MetFree.of_bodySF (plainFor_of_name pn_0) hisR ?_
  intro p e s m args below meth c s₁ Bd hml0 hP hK
  obtain ⟨rfl, hZ, hh⟩ := hP
  have hx := Bd.exec
  have hby := Bd.bytes
  have hml : c.maxLocals = 1 := hml0
  have hown : s.vm.findClass "java/lang/Record" = some m.cls := findClass_of_methodNamed Bd.named
  have hnm := (name_of_methodNamed Bd.named Bd.method).1
  have hlk : meth.locks = false := Bd.notSynchronized
  have hret := Bd.returns
  have X0 : Stand p l e ({ frames := 1, cells := 0, slots := 0, locals := 12 } : Room) s m #[(.ref a1)] below meth c s₁ [] 0 0 := Stand.of_body Bd
  have e0 : s₁.heap = h0 := by rw [← hh, Bd.state]; rfl
  have N0 := Fr.nil n0
  show Go p e below s₁ (entryFrame m #[(.ref a1)] 1) (Fin s (Q2 Z a1 h0 n0) ({ frames := 1, cells := 0, slots := 0, locals := 12 } : Room).cells ({ frames := 1, cells := 0, slots := 0, locals := 12 } : Room).slots)
  rw [ef_rm2]
  show Go p e below s₁ (mkF m 0 #[.val (.ref a1)] []) _
  refine Go.step (fun _ => XS.aloadN X0.here hx rfl (hb hby d2_0) rfl rfl ) ?_
  show Go p e below s₁ (mkF m 1 #[.val (.ref a1)] [(.ref a1)]) _
  obtain ⟨T1, X1, e1, st1⟩ := initO X0 hx hZ hown (hw _ (List.mem_of_getElem? (i := 14) rfl)) (hw _ (List.mem_of_getElem? (i := 15) rfl)) (hw _ (List.mem_of_getElem? (i := 16) rfl)) e0 (g := (mkF m 1 #[.val (.ref a1)] [(.ref a1)])) rfl (by rw [hml]; rfl) rfl (hb hby d2_1) (by decide) (W := 0) (by show 2 * 0 + _ ≤ _; exact Nat.le_of_eq rfl) (by decide)
  refine Go.step st1 ?_
  show Go p e below T1 (mkF m 4 #[.val (.ref a1)] []) _
  refine Go.ret0 X1 hx hret hlk (hb hby d2_4) ?_ (by decide) (by decide)
  exact ⟨rfl, N0, e1⟩
theorem d1_0 : decode prog_62_method_1_code 0 = .ok (.aload_n 0, 1) := by decide +kernel
theorem d1_1 : decode prog_62_method_1_code 1 = .ok (.invokespecial 3, 3) := by decide +kernel
theorem d1_4 : decode prog_62_method_1_code 4 = .ok (.iload_n 1, 1) := by decide +kernel
theorem d1_5 : decode prog_62_method_1_code 5 = .ok (.ifCond .lt 10, 3) := by decide +kernel
theorem d1_8 : decode prog_62_method_1_code 8 = .ok (.iload_n 1, 1) := by decide +kernel
theorem d1_9 : decode prog_62_method_1_code 9 = .ok (.sipush 1000, 3) := by decide +kernel
theorem d1_12 : decode prog_62_method_1_code 12 = .ok (.if_icmp .le 13, 3) := by decide +kernel
theorem d1_15 : decode prog_62_method_1_code 15 = .ok (.new 11, 3) := by decide +kernel
theorem d1_18 : decode prog_62_method_1_code 18 = .ok (.dup, 1) := by decide +kernel
theorem d1_19 : decode prog_62_method_1_code 19 = .ok (.ldc 13, 2) := by decide +kernel
theorem d1_21 : decode prog_62_method_1_code 21 = .ok (.invokespecial 15, 3) := by decide +kernel
theorem d1_24 : decode prog_62_method_1_code 24 = .ok (.athrow, 1) := by decide +kernel
theorem d1_25 : decode prog_62_method_1_code 25 = .ok (.lload_n 2, 1) := by decide +kernel
theorem d1_26 : decode prog_62_method_1_code 26 = .ok (.lconst 1, 1) := by decide +kernel
theorem d1_27 : decode prog_62_method_1_code 27 = .ok (.lcmp, 1) := by decide +kernel
theorem d1_28 : decode prog_62_method_1_code 28 = .ok (.ifCond .lt 11, 3) := by decide +kernel
theorem d1_31 : decode prog_62_method_1_code 31 = .ok (.lload_n 2, 1) := by decide +kernel
theorem d1_32 : decode prog_62_method_1_code 32 = .ok (.ldc2_w 18, 3) := by decide +kernel
theorem d1_35 : decode prog_62_method_1_code 35 = .ok (.lcmp, 1) := by decide +kernel
theorem d1_36 : decode prog_62_method_1_code 36 = .ok (.ifCond .le 13, 3) := by decide +kernel
theorem d1_39 : decode prog_62_method_1_code 39 = .ok (.new 11, 3) := by decide +kernel
theorem d1_42 : decode prog_62_method_1_code 42 = .ok (.dup, 1) := by decide +kernel
theorem d1_43 : decode prog_62_method_1_code 43 = .ok (.ldc 20, 2) := by decide +kernel
theorem d1_45 : decode prog_62_method_1_code 45 = .ok (.invokespecial 15, 3) := by decide +kernel
theorem d1_48 : decode prog_62_method_1_code 48 = .ok (.athrow, 1) := by decide +kernel
theorem d1_49 : decode prog_62_method_1_code 49 = .ok (.lload 4, 2) := by decide +kernel
theorem d1_51 : decode prog_62_method_1_code 51 = .ok (.lconst 1, 1) := by decide +kernel
theorem d1_52 : decode prog_62_method_1_code 52 = .ok (.lcmp, 1) := by decide +kernel
theorem d1_53 : decode prog_62_method_1_code 53 = .ok (.ifCond .lt 12, 3) := by decide +kernel
theorem d1_56 : decode prog_62_method_1_code 56 = .ok (.lload 4, 2) := by decide +kernel
theorem d1_58 : decode prog_62_method_1_code 58 = .ok (.ldc2_w 18, 3) := by decide +kernel
theorem d1_61 : decode prog_62_method_1_code 61 = .ok (.lcmp, 1) := by decide +kernel
theorem d1_62 : decode prog_62_method_1_code 62 = .ok (.ifCond .le 13, 3) := by decide +kernel
theorem d1_65 : decode prog_62_method_1_code 65 = .ok (.new 11, 3) := by decide +kernel
theorem d1_68 : decode prog_62_method_1_code 68 = .ok (.dup, 1) := by decide +kernel
theorem d1_69 : decode prog_62_method_1_code 69 = .ok (.ldc 22, 2) := by decide +kernel
theorem d1_71 : decode prog_62_method_1_code 71 = .ok (.invokespecial 15, 3) := by decide +kernel
theorem d1_74 : decode prog_62_method_1_code 74 = .ok (.athrow, 1) := by decide +kernel
theorem d1_75 : decode prog_62_method_1_code 75 = .ok (.iload 6, 2) := by decide +kernel
theorem d1_77 : decode prog_62_method_1_code 77 = .ok (.iconst 1, 1) := by decide +kernel
theorem d1_78 : decode prog_62_method_1_code 78 = .ok (.if_icmp .lt 11, 3) := by decide +kernel
theorem d1_81 : decode prog_62_method_1_code 81 = .ok (.iload 6, 2) := by decide +kernel
theorem d1_83 : decode prog_62_method_1_code 83 = .ok (.sipush 128, 3) := by decide +kernel
theorem d1_86 : decode prog_62_method_1_code 86 = .ok (.if_icmp .le 13, 3) := by decide +kernel
theorem d1_89 : decode prog_62_method_1_code 89 = .ok (.new 11, 3) := by decide +kernel
theorem d1_92 : decode prog_62_method_1_code 92 = .ok (.dup, 1) := by decide +kernel
theorem d1_93 : decode prog_62_method_1_code 93 = .ok (.ldc 24, 2) := by decide +kernel
theorem d1_95 : decode prog_62_method_1_code 95 = .ok (.invokespecial 15, 3) := by decide +kernel
theorem d1_98 : decode prog_62_method_1_code 98 = .ok (.athrow, 1) := by decide +kernel
theorem d1_99 : decode prog_62_method_1_code 99 = .ok (.aload_n 0, 1) := by decide +kernel
theorem d1_100 : decode prog_62_method_1_code 100 = .ok (.iload_n 1, 1) := by decide +kernel
theorem d1_101 : decode prog_62_method_1_code 101 = .ok (.putfield 26, 3) := by decide +kernel
theorem d1_104 : decode prog_62_method_1_code 104 = .ok (.aload_n 0, 1) := by decide +kernel
theorem d1_105 : decode prog_62_method_1_code 105 = .ok (.lload_n 2, 1) := by decide +kernel
theorem d1_106 : decode prog_62_method_1_code 106 = .ok (.putfield 30, 3) := by decide +kernel
theorem d1_109 : decode prog_62_method_1_code 109 = .ok (.aload_n 0, 1) := by decide +kernel
theorem d1_110 : decode prog_62_method_1_code 110 = .ok (.lload 4, 2) := by decide +kernel
theorem d1_112 : decode prog_62_method_1_code 112 = .ok (.putfield 34, 3) := by decide +kernel
theorem d1_115 : decode prog_62_method_1_code 115 = .ok (.aload_n 0, 1) := by decide +kernel
theorem d1_116 : decode prog_62_method_1_code 116 = .ok (.iload 6, 2) := by decide +kernel
theorem d1_118 : decode prog_62_method_1_code 118 = .ok (.putfield 37, 3) := by decide +kernel
theorem d1_121 : decode prog_62_method_1_code 121 = .ok (.return_, 1) := by decide +kernel
theorem pn_1 : plainName "com/example/rekey/rekey/server/LockoutPolicy" = true := by first | (simp [plainName, overriddenIn]; done) | decide +kernel
theorem pd_0 : parseMethodDescriptor "()V" = some ⟨[], none⟩ := by decide +kernel
theorem ef_rm1 (m : MethodId) (x0 : Addr) (x1 : Int32) (x2 : Int64) (x3 : Int64) (x4 : Int32) : entryFrame m #[(.ref x0), (.int x1), (.long x2), (.long x3), (.int x4)] 7 = mkF m 0 #[.val (.ref x0), .val (.int x1), .val (.long x2), .second, .val (.long x3), .second, .val (.int x4)] [] := by first | rfl | (simp [entryFrame, mkF, argsToLocals, Value.category]; done)
def Q1 (Z : State) (a1 : Addr) (p1 : Int32) (q2 q3 : Int64) (p4 : Int32) (h0 : Heap) (n0 : Nat) (v : Option Value) (h : Heap) (L : List Loc) : Prop := v = none ∧ Fr n0 L ∧ Keep h0 h [a1] ∧ Exa Z h a1 "com/example/rekey/rekey/server/LockoutPolicy" ∧ Fld Z h a1 "com/example/rekey/rekey/server/LockoutPolicy" "failures" "I" (.int p1)
set_option maxRecDepth 65536 in
set_option maxHeartbeats 40000000 in
theorem rm1 (l : Launch) (Z : State) (a0 : Array Value) (hw : ∀ d ∈ tables_1, d.before a0 Z = true) (ws : List Jvm.Cond) (a1 : Addr) (p1 : Int32) (q2 q3 : Int64) (p4 : Int32) (h0 : Heap) (n0 : Nat) (Z0 : n0 ≤ h0.size) (E1 : Exa Z h0 a1 "com/example/rekey/rekey/server/LockoutPolicy") (F_failures : Fld Z h0 a1 "com/example/rekey/rekey/server/LockoutPolicy" "failures" "I" (.int (0 : Int32))) (F_windowSecs : Fld Z h0 a1 "com/example/rekey/rekey/server/LockoutPolicy" "windowSecs" "J" (.long (0 : Int64))) (F_lockoutSecs : Fld Z h0 a1 "com/example/rekey/rekey/server/LockoutPolicy" "lockoutSecs" "J" (.long (0 : Int64))) (F_ipv6Prefix : Fld Z h0 a1 "com/example/rekey/rekey/server/LockoutPolicy" "ipv6Prefix" "I" (.int (0 : Int32))) (g1 : n0 ≤ a1) (c5 : ¬ p1 < (0 : Int32)) (c12 : ¬ (1000 : Int32) < p1) (c28 : ¬ (lcmpW q2 (1 : Int64)) < (0 : Int32)) (c36 : ¬ (0 : Int32) < (lcmpW q2 (3153600000 : Int64))) (c53 : ¬ (lcmpW q3 (1 : Int64)) < (0 : Int32)) (c62 : ¬ (0 : Int32) < (lcmpW q3 (3153600000 : Int64))) (c78 : ¬ p4 < (1 : Int32)) (c86 : ¬ (128 : Int32) < p4) :
    MetFree l (⟨"com/example/rekey/rekey/server/LockoutPolicy", "<init>", "(IJJI)V"⟩ : MethodName) (head1 (Jvm.Cond.code (⟨"com/example/rekey/rekey/server/LockoutPolicy", "<init>", "(IJJI)V"⟩ : MethodName) prog_62_method_1_code 7 none :: ws) ({ frames := 2, cells := 0, slots := 0, locals := 24 } : Room)) (fun a U => a = #[(.ref a1), (.int p1), (.long q2), (.long q3), (.int p4)] ∧ Z.Warmed39 U.vm ∧ U.heap = h0) (fun _ _ _ _ _ => True) (fun _ U o U' => ∃ v L, o = .returned v ∧ Q1 Z a1 p1 q2 q3 p4 h0 n0 v U'.heap L ∧ FrameEnd U o U' L ({ frames := 2, cells := 0, slots := 0, locals := 24 } : Room).cells ({ frames := 2, cells := 0, slots := 0, locals := 24 } : Room).slots) := by
  refine MetFree.of_bodySF (plainFor_of_name pn_1) hisR ?_
  intro p e s m args below meth c s₁ Bd hml0 hP hK
  obtain ⟨rfl, hZ, hh⟩ := hP
  have hx := Bd.exec
  have hby := Bd.bytes
  have hml : c.maxLocals = 7 := hml0
  have hown : s.vm.findClass "com/example/rekey/rekey/server/LockoutPolicy" = some m.cls := findClass_of_methodNamed Bd.named
  have hnm := (name_of_methodNamed Bd.named Bd.method).1
  have hlk : meth.locks = false := Bd.notSynchronized
  have hret := Bd.returns
  have X0 : Stand p l e ({ frames := 2, cells := 0, slots := 0, locals := 24 } : Room) s m #[(.ref a1), (.int p1), (.long q2), (.long q3), (.int p4)] below meth c s₁ [] 0 0 := Stand.of_body Bd
  have e0 : s₁.heap = h0 := by rw [← hh, Bd.state]; rfl
  have N0 := Fr.nil n0
  show Go p e below s₁ (entryFrame m #[(.ref a1), (.int p1), (.long q2), (.long q3), (.int p4)] 7) (Fin s (Q1 Z a1 p1 q2 q3 p4 h0 n0) ({ frames := 2, cells := 0, slots := 0, locals := 24 } : Room).cells ({ frames := 2, cells := 0, slots := 0, locals := 24 } : Room).slots)
  rw [ef_rm1]
  show Go p e below s₁ (mkF m 0 #[.val (.ref a1), .val (.int p1), .val (.long q2), .second, .val (.long q3), .second, .val (.int p4)] []) _
  refine Go.step (fun _ => XS.aloadN X0.here hx rfl (hb hby d1_0) rfl rfl ) ?_
  show Go p e below s₁ (mkF m 1 #[.val (.ref a1), .val (.int p1), .val (.long q2), .second, .val (.long q3), .second, .val (.int p4)] [(.ref a1)]) _
  obtain ⟨_, _, ⟨T2, L2, k2, n2⟩, -, X2, ⟨Lc2, hQ2, l2, y2, z2⟩, st2⟩ := X0.specialBack hx (y := (⟨"java/lang/Record", "<init>", "()V"⟩ : MethodName)) rfl hown (mvT hZ (hw _ (List.mem_of_getElem? (i := 9) rfl))) (mvT hZ (hw _ (List.mem_of_getElem? (i := 10) rfl))) (mvT hZ (hw _ (List.mem_of_getElem? (i := 13) rfl))) (by decide) (backOf (W := 0) (rm2 l Z a0 hw [] a1 h0 n0 Z0) hZ (hw _ (List.mem_of_getElem? (i := 13) rfl)) (hw _ (List.mem_of_getElem? (i := 12) rfl)) (by decide) (by decide)) (g := (mkF m 1 #[.val (.ref a1), .val (.int p1), .val (.long q2), .second, .val (.long q3), .second, .val (.int p4)] [(.ref a1)])) rfl (by rw [hml]; rfl) (Steps.refl _) (a := a1) (argsL := []) (rest := []) (lenOf pd_0 rfl) rfl (by show 2 * 0 + _ ≤ _; exact Nat.le_of_eq rfl) (hb hby d1_1) (fun _ _ => ⟨rfl, e0, (by decide : 0 + 0 ≤ _), (by decide : 0 + 0 ≤ _)⟩)
  dsimp only [Pt.U, Pt.locs, Pt.cells, Pt.slots] at X2 l2 y2 z2 st2 hQ2
  subst l2 y2 z2
  obtain ⟨rfl, Nq2, eh2⟩ := hQ2
  have N2 := Fr.app N0 Nq2
  refine Go.call st2 ?_
  show Go p e below T2 (mkF m 4 #[.val (.ref a1), .val (.int p1), .val (.long q2), .second, .val (.long q3), .second, .val (.int p4)] []) _
  refine Go.step (fun _ => XS.iloadN X2.here hx rfl (hb hby d1_4) rfl ) ?_
  show Go p e below T2 (mkF m 5 #[.val (.ref a1), .val (.int p1), .val (.long q2), .second, .val (.long q3), .second, .val (.int p4)] [(.int p1)]) _
  refine Go.step (fun _ => XS.ifNo X2.here hx rfl (hb hby d1_5) rfl ((if0 _ _).trans (flt c5).1)) ?_
  show Go p e below T2 (mkF m 8 #[.val (.ref a1), .val (.int p1), .val (.long q2), .second, .val (.long q3), .second, .val (.int p4)] []) _
  refine Go.step (fun _ => XS.iloadN X2.here hx rfl (hb hby d1_8) rfl ) ?_
  show Go p e below T2 (mkF m 9 #[.val (.ref a1), .val (.int p1), .val (.long q2), .second, .val (.long q3), .second, .val (.int p4)] [(.int p1)]) _
  refine Go.step (fun _ => XS.sipush X2.here hx rfl (hb hby d1_9)) ?_
  show Go p e below T2 (mkF m 12 #[.val (.ref a1), .val (.int p1), .val (.long q2), .second, .val (.long q3), .second, .val (.int p4)] [(.int (1000 : Int32)), (.int p1)]) _
  refine Go.step (fun _ => XS.icmpYes X2.here hx rfl (pc0 := 12) (pc' := 25) rfl (hb hby d1_12) rfl (flt c12).2.2.2 (by decide) (by decide)) ?_
  show Go p e below T2 (mkF m 25 #[.val (.ref a1), .val (.int p1), .val (.long q2), .second, .val (.long q3), .second, .val (.int p4)] []) _
  refine Go.step (fun _ => XS.lloadN X2.here hx rfl (hb hby d1_25) rfl ) ?_
  show Go p e below T2 (mkF m 26 #[.val (.ref a1), .val (.int p1), .val (.long q2), .second, .val (.long q3), .second, .val (.int p4)] [(.long q2)]) _
  refine Go.step (fun _ => XS.lconst X2.here hx rfl (hb hby d1_26)) ?_
  show Go p e below T2 (mkF m 27 #[.val (.ref a1), .val (.int p1), .val (.long q2), .second, .val (.long q3), .second, .val (.int p4)] [(.long (1 : Int64)), (.long q2)]) _
  refine Go.step (fun _ => XS.lcmp X2.here hx rfl (hb hby d1_27) rfl) ?_
  show Go p e below T2 (mkF m 28 #[.val (.ref a1), .val (.int p1), .val (.long q2), .second, .val (.long q3), .second, .val (.int p4)] [(.int (lcmpW q2 (1 : Int64)))]) _
  refine Go.step (fun _ => XS.ifNo X2.here hx rfl (hb hby d1_28) rfl ((if0 _ _).trans (flt c28).1)) ?_
  show Go p e below T2 (mkF m 31 #[.val (.ref a1), .val (.int p1), .val (.long q2), .second, .val (.long q3), .second, .val (.int p4)] []) _
  refine Go.step (fun _ => XS.lloadN X2.here hx rfl (hb hby d1_31) rfl ) ?_
  show Go p e below T2 (mkF m 32 #[.val (.ref a1), .val (.int p1), .val (.long q2), .second, .val (.long q3), .second, .val (.int p4)] [(.long q2)]) _
  refine Go.step (fun _ => X2.ldc2Long hx hown (mvT hZ (hw _ (List.mem_of_getElem? (i := 17) rfl))) (g := (mkF m 32 #[.val (.ref a1), .val (.int p1), .val (.long q2), .second, .val (.long q3), .second, .val (.int p4)] [(.long q2)])) rfl (hb hby d1_32) _) ?_
  show Go p e below T2 (mkF m 35 #[.val (.ref a1), .val (.int p1), .val (.long q2), .second, .val (.long q3), .second, .val (.int p4)] [(.long (3153600000 : Int64)), (.long q2)]) _
  refine Go.step (fun _ => XS.lcmp X2.here hx rfl (hb hby d1_35) rfl) ?_
  show Go p e below T2 (mkF m 36 #[.val (.ref a1), .val (.int p1), .val (.long q2), .second, .val (.long q3), .second, .val (.int p4)] [(.int (lcmpW q2 (3153600000 : Int64)))]) _
  refine Go.step (fun _ => XS.ifYes X2.here hx rfl (pc0 := 36) (pc' := 49) rfl (hb hby d1_36) rfl ((if0 _ _).trans (flt c36).2.2.2) (by decide) (by decide)) ?_
  show Go p e below T2 (mkF m 49 #[.val (.ref a1), .val (.int p1), .val (.long q2), .second, .val (.long q3), .second, .val (.int p4)] []) _
  refine Go.step (fun _ => XS.lload X2.here hx rfl (hb hby d1_49) rfl ) ?_
  show Go p e below T2 (mkF m 51 #[.val (.ref a1), .val (.int p1), .val (.long q2), .second, .val (.long q3), .second, .val (.int p4)] [(.long q3)]) _
  refine Go.step (fun _ => XS.lconst X2.here hx rfl (hb hby d1_51)) ?_
  show Go p e below T2 (mkF m 52 #[.val (.ref a1), .val (.int p1), .val (.long q2), .second, .val (.long q3), .second, .val (.int p4)] [(.long (1 : Int64)), (.long q3)]) _
  refine Go.step (fun _ => XS.lcmp X2.here hx rfl (hb hby d1_52) rfl) ?_
  show Go p e below T2 (mkF m 53 #[.val (.ref a1), .val (.int p1), .val (.long q2), .second, .val (.long q3), .second, .val (.int p4)] [(.int (lcmpW q3 (1 : Int64)))]) _
  refine Go.step (fun _ => XS.ifNo X2.here hx rfl (hb hby d1_53) rfl ((if0 _ _).trans (flt c53).1)) ?_
  show Go p e below T2 (mkF m 56 #[.val (.ref a1), .val (.int p1), .val (.long q2), .second, .val (.long q3), .second, .val (.int p4)] []) _
  refine Go.step (fun _ => XS.lload X2.here hx rfl (hb hby d1_56) rfl ) ?_
  show Go p e below T2 (mkF m 58 #[.val (.ref a1), .val (.int p1), .val (.long q2), .second, .val (.long q3), .second, .val (.int p4)] [(.long q3)]) _
  refine Go.step (fun _ => X2.ldc2Long hx hown (mvT hZ (hw _ (List.mem_of_getElem? (i := 17) rfl))) (g := (mkF m 58 #[.val (.ref a1), .val (.int p1), .val (.long q2), .second, .val (.long q3), .second, .val (.int p4)] [(.long q3)])) rfl (hb hby d1_58) _) ?_
  show Go p e below T2 (mkF m 61 #[.val (.ref a1), .val (.int p1), .val (.long q2), .second, .val (.long q3), .second, .val (.int p4)] [(.long (3153600000 : Int64)), (.long q3)]) _
  refine Go.step (fun _ => XS.lcmp X2.here hx rfl (hb hby d1_61) rfl) ?_
  show Go p e below T2 (mkF m 62 #[.val (.ref a1), .val (.int p1), .val (.long q2), .second, .val (.long q3), .second, .val (.int p4)] [(.int (lcmpW q3 (3153600000 : Int64)))]) _
  refine Go.step (fun _ => XS.ifYes X2.here hx rfl (pc0 := 62) (pc' := 75) rfl (hb hby d1_62) rfl ((if0 _ _).trans (flt c62).2.2.2) (by decide) (by decide)) ?_
  show Go p e below T2 (mkF m 75 #[.val (.ref a1), .val (.int p1), .val (.long q2), .second, .val (.long q3), .second, .val (.int p4)] []) _
  refine Go.step (fun _ => XS.iload X2.here hx rfl (hb hby d1_75) rfl ) ?_
  show Go p e below T2 (mkF m 77 #[.val (.ref a1), .val (.int p1), .val (.long q2), .second, .val (.long q3), .second, .val (.int p4)] [(.int p4)]) _
  refine Go.step (fun _ => XS.iconst X2.here hx rfl (hb hby d1_77)) ?_
  show Go p e below T2 (mkF m 78 #[.val (.ref a1), .val (.int p1), .val (.long q2), .second, .val (.long q3), .second, .val (.int p4)] [(.int (1 : Int32)), (.int p4)]) _
  refine Go.step (fun _ => XS.icmpNo X2.here hx rfl (hb hby d1_78) rfl (flt c78).1) ?_
  show Go p e below T2 (mkF m 81 #[.val (.ref a1), .val (.int p1), .val (.long q2), .second, .val (.long q3), .second, .val (.int p4)] []) _
  refine Go.step (fun _ => XS.iload X2.here hx rfl (hb hby d1_81) rfl ) ?_
  show Go p e below T2 (mkF m 83 #[.val (.ref a1), .val (.int p1), .val (.long q2), .second, .val (.long q3), .second, .val (.int p4)] [(.int p4)]) _
  refine Go.step (fun _ => XS.sipush X2.here hx rfl (hb hby d1_83)) ?_
  show Go p e below T2 (mkF m 86 #[.val (.ref a1), .val (.int p1), .val (.long q2), .second, .val (.long q3), .second, .val (.int p4)] [(.int (128 : Int32)), (.int p4)]) _
  refine Go.step (fun _ => XS.icmpYes X2.here hx rfl (pc0 := 86) (pc' := 99) rfl (hb hby d1_86) rfl (flt c86).2.2.2 (by decide) (by decide)) ?_
  show Go p e below T2 (mkF m 99 #[.val (.ref a1), .val (.int p1), .val (.long q2), .second, .val (.long q3), .second, .val (.int p4)] []) _
  refine Go.step (fun _ => XS.aloadN X2.here hx rfl (hb hby d1_99) rfl rfl ) ?_
  show Go p e below T2 (mkF m 100 #[.val (.ref a1), .val (.int p1), .val (.long q2), .second, .val (.long q3), .second, .val (.int p4)] [(.ref a1)]) _
  refine Go.step (fun _ => XS.iloadN X2.here hx rfl (hb hby d1_100) rfl ) ?_
  show Go p e below T2 (mkF m 101 #[.val (.ref a1), .val (.int p1), .val (.long q2), .second, .val (.long q3), .second, .val (.int p4)] [(.int p1), (.ref a1)]) _
  obtain ⟨T3, h3, X3, e3, W3, st3⟩ := putF X2 hx hZ hown (host := "") (Or.inl (hw _ (List.mem_of_getElem? (i := 18) rfl))) Via.refl eh2 F_failures E1 (Or.inr ⟨(hw _ (List.mem_of_getElem? (i := 19) rfl)), rfl, hnm⟩) (hw _ (List.mem_of_getElem? (i := 4) rfl)) (ty := .int) (by decide) rfl rfl (g := (mkF m 101 #[.val (.ref a1), .val (.int p1), .val (.long q2), .second, .val (.long q3), .second, .val (.int p4)] [(.int p1), (.ref a1)])) rfl rfl (hb hby d1_101)
  refine Go.step st3 ?_
  have N3 := Fr.snoc X3 N2 g1
  have F_failures_a1_q3 := F_failures.same W3
  have E1_q3 := E1.wr W3
  have F_windowSecs_q3 := F_windowSecs.other W3 (Or.inr (slot_ne (Or.inr (hw _ (List.mem_of_getElem? (i := 21) rfl))) (Or.inr (hw _ (List.mem_of_getElem? (i := 19) rfl))) (by decide) (t := .long) (t' := .int) (by decide) (by decide)))
  have F_lockoutSecs_q3 := F_lockoutSecs.other W3 (Or.inr (slot_ne (Or.inr (hw _ (List.mem_of_getElem? (i := 23) rfl))) (Or.inr (hw _ (List.mem_of_getElem? (i := 19) rfl))) (by decide) (t := .long) (t' := .int) (by decide) (by decide)))
  have F_ipv6Prefix_q3 := F_ipv6Prefix.other W3 (Or.inr (slot_ne (Or.inr (hw _ (List.mem_of_getElem? (i := 25) rfl))) (Or.inr (hw _ (List.mem_of_getElem? (i := 19) rfl))) (by decide) (t := .int) (t' := .int) (by decide) (by decide)))
  have K3 : Keep h0 h3 [a1] := (Keep.refl h0 [a1]).wr W3 (Or.inl (List.mem_of_getElem? (i := 0) rfl))
  show Go p e below T3 (mkF m 104 #[.val (.ref a1), .val (.int p1), .val (.long q2), .second, .val (.long q3), .second, .val (.int p4)] []) _
  refine Go.step (fun _ => XS.aloadN X3.here hx rfl (hb hby d1_104) rfl rfl ) ?_
  show Go p e below T3 (mkF m 105 #[.val (.ref a1), .val (.int p1), .val (.long q2), .second, .val (.long q3), .second, .val (.int p4)] [(.ref a1)]) _
  refine Go.step (fun _ => XS.lloadN X3.here hx rfl (hb hby d1_105) rfl ) ?_
  show Go p e below T3 (mkF m 106 #[.val (.ref a1), .val (.int p1), .val (.long q2), .second, .val (.long q3), .second, .val (.int p4)] [(.long q2), (.ref a1)]) _
  obtain ⟨T4, h4, X4, e4, W4, st4⟩ := putF X3 hx hZ hown (host := "") (Or.inl (hw _ (List.mem_of_getElem? (i := 20) rfl))) Via.refl e3 F_windowSecs_q3 E1_q3 (Or.inr ⟨(hw _ (List.mem_of_getElem? (i := 21) rfl)), rfl, hnm⟩) (hw _ (List.mem_of_getElem? (i := 4) rfl)) (ty := .long) (by decide) rfl rfl (g := (mkF m 106 #[.val (.ref a1), .val (.int p1), .val (.long q2), .second, .val (.long q3), .second, .val (.int p4)] [(.long q2), (.ref a1)])) rfl rfl (hb hby d1_106)
  refine Go.step st4 ?_
  have N4 := Fr.snoc X4 N3 g1
  have F_windowSecs_a1_q4 := F_windowSecs_q3.same W4
  have E1_q4 := E1_q3.wr W4
  have F_lockoutSecs_q4 := F_lockoutSecs_q3.other W4 (Or.inr (slot_ne (Or.inr (hw _ (List.mem_of_getElem? (i := 23) rfl))) (Or.inr (hw _ (List.mem_of_getElem? (i := 21) rfl))) (by decide) (t := .long) (t' := .long) (by decide) (by decide)))
  have F_ipv6Prefix_q4 := F_ipv6Prefix_q3.other W4 (Or.inr (slot_ne (Or.inr (hw _ (List.mem_of_getElem? (i := 25) rfl))) (Or.inr (hw _ (List.mem_of_getElem? (i := 21) rfl))) (by decide) (t := .int) (t' := .long) (by decide) (by decide)))
  have F_failures_a1_q4 := F_failures_a1_q3.other W4 (Or.inr (slot_ne (Or.inr (hw _ (List.mem_of_getElem? (i := 19) rfl))) (Or.inr (hw _ (List.mem_of_getElem? (i := 21) rfl))) (by decide) (t := .int) (t' := .long) (by decide) (by decide)))
  have K4 : Keep h0 h4 [a1] := K3.wr W4 (Or.inl (List.mem_of_getElem? (i := 0) rfl))
  show Go p e below T4 (mkF m 109 #[.val (.ref a1), .val (.int p1), .val (.long q2), .second, .val (.long q3), .second, .val (.int p4)] []) _
  refine Go.step (fun _ => XS.aloadN X4.here hx rfl (hb hby d1_109) rfl rfl ) ?_
  show Go p e below T4 (mkF m 110 #[.val (.ref a1), .val (.int p1), .val (.long q2), .second, .val (.long q3), .second, .val (.int p4)] [(.ref a1)]) _
  refine Go.step (fun _ => XS.lload X4.here hx rfl (hb hby d1_110) rfl ) ?_
  show Go p e below T4 (mkF m 112 #[.val (.ref a1), .val (.int p1), .val (.long q2), .second, .val (.long q3), .second, .val (.int p4)] [(.long q3), (.ref a1)]) _
  obtain ⟨T5, h5, X5, e5, W5, st5⟩ := putF X4 hx hZ hown (host := "") (Or.inl (hw _ (List.mem_of_getElem? (i := 22) rfl))) Via.refl e4 F_lockoutSecs_q4 E1_q4 (Or.inr ⟨(hw _ (List.mem_of_getElem? (i := 23) rfl)), rfl, hnm⟩) (hw _ (List.mem_of_getElem? (i := 4) rfl)) (ty := .long) (by decide) rfl rfl (g := (mkF m 112 #[.val (.ref a1), .val (.int p1), .val (.long q2), .second, .val (.long q3), .second, .val (.int p4)] [(.long q3), (.ref a1)])) rfl rfl (hb hby d1_112)
  refine Go.step st5 ?_
  have N5 := Fr.snoc X5 N4 g1
  have F_lockoutSecs_a1_q5 := F_lockoutSecs_q4.same W5
  have E1_q5 := E1_q4.wr W5
  have F_ipv6Prefix_q5 := F_ipv6Prefix_q4.other W5 (Or.inr (slot_ne (Or.inr (hw _ (List.mem_of_getElem? (i := 25) rfl))) (Or.inr (hw _ (List.mem_of_getElem? (i := 23) rfl))) (by decide) (t := .int) (t' := .long) (by decide) (by decide)))
  have F_failures_a1_q5 := F_failures_a1_q4.other W5 (Or.inr (slot_ne (Or.inr (hw _ (List.mem_of_getElem? (i := 19) rfl))) (Or.inr (hw _ (List.mem_of_getElem? (i := 23) rfl))) (by decide) (t := .int) (t' := .long) (by decide) (by decide)))
  have F_windowSecs_a1_q5 := F_windowSecs_a1_q4.other W5 (Or.inr (slot_ne (Or.inr (hw _ (List.mem_of_getElem? (i := 21) rfl))) (Or.inr (hw _ (List.mem_of_getElem? (i := 23) rfl))) (by decide) (t := .long) (t' := .long) (by decide) (by decide)))
  have K5 : Keep h0 h5 [a1] := K4.wr W5 (Or.inl (List.mem_of_getElem? (i := 0) rfl))
  show Go p e below T5 (mkF m 115 #[.val (.ref a1), .val (.int p1), .val (.long q2), .second, .val (.long q3), .second, .val (.int p4)] []) _
  refine Go.step (fun _ => XS.aloadN X5.here hx rfl (hb hby d1_115) rfl rfl ) ?_
  show Go p e below T5 (mkF m 116 #[.val (.ref a1), .val (.int p1), .val (.long q2), .second, .val (.long q3), .second, .val (.int p4)] [(.ref a1)]) _
  refine Go.step (fun _ => XS.iload X5.here hx rfl (hb hby d1_116) rfl ) ?_
  show Go p e below T5 (mkF m 118 #[.val (.ref a1), .val (.int p1), .val (.long q2), .second, .val (.long q3), .second, .val (.int p4)] [(.int p4), (.ref a1)]) _
  obtain ⟨T6, h6, X6, e6, W6, st6⟩ := putF X5 hx hZ hown (host := "") (Or.inl (hw _ (List.mem_of_getElem? (i := 24) rfl))) Via.refl e5 F_ipv6Prefix_q5 E1_q5 (Or.inr ⟨(hw _ (List.mem_of_getElem? (i := 25) rfl)), rfl, hnm⟩) (hw _ (List.mem_of_getElem? (i := 4) rfl)) (ty := .int) (by decide) rfl rfl (g := (mkF m 118 #[.val (.ref a1), .val (.int p1), .val (.long q2), .second, .val (.long q3), .second, .val (.int p4)] [(.int p4), (.ref a1)])) rfl rfl (hb hby d1_118)
  refine Go.step st6 ?_
  have N6 := Fr.snoc X6 N5 g1
  have F_ipv6Prefix_a1_q6 := F_ipv6Prefix_q5.same W6
  have E1_q6 := E1_q5.wr W6
  have F_failures_a1_q6 := F_failures_a1_q5.other W6 (Or.inr (slot_ne (Or.inr (hw _ (List.mem_of_getElem? (i := 19) rfl))) (Or.inr (hw _ (List.mem_of_getElem? (i := 25) rfl))) (by decide) (t := .int) (t' := .int) (by decide) (by decide)))
  have F_windowSecs_a1_q6 := F_windowSecs_a1_q5.other W6 (Or.inr (slot_ne (Or.inr (hw _ (List.mem_of_getElem? (i := 21) rfl))) (Or.inr (hw _ (List.mem_of_getElem? (i := 25) rfl))) (by decide) (t := .long) (t' := .int) (by decide) (by decide)))
  have F_lockoutSecs_a1_q6 := F_lockoutSecs_a1_q5.other W6 (Or.inr (slot_ne (Or.inr (hw _ (List.mem_of_getElem? (i := 23) rfl))) (Or.inr (hw _ (List.mem_of_getElem? (i := 25) rfl))) (by decide) (t := .long) (t' := .int) (by decide) (by decide)))
  have K6 : Keep h0 h6 [a1] := K5.wr W6 (Or.inl (List.mem_of_getElem? (i := 0) rfl))
  show Go p e below T6 (mkF m 121 #[.val (.ref a1), .val (.int p1), .val (.long q2), .second, .val (.long q3), .second, .val (.int p4)] []) _
  refine Go.ret0 X6 hx hret hlk (hb hby d1_121) ?_ (by decide) (by decide)
  rw [e6]
  exact ⟨rfl, N6, K6, E1_q6, F_failures_a1_q6⟩
theorem d4_0 : decode prog_62_method_3_code 0 = .ok (.aload_n 0, 1) := by decide +kernel
theorem d4_1 : decode prog_62_method_3_code 1 = .ok (.getfield 26, 3) := by decide +kernel
theorem d4_4 : decode prog_62_method_3_code 4 = .ok (.ifCond .ne 7, 3) := by decide +kernel
theorem d4_7 : decode prog_62_method_3_code 7 = .ok (.iconst 1, 1) := by decide +kernel
theorem d4_8 : decode prog_62_method_3_code 8 = .ok (.goto 4, 3) := by decide +kernel
theorem d4_11 : decode prog_62_method_3_code 11 = .ok (.iconst 0, 1) := by decide +kernel
theorem d4_12 : decode prog_62_method_3_code 12 = .ok (.ireturn, 1) := by decide +kernel
theorem ef_rm4 (m : MethodId) (x0 : Addr) : entryFrame m #[(.ref x0)] 1 = mkF m 0 #[.val (.ref x0)] [] := by first | rfl | (simp [entryFrame, mkF, argsToLocals, Value.category]; done)
def Q4 (Z : State) (a1 : Addr) (f r : Int32) (h0 : Heap) (n0 : Nat) (v : Option Value) (h : Heap) (L : List Loc) : Prop := v = some (.int r) ∧ Fr n0 L ∧ h = h0
set_option maxRecDepth 65536 in
set_option maxHeartbeats 40000000 in
theorem rm4 (l : Launch) (Z : State) (a0 : Array Value) (hw : ∀ d ∈ tables_1, d.before a0 Z = true) (ws : List Jvm.Cond) (a1 : Addr) (f r : Int32) (h0 : Heap) (n0 : Nat) (Z0 : n0 ≤ h0.size) (F1 : Fld Z h0 a1 "com/example/rekey/rekey/server/LockoutPolicy" "failures" "I" (.int f)) (hr : r = if f = 0 then 1 else 0) :
    MetFree l (⟨"com/example/rekey/rekey/server/LockoutPolicy", "isOff", "()Z"⟩ : MethodName) (head1 (Jvm.Cond.code (⟨"com/example/rekey/rekey/server/LockoutPolicy", "isOff", "()Z"⟩ : MethodName) prog_62_method_3_code 1 (some .boolean) :: ws) ({ frames := 0, cells := 0, slots := 0, locals := 0 } : Room)) (fun a U => a = #[(.ref a1)] ∧ Z.Warmed39 U.vm ∧ U.heap = h0) (fun _ _ _ _ _ => True) (fun _ U o U' => ∃ v L, o = .returned v ∧ Q4 Z a1 f r h0 n0 v U'.heap L ∧ FrameEnd U o U' L ({ frames := 0, cells := 0, slots := 0, locals := 0 } : Room).cells ({ frames := 0, cells := 0, slots := 0, locals := 0 } : Room).slots) := by
  refine MetFree.of_bodySF (plainFor_of_name pn_1) hisR ?_
  intro p e s m args below meth c s₁ Bd hml0 hP hK
  obtain ⟨rfl, hZ, hh⟩ := hP
  have hx := Bd.exec
  have hby := Bd.bytes
  have hml : c.maxLocals = 1 := hml0
  have hown : s.vm.findClass "com/example/rekey/rekey/server/LockoutPolicy" = some m.cls := findClass_of_methodNamed Bd.named
  have hnm := (name_of_methodNamed Bd.named Bd.method).1
  have hlk : meth.locks = false := Bd.notSynchronized
  have hret := Bd.returns
  have X0 : Stand p l e ({ frames := 0, cells := 0, slots := 0, locals := 0 } : Room) s m #[(.ref a1)] below meth c s₁ [] 0 0 := Stand.of_body Bd
  have e0 : s₁.heap = h0 := by rw [← hh, Bd.state]; rfl
  have N0 := Fr.nil n0
  show Go p e below s₁ (entryFrame m #[(.ref a1)] 1) (Fin s (Q4 Z a1 f r h0 n0) ({ frames := 0, cells := 0, slots := 0, locals := 0 } : Room).cells ({ frames := 0, cells := 0, slots := 0, locals := 0 } : Room).slots)
  rw [ef_rm4]
  show Go p e below s₁ (mkF m 0 #[.val (.ref a1)] []) _
  refine Go.step (fun _ => XS.aloadN X0.here hx rfl (hb hby d4_0) rfl rfl ) ?_
  show Go p e below s₁ (mkF m 1 #[.val (.ref a1)] [(.ref a1)]) _
  obtain ⟨T7, X7, e7, st7⟩ := getF X0 hx hZ hown (host := "") (Or.inl (hw _ (List.mem_of_getElem? (i := 18) rfl))) Via.refl e0 F1 (g := (mkF m 1 #[.val (.ref a1)] [(.ref a1)])) rfl rfl (hb hby d4_1)
  refine Go.step st7 ?_
  show Go p e below T7 (mkF m 4 #[.val (.ref a1)] [(.int f)]) _
  by_cases hc4 : f = (0 : Int32)
  · skip
    refine Go.step (fun _ => XS.ifNo X7.here hx rfl (hb hby d4_4) rfl ((if0 _ _).trans (teq hc4).2)) ?_
    show Go p e below T7 (mkF m 7 #[.val (.ref a1)] []) _
    refine Go.step (fun _ => XS.iconst X7.here hx rfl (hb hby d4_7)) ?_
    show Go p e below T7 (mkF m 8 #[.val (.ref a1)] [(.int (1 : Int32))]) _
    refine Go.step (fun _ => XS.goto X7.here hx rfl (pc0 := 8) (pc' := 12) rfl (hb hby d4_8) (by decide) (by decide)) ?_
    show Go p e below T7 (mkF m 12 #[.val (.ref a1)] [(.int (1 : Int32))]) _
    refine Go.retN (t := .boolean) (z' := (1 : Int32)) X7 hx hret (by simp) hlk (hb hby d4_12) (by decide) ?_ (by decide) (by decide)
    exact ⟨by rw [hr, if_pos hc4], N0, e7⟩
  · skip
    refine Go.step (fun _ => XS.ifYes X7.here hx rfl (pc0 := 4) (pc' := 11) rfl (hb hby d4_4) rfl ((if0 _ _).trans (feq hc4).2) (by decide) (by decide)) ?_
    show Go p e below T7 (mkF m 11 #[.val (.ref a1)] []) _
    refine Go.step (fun _ => XS.iconst X7.here hx rfl (hb hby d4_11)) ?_
    show Go p e below T7 (mkF m 12 #[.val (.ref a1)] [(.int (0 : Int32))]) _
    refine Go.retN (t := .boolean) (z' := (0 : Int32)) X7 hx hret (by simp) hlk (hb hby d4_12) (by decide) ?_ (by decide) (by decide)
    exact ⟨by rw [hr, if_neg hc4], N0, e7⟩
theorem pn_2 : plainName "com/example/rekey/rekey/server/LockoutPolicyIsOffPinLaw" = true := by first | (simp [plainName, overriddenIn]; done) | decide +kernel
theorem pd_1 : parseMethodDescriptor "(IJJI)V" = some ⟨[.int, .long, .long, .int], none⟩ := by decide +kernel
theorem pd_2 : parseMethodDescriptor "()Z" = some ⟨[], some .boolean⟩ := by decide +kernel
theorem ef_rm0 (m : MethodId) (x0 : Int32) (x1 : Int64) (x2 : Int64) (x3 : Int32) : entryFrame m #[(.int x0), (.long x1), (.long x2), (.int x3)] maxLocals = mkF m 0 #[.val (.int x0), .val (.long x1), .second, .val (.long x2), .second, .val (.int x3), .unset, .unset, .unset, .unset, .unset, .unset, .unset, .unset] [] := by first | rfl | (simp [entryFrame, mkF, argsToLocals, Value.category, maxLocals]; done)
def Q0 (Z : State) (p0 : Int32) (q1 q2 : Int64) (p3 : Int32) (wO : Addr) (h0 : Heap) (n0 : Nat) (v : Option Value) (h : Heap) (L : List Loc) : Prop := v = some (.int 1) ∧ Fr n0 L
set_option maxRecDepth 65536 in
set_option maxHeartbeats 40000000 in
theorem rm0 (l : Launch) (Z : State) (a0 : Array Value) (hw : ∀ d ∈ tables_1, d.before a0 Z = true) (ws : List Jvm.Cond) (p0 : Int32) (q1 q2 : Int64) (p3 : Int32) (wO : Addr) (h0 : Heap) (n0 : Nat) (Z0 : n0 ≤ h0.size) (SO : Sta Z h0 "com/example/rekey/rekey/server/LockoutPolicy" "OFF" "Lcom/example/rekey/rekey/server/LockoutPolicy;" (.ref wO)) (EO : Exa Z h0 wO "com/example/rekey/rekey/server/LockoutPolicy") (FO : Fld Z h0 wO "com/example/rekey/rekey/server/LockoutPolicy" "failures" "I" (.int 0)) :
    MetFree l x (head1 (Jvm.Cond.code x code maxLocals ret :: ws) room_1) (fun a U => a = #[(.int p0), (.long q1), (.long q2), (.int p3)] ∧ Z.Warmed39 U.vm ∧ U.heap = h0) (fun _ _ _ _ _ => True) (fun _ U o U' => ∃ v L, o = .returned v ∧ Q0 Z p0 q1 q2 p3 wO h0 n0 v U'.heap L ∧ FrameEnd U o U' L 16 128) := by
  refine MetFree.of_bodySF (plainFor_of_name pn_2) hisR ?_
  intro p e s m args below meth c s₁ Bd hml0 hP hK
  obtain ⟨rfl, hZ, hh⟩ := hP
  have hx := Bd.exec
  have hby := Bd.bytes
  have hml : c.maxLocals = 14 := hml0
  have hown : s.vm.findClass "com/example/rekey/rekey/server/LockoutPolicyIsOffPinLaw" = some m.cls := findClass_of_methodNamed Bd.named
  have hnm := (name_of_methodNamed Bd.named Bd.method).1
  have hlk : meth.locks = false := Bd.notSynchronized
  have hret := Bd.returns
  have X0 : Stand p l e room_1 s m #[(.int p0), (.long q1), (.long q2), (.int p3)] below meth c s₁ [] 0 0 := Stand.of_body Bd
  have e0 : s₁.heap = h0 := by rw [← hh, Bd.state]; rfl
  have N0 := Fr.nil n0
  show Go p e below s₁ (entryFrame m #[(.int p0), (.long q1), (.long q2), (.int p3)] maxLocals) (Fin s (Q0 Z p0 q1 q2 p3 wO h0 n0) 16 128)
  rw [ef_rm0]
  show Go p e below s₁ (mkF m 0 #[.val (.int p0), .val (.long q1), .second, .val (.long q2), .second, .val (.int p3), .unset, .unset, .unset, .unset, .unset, .unset, .unset, .unset] []) _
  refine Go.step (fun _ => XS.iloadN X0.here hx rfl (hb hby at_0) rfl ) ?_
  show Go p e below s₁ (mkF m 1 #[.val (.int p0), .val (.long q1), .second, .val (.long q2), .second, .val (.int p3), .unset, .unset, .unset, .unset, .unset, .unset, .unset, .unset] [(.int p0)]) _
  refine Go.step (fun _ => XS.iconst X0.here hx rfl (hb hby at_1)) ?_
  show Go p e below s₁ (mkF m 2 #[.val (.int p0), .val (.long q1), .second, .val (.long q2), .second, .val (.int p3), .unset, .unset, .unset, .unset, .unset, .unset, .unset, .unset] [(.int (1 : Int32)), (.int p0)]) _
  refine Go.step (fun _ => XS.iand X0.here hx rfl (hb hby at_2) rfl) ?_
  show Go p e below s₁ (mkF m 3 #[.val (.int p0), .val (.long q1), .second, .val (.long q2), .second, .val (.int p3), .unset, .unset, .unset, .unset, .unset, .unset, .unset, .unset] [(.int (p0 &&& (1 : Int32)))]) _
  by_cases hc3 : (p0 &&& (1 : Int32)) = (0 : Int32)
  · skip
    refine Go.step (fun _ => XS.ifNo X0.here hx rfl (hb hby at_3) rfl ((if0 _ _).trans (teq hc3).2)) ?_
    show Go p e below s₁ (mkF m 6 #[.val (.int p0), .val (.long q1), .second, .val (.long q2), .second, .val (.int p3), .unset, .unset, .unset, .unset, .unset, .unset, .unset, .unset] []) _
    refine Go.step (fun _ => XS.iconst X0.here hx rfl (hb hby at_6)) ?_
    show Go p e below s₁ (mkF m 7 #[.val (.int p0), .val (.long q1), .second, .val (.long q2), .second, .val (.int p3), .unset, .unset, .unset, .unset, .unset, .unset, .unset, .unset] [(.int (0 : Int32))]) _
    refine Go.step (fun _ => XS.istore X0.here hx rfl (hb hby at_7) rfl (l' := #[.val (.int p0), .val (.long q1), .second, .val (.long q2), .second, .val (.int p3), .val (.int (0 : Int32)), .unset, .unset, .unset, .unset, .unset, .unset, .unset]) rfl) ?_
    show Go p e below s₁ (mkF m 9 #[.val (.int p0), .val (.long q1), .second, .val (.long q2), .second, .val (.int p3), .val (.int (0 : Int32)), .unset, .unset, .unset, .unset, .unset, .unset, .unset] []) _
    refine Go.step (fun _ => XS.goto X0.here hx rfl (pc0 := 9) (pc' := 21) rfl (hb hby at_9) (by decide) (by decide)) ?_
    show Go p e below s₁ (mkF m 21 #[.val (.int p0), .val (.long q1), .second, .val (.long q2), .second, .val (.int p3), .val (.int (0 : Int32)), .unset, .unset, .unset, .unset, .unset, .unset, .unset] []) _
    refine Go.step (fun _ => XS.lconst X0.here hx rfl (hb hby at_21)) ?_
    show Go p e below s₁ (mkF m 22 #[.val (.int p0), .val (.long q1), .second, .val (.long q2), .second, .val (.int p3), .val (.int (0 : Int32)), .unset, .unset, .unset, .unset, .unset, .unset, .unset] [(.long (1 : Int64))]) _
    refine Go.step (fun _ => XS.lloadN X0.here hx rfl (hb hby at_22) rfl ) ?_
    show Go p e below s₁ (mkF m 23 #[.val (.int p0), .val (.long q1), .second, .val (.long q2), .second, .val (.int p3), .val (.int (0 : Int32)), .unset, .unset, .unset, .unset, .unset, .unset, .unset] [(.long q1), (.long (1 : Int64))]) _
    refine Go.step (fun _ => X0.ldc2Long hx hown (mvT hZ (hw _ (List.mem_of_getElem? (i := 0) rfl))) (g := (mkF m 23 #[.val (.int p0), .val (.long q1), .second, .val (.long q2), .second, .val (.int p3), .val (.int (0 : Int32)), .unset, .unset, .unset, .unset, .unset, .unset, .unset] [(.long q1), (.long (1 : Int64))])) rfl (hb hby at_23) _) ?_
    show Go p e below s₁ (mkF m 26 #[.val (.int p0), .val (.long q1), .second, .val (.long q2), .second, .val (.int p3), .val (.int (0 : Int32)), .unset, .unset, .unset, .unset, .unset, .unset, .unset] [(.long (9223372036854775807 : Int64)), (.long q1), (.long (1 : Int64))]) _
    refine Go.step (fun _ => XS.land X0.here hx rfl (hb hby at_26) rfl) ?_
    show Go p e below s₁ (mkF m 27 #[.val (.int p0), .val (.long q1), .second, .val (.long q2), .second, .val (.int p3), .val (.int (0 : Int32)), .unset, .unset, .unset, .unset, .unset, .unset, .unset] [(.long (q1 &&& (9223372036854775807 : Int64))), (.long (1 : Int64))]) _
    refine Go.step (fun _ => X0.ldc2Long hx hown (mvT hZ (hw _ (List.mem_of_getElem? (i := 1) rfl))) (g := (mkF m 27 #[.val (.int p0), .val (.long q1), .second, .val (.long q2), .second, .val (.int p3), .val (.int (0 : Int32)), .unset, .unset, .unset, .unset, .unset, .unset, .unset] [(.long (q1 &&& (9223372036854775807 : Int64))), (.long (1 : Int64))])) rfl (hb hby at_27) _) ?_
    show Go p e below s₁ (mkF m 30 #[.val (.int p0), .val (.long q1), .second, .val (.long q2), .second, .val (.int p3), .val (.int (0 : Int32)), .unset, .unset, .unset, .unset, .unset, .unset, .unset] [(.long (3153600000 : Int64)), (.long (q1 &&& (9223372036854775807 : Int64))), (.long (1 : Int64))]) _
    refine Go.step (fun _ => XS.lrem X0.here hx rfl (hb hby at_30) rfl (by decide)) ?_
    show Go p e below s₁ (mkF m 31 #[.val (.int p0), .val (.long q1), .second, .val (.long q2), .second, .val (.int p3), .val (.int (0 : Int32)), .unset, .unset, .unset, .unset, .unset, .unset, .unset] [(.long ((q1 &&& (9223372036854775807 : Int64)) - ((q1 &&& (9223372036854775807 : Int64)) / (3153600000 : Int64)) * (3153600000 : Int64))), (.long (1 : Int64))]) _
    refine Go.step (fun _ => XS.ladd X0.here hx rfl (hb hby at_31) rfl) ?_
    show Go p e below s₁ (mkF m 32 #[.val (.int p0), .val (.long q1), .second, .val (.long q2), .second, .val (.int p3), .val (.int (0 : Int32)), .unset, .unset, .unset, .unset, .unset, .unset, .unset] [(.long ((1 : Int64) + ((q1 &&& (9223372036854775807 : Int64)) - ((q1 &&& (9223372036854775807 : Int64)) / (3153600000 : Int64)) * (3153600000 : Int64))))]) _
    refine Go.step (fun _ => XS.lstore X0.here hx rfl (hb hby at_32) rfl (l' := #[.val (.int p0), .val (.long q1), .second, .val (.long q2), .second, .val (.int p3), .val (.int (0 : Int32)), .val (.long ((1 : Int64) + ((q1 &&& (9223372036854775807 : Int64)) - ((q1 &&& (9223372036854775807 : Int64)) / (3153600000 : Int64)) * (3153600000 : Int64)))), .second, .unset, .unset, .unset, .unset, .unset]) rfl) ?_
    show Go p e below s₁ (mkF m 34 #[.val (.int p0), .val (.long q1), .second, .val (.long q2), .second, .val (.int p3), .val (.int (0 : Int32)), .val (.long ((1 : Int64) + ((q1 &&& (9223372036854775807 : Int64)) - ((q1 &&& (9223372036854775807 : Int64)) / (3153600000 : Int64)) * (3153600000 : Int64)))), .second, .unset, .unset, .unset, .unset, .unset] []) _
    refine Go.step (fun _ => XS.lconst X0.here hx rfl (hb hby at_34)) ?_
    show Go p e below s₁ (mkF m 35 #[.val (.int p0), .val (.long q1), .second, .val (.long q2), .second, .val (.int p3), .val (.int (0 : Int32)), .val (.long ((1 : Int64) + ((q1 &&& (9223372036854775807 : Int64)) - ((q1 &&& (9223372036854775807 : Int64)) / (3153600000 : Int64)) * (3153600000 : Int64)))), .second, .unset, .unset, .unset, .unset, .unset] [(.long (1 : Int64))]) _
    refine Go.step (fun _ => XS.lloadN X0.here hx rfl (hb hby at_35) rfl ) ?_
    show Go p e below s₁ (mkF m 36 #[.val (.int p0), .val (.long q1), .second, .val (.long q2), .second, .val (.int p3), .val (.int (0 : Int32)), .val (.long ((1 : Int64) + ((q1 &&& (9223372036854775807 : Int64)) - ((q1 &&& (9223372036854775807 : Int64)) / (3153600000 : Int64)) * (3153600000 : Int64)))), .second, .unset, .unset, .unset, .unset, .unset] [(.long q2), (.long (1 : Int64))]) _
    refine Go.step (fun _ => X0.ldc2Long hx hown (mvT hZ (hw _ (List.mem_of_getElem? (i := 0) rfl))) (g := (mkF m 36 #[.val (.int p0), .val (.long q1), .second, .val (.long q2), .second, .val (.int p3), .val (.int (0 : Int32)), .val (.long ((1 : Int64) + ((q1 &&& (9223372036854775807 : Int64)) - ((q1 &&& (9223372036854775807 : Int64)) / (3153600000 : Int64)) * (3153600000 : Int64)))), .second, .unset, .unset, .unset, .unset, .unset] [(.long q2), (.long (1 : Int64))])) rfl (hb hby at_36) _) ?_
    show Go p e below s₁ (mkF m 39 #[.val (.int p0), .val (.long q1), .second, .val (.long q2), .second, .val (.int p3), .val (.int (0 : Int32)), .val (.long ((1 : Int64) + ((q1 &&& (9223372036854775807 : Int64)) - ((q1 &&& (9223372036854775807 : Int64)) / (3153600000 : Int64)) * (3153600000 : Int64)))), .second, .unset, .unset, .unset, .unset, .unset] [(.long (9223372036854775807 : Int64)), (.long q2), (.long (1 : Int64))]) _
    refine Go.step (fun _ => XS.land X0.here hx rfl (hb hby at_39) rfl) ?_
    show Go p e below s₁ (mkF m 40 #[.val (.int p0), .val (.long q1), .second, .val (.long q2), .second, .val (.int p3), .val (.int (0 : Int32)), .val (.long ((1 : Int64) + ((q1 &&& (9223372036854775807 : Int64)) - ((q1 &&& (9223372036854775807 : Int64)) / (3153600000 : Int64)) * (3153600000 : Int64)))), .second, .unset, .unset, .unset, .unset, .unset] [(.long (q2 &&& (9223372036854775807 : Int64))), (.long (1 : Int64))]) _
    refine Go.step (fun _ => X0.ldc2Long hx hown (mvT hZ (hw _ (List.mem_of_getElem? (i := 1) rfl))) (g := (mkF m 40 #[.val (.int p0), .val (.long q1), .second, .val (.long q2), .second, .val (.int p3), .val (.int (0 : Int32)), .val (.long ((1 : Int64) + ((q1 &&& (9223372036854775807 : Int64)) - ((q1 &&& (9223372036854775807 : Int64)) / (3153600000 : Int64)) * (3153600000 : Int64)))), .second, .unset, .unset, .unset, .unset, .unset] [(.long (q2 &&& (9223372036854775807 : Int64))), (.long (1 : Int64))])) rfl (hb hby at_40) _) ?_
    show Go p e below s₁ (mkF m 43 #[.val (.int p0), .val (.long q1), .second, .val (.long q2), .second, .val (.int p3), .val (.int (0 : Int32)), .val (.long ((1 : Int64) + ((q1 &&& (9223372036854775807 : Int64)) - ((q1 &&& (9223372036854775807 : Int64)) / (3153600000 : Int64)) * (3153600000 : Int64)))), .second, .unset, .unset, .unset, .unset, .unset] [(.long (3153600000 : Int64)), (.long (q2 &&& (9223372036854775807 : Int64))), (.long (1 : Int64))]) _
    refine Go.step (fun _ => XS.lrem X0.here hx rfl (hb hby at_43) rfl (by decide)) ?_
    show Go p e below s₁ (mkF m 44 #[.val (.int p0), .val (.long q1), .second, .val (.long q2), .second, .val (.int p3), .val (.int (0 : Int32)), .val (.long ((1 : Int64) + ((q1 &&& (9223372036854775807 : Int64)) - ((q1 &&& (9223372036854775807 : Int64)) / (3153600000 : Int64)) * (3153600000 : Int64)))), .second, .unset, .unset, .unset, .unset, .unset] [(.long ((q2 &&& (9223372036854775807 : Int64)) - ((q2 &&& (9223372036854775807 : Int64)) / (3153600000 : Int64)) * (3153600000 : Int64))), (.long (1 : Int64))]) _
    refine Go.step (fun _ => XS.ladd X0.here hx rfl (hb hby at_44) rfl) ?_
    show Go p e below s₁ (mkF m 45 #[.val (.int p0), .val (.long q1), .second, .val (.long q2), .second, .val (.int p3), .val (.int (0 : Int32)), .val (.long ((1 : Int64) + ((q1 &&& (9223372036854775807 : Int64)) - ((q1 &&& (9223372036854775807 : Int64)) / (3153600000 : Int64)) * (3153600000 : Int64)))), .second, .unset, .unset, .unset, .unset, .unset] [(.long ((1 : Int64) + ((q2 &&& (9223372036854775807 : Int64)) - ((q2 &&& (9223372036854775807 : Int64)) / (3153600000 : Int64)) * (3153600000 : Int64))))]) _
    refine Go.step (fun _ => XS.lstore X0.here hx rfl (hb hby at_45) rfl (l' := #[.val (.int p0), .val (.long q1), .second, .val (.long q2), .second, .val (.int p3), .val (.int (0 : Int32)), .val (.long ((1 : Int64) + ((q1 &&& (9223372036854775807 : Int64)) - ((q1 &&& (9223372036854775807 : Int64)) / (3153600000 : Int64)) * (3153600000 : Int64)))), .second, .val (.long ((1 : Int64) + ((q2 &&& (9223372036854775807 : Int64)) - ((q2 &&& (9223372036854775807 : Int64)) / (3153600000 : Int64)) * (3153600000 : Int64)))), .second, .unset, .unset, .unset]) rfl) ?_
    show Go p e below s₁ (mkF m 47 #[.val (.int p0), .val (.long q1), .second, .val (.long q2), .second, .val (.int p3), .val (.int (0 : Int32)), .val (.long ((1 : Int64) + ((q1 &&& (9223372036854775807 : Int64)) - ((q1 &&& (9223372036854775807 : Int64)) / (3153600000 : Int64)) * (3153600000 : Int64)))), .second, .val (.long ((1 : Int64) + ((q2 &&& (9223372036854775807 : Int64)) - ((q2 &&& (9223372036854775807 : Int64)) / (3153600000 : Int64)) * (3153600000 : Int64)))), .second, .unset, .unset, .unset] []) _
    refine Go.step (fun _ => XS.iconst X0.here hx rfl (hb hby at_47)) ?_
    show Go p e below s₁ (mkF m 48 #[.val (.int p0), .val (.long q1), .second, .val (.long q2), .second, .val (.int p3), .val (.int (0 : Int32)), .val (.long ((1 : Int64) + ((q1 &&& (9223372036854775807 : Int64)) - ((q1 &&& (9223372036854775807 : Int64)) / (3153600000 : Int64)) * (3153600000 : Int64)))), .second, .val (.long ((1 : Int64) + ((q2 &&& (9223372036854775807 : Int64)) - ((q2 &&& (9223372036854775807 : Int64)) / (3153600000 : Int64)) * (3153600000 : Int64)))), .second, .unset, .unset, .unset] [(.int (1 : Int32))]) _
    refine Go.step (fun _ => XS.iload X0.here hx rfl (hb hby at_48) rfl ) ?_
    show Go p e below s₁ (mkF m 50 #[.val (.int p0), .val (.long q1), .second, .val (.long q2), .second, .val (.int p3), .val (.int (0 : Int32)), .val (.long ((1 : Int64) + ((q1 &&& (9223372036854775807 : Int64)) - ((q1 &&& (9223372036854775807 : Int64)) / (3153600000 : Int64)) * (3153600000 : Int64)))), .second, .val (.long ((1 : Int64) + ((q2 &&& (9223372036854775807 : Int64)) - ((q2 &&& (9223372036854775807 : Int64)) / (3153600000 : Int64)) * (3153600000 : Int64)))), .second, .unset, .unset, .unset] [(.int p3), (.int (1 : Int32))]) _
    refine Go.step (fun _ => X0.ldcInt hx hown (mvT hZ (hw _ (List.mem_of_getElem? (i := 2) rfl))) (g := (mkF m 50 #[.val (.int p0), .val (.long q1), .second, .val (.long q2), .second, .val (.int p3), .val (.int (0 : Int32)), .val (.long ((1 : Int64) + ((q1 &&& (9223372036854775807 : Int64)) - ((q1 &&& (9223372036854775807 : Int64)) / (3153600000 : Int64)) * (3153600000 : Int64)))), .second, .val (.long ((1 : Int64) + ((q2 &&& (9223372036854775807 : Int64)) - ((q2 &&& (9223372036854775807 : Int64)) / (3153600000 : Int64)) * (3153600000 : Int64)))), .second, .unset, .unset, .unset] [(.int p3), (.int (1 : Int32))])) rfl (hb hby at_50) _) ?_
    show Go p e below s₁ (mkF m 52 #[.val (.int p0), .val (.long q1), .second, .val (.long q2), .second, .val (.int p3), .val (.int (0 : Int32)), .val (.long ((1 : Int64) + ((q1 &&& (9223372036854775807 : Int64)) - ((q1 &&& (9223372036854775807 : Int64)) / (3153600000 : Int64)) * (3153600000 : Int64)))), .second, .val (.long ((1 : Int64) + ((q2 &&& (9223372036854775807 : Int64)) - ((q2 &&& (9223372036854775807 : Int64)) / (3153600000 : Int64)) * (3153600000 : Int64)))), .second, .unset, .unset, .unset] [(.int (2147483647 : Int32)), (.int p3), (.int (1 : Int32))]) _
    refine Go.step (fun _ => XS.iand X0.here hx rfl (hb hby at_52) rfl) ?_
    show Go p e below s₁ (mkF m 53 #[.val (.int p0), .val (.long q1), .second, .val (.long q2), .second, .val (.int p3), .val (.int (0 : Int32)), .val (.long ((1 : Int64) + ((q1 &&& (9223372036854775807 : Int64)) - ((q1 &&& (9223372036854775807 : Int64)) / (3153600000 : Int64)) * (3153600000 : Int64)))), .second, .val (.long ((1 : Int64) + ((q2 &&& (9223372036854775807 : Int64)) - ((q2 &&& (9223372036854775807 : Int64)) / (3153600000 : Int64)) * (3153600000 : Int64)))), .second, .unset, .unset, .unset] [(.int (p3 &&& (2147483647 : Int32))), (.int (1 : Int32))]) _
    refine Go.step (fun _ => XS.sipush X0.here hx rfl (hb hby at_53)) ?_
    show Go p e below s₁ (mkF m 56 #[.val (.int p0), .val (.long q1), .second, .val (.long q2), .second, .val (.int p3), .val (.int (0 : Int32)), .val (.long ((1 : Int64) + ((q1 &&& (9223372036854775807 : Int64)) - ((q1 &&& (9223372036854775807 : Int64)) / (3153600000 : Int64)) * (3153600000 : Int64)))), .second, .val (.long ((1 : Int64) + ((q2 &&& (9223372036854775807 : Int64)) - ((q2 &&& (9223372036854775807 : Int64)) / (3153600000 : Int64)) * (3153600000 : Int64)))), .second, .unset, .unset, .unset] [(.int (128 : Int32)), (.int (p3 &&& (2147483647 : Int32))), (.int (1 : Int32))]) _
    refine Go.step (fun _ => iremM X0 hx rfl (hb hby at_56) rfl (by decide)) ?_
    show Go p e below s₁ (mkF m 57 #[.val (.int p0), .val (.long q1), .second, .val (.long q2), .second, .val (.int p3), .val (.int (0 : Int32)), .val (.long ((1 : Int64) + ((q1 &&& (9223372036854775807 : Int64)) - ((q1 &&& (9223372036854775807 : Int64)) / (3153600000 : Int64)) * (3153600000 : Int64)))), .second, .val (.long ((1 : Int64) + ((q2 &&& (9223372036854775807 : Int64)) - ((q2 &&& (9223372036854775807 : Int64)) / (3153600000 : Int64)) * (3153600000 : Int64)))), .second, .unset, .unset, .unset] [(.int ((p3 &&& (2147483647 : Int32)) % (128 : Int32))), (.int (1 : Int32))]) _
    refine Go.step (fun _ => XS.iadd X0.here hx rfl (hb hby at_57) rfl) ?_
    show Go p e below s₁ (mkF m 58 #[.val (.int p0), .val (.long q1), .second, .val (.long q2), .second, .val (.int p3), .val (.int (0 : Int32)), .val (.long ((1 : Int64) + ((q1 &&& (9223372036854775807 : Int64)) - ((q1 &&& (9223372036854775807 : Int64)) / (3153600000 : Int64)) * (3153600000 : Int64)))), .second, .val (.long ((1 : Int64) + ((q2 &&& (9223372036854775807 : Int64)) - ((q2 &&& (9223372036854775807 : Int64)) / (3153600000 : Int64)) * (3153600000 : Int64)))), .second, .unset, .unset, .unset] [(.int ((1 : Int32) + ((p3 &&& (2147483647 : Int32)) % (128 : Int32))))]) _
    refine Go.step (fun _ => XS.istore X0.here hx rfl (hb hby at_58) rfl (l' := #[.val (.int p0), .val (.long q1), .second, .val (.long q2), .second, .val (.int p3), .val (.int (0 : Int32)), .val (.long ((1 : Int64) + ((q1 &&& (9223372036854775807 : Int64)) - ((q1 &&& (9223372036854775807 : Int64)) / (3153600000 : Int64)) * (3153600000 : Int64)))), .second, .val (.long ((1 : Int64) + ((q2 &&& (9223372036854775807 : Int64)) - ((q2 &&& (9223372036854775807 : Int64)) / (3153600000 : Int64)) * (3153600000 : Int64)))), .second, .val (.int ((1 : Int32) + ((p3 &&& (2147483647 : Int32)) % (128 : Int32)))), .unset, .unset]) rfl) ?_
    show Go p e below s₁ (mkF m 60 #[.val (.int p0), .val (.long q1), .second, .val (.long q2), .second, .val (.int p3), .val (.int (0 : Int32)), .val (.long ((1 : Int64) + ((q1 &&& (9223372036854775807 : Int64)) - ((q1 &&& (9223372036854775807 : Int64)) / (3153600000 : Int64)) * (3153600000 : Int64)))), .second, .val (.long ((1 : Int64) + ((q2 &&& (9223372036854775807 : Int64)) - ((q2 &&& (9223372036854775807 : Int64)) / (3153600000 : Int64)) * (3153600000 : Int64)))), .second, .val (.int ((1 : Int32) + ((p3 &&& (2147483647 : Int32)) % (128 : Int32)))), .unset, .unset] []) _
    obtain ⟨T8, h8, X8, e8, E8, A8, D8, -, st8⟩ := newO X0 hx hZ hown (hw _ (List.mem_of_getElem? (i := 3) rfl)) (hw _ (List.mem_of_getElem? (i := 4) rfl)) (hw _ (List.mem_of_getElem? (i := 5) rfl)) e0 (g := (mkF m 60 #[.val (.int p0), .val (.long q1), .second, .val (.long q2), .second, .val (.int p3), .val (.int (0 : Int32)), .val (.long ((1 : Int64) + ((q1 &&& (9223372036854775807 : Int64)) - ((q1 &&& (9223372036854775807 : Int64)) / (3153600000 : Int64)) * (3153600000 : Int64)))), .second, .val (.long ((1 : Int64) + ((q2 &&& (9223372036854775807 : Int64)) - ((q2 &&& (9223372036854775807 : Int64)) / (3153600000 : Int64)) * (3153600000 : Int64)))), .second, .val (.int ((1 : Int32) + ((p3 &&& (2147483647 : Int32)) % (128 : Int32)))), .unset, .unset] [])) rfl (hb hby at_60) (by decide) (by decide)
    obtain ⟨b8, g8⟩ : ∃ z, z = h0.size := ⟨_, rfl⟩
    rw [← g8] at A8 D8 st8
    have ne_wO_b8 : wO ≠ b8 := Nat.ne_of_lt (Nat.lt_of_lt_of_le EO.lt (Nat.le_of_eq g8.symm))
    have g_b8 : n0 ≤ b8 := Nat.le_trans Z0 (Nat.le_of_eq g8.symm)
    have SO_q8 := SO.ext E8
    have EO_q8 := EO.ext E8
    have FO_q8 := FO.ext E8
    have Z8 : n0 ≤ h8.size := Nat.le_trans Z0 E8.1
    refine Go.step st8 ?_
    have F_failures_b8 : Fld Z h8 b8 "com/example/rekey/rekey/server/LockoutPolicy" "failures" "I" (.int (0 : Int32)) := D8 (Or.inr (hw _ (List.mem_of_getElem? (i := 19) rfl))) (ty := .int) (by decide)
    have F_windowSecs_b8 : Fld Z h8 b8 "com/example/rekey/rekey/server/LockoutPolicy" "windowSecs" "J" (.long (0 : Int64)) := D8 (Or.inr (hw _ (List.mem_of_getElem? (i := 21) rfl))) (ty := .long) (by decide)
    have F_lockoutSecs_b8 : Fld Z h8 b8 "com/example/rekey/rekey/server/LockoutPolicy" "lockoutSecs" "J" (.long (0 : Int64)) := D8 (Or.inr (hw _ (List.mem_of_getElem? (i := 23) rfl))) (ty := .long) (by decide)
    have F_ipv6Prefix_b8 : Fld Z h8 b8 "com/example/rekey/rekey/server/LockoutPolicy" "ipv6Prefix" "I" (.int (0 : Int32)) := D8 (Or.inr (hw _ (List.mem_of_getElem? (i := 25) rfl))) (ty := .int) (by decide)
    show Go p e below T8 (mkF m 63 #[.val (.int p0), .val (.long q1), .second, .val (.long q2), .second, .val (.int p3), .val (.int (0 : Int32)), .val (.long ((1 : Int64) + ((q1 &&& (9223372036854775807 : Int64)) - ((q1 &&& (9223372036854775807 : Int64)) / (3153600000 : Int64)) * (3153600000 : Int64)))), .second, .val (.long ((1 : Int64) + ((q2 &&& (9223372036854775807 : Int64)) - ((q2 &&& (9223372036854775807 : Int64)) / (3153600000 : Int64)) * (3153600000 : Int64)))), .second, .val (.int ((1 : Int32) + ((p3 &&& (2147483647 : Int32)) % (128 : Int32)))), .unset, .unset] [(.ref b8)]) _
    refine Go.step (fun _ => XS.dup X8.here hx rfl (hb hby at_63) rfl rfl) ?_
    show Go p e below T8 (mkF m 64 #[.val (.int p0), .val (.long q1), .second, .val (.long q2), .second, .val (.int p3), .val (.int (0 : Int32)), .val (.long ((1 : Int64) + ((q1 &&& (9223372036854775807 : Int64)) - ((q1 &&& (9223372036854775807 : Int64)) / (3153600000 : Int64)) * (3153600000 : Int64)))), .second, .val (.long ((1 : Int64) + ((q2 &&& (9223372036854775807 : Int64)) - ((q2 &&& (9223372036854775807 : Int64)) / (3153600000 : Int64)) * (3153600000 : Int64)))), .second, .val (.int ((1 : Int32) + ((p3 &&& (2147483647 : Int32)) % (128 : Int32)))), .unset, .unset] [(.ref b8), (.ref b8)]) _
    refine Go.step (fun _ => XS.iload X8.here hx rfl (hb hby at_64) rfl ) ?_
    show Go p e below T8 (mkF m 66 #[.val (.int p0), .val (.long q1), .second, .val (.long q2), .second, .val (.int p3), .val (.int (0 : Int32)), .val (.long ((1 : Int64) + ((q1 &&& (9223372036854775807 : Int64)) - ((q1 &&& (9223372036854775807 : Int64)) / (3153600000 : Int64)) * (3153600000 : Int64)))), .second, .val (.long ((1 : Int64) + ((q2 &&& (9223372036854775807 : Int64)) - ((q2 &&& (9223372036854775807 : Int64)) / (3153600000 : Int64)) * (3153600000 : Int64)))), .second, .val (.int ((1 : Int32) + ((p3 &&& (2147483647 : Int32)) % (128 : Int32)))), .unset, .unset] [(.int (0 : Int32)), (.ref b8), (.ref b8)]) _
    refine Go.step (fun _ => XS.lload X8.here hx rfl (hb hby at_66) rfl ) ?_
    show Go p e below T8 (mkF m 68 #[.val (.int p0), .val (.long q1), .second, .val (.long q2), .second, .val (.int p3), .val (.int (0 : Int32)), .val (.long ((1 : Int64) + ((q1 &&& (9223372036854775807 : Int64)) - ((q1 &&& (9223372036854775807 : Int64)) / (3153600000 : Int64)) * (3153600000 : Int64)))), .second, .val (.long ((1 : Int64) + ((q2 &&& (9223372036854775807 : Int64)) - ((q2 &&& (9223372036854775807 : Int64)) / (3153600000 : Int64)) * (3153600000 : Int64)))), .second, .val (.int ((1 : Int32) + ((p3 &&& (2147483647 : Int32)) % (128 : Int32)))), .unset, .unset] [(.long ((1 : Int64) + ((q1 &&& (9223372036854775807 : Int64)) - ((q1 &&& (9223372036854775807 : Int64)) / (3153600000 : Int64)) * (3153600000 : Int64)))), (.int (0 : Int32)), (.ref b8), (.ref b8)]) _
    refine Go.step (fun _ => XS.lload X8.here hx rfl (hb hby at_68) rfl ) ?_
    show Go p e below T8 (mkF m 70 #[.val (.int p0), .val (.long q1), .second, .val (.long q2), .second, .val (.int p3), .val (.int (0 : Int32)), .val (.long ((1 : Int64) + ((q1 &&& (9223372036854775807 : Int64)) - ((q1 &&& (9223372036854775807 : Int64)) / (3153600000 : Int64)) * (3153600000 : Int64)))), .second, .val (.long ((1 : Int64) + ((q2 &&& (9223372036854775807 : Int64)) - ((q2 &&& (9223372036854775807 : Int64)) / (3153600000 : Int64)) * (3153600000 : Int64)))), .second, .val (.int ((1 : Int32) + ((p3 &&& (2147483647 : Int32)) % (128 : Int32)))), .unset, .unset] [(.long ((1 : Int64) + ((q2 &&& (9223372036854775807 : Int64)) - ((q2 &&& (9223372036854775807 : Int64)) / (3153600000 : Int64)) * (3153600000 : Int64)))), (.long ((1 : Int64) + ((q1 &&& (9223372036854775807 : Int64)) - ((q1 &&& (9223372036854775807 : Int64)) / (3153600000 : Int64)) * (3153600000 : Int64)))), (.int (0 : Int32)), (.ref b8), (.ref b8)]) _
    refine Go.step (fun _ => XS.iload X8.here hx rfl (hb hby at_70) rfl ) ?_
    show Go p e below T8 (mkF m 72 #[.val (.int p0), .val (.long q1), .second, .val (.long q2), .second, .val (.int p3), .val (.int (0 : Int32)), .val (.long ((1 : Int64) + ((q1 &&& (9223372036854775807 : Int64)) - ((q1 &&& (9223372036854775807 : Int64)) / (3153600000 : Int64)) * (3153600000 : Int64)))), .second, .val (.long ((1 : Int64) + ((q2 &&& (9223372036854775807 : Int64)) - ((q2 &&& (9223372036854775807 : Int64)) / (3153600000 : Int64)) * (3153600000 : Int64)))), .second, .val (.int ((1 : Int32) + ((p3 &&& (2147483647 : Int32)) % (128 : Int32)))), .unset, .unset] [(.int ((1 : Int32) + ((p3 &&& (2147483647 : Int32)) % (128 : Int32)))), (.long ((1 : Int64) + ((q2 &&& (9223372036854775807 : Int64)) - ((q2 &&& (9223372036854775807 : Int64)) / (3153600000 : Int64)) * (3153600000 : Int64)))), (.long ((1 : Int64) + ((q1 &&& (9223372036854775807 : Int64)) - ((q1 &&& (9223372036854775807 : Int64)) / (3153600000 : Int64)) * (3153600000 : Int64)))), (.int (0 : Int32)), (.ref b8), (.ref b8)]) _
    obtain ⟨_, _, ⟨T9, L9, k9, n9⟩, -, X9, ⟨Lc9, hQ9, l9, y9, z9⟩, st9⟩ := X8.specialBack hx (y := (⟨"com/example/rekey/rekey/server/LockoutPolicy", "<init>", "(IJJI)V"⟩ : MethodName)) rfl hown (mvT hZ (hw _ (List.mem_of_getElem? (i := 6) rfl))) (mvT hZ (hw _ (List.mem_of_getElem? (i := 7) rfl))) (mvT hZ (hw _ (List.mem_of_getElem? (i := 8) rfl))) (by decide) (backOf (W := 1) (rm1 l Z a0 hw [] b8 (0 : Int32) ((1 : Int64) + ((q1 &&& (9223372036854775807 : Int64)) - ((q1 &&& (9223372036854775807 : Int64)) / (3153600000 : Int64)) * (3153600000 : Int64))) ((1 : Int64) + ((q2 &&& (9223372036854775807 : Int64)) - ((q2 &&& (9223372036854775807 : Int64)) / (3153600000 : Int64)) * (3153600000 : Int64))) ((1 : Int32) + ((p3 &&& (2147483647 : Int32)) % (128 : Int32))) h8 n0 Z8 A8 F_failures_b8 F_windowSecs_b8 F_lockoutSecs_b8 F_ipv6Prefix_b8 g_b8 (by decide) (by decide) (own_win q1).1 (own_win q1).2 (own_win q2).1 (own_win q2).2 (own_pre p3).1 (own_pre p3).2) hZ (hw _ (List.mem_of_getElem? (i := 8) rfl)) (hw _ (List.mem_of_getElem? (i := 5) rfl)) (by decide) (by decide)) (g := (mkF m 72 #[.val (.int p0), .val (.long q1), .second, .val (.long q2), .second, .val (.int p3), .val (.int (0 : Int32)), .val (.long ((1 : Int64) + ((q1 &&& (9223372036854775807 : Int64)) - ((q1 &&& (9223372036854775807 : Int64)) / (3153600000 : Int64)) * (3153600000 : Int64)))), .second, .val (.long ((1 : Int64) + ((q2 &&& (9223372036854775807 : Int64)) - ((q2 &&& (9223372036854775807 : Int64)) / (3153600000 : Int64)) * (3153600000 : Int64)))), .second, .val (.int ((1 : Int32) + ((p3 &&& (2147483647 : Int32)) % (128 : Int32)))), .unset, .unset] [(.int ((1 : Int32) + ((p3 &&& (2147483647 : Int32)) % (128 : Int32)))), (.long ((1 : Int64) + ((q2 &&& (9223372036854775807 : Int64)) - ((q2 &&& (9223372036854775807 : Int64)) / (3153600000 : Int64)) * (3153600000 : Int64)))), (.long ((1 : Int64) + ((q1 &&& (9223372036854775807 : Int64)) - ((q1 &&& (9223372036854775807 : Int64)) / (3153600000 : Int64)) * (3153600000 : Int64)))), (.int (0 : Int32)), (.ref b8), (.ref b8)])) rfl (by rw [hml]; rfl) (Steps.refl _) (a := b8) (argsL := [(.int (0 : Int32)), (.long ((1 : Int64) + ((q1 &&& (9223372036854775807 : Int64)) - ((q1 &&& (9223372036854775807 : Int64)) / (3153600000 : Int64)) * (3153600000 : Int64)))), (.long ((1 : Int64) + ((q2 &&& (9223372036854775807 : Int64)) - ((q2 &&& (9223372036854775807 : Int64)) / (3153600000 : Int64)) * (3153600000 : Int64)))), (.int ((1 : Int32) + ((p3 &&& (2147483647 : Int32)) % (128 : Int32))))]) (rest := [(.ref b8)]) (lenOf pd_1 rfl) rfl (by show 2 * 0 + _ ≤ _; exact Nat.le_of_eq rfl) (hb hby at_72) (fun _ _ => ⟨rfl, e8, (by decide : 0 + 1 + 0 ≤ _), (by decide : 0 + 4 + 0 ≤ _)⟩)
    dsimp only [Pt.U, Pt.locs, Pt.cells, Pt.slots] at X9 l9 y9 z9 st9 hQ9
    subst l9 y9 z9
    obtain ⟨rfl, Nq9, K9, Ex9, Fx9⟩ := hQ9
    have N9 := Fr.app N0 Nq9
    refine Go.call st9 ?_
    have SO_q9 := own_staKeep SO_q8 K9 (allS (own_plainE A8) all0)
    have EO_q9 := EO_q8.keep K9
    have FO_q9 := FO_q8.keep K9 (ninS ne_wO_b8 nin0)
    have A8_q9 := A8.keep K9
    have Z9 : n0 ≤ T9.heap.size := Nat.le_trans Z8 K9.1
    show Go p e below T9 (mkF m 75 #[.val (.int p0), .val (.long q1), .second, .val (.long q2), .second, .val (.int p3), .val (.int (0 : Int32)), .val (.long ((1 : Int64) + ((q1 &&& (9223372036854775807 : Int64)) - ((q1 &&& (9223372036854775807 : Int64)) / (3153600000 : Int64)) * (3153600000 : Int64)))), .second, .val (.long ((1 : Int64) + ((q2 &&& (9223372036854775807 : Int64)) - ((q2 &&& (9223372036854775807 : Int64)) / (3153600000 : Int64)) * (3153600000 : Int64)))), .second, .val (.int ((1 : Int32) + ((p3 &&& (2147483647 : Int32)) % (128 : Int32)))), .unset, .unset] [(.ref b8)]) _
    refine Go.step (fun _ => XS.astore X9.here hx rfl (hb hby at_75) rfl rfl (l' := #[.val (.int p0), .val (.long q1), .second, .val (.long q2), .second, .val (.int p3), .val (.int (0 : Int32)), .val (.long ((1 : Int64) + ((q1 &&& (9223372036854775807 : Int64)) - ((q1 &&& (9223372036854775807 : Int64)) / (3153600000 : Int64)) * (3153600000 : Int64)))), .second, .val (.long ((1 : Int64) + ((q2 &&& (9223372036854775807 : Int64)) - ((q2 &&& (9223372036854775807 : Int64)) / (3153600000 : Int64)) * (3153600000 : Int64)))), .second, .val (.int ((1 : Int32) + ((p3 &&& (2147483647 : Int32)) % (128 : Int32)))), .val (.ref b8), .unset]) rfl) ?_
    show Go p e below T9 (mkF m 77 #[.val (.int p0), .val (.long q1), .second, .val (.long q2), .second, .val (.int p3), .val (.int (0 : Int32)), .val (.long ((1 : Int64) + ((q1 &&& (9223372036854775807 : Int64)) - ((q1 &&& (9223372036854775807 : Int64)) / (3153600000 : Int64)) * (3153600000 : Int64)))), .second, .val (.long ((1 : Int64) + ((q2 &&& (9223372036854775807 : Int64)) - ((q2 &&& (9223372036854775807 : Int64)) / (3153600000 : Int64)) * (3153600000 : Int64)))), .second, .val (.int ((1 : Int32) + ((p3 &&& (2147483647 : Int32)) % (128 : Int32)))), .val (.ref b8), .unset] []) _
    refine Go.step (fun _ => XS.iload X9.here hx rfl (hb hby at_77) rfl ) ?_
    show Go p e below T9 (mkF m 79 #[.val (.int p0), .val (.long q1), .second, .val (.long q2), .second, .val (.int p3), .val (.int (0 : Int32)), .val (.long ((1 : Int64) + ((q1 &&& (9223372036854775807 : Int64)) - ((q1 &&& (9223372036854775807 : Int64)) / (3153600000 : Int64)) * (3153600000 : Int64)))), .second, .val (.long ((1 : Int64) + ((q2 &&& (9223372036854775807 : Int64)) - ((q2 &&& (9223372036854775807 : Int64)) / (3153600000 : Int64)) * (3153600000 : Int64)))), .second, .val (.int ((1 : Int32) + ((p3 &&& (2147483647 : Int32)) % (128 : Int32)))), .val (.ref b8), .unset] [(.int (0 : Int32))]) _
    refine Go.step (fun _ => XS.ifNo X9.here hx rfl (hb hby at_79) rfl ((if0 _ _).trans (teq (by decide)).2)) ?_
    show Go p e below T9 (mkF m 82 #[.val (.int p0), .val (.long q1), .second, .val (.long q2), .second, .val (.int p3), .val (.int (0 : Int32)), .val (.long ((1 : Int64) + ((q1 &&& (9223372036854775807 : Int64)) - ((q1 &&& (9223372036854775807 : Int64)) / (3153600000 : Int64)) * (3153600000 : Int64)))), .second, .val (.long ((1 : Int64) + ((q2 &&& (9223372036854775807 : Int64)) - ((q2 &&& (9223372036854775807 : Int64)) / (3153600000 : Int64)) * (3153600000 : Int64)))), .second, .val (.int ((1 : Int32) + ((p3 &&& (2147483647 : Int32)) % (128 : Int32)))), .val (.ref b8), .unset] []) _
    refine Go.step (fun _ => XS.iconst X9.here hx rfl (hb hby at_82)) ?_
    show Go p e below T9 (mkF m 83 #[.val (.int p0), .val (.long q1), .second, .val (.long q2), .second, .val (.int p3), .val (.int (0 : Int32)), .val (.long ((1 : Int64) + ((q1 &&& (9223372036854775807 : Int64)) - ((q1 &&& (9223372036854775807 : Int64)) / (3153600000 : Int64)) * (3153600000 : Int64)))), .second, .val (.long ((1 : Int64) + ((q2 &&& (9223372036854775807 : Int64)) - ((q2 &&& (9223372036854775807 : Int64)) / (3153600000 : Int64)) * (3153600000 : Int64)))), .second, .val (.int ((1 : Int32) + ((p3 &&& (2147483647 : Int32)) % (128 : Int32)))), .val (.ref b8), .unset] [(.int (1 : Int32))]) _
    refine Go.step (fun _ => XS.goto X9.here hx rfl (pc0 := 83) (pc' := 87) rfl (hb hby at_83) (by decide) (by decide)) ?_
    show Go p e below T9 (mkF m 87 #[.val (.int p0), .val (.long q1), .second, .val (.long q2), .second, .val (.int p3), .val (.int (0 : Int32)), .val (.long ((1 : Int64) + ((q1 &&& (9223372036854775807 : Int64)) - ((q1 &&& (9223372036854775807 : Int64)) / (3153600000 : Int64)) * (3153600000 : Int64)))), .second, .val (.long ((1 : Int64) + ((q2 &&& (9223372036854775807 : Int64)) - ((q2 &&& (9223372036854775807 : Int64)) / (3153600000 : Int64)) * (3153600000 : Int64)))), .second, .val (.int ((1 : Int32) + ((p3 &&& (2147483647 : Int32)) % (128 : Int32)))), .val (.ref b8), .unset] [(.int (1 : Int32))]) _
    refine Go.step (fun _ => XS.istore X9.here hx rfl (hb hby at_87) rfl (l' := #[.val (.int p0), .val (.long q1), .second, .val (.long q2), .second, .val (.int p3), .val (.int (0 : Int32)), .val (.long ((1 : Int64) + ((q1 &&& (9223372036854775807 : Int64)) - ((q1 &&& (9223372036854775807 : Int64)) / (3153600000 : Int64)) * (3153600000 : Int64)))), .second, .val (.long ((1 : Int64) + ((q2 &&& (9223372036854775807 : Int64)) - ((q2 &&& (9223372036854775807 : Int64)) / (3153600000 : Int64)) * (3153600000 : Int64)))), .second, .val (.int ((1 : Int32) + ((p3 &&& (2147483647 : Int32)) % (128 : Int32)))), .val (.ref b8), .val (.int (1 : Int32))]) rfl) ?_
    show Go p e below T9 (mkF m 89 #[.val (.int p0), .val (.long q1), .second, .val (.long q2), .second, .val (.int p3), .val (.int (0 : Int32)), .val (.long ((1 : Int64) + ((q1 &&& (9223372036854775807 : Int64)) - ((q1 &&& (9223372036854775807 : Int64)) / (3153600000 : Int64)) * (3153600000 : Int64)))), .second, .val (.long ((1 : Int64) + ((q2 &&& (9223372036854775807 : Int64)) - ((q2 &&& (9223372036854775807 : Int64)) / (3153600000 : Int64)) * (3153600000 : Int64)))), .second, .val (.int ((1 : Int32) + ((p3 &&& (2147483647 : Int32)) % (128 : Int32)))), .val (.ref b8), .val (.int (1 : Int32))] []) _
    refine Go.step (fun _ => XS.aload X9.here hx rfl (hb hby at_89) rfl rfl ) ?_
    show Go p e below T9 (mkF m 91 #[.val (.int p0), .val (.long q1), .second, .val (.long q2), .second, .val (.int p3), .val (.int (0 : Int32)), .val (.long ((1 : Int64) + ((q1 &&& (9223372036854775807 : Int64)) - ((q1 &&& (9223372036854775807 : Int64)) / (3153600000 : Int64)) * (3153600000 : Int64)))), .second, .val (.long ((1 : Int64) + ((q2 &&& (9223372036854775807 : Int64)) - ((q2 &&& (9223372036854775807 : Int64)) / (3153600000 : Int64)) * (3153600000 : Int64)))), .second, .val (.int ((1 : Int32) + ((p3 &&& (2147483647 : Int32)) % (128 : Int32)))), .val (.ref b8), .val (.int (1 : Int32))] [(.ref b8)]) _
    obtain ⟨cq10, kq10, q10a, q10b, q10c⟩ := isOf hZ rfl A8_q9
    obtain ⟨_, _, ⟨T10, L10, k10, n10⟩, -, X10, ⟨Lc10, hQ10, l10, y10, z10⟩, st10⟩ := X9.virtualBack hx (y := (⟨"com/example/rekey/rekey/server/LockoutPolicy", "isOff", "()Z"⟩ : MethodName)) (z := (⟨"com/example/rekey/rekey/server/LockoutPolicy", "isOff", "()Z"⟩ : MethodName)) hown (mvT hZ (hw _ (List.mem_of_getElem? (i := 26) rfl))) (mvT hZ (hw _ (List.mem_of_getElem? (i := 27) rfl))) (notFace_of_selects (args := #[]) (mvT hZ (hw _ (List.mem_of_getElem? (i := 29) rfl)))) (mvT hZ (hw _ (List.mem_of_getElem? (i := 29) rfl))) (mvT hZ (hw _ (List.mem_of_getElem? (i := 28) rfl))) (by decide) (backOf (W := 0) (rm4 l Z a0 hw [] b8 (0 : Int32) (1 : Int32) T9.heap n0 Z9 Fx9 (by decide)) hZ (hw _ (List.mem_of_getElem? (i := 30) rfl)) (hw _ (List.mem_of_getElem? (i := 5) rfl)) (by decide) (by decide)) q10a q10c (g := (mkF m 91 #[.val (.int p0), .val (.long q1), .second, .val (.long q2), .second, .val (.int p3), .val (.int (0 : Int32)), .val (.long ((1 : Int64) + ((q1 &&& (9223372036854775807 : Int64)) - ((q1 &&& (9223372036854775807 : Int64)) / (3153600000 : Int64)) * (3153600000 : Int64)))), .second, .val (.long ((1 : Int64) + ((q2 &&& (9223372036854775807 : Int64)) - ((q2 &&& (9223372036854775807 : Int64)) / (3153600000 : Int64)) * (3153600000 : Int64)))), .second, .val (.int ((1 : Int32) + ((p3 &&& (2147483647 : Int32)) % (128 : Int32)))), .val (.ref b8), .val (.int (1 : Int32))] [(.ref b8)])) rfl (by rw [hml]; rfl) (Steps.refl _) (argsL := []) (rest := []) (lenOf pd_2 rfl) rfl (by show 2 * 0 + _ ≤ _; exact Nat.le_of_eq rfl) (hb hby at_91) (fun _ _ => ⟨rfl, rfl, (by decide : 0 + 1 + 0 + 0 ≤ _), (by decide : 0 + 4 + 0 + 0 ≤ _)⟩)
    dsimp only [Pt.U, Pt.locs, Pt.cells, Pt.slots] at X10 l10 y10 z10 st10 hQ10
    subst l10 y10 z10
    obtain ⟨rfl, Nq10, eh10⟩ := hQ10
    have N10 := Fr.app N9 Nq10
    refine Go.call st10 ?_
    show Go p e below T10 (mkF m 94 #[.val (.int p0), .val (.long q1), .second, .val (.long q2), .second, .val (.int p3), .val (.int (0 : Int32)), .val (.long ((1 : Int64) + ((q1 &&& (9223372036854775807 : Int64)) - ((q1 &&& (9223372036854775807 : Int64)) / (3153600000 : Int64)) * (3153600000 : Int64)))), .second, .val (.long ((1 : Int64) + ((q2 &&& (9223372036854775807 : Int64)) - ((q2 &&& (9223372036854775807 : Int64)) / (3153600000 : Int64)) * (3153600000 : Int64)))), .second, .val (.int ((1 : Int32) + ((p3 &&& (2147483647 : Int32)) % (128 : Int32)))), .val (.ref b8), .val (.int (1 : Int32))] [(.int (1 : Int32))]) _
    refine Go.step (fun _ => XS.iload X10.here hx rfl (hb hby at_94) rfl ) ?_
    show Go p e below T10 (mkF m 96 #[.val (.int p0), .val (.long q1), .second, .val (.long q2), .second, .val (.int p3), .val (.int (0 : Int32)), .val (.long ((1 : Int64) + ((q1 &&& (9223372036854775807 : Int64)) - ((q1 &&& (9223372036854775807 : Int64)) / (3153600000 : Int64)) * (3153600000 : Int64)))), .second, .val (.long ((1 : Int64) + ((q2 &&& (9223372036854775807 : Int64)) - ((q2 &&& (9223372036854775807 : Int64)) / (3153600000 : Int64)) * (3153600000 : Int64)))), .second, .val (.int ((1 : Int32) + ((p3 &&& (2147483647 : Int32)) % (128 : Int32)))), .val (.ref b8), .val (.int (1 : Int32))] [(.int (1 : Int32)), (.int (1 : Int32))]) _
    refine Go.step (fun _ => XS.icmpNo X10.here hx rfl (hb hby at_96) rfl (teq (by decide)).2) ?_
    show Go p e below T10 (mkF m 99 #[.val (.int p0), .val (.long q1), .second, .val (.long q2), .second, .val (.int p3), .val (.int (0 : Int32)), .val (.long ((1 : Int64) + ((q1 &&& (9223372036854775807 : Int64)) - ((q1 &&& (9223372036854775807 : Int64)) / (3153600000 : Int64)) * (3153600000 : Int64)))), .second, .val (.long ((1 : Int64) + ((q2 &&& (9223372036854775807 : Int64)) - ((q2 &&& (9223372036854775807 : Int64)) / (3153600000 : Int64)) * (3153600000 : Int64)))), .second, .val (.int ((1 : Int32) + ((p3 &&& (2147483647 : Int32)) % (128 : Int32)))), .val (.ref b8), .val (.int (1 : Int32))] []) _
    obtain ⟨T11, X11, e11, st11⟩ := getS2 X10 hx hZ hown (host := "") (Or.inl (hw _ (List.mem_of_getElem? (i := 31) rfl))) Via.refl eh10 SO_q9 (g := (mkF m 99 #[.val (.int p0), .val (.long q1), .second, .val (.long q2), .second, .val (.int p3), .val (.int (0 : Int32)), .val (.long ((1 : Int64) + ((q1 &&& (9223372036854775807 : Int64)) - ((q1 &&& (9223372036854775807 : Int64)) / (3153600000 : Int64)) * (3153600000 : Int64)))), .second, .val (.long ((1 : Int64) + ((q2 &&& (9223372036854775807 : Int64)) - ((q2 &&& (9223372036854775807 : Int64)) / (3153600000 : Int64)) * (3153600000 : Int64)))), .second, .val (.int ((1 : Int32) + ((p3 &&& (2147483647 : Int32)) % (128 : Int32)))), .val (.ref b8), .val (.int (1 : Int32))] [])) rfl (hb hby at_99)
    refine Go.step st11 ?_
    show Go p e below T11 (mkF m 102 #[.val (.int p0), .val (.long q1), .second, .val (.long q2), .second, .val (.int p3), .val (.int (0 : Int32)), .val (.long ((1 : Int64) + ((q1 &&& (9223372036854775807 : Int64)) - ((q1 &&& (9223372036854775807 : Int64)) / (3153600000 : Int64)) * (3153600000 : Int64)))), .second, .val (.long ((1 : Int64) + ((q2 &&& (9223372036854775807 : Int64)) - ((q2 &&& (9223372036854775807 : Int64)) / (3153600000 : Int64)) * (3153600000 : Int64)))), .second, .val (.int ((1 : Int32) + ((p3 &&& (2147483647 : Int32)) % (128 : Int32)))), .val (.ref b8), .val (.int (1 : Int32))] [(.ref wO)]) _
    obtain ⟨cq12, kq12, q12a, q12b, q12c⟩ := isOf hZ e11 EO_q9
    obtain ⟨_, _, ⟨T12, L12, k12, n12⟩, -, X12, ⟨Lc12, hQ12, l12, y12, z12⟩, st12⟩ := X11.virtualBack hx (y := (⟨"com/example/rekey/rekey/server/LockoutPolicy", "isOff", "()Z"⟩ : MethodName)) (z := (⟨"com/example/rekey/rekey/server/LockoutPolicy", "isOff", "()Z"⟩ : MethodName)) hown (mvT hZ (hw _ (List.mem_of_getElem? (i := 26) rfl))) (mvT hZ (hw _ (List.mem_of_getElem? (i := 27) rfl))) (notFace_of_selects (args := #[]) (mvT hZ (hw _ (List.mem_of_getElem? (i := 29) rfl)))) (mvT hZ (hw _ (List.mem_of_getElem? (i := 29) rfl))) (mvT hZ (hw _ (List.mem_of_getElem? (i := 28) rfl))) (by decide) (backOf (W := 0) (rm4 l Z a0 hw [] wO (0 : Int32) (1 : Int32) T9.heap n0 Z9 FO_q9 (by decide)) hZ (hw _ (List.mem_of_getElem? (i := 30) rfl)) (hw _ (List.mem_of_getElem? (i := 5) rfl)) (by decide) (by decide)) q12a q12c (g := (mkF m 102 #[.val (.int p0), .val (.long q1), .second, .val (.long q2), .second, .val (.int p3), .val (.int (0 : Int32)), .val (.long ((1 : Int64) + ((q1 &&& (9223372036854775807 : Int64)) - ((q1 &&& (9223372036854775807 : Int64)) / (3153600000 : Int64)) * (3153600000 : Int64)))), .second, .val (.long ((1 : Int64) + ((q2 &&& (9223372036854775807 : Int64)) - ((q2 &&& (9223372036854775807 : Int64)) / (3153600000 : Int64)) * (3153600000 : Int64)))), .second, .val (.int ((1 : Int32) + ((p3 &&& (2147483647 : Int32)) % (128 : Int32)))), .val (.ref b8), .val (.int (1 : Int32))] [(.ref wO)])) rfl (by rw [hml]; rfl) (Steps.refl _) (argsL := []) (rest := []) (lenOf pd_2 rfl) rfl (by show 2 * 0 + _ ≤ _; exact Nat.le_of_eq rfl) (hb hby at_102) (fun _ _ => ⟨rfl, e11, (by decide : 0 + 1 + 0 + 0 + 0 ≤ _), (by decide : 0 + 4 + 0 + 0 + 0 ≤ _)⟩)
    dsimp only [Pt.U, Pt.locs, Pt.cells, Pt.slots] at X12 l12 y12 z12 st12 hQ12
    subst l12 y12 z12
    obtain ⟨rfl, Nq12, eh12⟩ := hQ12
    have N12 := Fr.app N10 Nq12
    refine Go.call st12 ?_
    show Go p e below T12 (mkF m 105 #[.val (.int p0), .val (.long q1), .second, .val (.long q2), .second, .val (.int p3), .val (.int (0 : Int32)), .val (.long ((1 : Int64) + ((q1 &&& (9223372036854775807 : Int64)) - ((q1 &&& (9223372036854775807 : Int64)) / (3153600000 : Int64)) * (3153600000 : Int64)))), .second, .val (.long ((1 : Int64) + ((q2 &&& (9223372036854775807 : Int64)) - ((q2 &&& (9223372036854775807 : Int64)) / (3153600000 : Int64)) * (3153600000 : Int64)))), .second, .val (.int ((1 : Int32) + ((p3 &&& (2147483647 : Int32)) % (128 : Int32)))), .val (.ref b8), .val (.int (1 : Int32))] [(.int (1 : Int32))]) _
    refine Go.step (fun _ => XS.ifNo X12.here hx rfl (hb hby at_105) rfl ((if0 _ _).trans (feq (by decide)).1)) ?_
    show Go p e below T12 (mkF m 108 #[.val (.int p0), .val (.long q1), .second, .val (.long q2), .second, .val (.int p3), .val (.int (0 : Int32)), .val (.long ((1 : Int64) + ((q1 &&& (9223372036854775807 : Int64)) - ((q1 &&& (9223372036854775807 : Int64)) / (3153600000 : Int64)) * (3153600000 : Int64)))), .second, .val (.long ((1 : Int64) + ((q2 &&& (9223372036854775807 : Int64)) - ((q2 &&& (9223372036854775807 : Int64)) / (3153600000 : Int64)) * (3153600000 : Int64)))), .second, .val (.int ((1 : Int32) + ((p3 &&& (2147483647 : Int32)) % (128 : Int32)))), .val (.ref b8), .val (.int (1 : Int32))] []) _
    refine Go.step (fun _ => XS.iconst X12.here hx rfl (hb hby at_108)) ?_
    show Go p e below T12 (mkF m 109 #[.val (.int p0), .val (.long q1), .second, .val (.long q2), .second, .val (.int p3), .val (.int (0 : Int32)), .val (.long ((1 : Int64) + ((q1 &&& (9223372036854775807 : Int64)) - ((q1 &&& (9223372036854775807 : Int64)) / (3153600000 : Int64)) * (3153600000 : Int64)))), .second, .val (.long ((1 : Int64) + ((q2 &&& (9223372036854775807 : Int64)) - ((q2 &&& (9223372036854775807 : Int64)) / (3153600000 : Int64)) * (3153600000 : Int64)))), .second, .val (.int ((1 : Int32) + ((p3 &&& (2147483647 : Int32)) % (128 : Int32)))), .val (.ref b8), .val (.int (1 : Int32))] [(.int (1 : Int32))]) _
    refine Go.step (fun _ => XS.goto X12.here hx rfl (pc0 := 109) (pc' := 113) rfl (hb hby at_109) (by decide) (by decide)) ?_
    show Go p e below T12 (mkF m 113 #[.val (.int p0), .val (.long q1), .second, .val (.long q2), .second, .val (.int p3), .val (.int (0 : Int32)), .val (.long ((1 : Int64) + ((q1 &&& (9223372036854775807 : Int64)) - ((q1 &&& (9223372036854775807 : Int64)) / (3153600000 : Int64)) * (3153600000 : Int64)))), .second, .val (.long ((1 : Int64) + ((q2 &&& (9223372036854775807 : Int64)) - ((q2 &&& (9223372036854775807 : Int64)) / (3153600000 : Int64)) * (3153600000 : Int64)))), .second, .val (.int ((1 : Int32) + ((p3 &&& (2147483647 : Int32)) % (128 : Int32)))), .val (.ref b8), .val (.int (1 : Int32))] [(.int (1 : Int32))]) _
    refine Go.retN (t := .boolean) (z' := (1 : Int32)) X12 hx hret (by simp) hlk (hb hby at_113) (by decide) ?_ (by decide) (by decide)
    exact ⟨rfl, N12⟩
  · skip
    refine Go.step (fun _ => XS.ifYes X0.here hx rfl (pc0 := 3) (pc' := 12) rfl (hb hby at_3) rfl ((if0 _ _).trans (feq hc3).2) (by decide) (by decide)) ?_
    show Go p e below s₁ (mkF m 12 #[.val (.int p0), .val (.long q1), .second, .val (.long q2), .second, .val (.int p3), .unset, .unset, .unset, .unset, .unset, .unset, .unset, .unset] []) _
    refine Go.step (fun _ => XS.iloadN X0.here hx rfl (hb hby at_12) rfl ) ?_
    show Go p e below s₁ (mkF m 13 #[.val (.int p0), .val (.long q1), .second, .val (.long q2), .second, .val (.int p3), .unset, .unset, .unset, .unset, .unset, .unset, .unset, .unset] [(.int p0)]) _
    refine Go.step (fun _ => XS.iconst X0.here hx rfl (hb hby at_13)) ?_
    show Go p e below s₁ (mkF m 14 #[.val (.int p0), .val (.long q1), .second, .val (.long q2), .second, .val (.int p3), .unset, .unset, .unset, .unset, .unset, .unset, .unset, .unset] [(.int (1 : Int32)), (.int p0)]) _
    refine Go.step (fun _ => XS.iushr X0.here hx rfl (hb hby at_14) rfl) ?_
    show Go p e below s₁ (mkF m 15 #[.val (.int p0), .val (.long q1), .second, .val (.long q2), .second, .val (.int p3), .unset, .unset, .unset, .unset, .unset, .unset, .unset, .unset] [(.int ((p0.toUInt32 >>> ((1 : Int32) &&& 31).toUInt32).toInt32))]) _
    refine Go.step (fun _ => XS.sipush X0.here hx rfl (hb hby at_15)) ?_
    show Go p e below s₁ (mkF m 18 #[.val (.int p0), .val (.long q1), .second, .val (.long q2), .second, .val (.int p3), .unset, .unset, .unset, .unset, .unset, .unset, .unset, .unset] [(.int (1001 : Int32)), (.int ((p0.toUInt32 >>> ((1 : Int32) &&& 31).toUInt32).toInt32))]) _
    refine Go.step (fun _ => iremM X0 hx rfl (hb hby at_18) rfl (by decide)) ?_
    show Go p e below s₁ (mkF m 19 #[.val (.int p0), .val (.long q1), .second, .val (.long q2), .second, .val (.int p3), .unset, .unset, .unset, .unset, .unset, .unset, .unset, .unset] [(.int (((p0.toUInt32 >>> ((1 : Int32) &&& 31).toUInt32).toInt32) % (1001 : Int32)))]) _
    refine Go.step (fun _ => XS.istore X0.here hx rfl (hb hby at_19) rfl (l' := #[.val (.int p0), .val (.long q1), .second, .val (.long q2), .second, .val (.int p3), .val (.int (((p0.toUInt32 >>> ((1 : Int32) &&& 31).toUInt32).toInt32) % (1001 : Int32))), .unset, .unset, .unset, .unset, .unset, .unset, .unset]) rfl) ?_
    show Go p e below s₁ (mkF m 21 #[.val (.int p0), .val (.long q1), .second, .val (.long q2), .second, .val (.int p3), .val (.int (((p0.toUInt32 >>> ((1 : Int32) &&& 31).toUInt32).toInt32) % (1001 : Int32))), .unset, .unset, .unset, .unset, .unset, .unset, .unset] []) _
    refine Go.step (fun _ => XS.lconst X0.here hx rfl (hb hby at_21)) ?_
    show Go p e below s₁ (mkF m 22 #[.val (.int p0), .val (.long q1), .second, .val (.long q2), .second, .val (.int p3), .val (.int (((p0.toUInt32 >>> ((1 : Int32) &&& 31).toUInt32).toInt32) % (1001 : Int32))), .unset, .unset, .unset, .unset, .unset, .unset, .unset] [(.long (1 : Int64))]) _
    refine Go.step (fun _ => XS.lloadN X0.here hx rfl (hb hby at_22) rfl ) ?_
    show Go p e below s₁ (mkF m 23 #[.val (.int p0), .val (.long q1), .second, .val (.long q2), .second, .val (.int p3), .val (.int (((p0.toUInt32 >>> ((1 : Int32) &&& 31).toUInt32).toInt32) % (1001 : Int32))), .unset, .unset, .unset, .unset, .unset, .unset, .unset] [(.long q1), (.long (1 : Int64))]) _
    refine Go.step (fun _ => X0.ldc2Long hx hown (mvT hZ (hw _ (List.mem_of_getElem? (i := 0) rfl))) (g := (mkF m 23 #[.val (.int p0), .val (.long q1), .second, .val (.long q2), .second, .val (.int p3), .val (.int (((p0.toUInt32 >>> ((1 : Int32) &&& 31).toUInt32).toInt32) % (1001 : Int32))), .unset, .unset, .unset, .unset, .unset, .unset, .unset] [(.long q1), (.long (1 : Int64))])) rfl (hb hby at_23) _) ?_
    show Go p e below s₁ (mkF m 26 #[.val (.int p0), .val (.long q1), .second, .val (.long q2), .second, .val (.int p3), .val (.int (((p0.toUInt32 >>> ((1 : Int32) &&& 31).toUInt32).toInt32) % (1001 : Int32))), .unset, .unset, .unset, .unset, .unset, .unset, .unset] [(.long (9223372036854775807 : Int64)), (.long q1), (.long (1 : Int64))]) _
    refine Go.step (fun _ => XS.land X0.here hx rfl (hb hby at_26) rfl) ?_
    show Go p e below s₁ (mkF m 27 #[.val (.int p0), .val (.long q1), .second, .val (.long q2), .second, .val (.int p3), .val (.int (((p0.toUInt32 >>> ((1 : Int32) &&& 31).toUInt32).toInt32) % (1001 : Int32))), .unset, .unset, .unset, .unset, .unset, .unset, .unset] [(.long (q1 &&& (9223372036854775807 : Int64))), (.long (1 : Int64))]) _
    refine Go.step (fun _ => X0.ldc2Long hx hown (mvT hZ (hw _ (List.mem_of_getElem? (i := 1) rfl))) (g := (mkF m 27 #[.val (.int p0), .val (.long q1), .second, .val (.long q2), .second, .val (.int p3), .val (.int (((p0.toUInt32 >>> ((1 : Int32) &&& 31).toUInt32).toInt32) % (1001 : Int32))), .unset, .unset, .unset, .unset, .unset, .unset, .unset] [(.long (q1 &&& (9223372036854775807 : Int64))), (.long (1 : Int64))])) rfl (hb hby at_27) _) ?_
    show Go p e below s₁ (mkF m 30 #[.val (.int p0), .val (.long q1), .second, .val (.long q2), .second, .val (.int p3), .val (.int (((p0.toUInt32 >>> ((1 : Int32) &&& 31).toUInt32).toInt32) % (1001 : Int32))), .unset, .unset, .unset, .unset, .unset, .unset, .unset] [(.long (3153600000 : Int64)), (.long (q1 &&& (9223372036854775807 : Int64))), (.long (1 : Int64))]) _
    refine Go.step (fun _ => XS.lrem X0.here hx rfl (hb hby at_30) rfl (by decide)) ?_
    show Go p e below s₁ (mkF m 31 #[.val (.int p0), .val (.long q1), .second, .val (.long q2), .second, .val (.int p3), .val (.int (((p0.toUInt32 >>> ((1 : Int32) &&& 31).toUInt32).toInt32) % (1001 : Int32))), .unset, .unset, .unset, .unset, .unset, .unset, .unset] [(.long ((q1 &&& (9223372036854775807 : Int64)) - ((q1 &&& (9223372036854775807 : Int64)) / (3153600000 : Int64)) * (3153600000 : Int64))), (.long (1 : Int64))]) _
    refine Go.step (fun _ => XS.ladd X0.here hx rfl (hb hby at_31) rfl) ?_
    show Go p e below s₁ (mkF m 32 #[.val (.int p0), .val (.long q1), .second, .val (.long q2), .second, .val (.int p3), .val (.int (((p0.toUInt32 >>> ((1 : Int32) &&& 31).toUInt32).toInt32) % (1001 : Int32))), .unset, .unset, .unset, .unset, .unset, .unset, .unset] [(.long ((1 : Int64) + ((q1 &&& (9223372036854775807 : Int64)) - ((q1 &&& (9223372036854775807 : Int64)) / (3153600000 : Int64)) * (3153600000 : Int64))))]) _
    refine Go.step (fun _ => XS.lstore X0.here hx rfl (hb hby at_32) rfl (l' := #[.val (.int p0), .val (.long q1), .second, .val (.long q2), .second, .val (.int p3), .val (.int (((p0.toUInt32 >>> ((1 : Int32) &&& 31).toUInt32).toInt32) % (1001 : Int32))), .val (.long ((1 : Int64) + ((q1 &&& (9223372036854775807 : Int64)) - ((q1 &&& (9223372036854775807 : Int64)) / (3153600000 : Int64)) * (3153600000 : Int64)))), .second, .unset, .unset, .unset, .unset, .unset]) rfl) ?_
    show Go p e below s₁ (mkF m 34 #[.val (.int p0), .val (.long q1), .second, .val (.long q2), .second, .val (.int p3), .val (.int (((p0.toUInt32 >>> ((1 : Int32) &&& 31).toUInt32).toInt32) % (1001 : Int32))), .val (.long ((1 : Int64) + ((q1 &&& (9223372036854775807 : Int64)) - ((q1 &&& (9223372036854775807 : Int64)) / (3153600000 : Int64)) * (3153600000 : Int64)))), .second, .unset, .unset, .unset, .unset, .unset] []) _
    refine Go.step (fun _ => XS.lconst X0.here hx rfl (hb hby at_34)) ?_
    show Go p e below s₁ (mkF m 35 #[.val (.int p0), .val (.long q1), .second, .val (.long q2), .second, .val (.int p3), .val (.int (((p0.toUInt32 >>> ((1 : Int32) &&& 31).toUInt32).toInt32) % (1001 : Int32))), .val (.long ((1 : Int64) + ((q1 &&& (9223372036854775807 : Int64)) - ((q1 &&& (9223372036854775807 : Int64)) / (3153600000 : Int64)) * (3153600000 : Int64)))), .second, .unset, .unset, .unset, .unset, .unset] [(.long (1 : Int64))]) _
    refine Go.step (fun _ => XS.lloadN X0.here hx rfl (hb hby at_35) rfl ) ?_
    show Go p e below s₁ (mkF m 36 #[.val (.int p0), .val (.long q1), .second, .val (.long q2), .second, .val (.int p3), .val (.int (((p0.toUInt32 >>> ((1 : Int32) &&& 31).toUInt32).toInt32) % (1001 : Int32))), .val (.long ((1 : Int64) + ((q1 &&& (9223372036854775807 : Int64)) - ((q1 &&& (9223372036854775807 : Int64)) / (3153600000 : Int64)) * (3153600000 : Int64)))), .second, .unset, .unset, .unset, .unset, .unset] [(.long q2), (.long (1 : Int64))]) _
    refine Go.step (fun _ => X0.ldc2Long hx hown (mvT hZ (hw _ (List.mem_of_getElem? (i := 0) rfl))) (g := (mkF m 36 #[.val (.int p0), .val (.long q1), .second, .val (.long q2), .second, .val (.int p3), .val (.int (((p0.toUInt32 >>> ((1 : Int32) &&& 31).toUInt32).toInt32) % (1001 : Int32))), .val (.long ((1 : Int64) + ((q1 &&& (9223372036854775807 : Int64)) - ((q1 &&& (9223372036854775807 : Int64)) / (3153600000 : Int64)) * (3153600000 : Int64)))), .second, .unset, .unset, .unset, .unset, .unset] [(.long q2), (.long (1 : Int64))])) rfl (hb hby at_36) _) ?_
    show Go p e below s₁ (mkF m 39 #[.val (.int p0), .val (.long q1), .second, .val (.long q2), .second, .val (.int p3), .val (.int (((p0.toUInt32 >>> ((1 : Int32) &&& 31).toUInt32).toInt32) % (1001 : Int32))), .val (.long ((1 : Int64) + ((q1 &&& (9223372036854775807 : Int64)) - ((q1 &&& (9223372036854775807 : Int64)) / (3153600000 : Int64)) * (3153600000 : Int64)))), .second, .unset, .unset, .unset, .unset, .unset] [(.long (9223372036854775807 : Int64)), (.long q2), (.long (1 : Int64))]) _
    refine Go.step (fun _ => XS.land X0.here hx rfl (hb hby at_39) rfl) ?_
    show Go p e below s₁ (mkF m 40 #[.val (.int p0), .val (.long q1), .second, .val (.long q2), .second, .val (.int p3), .val (.int (((p0.toUInt32 >>> ((1 : Int32) &&& 31).toUInt32).toInt32) % (1001 : Int32))), .val (.long ((1 : Int64) + ((q1 &&& (9223372036854775807 : Int64)) - ((q1 &&& (9223372036854775807 : Int64)) / (3153600000 : Int64)) * (3153600000 : Int64)))), .second, .unset, .unset, .unset, .unset, .unset] [(.long (q2 &&& (9223372036854775807 : Int64))), (.long (1 : Int64))]) _
    refine Go.step (fun _ => X0.ldc2Long hx hown (mvT hZ (hw _ (List.mem_of_getElem? (i := 1) rfl))) (g := (mkF m 40 #[.val (.int p0), .val (.long q1), .second, .val (.long q2), .second, .val (.int p3), .val (.int (((p0.toUInt32 >>> ((1 : Int32) &&& 31).toUInt32).toInt32) % (1001 : Int32))), .val (.long ((1 : Int64) + ((q1 &&& (9223372036854775807 : Int64)) - ((q1 &&& (9223372036854775807 : Int64)) / (3153600000 : Int64)) * (3153600000 : Int64)))), .second, .unset, .unset, .unset, .unset, .unset] [(.long (q2 &&& (9223372036854775807 : Int64))), (.long (1 : Int64))])) rfl (hb hby at_40) _) ?_
    show Go p e below s₁ (mkF m 43 #[.val (.int p0), .val (.long q1), .second, .val (.long q2), .second, .val (.int p3), .val (.int (((p0.toUInt32 >>> ((1 : Int32) &&& 31).toUInt32).toInt32) % (1001 : Int32))), .val (.long ((1 : Int64) + ((q1 &&& (9223372036854775807 : Int64)) - ((q1 &&& (9223372036854775807 : Int64)) / (3153600000 : Int64)) * (3153600000 : Int64)))), .second, .unset, .unset, .unset, .unset, .unset] [(.long (3153600000 : Int64)), (.long (q2 &&& (9223372036854775807 : Int64))), (.long (1 : Int64))]) _
    refine Go.step (fun _ => XS.lrem X0.here hx rfl (hb hby at_43) rfl (by decide)) ?_
    show Go p e below s₁ (mkF m 44 #[.val (.int p0), .val (.long q1), .second, .val (.long q2), .second, .val (.int p3), .val (.int (((p0.toUInt32 >>> ((1 : Int32) &&& 31).toUInt32).toInt32) % (1001 : Int32))), .val (.long ((1 : Int64) + ((q1 &&& (9223372036854775807 : Int64)) - ((q1 &&& (9223372036854775807 : Int64)) / (3153600000 : Int64)) * (3153600000 : Int64)))), .second, .unset, .unset, .unset, .unset, .unset] [(.long ((q2 &&& (9223372036854775807 : Int64)) - ((q2 &&& (9223372036854775807 : Int64)) / (3153600000 : Int64)) * (3153600000 : Int64))), (.long (1 : Int64))]) _
    refine Go.step (fun _ => XS.ladd X0.here hx rfl (hb hby at_44) rfl) ?_
    show Go p e below s₁ (mkF m 45 #[.val (.int p0), .val (.long q1), .second, .val (.long q2), .second, .val (.int p3), .val (.int (((p0.toUInt32 >>> ((1 : Int32) &&& 31).toUInt32).toInt32) % (1001 : Int32))), .val (.long ((1 : Int64) + ((q1 &&& (9223372036854775807 : Int64)) - ((q1 &&& (9223372036854775807 : Int64)) / (3153600000 : Int64)) * (3153600000 : Int64)))), .second, .unset, .unset, .unset, .unset, .unset] [(.long ((1 : Int64) + ((q2 &&& (9223372036854775807 : Int64)) - ((q2 &&& (9223372036854775807 : Int64)) / (3153600000 : Int64)) * (3153600000 : Int64))))]) _
    refine Go.step (fun _ => XS.lstore X0.here hx rfl (hb hby at_45) rfl (l' := #[.val (.int p0), .val (.long q1), .second, .val (.long q2), .second, .val (.int p3), .val (.int (((p0.toUInt32 >>> ((1 : Int32) &&& 31).toUInt32).toInt32) % (1001 : Int32))), .val (.long ((1 : Int64) + ((q1 &&& (9223372036854775807 : Int64)) - ((q1 &&& (9223372036854775807 : Int64)) / (3153600000 : Int64)) * (3153600000 : Int64)))), .second, .val (.long ((1 : Int64) + ((q2 &&& (9223372036854775807 : Int64)) - ((q2 &&& (9223372036854775807 : Int64)) / (3153600000 : Int64)) * (3153600000 : Int64)))), .second, .unset, .unset, .unset]) rfl) ?_
    show Go p e below s₁ (mkF m 47 #[.val (.int p0), .val (.long q1), .second, .val (.long q2), .second, .val (.int p3), .val (.int (((p0.toUInt32 >>> ((1 : Int32) &&& 31).toUInt32).toInt32) % (1001 : Int32))), .val (.long ((1 : Int64) + ((q1 &&& (9223372036854775807 : Int64)) - ((q1 &&& (9223372036854775807 : Int64)) / (3153600000 : Int64)) * (3153600000 : Int64)))), .second, .val (.long ((1 : Int64) + ((q2 &&& (9223372036854775807 : Int64)) - ((q2 &&& (9223372036854775807 : Int64)) / (3153600000 : Int64)) * (3153600000 : Int64)))), .second, .unset, .unset, .unset] []) _
    refine Go.step (fun _ => XS.iconst X0.here hx rfl (hb hby at_47)) ?_
    show Go p e below s₁ (mkF m 48 #[.val (.int p0), .val (.long q1), .second, .val (.long q2), .second, .val (.int p3), .val (.int (((p0.toUInt32 >>> ((1 : Int32) &&& 31).toUInt32).toInt32) % (1001 : Int32))), .val (.long ((1 : Int64) + ((q1 &&& (9223372036854775807 : Int64)) - ((q1 &&& (9223372036854775807 : Int64)) / (3153600000 : Int64)) * (3153600000 : Int64)))), .second, .val (.long ((1 : Int64) + ((q2 &&& (9223372036854775807 : Int64)) - ((q2 &&& (9223372036854775807 : Int64)) / (3153600000 : Int64)) * (3153600000 : Int64)))), .second, .unset, .unset, .unset] [(.int (1 : Int32))]) _
    refine Go.step (fun _ => XS.iload X0.here hx rfl (hb hby at_48) rfl ) ?_
    show Go p e below s₁ (mkF m 50 #[.val (.int p0), .val (.long q1), .second, .val (.long q2), .second, .val (.int p3), .val (.int (((p0.toUInt32 >>> ((1 : Int32) &&& 31).toUInt32).toInt32) % (1001 : Int32))), .val (.long ((1 : Int64) + ((q1 &&& (9223372036854775807 : Int64)) - ((q1 &&& (9223372036854775807 : Int64)) / (3153600000 : Int64)) * (3153600000 : Int64)))), .second, .val (.long ((1 : Int64) + ((q2 &&& (9223372036854775807 : Int64)) - ((q2 &&& (9223372036854775807 : Int64)) / (3153600000 : Int64)) * (3153600000 : Int64)))), .second, .unset, .unset, .unset] [(.int p3), (.int (1 : Int32))]) _
    refine Go.step (fun _ => X0.ldcInt hx hown (mvT hZ (hw _ (List.mem_of_getElem? (i := 2) rfl))) (g := (mkF m 50 #[.val (.int p0), .val (.long q1), .second, .val (.long q2), .second, .val (.int p3), .val (.int (((p0.toUInt32 >>> ((1 : Int32) &&& 31).toUInt32).toInt32) % (1001 : Int32))), .val (.long ((1 : Int64) + ((q1 &&& (9223372036854775807 : Int64)) - ((q1 &&& (9223372036854775807 : Int64)) / (3153600000 : Int64)) * (3153600000 : Int64)))), .second, .val (.long ((1 : Int64) + ((q2 &&& (9223372036854775807 : Int64)) - ((q2 &&& (9223372036854775807 : Int64)) / (3153600000 : Int64)) * (3153600000 : Int64)))), .second, .unset, .unset, .unset] [(.int p3), (.int (1 : Int32))])) rfl (hb hby at_50) _) ?_
    show Go p e below s₁ (mkF m 52 #[.val (.int p0), .val (.long q1), .second, .val (.long q2), .second, .val (.int p3), .val (.int (((p0.toUInt32 >>> ((1 : Int32) &&& 31).toUInt32).toInt32) % (1001 : Int32))), .val (.long ((1 : Int64) + ((q1 &&& (9223372036854775807 : Int64)) - ((q1 &&& (9223372036854775807 : Int64)) / (3153600000 : Int64)) * (3153600000 : Int64)))), .second, .val (.long ((1 : Int64) + ((q2 &&& (9223372036854775807 : Int64)) - ((q2 &&& (9223372036854775807 : Int64)) / (3153600000 : Int64)) * (3153600000 : Int64)))), .second, .unset, .unset, .unset] [(.int (2147483647 : Int32)), (.int p3), (.int (1 : Int32))]) _
    refine Go.step (fun _ => XS.iand X0.here hx rfl (hb hby at_52) rfl) ?_
    show Go p e below s₁ (mkF m 53 #[.val (.int p0), .val (.long q1), .second, .val (.long q2), .second, .val (.int p3), .val (.int (((p0.toUInt32 >>> ((1 : Int32) &&& 31).toUInt32).toInt32) % (1001 : Int32))), .val (.long ((1 : Int64) + ((q1 &&& (9223372036854775807 : Int64)) - ((q1 &&& (9223372036854775807 : Int64)) / (3153600000 : Int64)) * (3153600000 : Int64)))), .second, .val (.long ((1 : Int64) + ((q2 &&& (9223372036854775807 : Int64)) - ((q2 &&& (9223372036854775807 : Int64)) / (3153600000 : Int64)) * (3153600000 : Int64)))), .second, .unset, .unset, .unset] [(.int (p3 &&& (2147483647 : Int32))), (.int (1 : Int32))]) _
    refine Go.step (fun _ => XS.sipush X0.here hx rfl (hb hby at_53)) ?_
    show Go p e below s₁ (mkF m 56 #[.val (.int p0), .val (.long q1), .second, .val (.long q2), .second, .val (.int p3), .val (.int (((p0.toUInt32 >>> ((1 : Int32) &&& 31).toUInt32).toInt32) % (1001 : Int32))), .val (.long ((1 : Int64) + ((q1 &&& (9223372036854775807 : Int64)) - ((q1 &&& (9223372036854775807 : Int64)) / (3153600000 : Int64)) * (3153600000 : Int64)))), .second, .val (.long ((1 : Int64) + ((q2 &&& (9223372036854775807 : Int64)) - ((q2 &&& (9223372036854775807 : Int64)) / (3153600000 : Int64)) * (3153600000 : Int64)))), .second, .unset, .unset, .unset] [(.int (128 : Int32)), (.int (p3 &&& (2147483647 : Int32))), (.int (1 : Int32))]) _
    refine Go.step (fun _ => iremM X0 hx rfl (hb hby at_56) rfl (by decide)) ?_
    show Go p e below s₁ (mkF m 57 #[.val (.int p0), .val (.long q1), .second, .val (.long q2), .second, .val (.int p3), .val (.int (((p0.toUInt32 >>> ((1 : Int32) &&& 31).toUInt32).toInt32) % (1001 : Int32))), .val (.long ((1 : Int64) + ((q1 &&& (9223372036854775807 : Int64)) - ((q1 &&& (9223372036854775807 : Int64)) / (3153600000 : Int64)) * (3153600000 : Int64)))), .second, .val (.long ((1 : Int64) + ((q2 &&& (9223372036854775807 : Int64)) - ((q2 &&& (9223372036854775807 : Int64)) / (3153600000 : Int64)) * (3153600000 : Int64)))), .second, .unset, .unset, .unset] [(.int ((p3 &&& (2147483647 : Int32)) % (128 : Int32))), (.int (1 : Int32))]) _
    refine Go.step (fun _ => XS.iadd X0.here hx rfl (hb hby at_57) rfl) ?_
    show Go p e below s₁ (mkF m 58 #[.val (.int p0), .val (.long q1), .second, .val (.long q2), .second, .val (.int p3), .val (.int (((p0.toUInt32 >>> ((1 : Int32) &&& 31).toUInt32).toInt32) % (1001 : Int32))), .val (.long ((1 : Int64) + ((q1 &&& (9223372036854775807 : Int64)) - ((q1 &&& (9223372036854775807 : Int64)) / (3153600000 : Int64)) * (3153600000 : Int64)))), .second, .val (.long ((1 : Int64) + ((q2 &&& (9223372036854775807 : Int64)) - ((q2 &&& (9223372036854775807 : Int64)) / (3153600000 : Int64)) * (3153600000 : Int64)))), .second, .unset, .unset, .unset] [(.int ((1 : Int32) + ((p3 &&& (2147483647 : Int32)) % (128 : Int32))))]) _
    refine Go.step (fun _ => XS.istore X0.here hx rfl (hb hby at_58) rfl (l' := #[.val (.int p0), .val (.long q1), .second, .val (.long q2), .second, .val (.int p3), .val (.int (((p0.toUInt32 >>> ((1 : Int32) &&& 31).toUInt32).toInt32) % (1001 : Int32))), .val (.long ((1 : Int64) + ((q1 &&& (9223372036854775807 : Int64)) - ((q1 &&& (9223372036854775807 : Int64)) / (3153600000 : Int64)) * (3153600000 : Int64)))), .second, .val (.long ((1 : Int64) + ((q2 &&& (9223372036854775807 : Int64)) - ((q2 &&& (9223372036854775807 : Int64)) / (3153600000 : Int64)) * (3153600000 : Int64)))), .second, .val (.int ((1 : Int32) + ((p3 &&& (2147483647 : Int32)) % (128 : Int32)))), .unset, .unset]) rfl) ?_
    show Go p e below s₁ (mkF m 60 #[.val (.int p0), .val (.long q1), .second, .val (.long q2), .second, .val (.int p3), .val (.int (((p0.toUInt32 >>> ((1 : Int32) &&& 31).toUInt32).toInt32) % (1001 : Int32))), .val (.long ((1 : Int64) + ((q1 &&& (9223372036854775807 : Int64)) - ((q1 &&& (9223372036854775807 : Int64)) / (3153600000 : Int64)) * (3153600000 : Int64)))), .second, .val (.long ((1 : Int64) + ((q2 &&& (9223372036854775807 : Int64)) - ((q2 &&& (9223372036854775807 : Int64)) / (3153600000 : Int64)) * (3153600000 : Int64)))), .second, .val (.int ((1 : Int32) + ((p3 &&& (2147483647 : Int32)) % (128 : Int32)))), .unset, .unset] []) _
    obtain ⟨T13, h13, X13, e13, E13, A13, D13, -, st13⟩ := newO X0 hx hZ hown (hw _ (List.mem_of_getElem? (i := 3) rfl)) (hw _ (List.mem_of_getElem? (i := 4) rfl)) (hw _ (List.mem_of_getElem? (i := 5) rfl)) e0 (g := (mkF m 60 #[.val (.int p0), .val (.long q1), .second, .val (.long q2), .second, .val (.int p3), .val (.int (((p0.toUInt32 >>> ((1 : Int32) &&& 31).toUInt32).toInt32) % (1001 : Int32))), .val (.long ((1 : Int64) + ((q1 &&& (9223372036854775807 : Int64)) - ((q1 &&& (9223372036854775807 : Int64)) / (3153600000 : Int64)) * (3153600000 : Int64)))), .second, .val (.long ((1 : Int64) + ((q2 &&& (9223372036854775807 : Int64)) - ((q2 &&& (9223372036854775807 : Int64)) / (3153600000 : Int64)) * (3153600000 : Int64)))), .second, .val (.int ((1 : Int32) + ((p3 &&& (2147483647 : Int32)) % (128 : Int32)))), .unset, .unset] [])) rfl (hb hby at_60) (by decide) (by decide)
    obtain ⟨b13, g13⟩ : ∃ z, z = h0.size := ⟨_, rfl⟩
    rw [← g13] at A13 D13 st13
    have ne_wO_b13 : wO ≠ b13 := Nat.ne_of_lt (Nat.lt_of_lt_of_le EO.lt (Nat.le_of_eq g13.symm))
    have g_b13 : n0 ≤ b13 := Nat.le_trans Z0 (Nat.le_of_eq g13.symm)
    have SO_q13 := SO.ext E13
    have EO_q13 := EO.ext E13
    have FO_q13 := FO.ext E13
    have Z13 : n0 ≤ h13.size := Nat.le_trans Z0 E13.1
    refine Go.step st13 ?_
    have F_failures_b13 : Fld Z h13 b13 "com/example/rekey/rekey/server/LockoutPolicy" "failures" "I" (.int (0 : Int32)) := D13 (Or.inr (hw _ (List.mem_of_getElem? (i := 19) rfl))) (ty := .int) (by decide)
    have F_windowSecs_b13 : Fld Z h13 b13 "com/example/rekey/rekey/server/LockoutPolicy" "windowSecs" "J" (.long (0 : Int64)) := D13 (Or.inr (hw _ (List.mem_of_getElem? (i := 21) rfl))) (ty := .long) (by decide)
    have F_lockoutSecs_b13 : Fld Z h13 b13 "com/example/rekey/rekey/server/LockoutPolicy" "lockoutSecs" "J" (.long (0 : Int64)) := D13 (Or.inr (hw _ (List.mem_of_getElem? (i := 23) rfl))) (ty := .long) (by decide)
    have F_ipv6Prefix_b13 : Fld Z h13 b13 "com/example/rekey/rekey/server/LockoutPolicy" "ipv6Prefix" "I" (.int (0 : Int32)) := D13 (Or.inr (hw _ (List.mem_of_getElem? (i := 25) rfl))) (ty := .int) (by decide)
    show Go p e below T13 (mkF m 63 #[.val (.int p0), .val (.long q1), .second, .val (.long q2), .second, .val (.int p3), .val (.int (((p0.toUInt32 >>> ((1 : Int32) &&& 31).toUInt32).toInt32) % (1001 : Int32))), .val (.long ((1 : Int64) + ((q1 &&& (9223372036854775807 : Int64)) - ((q1 &&& (9223372036854775807 : Int64)) / (3153600000 : Int64)) * (3153600000 : Int64)))), .second, .val (.long ((1 : Int64) + ((q2 &&& (9223372036854775807 : Int64)) - ((q2 &&& (9223372036854775807 : Int64)) / (3153600000 : Int64)) * (3153600000 : Int64)))), .second, .val (.int ((1 : Int32) + ((p3 &&& (2147483647 : Int32)) % (128 : Int32)))), .unset, .unset] [(.ref b13)]) _
    refine Go.step (fun _ => XS.dup X13.here hx rfl (hb hby at_63) rfl rfl) ?_
    show Go p e below T13 (mkF m 64 #[.val (.int p0), .val (.long q1), .second, .val (.long q2), .second, .val (.int p3), .val (.int (((p0.toUInt32 >>> ((1 : Int32) &&& 31).toUInt32).toInt32) % (1001 : Int32))), .val (.long ((1 : Int64) + ((q1 &&& (9223372036854775807 : Int64)) - ((q1 &&& (9223372036854775807 : Int64)) / (3153600000 : Int64)) * (3153600000 : Int64)))), .second, .val (.long ((1 : Int64) + ((q2 &&& (9223372036854775807 : Int64)) - ((q2 &&& (9223372036854775807 : Int64)) / (3153600000 : Int64)) * (3153600000 : Int64)))), .second, .val (.int ((1 : Int32) + ((p3 &&& (2147483647 : Int32)) % (128 : Int32)))), .unset, .unset] [(.ref b13), (.ref b13)]) _
    refine Go.step (fun _ => XS.iload X13.here hx rfl (hb hby at_64) rfl ) ?_
    show Go p e below T13 (mkF m 66 #[.val (.int p0), .val (.long q1), .second, .val (.long q2), .second, .val (.int p3), .val (.int (((p0.toUInt32 >>> ((1 : Int32) &&& 31).toUInt32).toInt32) % (1001 : Int32))), .val (.long ((1 : Int64) + ((q1 &&& (9223372036854775807 : Int64)) - ((q1 &&& (9223372036854775807 : Int64)) / (3153600000 : Int64)) * (3153600000 : Int64)))), .second, .val (.long ((1 : Int64) + ((q2 &&& (9223372036854775807 : Int64)) - ((q2 &&& (9223372036854775807 : Int64)) / (3153600000 : Int64)) * (3153600000 : Int64)))), .second, .val (.int ((1 : Int32) + ((p3 &&& (2147483647 : Int32)) % (128 : Int32)))), .unset, .unset] [(.int (((p0.toUInt32 >>> ((1 : Int32) &&& 31).toUInt32).toInt32) % (1001 : Int32))), (.ref b13), (.ref b13)]) _
    refine Go.step (fun _ => XS.lload X13.here hx rfl (hb hby at_66) rfl ) ?_
    show Go p e below T13 (mkF m 68 #[.val (.int p0), .val (.long q1), .second, .val (.long q2), .second, .val (.int p3), .val (.int (((p0.toUInt32 >>> ((1 : Int32) &&& 31).toUInt32).toInt32) % (1001 : Int32))), .val (.long ((1 : Int64) + ((q1 &&& (9223372036854775807 : Int64)) - ((q1 &&& (9223372036854775807 : Int64)) / (3153600000 : Int64)) * (3153600000 : Int64)))), .second, .val (.long ((1 : Int64) + ((q2 &&& (9223372036854775807 : Int64)) - ((q2 &&& (9223372036854775807 : Int64)) / (3153600000 : Int64)) * (3153600000 : Int64)))), .second, .val (.int ((1 : Int32) + ((p3 &&& (2147483647 : Int32)) % (128 : Int32)))), .unset, .unset] [(.long ((1 : Int64) + ((q1 &&& (9223372036854775807 : Int64)) - ((q1 &&& (9223372036854775807 : Int64)) / (3153600000 : Int64)) * (3153600000 : Int64)))), (.int (((p0.toUInt32 >>> ((1 : Int32) &&& 31).toUInt32).toInt32) % (1001 : Int32))), (.ref b13), (.ref b13)]) _
    refine Go.step (fun _ => XS.lload X13.here hx rfl (hb hby at_68) rfl ) ?_
    show Go p e below T13 (mkF m 70 #[.val (.int p0), .val (.long q1), .second, .val (.long q2), .second, .val (.int p3), .val (.int (((p0.toUInt32 >>> ((1 : Int32) &&& 31).toUInt32).toInt32) % (1001 : Int32))), .val (.long ((1 : Int64) + ((q1 &&& (9223372036854775807 : Int64)) - ((q1 &&& (9223372036854775807 : Int64)) / (3153600000 : Int64)) * (3153600000 : Int64)))), .second, .val (.long ((1 : Int64) + ((q2 &&& (9223372036854775807 : Int64)) - ((q2 &&& (9223372036854775807 : Int64)) / (3153600000 : Int64)) * (3153600000 : Int64)))), .second, .val (.int ((1 : Int32) + ((p3 &&& (2147483647 : Int32)) % (128 : Int32)))), .unset, .unset] [(.long ((1 : Int64) + ((q2 &&& (9223372036854775807 : Int64)) - ((q2 &&& (9223372036854775807 : Int64)) / (3153600000 : Int64)) * (3153600000 : Int64)))), (.long ((1 : Int64) + ((q1 &&& (9223372036854775807 : Int64)) - ((q1 &&& (9223372036854775807 : Int64)) / (3153600000 : Int64)) * (3153600000 : Int64)))), (.int (((p0.toUInt32 >>> ((1 : Int32) &&& 31).toUInt32).toInt32) % (1001 : Int32))), (.ref b13), (.ref b13)]) _
    refine Go.step (fun _ => XS.iload X13.here hx rfl (hb hby at_70) rfl ) ?_
    show Go p e below T13 (mkF m 72 #[.val (.int p0), .val (.long q1), .second, .val (.long q2), .second, .val (.int p3), .val (.int (((p0.toUInt32 >>> ((1 : Int32) &&& 31).toUInt32).toInt32) % (1001 : Int32))), .val (.long ((1 : Int64) + ((q1 &&& (9223372036854775807 : Int64)) - ((q1 &&& (9223372036854775807 : Int64)) / (3153600000 : Int64)) * (3153600000 : Int64)))), .second, .val (.long ((1 : Int64) + ((q2 &&& (9223372036854775807 : Int64)) - ((q2 &&& (9223372036854775807 : Int64)) / (3153600000 : Int64)) * (3153600000 : Int64)))), .second, .val (.int ((1 : Int32) + ((p3 &&& (2147483647 : Int32)) % (128 : Int32)))), .unset, .unset] [(.int ((1 : Int32) + ((p3 &&& (2147483647 : Int32)) % (128 : Int32)))), (.long ((1 : Int64) + ((q2 &&& (9223372036854775807 : Int64)) - ((q2 &&& (9223372036854775807 : Int64)) / (3153600000 : Int64)) * (3153600000 : Int64)))), (.long ((1 : Int64) + ((q1 &&& (9223372036854775807 : Int64)) - ((q1 &&& (9223372036854775807 : Int64)) / (3153600000 : Int64)) * (3153600000 : Int64)))), (.int (((p0.toUInt32 >>> ((1 : Int32) &&& 31).toUInt32).toInt32) % (1001 : Int32))), (.ref b13), (.ref b13)]) _
    obtain ⟨_, _, ⟨T14, L14, k14, n14⟩, -, X14, ⟨Lc14, hQ14, l14, y14, z14⟩, st14⟩ := X13.specialBack hx (y := (⟨"com/example/rekey/rekey/server/LockoutPolicy", "<init>", "(IJJI)V"⟩ : MethodName)) rfl hown (mvT hZ (hw _ (List.mem_of_getElem? (i := 6) rfl))) (mvT hZ (hw _ (List.mem_of_getElem? (i := 7) rfl))) (mvT hZ (hw _ (List.mem_of_getElem? (i := 8) rfl))) (by decide) (backOf (W := 1) (rm1 l Z a0 hw [] b13 (((p0.toUInt32 >>> ((1 : Int32) &&& 31).toUInt32).toInt32) % (1001 : Int32)) ((1 : Int64) + ((q1 &&& (9223372036854775807 : Int64)) - ((q1 &&& (9223372036854775807 : Int64)) / (3153600000 : Int64)) * (3153600000 : Int64))) ((1 : Int64) + ((q2 &&& (9223372036854775807 : Int64)) - ((q2 &&& (9223372036854775807 : Int64)) / (3153600000 : Int64)) * (3153600000 : Int64))) ((1 : Int32) + ((p3 &&& (2147483647 : Int32)) % (128 : Int32))) h13 n0 Z13 A13 F_failures_b13 F_windowSecs_b13 F_lockoutSecs_b13 F_ipv6Prefix_b13 g_b13 (own_fail p0).1 (own_fail p0).2 (own_win q1).1 (own_win q1).2 (own_win q2).1 (own_win q2).2 (own_pre p3).1 (own_pre p3).2) hZ (hw _ (List.mem_of_getElem? (i := 8) rfl)) (hw _ (List.mem_of_getElem? (i := 5) rfl)) (by decide) (by decide)) (g := (mkF m 72 #[.val (.int p0), .val (.long q1), .second, .val (.long q2), .second, .val (.int p3), .val (.int (((p0.toUInt32 >>> ((1 : Int32) &&& 31).toUInt32).toInt32) % (1001 : Int32))), .val (.long ((1 : Int64) + ((q1 &&& (9223372036854775807 : Int64)) - ((q1 &&& (9223372036854775807 : Int64)) / (3153600000 : Int64)) * (3153600000 : Int64)))), .second, .val (.long ((1 : Int64) + ((q2 &&& (9223372036854775807 : Int64)) - ((q2 &&& (9223372036854775807 : Int64)) / (3153600000 : Int64)) * (3153600000 : Int64)))), .second, .val (.int ((1 : Int32) + ((p3 &&& (2147483647 : Int32)) % (128 : Int32)))), .unset, .unset] [(.int ((1 : Int32) + ((p3 &&& (2147483647 : Int32)) % (128 : Int32)))), (.long ((1 : Int64) + ((q2 &&& (9223372036854775807 : Int64)) - ((q2 &&& (9223372036854775807 : Int64)) / (3153600000 : Int64)) * (3153600000 : Int64)))), (.long ((1 : Int64) + ((q1 &&& (9223372036854775807 : Int64)) - ((q1 &&& (9223372036854775807 : Int64)) / (3153600000 : Int64)) * (3153600000 : Int64)))), (.int (((p0.toUInt32 >>> ((1 : Int32) &&& 31).toUInt32).toInt32) % (1001 : Int32))), (.ref b13), (.ref b13)])) rfl (by rw [hml]; rfl) (Steps.refl _) (a := b13) (argsL := [(.int (((p0.toUInt32 >>> ((1 : Int32) &&& 31).toUInt32).toInt32) % (1001 : Int32))), (.long ((1 : Int64) + ((q1 &&& (9223372036854775807 : Int64)) - ((q1 &&& (9223372036854775807 : Int64)) / (3153600000 : Int64)) * (3153600000 : Int64)))), (.long ((1 : Int64) + ((q2 &&& (9223372036854775807 : Int64)) - ((q2 &&& (9223372036854775807 : Int64)) / (3153600000 : Int64)) * (3153600000 : Int64)))), (.int ((1 : Int32) + ((p3 &&& (2147483647 : Int32)) % (128 : Int32))))]) (rest := [(.ref b13)]) (lenOf pd_1 rfl) rfl (by show 2 * 0 + _ ≤ _; exact Nat.le_of_eq rfl) (hb hby at_72) (fun _ _ => ⟨rfl, e13, (by decide : 0 + 1 + 0 ≤ _), (by decide : 0 + 4 + 0 ≤ _)⟩)
    dsimp only [Pt.U, Pt.locs, Pt.cells, Pt.slots] at X14 l14 y14 z14 st14 hQ14
    subst l14 y14 z14
    obtain ⟨rfl, Nq14, K14, Ex14, Fx14⟩ := hQ14
    have N14 := Fr.app N0 Nq14
    refine Go.call st14 ?_
    have SO_q14 := own_staKeep SO_q13 K14 (allS (own_plainE A13) all0)
    have EO_q14 := EO_q13.keep K14
    have FO_q14 := FO_q13.keep K14 (ninS ne_wO_b13 nin0)
    have A13_q14 := A13.keep K14
    have Z14 : n0 ≤ T14.heap.size := Nat.le_trans Z13 K14.1
    show Go p e below T14 (mkF m 75 #[.val (.int p0), .val (.long q1), .second, .val (.long q2), .second, .val (.int p3), .val (.int (((p0.toUInt32 >>> ((1 : Int32) &&& 31).toUInt32).toInt32) % (1001 : Int32))), .val (.long ((1 : Int64) + ((q1 &&& (9223372036854775807 : Int64)) - ((q1 &&& (9223372036854775807 : Int64)) / (3153600000 : Int64)) * (3153600000 : Int64)))), .second, .val (.long ((1 : Int64) + ((q2 &&& (9223372036854775807 : Int64)) - ((q2 &&& (9223372036854775807 : Int64)) / (3153600000 : Int64)) * (3153600000 : Int64)))), .second, .val (.int ((1 : Int32) + ((p3 &&& (2147483647 : Int32)) % (128 : Int32)))), .unset, .unset] [(.ref b13)]) _
    refine Go.step (fun _ => XS.astore X14.here hx rfl (hb hby at_75) rfl rfl (l' := #[.val (.int p0), .val (.long q1), .second, .val (.long q2), .second, .val (.int p3), .val (.int (((p0.toUInt32 >>> ((1 : Int32) &&& 31).toUInt32).toInt32) % (1001 : Int32))), .val (.long ((1 : Int64) + ((q1 &&& (9223372036854775807 : Int64)) - ((q1 &&& (9223372036854775807 : Int64)) / (3153600000 : Int64)) * (3153600000 : Int64)))), .second, .val (.long ((1 : Int64) + ((q2 &&& (9223372036854775807 : Int64)) - ((q2 &&& (9223372036854775807 : Int64)) / (3153600000 : Int64)) * (3153600000 : Int64)))), .second, .val (.int ((1 : Int32) + ((p3 &&& (2147483647 : Int32)) % (128 : Int32)))), .val (.ref b13), .unset]) rfl) ?_
    show Go p e below T14 (mkF m 77 #[.val (.int p0), .val (.long q1), .second, .val (.long q2), .second, .val (.int p3), .val (.int (((p0.toUInt32 >>> ((1 : Int32) &&& 31).toUInt32).toInt32) % (1001 : Int32))), .val (.long ((1 : Int64) + ((q1 &&& (9223372036854775807 : Int64)) - ((q1 &&& (9223372036854775807 : Int64)) / (3153600000 : Int64)) * (3153600000 : Int64)))), .second, .val (.long ((1 : Int64) + ((q2 &&& (9223372036854775807 : Int64)) - ((q2 &&& (9223372036854775807 : Int64)) / (3153600000 : Int64)) * (3153600000 : Int64)))), .second, .val (.int ((1 : Int32) + ((p3 &&& (2147483647 : Int32)) % (128 : Int32)))), .val (.ref b13), .unset] []) _
    refine Go.step (fun _ => XS.iload X14.here hx rfl (hb hby at_77) rfl ) ?_
    show Go p e below T14 (mkF m 79 #[.val (.int p0), .val (.long q1), .second, .val (.long q2), .second, .val (.int p3), .val (.int (((p0.toUInt32 >>> ((1 : Int32) &&& 31).toUInt32).toInt32) % (1001 : Int32))), .val (.long ((1 : Int64) + ((q1 &&& (9223372036854775807 : Int64)) - ((q1 &&& (9223372036854775807 : Int64)) / (3153600000 : Int64)) * (3153600000 : Int64)))), .second, .val (.long ((1 : Int64) + ((q2 &&& (9223372036854775807 : Int64)) - ((q2 &&& (9223372036854775807 : Int64)) / (3153600000 : Int64)) * (3153600000 : Int64)))), .second, .val (.int ((1 : Int32) + ((p3 &&& (2147483647 : Int32)) % (128 : Int32)))), .val (.ref b13), .unset] [(.int (((p0.toUInt32 >>> ((1 : Int32) &&& 31).toUInt32).toInt32) % (1001 : Int32)))]) _
    by_cases hc79 : (((p0.toUInt32 >>> ((1 : Int32) &&& 31).toUInt32).toInt32) % (1001 : Int32)) = (0 : Int32)
    · skip
      refine Go.step (fun _ => XS.ifNo X14.here hx rfl (hb hby at_79) rfl ((if0 _ _).trans (teq hc79).2)) ?_
      show Go p e below T14 (mkF m 82 #[.val (.int p0), .val (.long q1), .second, .val (.long q2), .second, .val (.int p3), .val (.int (((p0.toUInt32 >>> ((1 : Int32) &&& 31).toUInt32).toInt32) % (1001 : Int32))), .val (.long ((1 : Int64) + ((q1 &&& (9223372036854775807 : Int64)) - ((q1 &&& (9223372036854775807 : Int64)) / (3153600000 : Int64)) * (3153600000 : Int64)))), .second, .val (.long ((1 : Int64) + ((q2 &&& (9223372036854775807 : Int64)) - ((q2 &&& (9223372036854775807 : Int64)) / (3153600000 : Int64)) * (3153600000 : Int64)))), .second, .val (.int ((1 : Int32) + ((p3 &&& (2147483647 : Int32)) % (128 : Int32)))), .val (.ref b13), .unset] []) _
      refine Go.step (fun _ => XS.iconst X14.here hx rfl (hb hby at_82)) ?_
      show Go p e below T14 (mkF m 83 #[.val (.int p0), .val (.long q1), .second, .val (.long q2), .second, .val (.int p3), .val (.int (((p0.toUInt32 >>> ((1 : Int32) &&& 31).toUInt32).toInt32) % (1001 : Int32))), .val (.long ((1 : Int64) + ((q1 &&& (9223372036854775807 : Int64)) - ((q1 &&& (9223372036854775807 : Int64)) / (3153600000 : Int64)) * (3153600000 : Int64)))), .second, .val (.long ((1 : Int64) + ((q2 &&& (9223372036854775807 : Int64)) - ((q2 &&& (9223372036854775807 : Int64)) / (3153600000 : Int64)) * (3153600000 : Int64)))), .second, .val (.int ((1 : Int32) + ((p3 &&& (2147483647 : Int32)) % (128 : Int32)))), .val (.ref b13), .unset] [(.int (1 : Int32))]) _
      refine Go.step (fun _ => XS.goto X14.here hx rfl (pc0 := 83) (pc' := 87) rfl (hb hby at_83) (by decide) (by decide)) ?_
      show Go p e below T14 (mkF m 87 #[.val (.int p0), .val (.long q1), .second, .val (.long q2), .second, .val (.int p3), .val (.int (((p0.toUInt32 >>> ((1 : Int32) &&& 31).toUInt32).toInt32) % (1001 : Int32))), .val (.long ((1 : Int64) + ((q1 &&& (9223372036854775807 : Int64)) - ((q1 &&& (9223372036854775807 : Int64)) / (3153600000 : Int64)) * (3153600000 : Int64)))), .second, .val (.long ((1 : Int64) + ((q2 &&& (9223372036854775807 : Int64)) - ((q2 &&& (9223372036854775807 : Int64)) / (3153600000 : Int64)) * (3153600000 : Int64)))), .second, .val (.int ((1 : Int32) + ((p3 &&& (2147483647 : Int32)) % (128 : Int32)))), .val (.ref b13), .unset] [(.int (1 : Int32))]) _
      refine Go.step (fun _ => XS.istore X14.here hx rfl (hb hby at_87) rfl (l' := #[.val (.int p0), .val (.long q1), .second, .val (.long q2), .second, .val (.int p3), .val (.int (((p0.toUInt32 >>> ((1 : Int32) &&& 31).toUInt32).toInt32) % (1001 : Int32))), .val (.long ((1 : Int64) + ((q1 &&& (9223372036854775807 : Int64)) - ((q1 &&& (9223372036854775807 : Int64)) / (3153600000 : Int64)) * (3153600000 : Int64)))), .second, .val (.long ((1 : Int64) + ((q2 &&& (9223372036854775807 : Int64)) - ((q2 &&& (9223372036854775807 : Int64)) / (3153600000 : Int64)) * (3153600000 : Int64)))), .second, .val (.int ((1 : Int32) + ((p3 &&& (2147483647 : Int32)) % (128 : Int32)))), .val (.ref b13), .val (.int (1 : Int32))]) rfl) ?_
      show Go p e below T14 (mkF m 89 #[.val (.int p0), .val (.long q1), .second, .val (.long q2), .second, .val (.int p3), .val (.int (((p0.toUInt32 >>> ((1 : Int32) &&& 31).toUInt32).toInt32) % (1001 : Int32))), .val (.long ((1 : Int64) + ((q1 &&& (9223372036854775807 : Int64)) - ((q1 &&& (9223372036854775807 : Int64)) / (3153600000 : Int64)) * (3153600000 : Int64)))), .second, .val (.long ((1 : Int64) + ((q2 &&& (9223372036854775807 : Int64)) - ((q2 &&& (9223372036854775807 : Int64)) / (3153600000 : Int64)) * (3153600000 : Int64)))), .second, .val (.int ((1 : Int32) + ((p3 &&& (2147483647 : Int32)) % (128 : Int32)))), .val (.ref b13), .val (.int (1 : Int32))] []) _
      refine Go.step (fun _ => XS.aload X14.here hx rfl (hb hby at_89) rfl rfl ) ?_
      show Go p e below T14 (mkF m 91 #[.val (.int p0), .val (.long q1), .second, .val (.long q2), .second, .val (.int p3), .val (.int (((p0.toUInt32 >>> ((1 : Int32) &&& 31).toUInt32).toInt32) % (1001 : Int32))), .val (.long ((1 : Int64) + ((q1 &&& (9223372036854775807 : Int64)) - ((q1 &&& (9223372036854775807 : Int64)) / (3153600000 : Int64)) * (3153600000 : Int64)))), .second, .val (.long ((1 : Int64) + ((q2 &&& (9223372036854775807 : Int64)) - ((q2 &&& (9223372036854775807 : Int64)) / (3153600000 : Int64)) * (3153600000 : Int64)))), .second, .val (.int ((1 : Int32) + ((p3 &&& (2147483647 : Int32)) % (128 : Int32)))), .val (.ref b13), .val (.int (1 : Int32))] [(.ref b13)]) _
      obtain ⟨cq15, kq15, q15a, q15b, q15c⟩ := isOf hZ rfl A13_q14
      obtain ⟨_, _, ⟨T15, L15, k15, n15⟩, -, X15, ⟨Lc15, hQ15, l15, y15, z15⟩, st15⟩ := X14.virtualBack hx (y := (⟨"com/example/rekey/rekey/server/LockoutPolicy", "isOff", "()Z"⟩ : MethodName)) (z := (⟨"com/example/rekey/rekey/server/LockoutPolicy", "isOff", "()Z"⟩ : MethodName)) hown (mvT hZ (hw _ (List.mem_of_getElem? (i := 26) rfl))) (mvT hZ (hw _ (List.mem_of_getElem? (i := 27) rfl))) (notFace_of_selects (args := #[]) (mvT hZ (hw _ (List.mem_of_getElem? (i := 29) rfl)))) (mvT hZ (hw _ (List.mem_of_getElem? (i := 29) rfl))) (mvT hZ (hw _ (List.mem_of_getElem? (i := 28) rfl))) (by decide) (backOf (W := 0) (rm4 l Z a0 hw [] b13 (((p0.toUInt32 >>> ((1 : Int32) &&& 31).toUInt32).toInt32) % (1001 : Int32)) (1 : Int32) T14.heap n0 Z14 Fx14 (by rw [if_pos hc79])) hZ (hw _ (List.mem_of_getElem? (i := 30) rfl)) (hw _ (List.mem_of_getElem? (i := 5) rfl)) (by decide) (by decide)) q15a q15c (g := (mkF m 91 #[.val (.int p0), .val (.long q1), .second, .val (.long q2), .second, .val (.int p3), .val (.int (((p0.toUInt32 >>> ((1 : Int32) &&& 31).toUInt32).toInt32) % (1001 : Int32))), .val (.long ((1 : Int64) + ((q1 &&& (9223372036854775807 : Int64)) - ((q1 &&& (9223372036854775807 : Int64)) / (3153600000 : Int64)) * (3153600000 : Int64)))), .second, .val (.long ((1 : Int64) + ((q2 &&& (9223372036854775807 : Int64)) - ((q2 &&& (9223372036854775807 : Int64)) / (3153600000 : Int64)) * (3153600000 : Int64)))), .second, .val (.int ((1 : Int32) + ((p3 &&& (2147483647 : Int32)) % (128 : Int32)))), .val (.ref b13), .val (.int (1 : Int32))] [(.ref b13)])) rfl (by rw [hml]; rfl) (Steps.refl _) (argsL := []) (rest := []) (lenOf pd_2 rfl) rfl (by show 2 * 0 + _ ≤ _; exact Nat.le_of_eq rfl) (hb hby at_91) (fun _ _ => ⟨rfl, rfl, (by decide : 0 + 1 + 0 + 0 ≤ _), (by decide : 0 + 4 + 0 + 0 ≤ _)⟩)
      dsimp only [Pt.U, Pt.locs, Pt.cells, Pt.slots] at X15 l15 y15 z15 st15 hQ15
      subst l15 y15 z15
      obtain ⟨rfl, Nq15, eh15⟩ := hQ15
      have N15 := Fr.app N14 Nq15
      refine Go.call st15 ?_
      show Go p e below T15 (mkF m 94 #[.val (.int p0), .val (.long q1), .second, .val (.long q2), .second, .val (.int p3), .val (.int (((p0.toUInt32 >>> ((1 : Int32) &&& 31).toUInt32).toInt32) % (1001 : Int32))), .val (.long ((1 : Int64) + ((q1 &&& (9223372036854775807 : Int64)) - ((q1 &&& (9223372036854775807 : Int64)) / (3153600000 : Int64)) * (3153600000 : Int64)))), .second, .val (.long ((1 : Int64) + ((q2 &&& (9223372036854775807 : Int64)) - ((q2 &&& (9223372036854775807 : Int64)) / (3153600000 : Int64)) * (3153600000 : Int64)))), .second, .val (.int ((1 : Int32) + ((p3 &&& (2147483647 : Int32)) % (128 : Int32)))), .val (.ref b13), .val (.int (1 : Int32))] [(.int (1 : Int32))]) _
      refine Go.step (fun _ => XS.iload X15.here hx rfl (hb hby at_94) rfl ) ?_
      show Go p e below T15 (mkF m 96 #[.val (.int p0), .val (.long q1), .second, .val (.long q2), .second, .val (.int p3), .val (.int (((p0.toUInt32 >>> ((1 : Int32) &&& 31).toUInt32).toInt32) % (1001 : Int32))), .val (.long ((1 : Int64) + ((q1 &&& (9223372036854775807 : Int64)) - ((q1 &&& (9223372036854775807 : Int64)) / (3153600000 : Int64)) * (3153600000 : Int64)))), .second, .val (.long ((1 : Int64) + ((q2 &&& (9223372036854775807 : Int64)) - ((q2 &&& (9223372036854775807 : Int64)) / (3153600000 : Int64)) * (3153600000 : Int64)))), .second, .val (.int ((1 : Int32) + ((p3 &&& (2147483647 : Int32)) % (128 : Int32)))), .val (.ref b13), .val (.int (1 : Int32))] [(.int (1 : Int32)), (.int (1 : Int32))]) _
      refine Go.step (fun _ => XS.icmpNo X15.here hx rfl (hb hby at_96) rfl (teq (by decide)).2) ?_
      show Go p e below T15 (mkF m 99 #[.val (.int p0), .val (.long q1), .second, .val (.long q2), .second, .val (.int p3), .val (.int (((p0.toUInt32 >>> ((1 : Int32) &&& 31).toUInt32).toInt32) % (1001 : Int32))), .val (.long ((1 : Int64) + ((q1 &&& (9223372036854775807 : Int64)) - ((q1 &&& (9223372036854775807 : Int64)) / (3153600000 : Int64)) * (3153600000 : Int64)))), .second, .val (.long ((1 : Int64) + ((q2 &&& (9223372036854775807 : Int64)) - ((q2 &&& (9223372036854775807 : Int64)) / (3153600000 : Int64)) * (3153600000 : Int64)))), .second, .val (.int ((1 : Int32) + ((p3 &&& (2147483647 : Int32)) % (128 : Int32)))), .val (.ref b13), .val (.int (1 : Int32))] []) _
      obtain ⟨T16, X16, e16, st16⟩ := getS2 X15 hx hZ hown (host := "") (Or.inl (hw _ (List.mem_of_getElem? (i := 31) rfl))) Via.refl eh15 SO_q14 (g := (mkF m 99 #[.val (.int p0), .val (.long q1), .second, .val (.long q2), .second, .val (.int p3), .val (.int (((p0.toUInt32 >>> ((1 : Int32) &&& 31).toUInt32).toInt32) % (1001 : Int32))), .val (.long ((1 : Int64) + ((q1 &&& (9223372036854775807 : Int64)) - ((q1 &&& (9223372036854775807 : Int64)) / (3153600000 : Int64)) * (3153600000 : Int64)))), .second, .val (.long ((1 : Int64) + ((q2 &&& (9223372036854775807 : Int64)) - ((q2 &&& (9223372036854775807 : Int64)) / (3153600000 : Int64)) * (3153600000 : Int64)))), .second, .val (.int ((1 : Int32) + ((p3 &&& (2147483647 : Int32)) % (128 : Int32)))), .val (.ref b13), .val (.int (1 : Int32))] [])) rfl (hb hby at_99)
      refine Go.step st16 ?_
      show Go p e below T16 (mkF m 102 #[.val (.int p0), .val (.long q1), .second, .val (.long q2), .second, .val (.int p3), .val (.int (((p0.toUInt32 >>> ((1 : Int32) &&& 31).toUInt32).toInt32) % (1001 : Int32))), .val (.long ((1 : Int64) + ((q1 &&& (9223372036854775807 : Int64)) - ((q1 &&& (9223372036854775807 : Int64)) / (3153600000 : Int64)) * (3153600000 : Int64)))), .second, .val (.long ((1 : Int64) + ((q2 &&& (9223372036854775807 : Int64)) - ((q2 &&& (9223372036854775807 : Int64)) / (3153600000 : Int64)) * (3153600000 : Int64)))), .second, .val (.int ((1 : Int32) + ((p3 &&& (2147483647 : Int32)) % (128 : Int32)))), .val (.ref b13), .val (.int (1 : Int32))] [(.ref wO)]) _
      obtain ⟨cq17, kq17, q17a, q17b, q17c⟩ := isOf hZ e16 EO_q14
      obtain ⟨_, _, ⟨T17, L17, k17, n17⟩, -, X17, ⟨Lc17, hQ17, l17, y17, z17⟩, st17⟩ := X16.virtualBack hx (y := (⟨"com/example/rekey/rekey/server/LockoutPolicy", "isOff", "()Z"⟩ : MethodName)) (z := (⟨"com/example/rekey/rekey/server/LockoutPolicy", "isOff", "()Z"⟩ : MethodName)) hown (mvT hZ (hw _ (List.mem_of_getElem? (i := 26) rfl))) (mvT hZ (hw _ (List.mem_of_getElem? (i := 27) rfl))) (notFace_of_selects (args := #[]) (mvT hZ (hw _ (List.mem_of_getElem? (i := 29) rfl)))) (mvT hZ (hw _ (List.mem_of_getElem? (i := 29) rfl))) (mvT hZ (hw _ (List.mem_of_getElem? (i := 28) rfl))) (by decide) (backOf (W := 0) (rm4 l Z a0 hw [] wO (0 : Int32) (1 : Int32) T14.heap n0 Z14 FO_q14 (by decide)) hZ (hw _ (List.mem_of_getElem? (i := 30) rfl)) (hw _ (List.mem_of_getElem? (i := 5) rfl)) (by decide) (by decide)) q17a q17c (g := (mkF m 102 #[.val (.int p0), .val (.long q1), .second, .val (.long q2), .second, .val (.int p3), .val (.int (((p0.toUInt32 >>> ((1 : Int32) &&& 31).toUInt32).toInt32) % (1001 : Int32))), .val (.long ((1 : Int64) + ((q1 &&& (9223372036854775807 : Int64)) - ((q1 &&& (9223372036854775807 : Int64)) / (3153600000 : Int64)) * (3153600000 : Int64)))), .second, .val (.long ((1 : Int64) + ((q2 &&& (9223372036854775807 : Int64)) - ((q2 &&& (9223372036854775807 : Int64)) / (3153600000 : Int64)) * (3153600000 : Int64)))), .second, .val (.int ((1 : Int32) + ((p3 &&& (2147483647 : Int32)) % (128 : Int32)))), .val (.ref b13), .val (.int (1 : Int32))] [(.ref wO)])) rfl (by rw [hml]; rfl) (Steps.refl _) (argsL := []) (rest := []) (lenOf pd_2 rfl) rfl (by show 2 * 0 + _ ≤ _; exact Nat.le_of_eq rfl) (hb hby at_102) (fun _ _ => ⟨rfl, e16, (by decide : 0 + 1 + 0 + 0 + 0 ≤ _), (by decide : 0 + 4 + 0 + 0 + 0 ≤ _)⟩)
      dsimp only [Pt.U, Pt.locs, Pt.cells, Pt.slots] at X17 l17 y17 z17 st17 hQ17
      subst l17 y17 z17
      obtain ⟨rfl, Nq17, eh17⟩ := hQ17
      have N17 := Fr.app N15 Nq17
      refine Go.call st17 ?_
      show Go p e below T17 (mkF m 105 #[.val (.int p0), .val (.long q1), .second, .val (.long q2), .second, .val (.int p3), .val (.int (((p0.toUInt32 >>> ((1 : Int32) &&& 31).toUInt32).toInt32) % (1001 : Int32))), .val (.long ((1 : Int64) + ((q1 &&& (9223372036854775807 : Int64)) - ((q1 &&& (9223372036854775807 : Int64)) / (3153600000 : Int64)) * (3153600000 : Int64)))), .second, .val (.long ((1 : Int64) + ((q2 &&& (9223372036854775807 : Int64)) - ((q2 &&& (9223372036854775807 : Int64)) / (3153600000 : Int64)) * (3153600000 : Int64)))), .second, .val (.int ((1 : Int32) + ((p3 &&& (2147483647 : Int32)) % (128 : Int32)))), .val (.ref b13), .val (.int (1 : Int32))] [(.int (1 : Int32))]) _
      refine Go.step (fun _ => XS.ifNo X17.here hx rfl (hb hby at_105) rfl ((if0 _ _).trans (feq (by decide)).1)) ?_
      show Go p e below T17 (mkF m 108 #[.val (.int p0), .val (.long q1), .second, .val (.long q2), .second, .val (.int p3), .val (.int (((p0.toUInt32 >>> ((1 : Int32) &&& 31).toUInt32).toInt32) % (1001 : Int32))), .val (.long ((1 : Int64) + ((q1 &&& (9223372036854775807 : Int64)) - ((q1 &&& (9223372036854775807 : Int64)) / (3153600000 : Int64)) * (3153600000 : Int64)))), .second, .val (.long ((1 : Int64) + ((q2 &&& (9223372036854775807 : Int64)) - ((q2 &&& (9223372036854775807 : Int64)) / (3153600000 : Int64)) * (3153600000 : Int64)))), .second, .val (.int ((1 : Int32) + ((p3 &&& (2147483647 : Int32)) % (128 : Int32)))), .val (.ref b13), .val (.int (1 : Int32))] []) _
      refine Go.step (fun _ => XS.iconst X17.here hx rfl (hb hby at_108)) ?_
      show Go p e below T17 (mkF m 109 #[.val (.int p0), .val (.long q1), .second, .val (.long q2), .second, .val (.int p3), .val (.int (((p0.toUInt32 >>> ((1 : Int32) &&& 31).toUInt32).toInt32) % (1001 : Int32))), .val (.long ((1 : Int64) + ((q1 &&& (9223372036854775807 : Int64)) - ((q1 &&& (9223372036854775807 : Int64)) / (3153600000 : Int64)) * (3153600000 : Int64)))), .second, .val (.long ((1 : Int64) + ((q2 &&& (9223372036854775807 : Int64)) - ((q2 &&& (9223372036854775807 : Int64)) / (3153600000 : Int64)) * (3153600000 : Int64)))), .second, .val (.int ((1 : Int32) + ((p3 &&& (2147483647 : Int32)) % (128 : Int32)))), .val (.ref b13), .val (.int (1 : Int32))] [(.int (1 : Int32))]) _
      refine Go.step (fun _ => XS.goto X17.here hx rfl (pc0 := 109) (pc' := 113) rfl (hb hby at_109) (by decide) (by decide)) ?_
      show Go p e below T17 (mkF m 113 #[.val (.int p0), .val (.long q1), .second, .val (.long q2), .second, .val (.int p3), .val (.int (((p0.toUInt32 >>> ((1 : Int32) &&& 31).toUInt32).toInt32) % (1001 : Int32))), .val (.long ((1 : Int64) + ((q1 &&& (9223372036854775807 : Int64)) - ((q1 &&& (9223372036854775807 : Int64)) / (3153600000 : Int64)) * (3153600000 : Int64)))), .second, .val (.long ((1 : Int64) + ((q2 &&& (9223372036854775807 : Int64)) - ((q2 &&& (9223372036854775807 : Int64)) / (3153600000 : Int64)) * (3153600000 : Int64)))), .second, .val (.int ((1 : Int32) + ((p3 &&& (2147483647 : Int32)) % (128 : Int32)))), .val (.ref b13), .val (.int (1 : Int32))] [(.int (1 : Int32))]) _
      refine Go.retN (t := .boolean) (z' := (1 : Int32)) X17 hx hret (by simp) hlk (hb hby at_113) (by decide) ?_ (by decide) (by decide)
      exact ⟨rfl, N17⟩
    · skip
      refine Go.step (fun _ => XS.ifYes X14.here hx rfl (pc0 := 79) (pc' := 86) rfl (hb hby at_79) rfl ((if0 _ _).trans (feq hc79).2) (by decide) (by decide)) ?_
      show Go p e below T14 (mkF m 86 #[.val (.int p0), .val (.long q1), .second, .val (.long q2), .second, .val (.int p3), .val (.int (((p0.toUInt32 >>> ((1 : Int32) &&& 31).toUInt32).toInt32) % (1001 : Int32))), .val (.long ((1 : Int64) + ((q1 &&& (9223372036854775807 : Int64)) - ((q1 &&& (9223372036854775807 : Int64)) / (3153600000 : Int64)) * (3153600000 : Int64)))), .second, .val (.long ((1 : Int64) + ((q2 &&& (9223372036854775807 : Int64)) - ((q2 &&& (9223372036854775807 : Int64)) / (3153600000 : Int64)) * (3153600000 : Int64)))), .second, .val (.int ((1 : Int32) + ((p3 &&& (2147483647 : Int32)) % (128 : Int32)))), .val (.ref b13), .unset] []) _
      refine Go.step (fun _ => XS.iconst X14.here hx rfl (hb hby at_86)) ?_
      show Go p e below T14 (mkF m 87 #[.val (.int p0), .val (.long q1), .second, .val (.long q2), .second, .val (.int p3), .val (.int (((p0.toUInt32 >>> ((1 : Int32) &&& 31).toUInt32).toInt32) % (1001 : Int32))), .val (.long ((1 : Int64) + ((q1 &&& (9223372036854775807 : Int64)) - ((q1 &&& (9223372036854775807 : Int64)) / (3153600000 : Int64)) * (3153600000 : Int64)))), .second, .val (.long ((1 : Int64) + ((q2 &&& (9223372036854775807 : Int64)) - ((q2 &&& (9223372036854775807 : Int64)) / (3153600000 : Int64)) * (3153600000 : Int64)))), .second, .val (.int ((1 : Int32) + ((p3 &&& (2147483647 : Int32)) % (128 : Int32)))), .val (.ref b13), .unset] [(.int (0 : Int32))]) _
      refine Go.step (fun _ => XS.istore X14.here hx rfl (hb hby at_87) rfl (l' := #[.val (.int p0), .val (.long q1), .second, .val (.long q2), .second, .val (.int p3), .val (.int (((p0.toUInt32 >>> ((1 : Int32) &&& 31).toUInt32).toInt32) % (1001 : Int32))), .val (.long ((1 : Int64) + ((q1 &&& (9223372036854775807 : Int64)) - ((q1 &&& (9223372036854775807 : Int64)) / (3153600000 : Int64)) * (3153600000 : Int64)))), .second, .val (.long ((1 : Int64) + ((q2 &&& (9223372036854775807 : Int64)) - ((q2 &&& (9223372036854775807 : Int64)) / (3153600000 : Int64)) * (3153600000 : Int64)))), .second, .val (.int ((1 : Int32) + ((p3 &&& (2147483647 : Int32)) % (128 : Int32)))), .val (.ref b13), .val (.int (0 : Int32))]) rfl) ?_
      show Go p e below T14 (mkF m 89 #[.val (.int p0), .val (.long q1), .second, .val (.long q2), .second, .val (.int p3), .val (.int (((p0.toUInt32 >>> ((1 : Int32) &&& 31).toUInt32).toInt32) % (1001 : Int32))), .val (.long ((1 : Int64) + ((q1 &&& (9223372036854775807 : Int64)) - ((q1 &&& (9223372036854775807 : Int64)) / (3153600000 : Int64)) * (3153600000 : Int64)))), .second, .val (.long ((1 : Int64) + ((q2 &&& (9223372036854775807 : Int64)) - ((q2 &&& (9223372036854775807 : Int64)) / (3153600000 : Int64)) * (3153600000 : Int64)))), .second, .val (.int ((1 : Int32) + ((p3 &&& (2147483647 : Int32)) % (128 : Int32)))), .val (.ref b13), .val (.int (0 : Int32))] []) _
      refine Go.step (fun _ => XS.aload X14.here hx rfl (hb hby at_89) rfl rfl ) ?_
      show Go p e below T14 (mkF m 91 #[.val (.int p0), .val (.long q1), .second, .val (.long q2), .second, .val (.int p3), .val (.int (((p0.toUInt32 >>> ((1 : Int32) &&& 31).toUInt32).toInt32) % (1001 : Int32))), .val (.long ((1 : Int64) + ((q1 &&& (9223372036854775807 : Int64)) - ((q1 &&& (9223372036854775807 : Int64)) / (3153600000 : Int64)) * (3153600000 : Int64)))), .second, .val (.long ((1 : Int64) + ((q2 &&& (9223372036854775807 : Int64)) - ((q2 &&& (9223372036854775807 : Int64)) / (3153600000 : Int64)) * (3153600000 : Int64)))), .second, .val (.int ((1 : Int32) + ((p3 &&& (2147483647 : Int32)) % (128 : Int32)))), .val (.ref b13), .val (.int (0 : Int32))] [(.ref b13)]) _
      obtain ⟨cq18, kq18, q18a, q18b, q18c⟩ := isOf hZ rfl A13_q14
      obtain ⟨_, _, ⟨T18, L18, k18, n18⟩, -, X18, ⟨Lc18, hQ18, l18, y18, z18⟩, st18⟩ := X14.virtualBack hx (y := (⟨"com/example/rekey/rekey/server/LockoutPolicy", "isOff", "()Z"⟩ : MethodName)) (z := (⟨"com/example/rekey/rekey/server/LockoutPolicy", "isOff", "()Z"⟩ : MethodName)) hown (mvT hZ (hw _ (List.mem_of_getElem? (i := 26) rfl))) (mvT hZ (hw _ (List.mem_of_getElem? (i := 27) rfl))) (notFace_of_selects (args := #[]) (mvT hZ (hw _ (List.mem_of_getElem? (i := 29) rfl)))) (mvT hZ (hw _ (List.mem_of_getElem? (i := 29) rfl))) (mvT hZ (hw _ (List.mem_of_getElem? (i := 28) rfl))) (by decide) (backOf (W := 0) (rm4 l Z a0 hw [] b13 (((p0.toUInt32 >>> ((1 : Int32) &&& 31).toUInt32).toInt32) % (1001 : Int32)) (0 : Int32) T14.heap n0 Z14 Fx14 (by rw [if_neg hc79])) hZ (hw _ (List.mem_of_getElem? (i := 30) rfl)) (hw _ (List.mem_of_getElem? (i := 5) rfl)) (by decide) (by decide)) q18a q18c (g := (mkF m 91 #[.val (.int p0), .val (.long q1), .second, .val (.long q2), .second, .val (.int p3), .val (.int (((p0.toUInt32 >>> ((1 : Int32) &&& 31).toUInt32).toInt32) % (1001 : Int32))), .val (.long ((1 : Int64) + ((q1 &&& (9223372036854775807 : Int64)) - ((q1 &&& (9223372036854775807 : Int64)) / (3153600000 : Int64)) * (3153600000 : Int64)))), .second, .val (.long ((1 : Int64) + ((q2 &&& (9223372036854775807 : Int64)) - ((q2 &&& (9223372036854775807 : Int64)) / (3153600000 : Int64)) * (3153600000 : Int64)))), .second, .val (.int ((1 : Int32) + ((p3 &&& (2147483647 : Int32)) % (128 : Int32)))), .val (.ref b13), .val (.int (0 : Int32))] [(.ref b13)])) rfl (by rw [hml]; rfl) (Steps.refl _) (argsL := []) (rest := []) (lenOf pd_2 rfl) rfl (by show 2 * 0 + _ ≤ _; exact Nat.le_of_eq rfl) (hb hby at_91) (fun _ _ => ⟨rfl, rfl, (by decide : 0 + 1 + 0 + 0 ≤ _), (by decide : 0 + 4 + 0 + 0 ≤ _)⟩)
      dsimp only [Pt.U, Pt.locs, Pt.cells, Pt.slots] at X18 l18 y18 z18 st18 hQ18
      subst l18 y18 z18
      obtain ⟨rfl, Nq18, eh18⟩ := hQ18
      have N18 := Fr.app N14 Nq18
      refine Go.call st18 ?_
      show Go p e below T18 (mkF m 94 #[.val (.int p0), .val (.long q1), .second, .val (.long q2), .second, .val (.int p3), .val (.int (((p0.toUInt32 >>> ((1 : Int32) &&& 31).toUInt32).toInt32) % (1001 : Int32))), .val (.long ((1 : Int64) + ((q1 &&& (9223372036854775807 : Int64)) - ((q1 &&& (9223372036854775807 : Int64)) / (3153600000 : Int64)) * (3153600000 : Int64)))), .second, .val (.long ((1 : Int64) + ((q2 &&& (9223372036854775807 : Int64)) - ((q2 &&& (9223372036854775807 : Int64)) / (3153600000 : Int64)) * (3153600000 : Int64)))), .second, .val (.int ((1 : Int32) + ((p3 &&& (2147483647 : Int32)) % (128 : Int32)))), .val (.ref b13), .val (.int (0 : Int32))] [(.int (0 : Int32))]) _
      refine Go.step (fun _ => XS.iload X18.here hx rfl (hb hby at_94) rfl ) ?_
      show Go p e below T18 (mkF m 96 #[.val (.int p0), .val (.long q1), .second, .val (.long q2), .second, .val (.int p3), .val (.int (((p0.toUInt32 >>> ((1 : Int32) &&& 31).toUInt32).toInt32) % (1001 : Int32))), .val (.long ((1 : Int64) + ((q1 &&& (9223372036854775807 : Int64)) - ((q1 &&& (9223372036854775807 : Int64)) / (3153600000 : Int64)) * (3153600000 : Int64)))), .second, .val (.long ((1 : Int64) + ((q2 &&& (9223372036854775807 : Int64)) - ((q2 &&& (9223372036854775807 : Int64)) / (3153600000 : Int64)) * (3153600000 : Int64)))), .second, .val (.int ((1 : Int32) + ((p3 &&& (2147483647 : Int32)) % (128 : Int32)))), .val (.ref b13), .val (.int (0 : Int32))] [(.int (0 : Int32)), (.int (0 : Int32))]) _
      refine Go.step (fun _ => XS.icmpNo X18.here hx rfl (hb hby at_96) rfl (teq (by decide)).2) ?_
      show Go p e below T18 (mkF m 99 #[.val (.int p0), .val (.long q1), .second, .val (.long q2), .second, .val (.int p3), .val (.int (((p0.toUInt32 >>> ((1 : Int32) &&& 31).toUInt32).toInt32) % (1001 : Int32))), .val (.long ((1 : Int64) + ((q1 &&& (9223372036854775807 : Int64)) - ((q1 &&& (9223372036854775807 : Int64)) / (3153600000 : Int64)) * (3153600000 : Int64)))), .second, .val (.long ((1 : Int64) + ((q2 &&& (9223372036854775807 : Int64)) - ((q2 &&& (9223372036854775807 : Int64)) / (3153600000 : Int64)) * (3153600000 : Int64)))), .second, .val (.int ((1 : Int32) + ((p3 &&& (2147483647 : Int32)) % (128 : Int32)))), .val (.ref b13), .val (.int (0 : Int32))] []) _
      obtain ⟨T19, X19, e19, st19⟩ := getS2 X18 hx hZ hown (host := "") (Or.inl (hw _ (List.mem_of_getElem? (i := 31) rfl))) Via.refl eh18 SO_q14 (g := (mkF m 99 #[.val (.int p0), .val (.long q1), .second, .val (.long q2), .second, .val (.int p3), .val (.int (((p0.toUInt32 >>> ((1 : Int32) &&& 31).toUInt32).toInt32) % (1001 : Int32))), .val (.long ((1 : Int64) + ((q1 &&& (9223372036854775807 : Int64)) - ((q1 &&& (9223372036854775807 : Int64)) / (3153600000 : Int64)) * (3153600000 : Int64)))), .second, .val (.long ((1 : Int64) + ((q2 &&& (9223372036854775807 : Int64)) - ((q2 &&& (9223372036854775807 : Int64)) / (3153600000 : Int64)) * (3153600000 : Int64)))), .second, .val (.int ((1 : Int32) + ((p3 &&& (2147483647 : Int32)) % (128 : Int32)))), .val (.ref b13), .val (.int (0 : Int32))] [])) rfl (hb hby at_99)
      refine Go.step st19 ?_
      show Go p e below T19 (mkF m 102 #[.val (.int p0), .val (.long q1), .second, .val (.long q2), .second, .val (.int p3), .val (.int (((p0.toUInt32 >>> ((1 : Int32) &&& 31).toUInt32).toInt32) % (1001 : Int32))), .val (.long ((1 : Int64) + ((q1 &&& (9223372036854775807 : Int64)) - ((q1 &&& (9223372036854775807 : Int64)) / (3153600000 : Int64)) * (3153600000 : Int64)))), .second, .val (.long ((1 : Int64) + ((q2 &&& (9223372036854775807 : Int64)) - ((q2 &&& (9223372036854775807 : Int64)) / (3153600000 : Int64)) * (3153600000 : Int64)))), .second, .val (.int ((1 : Int32) + ((p3 &&& (2147483647 : Int32)) % (128 : Int32)))), .val (.ref b13), .val (.int (0 : Int32))] [(.ref wO)]) _
      obtain ⟨cq20, kq20, q20a, q20b, q20c⟩ := isOf hZ e19 EO_q14
      obtain ⟨_, _, ⟨T20, L20, k20, n20⟩, -, X20, ⟨Lc20, hQ20, l20, y20, z20⟩, st20⟩ := X19.virtualBack hx (y := (⟨"com/example/rekey/rekey/server/LockoutPolicy", "isOff", "()Z"⟩ : MethodName)) (z := (⟨"com/example/rekey/rekey/server/LockoutPolicy", "isOff", "()Z"⟩ : MethodName)) hown (mvT hZ (hw _ (List.mem_of_getElem? (i := 26) rfl))) (mvT hZ (hw _ (List.mem_of_getElem? (i := 27) rfl))) (notFace_of_selects (args := #[]) (mvT hZ (hw _ (List.mem_of_getElem? (i := 29) rfl)))) (mvT hZ (hw _ (List.mem_of_getElem? (i := 29) rfl))) (mvT hZ (hw _ (List.mem_of_getElem? (i := 28) rfl))) (by decide) (backOf (W := 0) (rm4 l Z a0 hw [] wO (0 : Int32) (1 : Int32) T14.heap n0 Z14 FO_q14 (by decide)) hZ (hw _ (List.mem_of_getElem? (i := 30) rfl)) (hw _ (List.mem_of_getElem? (i := 5) rfl)) (by decide) (by decide)) q20a q20c (g := (mkF m 102 #[.val (.int p0), .val (.long q1), .second, .val (.long q2), .second, .val (.int p3), .val (.int (((p0.toUInt32 >>> ((1 : Int32) &&& 31).toUInt32).toInt32) % (1001 : Int32))), .val (.long ((1 : Int64) + ((q1 &&& (9223372036854775807 : Int64)) - ((q1 &&& (9223372036854775807 : Int64)) / (3153600000 : Int64)) * (3153600000 : Int64)))), .second, .val (.long ((1 : Int64) + ((q2 &&& (9223372036854775807 : Int64)) - ((q2 &&& (9223372036854775807 : Int64)) / (3153600000 : Int64)) * (3153600000 : Int64)))), .second, .val (.int ((1 : Int32) + ((p3 &&& (2147483647 : Int32)) % (128 : Int32)))), .val (.ref b13), .val (.int (0 : Int32))] [(.ref wO)])) rfl (by rw [hml]; rfl) (Steps.refl _) (argsL := []) (rest := []) (lenOf pd_2 rfl) rfl (by show 2 * 0 + _ ≤ _; exact Nat.le_of_eq rfl) (hb hby at_102) (fun _ _ => ⟨rfl, e19, (by decide : 0 + 1 + 0 + 0 + 0 ≤ _), (by decide : 0 + 4 + 0 + 0 + 0 ≤ _)⟩)
      dsimp only [Pt.U, Pt.locs, Pt.cells, Pt.slots] at X20 l20 y20 z20 st20 hQ20
      subst l20 y20 z20
      obtain ⟨rfl, Nq20, eh20⟩ := hQ20
      have N20 := Fr.app N18 Nq20
      refine Go.call st20 ?_
      show Go p e below T20 (mkF m 105 #[.val (.int p0), .val (.long q1), .second, .val (.long q2), .second, .val (.int p3), .val (.int (((p0.toUInt32 >>> ((1 : Int32) &&& 31).toUInt32).toInt32) % (1001 : Int32))), .val (.long ((1 : Int64) + ((q1 &&& (9223372036854775807 : Int64)) - ((q1 &&& (9223372036854775807 : Int64)) / (3153600000 : Int64)) * (3153600000 : Int64)))), .second, .val (.long ((1 : Int64) + ((q2 &&& (9223372036854775807 : Int64)) - ((q2 &&& (9223372036854775807 : Int64)) / (3153600000 : Int64)) * (3153600000 : Int64)))), .second, .val (.int ((1 : Int32) + ((p3 &&& (2147483647 : Int32)) % (128 : Int32)))), .val (.ref b13), .val (.int (0 : Int32))] [(.int (1 : Int32))]) _
      refine Go.step (fun _ => XS.ifNo X20.here hx rfl (hb hby at_105) rfl ((if0 _ _).trans (feq (by decide)).1)) ?_
      show Go p e below T20 (mkF m 108 #[.val (.int p0), .val (.long q1), .second, .val (.long q2), .second, .val (.int p3), .val (.int (((p0.toUInt32 >>> ((1 : Int32) &&& 31).toUInt32).toInt32) % (1001 : Int32))), .val (.long ((1 : Int64) + ((q1 &&& (9223372036854775807 : Int64)) - ((q1 &&& (9223372036854775807 : Int64)) / (3153600000 : Int64)) * (3153600000 : Int64)))), .second, .val (.long ((1 : Int64) + ((q2 &&& (9223372036854775807 : Int64)) - ((q2 &&& (9223372036854775807 : Int64)) / (3153600000 : Int64)) * (3153600000 : Int64)))), .second, .val (.int ((1 : Int32) + ((p3 &&& (2147483647 : Int32)) % (128 : Int32)))), .val (.ref b13), .val (.int (0 : Int32))] []) _
      refine Go.step (fun _ => XS.iconst X20.here hx rfl (hb hby at_108)) ?_
      show Go p e below T20 (mkF m 109 #[.val (.int p0), .val (.long q1), .second, .val (.long q2), .second, .val (.int p3), .val (.int (((p0.toUInt32 >>> ((1 : Int32) &&& 31).toUInt32).toInt32) % (1001 : Int32))), .val (.long ((1 : Int64) + ((q1 &&& (9223372036854775807 : Int64)) - ((q1 &&& (9223372036854775807 : Int64)) / (3153600000 : Int64)) * (3153600000 : Int64)))), .second, .val (.long ((1 : Int64) + ((q2 &&& (9223372036854775807 : Int64)) - ((q2 &&& (9223372036854775807 : Int64)) / (3153600000 : Int64)) * (3153600000 : Int64)))), .second, .val (.int ((1 : Int32) + ((p3 &&& (2147483647 : Int32)) % (128 : Int32)))), .val (.ref b13), .val (.int (0 : Int32))] [(.int (1 : Int32))]) _
      refine Go.step (fun _ => XS.goto X20.here hx rfl (pc0 := 109) (pc' := 113) rfl (hb hby at_109) (by decide) (by decide)) ?_
      show Go p e below T20 (mkF m 113 #[.val (.int p0), .val (.long q1), .second, .val (.long q2), .second, .val (.int p3), .val (.int (((p0.toUInt32 >>> ((1 : Int32) &&& 31).toUInt32).toInt32) % (1001 : Int32))), .val (.long ((1 : Int64) + ((q1 &&& (9223372036854775807 : Int64)) - ((q1 &&& (9223372036854775807 : Int64)) / (3153600000 : Int64)) * (3153600000 : Int64)))), .second, .val (.long ((1 : Int64) + ((q2 &&& (9223372036854775807 : Int64)) - ((q2 &&& (9223372036854775807 : Int64)) / (3153600000 : Int64)) * (3153600000 : Int64)))), .second, .val (.int ((1 : Int32) + ((p3 &&& (2147483647 : Int32)) % (128 : Int32)))), .val (.ref b13), .val (.int (0 : Int32))] [(.int (1 : Int32))]) _
      refine Go.retN (t := .boolean) (z' := (1 : Int32)) X20 hx hret (by simp) hlk (hb hby at_113) (by decide) ?_ (by decide) (by decide)
      exact ⟨rfl, N20⟩
set_option maxRecDepth 65536 in
set_option maxHeartbeats 40000000 in
theorem comes_1 {Post : Tables → Env → Array Value → State → Outcome → State → Prop} (hpost : ∀ tb e args s v u, (limb_1_1.after args s (.returned v) u = true ∧ limb_1_2.after args s (.returned v) u = true ∧ True) → FrameEnd s (.returned v) u (Jvm.fieldLocs frame_1_writes args s ++ Jvm.arrayLocs frame_1_arrays args s ++ Jvm.staticLocs frame_1_statics s) 16 128 → Post tb e args s (.returned v) u) :
    ArmFor flags0 classFile x code maxLocals ret World_1 tables_1 room_1 Calls_1 rest_1 Pre_1 Post := by
  intro l hfl _ _ p e ha hc hk s m args below hf hA hF happ hP
  obtain ⟨hcalls, hrest, hpre⟩ := hP
  obtain ⟨-, -, -, hnamed, -, -, -, hat⟩ := (Spec.applies_iff hf).mp happ
  obtain ⟨hg, hn⟩ := and_e (Cond.before_iff.mp (show (Jvm.Cond.and given_1 narrow_1).before args s = true from hpre))
  obtain ⟨g1, g2⟩ := and_e hg
  obtain ⟨g3, g4⟩ := and_e g2
  obtain ⟨g5, g6⟩ := and_e g4
  obtain ⟨g7, g8⟩ := and_e g6
  obtain ⟨w0, w1, w2, w3, rfl⟩ : ∃ w0 w1 w2 w3 : Value, args = #[w0, w1, w2, w3] := by
    have hs : args.size = 4 := by simpa [Cond.value, given_1] using g1
    obtain ⟨L⟩ := args
    match L, hs with
    | [w0, w1, w2, w3], _ => exact ⟨w0, w1, w2, w3, rfl⟩
  have hw := fun d (hd : d ∈ tables_1) => atoms_spec (ws := Jvm.Cond.code x code maxLocals ret :: tables_1) hat d (List.mem_cons_of_mem _ hd)
  have hfit : Fit s := fun {y c} hc i hi => by
    obtain ⟨ha, rfl⟩ := Array.getElem?_eq_some_iff.mp hc
    have q := List.all_eq_true.mp ((Array.all_eq_true_iff_forall_mem.mp hF) _ (Array.getElem_mem ha)) i (List.mem_range.mpr hi)
    simpa [Array.getElem?_eq_getElem hi] using q
  obtain ⟨i0, ei0⟩ := is_v g3
  obtain rfl : w0 = (.int i0) := Option.some.inj ei0
  obtain ⟨i1, ei1⟩ := isL_v g5
  obtain rfl : w1 = (.long i1) := Option.some.inj ei1
  obtain ⟨i2, ei2⟩ := isL_v g7
  obtain rfl : w2 = (.long i2) := Option.some.inj ei2
  obtain ⟨i3, ei3⟩ := is_v g8
  obtain rfl : w3 = (.int i3) := Option.some.inj ei3
  obtain ⟨u0, v0⟩ := and_e hn
  obtain ⟨wO, evwO⟩ := exa_v u0
  have EwO := Exa.start evwO u0
  have SO := Sta.start evwO (Or.inr ⟨(hw _ (List.mem_of_getElem? (i := 5) rfl)), (hw _ (List.mem_of_getElem? (i := 32) rfl))⟩)
  have OwO_failures := own_fldI evwO v0
  obtain ⟨n, o, h1, h2, h3, _, L, rfl, ⟨rfl, N⟩, hq⟩ := rm0 l s _ hw tables_1 i0 i1 i2 i3 wO s.heap s.heap.size (Nat.le_refl _) SO EwO OwO_failures p e ha hc hk s m _ below hf ((Spec.applies_iff_loose hf).mp happ).1 ⟨rfl, State.Warmed39.refl s, rfl⟩ trivial
  exact ⟨n, _, h1, h2, h3, hpost _ _ _ _ _ _ ⟨Cond.after_iff.mpr rfl, Cond.after_iff.mpr (eq_i res_at (Term.int_eval (1)) rfl), trivial⟩ ⟨hq.1, hq.2.1, (hq.2.2.sift fun y hy => Or.inr (N y hy)).mono (by decide) (by decide)⟩⟩
theorem main_1_1 : Claimed_1_1 := comes_1 fun _ _ _ _ _ _ h hF => ⟨h.1, hF⟩
theorem main_1_2 : Claimed_1_2 := comes_1 fun _ _ _ _ _ _ h hF => ⟨h.2.1, hF⟩
end Jvm.Pilot.@@N@@
namespace Jvm.Pilot.@@N@@
open Jvm Jvm.ClassFile Sem Op Lib Jvm.Free Jvm.Stand Jvm.Pilot.@@N@@.Jvm.D
/-! MADE BY PROGRAM (witnessworld.py) out of the Statement's table words and the real class files: 10 classes; the members and pool entries that the words name. The judged class is class 1, her method 1. -/
namespace start1
open Jvm.ClassFile
def u (s : String) : CpInfo := .utf8 (stringToUtf16 s)
/-- a pool by its gaps: so many unusable entries, then the entry; so many at the end -/
def gap : Nat → List CpInfo → List CpInfo
  | 0, r => r
  | n + 1, r => .unusable :: gap n r
def poolList (es : List (Nat × CpInfo)) (last : Nat) : List CpInfo := es.foldr (fun e r => gap e.1 (e.2 :: r)) (gap last [])
def pool (es : List (Nat × CpInfo)) (last : Nat) : Array CpInfo := ⟨poolList es last⟩
def fileOf (pool : Array CpInfo) (this : Nat) (attrs : Array Attribute := #[]) (ms : Array MethodInfo := #[]) (fl : Nat := 33) (sup : Nat := 0) (ifs : Array Nat := #[]) (fds : Array FieldInfo := #[]) : ClassFile where
  minorVersion := 0
  majorVersion := 65
  constantPool := pool
  accessFlags := fl
  thisClass := this
  superClass := sup
  interfaces := ifs
  fields := fds
  methods := ms
  attributes := attrs
def plain (name : String) (sup : Option ClassId) : Class where
  name := name
  kind := .ordinary
  loader := none
  accessFlags := 33
  super := sup
  interfaces := #[]
  cf := none
  fields := #[]
  methods := #[]
  instanceTypes := #[]
  staticTypes := #[]
  resolved := #[]
  callSites := []
  init := .initialized
  statics := none
  mirror := none

def pool0 : Array CpInfo := pool [(5, u "<init>"), (0, u "()V"), (1, .class_ 10), (1, u "java/lang/Object")] 113

def k0c0 : Code := { maxStack := 0, maxLocals := 1, code := object_method_1_code, exceptionTable := #[], attributes := #[] }
def k0m0 : Method := { name := "<init>", desc := "()V", sig := { parameters := [], returnType := none }, accessFlags := 1, code := some k0c0 }
/-- java/lang/Object -/
def k0 : Class := { plain "java/lang/Object" none with
  accessFlags := 33
  interfaces := #[]
  cf := some (fileOf pool0 8 #[] #[{ accessFlags := 1, nameIndex := 5, descriptorIndex := 6, attributes := #[] }] 33 0 #[] #[])
  fields := #[]
  methods := #[k0m0]
  instanceTypes := #[]
  staticTypes := #[]
  resolved := Array.replicate 124 none
  statics := none }

def pool1 : Array CpInfo := pool [(2, .class_ 4), (1, u "java/lang/Object"), (0, u "<init>"), (0, u "()V"), (0, .class_ 8), (0, u "com/example/rekey/rekey/server/LockoutPolicy"), (0, .long 9223372036854775807), (1, .long 3153600000), (1, .integer 2147483647), (0, .methodref 7 15), (0, .nameAndType 5 16), (0, u "(IJJI)V"), (0, .methodref 7 18), (0, .nameAndType 19 20), (0, u "isOff"), (0, u "()Z"), (0, .fieldref 7 22), (0, .nameAndType 23 24), (0, u "OFF"), (0, u "Lcom/example/rekey/rekey/server/LockoutPolicy;"), (0, .class_ 26), (0, u "com/example/rekey/rekey/server/LockoutPolicyIsOffPinLaw"), (2, u "law"), (0, u "(IJJI)Z")] 3

def k1m0 : Method := { name := "<init>", desc := "()V", sig := { parameters := [], returnType := none }, accessFlags := 2, code := none }
def k1c1 : Code := { maxStack := 8, maxLocals := 14, code := code, exceptionTable := #[], attributes := #[] }
def k1m1 : Method := { name := "law", desc := "(IJJI)Z", sig := { parameters := [.int, .long, .long, .int], returnType := some .boolean }, accessFlags := 9, code := some k1c1 }
/-- com/example/rekey/rekey/server/LockoutPolicyIsOffPinLaw -/
def k1 : Class := { plain "com/example/rekey/rekey/server/LockoutPolicyIsOffPinLaw" (some 0) with
  accessFlags := 49
  interfaces := #[]
  cf := some (fileOf pool1 25 #[] #[{ accessFlags := 2, nameIndex := 5, descriptorIndex := 6, attributes := #[] }, { accessFlags := 9, nameIndex := 29, descriptorIndex := 30, attributes := #[] }] 49 2 #[] #[])
  fields := #[]
  methods := #[k1m0, k1m1]
  instanceTypes := #[]
  staticTypes := #[]
  resolved := Array.replicate 34 none
  statics := none }

def pool2 : Array CpInfo := pool [(1, .methodref 2 3), (0, .class_ 4), (0, .nameAndType 5 6), (0, u "java/lang/Object"), (0, u "<init>"), (0, u "()V"), (0, .class_ 8), (0, u "java/lang/Record")] 13

def k2c0 : Code := { maxStack := 1, maxLocals := 1, code := jdk_30_method_1_code, exceptionTable := #[], attributes := #[] }
def k2m0 : Method := { name := "<init>", desc := "()V", sig := { parameters := [], returnType := none }, accessFlags := 4, code := some k2c0 }
/-- java/lang/Record -/
def k2 : Class := { plain "java/lang/Record" (some 0) with
  accessFlags := 1057
  interfaces := #[]
  cf := some (fileOf pool2 7 #[] #[{ accessFlags := 4, nameIndex := 5, descriptorIndex := 6, attributes := #[] }] 1057 2 #[] #[])
  fields := #[]
  methods := #[k2m0]
  instanceTypes := #[]
  staticTypes := #[]
  resolved := Array.replicate 22 none
  statics := none }

def pool3 : Array CpInfo := pool [(3, .methodref 4 5), (0, .class_ 6), (0, .nameAndType 7 8), (0, u "java/lang/Record"), (0, u "<init>"), (0, u "()V"), (0, .class_ 10), (0, u "com/example/rekey/rekey/server/LockoutPolicy"), (7, .long 3153600000), (7, .fieldref 9 27), (0, .nameAndType 28 29), (0, u "failures"), (0, u "I"), (0, .fieldref 9 31), (0, .nameAndType 32 33), (0, u "windowSecs"), (0, u "J"), (0, .fieldref 9 35), (0, .nameAndType 36 33), (0, u "lockoutSecs"), (0, .fieldref 9 38), (0, .nameAndType 39 29), (0, u "ipv6Prefix"), (2, u "(IJJI)V"), (17, u "OFF"), (0, u "Lcom/example/rekey/rekey/server/LockoutPolicy;"), (0, u "MAX_FAILURES"), (2, u "MAX_SECS"), (0, u "DEFAULT_IPV6_PREFIX"), (1, u "MAX_IPV6_PREFIX"), (5, u "isOff"), (0, u "()Z")] 28

def k3c0 : Code := { maxStack := 4, maxLocals := 7, code := prog_62_method_1_code, exceptionTable := #[], attributes := #[] }
def k3m0 : Method := { name := "<init>", desc := "(IJJI)V", sig := { parameters := [.int, .long, .long, .int], returnType := none }, accessFlags := 1, code := some k3c0 }
def k3c1 : Code := { maxStack := 1, maxLocals := 1, code := prog_62_method_3_code, exceptionTable := #[], attributes := #[] }
def k3m1 : Method := { name := "isOff", desc := "()Z", sig := { parameters := [], returnType := some .boolean }, accessFlags := 0, code := some k3c1 }
/-- com/example/rekey/rekey/server/LockoutPolicy -/
def k3 : Class := { plain "com/example/rekey/rekey/server/LockoutPolicy" (some 2) with
  accessFlags := 49
  interfaces := #[]
  cf := some (fileOf pool3 9 #[] #[{ accessFlags := 1, nameIndex := 7, descriptorIndex := 42, attributes := #[] }, { accessFlags := 0, nameIndex := 74, descriptorIndex := 75, attributes := #[] }] 49 4 #[] #[{ accessFlags := 18, nameIndex := 28, descriptorIndex := 29, attributes := #[] }, { accessFlags := 18, nameIndex := 32, descriptorIndex := 33, attributes := #[] }, { accessFlags := 18, nameIndex := 36, descriptorIndex := 33, attributes := #[] }, { accessFlags := 18, nameIndex := 39, descriptorIndex := 29, attributes := #[] }, { accessFlags := 25, nameIndex := 62, descriptorIndex := 29, attributes := #[] }, { accessFlags := 25, nameIndex := 65, descriptorIndex := 33, attributes := #[] }, { accessFlags := 25, nameIndex := 66, descriptorIndex := 29, attributes := #[] }, { accessFlags := 25, nameIndex := 68, descriptorIndex := 29, attributes := #[] }, { accessFlags := 25, nameIndex := 60, descriptorIndex := 61, attributes := #[] }])
  fields := #[{ name := "failures", type := .int, accessFlags := 18, slot := 0, constantValue := 0 }, { name := "windowSecs", type := .long, accessFlags := 18, slot := 1, constantValue := 0 }, { name := "lockoutSecs", type := .long, accessFlags := 18, slot := 2, constantValue := 0 }, { name := "ipv6Prefix", type := .int, accessFlags := 18, slot := 3, constantValue := 0 }, { name := "MAX_FAILURES", type := .int, accessFlags := 25, slot := 0, constantValue := 0 }, { name := "MAX_SECS", type := .long, accessFlags := 25, slot := 1, constantValue := 0 }, { name := "DEFAULT_IPV6_PREFIX", type := .int, accessFlags := 25, slot := 2, constantValue := 0 }, { name := "MAX_IPV6_PREFIX", type := .int, accessFlags := 25, slot := 3, constantValue := 0 }, { name := "OFF", type := (.object "com/example/rekey/rekey/server/LockoutPolicy"), accessFlags := 25, slot := 4, constantValue := 0 }]
  methods := #[k3m0, k3m1]
  instanceTypes := #[.int, .long, .long, .int]
  staticTypes := #[.int, .long, .int, .int, (.object "com/example/rekey/rekey/server/LockoutPolicy")]
  resolved := Array.replicate 104 none
  statics := some 0 }

def pool4 : Array CpInfo := pool [(1, u "java/lang/Cloneable"), (0, .class_ 1), (0, u "java/lang/Object"), (0, .class_ 3)] 3

/-- java/lang/Cloneable -/
def k4 : Class := { plain "java/lang/Cloneable" (some 0) with
  accessFlags := 1537
  interfaces := #[]
  cf := some (fileOf pool4 2 #[] #[] 1537 4 #[] #[])
  fields := #[]
  methods := #[]
  instanceTypes := #[]
  staticTypes := #[]
  resolved := Array.replicate 8 none
  statics := none }

def pool5 : Array CpInfo := pool [(1, u "java/io/Serializable"), (0, .class_ 1), (0, u "java/lang/Object"), (0, .class_ 3)] 3

/-- java/io/Serializable -/
def k5 : Class := { plain "java/io/Serializable" (some 0) with
  accessFlags := 1537
  interfaces := #[]
  cf := some (fileOf pool5 2 #[] #[] 1537 4 #[] #[])
  fields := #[]
  methods := #[]
  instanceTypes := #[]
  staticTypes := #[]
  resolved := Array.replicate 8 none
  statics := none }

/-- the primitive byte -/
def k6 : Class := { plain "byte" none with kind := .primitive 'B', accessFlags := 0x411 }
/-- [B -/
def k7 : Class := { plain "[B" (some 0) with kind := .array 6 .byte, interfaces := #[4, 5], accessFlags := 1041 }

/-- the primitive int -/
def k8 : Class := { plain "int" none with kind := .primitive 'I', accessFlags := 0x411 }
/-- [I -/
def k9 : Class := { plain "[I" (some 0) with kind := .array 8 .int, interfaces := #[4, 5], accessFlags := 1041 }

def heap : Heap := #[{ cls := 3, slots := #[.int 0, .long 0, .int 0, .int 0, .ref 1], vm := .statics 3 },
  { cls := 3, slots := #[.int 0, .long 1, .long 1, .int 64], vm := .none }]
def classes : Array Class := #[k0, k1, k2, k3, k4, k5, k6, k7, k8, k9]
def interned : List (Array UInt16 × Addr) := []
def slotsUsed : Nat := 9
def theMethod : MethodId := ⟨1, 1⟩
def args0 : Array Value := #[.int 5, .long 3, .long 7, .int 3]
def aboutOver (below : List Frame) : State where
  vm := { classes := classes, interned := interned.toArray }
  heap := heap
  slotsUsed := slotsUsed
  threads := #[{ frames := .invoking theMethod args0 :: below }]
def below0 : List Frame := [.native { method := ⟨0, 0⟩, args := #[] }]
def about1 : State := aboutOver below0
def p0 : Program := .bare "" "" ""
def e0 : Env := launch0.env 0 0 0
theorem w_frames : about1.frames = Frame.invoking theMethod args0 :: below0 := rfl
set_option maxRecDepth 65536 in
theorem w_args : argsFit about1.vm theMethod args0 = true := by decide +kernel
set_option maxRecDepth 65536 in
theorem w_heap : heapFits about1 = true := by decide +kernel
set_option maxRecDepth 65536 in
theorem w_runnable : about1.curStatus? = some .runnable := by decide +kernel
set_option maxRecDepth 65536 in
theorem w_alone : about1.alone = true := by decide +kernel
set_option maxRecDepth 65536 in
theorem w_named : about1.methodNamed? x = some theMethod := by decide +kernel
set_option maxRecDepth 65536 in
theorem w_hears : about1.hears theMethod below0 = true := by decide +kernel
set_option maxRecDepth 65536 in
theorem w_ripe : about1.ripe theMethod args0 below0 = true := by decide +kernel
theorem w_running : about1.status = .running := rfl
set_option maxRecDepth 65536 in
theorem w_room : about1.hasRoom e0.platform room_1 = true :=
  launch0.hasRoom_least _ room_1 (by decide +kernel) (by decide +kernel) (by decide +kernel) (by decide +kernel) (by decide +kernel) (by decide +kernel)
theorem allAtoms_all (ts : List Jvm.Cond) (a : Array Jvm.Value) (st : Jvm.State) : (allAtoms ts).before a st = ts.all (fun c => c.before a st) := by
  induction ts with
  | nil => rfl
  | cons c t ih =>
    show (Jvm.Cond.and c (allAtoms t)).before a st = _
    rw [Jvm.Cond.before_and, ih, List.all_cons]
def words1 : List Jvm.Cond := Jvm.Cond.code x code maxLocals ret :: tables_1
/-- a 'code' word, met by the world's own term for the bytes: nothing is compared byte by byte -/
theorem code_word {y : MethodName} {bytes : ByteArray} {mx : Nat} {rt : Option FieldType} {a : Array Value} {s : State} {m : MethodId} {meth : Method} {c : Code} (h1 : s.methodNamed? y = some m) (h2 : s.vm.method? m = some meth) (h3 : meth.code = some c) (h4 : c.code = bytes)
    (h5 : (c.maxLocals == mx && c.exceptionTable.isEmpty && decide (c.maxStack ≤ mostOperands) && decide (meth.sig.returnType = rt) && !meth.locks && decide (parseMethodDescriptor y.desc = some meth.sig)) = true) : (Jvm.Cond.code y bytes mx rt).before a s = true := by
  simp only [Bool.and_eq_true, beq_iff_eq, Bool.not_eq_true', decide_eq_true_eq] at h5
  obtain ⟨⟨⟨⟨⟨g1, g2⟩, g3⟩, g4⟩, g5⟩, g6⟩ := h5
  simp [Cond.before, Cond.holds, Cond.value, h1, h2, h3, h4, g1, g2, g3, g4, g5, g6]
def isCode : Jvm.Cond → Bool
  | .code _ _ _ _ => true
  | _ => false
theorem all_split {L : List Jvm.Cond} {P : Jvm.Cond → Bool} (h1 : L.all (fun c => isCode c || P c) = true) (h2 : ∀ c ∈ L.filter isCode, P c = true) : L.all P = true := by
  refine List.all_eq_true.mpr fun c hc => ?_
  have h := List.all_eq_true.mp h1 c hc
  rcases Bool.eq_false_or_eq_true (isCode c) with hi | hi
  · exact h2 c (List.mem_filter.mpr ⟨hc, hi⟩)
  · simpa [hi] using h
set_option maxRecDepth 65536 in
theorem w_c0 : (Jvm.Cond.code x code maxLocals ret).before args0 about1 = true := code_word (m := ⟨1, 1⟩) (meth := k1m1) (c := k1c1) (by decide +kernel) rfl rfl rfl (by decide +kernel)
set_option maxRecDepth 65536 in
theorem w_c1 : (Jvm.Cond.code ({ cls := "com/example/rekey/rekey/server/LockoutPolicy", name := "<init>", desc := "(IJJI)V" } : Jvm.MethodName) prog_62_method_1_code (7 : Nat) (Option.none : Option Jvm.ClassFile.FieldType)).before args0 about1 = true := code_word (m := ⟨3, 0⟩) (meth := k3m0) (c := k3c0) (by decide +kernel) rfl rfl rfl (by decide +kernel)
set_option maxRecDepth 65536 in
theorem w_c2 : (Jvm.Cond.code ({ cls := "java/lang/Record", name := "<init>", desc := "()V" } : Jvm.MethodName) jdk_30_method_1_code (1 : Nat) (Option.none : Option Jvm.ClassFile.FieldType)).before args0 about1 = true := code_word (m := ⟨2, 0⟩) (meth := k2m0) (c := k2c0) (by decide +kernel) rfl rfl rfl (by decide +kernel)
set_option maxRecDepth 65536 in
theorem w_c3 : (Jvm.Cond.code ({ cls := "java/lang/Object", name := "<init>", desc := "()V" } : Jvm.MethodName) object_method_1_code (1 : Nat) (Option.none : Option Jvm.ClassFile.FieldType)).before args0 about1 = true := code_word (m := ⟨0, 0⟩) (meth := k0m0) (c := k0c0) (by decide +kernel) rfl rfl rfl (by decide +kernel)
set_option maxRecDepth 65536 in
theorem w_c4 : (Jvm.Cond.code ({ cls := "com/example/rekey/rekey/server/LockoutPolicy", name := "isOff", desc := "()Z" } : Jvm.MethodName) prog_62_method_3_code (1 : Nat) (Option.some Jvm.ClassFile.FieldType.boolean)).before args0 about1 = true := code_word (m := ⟨3, 1⟩) (meth := k3m1) (c := k3c1) (by decide +kernel) rfl rfl rfl (by decide +kernel)
def codes1 : List Jvm.Cond := [Jvm.Cond.code x code maxLocals ret, Jvm.Cond.code ({ cls := "com/example/rekey/rekey/server/LockoutPolicy", name := "<init>", desc := "(IJJI)V" } : Jvm.MethodName) prog_62_method_1_code (7 : Nat) (Option.none : Option Jvm.ClassFile.FieldType), Jvm.Cond.code ({ cls := "java/lang/Record", name := "<init>", desc := "()V" } : Jvm.MethodName) jdk_30_method_1_code (1 : Nat) (Option.none : Option Jvm.ClassFile.FieldType), Jvm.Cond.code ({ cls := "java/lang/Object", name := "<init>", desc := "()V" } : Jvm.MethodName) object_method_1_code (1 : Nat) (Option.none : Option Jvm.ClassFile.FieldType), Jvm.Cond.code ({ cls := "com/example/rekey/rekey/server/LockoutPolicy", name := "isOff", desc := "()Z" } : Jvm.MethodName) prog_62_method_3_code (1 : Nat) (Option.some Jvm.ClassFile.FieldType.boolean)]
set_option maxRecDepth 65536 in
theorem codes_eq : words1.filter isCode = codes1 := rfl
theorem w_codes : ∀ c ∈ words1.filter isCode, c.before args0 about1 = true := by
  rw [codes_eq]
  intro c hc
  simp only [codes1, List.mem_cons, List.not_mem_nil, or_false] at hc
  rcases hc with rfl | rfl | rfl | rfl | rfl
  · exact w_c0
  · exact w_c1
  · exact w_c2
  · exact w_c3
  · exact w_c4
set_option maxRecDepth 65536 in
theorem w_t1 : (words1.take 24).all (fun c => isCode c || c.before args0 about1) = true := by decide +kernel
set_option maxRecDepth 65536 in
theorem w_t2 : (words1.drop 24).all (fun c => isCode c || c.before args0 about1) = true := by decide +kernel
theorem w_tables : (allAtoms (Jvm.Cond.code x code maxLocals ret :: tables_1)).before args0 about1 = true := by
  rw [allAtoms_all]
  show words1.all (fun c => c.before args0 about1) = true
  refine all_split ?_ w_codes
  rw [← List.take_append_drop 24 words1, List.all_append, w_t1, w_t2]
  rfl
set_option maxRecDepth 65536 in
theorem w_case : (Jvm.Cond.and given_1 narrow_1).before args0 about1 = true := by decide +kernel
theorem w_applies : (headSpec (Jvm.Cond.code x code maxLocals ret :: tables_1) room_1).applies x e0.platform about1 = true :=
  (Spec.applies_iff w_frames).mpr ⟨w_running, w_runnable, w_alone, w_named, w_hears, w_ripe, w_room, w_tables⟩
theorem atStart : AtStart classFile x code maxLocals ret World_1 tables_1 room_1 Calls_1 rest_1 Pre_1 launch0 p0 e0 about1 theMethod args0 below0 :=
  ⟨lists_1, trivial, launch0.admits_env _ _ _, launch0.least_env, fairChoices_fair.cas, fairChoices_fair.clock, w_frames, w_args, w_heap, w_applies, trivial, trivial, w_case⟩
end start1
theorem witness_1 : WitnessClaimed_1 := ⟨start1.p0, start1.e0, start1.about1, start1.theMethod, start1.args0, start1.below0, start1.atStart⟩
end Jvm.Pilot.@@N@@
