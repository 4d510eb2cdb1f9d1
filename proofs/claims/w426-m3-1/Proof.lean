import JvmDerived
import JvmDerived.Pilot.@@N@@Statement
import JvmDerived.Pilot.@@N@@Code
set_option linter.unusedVariables false
set_option linter.unusedSimpArgs false
namespace Jvm.OwnKit
open Sem ClassFile Op Lib Jvm.Stand Jvm.Free Jvm.LawKit Jvm.RoadKit
section New
variable {p : Program} {l : Launch} {e : Env} {R : Room} {s : State} {m : MethodId} {args : Array Value} {below : List Frame} {meth : Method} {c : Code} {T T' : State} {locs : List Loc} {cells slots : Nat} {g g' : JFrame} {F : Outcome → State → Prop}
/-- from here the body runs to its end, and F says what is there -/
def Go (p : Program) (e : Env) (below : List Frame) (T : State) (g : JFrame) (F : Outcome → State → Prop) : Prop :=
  ∃ s₂ o, Steps p.tables e below (T.setTop g) s₂ ∧ s₂.status = .running ∧ Ended s₂ below o ∧ F o s₂
theorem Go.step (st : ∀ t, Steps p.tables e below (T'.setTop g') t → Steps p.tables e below (T.setTop g) t) (k : Go p e below T' g' F) : Go p e below T g F := by
  obtain ⟨a, o, h1, h2⟩ := k
  exact ⟨a, o, st _ h1, h2⟩
theorem Go.call (st : Steps p.tables e below (T.setTop g) (T'.setTop g')) (k : Go p e below T' g' F) : Go p e below T g F := by
  obtain ⟨a, o, h1, h2⟩ := k
  exact ⟨a, o, st.trans h1, h2⟩
abbrev Fin (s : State) (Q : Option Value → Heap → List Loc → Prop) (C S : Nat) : Outcome → State → Prop := fun o U' => ∃ v L, o = .returned v ∧ Q v U'.heap L ∧ FrameEnd s o U' L C S
variable {Q : Option Value → Heap → List Loc → Prop} {C S : Nat}
theorem Go.ret0 (X : Stand p l e R s m args below meth c T locs cells slots) (hx : p.tables.exec = Jvm.exec) {pc : Nat} {Ls : Array Slot} (hret : meth.sig.returnType = none) (hlk : meth.locks = false) (hd : decode c.code pc = .ok (.return_, 1))
    (hQ : Q none T.heap locs) (h1 : cells ≤ C) (h2 : slots ≤ S) : Go p e below T (mkF m pc Ls []) (Fin s Q C S) := by
  obtain ⟨fs, hr, hrun, hended, hW, hsame⟩ := X.leave (v := none) (fun _ => rfl) hlk
  exact ⟨_, _, X.returnOut hx hret hd hr, hrun, hended, _, _, rfl, hQ, ⟨_, rfl⟩, hW, hsame.mono h1 h2⟩
theorem Go.retI (X : Stand p l e R s m args below meth c T locs cells slots) (hx : p.tables.exec = Jvm.exec) {pc : Nat} {Ls : Array Slot} {z : Int32} {rest : List Value} (hret : meth.sig.returnType = some .int) (hlk : meth.locks = false) (hd : decode c.code pc = .ok (.ireturn, 1))
    (hQ : Q (some (.int z)) T.heap locs) (h1 : cells ≤ C) (h2 : slots ≤ S) : Go p e below T (mkF m pc Ls (.int z :: rest)) (Fin s Q C S) := by
  obtain ⟨fs, hr, hrun, hended, hW, hsame⟩ := X.leave (v := some (.int z)) (fun h => by rw [hret] at h; cases h) hlk
  exact ⟨_, _, retOut X hx hret rfl (Or.inl ⟨rfl, Or.inl rfl, _, rfl⟩) hd hr, hrun, hended, _, _, rfl, hQ, ⟨_, rfl⟩, hW, hsame.mono h1 h2⟩
theorem Go.retL (X : Stand p l e R s m args below meth c T locs cells slots) (hx : p.tables.exec = Jvm.exec) {pc : Nat} {Ls : Array Slot} {z : Int64} {rest : List Value} (hret : meth.sig.returnType = some .long) (hlk : meth.locks = false) (hd : decode c.code pc = .ok (.lreturn, 1))
    (hQ : Q (some (.long z)) T.heap locs) (h1 : cells ≤ C) (h2 : slots ≤ S) : Go p e below T (mkF m pc Ls (.long z :: rest)) (Fin s Q C S) := by
  obtain ⟨fs, hr, hrun, hended, hW, hsame⟩ := X.leave (v := some (.long z)) (fun h => by rw [hret] at h; cases h) hlk
  exact ⟨_, _, retOut X hx hret rfl (Or.inr (Or.inl ⟨rfl, rfl, _, rfl⟩)) hd hr, hrun, hended, _, _, rfl, hQ, ⟨_, rfl⟩, hW, hsame.mono h1 h2⟩
theorem Go.retA (X : Stand p l e R s m args below meth c T locs cells slots) (hx : p.tables.exec = Jvm.exec) {pc : Nat} {Ls : Array Slot} {w : Value} {t : FieldType} {rest : List Value} (hret : meth.sig.returnType = some t) (ht : t.isReference = true) (hv : w.isRef = true) (hlk : meth.locks = false) (hd : decode c.code pc = .ok (.areturn, 1))
    (hQ : Q (some w) T.heap locs) (h1 : cells ≤ C) (h2 : slots ≤ S) : Go p e below T (mkF m pc Ls (w :: rest)) (Fin s Q C S) := by
  obtain ⟨fs, hr, hrun, hended, hW, hsame⟩ := X.leave (v := some w) (fun h => by rw [hret] at h; cases h) hlk
  have hn : narrow t w = w := by cases w <;> cases t <;> simp_all [narrow, Value.isRef, FieldType.isReference]
  exact ⟨_, _, retOut X hx hret hn (Or.inr (Or.inr (Or.inr (Or.inr ⟨rfl, ht, hv⟩)))) hd hr, hrun, hended, _, _, rfl, hQ, ⟨_, rfl⟩, hW, hsame.mono h1 h2⟩
theorem Go.retN {t : FieldType} (X : Stand p l e R s m args below meth c T locs cells slots) (hx : p.tables.exec = Jvm.exec) {pc : Nat} {Ls : Array Slot} {z z' : Int32} {rest : List Value} (hret : meth.sig.returnType = some t) (ht : t = .boolean ∨ t = .byte ∨ t = .char ∨ t = .short) (hlk : meth.locks = false) (hd : decode c.code pc = .ok (.ireturn, 1))
    (hz : nar t z = z') (hQ : Q (some (.int z')) T.heap locs) (h1 : cells ≤ C) (h2 : slots ≤ S) : Go p e below T (mkF m pc Ls (.int z :: rest)) (Fin s Q C S) := by
  subst hz
  obtain ⟨fs, hr, hrun, hended, hW, hsame⟩ := X.leave (v := some (.int (nar t z))) (fun h => by rw [hret] at h; cases h) hlk
  exact ⟨_, _, Jvm.RoadKit.retN X hx hret ht hd hr, hrun, hended, _, _, rfl, hQ, ⟨_, rfl⟩, hW, hsame.mono h1 h2⟩
theorem own_fitsRef {t : FieldType} {v : Value} (ht : t.isReference = true) (h : v.isRef = true) : fits t v = true := by cases t <;> cases v <;> simp_all [fits, Value.isRef, FieldType.isReference]
theorem own_narrowRef {t : FieldType} {v : Value} (ht : t.isReference = true) (h : v.isRef = true) : narrow t v = v := by cases v <;> cases t <;> simp_all [narrow, Value.isRef, FieldType.isReference]
theorem own_staKeep {Z : State} {h h' : Heap} {C n d : String} {v : Value} {ws : List Addr} (F : Sta Z h C n d v) (K : Keep h h' ws) (q : ∀ x ∈ ws, ∀ cell : Cell, h[x]? = some cell → cell.vm.isStatics = false) : Sta Z h' C n d v := by
  obtain ⟨cf, i, k, f, st, cell, h1, h2, h3, h4, h5, h6, h7⟩ := F
  exact ⟨cf, i, k, f, st, cell, h1, h2, h3, h4, K.2.1 st cell h5 (fun m => by rw [q st m cell h5] at h6; cases h6), h6, h7⟩
theorem own_arrKeep {Z : State} {h h' : Heap} {a : Addr} {cl : Cell} {ty : FieldType} {ws : List Addr} (F : Arr Z h a cl ty) (K : Keep h h' ws) (q : a ∉ ws) : Arr Z h' a cl ty := ⟨K.2.1 a cl F.1 q, F.2⟩
theorem own_plainE {Z : State} {h : Heap} {a : Addr} {C : String} (E : Exa Z h a C) : ∀ cell : Cell, h[a]? = some cell → cell.vm.isStatics = false := fun cell hc => by
  obtain ⟨c2, k, h1, -, -, h4, -⟩ := E
  cases hc.symm.trans h1
  exact h4
theorem own_plainV {Z : State} {h : Heap} {a : Addr} {k : ClassId} {ty : FieldType} {z : Int32} {vs : List Value} {dv : Value} (V : Arv Z h a k ty z vs dv) : ∀ cell : Cell, h[a]? = some cell → cell.vm.isStatics = false := fun cell hc => by
  obtain ⟨c2, A, -⟩ := V
  cases hc.symm.trans A.1
  exact A.plain
end New
end Jvm.OwnKit

namespace Jvm.OwnKit
open Sem ClassFile Op Lib Jvm.Stand Jvm.Free Jvm.LawKit Jvm.RoadKit
theorem own_fldI {args : Array Value} {Z : State} {t : Term} {a : Addr} {C n d : String} {k : Int32} (ev : t.eval args Z none [] Z = some (.ref a)) (h : (Cond.eq (Term.field t C n d) (Term.int k)).value args Z none Z [] = some true) : Fld Z Z.heap a C n d (.int k) := by
  obtain ⟨x, y, e1, e2, k1, k2⟩ := cmp_v (Or.inl h)
  rw [Term.int_eval] at e2
  cases e2
  obtain ⟨z, rfl⟩ := k2
  have e3 := e1
  rw [fld_at ev] at e3
  have q : z = k := by simpa [Cond.value, e1, Term.int_eval] using h
  subst q
  exact Fld.start e3

theorem own_len {args : Array Value} {Z : State} {t : Term} {a : Addr} {cl : Cell} {ty : FieldType} {k : Int32} (ev : t.eval args Z none [] Z = some (.ref a)) (A : Arr Z Z.heap a cl ty) (h : (Cond.eq (Term.length t) (Term.int k)).value args Z none Z [] = some true) : cl.slots.size < 2 ^ 31 ∧ cl.slots.size.toInt32 = k := by
  obtain ⟨x, y, e1, e2, k1, k2⟩ := cmp_v (Or.inl h)
  rw [Term.int_eval] at e2
  cases e2
  obtain ⟨z, rfl⟩ := k2
  have q : z = k := by simpa [Cond.value, e1, Term.int_eval] using h
  subst q
  have ha : Z.arrayAt? a = some cl := IntBox.arrayAt_of A.1 A.2.1 A.2.2
  have hl : cl.slots.size < 2 ^ 31 := by
    by_cases q : cl.slots.size < 2147483648
    · exact q
    · simp [Term.eval, ev, ha, q] at e1
  refine ⟨hl, ?_⟩
  have e3 := len_f ev ha hl
  rw [e3] at e1
  simpa using e1
theorem own_size {n : Nat} {k : Int32} (h : n < 2 ^ 31) (e : n.toInt32 = k) : n = k.toNatClampNeg := by
  subst e
  have h1 := len_toInt h
  have : n.toInt32.toNatClampNeg = n := by
    show n.toInt32.toInt.toNat = n
    omega
  exact this.symm
theorem own_elemI {args : Array Value} {Z : State} {t : Term} {a : Addr} {cl : Cell} {ty : FieldType} {i k : Int32} (ev : t.eval args Z none [] Z = some (.ref a)) (A : Arr Z Z.heap a cl ty) (h : (Cond.eq (Term.elem t (Term.int i)) (Term.int k)).value args Z none Z [] = some true) : cl.slots[i.toNatClampNeg]? = some (.int k) := by
  obtain ⟨x, y, e1, e2, k1, k2⟩ := cmp_v (Or.inl h)
  rw [Term.int_eval] at e2
  cases e2
  obtain ⟨z, rfl⟩ := k2
  have q : z = k := by simpa [Cond.value, e1, Term.int_eval] using h
  subst q
  exact (elem_in e1 ev (Term.int_eval _) A.1).2
theorem own_elemR {args : Array Value} {Z : State} {t u : Term} {a w : Addr} {cl : Cell} {ty : FieldType} {i : Int32} (ev : t.eval args Z none [] Z = some (.ref a)) (A : Arr Z Z.heap a cl ty) (eu : u.eval args Z none [] Z = some (.ref w)) (h : (Cond.eq (Term.elem t (Term.int i)) u).value args Z none Z [] = some true) : cl.slots[i.toNatClampNeg]? = some (.ref w) := by
  obtain ⟨x, y, e1, e2, k1, k2⟩ := cmp_v (Or.inl h)
  cases eu.symm.trans e2
  have q : x = .ref w := gotT (eq_R e1 eu k2.2 rfl) h
  subst q
  exact (elem_in e1 ev (Term.int_eval _) A.1).2

end Jvm.OwnKit
namespace Jvm.Pilot.@@N@@
open Jvm Jvm.ClassFile Sem Op Lib Jvm.Free Jvm.Stand Jvm.LawKit Jvm.RoadKit Jvm.OwnKit Bundle Jvm.Pilot.@@N@@.Jvm.D
theorem d2_0 : decode prog_12_method_1_code 0 = .ok (.getstatic 13, 3) := by decide +kernel
theorem d2_3 : decode prog_12_method_1_code 3 = .ok (.invokevirtual 17, 3) := by decide +kernel
theorem d2_6 : decode prog_12_method_1_code 6 = .ok (.checkcast 18, 3) := by decide +kernel
theorem d2_9 : decode prog_12_method_1_code 9 = .ok (.areturn, 1) := by decide +kernel
theorem pn_0 : plainName "com/example/tickwire/tickwire/feeds/smartapi/SmartApiDecoder$Packet" = true := by first | (simp [plainName, overriddenIn]; done) | decide +kernel
theorem ef_rm2 (m : MethodId)  : entryFrame m #[] 0 = mkF m 0 #[] [] := by first | rfl | (simp [entryFrame, mkF, argsToLocals, Value.category]; done)
def Q2 (Z : State) (wV : Addr) (cl : Cell) (h0 : Heap) (n0 : Nat) (v : Option Value) (h : Heap) (L : List Loc) : Prop := v = some (.ref h0.size) ∧ Fr n0 L ∧ Ext h0 h ∧ Arr Z h h0.size (cloneOf cl) (.object "com/example/tickwire/tickwire/feeds/smartapi/SmartApiDecoder$Packet")
set_option maxRecDepth 65536 in
set_option maxHeartbeats 40000000 in
theorem rm2 (l : Launch) (Z : State) (a0 : Array Value) (hw : ∀ d ∈ tables_1, d.before a0 Z = true) (ws : List Jvm.Cond) (wV : Addr) (cl : Cell) (h0 : Heap) (n0 : Nat) (Z0 : n0 ≤ h0.size) (SV : Sta Z h0 "com/example/tickwire/tickwire/feeds/smartapi/SmartApiDecoder$Packet" "$VALUES" "[Lcom/example/tickwire/tickwire/feeds/smartapi/SmartApiDecoder$Packet;" (.ref wV)) (AV : Arr Z h0 wV cl (.object "com/example/tickwire/tickwire/feeds/smartapi/SmartApiDecoder$Packet")) (EV : Exa Z h0 wV "[Lcom/example/tickwire/tickwire/feeds/smartapi/SmartApiDecoder$Packet;") (FV : FitC Z cl) (hsz : cl.slots.size = 3) (hlen : cl.slots.size.toInt32 = 3) :
    MetFree l (⟨"com/example/tickwire/tickwire/feeds/smartapi/SmartApiDecoder$Packet", "values", "()[Lcom/example/tickwire/tickwire/feeds/smartapi/SmartApiDecoder$Packet;"⟩ : MethodName) (head1 (Jvm.Cond.code (⟨"com/example/tickwire/tickwire/feeds/smartapi/SmartApiDecoder$Packet", "values", "()[Lcom/example/tickwire/tickwire/feeds/smartapi/SmartApiDecoder$Packet;"⟩ : MethodName) prog_12_method_1_code 0 (some (.array (.object "com/example/tickwire/tickwire/feeds/smartapi/SmartApiDecoder$Packet"))) :: ws) ({ frames := 1, cells := 1, slots := 3, locals := 14 } : Room)) (fun a U => a = #[] ∧ Z.Warmed39 U.vm ∧ U.heap = h0) (fun _ _ _ _ _ => True) (fun _ U o U' => ∃ v L, o = .returned v ∧ Q2 Z wV cl h0 n0 v U'.heap L ∧ FrameEnd U o U' L ({ frames := 1, cells := 1, slots := 3, locals := 14 } : Room).cells ({ frames := 1, cells := 1, slots := 3, locals := 14 } : Room).slots) := by
  refine MetFree.of_bodySF (plainFor_of_name pn_0) hisR ?_
  intro p e s m args below meth c s₁ Bd hml0 hP hK
  obtain ⟨rfl, hZ, hh⟩ := hP
  have hx := Bd.exec
  have hby := Bd.bytes
  have hml : c.maxLocals = 0 := hml0
  have hown : s.vm.findClass "com/example/tickwire/tickwire/feeds/smartapi/SmartApiDecoder$Packet" = some m.cls := findClass_of_methodNamed Bd.named
  have hnm := (name_of_methodNamed Bd.named Bd.method).1
  have hlk : meth.locks = false := Bd.notSynchronized
  have hret := Bd.returns
  have X0 : Stand p l e ({ frames := 1, cells := 1, slots := 3, locals := 14 } : Room) s m #[] below meth c s₁ [] 0 0 := Stand.of_body Bd
  have e0 : s₁.heap = h0 := by rw [← hh, Bd.state]; rfl
  have N0 := Fr.nil n0
  show Go p e below s₁ (entryFrame m #[] 0) (Fin s (Q2 Z wV cl h0 n0) ({ frames := 1, cells := 1, slots := 3, locals := 14 } : Room).cells ({ frames := 1, cells := 1, slots := 3, locals := 14 } : Room).slots)
  rw [ef_rm2]
  show Go p e below s₁ (mkF m 0 #[] []) _
  obtain ⟨T1, X1, e1, st1⟩ := getS2 X0 hx hZ hown (host := "") (Or.inl (hw _ (List.mem_of_getElem? (i := 7) rfl))) Via.refl e0 SV (g := (mkF m 0 #[] [])) rfl (hb hby d2_0)
  refine Go.step st1 ?_
  show Go p e below T1 (mkF m 3 #[] [(.ref wV)]) _
  obtain ⟨T2, h2, X2, e2, E2, A2, B2, st2⟩ := cloneA X1 hx hZ hown (hw _ (List.mem_of_getElem? (i := 9) rfl)) (hw _ (List.mem_of_getElem? (i := 10) rfl)) (hw _ (List.mem_of_getElem? (i := 14) rfl)) (hw _ (List.mem_of_getElem? (i := 12) rfl)) (hw _ (List.mem_of_getElem? (i := 13) rfl)) (hw _ (List.mem_of_getElem? (i := 15) rfl)) e1 AV EV FV (g := (mkF m 3 #[] [(.ref wV)])) rfl (by rw [hml]; rfl) rfl (hb hby d2_3) (by decide) (W := 0) (cap := 3) (by show 2 * 0 + _ ≤ _; exact Nat.le_of_eq rfl) (by decide) (Nat.le_of_eq hsz) (by decide) (by decide)
  refine Go.step st2 ?_
  show Go p e below T2 (mkF m 6 #[] [(.ref h0.size)]) _
  obtain ⟨T3, X3, e3, st3⟩ := castY X2 hx hZ hown (hw _ (List.mem_of_getElem? (i := 20) rfl)) e2 (Ins.self B2) (g := (mkF m 6 #[] [(.ref h0.size)])) rfl rfl (hb hby d2_6)
  refine Go.step st3 ?_
  show Go p e below T3 (mkF m 9 #[] [(.ref h0.size)]) _
  refine Go.retA X3 hx hret rfl rfl hlk (hb hby d2_9) ?_ (by decide) (by decide)
  rw [e3]
  exact ⟨rfl, N0, E2, A2⟩
theorem d1_0 : decode prog_12_method_5_code 0 = .ok (.invokestatic 47, 3) := by decide +kernel
theorem d1_3 : decode prog_12_method_5_code 3 = .ok (.astore_n 1, 1) := by decide +kernel
theorem d1_4 : decode prog_12_method_5_code 4 = .ok (.aload_n 1, 1) := by decide +kernel
theorem d1_5 : decode prog_12_method_5_code 5 = .ok (.arraylength, 1) := by decide +kernel
theorem d1_6 : decode prog_12_method_5_code 6 = .ok (.istore_n 2, 1) := by decide +kernel
theorem d1_7 : decode prog_12_method_5_code 7 = .ok (.iconst 0, 1) := by decide +kernel
theorem d1_8 : decode prog_12_method_5_code 8 = .ok (.istore_n 3, 1) := by decide +kernel
theorem d1_9 : decode prog_12_method_5_code 9 = .ok (.iload_n 3, 1) := by decide +kernel
theorem d1_10 : decode prog_12_method_5_code 10 = .ok (.iload_n 2, 1) := by decide +kernel
theorem d1_11 : decode prog_12_method_5_code 11 = .ok (.if_icmp .ge 26, 3) := by decide +kernel
theorem d1_14 : decode prog_12_method_5_code 14 = .ok (.aload_n 1, 1) := by decide +kernel
theorem d1_15 : decode prog_12_method_5_code 15 = .ok (.iload_n 3, 1) := by decide +kernel
theorem d1_16 : decode prog_12_method_5_code 16 = .ok (.aaload, 1) := by decide +kernel
theorem d1_17 : decode prog_12_method_5_code 17 = .ok (.astore 4, 2) := by decide +kernel
theorem d1_19 : decode prog_12_method_5_code 19 = .ok (.aload 4, 2) := by decide +kernel
theorem d1_21 : decode prog_12_method_5_code 21 = .ok (.getfield 32, 3) := by decide +kernel
theorem d1_24 : decode prog_12_method_5_code 24 = .ok (.iload_n 0, 1) := by decide +kernel
theorem d1_25 : decode prog_12_method_5_code 25 = .ok (.if_icmp .ne 6, 3) := by decide +kernel
theorem d1_28 : decode prog_12_method_5_code 28 = .ok (.aload 4, 2) := by decide +kernel
theorem d1_30 : decode prog_12_method_5_code 30 = .ok (.areturn, 1) := by decide +kernel
theorem d1_31 : decode prog_12_method_5_code 31 = .ok (.iinc 3 1, 3) := by decide +kernel
theorem d1_34 : decode prog_12_method_5_code 34 = .ok (.goto (-25), 3) := by decide +kernel
theorem d1_37 : decode prog_12_method_5_code 37 = .ok (.aconst_null, 1) := by decide +kernel
theorem d1_38 : decode prog_12_method_5_code 38 = .ok (.areturn, 1) := by decide +kernel
theorem pd_0 : parseMethodDescriptor "()[Lcom/example/tickwire/tickwire/feeds/smartapi/SmartApiDecoder$Packet;" = some ⟨[], some (.array (.object "com/example/tickwire/tickwire/feeds/smartapi/SmartApiDecoder$Packet"))⟩ := by decide +kernel
theorem ef_rm1 (m : MethodId) (x0 : Int32) : entryFrame m #[(.int x0)] 5 = mkF m 0 #[.val (.int x0), .unset, .unset, .unset, .unset] [] := by first | rfl | (simp [entryFrame, mkF, argsToLocals, Value.category]; done)
def Q1 (Z : State) (p0 : Int32) (wV : Addr) (cl : Cell) (wL wQ wS : Addr) (r : Value) (h0 : Heap) (n0 : Nat) (v : Option Value) (h : Heap) (L : List Loc) : Prop := v = some r ∧ Fr n0 L ∧ Ext h0 h
set_option maxRecDepth 65536 in
set_option maxHeartbeats 40000000 in
theorem rm1 (l : Launch) (Z : State) (a0 : Array Value) (hw : ∀ d ∈ tables_1, d.before a0 Z = true) (ws : List Jvm.Cond) (p0 : Int32) (wV : Addr) (cl : Cell) (wL wQ wS : Addr) (r : Value) (h0 : Heap) (n0 : Nat) (Z0 : n0 ≤ h0.size) (SV : Sta Z h0 "com/example/tickwire/tickwire/feeds/smartapi/SmartApiDecoder$Packet" "$VALUES" "[Lcom/example/tickwire/tickwire/feeds/smartapi/SmartApiDecoder$Packet;" (.ref wV)) (AV : Arr Z h0 wV cl (.object "com/example/tickwire/tickwire/feeds/smartapi/SmartApiDecoder$Packet")) (EV : Exa Z h0 wV "[Lcom/example/tickwire/tickwire/feeds/smartapi/SmartApiDecoder$Packet;") (FV : FitC Z cl) (hsz : cl.slots.size = 3) (hlen : cl.slots.size.toInt32 = 3) (at0 : cl.slots[(0 : Int32).toNatClampNeg]? = some (.ref wL)) (at1 : cl.slots[(1 : Int32).toNatClampNeg]? = some (.ref wQ)) (at2 : cl.slots[(2 : Int32).toNatClampNeg]? = some (.ref wS)) (FwL : Fld Z h0 wL "com/example/tickwire/tickwire/feeds/smartapi/SmartApiDecoder$Packet" "number" "I" (.int 1)) (FwQ : Fld Z h0 wQ "com/example/tickwire/tickwire/feeds/smartapi/SmartApiDecoder$Packet" "number" "I" (.int 2)) (FwS : Fld Z h0 wS "com/example/tickwire/tickwire/feeds/smartapi/SmartApiDecoder$Packet" "number" "I" (.int 3)) (hr : r = if p0 = 1 then .ref wL else if p0 = 2 then .ref wQ else if p0 = 3 then .ref wS else .null) :
    MetFree l (⟨"com/example/tickwire/tickwire/feeds/smartapi/SmartApiDecoder$Packet", "of", "(I)Lcom/example/tickwire/tickwire/feeds/smartapi/SmartApiDecoder$Packet;"⟩ : MethodName) (head1 (Jvm.Cond.code (⟨"com/example/tickwire/tickwire/feeds/smartapi/SmartApiDecoder$Packet", "of", "(I)Lcom/example/tickwire/tickwire/feeds/smartapi/SmartApiDecoder$Packet;"⟩ : MethodName) prog_12_method_5_code 5 (some (.object "com/example/tickwire/tickwire/feeds/smartapi/SmartApiDecoder$Packet")) :: ws) ({ frames := 2, cells := 1, slots := 3, locals := 25 } : Room)) (fun a U => a = #[(.int p0)] ∧ Z.Warmed39 U.vm ∧ U.heap = h0) (fun _ _ _ _ _ => True) (fun _ U o U' => ∃ v L, o = .returned v ∧ Q1 Z p0 wV cl wL wQ wS r h0 n0 v U'.heap L ∧ FrameEnd U o U' L ({ frames := 2, cells := 1, slots := 3, locals := 25 } : Room).cells ({ frames := 2, cells := 1, slots := 3, locals := 25 } : Room).slots) := by
  refine MetFree.of_bodySF (plainFor_of_name pn_0) hisR ?_
  intro p e s m args below meth c s₁ Bd hml0 hP hK
  obtain ⟨rfl, hZ, hh⟩ := hP
  have hx := Bd.exec
  have hby := Bd.bytes
  have hml : c.maxLocals = 5 := hml0
  have hown : s.vm.findClass "com/example/tickwire/tickwire/feeds/smartapi/SmartApiDecoder$Packet" = some m.cls := findClass_of_methodNamed Bd.named
  have hnm := (name_of_methodNamed Bd.named Bd.method).1
  have hlk : meth.locks = false := Bd.notSynchronized
  have hret := Bd.returns
  have X0 : Stand p l e ({ frames := 2, cells := 1, slots := 3, locals := 25 } : Room) s m #[(.int p0)] below meth c s₁ [] 0 0 := Stand.of_body Bd
  have e0 : s₁.heap = h0 := by rw [← hh, Bd.state]; rfl
  have N0 := Fr.nil n0
  show Go p e below s₁ (entryFrame m #[(.int p0)] 5) (Fin s (Q1 Z p0 wV cl wL wQ wS r h0 n0) ({ frames := 2, cells := 1, slots := 3, locals := 25 } : Room).cells ({ frames := 2, cells := 1, slots := 3, locals := 25 } : Room).slots)
  rw [ef_rm1]
  show Go p e below s₁ (mkF m 0 #[.val (.int p0), .unset, .unset, .unset, .unset] []) _
  obtain ⟨_, _, ⟨T4, L4, k4, n4⟩, -, X4, ⟨Lc4, hQ4, l4, y4, z4⟩, st4⟩ := Jvm.LawKit.callS X0 hx (y := (⟨"com/example/tickwire/tickwire/feeds/smartapi/SmartApiDecoder$Packet", "values", "()[Lcom/example/tickwire/tickwire/feeds/smartapi/SmartApiDecoder$Packet;"⟩ : MethodName)) hown (mvT hZ (hw _ (List.mem_of_getElem? (i := 4) rfl))) (mvT hZ (hw _ (List.mem_of_getElem? (i := 5) rfl))) (mvT hZ (hw _ (List.mem_of_getElem? (i := 2) rfl))) (mvT hZ (hw _ (List.mem_of_getElem? (i := 6) rfl))) (by decide) (backOf (W := 0) (rm2 l Z a0 hw [] wV cl h0 n0 Z0 SV AV EV FV hsz hlen) hZ (hw _ (List.mem_of_getElem? (i := 6) rfl)) (hw _ (List.mem_of_getElem? (i := 2) rfl)) (by decide) (by decide)) (g := (mkF m 0 #[.val (.int p0), .unset, .unset, .unset, .unset] [])) rfl (by rw [hml]; rfl) (argsL := []) (rest := []) (lenOf pd_0 rfl) rfl (by show 2 * 0 + _ ≤ _; exact Nat.le_of_eq rfl) (hb hby d1_0) (fun _ _ => ⟨rfl, e0, (by decide : 0 + 1 ≤ _), (by decide : 0 + 3 ≤ _)⟩)
  dsimp only [Pt.U, Pt.locs, Pt.cells, Pt.slots] at X4 l4 y4 z4 st4 hQ4
  subst l4 y4 z4
  obtain ⟨rfl, Nq4, E4, Ar4⟩ := hQ4
  have N4 := Fr.app N0 Nq4
  refine Go.step st4 ?_
  have FwL_q4 := FwL.ext E4
  have FwQ_q4 := FwQ.ext E4
  have FwS_q4 := FwS.ext E4
  show Go p e below T4 (mkF m 3 #[.val (.int p0), .unset, .unset, .unset, .unset] [(.ref h0.size)]) _
  refine Go.step (fun _ => XS.astoreN X4.here hx rfl (hb hby d1_3) rfl rfl (l' := #[.val (.int p0), .val (.ref h0.size), .unset, .unset, .unset]) rfl) ?_
  show Go p e below T4 (mkF m 4 #[.val (.int p0), .val (.ref h0.size), .unset, .unset, .unset] []) _
  refine Go.step (fun _ => XS.aloadN X4.here hx rfl (hb hby d1_4) rfl rfl ) ?_
  show Go p e below T4 (mkF m 5 #[.val (.int p0), .val (.ref h0.size), .unset, .unset, .unset] [(.ref h0.size)]) _
  refine Go.step (fun _ => X4.arraylength hx Ar4.1 (State.isArrayOf_alike hZ.alike Ar4.2.1) (g := (mkF m 5 #[.val (.int p0), .val (.ref h0.size), .unset, .unset, .unset] [(.ref h0.size)])) rfl rfl (hb hby d1_5) _) ?_
  rw [show (cloneOf cl).slots.size.toInt32 = (3 : Int32) from hlen]
  show Go p e below T4 (mkF m 6 #[.val (.int p0), .val (.ref h0.size), .unset, .unset, .unset] [(.int (3 : Int32))]) _
  refine Go.step (fun _ => XS.istoreN X4.here hx rfl (hb hby d1_6) rfl (l' := #[.val (.int p0), .val (.ref h0.size), .val (.int (3 : Int32)), .unset, .unset]) rfl) ?_
  show Go p e below T4 (mkF m 7 #[.val (.int p0), .val (.ref h0.size), .val (.int (3 : Int32)), .unset, .unset] []) _
  refine Go.step (fun _ => XS.iconst X4.here hx rfl (hb hby d1_7)) ?_
  show Go p e below T4 (mkF m 8 #[.val (.int p0), .val (.ref h0.size), .val (.int (3 : Int32)), .unset, .unset] [(.int (0 : Int32))]) _
  refine Go.step (fun _ => XS.istoreN X4.here hx rfl (hb hby d1_8) rfl (l' := #[.val (.int p0), .val (.ref h0.size), .val (.int (3 : Int32)), .val (.int (0 : Int32)), .unset]) rfl) ?_
  show Go p e below T4 (mkF m 9 #[.val (.int p0), .val (.ref h0.size), .val (.int (3 : Int32)), .val (.int (0 : Int32)), .unset] []) _
  refine Go.step (fun _ => XS.iloadN X4.here hx rfl (hb hby d1_9) rfl ) ?_
  show Go p e below T4 (mkF m 10 #[.val (.int p0), .val (.ref h0.size), .val (.int (3 : Int32)), .val (.int (0 : Int32)), .unset] [(.int (0 : Int32))]) _
  refine Go.step (fun _ => XS.iloadN X4.here hx rfl (hb hby d1_10) rfl ) ?_
  show Go p e below T4 (mkF m 11 #[.val (.int p0), .val (.ref h0.size), .val (.int (3 : Int32)), .val (.int (0 : Int32)), .unset] [(.int (3 : Int32)), (.int (0 : Int32))]) _
  refine Go.step (fun _ => XS.icmpNo X4.here hx rfl (hb hby d1_11) rfl (tlt (by decide)).2.1) ?_
  show Go p e below T4 (mkF m 14 #[.val (.int p0), .val (.ref h0.size), .val (.int (3 : Int32)), .val (.int (0 : Int32)), .unset] []) _
  refine Go.step (fun _ => XS.aloadN X4.here hx rfl (hb hby d1_14) rfl rfl ) ?_
  show Go p e below T4 (mkF m 15 #[.val (.int p0), .val (.ref h0.size), .val (.int (3 : Int32)), .val (.int (0 : Int32)), .unset] [(.ref h0.size)]) _
  refine Go.step (fun _ => XS.iloadN X4.here hx rfl (hb hby d1_15) rfl ) ?_
  show Go p e below T4 (mkF m 16 #[.val (.int p0), .val (.ref h0.size), .val (.int (3 : Int32)), .val (.int (0 : Int32)), .unset] [(.int (0 : Int32)), (.ref h0.size)]) _
  refine Go.step (fun _ => X4.aaload hx (j := (0 : Int32)) (v := (.ref wL)) Ar4.1 (State.isArrayOf_alike hZ.alike Ar4.2.1) rfl Ar4.2.2 (by show ¬ (_ ∨ cl.slots.size ≤ _); rw [hsz]; decide) at0 (g := (mkF m 16 #[.val (.int p0), .val (.ref h0.size), .val (.int (3 : Int32)), .val (.int (0 : Int32)), .unset] [(.int (0 : Int32)), (.ref h0.size)])) rfl rfl (hb hby d1_16) _) ?_
  show Go p e below T4 (mkF m 17 #[.val (.int p0), .val (.ref h0.size), .val (.int (3 : Int32)), .val (.int (0 : Int32)), .unset] [(.ref wL)]) _
  refine Go.step (fun _ => XS.astore X4.here hx rfl (hb hby d1_17) rfl rfl (l' := #[.val (.int p0), .val (.ref h0.size), .val (.int (3 : Int32)), .val (.int (0 : Int32)), .val (.ref wL)]) rfl) ?_
  show Go p e below T4 (mkF m 19 #[.val (.int p0), .val (.ref h0.size), .val (.int (3 : Int32)), .val (.int (0 : Int32)), .val (.ref wL)] []) _
  refine Go.step (fun _ => XS.aload X4.here hx rfl (hb hby d1_19) rfl rfl ) ?_
  show Go p e below T4 (mkF m 21 #[.val (.int p0), .val (.ref h0.size), .val (.int (3 : Int32)), .val (.int (0 : Int32)), .val (.ref wL)] [(.ref wL)]) _
  obtain ⟨T5, X5, e5, st5⟩ := getF X4 hx hZ hown (host := "") (Or.inl (hw _ (List.mem_of_getElem? (i := 22) rfl))) Via.refl rfl FwL_q4 (g := (mkF m 21 #[.val (.int p0), .val (.ref h0.size), .val (.int (3 : Int32)), .val (.int (0 : Int32)), .val (.ref wL)] [(.ref wL)])) rfl rfl (hb hby d1_21)
  refine Go.step st5 ?_
  show Go p e below T5 (mkF m 24 #[.val (.int p0), .val (.ref h0.size), .val (.int (3 : Int32)), .val (.int (0 : Int32)), .val (.ref wL)] [(.int (1 : Int32))]) _
  refine Go.step (fun _ => XS.iloadN X5.here hx rfl (hb hby d1_24) rfl ) ?_
  show Go p e below T5 (mkF m 25 #[.val (.int p0), .val (.ref h0.size), .val (.int (3 : Int32)), .val (.int (0 : Int32)), .val (.ref wL)] [(.int p0), (.int (1 : Int32))]) _
  by_cases hn1 : (1 : Int32) = p0
  · skip
    refine Go.step (fun _ => XS.icmpNo X5.here hx rfl (hb hby d1_25) rfl (teq hn1).2) ?_
    show Go p e below T5 (mkF m 28 #[.val (.int p0), .val (.ref h0.size), .val (.int (3 : Int32)), .val (.int (0 : Int32)), .val (.ref wL)] []) _
    refine Go.step (fun _ => XS.aload X5.here hx rfl (hb hby d1_28) rfl rfl ) ?_
    show Go p e below T5 (mkF m 30 #[.val (.int p0), .val (.ref h0.size), .val (.int (3 : Int32)), .val (.int (0 : Int32)), .val (.ref wL)] [(.ref wL)]) _
    refine Go.retA X5 hx hret rfl rfl hlk (hb hby d1_30) ?_ (by decide) (by decide)
    exact ⟨by rw [hr, if_pos hn1.symm], N4, (by rw [e5]; exact E4)⟩
  · skip
    refine Go.step (fun _ => XS.icmpYes X5.here hx rfl (pc0 := 25) (pc' := 31) rfl (hb hby d1_25) rfl (feq hn1).2 (by decide) (by decide)) ?_
    show Go p e below T5 (mkF m 31 #[.val (.int p0), .val (.ref h0.size), .val (.int (3 : Int32)), .val (.int (0 : Int32)), .val (.ref wL)] []) _
    refine Go.step (fun _ => XS.iinc X5.here hx rfl (hb hby d1_31) rfl (l' := #[.val (.int p0), .val (.ref h0.size), .val (.int (3 : Int32)), .val (.int (1 : Int32)), .val (.ref wL)]) rfl) ?_
    show Go p e below T5 (mkF m 34 #[.val (.int p0), .val (.ref h0.size), .val (.int (3 : Int32)), .val (.int (1 : Int32)), .val (.ref wL)] []) _
    refine Go.step (fun _ => XS.goto X5.here hx rfl (pc0 := 34) (pc' := 9) rfl (hb hby d1_34) (by decide) (by decide)) ?_
    show Go p e below T5 (mkF m 9 #[.val (.int p0), .val (.ref h0.size), .val (.int (3 : Int32)), .val (.int (1 : Int32)), .val (.ref wL)] []) _
    refine Go.step (fun _ => XS.iloadN X5.here hx rfl (hb hby d1_9) rfl ) ?_
    show Go p e below T5 (mkF m 10 #[.val (.int p0), .val (.ref h0.size), .val (.int (3 : Int32)), .val (.int (1 : Int32)), .val (.ref wL)] [(.int (1 : Int32))]) _
    refine Go.step (fun _ => XS.iloadN X5.here hx rfl (hb hby d1_10) rfl ) ?_
    show Go p e below T5 (mkF m 11 #[.val (.int p0), .val (.ref h0.size), .val (.int (3 : Int32)), .val (.int (1 : Int32)), .val (.ref wL)] [(.int (3 : Int32)), (.int (1 : Int32))]) _
    refine Go.step (fun _ => XS.icmpNo X5.here hx rfl (hb hby d1_11) rfl (tlt (by decide)).2.1) ?_
    show Go p e below T5 (mkF m 14 #[.val (.int p0), .val (.ref h0.size), .val (.int (3 : Int32)), .val (.int (1 : Int32)), .val (.ref wL)] []) _
    refine Go.step (fun _ => XS.aloadN X5.here hx rfl (hb hby d1_14) rfl rfl ) ?_
    show Go p e below T5 (mkF m 15 #[.val (.int p0), .val (.ref h0.size), .val (.int (3 : Int32)), .val (.int (1 : Int32)), .val (.ref wL)] [(.ref h0.size)]) _
    refine Go.step (fun _ => XS.iloadN X5.here hx rfl (hb hby d1_15) rfl ) ?_
    show Go p e below T5 (mkF m 16 #[.val (.int p0), .val (.ref h0.size), .val (.int (3 : Int32)), .val (.int (1 : Int32)), .val (.ref wL)] [(.int (1 : Int32)), (.ref h0.size)]) _
    refine Go.step (fun _ => X5.aaload hx (j := (1 : Int32)) (v := (.ref wQ)) (by rw [e5]; exact Ar4.1) (State.isArrayOf_alike hZ.alike Ar4.2.1) rfl Ar4.2.2 (by show ¬ (_ ∨ cl.slots.size ≤ _); rw [hsz]; decide) at1 (g := (mkF m 16 #[.val (.int p0), .val (.ref h0.size), .val (.int (3 : Int32)), .val (.int (1 : Int32)), .val (.ref wL)] [(.int (1 : Int32)), (.ref h0.size)])) rfl rfl (hb hby d1_16) _) ?_
    show Go p e below T5 (mkF m 17 #[.val (.int p0), .val (.ref h0.size), .val (.int (3 : Int32)), .val (.int (1 : Int32)), .val (.ref wL)] [(.ref wQ)]) _
    refine Go.step (fun _ => XS.astore X5.here hx rfl (hb hby d1_17) rfl rfl (l' := #[.val (.int p0), .val (.ref h0.size), .val (.int (3 : Int32)), .val (.int (1 : Int32)), .val (.ref wQ)]) rfl) ?_
    show Go p e below T5 (mkF m 19 #[.val (.int p0), .val (.ref h0.size), .val (.int (3 : Int32)), .val (.int (1 : Int32)), .val (.ref wQ)] []) _
    refine Go.step (fun _ => XS.aload X5.here hx rfl (hb hby d1_19) rfl rfl ) ?_
    show Go p e below T5 (mkF m 21 #[.val (.int p0), .val (.ref h0.size), .val (.int (3 : Int32)), .val (.int (1 : Int32)), .val (.ref wQ)] [(.ref wQ)]) _
    obtain ⟨T6, X6, e6, st6⟩ := getF X5 hx hZ hown (host := "") (Or.inl (hw _ (List.mem_of_getElem? (i := 22) rfl))) Via.refl e5 FwQ_q4 (g := (mkF m 21 #[.val (.int p0), .val (.ref h0.size), .val (.int (3 : Int32)), .val (.int (1 : Int32)), .val (.ref wQ)] [(.ref wQ)])) rfl rfl (hb hby d1_21)
    refine Go.step st6 ?_
    show Go p e below T6 (mkF m 24 #[.val (.int p0), .val (.ref h0.size), .val (.int (3 : Int32)), .val (.int (1 : Int32)), .val (.ref wQ)] [(.int (2 : Int32))]) _
    refine Go.step (fun _ => XS.iloadN X6.here hx rfl (hb hby d1_24) rfl ) ?_
    show Go p e below T6 (mkF m 25 #[.val (.int p0), .val (.ref h0.size), .val (.int (3 : Int32)), .val (.int (1 : Int32)), .val (.ref wQ)] [(.int p0), (.int (2 : Int32))]) _
    by_cases hn2 : (2 : Int32) = p0
    · skip
      refine Go.step (fun _ => XS.icmpNo X6.here hx rfl (hb hby d1_25) rfl (teq hn2).2) ?_
      show Go p e below T6 (mkF m 28 #[.val (.int p0), .val (.ref h0.size), .val (.int (3 : Int32)), .val (.int (1 : Int32)), .val (.ref wQ)] []) _
      refine Go.step (fun _ => XS.aload X6.here hx rfl (hb hby d1_28) rfl rfl ) ?_
      show Go p e below T6 (mkF m 30 #[.val (.int p0), .val (.ref h0.size), .val (.int (3 : Int32)), .val (.int (1 : Int32)), .val (.ref wQ)] [(.ref wQ)]) _
      refine Go.retA X6 hx hret rfl rfl hlk (hb hby d1_30) ?_ (by decide) (by decide)
      exact ⟨by rw [hr, if_neg (Ne.symm hn1), if_pos hn2.symm], N4, (by rw [e6]; exact E4)⟩
    · skip
      refine Go.step (fun _ => XS.icmpYes X6.here hx rfl (pc0 := 25) (pc' := 31) rfl (hb hby d1_25) rfl (feq hn2).2 (by decide) (by decide)) ?_
      show Go p e below T6 (mkF m 31 #[.val (.int p0), .val (.ref h0.size), .val (.int (3 : Int32)), .val (.int (1 : Int32)), .val (.ref wQ)] []) _
      refine Go.step (fun _ => XS.iinc X6.here hx rfl (hb hby d1_31) rfl (l' := #[.val (.int p0), .val (.ref h0.size), .val (.int (3 : Int32)), .val (.int (2 : Int32)), .val (.ref wQ)]) rfl) ?_
      show Go p e below T6 (mkF m 34 #[.val (.int p0), .val (.ref h0.size), .val (.int (3 : Int32)), .val (.int (2 : Int32)), .val (.ref wQ)] []) _
      refine Go.step (fun _ => XS.goto X6.here hx rfl (pc0 := 34) (pc' := 9) rfl (hb hby d1_34) (by decide) (by decide)) ?_
      show Go p e below T6 (mkF m 9 #[.val (.int p0), .val (.ref h0.size), .val (.int (3 : Int32)), .val (.int (2 : Int32)), .val (.ref wQ)] []) _
      refine Go.step (fun _ => XS.iloadN X6.here hx rfl (hb hby d1_9) rfl ) ?_
      show Go p e below T6 (mkF m 10 #[.val (.int p0), .val (.ref h0.size), .val (.int (3 : Int32)), .val (.int (2 : Int32)), .val (.ref wQ)] [(.int (2 : Int32))]) _
      refine Go.step (fun _ => XS.iloadN X6.here hx rfl (hb hby d1_10) rfl ) ?_
      show Go p e below T6 (mkF m 11 #[.val (.int p0), .val (.ref h0.size), .val (.int (3 : Int32)), .val (.int (2 : Int32)), .val (.ref wQ)] [(.int (3 : Int32)), (.int (2 : Int32))]) _
      refine Go.step (fun _ => XS.icmpNo X6.here hx rfl (hb hby d1_11) rfl (tlt (by decide)).2.1) ?_
      show Go p e below T6 (mkF m 14 #[.val (.int p0), .val (.ref h0.size), .val (.int (3 : Int32)), .val (.int (2 : Int32)), .val (.ref wQ)] []) _
      refine Go.step (fun _ => XS.aloadN X6.here hx rfl (hb hby d1_14) rfl rfl ) ?_
      show Go p e below T6 (mkF m 15 #[.val (.int p0), .val (.ref h0.size), .val (.int (3 : Int32)), .val (.int (2 : Int32)), .val (.ref wQ)] [(.ref h0.size)]) _
      refine Go.step (fun _ => XS.iloadN X6.here hx rfl (hb hby d1_15) rfl ) ?_
      show Go p e below T6 (mkF m 16 #[.val (.int p0), .val (.ref h0.size), .val (.int (3 : Int32)), .val (.int (2 : Int32)), .val (.ref wQ)] [(.int (2 : Int32)), (.ref h0.size)]) _
      refine Go.step (fun _ => X6.aaload hx (j := (2 : Int32)) (v := (.ref wS)) (by rw [e6]; exact Ar4.1) (State.isArrayOf_alike hZ.alike Ar4.2.1) rfl Ar4.2.2 (by show ¬ (_ ∨ cl.slots.size ≤ _); rw [hsz]; decide) at2 (g := (mkF m 16 #[.val (.int p0), .val (.ref h0.size), .val (.int (3 : Int32)), .val (.int (2 : Int32)), .val (.ref wQ)] [(.int (2 : Int32)), (.ref h0.size)])) rfl rfl (hb hby d1_16) _) ?_
      show Go p e below T6 (mkF m 17 #[.val (.int p0), .val (.ref h0.size), .val (.int (3 : Int32)), .val (.int (2 : Int32)), .val (.ref wQ)] [(.ref wS)]) _
      refine Go.step (fun _ => XS.astore X6.here hx rfl (hb hby d1_17) rfl rfl (l' := #[.val (.int p0), .val (.ref h0.size), .val (.int (3 : Int32)), .val (.int (2 : Int32)), .val (.ref wS)]) rfl) ?_
      show Go p e below T6 (mkF m 19 #[.val (.int p0), .val (.ref h0.size), .val (.int (3 : Int32)), .val (.int (2 : Int32)), .val (.ref wS)] []) _
      refine Go.step (fun _ => XS.aload X6.here hx rfl (hb hby d1_19) rfl rfl ) ?_
      show Go p e below T6 (mkF m 21 #[.val (.int p0), .val (.ref h0.size), .val (.int (3 : Int32)), .val (.int (2 : Int32)), .val (.ref wS)] [(.ref wS)]) _
      obtain ⟨T7, X7, e7, st7⟩ := getF X6 hx hZ hown (host := "") (Or.inl (hw _ (List.mem_of_getElem? (i := 22) rfl))) Via.refl e6 FwS_q4 (g := (mkF m 21 #[.val (.int p0), .val (.ref h0.size), .val (.int (3 : Int32)), .val (.int (2 : Int32)), .val (.ref wS)] [(.ref wS)])) rfl rfl (hb hby d1_21)
      refine Go.step st7 ?_
      show Go p e below T7 (mkF m 24 #[.val (.int p0), .val (.ref h0.size), .val (.int (3 : Int32)), .val (.int (2 : Int32)), .val (.ref wS)] [(.int (3 : Int32))]) _
      refine Go.step (fun _ => XS.iloadN X7.here hx rfl (hb hby d1_24) rfl ) ?_
      show Go p e below T7 (mkF m 25 #[.val (.int p0), .val (.ref h0.size), .val (.int (3 : Int32)), .val (.int (2 : Int32)), .val (.ref wS)] [(.int p0), (.int (3 : Int32))]) _
      by_cases hn3 : (3 : Int32) = p0
      · skip
        refine Go.step (fun _ => XS.icmpNo X7.here hx rfl (hb hby d1_25) rfl (teq hn3).2) ?_
        show Go p e below T7 (mkF m 28 #[.val (.int p0), .val (.ref h0.size), .val (.int (3 : Int32)), .val (.int (2 : Int32)), .val (.ref wS)] []) _
        refine Go.step (fun _ => XS.aload X7.here hx rfl (hb hby d1_28) rfl rfl ) ?_
        show Go p e below T7 (mkF m 30 #[.val (.int p0), .val (.ref h0.size), .val (.int (3 : Int32)), .val (.int (2 : Int32)), .val (.ref wS)] [(.ref wS)]) _
        refine Go.retA X7 hx hret rfl rfl hlk (hb hby d1_30) ?_ (by decide) (by decide)
        exact ⟨by rw [hr, if_neg (Ne.symm hn1), if_neg (Ne.symm hn2), if_pos hn3.symm], N4, (by rw [e7]; exact E4)⟩
      · skip
        refine Go.step (fun _ => XS.icmpYes X7.here hx rfl (pc0 := 25) (pc' := 31) rfl (hb hby d1_25) rfl (feq hn3).2 (by decide) (by decide)) ?_
        show Go p e below T7 (mkF m 31 #[.val (.int p0), .val (.ref h0.size), .val (.int (3 : Int32)), .val (.int (2 : Int32)), .val (.ref wS)] []) _
        refine Go.step (fun _ => XS.iinc X7.here hx rfl (hb hby d1_31) rfl (l' := #[.val (.int p0), .val (.ref h0.size), .val (.int (3 : Int32)), .val (.int (3 : Int32)), .val (.ref wS)]) rfl) ?_
        show Go p e below T7 (mkF m 34 #[.val (.int p0), .val (.ref h0.size), .val (.int (3 : Int32)), .val (.int (3 : Int32)), .val (.ref wS)] []) _
        refine Go.step (fun _ => XS.goto X7.here hx rfl (pc0 := 34) (pc' := 9) rfl (hb hby d1_34) (by decide) (by decide)) ?_
        show Go p e below T7 (mkF m 9 #[.val (.int p0), .val (.ref h0.size), .val (.int (3 : Int32)), .val (.int (3 : Int32)), .val (.ref wS)] []) _
        refine Go.step (fun _ => XS.iloadN X7.here hx rfl (hb hby d1_9) rfl ) ?_
        show Go p e below T7 (mkF m 10 #[.val (.int p0), .val (.ref h0.size), .val (.int (3 : Int32)), .val (.int (3 : Int32)), .val (.ref wS)] [(.int (3 : Int32))]) _
        refine Go.step (fun _ => XS.iloadN X7.here hx rfl (hb hby d1_10) rfl ) ?_
        show Go p e below T7 (mkF m 11 #[.val (.int p0), .val (.ref h0.size), .val (.int (3 : Int32)), .val (.int (3 : Int32)), .val (.ref wS)] [(.int (3 : Int32)), (.int (3 : Int32))]) _
        refine Go.step (fun _ => XS.icmpYes X7.here hx rfl (pc0 := 11) (pc' := 37) rfl (hb hby d1_11) rfl (flt (by decide)).2.1 (by decide) (by decide)) ?_
        show Go p e below T7 (mkF m 37 #[.val (.int p0), .val (.ref h0.size), .val (.int (3 : Int32)), .val (.int (3 : Int32)), .val (.ref wS)] []) _
        refine Go.step (fun _ => XS.aconstNull X7.here hx rfl (hb hby d1_37)) ?_
        show Go p e below T7 (mkF m 38 #[.val (.int p0), .val (.ref h0.size), .val (.int (3 : Int32)), .val (.int (3 : Int32)), .val (.ref wS)] [.null]) _
        refine Go.retA X7 hx hret rfl rfl hlk (hb hby d1_38) ?_ (by decide) (by decide)
        exact ⟨by rw [hr, if_neg (Ne.symm hn1), if_neg (Ne.symm hn2), if_neg (Ne.symm hn3)], N4, (by rw [e7]; exact E4)⟩
theorem d3_0 : decode method_2_code 0 = .ok (.iload_n 0, 1) := by decide +kernel
theorem d3_1 : decode method_2_code 1 = .ok (.iconst 1, 1) := by decide +kernel
theorem d3_2 : decode method_2_code 2 = .ok (.if_icmp .ne 7, 3) := by decide +kernel
theorem d3_5 : decode method_2_code 5 = .ok (.getstatic 7, 3) := by decide +kernel
theorem d3_8 : decode method_2_code 8 = .ok (.areturn, 1) := by decide +kernel
theorem d3_9 : decode method_2_code 9 = .ok (.iload_n 0, 1) := by decide +kernel
theorem d3_10 : decode method_2_code 10 = .ok (.iconst 2, 1) := by decide +kernel
theorem d3_11 : decode method_2_code 11 = .ok (.if_icmp .ne 7, 3) := by decide +kernel
theorem d3_14 : decode method_2_code 14 = .ok (.getstatic 13, 3) := by decide +kernel
theorem d3_17 : decode method_2_code 17 = .ok (.areturn, 1) := by decide +kernel
theorem d3_18 : decode method_2_code 18 = .ok (.iload_n 0, 1) := by decide +kernel
theorem d3_19 : decode method_2_code 19 = .ok (.iconst 3, 1) := by decide +kernel
theorem d3_20 : decode method_2_code 20 = .ok (.if_icmp .ne 7, 3) := by decide +kernel
theorem d3_23 : decode method_2_code 23 = .ok (.getstatic 16, 3) := by decide +kernel
theorem d3_26 : decode method_2_code 26 = .ok (.areturn, 1) := by decide +kernel
theorem d3_27 : decode method_2_code 27 = .ok (.aconst_null, 1) := by decide +kernel
theorem d3_28 : decode method_2_code 28 = .ok (.areturn, 1) := by decide +kernel
theorem pn_1 : plainName "com/example/tickwire/tickwire/feeds/smartapi/PacketOf247PinLaw" = true := by first | (simp [plainName, overriddenIn]; done) | decide +kernel
theorem ef_rm3 (m : MethodId) (x0 : Int32) : entryFrame m #[(.int x0)] 1 = mkF m 0 #[.val (.int x0)] [] := by first | rfl | (simp [entryFrame, mkF, argsToLocals, Value.category]; done)
def Q3 (Z : State) (p0 : Int32) (wL wQ wS : Addr) (r : Value) (h0 : Heap) (n0 : Nat) (v : Option Value) (h : Heap) (L : List Loc) : Prop := v = some r ∧ Fr n0 L ∧ h = h0
set_option maxRecDepth 65536 in
set_option maxHeartbeats 40000000 in
theorem rm3 (l : Launch) (Z : State) (a0 : Array Value) (hw : ∀ d ∈ tables_1, d.before a0 Z = true) (ws : List Jvm.Cond) (p0 : Int32) (wL wQ wS : Addr) (r : Value) (h0 : Heap) (n0 : Nat) (Z0 : n0 ≤ h0.size) (SL : Sta Z h0 "com/example/tickwire/tickwire/feeds/smartapi/SmartApiDecoder$Packet" "LTP" "Lcom/example/tickwire/tickwire/feeds/smartapi/SmartApiDecoder$Packet;" (.ref wL)) (SQ : Sta Z h0 "com/example/tickwire/tickwire/feeds/smartapi/SmartApiDecoder$Packet" "QUOTE" "Lcom/example/tickwire/tickwire/feeds/smartapi/SmartApiDecoder$Packet;" (.ref wQ)) (SS : Sta Z h0 "com/example/tickwire/tickwire/feeds/smartapi/SmartApiDecoder$Packet" "SNAP_QUOTE" "Lcom/example/tickwire/tickwire/feeds/smartapi/SmartApiDecoder$Packet;" (.ref wS)) (hr : r = if p0 = 1 then .ref wL else if p0 = 2 then .ref wQ else if p0 = 3 then .ref wS else .null) :
    MetFree l (⟨"com/example/tickwire/tickwire/feeds/smartapi/PacketOf247PinLaw", "expected", "(I)Lcom/example/tickwire/tickwire/feeds/smartapi/SmartApiDecoder$Packet;"⟩ : MethodName) (head1 (Jvm.Cond.code (⟨"com/example/tickwire/tickwire/feeds/smartapi/PacketOf247PinLaw", "expected", "(I)Lcom/example/tickwire/tickwire/feeds/smartapi/SmartApiDecoder$Packet;"⟩ : MethodName) method_2_code 1 (some (.object "com/example/tickwire/tickwire/feeds/smartapi/SmartApiDecoder$Packet")) :: ws) ({ frames := 0, cells := 0, slots := 0, locals := 0 } : Room)) (fun a U => a = #[(.int p0)] ∧ Z.Warmed39 U.vm ∧ U.heap = h0) (fun _ _ _ _ _ => True) (fun _ U o U' => ∃ v L, o = .returned v ∧ Q3 Z p0 wL wQ wS r h0 n0 v U'.heap L ∧ FrameEnd U o U' L ({ frames := 0, cells := 0, slots := 0, locals := 0 } : Room).cells ({ frames := 0, cells := 0, slots := 0, locals := 0 } : Room).slots) := by
  refine MetFree.of_bodySF (plainFor_of_name pn_1) hisR ?_
  intro p e s m args below meth c s₁ Bd hml0 hP hK
  obtain ⟨rfl, hZ, hh⟩ := hP
  have hx := Bd.exec
  have hby := Bd.bytes
  have hml : c.maxLocals = 1 := hml0
  have hown : s.vm.findClass "com/example/tickwire/tickwire/feeds/smartapi/PacketOf247PinLaw" = some m.cls := findClass_of_methodNamed Bd.named
  have hnm := (name_of_methodNamed Bd.named Bd.method).1
  have hlk : meth.locks = false := Bd.notSynchronized
  have hret := Bd.returns
  have X0 : Stand p l e ({ frames := 0, cells := 0, slots := 0, locals := 0 } : Room) s m #[(.int p0)] below meth c s₁ [] 0 0 := Stand.of_body Bd
  have e0 : s₁.heap = h0 := by rw [← hh, Bd.state]; rfl
  have N0 := Fr.nil n0
  show Go p e below s₁ (entryFrame m #[(.int p0)] 1) (Fin s (Q3 Z p0 wL wQ wS r h0 n0) ({ frames := 0, cells := 0, slots := 0, locals := 0 } : Room).cells ({ frames := 0, cells := 0, slots := 0, locals := 0 } : Room).slots)
  rw [ef_rm3]
  show Go p e below s₁ (mkF m 0 #[.val (.int p0)] []) _
  refine Go.step (fun _ => XS.iloadN X0.here hx rfl (hb hby d3_0) rfl ) ?_
  show Go p e below s₁ (mkF m 1 #[.val (.int p0)] [(.int p0)]) _
  refine Go.step (fun _ => XS.iconst X0.here hx rfl (hb hby d3_1)) ?_
  show Go p e below s₁ (mkF m 2 #[.val (.int p0)] [(.int (1 : Int32)), (.int p0)]) _
  by_cases hc2 : p0 = (1 : Int32)
  · skip
    refine Go.step (fun _ => XS.icmpNo X0.here hx rfl (hb hby d3_2) rfl (teq hc2).2) ?_
    show Go p e below s₁ (mkF m 5 #[.val (.int p0)] []) _
    obtain ⟨T8, X8, e8, st8⟩ := getS2 X0 hx hZ hown (host := "") (Or.inl (hw _ (List.mem_of_getElem? (i := 28) rfl))) Via.refl e0 SL (g := (mkF m 5 #[.val (.int p0)] [])) rfl (hb hby d3_5)
    refine Go.step st8 ?_
    show Go p e below T8 (mkF m 8 #[.val (.int p0)] [(.ref wL)]) _
    refine Go.retA X8 hx hret rfl rfl hlk (hb hby d3_8) ?_ (by decide) (by decide)
    exact ⟨by rw [hr, if_pos hc2], N0, e8⟩
  · skip
    refine Go.step (fun _ => XS.icmpYes X0.here hx rfl (pc0 := 2) (pc' := 9) rfl (hb hby d3_2) rfl (feq hc2).2 (by decide) (by decide)) ?_
    show Go p e below s₁ (mkF m 9 #[.val (.int p0)] []) _
    refine Go.step (fun _ => XS.iloadN X0.here hx rfl (hb hby d3_9) rfl ) ?_
    show Go p e below s₁ (mkF m 10 #[.val (.int p0)] [(.int p0)]) _
    refine Go.step (fun _ => XS.iconst X0.here hx rfl (hb hby d3_10)) ?_
    show Go p e below s₁ (mkF m 11 #[.val (.int p0)] [(.int (2 : Int32)), (.int p0)]) _
    by_cases hc11 : p0 = (2 : Int32)
    · skip
      refine Go.step (fun _ => XS.icmpNo X0.here hx rfl (hb hby d3_11) rfl (teq hc11).2) ?_
      show Go p e below s₁ (mkF m 14 #[.val (.int p0)] []) _
      obtain ⟨T9, X9, e9, st9⟩ := getS2 X0 hx hZ hown (host := "") (Or.inl (hw _ (List.mem_of_getElem? (i := 34) rfl))) Via.refl e0 SQ (g := (mkF m 14 #[.val (.int p0)] [])) rfl (hb hby d3_14)
      refine Go.step st9 ?_
      show Go p e below T9 (mkF m 17 #[.val (.int p0)] [(.ref wQ)]) _
      refine Go.retA X9 hx hret rfl rfl hlk (hb hby d3_17) ?_ (by decide) (by decide)
      exact ⟨by rw [hr, if_neg hc2, if_pos hc11], N0, e9⟩
    · skip
      refine Go.step (fun _ => XS.icmpYes X0.here hx rfl (pc0 := 11) (pc' := 18) rfl (hb hby d3_11) rfl (feq hc11).2 (by decide) (by decide)) ?_
      show Go p e below s₁ (mkF m 18 #[.val (.int p0)] []) _
      refine Go.step (fun _ => XS.iloadN X0.here hx rfl (hb hby d3_18) rfl ) ?_
      show Go p e below s₁ (mkF m 19 #[.val (.int p0)] [(.int p0)]) _
      refine Go.step (fun _ => XS.iconst X0.here hx rfl (hb hby d3_19)) ?_
      show Go p e below s₁ (mkF m 20 #[.val (.int p0)] [(.int (3 : Int32)), (.int p0)]) _
      by_cases hc20 : p0 = (3 : Int32)
      · skip
        refine Go.step (fun _ => XS.icmpNo X0.here hx rfl (hb hby d3_20) rfl (teq hc20).2) ?_
        show Go p e below s₁ (mkF m 23 #[.val (.int p0)] []) _
        obtain ⟨T10, X10, e10, st10⟩ := getS2 X0 hx hZ hown (host := "") (Or.inl (hw _ (List.mem_of_getElem? (i := 35) rfl))) Via.refl e0 SS (g := (mkF m 23 #[.val (.int p0)] [])) rfl (hb hby d3_23)
        refine Go.step st10 ?_
        show Go p e below T10 (mkF m 26 #[.val (.int p0)] [(.ref wS)]) _
        refine Go.retA X10 hx hret rfl rfl hlk (hb hby d3_26) ?_ (by decide) (by decide)
        exact ⟨by rw [hr, if_neg hc2, if_neg hc11, if_pos hc20], N0, e10⟩
      · skip
        refine Go.step (fun _ => XS.icmpYes X0.here hx rfl (pc0 := 20) (pc' := 27) rfl (hb hby d3_20) rfl (feq hc20).2 (by decide) (by decide)) ?_
        show Go p e below s₁ (mkF m 27 #[.val (.int p0)] []) _
        refine Go.step (fun _ => XS.aconstNull X0.here hx rfl (hb hby d3_27)) ?_
        show Go p e below s₁ (mkF m 28 #[.val (.int p0)] [.null]) _
        refine Go.retA X0 hx hret rfl rfl hlk (hb hby d3_28) ?_ (by decide) (by decide)
        exact ⟨by rw [hr, if_neg hc2, if_neg hc11, if_neg hc20], N0, e0⟩
theorem d4_0 : decode prog_12_method_4_code 0 = .ok (.aload_n 0, 1) := by decide +kernel
theorem d4_1 : decode prog_12_method_4_code 1 = .ok (.getfield 32, 3) := by decide +kernel
theorem d4_4 : decode prog_12_method_4_code 4 = .ok (.ireturn, 1) := by decide +kernel
theorem ef_rm4 (m : MethodId) (x0 : Addr) : entryFrame m #[(.ref x0)] 1 = mkF m 0 #[.val (.ref x0)] [] := by first | rfl | (simp [entryFrame, mkF, argsToLocals, Value.category]; done)
def Q4 (Z : State) (a1 : Addr) (z : Int32) (h0 : Heap) (n0 : Nat) (v : Option Value) (h : Heap) (L : List Loc) : Prop := v = some (.int z) ∧ Fr n0 L ∧ h = h0
set_option maxRecDepth 65536 in
set_option maxHeartbeats 40000000 in
theorem rm4 (l : Launch) (Z : State) (a0 : Array Value) (hw : ∀ d ∈ tables_1, d.before a0 Z = true) (ws : List Jvm.Cond) (a1 : Addr) (z : Int32) (h0 : Heap) (n0 : Nat) (Z0 : n0 ≤ h0.size) (F1 : Fld Z h0 a1 "com/example/tickwire/tickwire/feeds/smartapi/SmartApiDecoder$Packet" "number" "I" (.int z)) :
    MetFree l (⟨"com/example/tickwire/tickwire/feeds/smartapi/SmartApiDecoder$Packet", "number", "()I"⟩ : MethodName) (head1 (Jvm.Cond.code (⟨"com/example/tickwire/tickwire/feeds/smartapi/SmartApiDecoder$Packet", "number", "()I"⟩ : MethodName) prog_12_method_4_code 1 (some .int) :: ws) ({ frames := 0, cells := 0, slots := 0, locals := 0 } : Room)) (fun a U => a = #[(.ref a1)] ∧ Z.Warmed39 U.vm ∧ U.heap = h0) (fun _ _ _ _ _ => True) (fun _ U o U' => ∃ v L, o = .returned v ∧ Q4 Z a1 z h0 n0 v U'.heap L ∧ FrameEnd U o U' L ({ frames := 0, cells := 0, slots := 0, locals := 0 } : Room).cells ({ frames := 0, cells := 0, slots := 0, locals := 0 } : Room).slots) := by
  refine MetFree.of_bodySF (plainFor_of_name pn_0) hisR ?_
  intro p e s m args below meth c s₁ Bd hml0 hP hK
  obtain ⟨rfl, hZ, hh⟩ := hP
  have hx := Bd.exec
  have hby := Bd.bytes
  have hml : c.maxLocals = 1 := hml0
  have hown : s.vm.findClass "com/example/tickwire/tickwire/feeds/smartapi/SmartApiDecoder$Packet" = some m.cls := findClass_of_methodNamed Bd.named
  have hnm := (name_of_methodNamed Bd.named Bd.method).1
  have hlk : meth.locks = false := Bd.notSynchronized
  have hret := Bd.returns
  have X0 : Stand p l e ({ frames := 0, cells := 0, slots := 0, locals := 0 } : Room) s m #[(.ref a1)] below meth c s₁ [] 0 0 := Stand.of_body Bd
  have e0 : s₁.heap = h0 := by rw [← hh, Bd.state]; rfl
  have N0 := Fr.nil n0
  show Go p e below s₁ (entryFrame m #[(.ref a1)] 1) (Fin s (Q4 Z a1 z h0 n0) ({ frames := 0, cells := 0, slots := 0, locals := 0 } : Room).cells ({ frames := 0, cells := 0, slots := 0, locals := 0 } : Room).slots)
  rw [ef_rm4]
  show Go p e below s₁ (mkF m 0 #[.val (.ref a1)] []) _
  refine Go.step (fun _ => XS.aloadN X0.here hx rfl (hb hby d4_0) rfl rfl ) ?_
  show Go p e below s₁ (mkF m 1 #[.val (.ref a1)] [(.ref a1)]) _
  obtain ⟨T11, X11, e11, st11⟩ := getF X0 hx hZ hown (host := "") (Or.inl (hw _ (List.mem_of_getElem? (i := 22) rfl))) Via.refl e0 F1 (g := (mkF m 1 #[.val (.ref a1)] [(.ref a1)])) rfl rfl (hb hby d4_1)
  refine Go.step st11 ?_
  show Go p e below T11 (mkF m 4 #[.val (.ref a1)] [(.int z)]) _
  refine Go.retI X11 hx hret hlk (hb hby d4_4) ?_ (by decide) (by decide)
  exact ⟨rfl, N0, e11⟩
theorem pd_1 : parseMethodDescriptor "(I)Lcom/example/tickwire/tickwire/feeds/smartapi/SmartApiDecoder$Packet;" = some ⟨[.int], some (.object "com/example/tickwire/tickwire/feeds/smartapi/SmartApiDecoder$Packet")⟩ := by decide +kernel
theorem pd_2 : parseMethodDescriptor "()I" = some ⟨[], some .int⟩ := by decide +kernel
theorem ef_rm0 (m : MethodId) (x0 : Int32) (x1 : Int32) : entryFrame m #[(.int x0), (.int x1)] maxLocals = mkF m 0 #[.val (.int x0), .val (.int x1), .unset, .unset, .unset] [] := by first | rfl | (simp [entryFrame, mkF, argsToLocals, Value.category, maxLocals]; done)
def Q0 (Z : State) (p0 p1 : Int32) (wV : Addr) (cl : Cell) (wL wQ wS : Addr) (h0 : Heap) (n0 : Nat) (v : Option Value) (h : Heap) (L : List Loc) : Prop := v = some (.int 1) ∧ Fr n0 L
set_option maxRecDepth 65536 in
set_option maxHeartbeats 40000000 in
theorem rm0 (l : Launch) (Z : State) (a0 : Array Value) (hw : ∀ d ∈ tables_1, d.before a0 Z = true) (ws : List Jvm.Cond) (p0 p1 : Int32) (wV : Addr) (cl : Cell) (wL wQ wS : Addr) (h0 : Heap) (n0 : Nat) (Z0 : n0 ≤ h0.size) (SV : Sta Z h0 "com/example/tickwire/tickwire/feeds/smartapi/SmartApiDecoder$Packet" "$VALUES" "[Lcom/example/tickwire/tickwire/feeds/smartapi/SmartApiDecoder$Packet;" (.ref wV)) (AV : Arr Z h0 wV cl (.object "com/example/tickwire/tickwire/feeds/smartapi/SmartApiDecoder$Packet")) (EV : Exa Z h0 wV "[Lcom/example/tickwire/tickwire/feeds/smartapi/SmartApiDecoder$Packet;") (FV : FitC Z cl) (hsz : cl.slots.size = 3) (hlen : cl.slots.size.toInt32 = 3) (at0 : cl.slots[(0 : Int32).toNatClampNeg]? = some (.ref wL)) (at1 : cl.slots[(1 : Int32).toNatClampNeg]? = some (.ref wQ)) (at2 : cl.slots[(2 : Int32).toNatClampNeg]? = some (.ref wS)) (FwL : Fld Z h0 wL "com/example/tickwire/tickwire/feeds/smartapi/SmartApiDecoder$Packet" "number" "I" (.int 1)) (FwQ : Fld Z h0 wQ "com/example/tickwire/tickwire/feeds/smartapi/SmartApiDecoder$Packet" "number" "I" (.int 2)) (FwS : Fld Z h0 wS "com/example/tickwire/tickwire/feeds/smartapi/SmartApiDecoder$Packet" "number" "I" (.int 3)) (SL : Sta Z h0 "com/example/tickwire/tickwire/feeds/smartapi/SmartApiDecoder$Packet" "LTP" "Lcom/example/tickwire/tickwire/feeds/smartapi/SmartApiDecoder$Packet;" (.ref wL)) (SQ : Sta Z h0 "com/example/tickwire/tickwire/feeds/smartapi/SmartApiDecoder$Packet" "QUOTE" "Lcom/example/tickwire/tickwire/feeds/smartapi/SmartApiDecoder$Packet;" (.ref wQ)) (SS : Sta Z h0 "com/example/tickwire/tickwire/feeds/smartapi/SmartApiDecoder$Packet" "SNAP_QUOTE" "Lcom/example/tickwire/tickwire/feeds/smartapi/SmartApiDecoder$Packet;" (.ref wS)) (EwL : Exa Z h0 wL "com/example/tickwire/tickwire/feeds/smartapi/SmartApiDecoder$Packet") (EwQ : Exa Z h0 wQ "com/example/tickwire/tickwire/feeds/smartapi/SmartApiDecoder$Packet") (EwS : Exa Z h0 wS "com/example/tickwire/tickwire/feeds/smartapi/SmartApiDecoder$Packet") :
    MetFree l x (head1 (Jvm.Cond.code x code maxLocals ret :: ws) room_1) (fun a U => a = #[(.int p0), (.int p1)] ∧ Z.Warmed39 U.vm ∧ U.heap = h0) (fun _ _ _ _ _ => True) (fun _ U o U' => ∃ v L, o = .returned v ∧ Q0 Z p0 p1 wV cl wL wQ wS h0 n0 v U'.heap L ∧ FrameEnd U o U' L 16 128) := by
  refine MetFree.of_bodySF (plainFor_of_name pn_1) hisR ?_
  intro p e s m args below meth c s₁ Bd hml0 hP hK
  obtain ⟨rfl, hZ, hh⟩ := hP
  have hx := Bd.exec
  have hby := Bd.bytes
  have hml : c.maxLocals = 5 := hml0
  have hown : s.vm.findClass "com/example/tickwire/tickwire/feeds/smartapi/PacketOf247PinLaw" = some m.cls := findClass_of_methodNamed Bd.named
  have hnm := (name_of_methodNamed Bd.named Bd.method).1
  have hlk : meth.locks = false := Bd.notSynchronized
  have hret := Bd.returns
  have X0 : Stand p l e room_1 s m #[(.int p0), (.int p1)] below meth c s₁ [] 0 0 := Stand.of_body Bd
  have e0 : s₁.heap = h0 := by rw [← hh, Bd.state]; rfl
  have N0 := Fr.nil n0
  show Go p e below s₁ (entryFrame m #[(.int p0), (.int p1)] maxLocals) (Fin s (Q0 Z p0 p1 wV cl wL wQ wS h0 n0) 16 128)
  rw [ef_rm0]
  show Go p e below s₁ (mkF m 0 #[.val (.int p0), .val (.int p1), .unset, .unset, .unset] []) _
  refine Go.step (fun _ => XS.iloadN X0.here hx rfl (hb hby at_0) rfl ) ?_
  show Go p e below s₁ (mkF m 1 #[.val (.int p0), .val (.int p1), .unset, .unset, .unset] [(.int p1)]) _
  refine Go.step (fun _ => XS.iconst X0.here hx rfl (hb hby at_1)) ?_
  show Go p e below s₁ (mkF m 2 #[.val (.int p0), .val (.int p1), .unset, .unset, .unset] [(.int (1 : Int32)), (.int p1)]) _
  refine Go.step (fun _ => XS.iand X0.here hx rfl (hb hby at_2) rfl) ?_
  show Go p e below s₁ (mkF m 3 #[.val (.int p0), .val (.int p1), .unset, .unset, .unset] [(.int (p1 &&& (1 : Int32)))]) _
  by_cases hc3 : (p1 &&& (1 : Int32)) = (0 : Int32)
  · skip
    refine Go.step (fun _ => XS.ifNo X0.here hx rfl (hb hby at_3) rfl ((if0 _ _).trans (teq hc3).2)) ?_
    show Go p e below s₁ (mkF m 6 #[.val (.int p0), .val (.int p1), .unset, .unset, .unset] []) _
    refine Go.step (fun _ => XS.iloadN X0.here hx rfl (hb hby at_6) rfl ) ?_
    show Go p e below s₁ (mkF m 7 #[.val (.int p0), .val (.int p1), .unset, .unset, .unset] [(.int p0)]) _
    refine Go.step (fun _ => XS.goto X0.here hx rfl (pc0 := 7) (pc' := 18) rfl (hb hby at_7) (by decide) (by decide)) ?_
    show Go p e below s₁ (mkF m 18 #[.val (.int p0), .val (.int p1), .unset, .unset, .unset] [(.int p0)]) _
    refine Go.step (fun _ => XS.istoreN X0.here hx rfl (hb hby at_18) rfl (l' := #[.val (.int p0), .val (.int p1), .val (.int p0), .unset, .unset]) rfl) ?_
    show Go p e below s₁ (mkF m 19 #[.val (.int p0), .val (.int p1), .val (.int p0), .unset, .unset] []) _
    by_cases hk1 : p0 = 1
    · skip
      show Go p e below s₁ (mkF m 19 #[.val (.int p0), .val (.int p1), .val (.int p0), .unset, .unset] []) _
      refine Go.step (fun _ => XS.iloadN X0.here hx rfl (hb hby at_19) rfl ) ?_
      show Go p e below s₁ (mkF m 20 #[.val (.int p0), .val (.int p1), .val (.int p0), .unset, .unset] [(.int p0)]) _
      obtain ⟨_, _, ⟨T12, L12, k12, n12⟩, -, X12, ⟨Lc12, hQ12, l12, y12, z12⟩, st12⟩ := Jvm.LawKit.callS X0 hx (y := (⟨"com/example/tickwire/tickwire/feeds/smartapi/SmartApiDecoder$Packet", "of", "(I)Lcom/example/tickwire/tickwire/feeds/smartapi/SmartApiDecoder$Packet;"⟩ : MethodName)) hown (mvT hZ (hw _ (List.mem_of_getElem? (i := 0) rfl))) (mvT hZ (hw _ (List.mem_of_getElem? (i := 1) rfl))) (mvT hZ (hw _ (List.mem_of_getElem? (i := 2) rfl))) (mvT hZ (hw _ (List.mem_of_getElem? (i := 3) rfl))) (by decide) (backOf (W := 0) (rm1 l Z a0 hw [] p0 wV cl wL wQ wS (.ref wL) h0 n0 Z0 SV AV EV FV hsz hlen at0 at1 at2 FwL FwQ FwS (by rw [if_pos hk1])) hZ (hw _ (List.mem_of_getElem? (i := 3) rfl)) (hw _ (List.mem_of_getElem? (i := 2) rfl)) (by decide) (by decide)) (g := (mkF m 20 #[.val (.int p0), .val (.int p1), .val (.int p0), .unset, .unset] [(.int p0)])) rfl (by rw [hml]; rfl) (argsL := [(.int p0)]) (rest := []) (lenOf pd_1 rfl) rfl (by show 2 * 0 + _ ≤ _; exact Nat.le_of_eq rfl) (hb hby at_20) (fun _ _ => ⟨rfl, e0, (by decide : 0 + 1 ≤ _), (by decide : 0 + 3 ≤ _)⟩)
      dsimp only [Pt.U, Pt.locs, Pt.cells, Pt.slots] at X12 l12 y12 z12 st12 hQ12
      subst l12 y12 z12
      obtain ⟨rfl, Nq12, E12⟩ := hQ12
      have N12 := Fr.app N0 Nq12
      refine Go.step st12 ?_
      have SL_q12 := SL.ext E12
      have SQ_q12 := SQ.ext E12
      have SS_q12 := SS.ext E12
      have FwL_q12 := FwL.ext E12
      have FwQ_q12 := FwQ.ext E12
      have FwS_q12 := FwS.ext E12
      have EwL_q12 := EwL.ext E12
      have EwQ_q12 := EwQ.ext E12
      have EwS_q12 := EwS.ext E12
      have Zs : n0 ≤ T12.heap.size := Nat.le_trans Z0 E12.1
      show Go p e below T12 (mkF m 23 #[.val (.int p0), .val (.int p1), .val (.int p0), .unset, .unset] [(.ref wL)]) _
      refine Go.step (fun _ => XS.astoreN X12.here hx rfl (hb hby at_23) rfl rfl (l' := #[.val (.int p0), .val (.int p1), .val (.int p0), .val (.ref wL), .unset]) rfl) ?_
      show Go p e below T12 (mkF m 24 #[.val (.int p0), .val (.int p1), .val (.int p0), .val (.ref wL), .unset] []) _
      refine Go.step (fun _ => XS.iloadN X12.here hx rfl (hb hby at_24) rfl ) ?_
      show Go p e below T12 (mkF m 25 #[.val (.int p0), .val (.int p1), .val (.int p0), .val (.ref wL), .unset] [(.int p0)]) _
      obtain ⟨_, _, ⟨T13, L13, k13, n13⟩, -, X13, ⟨Lc13, hQ13, l13, y13, z13⟩, st13⟩ := Jvm.LawKit.callS X12 hx (y := (⟨"com/example/tickwire/tickwire/feeds/smartapi/PacketOf247PinLaw", "expected", "(I)Lcom/example/tickwire/tickwire/feeds/smartapi/SmartApiDecoder$Packet;"⟩ : MethodName)) hown (mvT hZ (hw _ (List.mem_of_getElem? (i := 24) rfl))) (mvT hZ (hw _ (List.mem_of_getElem? (i := 25) rfl))) (mvT hZ (hw _ (List.mem_of_getElem? (i := 26) rfl))) (mvT hZ (hw _ (List.mem_of_getElem? (i := 27) rfl))) (by decide) (backOf (W := 0) (rm3 l Z a0 hw [] p0 wL wQ wS (.ref wL) T12.heap n0 Zs SL_q12 SQ_q12 SS_q12 (by rw [if_pos hk1])) hZ (hw _ (List.mem_of_getElem? (i := 27) rfl)) (hw _ (List.mem_of_getElem? (i := 26) rfl)) (by decide) (by decide)) (g := (mkF m 25 #[.val (.int p0), .val (.int p1), .val (.int p0), .val (.ref wL), .unset] [(.int p0)])) rfl (by rw [hml]; rfl) (argsL := [(.int p0)]) (rest := []) (lenOf pd_1 rfl) rfl (by show 2 * 0 + _ ≤ _; exact Nat.le_of_eq rfl) (hb hby at_25) (fun _ _ => ⟨rfl, rfl, (by decide : 0 + 1 + 0 ≤ _), (by decide : 0 + 3 + 0 ≤ _)⟩)
      dsimp only [Pt.U, Pt.locs, Pt.cells, Pt.slots] at X13 l13 y13 z13 st13 hQ13
      subst l13 y13 z13
      obtain ⟨rfl, Nq13, eh13⟩ := hQ13
      have N13 := Fr.app N12 Nq13
      refine Go.step st13 ?_
      show Go p e below T13 (mkF m 28 #[.val (.int p0), .val (.int p1), .val (.int p0), .val (.ref wL), .unset] [(.ref wL)]) _
      refine Go.step (fun _ => XS.astore X13.here hx rfl (hb hby at_28) rfl rfl (l' := #[.val (.int p0), .val (.int p1), .val (.int p0), .val (.ref wL), .val (.ref wL)]) rfl) ?_
      show Go p e below T13 (mkF m 30 #[.val (.int p0), .val (.int p1), .val (.int p0), .val (.ref wL), .val (.ref wL)] []) _
      refine Go.step (fun _ => XS.aloadN X13.here hx rfl (hb hby at_30) rfl rfl ) ?_
      show Go p e below T13 (mkF m 31 #[.val (.int p0), .val (.int p1), .val (.int p0), .val (.ref wL), .val (.ref wL)] [(.ref wL)]) _
      refine Go.step (fun _ => XS.aload X13.here hx rfl (hb hby at_31) rfl rfl ) ?_
      show Go p e below T13 (mkF m 33 #[.val (.int p0), .val (.int p1), .val (.int p0), .val (.ref wL), .val (.ref wL)] [(.ref wL), (.ref wL)]) _
      refine Go.step (fun _ => Jvm.RoadKit.acmp (g := (mkF m 33 #[.val (.int p0), .val (.int p1), .val (.int p0), .val (.ref wL), .val (.ref wL)] [(.ref wL), (.ref wL)])) X13 hx rfl rfl rfl (pc0 := 33) (pc' := 38) (same := true) rfl (hb hby at_33) rfl (decide_eq_true rfl) (by decide) (by decide)) ?_
      show Go p e below T13 (mkF m 38 #[.val (.int p0), .val (.int p1), .val (.int p0), .val (.ref wL), .val (.ref wL)] []) _
      refine Go.step (fun _ => XS.aloadN X13.here hx rfl (hb hby at_38) rfl rfl ) ?_
      show Go p e below T13 (mkF m 39 #[.val (.int p0), .val (.int p1), .val (.int p0), .val (.ref wL), .val (.ref wL)] [(.ref wL)]) _
      refine Go.step (fun _ => XS.ifnullNo X13.here hx rfl (hb hby at_39) rfl) ?_
      show Go p e below T13 (mkF m 42 #[.val (.int p0), .val (.int p1), .val (.int p0), .val (.ref wL), .val (.ref wL)] []) _
      refine Go.step (fun _ => XS.aloadN X13.here hx rfl (hb hby at_42) rfl rfl ) ?_
      show Go p e below T13 (mkF m 43 #[.val (.int p0), .val (.int p1), .val (.int p0), .val (.ref wL), .val (.ref wL)] [(.ref wL)]) _
      obtain ⟨cq14, kq14, q14a, q14b, q14c⟩ := isOf hZ eh13 EwL_q12
      obtain ⟨_, _, ⟨T14, L14, k14, n14⟩, -, X14, ⟨Lc14, hQ14, l14, y14, z14⟩, st14⟩ := X13.virtualBack hx (y := (⟨"com/example/tickwire/tickwire/feeds/smartapi/SmartApiDecoder$Packet", "number", "()I"⟩ : MethodName)) (z := (⟨"com/example/tickwire/tickwire/feeds/smartapi/SmartApiDecoder$Packet", "number", "()I"⟩ : MethodName)) hown (mvT hZ (hw _ (List.mem_of_getElem? (i := 29) rfl))) (mvT hZ (hw _ (List.mem_of_getElem? (i := 30) rfl))) (notFace_of_selects (args := #[]) (mvT hZ (hw _ (List.mem_of_getElem? (i := 32) rfl)))) (mvT hZ (hw _ (List.mem_of_getElem? (i := 32) rfl))) (mvT hZ (hw _ (List.mem_of_getElem? (i := 31) rfl))) (by decide) (backOf (W := 0) (rm4 l Z a0 hw [] wL 1 T12.heap n0 Zs FwL_q12) hZ (hw _ (List.mem_of_getElem? (i := 33) rfl)) (hw _ (List.mem_of_getElem? (i := 2) rfl)) (by decide) (by decide)) q14a q14c (g := (mkF m 43 #[.val (.int p0), .val (.int p1), .val (.int p0), .val (.ref wL), .val (.ref wL)] [(.ref wL)])) rfl (by rw [hml]; rfl) (Steps.refl _) (argsL := []) (rest := []) (lenOf pd_2 rfl) rfl (by show 2 * 0 + _ ≤ _; exact Nat.le_of_eq rfl) (hb hby at_43) (fun _ _ => ⟨rfl, eh13, (by decide : 0 + 1 + 0 + 0 ≤ _), (by decide : 0 + 3 + 0 + 0 ≤ _)⟩)
      dsimp only [Pt.U, Pt.locs, Pt.cells, Pt.slots] at X14 l14 y14 z14 st14 hQ14
      subst l14 y14 z14
      obtain ⟨rfl, Nq14, ei14⟩ := hQ14
      have N14 := Fr.app N13 Nq14
      refine Go.call st14 ?_
      show Go p e below T14 (mkF m 46 #[.val (.int p0), .val (.int p1), .val (.int p0), .val (.ref wL), .val (.ref wL)] [(.int (1 : Int32))]) _
      refine Go.step (fun _ => XS.iloadN X14.here hx rfl (hb hby at_46) rfl ) ?_
      show Go p e below T14 (mkF m 47 #[.val (.int p0), .val (.int p1), .val (.int p0), .val (.ref wL), .val (.ref wL)] [(.int p0), (.int (1 : Int32))]) _
      refine Go.step (fun _ => XS.icmpYes X14.here hx rfl (pc0 := 47) (pc' := 52) rfl (hb hby at_47) rfl (teq hk1.symm).1 (by decide) (by decide)) ?_
      show Go p e below T14 (mkF m 52 #[.val (.int p0), .val (.int p1), .val (.int p0), .val (.ref wL), .val (.ref wL)] []) _
      refine Go.step (fun _ => XS.iconst X14.here hx rfl (hb hby at_52)) ?_
      show Go p e below T14 (mkF m 53 #[.val (.int p0), .val (.int p1), .val (.int p0), .val (.ref wL), .val (.ref wL)] [(.int (1 : Int32))]) _
      refine Go.retN (t := .boolean) (z' := (1 : Int32)) X14 hx hret (by simp) hlk (hb hby at_53) (by decide) ?_ (by decide) (by decide)
      exact ⟨rfl, N14⟩
    by_cases hk2 : p0 = 2
    · skip
      show Go p e below s₁ (mkF m 19 #[.val (.int p0), .val (.int p1), .val (.int p0), .unset, .unset] []) _
      refine Go.step (fun _ => XS.iloadN X0.here hx rfl (hb hby at_19) rfl ) ?_
      show Go p e below s₁ (mkF m 20 #[.val (.int p0), .val (.int p1), .val (.int p0), .unset, .unset] [(.int p0)]) _
      obtain ⟨_, _, ⟨T15, L15, k15, n15⟩, -, X15, ⟨Lc15, hQ15, l15, y15, z15⟩, st15⟩ := Jvm.LawKit.callS X0 hx (y := (⟨"com/example/tickwire/tickwire/feeds/smartapi/SmartApiDecoder$Packet", "of", "(I)Lcom/example/tickwire/tickwire/feeds/smartapi/SmartApiDecoder$Packet;"⟩ : MethodName)) hown (mvT hZ (hw _ (List.mem_of_getElem? (i := 0) rfl))) (mvT hZ (hw _ (List.mem_of_getElem? (i := 1) rfl))) (mvT hZ (hw _ (List.mem_of_getElem? (i := 2) rfl))) (mvT hZ (hw _ (List.mem_of_getElem? (i := 3) rfl))) (by decide) (backOf (W := 0) (rm1 l Z a0 hw [] p0 wV cl wL wQ wS (.ref wQ) h0 n0 Z0 SV AV EV FV hsz hlen at0 at1 at2 FwL FwQ FwS (by rw [if_neg hk1, if_pos hk2])) hZ (hw _ (List.mem_of_getElem? (i := 3) rfl)) (hw _ (List.mem_of_getElem? (i := 2) rfl)) (by decide) (by decide)) (g := (mkF m 20 #[.val (.int p0), .val (.int p1), .val (.int p0), .unset, .unset] [(.int p0)])) rfl (by rw [hml]; rfl) (argsL := [(.int p0)]) (rest := []) (lenOf pd_1 rfl) rfl (by show 2 * 0 + _ ≤ _; exact Nat.le_of_eq rfl) (hb hby at_20) (fun _ _ => ⟨rfl, e0, (by decide : 0 + 1 ≤ _), (by decide : 0 + 3 ≤ _)⟩)
      dsimp only [Pt.U, Pt.locs, Pt.cells, Pt.slots] at X15 l15 y15 z15 st15 hQ15
      subst l15 y15 z15
      obtain ⟨rfl, Nq15, E15⟩ := hQ15
      have N15 := Fr.app N0 Nq15
      refine Go.step st15 ?_
      have SL_q15 := SL.ext E15
      have SQ_q15 := SQ.ext E15
      have SS_q15 := SS.ext E15
      have FwL_q15 := FwL.ext E15
      have FwQ_q15 := FwQ.ext E15
      have FwS_q15 := FwS.ext E15
      have EwL_q15 := EwL.ext E15
      have EwQ_q15 := EwQ.ext E15
      have EwS_q15 := EwS.ext E15
      have Zs : n0 ≤ T15.heap.size := Nat.le_trans Z0 E15.1
      show Go p e below T15 (mkF m 23 #[.val (.int p0), .val (.int p1), .val (.int p0), .unset, .unset] [(.ref wQ)]) _
      refine Go.step (fun _ => XS.astoreN X15.here hx rfl (hb hby at_23) rfl rfl (l' := #[.val (.int p0), .val (.int p1), .val (.int p0), .val (.ref wQ), .unset]) rfl) ?_
      show Go p e below T15 (mkF m 24 #[.val (.int p0), .val (.int p1), .val (.int p0), .val (.ref wQ), .unset] []) _
      refine Go.step (fun _ => XS.iloadN X15.here hx rfl (hb hby at_24) rfl ) ?_
      show Go p e below T15 (mkF m 25 #[.val (.int p0), .val (.int p1), .val (.int p0), .val (.ref wQ), .unset] [(.int p0)]) _
      obtain ⟨_, _, ⟨T16, L16, k16, n16⟩, -, X16, ⟨Lc16, hQ16, l16, y16, z16⟩, st16⟩ := Jvm.LawKit.callS X15 hx (y := (⟨"com/example/tickwire/tickwire/feeds/smartapi/PacketOf247PinLaw", "expected", "(I)Lcom/example/tickwire/tickwire/feeds/smartapi/SmartApiDecoder$Packet;"⟩ : MethodName)) hown (mvT hZ (hw _ (List.mem_of_getElem? (i := 24) rfl))) (mvT hZ (hw _ (List.mem_of_getElem? (i := 25) rfl))) (mvT hZ (hw _ (List.mem_of_getElem? (i := 26) rfl))) (mvT hZ (hw _ (List.mem_of_getElem? (i := 27) rfl))) (by decide) (backOf (W := 0) (rm3 l Z a0 hw [] p0 wL wQ wS (.ref wQ) T15.heap n0 Zs SL_q15 SQ_q15 SS_q15 (by rw [if_neg hk1, if_pos hk2])) hZ (hw _ (List.mem_of_getElem? (i := 27) rfl)) (hw _ (List.mem_of_getElem? (i := 26) rfl)) (by decide) (by decide)) (g := (mkF m 25 #[.val (.int p0), .val (.int p1), .val (.int p0), .val (.ref wQ), .unset] [(.int p0)])) rfl (by rw [hml]; rfl) (argsL := [(.int p0)]) (rest := []) (lenOf pd_1 rfl) rfl (by show 2 * 0 + _ ≤ _; exact Nat.le_of_eq rfl) (hb hby at_25) (fun _ _ => ⟨rfl, rfl, (by decide : 0 + 1 + 0 ≤ _), (by decide : 0 + 3 + 0 ≤ _)⟩)
      dsimp only [Pt.U, Pt.locs, Pt.cells, Pt.slots] at X16 l16 y16 z16 st16 hQ16
      subst l16 y16 z16
      obtain ⟨rfl, Nq16, eh16⟩ := hQ16
      have N16 := Fr.app N15 Nq16
      refine Go.step st16 ?_
      show Go p e below T16 (mkF m 28 #[.val (.int p0), .val (.int p1), .val (.int p0), .val (.ref wQ), .unset] [(.ref wQ)]) _
      refine Go.step (fun _ => XS.astore X16.here hx rfl (hb hby at_28) rfl rfl (l' := #[.val (.int p0), .val (.int p1), .val (.int p0), .val (.ref wQ), .val (.ref wQ)]) rfl) ?_
      show Go p e below T16 (mkF m 30 #[.val (.int p0), .val (.int p1), .val (.int p0), .val (.ref wQ), .val (.ref wQ)] []) _
      refine Go.step (fun _ => XS.aloadN X16.here hx rfl (hb hby at_30) rfl rfl ) ?_
      show Go p e below T16 (mkF m 31 #[.val (.int p0), .val (.int p1), .val (.int p0), .val (.ref wQ), .val (.ref wQ)] [(.ref wQ)]) _
      refine Go.step (fun _ => XS.aload X16.here hx rfl (hb hby at_31) rfl rfl ) ?_
      show Go p e below T16 (mkF m 33 #[.val (.int p0), .val (.int p1), .val (.int p0), .val (.ref wQ), .val (.ref wQ)] [(.ref wQ), (.ref wQ)]) _
      refine Go.step (fun _ => Jvm.RoadKit.acmp (g := (mkF m 33 #[.val (.int p0), .val (.int p1), .val (.int p0), .val (.ref wQ), .val (.ref wQ)] [(.ref wQ), (.ref wQ)])) X16 hx rfl rfl rfl (pc0 := 33) (pc' := 38) (same := true) rfl (hb hby at_33) rfl (decide_eq_true rfl) (by decide) (by decide)) ?_
      show Go p e below T16 (mkF m 38 #[.val (.int p0), .val (.int p1), .val (.int p0), .val (.ref wQ), .val (.ref wQ)] []) _
      refine Go.step (fun _ => XS.aloadN X16.here hx rfl (hb hby at_38) rfl rfl ) ?_
      show Go p e below T16 (mkF m 39 #[.val (.int p0), .val (.int p1), .val (.int p0), .val (.ref wQ), .val (.ref wQ)] [(.ref wQ)]) _
      refine Go.step (fun _ => XS.ifnullNo X16.here hx rfl (hb hby at_39) rfl) ?_
      show Go p e below T16 (mkF m 42 #[.val (.int p0), .val (.int p1), .val (.int p0), .val (.ref wQ), .val (.ref wQ)] []) _
      refine Go.step (fun _ => XS.aloadN X16.here hx rfl (hb hby at_42) rfl rfl ) ?_
      show Go p e below T16 (mkF m 43 #[.val (.int p0), .val (.int p1), .val (.int p0), .val (.ref wQ), .val (.ref wQ)] [(.ref wQ)]) _
      obtain ⟨cq17, kq17, q17a, q17b, q17c⟩ := isOf hZ eh16 EwQ_q15
      obtain ⟨_, _, ⟨T17, L17, k17, n17⟩, -, X17, ⟨Lc17, hQ17, l17, y17, z17⟩, st17⟩ := X16.virtualBack hx (y := (⟨"com/example/tickwire/tickwire/feeds/smartapi/SmartApiDecoder$Packet", "number", "()I"⟩ : MethodName)) (z := (⟨"com/example/tickwire/tickwire/feeds/smartapi/SmartApiDecoder$Packet", "number", "()I"⟩ : MethodName)) hown (mvT hZ (hw _ (List.mem_of_getElem? (i := 29) rfl))) (mvT hZ (hw _ (List.mem_of_getElem? (i := 30) rfl))) (notFace_of_selects (args := #[]) (mvT hZ (hw _ (List.mem_of_getElem? (i := 32) rfl)))) (mvT hZ (hw _ (List.mem_of_getElem? (i := 32) rfl))) (mvT hZ (hw _ (List.mem_of_getElem? (i := 31) rfl))) (by decide) (backOf (W := 0) (rm4 l Z a0 hw [] wQ 2 T15.heap n0 Zs FwQ_q15) hZ (hw _ (List.mem_of_getElem? (i := 33) rfl)) (hw _ (List.mem_of_getElem? (i := 2) rfl)) (by decide) (by decide)) q17a q17c (g := (mkF m 43 #[.val (.int p0), .val (.int p1), .val (.int p0), .val (.ref wQ), .val (.ref wQ)] [(.ref wQ)])) rfl (by rw [hml]; rfl) (Steps.refl _) (argsL := []) (rest := []) (lenOf pd_2 rfl) rfl (by show 2 * 0 + _ ≤ _; exact Nat.le_of_eq rfl) (hb hby at_43) (fun _ _ => ⟨rfl, eh16, (by decide : 0 + 1 + 0 + 0 ≤ _), (by decide : 0 + 3 + 0 + 0 ≤ _)⟩)
      dsimp only [Pt.U, Pt.locs, Pt.cells, Pt.slots] at X17 l17 y17 z17 st17 hQ17
      subst l17 y17 z17
      obtain ⟨rfl, Nq17, ei17⟩ := hQ17
      have N17 := Fr.app N16 Nq17
      refine Go.call st17 ?_
      show Go p e below T17 (mkF m 46 #[.val (.int p0), .val (.int p1), .val (.int p0), .val (.ref wQ), .val (.ref wQ)] [(.int (2 : Int32))]) _
      refine Go.step (fun _ => XS.iloadN X17.here hx rfl (hb hby at_46) rfl ) ?_
      show Go p e below T17 (mkF m 47 #[.val (.int p0), .val (.int p1), .val (.int p0), .val (.ref wQ), .val (.ref wQ)] [(.int p0), (.int (2 : Int32))]) _
      refine Go.step (fun _ => XS.icmpYes X17.here hx rfl (pc0 := 47) (pc' := 52) rfl (hb hby at_47) rfl (teq hk2.symm).1 (by decide) (by decide)) ?_
      show Go p e below T17 (mkF m 52 #[.val (.int p0), .val (.int p1), .val (.int p0), .val (.ref wQ), .val (.ref wQ)] []) _
      refine Go.step (fun _ => XS.iconst X17.here hx rfl (hb hby at_52)) ?_
      show Go p e below T17 (mkF m 53 #[.val (.int p0), .val (.int p1), .val (.int p0), .val (.ref wQ), .val (.ref wQ)] [(.int (1 : Int32))]) _
      refine Go.retN (t := .boolean) (z' := (1 : Int32)) X17 hx hret (by simp) hlk (hb hby at_53) (by decide) ?_ (by decide) (by decide)
      exact ⟨rfl, N17⟩
    by_cases hk3 : p0 = 3
    · skip
      show Go p e below s₁ (mkF m 19 #[.val (.int p0), .val (.int p1), .val (.int p0), .unset, .unset] []) _
      refine Go.step (fun _ => XS.iloadN X0.here hx rfl (hb hby at_19) rfl ) ?_
      show Go p e below s₁ (mkF m 20 #[.val (.int p0), .val (.int p1), .val (.int p0), .unset, .unset] [(.int p0)]) _
      obtain ⟨_, _, ⟨T18, L18, k18, n18⟩, -, X18, ⟨Lc18, hQ18, l18, y18, z18⟩, st18⟩ := Jvm.LawKit.callS X0 hx (y := (⟨"com/example/tickwire/tickwire/feeds/smartapi/SmartApiDecoder$Packet", "of", "(I)Lcom/example/tickwire/tickwire/feeds/smartapi/SmartApiDecoder$Packet;"⟩ : MethodName)) hown (mvT hZ (hw _ (List.mem_of_getElem? (i := 0) rfl))) (mvT hZ (hw _ (List.mem_of_getElem? (i := 1) rfl))) (mvT hZ (hw _ (List.mem_of_getElem? (i := 2) rfl))) (mvT hZ (hw _ (List.mem_of_getElem? (i := 3) rfl))) (by decide) (backOf (W := 0) (rm1 l Z a0 hw [] p0 wV cl wL wQ wS (.ref wS) h0 n0 Z0 SV AV EV FV hsz hlen at0 at1 at2 FwL FwQ FwS (by rw [if_neg hk1, if_neg hk2, if_pos hk3])) hZ (hw _ (List.mem_of_getElem? (i := 3) rfl)) (hw _ (List.mem_of_getElem? (i := 2) rfl)) (by decide) (by decide)) (g := (mkF m 20 #[.val (.int p0), .val (.int p1), .val (.int p0), .unset, .unset] [(.int p0)])) rfl (by rw [hml]; rfl) (argsL := [(.int p0)]) (rest := []) (lenOf pd_1 rfl) rfl (by show 2 * 0 + _ ≤ _; exact Nat.le_of_eq rfl) (hb hby at_20) (fun _ _ => ⟨rfl, e0, (by decide : 0 + 1 ≤ _), (by decide : 0 + 3 ≤ _)⟩)
      dsimp only [Pt.U, Pt.locs, Pt.cells, Pt.slots] at X18 l18 y18 z18 st18 hQ18
      subst l18 y18 z18
      obtain ⟨rfl, Nq18, E18⟩ := hQ18
      have N18 := Fr.app N0 Nq18
      refine Go.step st18 ?_
      have SL_q18 := SL.ext E18
      have SQ_q18 := SQ.ext E18
      have SS_q18 := SS.ext E18
      have FwL_q18 := FwL.ext E18
      have FwQ_q18 := FwQ.ext E18
      have FwS_q18 := FwS.ext E18
      have EwL_q18 := EwL.ext E18
      have EwQ_q18 := EwQ.ext E18
      have EwS_q18 := EwS.ext E18
      have Zs : n0 ≤ T18.heap.size := Nat.le_trans Z0 E18.1
      show Go p e below T18 (mkF m 23 #[.val (.int p0), .val (.int p1), .val (.int p0), .unset, .unset] [(.ref wS)]) _
      refine Go.step (fun _ => XS.astoreN X18.here hx rfl (hb hby at_23) rfl rfl (l' := #[.val (.int p0), .val (.int p1), .val (.int p0), .val (.ref wS), .unset]) rfl) ?_
      show Go p e below T18 (mkF m 24 #[.val (.int p0), .val (.int p1), .val (.int p0), .val (.ref wS), .unset] []) _
      refine Go.step (fun _ => XS.iloadN X18.here hx rfl (hb hby at_24) rfl ) ?_
      show Go p e below T18 (mkF m 25 #[.val (.int p0), .val (.int p1), .val (.int p0), .val (.ref wS), .unset] [(.int p0)]) _
      obtain ⟨_, _, ⟨T19, L19, k19, n19⟩, -, X19, ⟨Lc19, hQ19, l19, y19, z19⟩, st19⟩ := Jvm.LawKit.callS X18 hx (y := (⟨"com/example/tickwire/tickwire/feeds/smartapi/PacketOf247PinLaw", "expected", "(I)Lcom/example/tickwire/tickwire/feeds/smartapi/SmartApiDecoder$Packet;"⟩ : MethodName)) hown (mvT hZ (hw _ (List.mem_of_getElem? (i := 24) rfl))) (mvT hZ (hw _ (List.mem_of_getElem? (i := 25) rfl))) (mvT hZ (hw _ (List.mem_of_getElem? (i := 26) rfl))) (mvT hZ (hw _ (List.mem_of_getElem? (i := 27) rfl))) (by decide) (backOf (W := 0) (rm3 l Z a0 hw [] p0 wL wQ wS (.ref wS) T18.heap n0 Zs SL_q18 SQ_q18 SS_q18 (by rw [if_neg hk1, if_neg hk2, if_pos hk3])) hZ (hw _ (List.mem_of_getElem? (i := 27) rfl)) (hw _ (List.mem_of_getElem? (i := 26) rfl)) (by decide) (by decide)) (g := (mkF m 25 #[.val (.int p0), .val (.int p1), .val (.int p0), .val (.ref wS), .unset] [(.int p0)])) rfl (by rw [hml]; rfl) (argsL := [(.int p0)]) (rest := []) (lenOf pd_1 rfl) rfl (by show 2 * 0 + _ ≤ _; exact Nat.le_of_eq rfl) (hb hby at_25) (fun _ _ => ⟨rfl, rfl, (by decide : 0 + 1 + 0 ≤ _), (by decide : 0 + 3 + 0 ≤ _)⟩)
      dsimp only [Pt.U, Pt.locs, Pt.cells, Pt.slots] at X19 l19 y19 z19 st19 hQ19
      subst l19 y19 z19
      obtain ⟨rfl, Nq19, eh19⟩ := hQ19
      have N19 := Fr.app N18 Nq19
      refine Go.step st19 ?_
      show Go p e below T19 (mkF m 28 #[.val (.int p0), .val (.int p1), .val (.int p0), .val (.ref wS), .unset] [(.ref wS)]) _
      refine Go.step (fun _ => XS.astore X19.here hx rfl (hb hby at_28) rfl rfl (l' := #[.val (.int p0), .val (.int p1), .val (.int p0), .val (.ref wS), .val (.ref wS)]) rfl) ?_
      show Go p e below T19 (mkF m 30 #[.val (.int p0), .val (.int p1), .val (.int p0), .val (.ref wS), .val (.ref wS)] []) _
      refine Go.step (fun _ => XS.aloadN X19.here hx rfl (hb hby at_30) rfl rfl ) ?_
      show Go p e below T19 (mkF m 31 #[.val (.int p0), .val (.int p1), .val (.int p0), .val (.ref wS), .val (.ref wS)] [(.ref wS)]) _
      refine Go.step (fun _ => XS.aload X19.here hx rfl (hb hby at_31) rfl rfl ) ?_
      show Go p e below T19 (mkF m 33 #[.val (.int p0), .val (.int p1), .val (.int p0), .val (.ref wS), .val (.ref wS)] [(.ref wS), (.ref wS)]) _
      refine Go.step (fun _ => Jvm.RoadKit.acmp (g := (mkF m 33 #[.val (.int p0), .val (.int p1), .val (.int p0), .val (.ref wS), .val (.ref wS)] [(.ref wS), (.ref wS)])) X19 hx rfl rfl rfl (pc0 := 33) (pc' := 38) (same := true) rfl (hb hby at_33) rfl (decide_eq_true rfl) (by decide) (by decide)) ?_
      show Go p e below T19 (mkF m 38 #[.val (.int p0), .val (.int p1), .val (.int p0), .val (.ref wS), .val (.ref wS)] []) _
      refine Go.step (fun _ => XS.aloadN X19.here hx rfl (hb hby at_38) rfl rfl ) ?_
      show Go p e below T19 (mkF m 39 #[.val (.int p0), .val (.int p1), .val (.int p0), .val (.ref wS), .val (.ref wS)] [(.ref wS)]) _
      refine Go.step (fun _ => XS.ifnullNo X19.here hx rfl (hb hby at_39) rfl) ?_
      show Go p e below T19 (mkF m 42 #[.val (.int p0), .val (.int p1), .val (.int p0), .val (.ref wS), .val (.ref wS)] []) _
      refine Go.step (fun _ => XS.aloadN X19.here hx rfl (hb hby at_42) rfl rfl ) ?_
      show Go p e below T19 (mkF m 43 #[.val (.int p0), .val (.int p1), .val (.int p0), .val (.ref wS), .val (.ref wS)] [(.ref wS)]) _
      obtain ⟨cq20, kq20, q20a, q20b, q20c⟩ := isOf hZ eh19 EwS_q18
      obtain ⟨_, _, ⟨T20, L20, k20, n20⟩, -, X20, ⟨Lc20, hQ20, l20, y20, z20⟩, st20⟩ := X19.virtualBack hx (y := (⟨"com/example/tickwire/tickwire/feeds/smartapi/SmartApiDecoder$Packet", "number", "()I"⟩ : MethodName)) (z := (⟨"com/example/tickwire/tickwire/feeds/smartapi/SmartApiDecoder$Packet", "number", "()I"⟩ : MethodName)) hown (mvT hZ (hw _ (List.mem_of_getElem? (i := 29) rfl))) (mvT hZ (hw _ (List.mem_of_getElem? (i := 30) rfl))) (notFace_of_selects (args := #[]) (mvT hZ (hw _ (List.mem_of_getElem? (i := 32) rfl)))) (mvT hZ (hw _ (List.mem_of_getElem? (i := 32) rfl))) (mvT hZ (hw _ (List.mem_of_getElem? (i := 31) rfl))) (by decide) (backOf (W := 0) (rm4 l Z a0 hw [] wS 3 T18.heap n0 Zs FwS_q18) hZ (hw _ (List.mem_of_getElem? (i := 33) rfl)) (hw _ (List.mem_of_getElem? (i := 2) rfl)) (by decide) (by decide)) q20a q20c (g := (mkF m 43 #[.val (.int p0), .val (.int p1), .val (.int p0), .val (.ref wS), .val (.ref wS)] [(.ref wS)])) rfl (by rw [hml]; rfl) (Steps.refl _) (argsL := []) (rest := []) (lenOf pd_2 rfl) rfl (by show 2 * 0 + _ ≤ _; exact Nat.le_of_eq rfl) (hb hby at_43) (fun _ _ => ⟨rfl, eh19, (by decide : 0 + 1 + 0 + 0 ≤ _), (by decide : 0 + 3 + 0 + 0 ≤ _)⟩)
      dsimp only [Pt.U, Pt.locs, Pt.cells, Pt.slots] at X20 l20 y20 z20 st20 hQ20
      subst l20 y20 z20
      obtain ⟨rfl, Nq20, ei20⟩ := hQ20
      have N20 := Fr.app N19 Nq20
      refine Go.call st20 ?_
      show Go p e below T20 (mkF m 46 #[.val (.int p0), .val (.int p1), .val (.int p0), .val (.ref wS), .val (.ref wS)] [(.int (3 : Int32))]) _
      refine Go.step (fun _ => XS.iloadN X20.here hx rfl (hb hby at_46) rfl ) ?_
      show Go p e below T20 (mkF m 47 #[.val (.int p0), .val (.int p1), .val (.int p0), .val (.ref wS), .val (.ref wS)] [(.int p0), (.int (3 : Int32))]) _
      refine Go.step (fun _ => XS.icmpYes X20.here hx rfl (pc0 := 47) (pc' := 52) rfl (hb hby at_47) rfl (teq hk3.symm).1 (by decide) (by decide)) ?_
      show Go p e below T20 (mkF m 52 #[.val (.int p0), .val (.int p1), .val (.int p0), .val (.ref wS), .val (.ref wS)] []) _
      refine Go.step (fun _ => XS.iconst X20.here hx rfl (hb hby at_52)) ?_
      show Go p e below T20 (mkF m 53 #[.val (.int p0), .val (.int p1), .val (.int p0), .val (.ref wS), .val (.ref wS)] [(.int (1 : Int32))]) _
      refine Go.retN (t := .boolean) (z' := (1 : Int32)) X20 hx hret (by simp) hlk (hb hby at_53) (by decide) ?_ (by decide) (by decide)
      exact ⟨rfl, N20⟩
    show Go p e below s₁ (mkF m 19 #[.val (.int p0), .val (.int p1), .val (.int p0), .unset, .unset] []) _
    refine Go.step (fun _ => XS.iloadN X0.here hx rfl (hb hby at_19) rfl ) ?_
    show Go p e below s₁ (mkF m 20 #[.val (.int p0), .val (.int p1), .val (.int p0), .unset, .unset] [(.int p0)]) _
    obtain ⟨_, _, ⟨T21, L21, k21, n21⟩, -, X21, ⟨Lc21, hQ21, l21, y21, z21⟩, st21⟩ := Jvm.LawKit.callS X0 hx (y := (⟨"com/example/tickwire/tickwire/feeds/smartapi/SmartApiDecoder$Packet", "of", "(I)Lcom/example/tickwire/tickwire/feeds/smartapi/SmartApiDecoder$Packet;"⟩ : MethodName)) hown (mvT hZ (hw _ (List.mem_of_getElem? (i := 0) rfl))) (mvT hZ (hw _ (List.mem_of_getElem? (i := 1) rfl))) (mvT hZ (hw _ (List.mem_of_getElem? (i := 2) rfl))) (mvT hZ (hw _ (List.mem_of_getElem? (i := 3) rfl))) (by decide) (backOf (W := 0) (rm1 l Z a0 hw [] p0 wV cl wL wQ wS .null h0 n0 Z0 SV AV EV FV hsz hlen at0 at1 at2 FwL FwQ FwS (by rw [if_neg hk1, if_neg hk2, if_neg hk3])) hZ (hw _ (List.mem_of_getElem? (i := 3) rfl)) (hw _ (List.mem_of_getElem? (i := 2) rfl)) (by decide) (by decide)) (g := (mkF m 20 #[.val (.int p0), .val (.int p1), .val (.int p0), .unset, .unset] [(.int p0)])) rfl (by rw [hml]; rfl) (argsL := [(.int p0)]) (rest := []) (lenOf pd_1 rfl) rfl (by show 2 * 0 + _ ≤ _; exact Nat.le_of_eq rfl) (hb hby at_20) (fun _ _ => ⟨rfl, e0, (by decide : 0 + 1 ≤ _), (by decide : 0 + 3 ≤ _)⟩)
    dsimp only [Pt.U, Pt.locs, Pt.cells, Pt.slots] at X21 l21 y21 z21 st21 hQ21
    subst l21 y21 z21
    obtain ⟨rfl, Nq21, E21⟩ := hQ21
    have N21 := Fr.app N0 Nq21
    refine Go.step st21 ?_
    have SL_q21 := SL.ext E21
    have SQ_q21 := SQ.ext E21
    have SS_q21 := SS.ext E21
    have FwL_q21 := FwL.ext E21
    have FwQ_q21 := FwQ.ext E21
    have FwS_q21 := FwS.ext E21
    have EwL_q21 := EwL.ext E21
    have EwQ_q21 := EwQ.ext E21
    have EwS_q21 := EwS.ext E21
    have Zs : n0 ≤ T21.heap.size := Nat.le_trans Z0 E21.1
    show Go p e below T21 (mkF m 23 #[.val (.int p0), .val (.int p1), .val (.int p0), .unset, .unset] [.null]) _
    refine Go.step (fun _ => XS.astoreN X21.here hx rfl (hb hby at_23) rfl rfl (l' := #[.val (.int p0), .val (.int p1), .val (.int p0), .val .null, .unset]) rfl) ?_
    show Go p e below T21 (mkF m 24 #[.val (.int p0), .val (.int p1), .val (.int p0), .val .null, .unset] []) _
    refine Go.step (fun _ => XS.iloadN X21.here hx rfl (hb hby at_24) rfl ) ?_
    show Go p e below T21 (mkF m 25 #[.val (.int p0), .val (.int p1), .val (.int p0), .val .null, .unset] [(.int p0)]) _
    obtain ⟨_, _, ⟨T22, L22, k22, n22⟩, -, X22, ⟨Lc22, hQ22, l22, y22, z22⟩, st22⟩ := Jvm.LawKit.callS X21 hx (y := (⟨"com/example/tickwire/tickwire/feeds/smartapi/PacketOf247PinLaw", "expected", "(I)Lcom/example/tickwire/tickwire/feeds/smartapi/SmartApiDecoder$Packet;"⟩ : MethodName)) hown (mvT hZ (hw _ (List.mem_of_getElem? (i := 24) rfl))) (mvT hZ (hw _ (List.mem_of_getElem? (i := 25) rfl))) (mvT hZ (hw _ (List.mem_of_getElem? (i := 26) rfl))) (mvT hZ (hw _ (List.mem_of_getElem? (i := 27) rfl))) (by decide) (backOf (W := 0) (rm3 l Z a0 hw [] p0 wL wQ wS .null T21.heap n0 Zs SL_q21 SQ_q21 SS_q21 (by rw [if_neg hk1, if_neg hk2, if_neg hk3])) hZ (hw _ (List.mem_of_getElem? (i := 27) rfl)) (hw _ (List.mem_of_getElem? (i := 26) rfl)) (by decide) (by decide)) (g := (mkF m 25 #[.val (.int p0), .val (.int p1), .val (.int p0), .val .null, .unset] [(.int p0)])) rfl (by rw [hml]; rfl) (argsL := [(.int p0)]) (rest := []) (lenOf pd_1 rfl) rfl (by show 2 * 0 + _ ≤ _; exact Nat.le_of_eq rfl) (hb hby at_25) (fun _ _ => ⟨rfl, rfl, (by decide : 0 + 1 + 0 ≤ _), (by decide : 0 + 3 + 0 ≤ _)⟩)
    dsimp only [Pt.U, Pt.locs, Pt.cells, Pt.slots] at X22 l22 y22 z22 st22 hQ22
    subst l22 y22 z22
    obtain ⟨rfl, Nq22, eh22⟩ := hQ22
    have N22 := Fr.app N21 Nq22
    refine Go.step st22 ?_
    show Go p e below T22 (mkF m 28 #[.val (.int p0), .val (.int p1), .val (.int p0), .val .null, .unset] [.null]) _
    refine Go.step (fun _ => XS.astore X22.here hx rfl (hb hby at_28) rfl rfl (l' := #[.val (.int p0), .val (.int p1), .val (.int p0), .val .null, .val .null]) rfl) ?_
    show Go p e below T22 (mkF m 30 #[.val (.int p0), .val (.int p1), .val (.int p0), .val .null, .val .null] []) _
    refine Go.step (fun _ => XS.aloadN X22.here hx rfl (hb hby at_30) rfl rfl ) ?_
    show Go p e below T22 (mkF m 31 #[.val (.int p0), .val (.int p1), .val (.int p0), .val .null, .val .null] [.null]) _
    refine Go.step (fun _ => XS.aload X22.here hx rfl (hb hby at_31) rfl rfl ) ?_
    show Go p e below T22 (mkF m 33 #[.val (.int p0), .val (.int p1), .val (.int p0), .val .null, .val .null] [.null, .null]) _
    refine Go.step (fun _ => Jvm.RoadKit.acmp (g := (mkF m 33 #[.val (.int p0), .val (.int p1), .val (.int p0), .val .null, .val .null] [.null, .null])) X22 hx rfl rfl rfl (pc0 := 33) (pc' := 38) (same := true) rfl (hb hby at_33) rfl (decide_eq_true rfl) (by decide) (by decide)) ?_
    show Go p e below T22 (mkF m 38 #[.val (.int p0), .val (.int p1), .val (.int p0), .val .null, .val .null] []) _
    refine Go.step (fun _ => XS.aloadN X22.here hx rfl (hb hby at_38) rfl rfl ) ?_
    show Go p e below T22 (mkF m 39 #[.val (.int p0), .val (.int p1), .val (.int p0), .val .null, .val .null] [.null]) _
    refine Go.step (fun _ => XS.ifnullYes X22.here hx rfl (pc0 := 39) (pc' := 52) rfl (hb hby at_39) rfl (by decide) (by decide)) ?_
    show Go p e below T22 (mkF m 52 #[.val (.int p0), .val (.int p1), .val (.int p0), .val .null, .val .null] []) _
    refine Go.step (fun _ => XS.iconst X22.here hx rfl (hb hby at_52)) ?_
    show Go p e below T22 (mkF m 53 #[.val (.int p0), .val (.int p1), .val (.int p0), .val .null, .val .null] [(.int (1 : Int32))]) _
    refine Go.retN (t := .boolean) (z' := (1 : Int32)) X22 hx hret (by simp) hlk (hb hby at_53) (by decide) ?_ (by decide) (by decide)
    exact ⟨rfl, N22⟩
  · skip
    refine Go.step (fun _ => XS.ifYes X0.here hx rfl (pc0 := 3) (pc' := 10) rfl (hb hby at_3) rfl ((if0 _ _).trans (feq hc3).2) (by decide) (by decide)) ?_
    show Go p e below s₁ (mkF m 10 #[.val (.int p0), .val (.int p1), .unset, .unset, .unset] []) _
    refine Go.step (fun _ => XS.iloadN X0.here hx rfl (hb hby at_10) rfl ) ?_
    show Go p e below s₁ (mkF m 11 #[.val (.int p0), .val (.int p1), .unset, .unset, .unset] [(.int p1)]) _
    refine Go.step (fun _ => XS.iconst X0.here hx rfl (hb hby at_11)) ?_
    show Go p e below s₁ (mkF m 12 #[.val (.int p0), .val (.int p1), .unset, .unset, .unset] [(.int (1 : Int32)), (.int p1)]) _
    refine Go.step (fun _ => XS.iushr X0.here hx rfl (hb hby at_12) rfl) ?_
    show Go p e below s₁ (mkF m 13 #[.val (.int p0), .val (.int p1), .unset, .unset, .unset] [(.int ((p1.toUInt32 >>> ((1 : Int32) &&& 31).toUInt32).toInt32))]) _
    refine Go.step (fun _ => XS.bipush X0.here hx rfl (hb hby at_13)) ?_
    show Go p e below s₁ (mkF m 15 #[.val (.int p0), .val (.int p1), .unset, .unset, .unset] [(.int (7 : Int32)), (.int ((p1.toUInt32 >>> ((1 : Int32) &&& 31).toUInt32).toInt32))]) _
    refine Go.step (fun _ => XS.iand X0.here hx rfl (hb hby at_15) rfl) ?_
    show Go p e below s₁ (mkF m 16 #[.val (.int p0), .val (.int p1), .unset, .unset, .unset] [(.int (((p1.toUInt32 >>> ((1 : Int32) &&& 31).toUInt32).toInt32) &&& (7 : Int32)))]) _
    refine Go.step (fun _ => XS.iconst X0.here hx rfl (hb hby at_16)) ?_
    show Go p e below s₁ (mkF m 17 #[.val (.int p0), .val (.int p1), .unset, .unset, .unset] [(.int (2 : Int32)), (.int (((p1.toUInt32 >>> ((1 : Int32) &&& 31).toUInt32).toInt32) &&& (7 : Int32)))]) _
    refine Go.step (fun _ => XS.isub X0.here hx rfl (hb hby at_17) rfl) ?_
    show Go p e below s₁ (mkF m 18 #[.val (.int p0), .val (.int p1), .unset, .unset, .unset] [(.int ((((p1.toUInt32 >>> ((1 : Int32) &&& 31).toUInt32).toInt32) &&& (7 : Int32)) - (2 : Int32)))]) _
    refine Go.step (fun _ => XS.istoreN X0.here hx rfl (hb hby at_18) rfl (l' := #[.val (.int p0), .val (.int p1), .val (.int ((((p1.toUInt32 >>> ((1 : Int32) &&& 31).toUInt32).toInt32) &&& (7 : Int32)) - (2 : Int32))), .unset, .unset]) rfl) ?_
    show Go p e below s₁ (mkF m 19 #[.val (.int p0), .val (.int p1), .val (.int ((((p1.toUInt32 >>> ((1 : Int32) &&& 31).toUInt32).toInt32) &&& (7 : Int32)) - (2 : Int32))), .unset, .unset] []) _
    by_cases hk1 : ((((p1.toUInt32 >>> ((1 : Int32) &&& 31).toUInt32).toInt32) &&& (7 : Int32)) - (2 : Int32)) = 1
    · skip
      show Go p e below s₁ (mkF m 19 #[.val (.int p0), .val (.int p1), .val (.int ((((p1.toUInt32 >>> ((1 : Int32) &&& 31).toUInt32).toInt32) &&& (7 : Int32)) - (2 : Int32))), .unset, .unset] []) _
      refine Go.step (fun _ => XS.iloadN X0.here hx rfl (hb hby at_19) rfl ) ?_
      show Go p e below s₁ (mkF m 20 #[.val (.int p0), .val (.int p1), .val (.int ((((p1.toUInt32 >>> ((1 : Int32) &&& 31).toUInt32).toInt32) &&& (7 : Int32)) - (2 : Int32))), .unset, .unset] [(.int ((((p1.toUInt32 >>> ((1 : Int32) &&& 31).toUInt32).toInt32) &&& (7 : Int32)) - (2 : Int32)))]) _
      obtain ⟨_, _, ⟨T23, L23, k23, n23⟩, -, X23, ⟨Lc23, hQ23, l23, y23, z23⟩, st23⟩ := Jvm.LawKit.callS X0 hx (y := (⟨"com/example/tickwire/tickwire/feeds/smartapi/SmartApiDecoder$Packet", "of", "(I)Lcom/example/tickwire/tickwire/feeds/smartapi/SmartApiDecoder$Packet;"⟩ : MethodName)) hown (mvT hZ (hw _ (List.mem_of_getElem? (i := 0) rfl))) (mvT hZ (hw _ (List.mem_of_getElem? (i := 1) rfl))) (mvT hZ (hw _ (List.mem_of_getElem? (i := 2) rfl))) (mvT hZ (hw _ (List.mem_of_getElem? (i := 3) rfl))) (by decide) (backOf (W := 0) (rm1 l Z a0 hw [] ((((p1.toUInt32 >>> ((1 : Int32) &&& 31).toUInt32).toInt32) &&& (7 : Int32)) - (2 : Int32)) wV cl wL wQ wS (.ref wL) h0 n0 Z0 SV AV EV FV hsz hlen at0 at1 at2 FwL FwQ FwS (by rw [if_pos hk1])) hZ (hw _ (List.mem_of_getElem? (i := 3) rfl)) (hw _ (List.mem_of_getElem? (i := 2) rfl)) (by decide) (by decide)) (g := (mkF m 20 #[.val (.int p0), .val (.int p1), .val (.int ((((p1.toUInt32 >>> ((1 : Int32) &&& 31).toUInt32).toInt32) &&& (7 : Int32)) - (2 : Int32))), .unset, .unset] [(.int ((((p1.toUInt32 >>> ((1 : Int32) &&& 31).toUInt32).toInt32) &&& (7 : Int32)) - (2 : Int32)))])) rfl (by rw [hml]; rfl) (argsL := [(.int ((((p1.toUInt32 >>> ((1 : Int32) &&& 31).toUInt32).toInt32) &&& (7 : Int32)) - (2 : Int32)))]) (rest := []) (lenOf pd_1 rfl) rfl (by show 2 * 0 + _ ≤ _; exact Nat.le_of_eq rfl) (hb hby at_20) (fun _ _ => ⟨rfl, e0, (by decide : 0 + 1 ≤ _), (by decide : 0 + 3 ≤ _)⟩)
      dsimp only [Pt.U, Pt.locs, Pt.cells, Pt.slots] at X23 l23 y23 z23 st23 hQ23
      subst l23 y23 z23
      obtain ⟨rfl, Nq23, E23⟩ := hQ23
      have N23 := Fr.app N0 Nq23
      refine Go.step st23 ?_
      have SL_q23 := SL.ext E23
      have SQ_q23 := SQ.ext E23
      have SS_q23 := SS.ext E23
      have FwL_q23 := FwL.ext E23
      have FwQ_q23 := FwQ.ext E23
      have FwS_q23 := FwS.ext E23
      have EwL_q23 := EwL.ext E23
      have EwQ_q23 := EwQ.ext E23
      have EwS_q23 := EwS.ext E23
      have Zs : n0 ≤ T23.heap.size := Nat.le_trans Z0 E23.1
      show Go p e below T23 (mkF m 23 #[.val (.int p0), .val (.int p1), .val (.int ((((p1.toUInt32 >>> ((1 : Int32) &&& 31).toUInt32).toInt32) &&& (7 : Int32)) - (2 : Int32))), .unset, .unset] [(.ref wL)]) _
      refine Go.step (fun _ => XS.astoreN X23.here hx rfl (hb hby at_23) rfl rfl (l' := #[.val (.int p0), .val (.int p1), .val (.int ((((p1.toUInt32 >>> ((1 : Int32) &&& 31).toUInt32).toInt32) &&& (7 : Int32)) - (2 : Int32))), .val (.ref wL), .unset]) rfl) ?_
      show Go p e below T23 (mkF m 24 #[.val (.int p0), .val (.int p1), .val (.int ((((p1.toUInt32 >>> ((1 : Int32) &&& 31).toUInt32).toInt32) &&& (7 : Int32)) - (2 : Int32))), .val (.ref wL), .unset] []) _
      refine Go.step (fun _ => XS.iloadN X23.here hx rfl (hb hby at_24) rfl ) ?_
      show Go p e below T23 (mkF m 25 #[.val (.int p0), .val (.int p1), .val (.int ((((p1.toUInt32 >>> ((1 : Int32) &&& 31).toUInt32).toInt32) &&& (7 : Int32)) - (2 : Int32))), .val (.ref wL), .unset] [(.int ((((p1.toUInt32 >>> ((1 : Int32) &&& 31).toUInt32).toInt32) &&& (7 : Int32)) - (2 : Int32)))]) _
      obtain ⟨_, _, ⟨T24, L24, k24, n24⟩, -, X24, ⟨Lc24, hQ24, l24, y24, z24⟩, st24⟩ := Jvm.LawKit.callS X23 hx (y := (⟨"com/example/tickwire/tickwire/feeds/smartapi/PacketOf247PinLaw", "expected", "(I)Lcom/example/tickwire/tickwire/feeds/smartapi/SmartApiDecoder$Packet;"⟩ : MethodName)) hown (mvT hZ (hw _ (List.mem_of_getElem? (i := 24) rfl))) (mvT hZ (hw _ (List.mem_of_getElem? (i := 25) rfl))) (mvT hZ (hw _ (List.mem_of_getElem? (i := 26) rfl))) (mvT hZ (hw _ (List.mem_of_getElem? (i := 27) rfl))) (by decide) (backOf (W := 0) (rm3 l Z a0 hw [] ((((p1.toUInt32 >>> ((1 : Int32) &&& 31).toUInt32).toInt32) &&& (7 : Int32)) - (2 : Int32)) wL wQ wS (.ref wL) T23.heap n0 Zs SL_q23 SQ_q23 SS_q23 (by rw [if_pos hk1])) hZ (hw _ (List.mem_of_getElem? (i := 27) rfl)) (hw _ (List.mem_of_getElem? (i := 26) rfl)) (by decide) (by decide)) (g := (mkF m 25 #[.val (.int p0), .val (.int p1), .val (.int ((((p1.toUInt32 >>> ((1 : Int32) &&& 31).toUInt32).toInt32) &&& (7 : Int32)) - (2 : Int32))), .val (.ref wL), .unset] [(.int ((((p1.toUInt32 >>> ((1 : Int32) &&& 31).toUInt32).toInt32) &&& (7 : Int32)) - (2 : Int32)))])) rfl (by rw [hml]; rfl) (argsL := [(.int ((((p1.toUInt32 >>> ((1 : Int32) &&& 31).toUInt32).toInt32) &&& (7 : Int32)) - (2 : Int32)))]) (rest := []) (lenOf pd_1 rfl) rfl (by show 2 * 0 + _ ≤ _; exact Nat.le_of_eq rfl) (hb hby at_25) (fun _ _ => ⟨rfl, rfl, (by decide : 0 + 1 + 0 ≤ _), (by decide : 0 + 3 + 0 ≤ _)⟩)
      dsimp only [Pt.U, Pt.locs, Pt.cells, Pt.slots] at X24 l24 y24 z24 st24 hQ24
      subst l24 y24 z24
      obtain ⟨rfl, Nq24, eh24⟩ := hQ24
      have N24 := Fr.app N23 Nq24
      refine Go.step st24 ?_
      show Go p e below T24 (mkF m 28 #[.val (.int p0), .val (.int p1), .val (.int ((((p1.toUInt32 >>> ((1 : Int32) &&& 31).toUInt32).toInt32) &&& (7 : Int32)) - (2 : Int32))), .val (.ref wL), .unset] [(.ref wL)]) _
      refine Go.step (fun _ => XS.astore X24.here hx rfl (hb hby at_28) rfl rfl (l' := #[.val (.int p0), .val (.int p1), .val (.int ((((p1.toUInt32 >>> ((1 : Int32) &&& 31).toUInt32).toInt32) &&& (7 : Int32)) - (2 : Int32))), .val (.ref wL), .val (.ref wL)]) rfl) ?_
      show Go p e below T24 (mkF m 30 #[.val (.int p0), .val (.int p1), .val (.int ((((p1.toUInt32 >>> ((1 : Int32) &&& 31).toUInt32).toInt32) &&& (7 : Int32)) - (2 : Int32))), .val (.ref wL), .val (.ref wL)] []) _
      refine Go.step (fun _ => XS.aloadN X24.here hx rfl (hb hby at_30) rfl rfl ) ?_
      show Go p e below T24 (mkF m 31 #[.val (.int p0), .val (.int p1), .val (.int ((((p1.toUInt32 >>> ((1 : Int32) &&& 31).toUInt32).toInt32) &&& (7 : Int32)) - (2 : Int32))), .val (.ref wL), .val (.ref wL)] [(.ref wL)]) _
      refine Go.step (fun _ => XS.aload X24.here hx rfl (hb hby at_31) rfl rfl ) ?_
      show Go p e below T24 (mkF m 33 #[.val (.int p0), .val (.int p1), .val (.int ((((p1.toUInt32 >>> ((1 : Int32) &&& 31).toUInt32).toInt32) &&& (7 : Int32)) - (2 : Int32))), .val (.ref wL), .val (.ref wL)] [(.ref wL), (.ref wL)]) _
      refine Go.step (fun _ => Jvm.RoadKit.acmp (g := (mkF m 33 #[.val (.int p0), .val (.int p1), .val (.int ((((p1.toUInt32 >>> ((1 : Int32) &&& 31).toUInt32).toInt32) &&& (7 : Int32)) - (2 : Int32))), .val (.ref wL), .val (.ref wL)] [(.ref wL), (.ref wL)])) X24 hx rfl rfl rfl (pc0 := 33) (pc' := 38) (same := true) rfl (hb hby at_33) rfl (decide_eq_true rfl) (by decide) (by decide)) ?_
      show Go p e below T24 (mkF m 38 #[.val (.int p0), .val (.int p1), .val (.int ((((p1.toUInt32 >>> ((1 : Int32) &&& 31).toUInt32).toInt32) &&& (7 : Int32)) - (2 : Int32))), .val (.ref wL), .val (.ref wL)] []) _
      refine Go.step (fun _ => XS.aloadN X24.here hx rfl (hb hby at_38) rfl rfl ) ?_
      show Go p e below T24 (mkF m 39 #[.val (.int p0), .val (.int p1), .val (.int ((((p1.toUInt32 >>> ((1 : Int32) &&& 31).toUInt32).toInt32) &&& (7 : Int32)) - (2 : Int32))), .val (.ref wL), .val (.ref wL)] [(.ref wL)]) _
      refine Go.step (fun _ => XS.ifnullNo X24.here hx rfl (hb hby at_39) rfl) ?_
      show Go p e below T24 (mkF m 42 #[.val (.int p0), .val (.int p1), .val (.int ((((p1.toUInt32 >>> ((1 : Int32) &&& 31).toUInt32).toInt32) &&& (7 : Int32)) - (2 : Int32))), .val (.ref wL), .val (.ref wL)] []) _
      refine Go.step (fun _ => XS.aloadN X24.here hx rfl (hb hby at_42) rfl rfl ) ?_
      show Go p e below T24 (mkF m 43 #[.val (.int p0), .val (.int p1), .val (.int ((((p1.toUInt32 >>> ((1 : Int32) &&& 31).toUInt32).toInt32) &&& (7 : Int32)) - (2 : Int32))), .val (.ref wL), .val (.ref wL)] [(.ref wL)]) _
      obtain ⟨cq25, kq25, q25a, q25b, q25c⟩ := isOf hZ eh24 EwL_q23
      obtain ⟨_, _, ⟨T25, L25, k25, n25⟩, -, X25, ⟨Lc25, hQ25, l25, y25, z25⟩, st25⟩ := X24.virtualBack hx (y := (⟨"com/example/tickwire/tickwire/feeds/smartapi/SmartApiDecoder$Packet", "number", "()I"⟩ : MethodName)) (z := (⟨"com/example/tickwire/tickwire/feeds/smartapi/SmartApiDecoder$Packet", "number", "()I"⟩ : MethodName)) hown (mvT hZ (hw _ (List.mem_of_getElem? (i := 29) rfl))) (mvT hZ (hw _ (List.mem_of_getElem? (i := 30) rfl))) (notFace_of_selects (args := #[]) (mvT hZ (hw _ (List.mem_of_getElem? (i := 32) rfl)))) (mvT hZ (hw _ (List.mem_of_getElem? (i := 32) rfl))) (mvT hZ (hw _ (List.mem_of_getElem? (i := 31) rfl))) (by decide) (backOf (W := 0) (rm4 l Z a0 hw [] wL 1 T23.heap n0 Zs FwL_q23) hZ (hw _ (List.mem_of_getElem? (i := 33) rfl)) (hw _ (List.mem_of_getElem? (i := 2) rfl)) (by decide) (by decide)) q25a q25c (g := (mkF m 43 #[.val (.int p0), .val (.int p1), .val (.int ((((p1.toUInt32 >>> ((1 : Int32) &&& 31).toUInt32).toInt32) &&& (7 : Int32)) - (2 : Int32))), .val (.ref wL), .val (.ref wL)] [(.ref wL)])) rfl (by rw [hml]; rfl) (Steps.refl _) (argsL := []) (rest := []) (lenOf pd_2 rfl) rfl (by show 2 * 0 + _ ≤ _; exact Nat.le_of_eq rfl) (hb hby at_43) (fun _ _ => ⟨rfl, eh24, (by decide : 0 + 1 + 0 + 0 ≤ _), (by decide : 0 + 3 + 0 + 0 ≤ _)⟩)
      dsimp only [Pt.U, Pt.locs, Pt.cells, Pt.slots] at X25 l25 y25 z25 st25 hQ25
      subst l25 y25 z25
      obtain ⟨rfl, Nq25, ei25⟩ := hQ25
      have N25 := Fr.app N24 Nq25
      refine Go.call st25 ?_
      show Go p e below T25 (mkF m 46 #[.val (.int p0), .val (.int p1), .val (.int ((((p1.toUInt32 >>> ((1 : Int32) &&& 31).toUInt32).toInt32) &&& (7 : Int32)) - (2 : Int32))), .val (.ref wL), .val (.ref wL)] [(.int (1 : Int32))]) _
      refine Go.step (fun _ => XS.iloadN X25.here hx rfl (hb hby at_46) rfl ) ?_
      show Go p e below T25 (mkF m 47 #[.val (.int p0), .val (.int p1), .val (.int ((((p1.toUInt32 >>> ((1 : Int32) &&& 31).toUInt32).toInt32) &&& (7 : Int32)) - (2 : Int32))), .val (.ref wL), .val (.ref wL)] [(.int ((((p1.toUInt32 >>> ((1 : Int32) &&& 31).toUInt32).toInt32) &&& (7 : Int32)) - (2 : Int32))), (.int (1 : Int32))]) _
      refine Go.step (fun _ => XS.icmpYes X25.here hx rfl (pc0 := 47) (pc' := 52) rfl (hb hby at_47) rfl (teq hk1.symm).1 (by decide) (by decide)) ?_
      show Go p e below T25 (mkF m 52 #[.val (.int p0), .val (.int p1), .val (.int ((((p1.toUInt32 >>> ((1 : Int32) &&& 31).toUInt32).toInt32) &&& (7 : Int32)) - (2 : Int32))), .val (.ref wL), .val (.ref wL)] []) _
      refine Go.step (fun _ => XS.iconst X25.here hx rfl (hb hby at_52)) ?_
      show Go p e below T25 (mkF m 53 #[.val (.int p0), .val (.int p1), .val (.int ((((p1.toUInt32 >>> ((1 : Int32) &&& 31).toUInt32).toInt32) &&& (7 : Int32)) - (2 : Int32))), .val (.ref wL), .val (.ref wL)] [(.int (1 : Int32))]) _
      refine Go.retN (t := .boolean) (z' := (1 : Int32)) X25 hx hret (by simp) hlk (hb hby at_53) (by decide) ?_ (by decide) (by decide)
      exact ⟨rfl, N25⟩
    by_cases hk2 : ((((p1.toUInt32 >>> ((1 : Int32) &&& 31).toUInt32).toInt32) &&& (7 : Int32)) - (2 : Int32)) = 2
    · skip
      show Go p e below s₁ (mkF m 19 #[.val (.int p0), .val (.int p1), .val (.int ((((p1.toUInt32 >>> ((1 : Int32) &&& 31).toUInt32).toInt32) &&& (7 : Int32)) - (2 : Int32))), .unset, .unset] []) _
      refine Go.step (fun _ => XS.iloadN X0.here hx rfl (hb hby at_19) rfl ) ?_
      show Go p e below s₁ (mkF m 20 #[.val (.int p0), .val (.int p1), .val (.int ((((p1.toUInt32 >>> ((1 : Int32) &&& 31).toUInt32).toInt32) &&& (7 : Int32)) - (2 : Int32))), .unset, .unset] [(.int ((((p1.toUInt32 >>> ((1 : Int32) &&& 31).toUInt32).toInt32) &&& (7 : Int32)) - (2 : Int32)))]) _
      obtain ⟨_, _, ⟨T26, L26, k26, n26⟩, -, X26, ⟨Lc26, hQ26, l26, y26, z26⟩, st26⟩ := Jvm.LawKit.callS X0 hx (y := (⟨"com/example/tickwire/tickwire/feeds/smartapi/SmartApiDecoder$Packet", "of", "(I)Lcom/example/tickwire/tickwire/feeds/smartapi/SmartApiDecoder$Packet;"⟩ : MethodName)) hown (mvT hZ (hw _ (List.mem_of_getElem? (i := 0) rfl))) (mvT hZ (hw _ (List.mem_of_getElem? (i := 1) rfl))) (mvT hZ (hw _ (List.mem_of_getElem? (i := 2) rfl))) (mvT hZ (hw _ (List.mem_of_getElem? (i := 3) rfl))) (by decide) (backOf (W := 0) (rm1 l Z a0 hw [] ((((p1.toUInt32 >>> ((1 : Int32) &&& 31).toUInt32).toInt32) &&& (7 : Int32)) - (2 : Int32)) wV cl wL wQ wS (.ref wQ) h0 n0 Z0 SV AV EV FV hsz hlen at0 at1 at2 FwL FwQ FwS (by rw [if_neg hk1, if_pos hk2])) hZ (hw _ (List.mem_of_getElem? (i := 3) rfl)) (hw _ (List.mem_of_getElem? (i := 2) rfl)) (by decide) (by decide)) (g := (mkF m 20 #[.val (.int p0), .val (.int p1), .val (.int ((((p1.toUInt32 >>> ((1 : Int32) &&& 31).toUInt32).toInt32) &&& (7 : Int32)) - (2 : Int32))), .unset, .unset] [(.int ((((p1.toUInt32 >>> ((1 : Int32) &&& 31).toUInt32).toInt32) &&& (7 : Int32)) - (2 : Int32)))])) rfl (by rw [hml]; rfl) (argsL := [(.int ((((p1.toUInt32 >>> ((1 : Int32) &&& 31).toUInt32).toInt32) &&& (7 : Int32)) - (2 : Int32)))]) (rest := []) (lenOf pd_1 rfl) rfl (by show 2 * 0 + _ ≤ _; exact Nat.le_of_eq rfl) (hb hby at_20) (fun _ _ => ⟨rfl, e0, (by decide : 0 + 1 ≤ _), (by decide : 0 + 3 ≤ _)⟩)
      dsimp only [Pt.U, Pt.locs, Pt.cells, Pt.slots] at X26 l26 y26 z26 st26 hQ26
      subst l26 y26 z26
      obtain ⟨rfl, Nq26, E26⟩ := hQ26
      have N26 := Fr.app N0 Nq26
      refine Go.step st26 ?_
      have SL_q26 := SL.ext E26
      have SQ_q26 := SQ.ext E26
      have SS_q26 := SS.ext E26
      have FwL_q26 := FwL.ext E26
      have FwQ_q26 := FwQ.ext E26
      have FwS_q26 := FwS.ext E26
      have EwL_q26 := EwL.ext E26
      have EwQ_q26 := EwQ.ext E26
      have EwS_q26 := EwS.ext E26
      have Zs : n0 ≤ T26.heap.size := Nat.le_trans Z0 E26.1
      show Go p e below T26 (mkF m 23 #[.val (.int p0), .val (.int p1), .val (.int ((((p1.toUInt32 >>> ((1 : Int32) &&& 31).toUInt32).toInt32) &&& (7 : Int32)) - (2 : Int32))), .unset, .unset] [(.ref wQ)]) _
      refine Go.step (fun _ => XS.astoreN X26.here hx rfl (hb hby at_23) rfl rfl (l' := #[.val (.int p0), .val (.int p1), .val (.int ((((p1.toUInt32 >>> ((1 : Int32) &&& 31).toUInt32).toInt32) &&& (7 : Int32)) - (2 : Int32))), .val (.ref wQ), .unset]) rfl) ?_
      show Go p e below T26 (mkF m 24 #[.val (.int p0), .val (.int p1), .val (.int ((((p1.toUInt32 >>> ((1 : Int32) &&& 31).toUInt32).toInt32) &&& (7 : Int32)) - (2 : Int32))), .val (.ref wQ), .unset] []) _
      refine Go.step (fun _ => XS.iloadN X26.here hx rfl (hb hby at_24) rfl ) ?_
      show Go p e below T26 (mkF m 25 #[.val (.int p0), .val (.int p1), .val (.int ((((p1.toUInt32 >>> ((1 : Int32) &&& 31).toUInt32).toInt32) &&& (7 : Int32)) - (2 : Int32))), .val (.ref wQ), .unset] [(.int ((((p1.toUInt32 >>> ((1 : Int32) &&& 31).toUInt32).toInt32) &&& (7 : Int32)) - (2 : Int32)))]) _
      obtain ⟨_, _, ⟨T27, L27, k27, n27⟩, -, X27, ⟨Lc27, hQ27, l27, y27, z27⟩, st27⟩ := Jvm.LawKit.callS X26 hx (y := (⟨"com/example/tickwire/tickwire/feeds/smartapi/PacketOf247PinLaw", "expected", "(I)Lcom/example/tickwire/tickwire/feeds/smartapi/SmartApiDecoder$Packet;"⟩ : MethodName)) hown (mvT hZ (hw _ (List.mem_of_getElem? (i := 24) rfl))) (mvT hZ (hw _ (List.mem_of_getElem? (i := 25) rfl))) (mvT hZ (hw _ (List.mem_of_getElem? (i := 26) rfl))) (mvT hZ (hw _ (List.mem_of_getElem? (i := 27) rfl))) (by decide) (backOf (W := 0) (rm3 l Z a0 hw [] ((((p1.toUInt32 >>> ((1 : Int32) &&& 31).toUInt32).toInt32) &&& (7 : Int32)) - (2 : Int32)) wL wQ wS (.ref wQ) T26.heap n0 Zs SL_q26 SQ_q26 SS_q26 (by rw [if_neg hk1, if_pos hk2])) hZ (hw _ (List.mem_of_getElem? (i := 27) rfl)) (hw _ (List.mem_of_getElem? (i := 26) rfl)) (by decide) (by decide)) (g := (mkF m 25 #[.val (.int p0), .val (.int p1), .val (.int ((((p1.toUInt32 >>> ((1 : Int32) &&& 31).toUInt32).toInt32) &&& (7 : Int32)) - (2 : Int32))), .val (.ref wQ), .unset] [(.int ((((p1.toUInt32 >>> ((1 : Int32) &&& 31).toUInt32).toInt32) &&& (7 : Int32)) - (2 : Int32)))])) rfl (by rw [hml]; rfl) (argsL := [(.int ((((p1.toUInt32 >>> ((1 : Int32) &&& 31).toUInt32).toInt32) &&& (7 : Int32)) - (2 : Int32)))]) (rest := []) (lenOf pd_1 rfl) rfl (by show 2 * 0 + _ ≤ _; exact Nat.le_of_eq rfl) (hb hby at_25) (fun _ _ => ⟨rfl, rfl, (by decide : 0 + 1 + 0 ≤ _), (by decide : 0 + 3 + 0 ≤ _)⟩)
      dsimp only [Pt.U, Pt.locs, Pt.cells, Pt.slots] at X27 l27 y27 z27 st27 hQ27
      subst l27 y27 z27
      obtain ⟨rfl, Nq27, eh27⟩ := hQ27
      have N27 := Fr.app N26 Nq27
      refine Go.step st27 ?_
      show Go p e below T27 (mkF m 28 #[.val (.int p0), .val (.int p1), .val (.int ((((p1.toUInt32 >>> ((1 : Int32) &&& 31).toUInt32).toInt32) &&& (7 : Int32)) - (2 : Int32))), .val (.ref wQ), .unset] [(.ref wQ)]) _
      refine Go.step (fun _ => XS.astore X27.here hx rfl (hb hby at_28) rfl rfl (l' := #[.val (.int p0), .val (.int p1), .val (.int ((((p1.toUInt32 >>> ((1 : Int32) &&& 31).toUInt32).toInt32) &&& (7 : Int32)) - (2 : Int32))), .val (.ref wQ), .val (.ref wQ)]) rfl) ?_
      show Go p e below T27 (mkF m 30 #[.val (.int p0), .val (.int p1), .val (.int ((((p1.toUInt32 >>> ((1 : Int32) &&& 31).toUInt32).toInt32) &&& (7 : Int32)) - (2 : Int32))), .val (.ref wQ), .val (.ref wQ)] []) _
      refine Go.step (fun _ => XS.aloadN X27.here hx rfl (hb hby at_30) rfl rfl ) ?_
      show Go p e below T27 (mkF m 31 #[.val (.int p0), .val (.int p1), .val (.int ((((p1.toUInt32 >>> ((1 : Int32) &&& 31).toUInt32).toInt32) &&& (7 : Int32)) - (2 : Int32))), .val (.ref wQ), .val (.ref wQ)] [(.ref wQ)]) _
      refine Go.step (fun _ => XS.aload X27.here hx rfl (hb hby at_31) rfl rfl ) ?_
      show Go p e below T27 (mkF m 33 #[.val (.int p0), .val (.int p1), .val (.int ((((p1.toUInt32 >>> ((1 : Int32) &&& 31).toUInt32).toInt32) &&& (7 : Int32)) - (2 : Int32))), .val (.ref wQ), .val (.ref wQ)] [(.ref wQ), (.ref wQ)]) _
      refine Go.step (fun _ => Jvm.RoadKit.acmp (g := (mkF m 33 #[.val (.int p0), .val (.int p1), .val (.int ((((p1.toUInt32 >>> ((1 : Int32) &&& 31).toUInt32).toInt32) &&& (7 : Int32)) - (2 : Int32))), .val (.ref wQ), .val (.ref wQ)] [(.ref wQ), (.ref wQ)])) X27 hx rfl rfl rfl (pc0 := 33) (pc' := 38) (same := true) rfl (hb hby at_33) rfl (decide_eq_true rfl) (by decide) (by decide)) ?_
      show Go p e below T27 (mkF m 38 #[.val (.int p0), .val (.int p1), .val (.int ((((p1.toUInt32 >>> ((1 : Int32) &&& 31).toUInt32).toInt32) &&& (7 : Int32)) - (2 : Int32))), .val (.ref wQ), .val (.ref wQ)] []) _
      refine Go.step (fun _ => XS.aloadN X27.here hx rfl (hb hby at_38) rfl rfl ) ?_
      show Go p e below T27 (mkF m 39 #[.val (.int p0), .val (.int p1), .val (.int ((((p1.toUInt32 >>> ((1 : Int32) &&& 31).toUInt32).toInt32) &&& (7 : Int32)) - (2 : Int32))), .val (.ref wQ), .val (.ref wQ)] [(.ref wQ)]) _
      refine Go.step (fun _ => XS.ifnullNo X27.here hx rfl (hb hby at_39) rfl) ?_
      show Go p e below T27 (mkF m 42 #[.val (.int p0), .val (.int p1), .val (.int ((((p1.toUInt32 >>> ((1 : Int32) &&& 31).toUInt32).toInt32) &&& (7 : Int32)) - (2 : Int32))), .val (.ref wQ), .val (.ref wQ)] []) _
      refine Go.step (fun _ => XS.aloadN X27.here hx rfl (hb hby at_42) rfl rfl ) ?_
      show Go p e below T27 (mkF m 43 #[.val (.int p0), .val (.int p1), .val (.int ((((p1.toUInt32 >>> ((1 : Int32) &&& 31).toUInt32).toInt32) &&& (7 : Int32)) - (2 : Int32))), .val (.ref wQ), .val (.ref wQ)] [(.ref wQ)]) _
      obtain ⟨cq28, kq28, q28a, q28b, q28c⟩ := isOf hZ eh27 EwQ_q26
      obtain ⟨_, _, ⟨T28, L28, k28, n28⟩, -, X28, ⟨Lc28, hQ28, l28, y28, z28⟩, st28⟩ := X27.virtualBack hx (y := (⟨"com/example/tickwire/tickwire/feeds/smartapi/SmartApiDecoder$Packet", "number", "()I"⟩ : MethodName)) (z := (⟨"com/example/tickwire/tickwire/feeds/smartapi/SmartApiDecoder$Packet", "number", "()I"⟩ : MethodName)) hown (mvT hZ (hw _ (List.mem_of_getElem? (i := 29) rfl))) (mvT hZ (hw _ (List.mem_of_getElem? (i := 30) rfl))) (notFace_of_selects (args := #[]) (mvT hZ (hw _ (List.mem_of_getElem? (i := 32) rfl)))) (mvT hZ (hw _ (List.mem_of_getElem? (i := 32) rfl))) (mvT hZ (hw _ (List.mem_of_getElem? (i := 31) rfl))) (by decide) (backOf (W := 0) (rm4 l Z a0 hw [] wQ 2 T26.heap n0 Zs FwQ_q26) hZ (hw _ (List.mem_of_getElem? (i := 33) rfl)) (hw _ (List.mem_of_getElem? (i := 2) rfl)) (by decide) (by decide)) q28a q28c (g := (mkF m 43 #[.val (.int p0), .val (.int p1), .val (.int ((((p1.toUInt32 >>> ((1 : Int32) &&& 31).toUInt32).toInt32) &&& (7 : Int32)) - (2 : Int32))), .val (.ref wQ), .val (.ref wQ)] [(.ref wQ)])) rfl (by rw [hml]; rfl) (Steps.refl _) (argsL := []) (rest := []) (lenOf pd_2 rfl) rfl (by show 2 * 0 + _ ≤ _; exact Nat.le_of_eq rfl) (hb hby at_43) (fun _ _ => ⟨rfl, eh27, (by decide : 0 + 1 + 0 + 0 ≤ _), (by decide : 0 + 3 + 0 + 0 ≤ _)⟩)
      dsimp only [Pt.U, Pt.locs, Pt.cells, Pt.slots] at X28 l28 y28 z28 st28 hQ28
      subst l28 y28 z28
      obtain ⟨rfl, Nq28, ei28⟩ := hQ28
      have N28 := Fr.app N27 Nq28
      refine Go.call st28 ?_
      show Go p e below T28 (mkF m 46 #[.val (.int p0), .val (.int p1), .val (.int ((((p1.toUInt32 >>> ((1 : Int32) &&& 31).toUInt32).toInt32) &&& (7 : Int32)) - (2 : Int32))), .val (.ref wQ), .val (.ref wQ)] [(.int (2 : Int32))]) _
      refine Go.step (fun _ => XS.iloadN X28.here hx rfl (hb hby at_46) rfl ) ?_
      show Go p e below T28 (mkF m 47 #[.val (.int p0), .val (.int p1), .val (.int ((((p1.toUInt32 >>> ((1 : Int32) &&& 31).toUInt32).toInt32) &&& (7 : Int32)) - (2 : Int32))), .val (.ref wQ), .val (.ref wQ)] [(.int ((((p1.toUInt32 >>> ((1 : Int32) &&& 31).toUInt32).toInt32) &&& (7 : Int32)) - (2 : Int32))), (.int (2 : Int32))]) _
      refine Go.step (fun _ => XS.icmpYes X28.here hx rfl (pc0 := 47) (pc' := 52) rfl (hb hby at_47) rfl (teq hk2.symm).1 (by decide) (by decide)) ?_
      show Go p e below T28 (mkF m 52 #[.val (.int p0), .val (.int p1), .val (.int ((((p1.toUInt32 >>> ((1 : Int32) &&& 31).toUInt32).toInt32) &&& (7 : Int32)) - (2 : Int32))), .val (.ref wQ), .val (.ref wQ)] []) _
      refine Go.step (fun _ => XS.iconst X28.here hx rfl (hb hby at_52)) ?_
      show Go p e below T28 (mkF m 53 #[.val (.int p0), .val (.int p1), .val (.int ((((p1.toUInt32 >>> ((1 : Int32) &&& 31).toUInt32).toInt32) &&& (7 : Int32)) - (2 : Int32))), .val (.ref wQ), .val (.ref wQ)] [(.int (1 : Int32))]) _
      refine Go.retN (t := .boolean) (z' := (1 : Int32)) X28 hx hret (by simp) hlk (hb hby at_53) (by decide) ?_ (by decide) (by decide)
      exact ⟨rfl, N28⟩
    by_cases hk3 : ((((p1.toUInt32 >>> ((1 : Int32) &&& 31).toUInt32).toInt32) &&& (7 : Int32)) - (2 : Int32)) = 3
    · skip
      show Go p e below s₁ (mkF m 19 #[.val (.int p0), .val (.int p1), .val (.int ((((p1.toUInt32 >>> ((1 : Int32) &&& 31).toUInt32).toInt32) &&& (7 : Int32)) - (2 : Int32))), .unset, .unset] []) _
      refine Go.step (fun _ => XS.iloadN X0.here hx rfl (hb hby at_19) rfl ) ?_
      show Go p e below s₁ (mkF m 20 #[.val (.int p0), .val (.int p1), .val (.int ((((p1.toUInt32 >>> ((1 : Int32) &&& 31).toUInt32).toInt32) &&& (7 : Int32)) - (2 : Int32))), .unset, .unset] [(.int ((((p1.toUInt32 >>> ((1 : Int32) &&& 31).toUInt32).toInt32) &&& (7 : Int32)) - (2 : Int32)))]) _
      obtain ⟨_, _, ⟨T29, L29, k29, n29⟩, -, X29, ⟨Lc29, hQ29, l29, y29, z29⟩, st29⟩ := Jvm.LawKit.callS X0 hx (y := (⟨"com/example/tickwire/tickwire/feeds/smartapi/SmartApiDecoder$Packet", "of", "(I)Lcom/example/tickwire/tickwire/feeds/smartapi/SmartApiDecoder$Packet;"⟩ : MethodName)) hown (mvT hZ (hw _ (List.mem_of_getElem? (i := 0) rfl))) (mvT hZ (hw _ (List.mem_of_getElem? (i := 1) rfl))) (mvT hZ (hw _ (List.mem_of_getElem? (i := 2) rfl))) (mvT hZ (hw _ (List.mem_of_getElem? (i := 3) rfl))) (by decide) (backOf (W := 0) (rm1 l Z a0 hw [] ((((p1.toUInt32 >>> ((1 : Int32) &&& 31).toUInt32).toInt32) &&& (7 : Int32)) - (2 : Int32)) wV cl wL wQ wS (.ref wS) h0 n0 Z0 SV AV EV FV hsz hlen at0 at1 at2 FwL FwQ FwS (by rw [if_neg hk1, if_neg hk2, if_pos hk3])) hZ (hw _ (List.mem_of_getElem? (i := 3) rfl)) (hw _ (List.mem_of_getElem? (i := 2) rfl)) (by decide) (by decide)) (g := (mkF m 20 #[.val (.int p0), .val (.int p1), .val (.int ((((p1.toUInt32 >>> ((1 : Int32) &&& 31).toUInt32).toInt32) &&& (7 : Int32)) - (2 : Int32))), .unset, .unset] [(.int ((((p1.toUInt32 >>> ((1 : Int32) &&& 31).toUInt32).toInt32) &&& (7 : Int32)) - (2 : Int32)))])) rfl (by rw [hml]; rfl) (argsL := [(.int ((((p1.toUInt32 >>> ((1 : Int32) &&& 31).toUInt32).toInt32) &&& (7 : Int32)) - (2 : Int32)))]) (rest := []) (lenOf pd_1 rfl) rfl (by show 2 * 0 + _ ≤ _; exact Nat.le_of_eq rfl) (hb hby at_20) (fun _ _ => ⟨rfl, e0, (by decide : 0 + 1 ≤ _), (by decide : 0 + 3 ≤ _)⟩)
      dsimp only [Pt.U, Pt.locs, Pt.cells, Pt.slots] at X29 l29 y29 z29 st29 hQ29
      subst l29 y29 z29
      obtain ⟨rfl, Nq29, E29⟩ := hQ29
      have N29 := Fr.app N0 Nq29
      refine Go.step st29 ?_
      have SL_q29 := SL.ext E29
      have SQ_q29 := SQ.ext E29
      have SS_q29 := SS.ext E29
      have FwL_q29 := FwL.ext E29
      have FwQ_q29 := FwQ.ext E29
      have FwS_q29 := FwS.ext E29
      have EwL_q29 := EwL.ext E29
      have EwQ_q29 := EwQ.ext E29
      have EwS_q29 := EwS.ext E29
      have Zs : n0 ≤ T29.heap.size := Nat.le_trans Z0 E29.1
      show Go p e below T29 (mkF m 23 #[.val (.int p0), .val (.int p1), .val (.int ((((p1.toUInt32 >>> ((1 : Int32) &&& 31).toUInt32).toInt32) &&& (7 : Int32)) - (2 : Int32))), .unset, .unset] [(.ref wS)]) _
      refine Go.step (fun _ => XS.astoreN X29.here hx rfl (hb hby at_23) rfl rfl (l' := #[.val (.int p0), .val (.int p1), .val (.int ((((p1.toUInt32 >>> ((1 : Int32) &&& 31).toUInt32).toInt32) &&& (7 : Int32)) - (2 : Int32))), .val (.ref wS), .unset]) rfl) ?_
      show Go p e below T29 (mkF m 24 #[.val (.int p0), .val (.int p1), .val (.int ((((p1.toUInt32 >>> ((1 : Int32) &&& 31).toUInt32).toInt32) &&& (7 : Int32)) - (2 : Int32))), .val (.ref wS), .unset] []) _
      refine Go.step (fun _ => XS.iloadN X29.here hx rfl (hb hby at_24) rfl ) ?_
      show Go p e below T29 (mkF m 25 #[.val (.int p0), .val (.int p1), .val (.int ((((p1.toUInt32 >>> ((1 : Int32) &&& 31).toUInt32).toInt32) &&& (7 : Int32)) - (2 : Int32))), .val (.ref wS), .unset] [(.int ((((p1.toUInt32 >>> ((1 : Int32) &&& 31).toUInt32).toInt32) &&& (7 : Int32)) - (2 : Int32)))]) _
      obtain ⟨_, _, ⟨T30, L30, k30, n30⟩, -, X30, ⟨Lc30, hQ30, l30, y30, z30⟩, st30⟩ := Jvm.LawKit.callS X29 hx (y := (⟨"com/example/tickwire/tickwire/feeds/smartapi/PacketOf247PinLaw", "expected", "(I)Lcom/example/tickwire/tickwire/feeds/smartapi/SmartApiDecoder$Packet;"⟩ : MethodName)) hown (mvT hZ (hw _ (List.mem_of_getElem? (i := 24) rfl))) (mvT hZ (hw _ (List.mem_of_getElem? (i := 25) rfl))) (mvT hZ (hw _ (List.mem_of_getElem? (i := 26) rfl))) (mvT hZ (hw _ (List.mem_of_getElem? (i := 27) rfl))) (by decide) (backOf (W := 0) (rm3 l Z a0 hw [] ((((p1.toUInt32 >>> ((1 : Int32) &&& 31).toUInt32).toInt32) &&& (7 : Int32)) - (2 : Int32)) wL wQ wS (.ref wS) T29.heap n0 Zs SL_q29 SQ_q29 SS_q29 (by rw [if_neg hk1, if_neg hk2, if_pos hk3])) hZ (hw _ (List.mem_of_getElem? (i := 27) rfl)) (hw _ (List.mem_of_getElem? (i := 26) rfl)) (by decide) (by decide)) (g := (mkF m 25 #[.val (.int p0), .val (.int p1), .val (.int ((((p1.toUInt32 >>> ((1 : Int32) &&& 31).toUInt32).toInt32) &&& (7 : Int32)) - (2 : Int32))), .val (.ref wS), .unset] [(.int ((((p1.toUInt32 >>> ((1 : Int32) &&& 31).toUInt32).toInt32) &&& (7 : Int32)) - (2 : Int32)))])) rfl (by rw [hml]; rfl) (argsL := [(.int ((((p1.toUInt32 >>> ((1 : Int32) &&& 31).toUInt32).toInt32) &&& (7 : Int32)) - (2 : Int32)))]) (rest := []) (lenOf pd_1 rfl) rfl (by show 2 * 0 + _ ≤ _; exact Nat.le_of_eq rfl) (hb hby at_25) (fun _ _ => ⟨rfl, rfl, (by decide : 0 + 1 + 0 ≤ _), (by decide : 0 + 3 + 0 ≤ _)⟩)
      dsimp only [Pt.U, Pt.locs, Pt.cells, Pt.slots] at X30 l30 y30 z30 st30 hQ30
      subst l30 y30 z30
      obtain ⟨rfl, Nq30, eh30⟩ := hQ30
      have N30 := Fr.app N29 Nq30
      refine Go.step st30 ?_
      show Go p e below T30 (mkF m 28 #[.val (.int p0), .val (.int p1), .val (.int ((((p1.toUInt32 >>> ((1 : Int32) &&& 31).toUInt32).toInt32) &&& (7 : Int32)) - (2 : Int32))), .val (.ref wS), .unset] [(.ref wS)]) _
      refine Go.step (fun _ => XS.astore X30.here hx rfl (hb hby at_28) rfl rfl (l' := #[.val (.int p0), .val (.int p1), .val (.int ((((p1.toUInt32 >>> ((1 : Int32) &&& 31).toUInt32).toInt32) &&& (7 : Int32)) - (2 : Int32))), .val (.ref wS), .val (.ref wS)]) rfl) ?_
      show Go p e below T30 (mkF m 30 #[.val (.int p0), .val (.int p1), .val (.int ((((p1.toUInt32 >>> ((1 : Int32) &&& 31).toUInt32).toInt32) &&& (7 : Int32)) - (2 : Int32))), .val (.ref wS), .val (.ref wS)] []) _
      refine Go.step (fun _ => XS.aloadN X30.here hx rfl (hb hby at_30) rfl rfl ) ?_
      show Go p e below T30 (mkF m 31 #[.val (.int p0), .val (.int p1), .val (.int ((((p1.toUInt32 >>> ((1 : Int32) &&& 31).toUInt32).toInt32) &&& (7 : Int32)) - (2 : Int32))), .val (.ref wS), .val (.ref wS)] [(.ref wS)]) _
      refine Go.step (fun _ => XS.aload X30.here hx rfl (hb hby at_31) rfl rfl ) ?_
      show Go p e below T30 (mkF m 33 #[.val (.int p0), .val (.int p1), .val (.int ((((p1.toUInt32 >>> ((1 : Int32) &&& 31).toUInt32).toInt32) &&& (7 : Int32)) - (2 : Int32))), .val (.ref wS), .val (.ref wS)] [(.ref wS), (.ref wS)]) _
      refine Go.step (fun _ => Jvm.RoadKit.acmp (g := (mkF m 33 #[.val (.int p0), .val (.int p1), .val (.int ((((p1.toUInt32 >>> ((1 : Int32) &&& 31).toUInt32).toInt32) &&& (7 : Int32)) - (2 : Int32))), .val (.ref wS), .val (.ref wS)] [(.ref wS), (.ref wS)])) X30 hx rfl rfl rfl (pc0 := 33) (pc' := 38) (same := true) rfl (hb hby at_33) rfl (decide_eq_true rfl) (by decide) (by decide)) ?_
      show Go p e below T30 (mkF m 38 #[.val (.int p0), .val (.int p1), .val (.int ((((p1.toUInt32 >>> ((1 : Int32) &&& 31).toUInt32).toInt32) &&& (7 : Int32)) - (2 : Int32))), .val (.ref wS), .val (.ref wS)] []) _
      refine Go.step (fun _ => XS.aloadN X30.here hx rfl (hb hby at_38) rfl rfl ) ?_
      show Go p e below T30 (mkF m 39 #[.val (.int p0), .val (.int p1), .val (.int ((((p1.toUInt32 >>> ((1 : Int32) &&& 31).toUInt32).toInt32) &&& (7 : Int32)) - (2 : Int32))), .val (.ref wS), .val (.ref wS)] [(.ref wS)]) _
      refine Go.step (fun _ => XS.ifnullNo X30.here hx rfl (hb hby at_39) rfl) ?_
      show Go p e below T30 (mkF m 42 #[.val (.int p0), .val (.int p1), .val (.int ((((p1.toUInt32 >>> ((1 : Int32) &&& 31).toUInt32).toInt32) &&& (7 : Int32)) - (2 : Int32))), .val (.ref wS), .val (.ref wS)] []) _
      refine Go.step (fun _ => XS.aloadN X30.here hx rfl (hb hby at_42) rfl rfl ) ?_
      show Go p e below T30 (mkF m 43 #[.val (.int p0), .val (.int p1), .val (.int ((((p1.toUInt32 >>> ((1 : Int32) &&& 31).toUInt32).toInt32) &&& (7 : Int32)) - (2 : Int32))), .val (.ref wS), .val (.ref wS)] [(.ref wS)]) _
      obtain ⟨cq31, kq31, q31a, q31b, q31c⟩ := isOf hZ eh30 EwS_q29
      obtain ⟨_, _, ⟨T31, L31, k31, n31⟩, -, X31, ⟨Lc31, hQ31, l31, y31, z31⟩, st31⟩ := X30.virtualBack hx (y := (⟨"com/example/tickwire/tickwire/feeds/smartapi/SmartApiDecoder$Packet", "number", "()I"⟩ : MethodName)) (z := (⟨"com/example/tickwire/tickwire/feeds/smartapi/SmartApiDecoder$Packet", "number", "()I"⟩ : MethodName)) hown (mvT hZ (hw _ (List.mem_of_getElem? (i := 29) rfl))) (mvT hZ (hw _ (List.mem_of_getElem? (i := 30) rfl))) (notFace_of_selects (args := #[]) (mvT hZ (hw _ (List.mem_of_getElem? (i := 32) rfl)))) (mvT hZ (hw _ (List.mem_of_getElem? (i := 32) rfl))) (mvT hZ (hw _ (List.mem_of_getElem? (i := 31) rfl))) (by decide) (backOf (W := 0) (rm4 l Z a0 hw [] wS 3 T29.heap n0 Zs FwS_q29) hZ (hw _ (List.mem_of_getElem? (i := 33) rfl)) (hw _ (List.mem_of_getElem? (i := 2) rfl)) (by decide) (by decide)) q31a q31c (g := (mkF m 43 #[.val (.int p0), .val (.int p1), .val (.int ((((p1.toUInt32 >>> ((1 : Int32) &&& 31).toUInt32).toInt32) &&& (7 : Int32)) - (2 : Int32))), .val (.ref wS), .val (.ref wS)] [(.ref wS)])) rfl (by rw [hml]; rfl) (Steps.refl _) (argsL := []) (rest := []) (lenOf pd_2 rfl) rfl (by show 2 * 0 + _ ≤ _; exact Nat.le_of_eq rfl) (hb hby at_43) (fun _ _ => ⟨rfl, eh30, (by decide : 0 + 1 + 0 + 0 ≤ _), (by decide : 0 + 3 + 0 + 0 ≤ _)⟩)
      dsimp only [Pt.U, Pt.locs, Pt.cells, Pt.slots] at X31 l31 y31 z31 st31 hQ31
      subst l31 y31 z31
      obtain ⟨rfl, Nq31, ei31⟩ := hQ31
      have N31 := Fr.app N30 Nq31
      refine Go.call st31 ?_
      show Go p e below T31 (mkF m 46 #[.val (.int p0), .val (.int p1), .val (.int ((((p1.toUInt32 >>> ((1 : Int32) &&& 31).toUInt32).toInt32) &&& (7 : Int32)) - (2 : Int32))), .val (.ref wS), .val (.ref wS)] [(.int (3 : Int32))]) _
      refine Go.step (fun _ => XS.iloadN X31.here hx rfl (hb hby at_46) rfl ) ?_
      show Go p e below T31 (mkF m 47 #[.val (.int p0), .val (.int p1), .val (.int ((((p1.toUInt32 >>> ((1 : Int32) &&& 31).toUInt32).toInt32) &&& (7 : Int32)) - (2 : Int32))), .val (.ref wS), .val (.ref wS)] [(.int ((((p1.toUInt32 >>> ((1 : Int32) &&& 31).toUInt32).toInt32) &&& (7 : Int32)) - (2 : Int32))), (.int (3 : Int32))]) _
      refine Go.step (fun _ => XS.icmpYes X31.here hx rfl (pc0 := 47) (pc' := 52) rfl (hb hby at_47) rfl (teq hk3.symm).1 (by decide) (by decide)) ?_
      show Go p e below T31 (mkF m 52 #[.val (.int p0), .val (.int p1), .val (.int ((((p1.toUInt32 >>> ((1 : Int32) &&& 31).toUInt32).toInt32) &&& (7 : Int32)) - (2 : Int32))), .val (.ref wS), .val (.ref wS)] []) _
      refine Go.step (fun _ => XS.iconst X31.here hx rfl (hb hby at_52)) ?_
      show Go p e below T31 (mkF m 53 #[.val (.int p0), .val (.int p1), .val (.int ((((p1.toUInt32 >>> ((1 : Int32) &&& 31).toUInt32).toInt32) &&& (7 : Int32)) - (2 : Int32))), .val (.ref wS), .val (.ref wS)] [(.int (1 : Int32))]) _
      refine Go.retN (t := .boolean) (z' := (1 : Int32)) X31 hx hret (by simp) hlk (hb hby at_53) (by decide) ?_ (by decide) (by decide)
      exact ⟨rfl, N31⟩
    show Go p e below s₁ (mkF m 19 #[.val (.int p0), .val (.int p1), .val (.int ((((p1.toUInt32 >>> ((1 : Int32) &&& 31).toUInt32).toInt32) &&& (7 : Int32)) - (2 : Int32))), .unset, .unset] []) _
    refine Go.step (fun _ => XS.iloadN X0.here hx rfl (hb hby at_19) rfl ) ?_
    show Go p e below s₁ (mkF m 20 #[.val (.int p0), .val (.int p1), .val (.int ((((p1.toUInt32 >>> ((1 : Int32) &&& 31).toUInt32).toInt32) &&& (7 : Int32)) - (2 : Int32))), .unset, .unset] [(.int ((((p1.toUInt32 >>> ((1 : Int32) &&& 31).toUInt32).toInt32) &&& (7 : Int32)) - (2 : Int32)))]) _
    obtain ⟨_, _, ⟨T32, L32, k32, n32⟩, -, X32, ⟨Lc32, hQ32, l32, y32, z32⟩, st32⟩ := Jvm.LawKit.callS X0 hx (y := (⟨"com/example/tickwire/tickwire/feeds/smartapi/SmartApiDecoder$Packet", "of", "(I)Lcom/example/tickwire/tickwire/feeds/smartapi/SmartApiDecoder$Packet;"⟩ : MethodName)) hown (mvT hZ (hw _ (List.mem_of_getElem? (i := 0) rfl))) (mvT hZ (hw _ (List.mem_of_getElem? (i := 1) rfl))) (mvT hZ (hw _ (List.mem_of_getElem? (i := 2) rfl))) (mvT hZ (hw _ (List.mem_of_getElem? (i := 3) rfl))) (by decide) (backOf (W := 0) (rm1 l Z a0 hw [] ((((p1.toUInt32 >>> ((1 : Int32) &&& 31).toUInt32).toInt32) &&& (7 : Int32)) - (2 : Int32)) wV cl wL wQ wS .null h0 n0 Z0 SV AV EV FV hsz hlen at0 at1 at2 FwL FwQ FwS (by rw [if_neg hk1, if_neg hk2, if_neg hk3])) hZ (hw _ (List.mem_of_getElem? (i := 3) rfl)) (hw _ (List.mem_of_getElem? (i := 2) rfl)) (by decide) (by decide)) (g := (mkF m 20 #[.val (.int p0), .val (.int p1), .val (.int ((((p1.toUInt32 >>> ((1 : Int32) &&& 31).toUInt32).toInt32) &&& (7 : Int32)) - (2 : Int32))), .unset, .unset] [(.int ((((p1.toUInt32 >>> ((1 : Int32) &&& 31).toUInt32).toInt32) &&& (7 : Int32)) - (2 : Int32)))])) rfl (by rw [hml]; rfl) (argsL := [(.int ((((p1.toUInt32 >>> ((1 : Int32) &&& 31).toUInt32).toInt32) &&& (7 : Int32)) - (2 : Int32)))]) (rest := []) (lenOf pd_1 rfl) rfl (by show 2 * 0 + _ ≤ _; exact Nat.le_of_eq rfl) (hb hby at_20) (fun _ _ => ⟨rfl, e0, (by decide : 0 + 1 ≤ _), (by decide : 0 + 3 ≤ _)⟩)
    dsimp only [Pt.U, Pt.locs, Pt.cells, Pt.slots] at X32 l32 y32 z32 st32 hQ32
    subst l32 y32 z32
    obtain ⟨rfl, Nq32, E32⟩ := hQ32
    have N32 := Fr.app N0 Nq32
    refine Go.step st32 ?_
    have SL_q32 := SL.ext E32
    have SQ_q32 := SQ.ext E32
    have SS_q32 := SS.ext E32
    have FwL_q32 := FwL.ext E32
    have FwQ_q32 := FwQ.ext E32
    have FwS_q32 := FwS.ext E32
    have EwL_q32 := EwL.ext E32
    have EwQ_q32 := EwQ.ext E32
    have EwS_q32 := EwS.ext E32
    have Zs : n0 ≤ T32.heap.size := Nat.le_trans Z0 E32.1
    show Go p e below T32 (mkF m 23 #[.val (.int p0), .val (.int p1), .val (.int ((((p1.toUInt32 >>> ((1 : Int32) &&& 31).toUInt32).toInt32) &&& (7 : Int32)) - (2 : Int32))), .unset, .unset] [.null]) _
    refine Go.step (fun _ => XS.astoreN X32.here hx rfl (hb hby at_23) rfl rfl (l' := #[.val (.int p0), .val (.int p1), .val (.int ((((p1.toUInt32 >>> ((1 : Int32) &&& 31).toUInt32).toInt32) &&& (7 : Int32)) - (2 : Int32))), .val .null, .unset]) rfl) ?_
    show Go p e below T32 (mkF m 24 #[.val (.int p0), .val (.int p1), .val (.int ((((p1.toUInt32 >>> ((1 : Int32) &&& 31).toUInt32).toInt32) &&& (7 : Int32)) - (2 : Int32))), .val .null, .unset] []) _
    refine Go.step (fun _ => XS.iloadN X32.here hx rfl (hb hby at_24) rfl ) ?_
    show Go p e below T32 (mkF m 25 #[.val (.int p0), .val (.int p1), .val (.int ((((p1.toUInt32 >>> ((1 : Int32) &&& 31).toUInt32).toInt32) &&& (7 : Int32)) - (2 : Int32))), .val .null, .unset] [(.int ((((p1.toUInt32 >>> ((1 : Int32) &&& 31).toUInt32).toInt32) &&& (7 : Int32)) - (2 : Int32)))]) _
    obtain ⟨_, _, ⟨T33, L33, k33, n33⟩, -, X33, ⟨Lc33, hQ33, l33, y33, z33⟩, st33⟩ := Jvm.LawKit.callS X32 hx (y := (⟨"com/example/tickwire/tickwire/feeds/smartapi/PacketOf247PinLaw", "expected", "(I)Lcom/example/tickwire/tickwire/feeds/smartapi/SmartApiDecoder$Packet;"⟩ : MethodName)) hown (mvT hZ (hw _ (List.mem_of_getElem? (i := 24) rfl))) (mvT hZ (hw _ (List.mem_of_getElem? (i := 25) rfl))) (mvT hZ (hw _ (List.mem_of_getElem? (i := 26) rfl))) (mvT hZ (hw _ (List.mem_of_getElem? (i := 27) rfl))) (by decide) (backOf (W := 0) (rm3 l Z a0 hw [] ((((p1.toUInt32 >>> ((1 : Int32) &&& 31).toUInt32).toInt32) &&& (7 : Int32)) - (2 : Int32)) wL wQ wS .null T32.heap n0 Zs SL_q32 SQ_q32 SS_q32 (by rw [if_neg hk1, if_neg hk2, if_neg hk3])) hZ (hw _ (List.mem_of_getElem? (i := 27) rfl)) (hw _ (List.mem_of_getElem? (i := 26) rfl)) (by decide) (by decide)) (g := (mkF m 25 #[.val (.int p0), .val (.int p1), .val (.int ((((p1.toUInt32 >>> ((1 : Int32) &&& 31).toUInt32).toInt32) &&& (7 : Int32)) - (2 : Int32))), .val .null, .unset] [(.int ((((p1.toUInt32 >>> ((1 : Int32) &&& 31).toUInt32).toInt32) &&& (7 : Int32)) - (2 : Int32)))])) rfl (by rw [hml]; rfl) (argsL := [(.int ((((p1.toUInt32 >>> ((1 : Int32) &&& 31).toUInt32).toInt32) &&& (7 : Int32)) - (2 : Int32)))]) (rest := []) (lenOf pd_1 rfl) rfl (by show 2 * 0 + _ ≤ _; exact Nat.le_of_eq rfl) (hb hby at_25) (fun _ _ => ⟨rfl, rfl, (by decide : 0 + 1 + 0 ≤ _), (by decide : 0 + 3 + 0 ≤ _)⟩)
    dsimp only [Pt.U, Pt.locs, Pt.cells, Pt.slots] at X33 l33 y33 z33 st33 hQ33
    subst l33 y33 z33
    obtain ⟨rfl, Nq33, eh33⟩ := hQ33
    have N33 := Fr.app N32 Nq33
    refine Go.step st33 ?_
    show Go p e below T33 (mkF m 28 #[.val (.int p0), .val (.int p1), .val (.int ((((p1.toUInt32 >>> ((1 : Int32) &&& 31).toUInt32).toInt32) &&& (7 : Int32)) - (2 : Int32))), .val .null, .unset] [.null]) _
    refine Go.step (fun _ => XS.astore X33.here hx rfl (hb hby at_28) rfl rfl (l' := #[.val (.int p0), .val (.int p1), .val (.int ((((p1.toUInt32 >>> ((1 : Int32) &&& 31).toUInt32).toInt32) &&& (7 : Int32)) - (2 : Int32))), .val .null, .val .null]) rfl) ?_
    show Go p e below T33 (mkF m 30 #[.val (.int p0), .val (.int p1), .val (.int ((((p1.toUInt32 >>> ((1 : Int32) &&& 31).toUInt32).toInt32) &&& (7 : Int32)) - (2 : Int32))), .val .null, .val .null] []) _
    refine Go.step (fun _ => XS.aloadN X33.here hx rfl (hb hby at_30) rfl rfl ) ?_
    show Go p e below T33 (mkF m 31 #[.val (.int p0), .val (.int p1), .val (.int ((((p1.toUInt32 >>> ((1 : Int32) &&& 31).toUInt32).toInt32) &&& (7 : Int32)) - (2 : Int32))), .val .null, .val .null] [.null]) _
    refine Go.step (fun _ => XS.aload X33.here hx rfl (hb hby at_31) rfl rfl ) ?_
    show Go p e below T33 (mkF m 33 #[.val (.int p0), .val (.int p1), .val (.int ((((p1.toUInt32 >>> ((1 : Int32) &&& 31).toUInt32).toInt32) &&& (7 : Int32)) - (2 : Int32))), .val .null, .val .null] [.null, .null]) _
    refine Go.step (fun _ => Jvm.RoadKit.acmp (g := (mkF m 33 #[.val (.int p0), .val (.int p1), .val (.int ((((p1.toUInt32 >>> ((1 : Int32) &&& 31).toUInt32).toInt32) &&& (7 : Int32)) - (2 : Int32))), .val .null, .val .null] [.null, .null])) X33 hx rfl rfl rfl (pc0 := 33) (pc' := 38) (same := true) rfl (hb hby at_33) rfl (decide_eq_true rfl) (by decide) (by decide)) ?_
    show Go p e below T33 (mkF m 38 #[.val (.int p0), .val (.int p1), .val (.int ((((p1.toUInt32 >>> ((1 : Int32) &&& 31).toUInt32).toInt32) &&& (7 : Int32)) - (2 : Int32))), .val .null, .val .null] []) _
    refine Go.step (fun _ => XS.aloadN X33.here hx rfl (hb hby at_38) rfl rfl ) ?_
    show Go p e below T33 (mkF m 39 #[.val (.int p0), .val (.int p1), .val (.int ((((p1.toUInt32 >>> ((1 : Int32) &&& 31).toUInt32).toInt32) &&& (7 : Int32)) - (2 : Int32))), .val .null, .val .null] [.null]) _
    refine Go.step (fun _ => XS.ifnullYes X33.here hx rfl (pc0 := 39) (pc' := 52) rfl (hb hby at_39) rfl (by decide) (by decide)) ?_
    show Go p e below T33 (mkF m 52 #[.val (.int p0), .val (.int p1), .val (.int ((((p1.toUInt32 >>> ((1 : Int32) &&& 31).toUInt32).toInt32) &&& (7 : Int32)) - (2 : Int32))), .val .null, .val .null] []) _
    refine Go.step (fun _ => XS.iconst X33.here hx rfl (hb hby at_52)) ?_
    show Go p e below T33 (mkF m 53 #[.val (.int p0), .val (.int p1), .val (.int ((((p1.toUInt32 >>> ((1 : Int32) &&& 31).toUInt32).toInt32) &&& (7 : Int32)) - (2 : Int32))), .val .null, .val .null] [(.int (1 : Int32))]) _
    refine Go.retN (t := .boolean) (z' := (1 : Int32)) X33 hx hret (by simp) hlk (hb hby at_53) (by decide) ?_ (by decide) (by decide)
    exact ⟨rfl, N33⟩
set_option maxRecDepth 65536 in
set_option maxHeartbeats 40000000 in
theorem comes_1 {Post : Tables → Env → Array Value → State → Outcome → State → Prop} (hpost : ∀ tb e args s v u, (limb_1_1.after args s (.returned v) u = true ∧ limb_1_2.after args s (.returned v) u = true ∧ True) → FrameEnd s (.returned v) u (Jvm.fieldLocs frame_1_writes args s ++ Jvm.arrayLocs frame_1_arrays args s ++ Jvm.staticLocs frame_1_statics s) 16 128 → Post tb e args s (.returned v) u) :
    ArmFor flags0 classFile x code maxLocals ret World_1 tables_1 room_1 Calls_1 rest_1 Pre_1 Post := by
  intro l hfl _ _ p e ha hc hk s m args below hf hA hF happ hP
  obtain ⟨hcalls, hrest, hpre⟩ := hP
  obtain ⟨-, -, -, hnamed, -, -, -, hat⟩ := (Spec.applies_iff hf).mp happ
  obtain ⟨hg, hn⟩ := and_e (Cond.before_iff.mp (show (Jvm.Cond.and given_1 narrow_1).before args s = true from hpre))
  obtain ⟨g1, g2⟩ := and_e hg
  obtain ⟨g3, g4⟩ := and_e g2
  obtain ⟨w0, w1, rfl⟩ : ∃ w0 w1 : Value, args = #[w0, w1] := by
    have hs : args.size = 2 := by simpa [Cond.value, given_1] using g1
    obtain ⟨L⟩ := args
    match L, hs with
    | [w0, w1], _ => exact ⟨w0, w1, rfl⟩
  have hw := fun d (hd : d ∈ tables_1) => atoms_spec (ws := Jvm.Cond.code x code maxLocals ret :: tables_1) hat d (List.mem_cons_of_mem _ hd)
  have hfit : Fit s := fun {y c} hc i hi => by
    obtain ⟨ha, rfl⟩ := Array.getElem?_eq_some_iff.mp hc
    have q := List.all_eq_true.mp ((Array.all_eq_true_iff_forall_mem.mp hF) _ (Array.getElem_mem ha)) i (List.mem_range.mpr hi)
    simpa [Array.getElem?_eq_getElem hi] using q
  obtain ⟨i0, ei0⟩ := is_v g3
  obtain rfl : w0 = (.int i0) := Option.some.inj ei0
  obtain ⟨i1, ei1⟩ := is_v g4
  obtain rfl : w1 = (.int i1) := Option.some.inj ei1
  obtain ⟨u0, v0⟩ := and_e hn
  obtain ⟨u1, v1⟩ := and_e v0
  obtain ⟨u2, v2⟩ := and_e v1
  obtain ⟨u3, v3⟩ := and_e v2
  obtain ⟨u4, v4⟩ := and_e v3
  obtain ⟨u5, v5⟩ := and_e v4
  obtain ⟨u6, v6⟩ := and_e v5
  obtain ⟨u7, v7⟩ := and_e v6
  obtain ⟨u8, v8⟩ := and_e v7
  obtain ⟨u9, v9⟩ := and_e v8
  obtain ⟨u10, v10⟩ := and_e v9
  obtain ⟨wV, evV⟩ := arr_v u0
  obtain ⟨cl, AV⟩ := Arr.start evV u0
  have EV := Exa.start evV u1
  have FV := FitC.start hfit AV
  obtain ⟨hl1, hlen⟩ := own_len evV AV u2
  have hsz : cl.slots.size = 3 := own_size hl1 hlen
  have SV := Sta.start evV (Or.inr ⟨(hw _ (List.mem_of_getElem? (i := 2) rfl)), (hw _ (List.mem_of_getElem? (i := 8) rfl))⟩)
  obtain ⟨wL, evwL⟩ := exa_v u3
  have EwL := Exa.start evwL u3
  have SL := Sta.start evwL (Or.inr ⟨(hw _ (List.mem_of_getElem? (i := 2) rfl)), (hw _ (List.mem_of_getElem? (i := 16) rfl))⟩)
  have FwL := own_fldI evwL u9
  have at0 := own_elemR evV AV evwL u4
  obtain ⟨wQ, evwQ⟩ := exa_v u5
  have EwQ := Exa.start evwQ u5
  have SQ := Sta.start evwQ (Or.inr ⟨(hw _ (List.mem_of_getElem? (i := 2) rfl)), (hw _ (List.mem_of_getElem? (i := 17) rfl))⟩)
  have FwQ := own_fldI evwQ u10
  have at1 := own_elemR evV AV evwQ u6
  obtain ⟨wS, evwS⟩ := exa_v u7
  have EwS := Exa.start evwS u7
  have SS := Sta.start evwS (Or.inr ⟨(hw _ (List.mem_of_getElem? (i := 2) rfl)), (hw _ (List.mem_of_getElem? (i := 18) rfl))⟩)
  have FwS := own_fldI evwS v10
  have at2 := own_elemR evV AV evwS u8
  obtain ⟨n, o, h1, h2, h3, _, L, rfl, ⟨rfl, N⟩, hq⟩ := rm0 l s _ hw tables_1 i0 i1 wV cl wL wQ wS s.heap s.heap.size (Nat.le_refl _) SV AV EV FV hsz hlen at0 at1 at2 FwL FwQ FwS SL SQ SS EwL EwQ EwS p e ha hc hk s m _ below hf ((Spec.applies_iff_loose hf).mp happ).1 ⟨rfl, State.Warmed39.refl s, rfl⟩ trivial
  exact ⟨n, _, h1, h2, h3, hpost _ _ _ _ _ _ ⟨Cond.after_iff.mpr rfl, Cond.after_iff.mpr (eq_i res_at (Term.int_eval (1)) rfl), trivial⟩ ⟨hq.1, hq.2.1, (hq.2.2.sift fun y hy => Or.inr (N y hy)).mono (by decide) (by decide)⟩⟩
theorem main_1_1 : Claimed_1_1 := comes_1 fun _ _ _ _ _ _ h hF => ⟨h.1, hF⟩
theorem main_1_2 : Claimed_1_2 := comes_1 fun _ _ _ _ _ _ h hF => ⟨h.2.1, hF⟩
end Jvm.Pilot.@@N@@
namespace Jvm.Pilot.@@N@@
open Jvm Jvm.ClassFile Sem Op Lib Jvm.Free Jvm.Stand Jvm.Pilot.@@N@@.Jvm.D
/-! MADE BY PROGRAM (witnessworld.py) out of the Statement's table words and the real class files: 13 classes; the members and pool entries that the words name. The judged class is class 1, her method 2. -/
namespace start1
open Jvm.ClassFile
def u (s : String) : CpInfo := .utf8 (stringToUtf16 s)
/-- a pool by its gaps: so many unusable entries, then the entry; so many at the end -/
def gap : Nat → List CpInfo → List CpInfo
  | 0, r => r
  | n + 1, r => .unusable :: gap n r
def poolList (es : List (Nat × CpInfo)) (last : Nat) : List CpInfo := es.foldr (fun e r => gap e.1 (e.2 :: r)) (gap last [])
def pool (es : List (Nat × CpInfo)) (last : Nat) : Array CpInfo := ⟨poolList es last⟩
def fileOf (pool : Array CpInfo) (this : Nat) (attrs : Array Attribute := #[]) (ms : Array MethodInfo := #[]) (fl : Nat := 33) (sup : Nat := 0) (ifs : Array Nat := #[]) (fds : Array FieldInfo := #[]) : ClassFile where
  minorVersion := 0
  majorVersion := 65
  constantPool := pool
  accessFlags := fl
  thisClass := this
  superClass := sup
  interfaces := ifs
  fields := fds
  methods := ms
  attributes := attrs
def plain (name : String) (sup : Option ClassId) : Class where
  name := name
  kind := .ordinary
  loader := none
  accessFlags := 33
  super := sup
  interfaces := #[]
  cf := none
  fields := #[]
  methods := #[]
  instanceTypes := #[]
  staticTypes := #[]
  resolved := #[]
  callSites := []
  init := .initialized
  statics := none
  mirror := none

def pool0 : Array CpInfo := pool [(5, u "<init>"), (0, u "()V"), (1, .class_ 10), (1, u "java/lang/Object"), (85, u "clone"), (0, u "()Ljava/lang/Object;")] 26

def k0m0 : Method := { name := "<init>", desc := "()V", sig := { parameters := [], returnType := none }, accessFlags := 1, code := none }
def k0m1 : Method := { name := "clone", desc := "()Ljava/lang/Object;", sig := { parameters := [], returnType := some (.object "java/lang/Object") }, accessFlags := 260, code := none }
/-- java/lang/Object -/
def k0 : Class := { plain "java/lang/Object" none with
  accessFlags := 33
  interfaces := #[]
  cf := some (fileOf pool0 8 #[] #[{ accessFlags := 1, nameIndex := 5, descriptorIndex := 6, attributes := #[] }, { accessFlags := 260, nameIndex := 96, descriptorIndex := 97, attributes := #[] }] 33 0 #[] #[])
  fields := #[]
  methods := #[k0m0, k0m1]
  instanceTypes := #[]
  staticTypes := #[]
  resolved := Array.replicate 124 none
  statics := none }

def pool1 : Array CpInfo := pool [(2, .class_ 4), (1, u "java/lang/Object"), (0, u "<init>"), (0, u "()V"), (0, .fieldref 8 9), (0, .class_ 10), (0, .nameAndType 11 12), (0, u "com/example/tickwire/tickwire/feeds/smartapi/SmartApiDecoder$Packet"), (0, u "LTP"), (0, u "Lcom/example/tickwire/tickwire/feeds/smartapi/SmartApiDecoder$Packet;"), (0, .fieldref 8 14), (0, .nameAndType 15 12), (0, u "QUOTE"), (0, .fieldref 8 17), (0, .nameAndType 18 12), (0, u "SNAP_QUOTE"), (0, .methodref 8 20), (0, .nameAndType 21 22), (0, u "of"), (0, u "(I)Lcom/example/tickwire/tickwire/feeds/smartapi/SmartApiDecoder$Packet;"), (0, .methodref 24 25), (0, .class_ 26), (0, .nameAndType 27 22), (0, u "com/example/tickwire/tickwire/feeds/smartapi/PacketOf247PinLaw"), (0, u "expected"), (0, .methodref 8 29), (0, .nameAndType 30 31), (0, u "number"), (0, u "()I"), (3, u "law"), (0, u "(II)Z")] 6

def k1m0 : Method := { name := "<init>", desc := "()V", sig := { parameters := [], returnType := none }, accessFlags := 2, code := none }
def k1c1 : Code := { maxStack := 2, maxLocals := 1, code := method_2_code, exceptionTable := #[], attributes := #[] }
def k1m1 : Method := { name := "expected", desc := "(I)Lcom/example/tickwire/tickwire/feeds/smartapi/SmartApiDecoder$Packet;", sig := { parameters := [.int], returnType := some (.object "com/example/tickwire/tickwire/feeds/smartapi/SmartApiDecoder$Packet") }, accessFlags := 10, code := some k1c1 }
def k1c2 : Code := { maxStack := 2, maxLocals := 5, code := code, exceptionTable := #[], attributes := #[] }
def k1m2 : Method := { name := "law", desc := "(II)Z", sig := { parameters := [.int, .int], returnType := some .boolean }, accessFlags := 9, code := some k1c2 }
/-- com/example/tickwire/tickwire/feeds/smartapi/PacketOf247PinLaw -/
def k1 : Class := { plain "com/example/tickwire/tickwire/feeds/smartapi/PacketOf247PinLaw" (some 0) with
  accessFlags := 49
  interfaces := #[]
  cf := some (fileOf pool1 24 #[] #[{ accessFlags := 2, nameIndex := 5, descriptorIndex := 6, attributes := #[] }, { accessFlags := 10, nameIndex := 27, descriptorIndex := 22, attributes := #[] }, { accessFlags := 9, nameIndex := 35, descriptorIndex := 36, attributes := #[] }] 49 2 #[] #[])
  fields := #[]
  methods := #[k1m0, k1m1, k1m2]
  instanceTypes := #[]
  staticTypes := #[]
  resolved := Array.replicate 43 none
  statics := none }

def pool2 : Array CpInfo := pool [(1, .class_ 2), (0, u "java/lang/constant/Constable"), (0, .class_ 4), (0, u "java/lang/Object")] 6

/-- java/lang/constant/Constable -/
def k2 : Class := { plain "java/lang/constant/Constable" (some 0) with
  accessFlags := 1537
  interfaces := #[]
  cf := some (fileOf pool2 1 #[] #[] 1537 3 #[] #[])
  fields := #[]
  methods := #[]
  instanceTypes := #[]
  staticTypes := #[]
  resolved := Array.replicate 11 none
  statics := none }

def pool3 : Array CpInfo := pool [(1, .class_ 2), (0, u "java/lang/Comparable"), (0, .class_ 4), (0, u "java/lang/Object")] 7

/-- java/lang/Comparable -/
def k3 : Class := { plain "java/lang/Comparable" (some 0) with
  accessFlags := 1537
  interfaces := #[]
  cf := some (fileOf pool3 1 #[] #[] 1537 3 #[] #[])
  fields := #[]
  methods := #[]
  instanceTypes := #[]
  staticTypes := #[]
  resolved := Array.replicate 12 none
  statics := none }

def pool4 : Array CpInfo := pool [(1, .class_ 2), (0, u "java/io/Serializable"), (0, .class_ 4), (0, u "java/lang/Object")] 2

/-- java/io/Serializable -/
def k4 : Class := { plain "java/io/Serializable" (some 0) with
  accessFlags := 1537
  interfaces := #[]
  cf := some (fileOf pool4 1 #[] #[] 1537 3 #[] #[])
  fields := #[]
  methods := #[]
  instanceTypes := #[]
  staticTypes := #[]
  resolved := Array.replicate 7 none
  statics := none }

def pool5 : Array CpInfo := pool [(2, .class_ 4), (1, u "java/lang/Enum"), (0, u "name"), (0, u "Ljava/lang/String;"), (2, u "ordinal"), (0, u "I"), (1, .class_ 14), (1, u "java/lang/Object"), (4, u "hash"), (86, .class_ 108), (1, u "java/lang/Enum$EnumDesc"), (2, .class_ 112), (0, u "java/lang/constant/Constable"), (0, .class_ 114), (0, u "java/lang/Comparable"), (0, .class_ 116), (0, u "java/io/Serializable")] 87

/-- java/lang/Enum -/
def k5 : Class := { plain "java/lang/Enum" (some 0) with
  accessFlags := 1057
  interfaces := #[2, 3, 4]
  cf := some (fileOf pool5 2 #[.nestMembers #[106]] #[] 1057 12 #[111, 113, 115] #[{ accessFlags := 18, nameIndex := 5, descriptorIndex := 6, attributes := #[] }, { accessFlags := 18, nameIndex := 9, descriptorIndex := 10, attributes := #[] }, { accessFlags := 2, nameIndex := 19, descriptorIndex := 10, attributes := #[] }])
  fields := #[{ name := "name", type := (.object "java/lang/String"), accessFlags := 18, slot := 0, constantValue := 0 }, { name := "ordinal", type := .int, accessFlags := 18, slot := 1, constantValue := 0 }, { name := "hash", type := .int, accessFlags := 2, slot := 2, constantValue := 0 }]
  methods := #[]
  instanceTypes := #[(.object "java/lang/String"), .int, .int]
  staticTypes := #[]
  resolved := Array.replicate 204 none
  statics := none }

def pool6 : Array CpInfo := pool [(1, .class_ 2), (0, u "com/example/tickwire/tickwire/feeds/smartapi/SmartApiDecoder$Packet"), (2, u "LTP"), (0, u "Lcom/example/tickwire/tickwire/feeds/smartapi/SmartApiDecoder$Packet;"), (2, u "QUOTE"), (2, u "SNAP_QUOTE"), (0, .fieldref 1 14), (0, .nameAndType 15 16), (0, u "$VALUES"), (0, u "[Lcom/example/tickwire/tickwire/feeds/smartapi/SmartApiDecoder$Packet;"), (0, .methodref 18 19), (0, .class_ 16), (0, .nameAndType 20 21), (0, u "clone"), (0, u "()Ljava/lang/Object;"), (1, .class_ 25), (1, u "java/lang/Enum"), (6, .fieldref 1 33), (0, .nameAndType 34 35), (0, u "number"), (0, u "I"), (2, u "mode"), (0, u "Lcom/example/tickwire/tickwire/model/Mode;"), (2, u "length"), (2, u "name"), (0, u "Ljava/lang/String;"), (0, .methodref 1 48), (0, .nameAndType 49 50), (0, u "values"), (0, u "()[Lcom/example/tickwire/tickwire/feeds/smartapi/SmartApiDecoder$Packet;"), (72, u "()I"), (0, u "of"), (0, u "(I)Lcom/example/tickwire/tickwire/feeds/smartapi/SmartApiDecoder$Packet;"), (8, .class_ 135), (0, u "com/example/tickwire/tickwire/feeds/smartapi/SmartApiDecoder")] 16

def k6c0 : Code := { maxStack := 1, maxLocals := 0, code := prog_12_method_1_code, exceptionTable := #[], attributes := #[] }
def k6m0 : Method := { name := "values", desc := "()[Lcom/example/tickwire/tickwire/feeds/smartapi/SmartApiDecoder$Packet;", sig := { parameters := [], returnType := some (.array (.object "com/example/tickwire/tickwire/feeds/smartapi/SmartApiDecoder$Packet")) }, accessFlags := 9, code := some k6c0 }
def k6c1 : Code := { maxStack := 1, maxLocals := 1, code := prog_12_method_4_code, exceptionTable := #[], attributes := #[] }
def k6m1 : Method := { name := "number", desc := "()I", sig := { parameters := [], returnType := some .int }, accessFlags := 0, code := some k6c1 }
def k6c2 : Code := { maxStack := 2, maxLocals := 5, code := prog_12_method_5_code, exceptionTable := #[], attributes := #[] }
def k6m2 : Method := { name := "of", desc := "(I)Lcom/example/tickwire/tickwire/feeds/smartapi/SmartApiDecoder$Packet;", sig := { parameters := [.int], returnType := some (.object "com/example/tickwire/tickwire/feeds/smartapi/SmartApiDecoder$Packet") }, accessFlags := 8, code := some k6c2 }
/-- com/example/tickwire/tickwire/feeds/smartapi/SmartApiDecoder$Packet -/
def k6 : Class := { plain "com/example/tickwire/tickwire/feeds/smartapi/SmartApiDecoder$Packet" (some 5) with
  accessFlags := 16432
  interfaces := #[]
  cf := some (fileOf pool6 1 #[.nestHost 134] #[{ accessFlags := 9, nameIndex := 49, descriptorIndex := 50, attributes := #[] }, { accessFlags := 0, nameIndex := 34, descriptorIndex := 123, attributes := #[] }, { accessFlags := 8, nameIndex := 124, descriptorIndex := 125, attributes := #[] }] 16432 23 #[] #[{ accessFlags := 16409, nameIndex := 5, descriptorIndex := 6, attributes := #[] }, { accessFlags := 16409, nameIndex := 9, descriptorIndex := 6, attributes := #[] }, { accessFlags := 16409, nameIndex := 12, descriptorIndex := 6, attributes := #[] }, { accessFlags := 18, nameIndex := 34, descriptorIndex := 35, attributes := #[] }, { accessFlags := 18, nameIndex := 38, descriptorIndex := 39, attributes := #[] }, { accessFlags := 18, nameIndex := 42, descriptorIndex := 35, attributes := #[] }, { accessFlags := 18, nameIndex := 45, descriptorIndex := 46, attributes := #[] }, { accessFlags := 4122, nameIndex := 15, descriptorIndex := 16, attributes := #[] }])
  fields := #[{ name := "LTP", type := (.object "com/example/tickwire/tickwire/feeds/smartapi/SmartApiDecoder$Packet"), accessFlags := 16409, slot := 0, constantValue := 0 }, { name := "QUOTE", type := (.object "com/example/tickwire/tickwire/feeds/smartapi/SmartApiDecoder$Packet"), accessFlags := 16409, slot := 1, constantValue := 0 }, { name := "SNAP_QUOTE", type := (.object "com/example/tickwire/tickwire/feeds/smartapi/SmartApiDecoder$Packet"), accessFlags := 16409, slot := 2, constantValue := 0 }, { name := "number", type := .int, accessFlags := 18, slot := 3, constantValue := 0 }, { name := "mode", type := (.object "com/example/tickwire/tickwire/model/Mode"), accessFlags := 18, slot := 4, constantValue := 0 }, { name := "length", type := .int, accessFlags := 18, slot := 5, constantValue := 0 }, { name := "name", type := (.object "java/lang/String"), accessFlags := 18, slot := 6, constantValue := 0 }, { name := "$VALUES", type := (.array (.object "com/example/tickwire/tickwire/feeds/smartapi/SmartApiDecoder$Packet")), accessFlags := 4122, slot := 3, constantValue := 0 }]
  methods := #[k6m0, k6m1, k6m2]
  instanceTypes := #[(.object "java/lang/String"), .int, .int, .int, (.object "com/example/tickwire/tickwire/model/Mode"), .int, (.object "java/lang/String")]
  staticTypes := #[(.object "com/example/tickwire/tickwire/feeds/smartapi/SmartApiDecoder$Packet"), (.object "com/example/tickwire/tickwire/feeds/smartapi/SmartApiDecoder$Packet"), (.object "com/example/tickwire/tickwire/feeds/smartapi/SmartApiDecoder$Packet"), (.array (.object "com/example/tickwire/tickwire/feeds/smartapi/SmartApiDecoder$Packet"))]
  resolved := Array.replicate 152 none
  statics := some 0 }

def pool7 : Array CpInfo := pool [(1, .class_ 2), (0, u "java/lang/Cloneable"), (0, .class_ 4), (0, u "java/lang/Object")] 2

/-- java/lang/Cloneable -/
def k7 : Class := { plain "java/lang/Cloneable" (some 0) with
  accessFlags := 1537
  interfaces := #[]
  cf := some (fileOf pool7 1 #[] #[] 1537 3 #[] #[])
  fields := #[]
  methods := #[]
  instanceTypes := #[]
  staticTypes := #[]
  resolved := Array.replicate 7 none
  statics := none }

/-- the primitive byte -/
def k8 : Class := { plain "byte" none with kind := .primitive 'B', accessFlags := 0x411 }
/-- [B -/
def k9 : Class := { plain "[B" (some 0) with kind := .array 8 .byte, interfaces := #[7, 4], accessFlags := 1041 }

/-- the primitive int -/
def k10 : Class := { plain "int" none with kind := .primitive 'I', accessFlags := 0x411 }
/-- [I -/
def k11 : Class := { plain "[I" (some 0) with kind := .array 10 .int, interfaces := #[7, 4], accessFlags := 1041 }

/-- [Lcom/example/tickwire/tickwire/feeds/smartapi/SmartApiDecoder$Packet; -/
def k12 : Class := { plain "[Lcom/example/tickwire/tickwire/feeds/smartapi/SmartApiDecoder$Packet;" (some 0) with kind := .array 6 (.object "com/example/tickwire/tickwire/feeds/smartapi/SmartApiDecoder$Packet"), interfaces := #[7, 4], accessFlags := 1041 }

def heap : Heap := #[{ cls := 6, slots := #[.ref 2, .ref 3, .ref 4, .ref 1], vm := .statics 6 },
  { cls := 12, slots := #[.ref 2, .ref 3, .ref 4], vm := .none },
  { cls := 6, slots := #[.null, .int 0, .int 0, .int 1, .null, .int 0, .null], vm := .none },
  { cls := 6, slots := #[.null, .int 1, .int 0, .int 2, .null, .int 0, .null], vm := .none },
  { cls := 6, slots := #[.null, .int 2, .int 0, .int 3, .null, .int 0, .null], vm := .none }]
def classes : Array Class := #[k0, k1, k2, k3, k4, k5, k6, k7, k8, k9, k10, k11, k12]
def interned : List (Array UInt16 × Addr) := []
def slotsUsed : Nat := 28
def theMethod : MethodId := ⟨1, 2⟩
def args0 : Array Value := #[.int 5, .int 3]
def aboutOver (below : List Frame) : State where
  vm := { classes := classes, interned := interned.toArray }
  heap := heap
  slotsUsed := slotsUsed
  threads := #[{ frames := .invoking theMethod args0 :: below }]
def below0 : List Frame := [.native { method := ⟨0, 0⟩, args := #[] }]
def about1 : State := aboutOver below0
def p0 : Program := .bare "" "" ""
def e0 : Env := launch0.env 0 0 0
theorem w_frames : about1.frames = Frame.invoking theMethod args0 :: below0 := rfl
set_option maxRecDepth 65536 in
theorem w_args : argsFit about1.vm theMethod args0 = true := by decide +kernel
set_option maxRecDepth 65536 in
theorem w_heap : heapFits about1 = true := by decide +kernel
set_option maxRecDepth 65536 in
theorem w_runnable : about1.curStatus? = some .runnable := by decide +kernel
set_option maxRecDepth 65536 in
theorem w_alone : about1.alone = true := by decide +kernel
set_option maxRecDepth 65536 in
theorem w_named : about1.methodNamed? x = some theMethod := by decide +kernel
set_option maxRecDepth 65536 in
theorem w_hears : about1.hears theMethod below0 = true := by decide +kernel
set_option maxRecDepth 65536 in
theorem w_ripe : about1.ripe theMethod args0 below0 = true := by decide +kernel
theorem w_running : about1.status = .running := rfl
set_option maxRecDepth 65536 in
theorem w_room : about1.hasRoom e0.platform room_1 = true :=
  launch0.hasRoom_least _ room_1 (by decide +kernel) (by decide +kernel) (by decide +kernel) (by decide +kernel) (by decide +kernel) (by decide +kernel)
theorem allAtoms_all (ts : List Jvm.Cond) (a : Array Jvm.Value) (st : Jvm.State) : (allAtoms ts).before a st = ts.all (fun c => c.before a st) := by
  induction ts with
  | nil => rfl
  | cons c t ih =>
    show (Jvm.Cond.and c (allAtoms t)).before a st = _
    rw [Jvm.Cond.before_and, ih, List.all_cons]
def words1 : List Jvm.Cond := Jvm.Cond.code x code maxLocals ret :: tables_1
/-- a 'code' word, met by the world's own term for the bytes: nothing is compared byte by byte -/
theorem code_word {y : MethodName} {bytes : ByteArray} {mx : Nat} {rt : Option FieldType} {a : Array Value} {s : State} {m : MethodId} {meth : Method} {c : Code} (h1 : s.methodNamed? y = some m) (h2 : s.vm.method? m = some meth) (h3 : meth.code = some c) (h4 : c.code = bytes)
    (h5 : (c.maxLocals == mx && c.exceptionTable.isEmpty && decide (c.maxStack ≤ mostOperands) && decide (meth.sig.returnType = rt) && !meth.locks && decide (parseMethodDescriptor y.desc = some meth.sig)) = true) : (Jvm.Cond.code y bytes mx rt).before a s = true := by
  simp only [Bool.and_eq_true, beq_iff_eq, Bool.not_eq_true', decide_eq_true_eq] at h5
  obtain ⟨⟨⟨⟨⟨g1, g2⟩, g3⟩, g4⟩, g5⟩, g6⟩ := h5
  simp [Cond.before, Cond.holds, Cond.value, h1, h2, h3, h4, g1, g2, g3, g4, g5, g6]
def isCode : Jvm.Cond → Bool
  | .code _ _ _ _ => true
  | _ => false
theorem all_split {L : List Jvm.Cond} {P : Jvm.Cond → Bool} (h1 : L.all (fun c => isCode c || P c) = true) (h2 : ∀ c ∈ L.filter isCode, P c = true) : L.all P = true := by
  refine List.all_eq_true.mpr fun c hc => ?_
  have h := List.all_eq_true.mp h1 c hc
  rcases Bool.eq_false_or_eq_true (isCode c) with hi | hi
  · exact h2 c (List.mem_filter.mpr ⟨hc, hi⟩)
  · simpa [hi] using h
set_option maxRecDepth 65536 in
theorem w_c0 : (Jvm.Cond.code x code maxLocals ret).before args0 about1 = true := code_word (m := ⟨1, 2⟩) (meth := k1m2) (c := k1c2) (by decide +kernel) rfl rfl rfl (by decide +kernel)
set_option maxRecDepth 65536 in
theorem w_c1 : (Jvm.Cond.code ({ cls := "com/example/tickwire/tickwire/feeds/smartapi/SmartApiDecoder$Packet", name := "of", desc := "(I)Lcom/example/tickwire/tickwire/feeds/smartapi/SmartApiDecoder$Packet;" } : Jvm.MethodName) prog_12_method_5_code (5 : Nat) (Option.some (Jvm.ClassFile.FieldType.object "com/example/tickwire/tickwire/feeds/smartapi/SmartApiDecoder$Packet"))).before args0 about1 = true := code_word (m := ⟨6, 2⟩) (meth := k6m2) (c := k6c2) (by decide +kernel) rfl rfl rfl (by decide +kernel)
set_option maxRecDepth 65536 in
theorem w_c2 : (Jvm.Cond.code ({ cls := "com/example/tickwire/tickwire/feeds/smartapi/SmartApiDecoder$Packet", name := "values", desc := "()[Lcom/example/tickwire/tickwire/feeds/smartapi/SmartApiDecoder$Packet;" } : Jvm.MethodName) prog_12_method_1_code (0 : Nat) (Option.some (Jvm.ClassFile.FieldType.array (Jvm.ClassFile.FieldType.object "com/example/tickwire/tickwire/feeds/smartapi/SmartApiDecoder$Packet")))).before args0 about1 = true := code_word (m := ⟨6, 0⟩) (meth := k6m0) (c := k6c0) (by decide +kernel) rfl rfl rfl (by decide +kernel)
set_option maxRecDepth 65536 in
theorem w_c3 : (Jvm.Cond.code ({ cls := "com/example/tickwire/tickwire/feeds/smartapi/PacketOf247PinLaw", name := "expected", desc := "(I)Lcom/example/tickwire/tickwire/feeds/smartapi/SmartApiDecoder$Packet;" } : Jvm.MethodName) method_2_code (1 : Nat) (Option.some (Jvm.ClassFile.FieldType.object "com/example/tickwire/tickwire/feeds/smartapi/SmartApiDecoder$Packet"))).before args0 about1 = true := code_word (m := ⟨1, 1⟩) (meth := k1m1) (c := k1c1) (by decide +kernel) rfl rfl rfl (by decide +kernel)
set_option maxRecDepth 65536 in
theorem w_c4 : (Jvm.Cond.code ({ cls := "com/example/tickwire/tickwire/feeds/smartapi/SmartApiDecoder$Packet", name := "number", desc := "()I" } : Jvm.MethodName) prog_12_method_4_code (1 : Nat) (Option.some Jvm.ClassFile.FieldType.int)).before args0 about1 = true := code_word (m := ⟨6, 1⟩) (meth := k6m1) (c := k6c1) (by decide +kernel) rfl rfl rfl (by decide +kernel)
def codes1 : List Jvm.Cond := [Jvm.Cond.code x code maxLocals ret, Jvm.Cond.code ({ cls := "com/example/tickwire/tickwire/feeds/smartapi/SmartApiDecoder$Packet", name := "of", desc := "(I)Lcom/example/tickwire/tickwire/feeds/smartapi/SmartApiDecoder$Packet;" } : Jvm.MethodName) prog_12_method_5_code (5 : Nat) (Option.some (Jvm.ClassFile.FieldType.object "com/example/tickwire/tickwire/feeds/smartapi/SmartApiDecoder$Packet")), Jvm.Cond.code ({ cls := "com/example/tickwire/tickwire/feeds/smartapi/SmartApiDecoder$Packet", name := "values", desc := "()[Lcom/example/tickwire/tickwire/feeds/smartapi/SmartApiDecoder$Packet;" } : Jvm.MethodName) prog_12_method_1_code (0 : Nat) (Option.some (Jvm.ClassFile.FieldType.array (Jvm.ClassFile.FieldType.object "com/example/tickwire/tickwire/feeds/smartapi/SmartApiDecoder$Packet"))), Jvm.Cond.code ({ cls := "com/example/tickwire/tickwire/feeds/smartapi/PacketOf247PinLaw", name := "expected", desc := "(I)Lcom/example/tickwire/tickwire/feeds/smartapi/SmartApiDecoder$Packet;" } : Jvm.MethodName) method_2_code (1 : Nat) (Option.some (Jvm.ClassFile.FieldType.object "com/example/tickwire/tickwire/feeds/smartapi/SmartApiDecoder$Packet")), Jvm.Cond.code ({ cls := "com/example/tickwire/tickwire/feeds/smartapi/SmartApiDecoder$Packet", name := "number", desc := "()I" } : Jvm.MethodName) prog_12_method_4_code (1 : Nat) (Option.some Jvm.ClassFile.FieldType.int)]
set_option maxRecDepth 65536 in
theorem codes_eq : words1.filter isCode = codes1 := rfl
theorem w_codes : ∀ c ∈ words1.filter isCode, c.before args0 about1 = true := by
  rw [codes_eq]
  intro c hc
  simp only [codes1, List.mem_cons, List.not_mem_nil, or_false] at hc
  rcases hc with rfl | rfl | rfl | rfl | rfl
  · exact w_c0
  · exact w_c1
  · exact w_c2
  · exact w_c3
  · exact w_c4
set_option maxRecDepth 65536 in
theorem w_t1 : (words1.take 24).all (fun c => isCode c || c.before args0 about1) = true := by decide +kernel
set_option maxRecDepth 65536 in
theorem w_t2 : (words1.drop 24).all (fun c => isCode c || c.before args0 about1) = true := by decide +kernel
theorem w_tables : (allAtoms (Jvm.Cond.code x code maxLocals ret :: tables_1)).before args0 about1 = true := by
  rw [allAtoms_all]
  show words1.all (fun c => c.before args0 about1) = true
  refine all_split ?_ w_codes
  rw [← List.take_append_drop 24 words1, List.all_append, w_t1, w_t2]
  rfl
set_option maxRecDepth 65536 in
theorem w_case : (Jvm.Cond.and given_1 narrow_1).before args0 about1 = true := by decide +kernel
theorem w_applies : (headSpec (Jvm.Cond.code x code maxLocals ret :: tables_1) room_1).applies x e0.platform about1 = true :=
  (Spec.applies_iff w_frames).mpr ⟨w_running, w_runnable, w_alone, w_named, w_hears, w_ripe, w_room, w_tables⟩
theorem atStart : AtStart classFile x code maxLocals ret World_1 tables_1 room_1 Calls_1 rest_1 Pre_1 launch0 p0 e0 about1 theMethod args0 below0 :=
  ⟨lists_1, trivial, launch0.admits_env _ _ _, launch0.least_env, fairChoices_fair.cas, fairChoices_fair.clock, w_frames, w_args, w_heap, w_applies, trivial, trivial, w_case⟩
end start1
theorem witness_1 : WitnessClaimed_1 := ⟨start1.p0, start1.e0, start1.about1, start1.theMethod, start1.args0, start1.below0, start1.atStart⟩
end Jvm.Pilot.@@N@@
