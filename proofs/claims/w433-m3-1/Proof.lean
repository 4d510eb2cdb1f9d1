import JvmDerived
import JvmDerived.Pilot.@@N@@Statement
import JvmDerived.Pilot.@@N@@Code
set_option linter.unusedVariables false
set_option linter.unusedSimpArgs false
namespace Jvm.OwnKit
open Sem ClassFile Op Lib Jvm.Stand Jvm.Free Jvm.LawKit Jvm.RoadKit
section New
variable {p : Program} {l : Launch} {e : Env} {R : Room} {s : State} {m : MethodId} {args : Array Value} {below : List Frame} {meth : Method} {c : Code} {T T' : State} {locs : List Loc} {cells slots : Nat} {g g' : JFrame} {F : Outcome → State → Prop}
/-- from here the body runs to its end, and F says what is there -/
def Go (p : Program) (e : Env) (below : List Frame) (T : State) (g : JFrame) (F : Outcome → State → Prop) : Prop :=
  ∃ s₂ o, Steps p.tables e below (T.setTop g) s₂ ∧ s₂.status = .running ∧ Ended s₂ below o ∧ F o s₂
theorem Go.step (st : ∀ t, Steps p.tables e below (T'.setTop g') t → Steps p.tables e below (T.setTop g) t) (k : Go p e below T' g' F) : Go p e below T g F := by
  obtain ⟨a, o, h1, h2⟩ := k
  exact ⟨a, o, st _ h1, h2⟩
theorem Go.call (st : Steps p.tables e below (T.setTop g) (T'.setTop g')) (k : Go p e below T' g' F) : Go p e below T g F := by
  obtain ⟨a, o, h1, h2⟩ := k
  exact ⟨a, o, st.trans h1, h2⟩
abbrev Fin (s : State) (Q : Option Value → Heap → List Loc → Prop) (C S : Nat) : Outcome → State → Prop := fun o U' => ∃ v L, o = .returned v ∧ Q v U'.heap L ∧ FrameEnd s o U' L C S
variable {Q : Option Value → Heap → List Loc → Prop} {C S : Nat}
theorem Go.ret0 (X : Stand p l e R s m args below meth c T locs cells slots) (hx : p.tables.exec = Jvm.exec) {pc : Nat} {Ls : Array Slot} (hret : meth.sig.returnType = none) (hlk : meth.locks = false) (hd : decode c.code pc = .ok (.return_, 1))
    (hQ : Q none T.heap locs) (h1 : cells ≤ C) (h2 : slots ≤ S) : Go p e below T (mkF m pc Ls []) (Fin s Q C S) := by
  obtain ⟨fs, hr, hrun, hended, hW, hsame⟩ := X.leave (v := none) (fun _ => rfl) hlk
  exact ⟨_, _, X.returnOut hx hret hd hr, hrun, hended, _, _, rfl, hQ, ⟨_, rfl⟩, hW, hsame.mono h1 h2⟩
theorem Go.retI (X : Stand p l e R s m args below meth c T locs cells slots) (hx : p.tables.exec = Jvm.exec) {pc : Nat} {Ls : Array Slot} {z : Int32} {rest : List Value} (hret : meth.sig.returnType = some .int) (hlk : meth.locks = false) (hd : decode c.code pc = .ok (.ireturn, 1))
    (hQ : Q (some (.int z)) T.heap locs) (h1 : cells ≤ C) (h2 : slots ≤ S) : Go p e below T (mkF m pc Ls (.int z :: rest)) (Fin s Q C S) := by
  obtain ⟨fs, hr, hrun, hended, hW, hsame⟩ := X.leave (v := some (.int z)) (fun h => by rw [hret] at h; cases h) hlk
  exact ⟨_, _, retOut X hx hret rfl (Or.inl ⟨rfl, Or.inl rfl, _, rfl⟩) hd hr, hrun, hended, _, _, rfl, hQ, ⟨_, rfl⟩, hW, hsame.mono h1 h2⟩
theorem Go.retL (X : Stand p l e R s m args below meth c T locs cells slots) (hx : p.tables.exec = Jvm.exec) {pc : Nat} {Ls : Array Slot} {z : Int64} {rest : List Value} (hret : meth.sig.returnType = some .long) (hlk : meth.locks = false) (hd : decode c.code pc = .ok (.lreturn, 1))
    (hQ : Q (some (.long z)) T.heap locs) (h1 : cells ≤ C) (h2 : slots ≤ S) : Go p e below T (mkF m pc Ls (.long z :: rest)) (Fin s Q C S) := by
  obtain ⟨fs, hr, hrun, hended, hW, hsame⟩ := X.leave (v := some (.long z)) (fun h => by rw [hret] at h; cases h) hlk
  exact ⟨_, _, retOut X hx hret rfl (Or.inr (Or.inl ⟨rfl, rfl, _, rfl⟩)) hd hr, hrun, hended, _, _, rfl, hQ, ⟨_, rfl⟩, hW, hsame.mono h1 h2⟩
theorem Go.retA (X : Stand p l e R s m args below meth c T locs cells slots) (hx : p.tables.exec = Jvm.exec) {pc : Nat} {Ls : Array Slot} {w : Value} {t : FieldType} {rest : List Value} (hret : meth.sig.returnType = some t) (ht : t.isReference = true) (hv : w.isRef = true) (hlk : meth.locks = false) (hd : decode c.code pc = .ok (.areturn, 1))
    (hQ : Q (some w) T.heap locs) (h1 : cells ≤ C) (h2 : slots ≤ S) : Go p e below T (mkF m pc Ls (w :: rest)) (Fin s Q C S) := by
  obtain ⟨fs, hr, hrun, hended, hW, hsame⟩ := X.leave (v := some w) (fun h => by rw [hret] at h; cases h) hlk
  have hn : narrow t w = w := by cases w <;> cases t <;> simp_all [narrow, Value.isRef, FieldType.isReference]
  exact ⟨_, _, retOut X hx hret hn (Or.inr (Or.inr (Or.inr (Or.inr ⟨rfl, ht, hv⟩)))) hd hr, hrun, hended, _, _, rfl, hQ, ⟨_, rfl⟩, hW, hsame.mono h1 h2⟩
theorem Go.retN {t : FieldType} (X : Stand p l e R s m args below meth c T locs cells slots) (hx : p.tables.exec = Jvm.exec) {pc : Nat} {Ls : Array Slot} {z z' : Int32} {rest : List Value} (hret : meth.sig.returnType = some t) (ht : t = .boolean ∨ t = .byte ∨ t = .char ∨ t = .short) (hlk : meth.locks = false) (hd : decode c.code pc = .ok (.ireturn, 1))
    (hz : nar t z = z') (hQ : Q (some (.int z')) T.heap locs) (h1 : cells ≤ C) (h2 : slots ≤ S) : Go p e below T (mkF m pc Ls (.int z :: rest)) (Fin s Q C S) := by
  subst hz
  obtain ⟨fs, hr, hrun, hended, hW, hsame⟩ := X.leave (v := some (.int (nar t z))) (fun h => by rw [hret] at h; cases h) hlk
  exact ⟨_, _, Jvm.RoadKit.retN X hx hret ht hd hr, hrun, hended, _, _, rfl, hQ, ⟨_, rfl⟩, hW, hsame.mono h1 h2⟩
theorem own_fitsRef {t : FieldType} {v : Value} (ht : t.isReference = true) (h : v.isRef = true) : fits t v = true := by cases t <;> cases v <;> simp_all [fits, Value.isRef, FieldType.isReference]
theorem own_narrowRef {t : FieldType} {v : Value} (ht : t.isReference = true) (h : v.isRef = true) : narrow t v = v := by cases v <;> cases t <;> simp_all [narrow, Value.isRef, FieldType.isReference]
theorem own_staKeep {Z : State} {h h' : Heap} {C n d : String} {v : Value} {ws : List Addr} (F : Sta Z h C n d v) (K : Keep h h' ws) (q : ∀ x ∈ ws, ∀ cell : Cell, h[x]? = some cell → cell.vm.isStatics = false) : Sta Z h' C n d v := by
  obtain ⟨cf, i, k, f, st, cell, h1, h2, h3, h4, h5, h6, h7⟩ := F
  exact ⟨cf, i, k, f, st, cell, h1, h2, h3, h4, K.2.1 st cell h5 (fun m => by rw [q st m cell h5] at h6; cases h6), h6, h7⟩
theorem own_arrKeep {Z : State} {h h' : Heap} {a : Addr} {cl : Cell} {ty : FieldType} {ws : List Addr} (F : Arr Z h a cl ty) (K : Keep h h' ws) (q : a ∉ ws) : Arr Z h' a cl ty := ⟨K.2.1 a cl F.1 q, F.2⟩
theorem own_plainE {Z : State} {h : Heap} {a : Addr} {C : String} (E : Exa Z h a C) : ∀ cell : Cell, h[a]? = some cell → cell.vm.isStatics = false := fun cell hc => by
  obtain ⟨c2, k, h1, -, -, h4, -⟩ := E
  cases hc.symm.trans h1
  exact h4
theorem own_plainV {Z : State} {h : Heap} {a : Addr} {k : ClassId} {ty : FieldType} {z : Int32} {vs : List Value} {dv : Value} (V : Arv Z h a k ty z vs dv) : ∀ cell : Cell, h[a]? = some cell → cell.vm.isStatics = false := fun cell hc => by
  obtain ⟨c2, A, -⟩ := V
  cases hc.symm.trans A.1
  exact A.plain
end New
end Jvm.OwnKit

namespace Jvm.OwnKit
open Sem ClassFile Op Lib Jvm.Stand Jvm.Free Jvm.LawKit Jvm.RoadKit
theorem own_fldI {args : Array Value} {Z : State} {t : Term} {a : Addr} {C n d : String} {k : Int32} (ev : t.eval args Z none [] Z = some (.ref a)) (h : (Cond.eq (Term.field t C n d) (Term.int k)).value args Z none Z [] = some true) : Fld Z Z.heap a C n d (.int k) := by
  obtain ⟨x, y, e1, e2, k1, k2⟩ := cmp_v (Or.inl h)
  rw [Term.int_eval] at e2
  cases e2
  obtain ⟨z, rfl⟩ := k2
  have e3 := e1
  rw [fld_at ev] at e3
  have q : z = k := by simpa [Cond.value, e1, Term.int_eval] using h
  subst q
  exact Fld.start e3

theorem own_len {args : Array Value} {Z : State} {t : Term} {a : Addr} {cl : Cell} {ty : FieldType} {k : Int32} (ev : t.eval args Z none [] Z = some (.ref a)) (A : Arr Z Z.heap a cl ty) (h : (Cond.eq (Term.length t) (Term.int k)).value args Z none Z [] = some true) : cl.slots.size < 2 ^ 31 ∧ cl.slots.size.toInt32 = k := by
  obtain ⟨x, y, e1, e2, k1, k2⟩ := cmp_v (Or.inl h)
  rw [Term.int_eval] at e2
  cases e2
  obtain ⟨z, rfl⟩ := k2
  have q : z = k := by simpa [Cond.value, e1, Term.int_eval] using h
  subst q
  have ha : Z.arrayAt? a = some cl := IntBox.arrayAt_of A.1 A.2.1 A.2.2
  have hl : cl.slots.size < 2 ^ 31 := by
    by_cases q : cl.slots.size < 2147483648
    · exact q
    · simp [Term.eval, ev, ha, q] at e1
  refine ⟨hl, ?_⟩
  have e3 := len_f ev ha hl
  rw [e3] at e1
  simpa using e1
theorem own_size {n : Nat} {k : Int32} (h : n < 2 ^ 31) (e : n.toInt32 = k) : n = k.toNatClampNeg := by
  subst e
  have h1 := len_toInt h
  have : n.toInt32.toNatClampNeg = n := by
    show n.toInt32.toInt.toNat = n
    omega
  exact this.symm
theorem own_elemI {args : Array Value} {Z : State} {t : Term} {a : Addr} {cl : Cell} {ty : FieldType} {i k : Int32} (ev : t.eval args Z none [] Z = some (.ref a)) (A : Arr Z Z.heap a cl ty) (h : (Cond.eq (Term.elem t (Term.int i)) (Term.int k)).value args Z none Z [] = some true) : cl.slots[i.toNatClampNeg]? = some (.int k) := by
  obtain ⟨x, y, e1, e2, k1, k2⟩ := cmp_v (Or.inl h)
  rw [Term.int_eval] at e2
  cases e2
  obtain ⟨z, rfl⟩ := k2
  have q : z = k := by simpa [Cond.value, e1, Term.int_eval] using h
  subst q
  exact (elem_in e1 ev (Term.int_eval _) A.1).2
theorem own_elemR {args : Array Value} {Z : State} {t u : Term} {a w : Addr} {cl : Cell} {ty : FieldType} {i : Int32} (ev : t.eval args Z none [] Z = some (.ref a)) (A : Arr Z Z.heap a cl ty) (eu : u.eval args Z none [] Z = some (.ref w)) (h : (Cond.eq (Term.elem t (Term.int i)) u).value args Z none Z [] = some true) : cl.slots[i.toNatClampNeg]? = some (.ref w) := by
  obtain ⟨x, y, e1, e2, k1, k2⟩ := cmp_v (Or.inl h)
  cases eu.symm.trans e2
  have q : x = .ref w := gotT (eq_R e1 eu k2.2 rfl) h
  subst q
  exact (elem_in e1 ev (Term.int_eval _) A.1).2

theorem own_orR {args : Array Value} {first s : State} {o : Option Outcome} {idx : List Nat} {c d : Cond} (h : (Cond.or c d).value args first o s idx = some true) (hc : c.value args first o s idx = some false) : d.value args first o s idx = some true := by
  simpa [Cond.value, hc] using h
theorem own_leIdx {args : Array Value} {first s : State} {o : Option Outcome} {k : Int32} {i : Nat} (h : ¬ k ≤ i.toInt32) : (Cond.le (Term.int k) (Term.index 0)).value args first o s [i] = some false := by
  simp [Cond.value, Term.eval, h]
theorem own_ltIdx {args : Array Value} {first s : State} {o : Option Outcome} {k : Int32} {i : Nat} (h : ¬ i.toInt32 < k) : (Cond.lt (Term.index 0) (Term.int k)).value args first o s [i] = some false := by
  simp [Cond.value, Term.eval, h]
theorem own_natLe {i : Nat} {k : Int32} (hi : i < 2 ^ 31) (h : (i : Int) < k.toInt) : ¬ k ≤ i.toInt32 := by
  rw [Int32.le_iff_toInt_le, len_toInt hi]; omega
theorem own_natLt {i : Nat} {k : Int32} (hi : i < 2 ^ 31) (h : k.toInt ≤ (i : Int)) : ¬ i.toInt32 < k := by
  rw [Int32.lt_iff_toInt_lt, len_toInt hi]; omega
theorem own_elemX {args : Array Value} {Z : State} {t : Term} {a : Addr} {cl : Cell} {ty : FieldType} {k : Int32} {i : Nat} (ev : t.eval args Z none [i] Z = some (.ref a)) (A : Arr Z Z.heap a cl ty) (hi : i < 2 ^ 31) (h : (Cond.eq (Term.elem t (Term.index 0)) (Term.int k)).value args Z none Z [i] = some true) : cl.slots[i]? = some (.int k) := by
  obtain ⟨x, y, e1, e2, k1, k2⟩ := cmp_v (Or.inl h)
  rw [Term.int_eval] at e2
  cases e2
  obtain ⟨z, rfl⟩ := k2
  have q : z = k := by simpa [Cond.value, e1, Term.int_eval] using h
  subst q
  have r := (elem_in e1 ev (j := i.toInt32) rfl A.1).2
  have e : i.toInt32.toNatClampNeg = i := by
    have := len_toInt hi
    show i.toInt32.toInt.toNat = i
    omega
  rw [e] at r
  exact r
theorem own_all1 {args : Array Value} {Z : State} {t : Term} {a : Addr} {cl : Cell} {ty : FieldType} {hi' k : Int32} (ev : ∀ idx, t.eval args Z none idx Z = some (.ref a)) (A : Arr Z Z.heap a cl ty) (hs : cl.slots.size < 2 ^ 31) (h : (Cond.all t (.or (.le (.int hi') (.index 0)) (.eq (.elem t (.index 0)) (.int k)))).value args Z none Z [] = some true) (i : Nat) (h1 : i < cl.slots.size) (h2 : (i : Int) < hi'.toInt) : cl.slots[i]? = some (.int k) := by
  have q := Cond.all_elim (ev []) (IntBox.arrayAt_of A.1 A.2.1 A.2.2) h i h1
  exact own_elemX (ev [i]) A (by omega) (own_orR q (own_leIdx (own_natLe (by omega) h2)))
theorem own_all2 {args : Array Value} {Z : State} {t : Term} {a : Addr} {cl : Cell} {ty : FieldType} {lo hi' k : Int32} (ev : ∀ idx, t.eval args Z none idx Z = some (.ref a)) (A : Arr Z Z.heap a cl ty) (hs : cl.slots.size < 2 ^ 31) (h : (Cond.all t (.or (.lt (.index 0) (.int lo)) (.or (.le (.int hi') (.index 0)) (.eq (.elem t (.index 0)) (.int k))))).value args Z none Z [] = some true) (i : Nat) (h1 : i < cl.slots.size) (h0 : lo.toInt ≤ (i : Int)) (h2 : (i : Int) < hi'.toInt) : cl.slots[i]? = some (.int k) := by
  have q := Cond.all_elim (ev []) (IntBox.arrayAt_of A.1 A.2.1 A.2.2) h i h1
  exact own_elemX (ev [i]) A (by omega) (own_orR (own_orR q (own_ltIdx (own_natLt (by omega) h0))) (own_leIdx (own_natLe (by omega) h2)))

end Jvm.OwnKit

namespace Jvm.OwnKit
open Jvm.RoadKit
theorem own_01 (P : Prop) [Decidable P] : (if P then (1 : Int32) else 0) = 0 ∨ (if P then (1 : Int32) else 0) = 1 := by
  split
  · exact Or.inr rfl
  · exact Or.inl rfl
theorem own_orN {A P : Prop} [Decidable A] [Decidable P] (h : ¬ A) : (if A ∨ P then (1 : Int32) else 0) = if P then 1 else 0 := by
  by_cases q : P
  · rw [if_pos q, if_pos (Or.inr q)]
  · rw [if_neg q, if_neg (fun z => z.elim h q)]
theorem own_small {c : Int32} (h : ¬ (32 : Int32) < c) : c < (128 : Int32) := by
  rw [Int32.lt_iff_toInt_lt] at h ⊢
  have a : (32 : Int32).toInt = 32 := by decide
  have b : (128 : Int32).toInt = 128 := by decide
  omega
theorem own_char (x : Int32) : ∃ c : Int32, (x &&& (65535 : Int32)).toUInt32.toUInt16.toUInt32.toInt32 = c ∧ ¬ c < 0 := by
  refine ⟨_, rfl, ?_⟩
  have h := c_i2c (x &&& 65535)
  rw [Int32.lt_iff_toInt_lt]
  have a : (0 : Int32).toInt = 0 := by decide
  omega
theorem own_eqN {c : Int32} (h : ¬ c < 0) (k : Int32) (hk : 0 ≤ k.toInt) : c = k ↔ c.toNatClampNeg = k.toInt.toNat := by
  rw [← Int32.toInt_inj]
  rw [Int32.lt_iff_toInt_lt] at h
  have a : (0 : Int32).toInt = 0 := by decide
  show c.toInt = k.toInt ↔ c.toInt.toNat = _
  omega
theorem own_ltN {c : Int32} (h : ¬ c < 0) (k : Int32) (hk : 0 ≤ k.toInt) : k < c ↔ k.toInt.toNat < c.toNatClampNeg := by
  rw [Int32.lt_iff_toInt_lt] at h ⊢
  have a : (0 : Int32).toInt = 0 := by decide
  show _ ↔ _ < c.toInt.toNat
  omega
theorem own_ltM {c : Int32} (h : ¬ c < 0) (k : Int32) (hk : 0 ≤ k.toInt) : c < k ↔ c.toNatClampNeg < k.toInt.toNat := by
  rw [Int32.lt_iff_toInt_lt] at h ⊢
  have a : (0 : Int32).toInt = 0 := by decide
  show _ ↔ c.toInt.toNat < _
  omega
theorem own_tabA {cl : Jvm.Cell} (h : ∀ n, n < 128 → cl.slots[n]? = some (.int (if n < 33 ∨ n = 123 ∨ n = 125 ∨ n = 44 then 1 else 0))) (c : Int32) (h0 : ¬ c < 0) (h1 : c < (128 : Int32)) : cl.slots[c.toNatClampNeg]? = some (.int (if ¬ (32 : Int32) < c ∨ c = (123 : Int32) ∨ c = (125 : Int32) ∨ c = (44 : Int32) then 1 else 0)) := by
  have h2 := (own_ltM h0 128 (by decide)).mp h1
  rw [h _ h2]
  have e123 := own_eqN h0 123 (by decide)
  have e125 := own_eqN h0 125 (by decide)
  have e44 := own_eqN h0 44 (by decide)
  have e32 := own_ltN h0 32 (by decide)
  have q : (c.toNatClampNeg < 33 ∨ c.toNatClampNeg = 123 ∨ c.toNatClampNeg = 125 ∨ c.toNatClampNeg = 44) ↔ (¬ (32 : Int32) < c ∨ c = (123 : Int32) ∨ c = (125 : Int32) ∨ c = (44 : Int32)) := by
    rw [e32, e123, e125, e44]
    rw [show (32 : Int32).toInt.toNat = 32 from by decide]; rw [show (123 : Int32).toInt.toNat = 123 from by decide]; rw [show (125 : Int32).toInt.toNat = 125 from by decide]; rw [show (44 : Int32).toInt.toNat = 44 from by decide]; omega
  by_cases z : c.toNatClampNeg < 33 ∨ c.toNatClampNeg = 123 ∨ c.toNatClampNeg = 125 ∨ c.toNatClampNeg = 44
  · rw [if_pos z, if_pos (q.mp z)]
  · rw [if_neg z, if_neg (fun y => z (q.mpr y))]
theorem own_tabR {cl : Jvm.Cell} (h : ∀ n, n < 128 → cl.slots[n]? = some (.int (if n < 33 ∨ n = 44 ∨ n = 33 ∨ n = 35 ∨ n = 61 ∨ n = 60 ∨ n = 62 ∨ n = 39 ∨ n = 34 ∨ n = 37 ∨ n = 123 ∨ n = 125 then 1 else 0))) (c : Int32) (h0 : ¬ c < 0) (h1 : c < (128 : Int32)) : cl.slots[c.toNatClampNeg]? = some (.int (if ¬ (32 : Int32) < c ∨ c = (44 : Int32) ∨ c = (33 : Int32) ∨ c = (35 : Int32) ∨ c = (61 : Int32) ∨ c = (60 : Int32) ∨ c = (62 : Int32) ∨ c = (39 : Int32) ∨ c = (34 : Int32) ∨ c = (37 : Int32) ∨ c = (123 : Int32) ∨ c = (125 : Int32) then 1 else 0)) := by
  have h2 := (own_ltM h0 128 (by decide)).mp h1
  rw [h _ h2]
  have e44 := own_eqN h0 44 (by decide)
  have e33 := own_eqN h0 33 (by decide)
  have e35 := own_eqN h0 35 (by decide)
  have e61 := own_eqN h0 61 (by decide)
  have e60 := own_eqN h0 60 (by decide)
  have e62 := own_eqN h0 62 (by decide)
  have e39 := own_eqN h0 39 (by decide)
  have e34 := own_eqN h0 34 (by decide)
  have e37 := own_eqN h0 37 (by decide)
  have e123 := own_eqN h0 123 (by decide)
  have e125 := own_eqN h0 125 (by decide)
  have e32 := own_ltN h0 32 (by decide)
  have q : (c.toNatClampNeg < 33 ∨ c.toNatClampNeg = 44 ∨ c.toNatClampNeg = 33 ∨ c.toNatClampNeg = 35 ∨ c.toNatClampNeg = 61 ∨ c.toNatClampNeg = 60 ∨ c.toNatClampNeg = 62 ∨ c.toNatClampNeg = 39 ∨ c.toNatClampNeg = 34 ∨ c.toNatClampNeg = 37 ∨ c.toNatClampNeg = 123 ∨ c.toNatClampNeg = 125) ↔ (¬ (32 : Int32) < c ∨ c = (44 : Int32) ∨ c = (33 : Int32) ∨ c = (35 : Int32) ∨ c = (61 : Int32) ∨ c = (60 : Int32) ∨ c = (62 : Int32) ∨ c = (39 : Int32) ∨ c = (34 : Int32) ∨ c = (37 : Int32) ∨ c = (123 : Int32) ∨ c = (125 : Int32)) := by
    rw [e32, e44, e33, e35, e61, e60, e62, e39, e34, e37, e123, e125]
    rw [show (32 : Int32).toInt.toNat = 32 from by decide]; rw [show (44 : Int32).toInt.toNat = 44 from by decide]; rw [show (33 : Int32).toInt.toNat = 33 from by decide]; rw [show (35 : Int32).toInt.toNat = 35 from by decide]; rw [show (61 : Int32).toInt.toNat = 61 from by decide]; rw [show (60 : Int32).toInt.toNat = 60 from by decide]; rw [show (62 : Int32).toInt.toNat = 62 from by decide]; rw [show (39 : Int32).toInt.toNat = 39 from by decide]; rw [show (34 : Int32).toInt.toNat = 34 from by decide]; rw [show (37 : Int32).toInt.toNat = 37 from by decide]; rw [show (123 : Int32).toInt.toNat = 123 from by decide]; rw [show (125 : Int32).toInt.toNat = 125 from by decide]; omega
  by_cases z : c.toNatClampNeg < 33 ∨ c.toNatClampNeg = 44 ∨ c.toNatClampNeg = 33 ∨ c.toNatClampNeg = 35 ∨ c.toNatClampNeg = 61 ∨ c.toNatClampNeg = 60 ∨ c.toNatClampNeg = 62 ∨ c.toNatClampNeg = 39 ∨ c.toNatClampNeg = 34 ∨ c.toNatClampNeg = 37 ∨ c.toNatClampNeg = 123 ∨ c.toNatClampNeg = 125
  · rw [if_pos z, if_pos (q.mp z)]
  · rw [if_neg z, if_neg (fun y => z (q.mpr y))]
end Jvm.OwnKit
namespace Jvm.Pilot.@@N@@
open Jvm Jvm.ClassFile Sem Op Lib Jvm.Free Jvm.Stand Jvm.LawKit Jvm.RoadKit Jvm.OwnKit Bundle Jvm.Pilot.@@N@@.Jvm.D
theorem d1_0 : decode prog_24_method_4_code 0 = .ok (.iload_n 1, 1) := by decide +kernel
theorem d1_1 : decode prog_24_method_4_code 1 = .ok (.sipush 128, 3) := by decide +kernel
theorem d1_4 : decode prog_24_method_4_code 4 = .ok (.if_icmp .ge 16, 3) := by decide +kernel
theorem d1_7 : decode prog_24_method_4_code 7 = .ok (.aload_n 0, 1) := by decide +kernel
theorem d1_8 : decode prog_24_method_4_code 8 = .ok (.getfield 35, 3) := by decide +kernel
theorem d1_11 : decode prog_24_method_4_code 11 = .ok (.iload_n 1, 1) := by decide +kernel
theorem d1_12 : decode prog_24_method_4_code 12 = .ok (.baload, 1) := by decide +kernel
theorem d1_13 : decode prog_24_method_4_code 13 = .ok (.ifCond .eq 7, 3) := by decide +kernel
theorem d1_16 : decode prog_24_method_4_code 16 = .ok (.iconst 1, 1) := by decide +kernel
theorem d1_17 : decode prog_24_method_4_code 17 = .ok (.goto 4, 3) := by decide +kernel
theorem d1_20 : decode prog_24_method_4_code 20 = .ok (.iconst 0, 1) := by decide +kernel
theorem d1_21 : decode prog_24_method_4_code 21 = .ok (.ireturn, 1) := by decide +kernel
theorem pn_0 : plainName "com/example/inkwell/inkwell/io/LineTokenizer$Syntax" = true := by first | (simp [plainName, overriddenIn]; done) | decide +kernel
theorem ef_rm1 (m : MethodId) (x0 : Addr) (x1 : Int32) : entryFrame m #[(.ref x0), (.int x1)] 2 = mkF m 0 #[.val (.ref x0), .val (.int x1)] [] := by first | rfl | (simp [entryFrame, mkF, argsToLocals, Value.category]; done)
def Q1 (Z : State) (a1 : Addr) (p1 : Int32) (wa : Addr) (cl : Cell) (r : Int32) (h0 : Heap) (n0 : Nat) (v : Option Value) (h : Heap) (L : List Loc) : Prop := v = some (.int r) ∧ Fr n0 L ∧ h = h0
set_option maxRecDepth 65536 in
set_option maxHeartbeats 40000000 in
theorem rm1 (l : Launch) (Z : State) (a0 : Array Value) (hw : ∀ d ∈ tables_1, d.before a0 Z = true) (ws : List Jvm.Cond) (a1 : Addr) (p1 : Int32) (wa : Addr) (cl : Cell) (r : Int32) (h0 : Heap) (n0 : Nat) (Z0 : n0 ≤ h0.size) (FW : Fld Z h0 a1 "com/example/inkwell/inkwell/io/LineTokenizer$Syntax" "wordEnds" "[Z" (.ref wa)) (AW : Arr Z h0 wa cl .boolean) (hsz : cl.slots.size = (128 : Int32).toNatClampNeg) (hp0 : ¬ p1 < 0) (hv : p1 < (128 : Int32) → cl.slots[p1.toNatClampNeg]? = some (.int r)) (h01 : r = 0 ∨ r = 1) (hge : ¬ p1 < (128 : Int32) → r = 0) :
    MetFree l (⟨"com/example/inkwell/inkwell/io/LineTokenizer$Syntax", "endsWord", "(C)Z"⟩ : MethodName) (head1 (Jvm.Cond.code (⟨"com/example/inkwell/inkwell/io/LineTokenizer$Syntax", "endsWord", "(C)Z"⟩ : MethodName) prog_24_method_4_code 2 (some .boolean) :: ws) ({ frames := 0, cells := 0, slots := 0, locals := 0 } : Room)) (fun a U => a = #[(.ref a1), (.int p1)] ∧ Z.Warmed39 U.vm ∧ U.heap = h0) (fun _ _ _ _ _ => True) (fun _ U o U' => ∃ v L, o = .returned v ∧ Q1 Z a1 p1 wa cl r h0 n0 v U'.heap L ∧ FrameEnd U o U' L ({ frames := 0, cells := 0, slots := 0, locals := 0 } : Room).cells ({ frames := 0, cells := 0, slots := 0, locals := 0 } : Room).slots) := by
  refine MetFree.of_bodySF (plainFor_of_name pn_0) hisR ?_
  intro p e s m args below meth c s₁ Bd hml0 hP hK
  obtain ⟨rfl, hZ, hh⟩ := hP
  have hx := Bd.exec
  have hby := Bd.bytes
  have hml : c.maxLocals = 2 := hml0
  have hown : s.vm.findClass "com/example/inkwell/inkwell/io/LineTokenizer$Syntax" = some m.cls := findClass_of_methodNamed Bd.named
  have hnm := (name_of_methodNamed Bd.named Bd.method).1
  have hlk : meth.locks = false := Bd.notSynchronized
  have hret := Bd.returns
  have X0 : Stand p l e ({ frames := 0, cells := 0, slots := 0, locals := 0 } : Room) s m #[(.ref a1), (.int p1)] below meth c s₁ [] 0 0 := Stand.of_body Bd
  have e0 : s₁.heap = h0 := by rw [← hh, Bd.state]; rfl
  have N0 := Fr.nil n0
  show Go p e below s₁ (entryFrame m #[(.ref a1), (.int p1)] 2) (Fin s (Q1 Z a1 p1 wa cl r h0 n0) ({ frames := 0, cells := 0, slots := 0, locals := 0 } : Room).cells ({ frames := 0, cells := 0, slots := 0, locals := 0 } : Room).slots)
  rw [ef_rm1]
  show Go p e below s₁ (mkF m 0 #[.val (.ref a1), .val (.int p1)] []) _
  refine Go.step (fun _ => XS.iloadN X0.here hx rfl (hb hby d1_0) rfl ) ?_
  show Go p e below s₁ (mkF m 1 #[.val (.ref a1), .val (.int p1)] [(.int p1)]) _
  refine Go.step (fun _ => XS.sipush X0.here hx rfl (hb hby d1_1)) ?_
  show Go p e below s₁ (mkF m 4 #[.val (.ref a1), .val (.int p1)] [(.int (128 : Int32)), (.int p1)]) _
  by_cases hc4 : p1 < (128 : Int32)
  · skip
    refine Go.step (fun _ => XS.icmpNo X0.here hx rfl (hb hby d1_4) rfl (tlt hc4).2.1) ?_
    show Go p e below s₁ (mkF m 7 #[.val (.ref a1), .val (.int p1)] []) _
    refine Go.step (fun _ => XS.aloadN X0.here hx rfl (hb hby d1_7) rfl rfl ) ?_
    show Go p e below s₁ (mkF m 8 #[.val (.ref a1), .val (.int p1)] [(.ref a1)]) _
    obtain ⟨T1, X1, e1, st1⟩ := getF X0 hx hZ hown (host := "") (Or.inl (hw _ (List.mem_of_getElem? (i := 9) rfl))) Via.refl e0 FW (g := (mkF m 8 #[.val (.ref a1), .val (.int p1)] [(.ref a1)])) rfl rfl (hb hby d1_8)
    refine Go.step st1 ?_
    show Go p e below T1 (mkF m 11 #[.val (.ref a1), .val (.int p1)] [(.ref wa)]) _
    refine Go.step (fun _ => XS.iloadN X1.here hx rfl (hb hby d1_11) rfl ) ?_
    show Go p e below T1 (mkF m 12 #[.val (.ref a1), .val (.int p1)] [(.int p1), (.ref wa)]) _
    refine Go.step (fun _ => X1.baloadBooleans hx (j := p1) (v := (.int r)) (by rw [e1]; exact AW.1) (State.isArrayOf_alike hZ.alike AW.2.1) AW.2.2 (inb_of hsz ⟨hp0, hc4⟩) (hv hc4) (g := (mkF m 12 #[.val (.ref a1), .val (.int p1)] [(.int p1), (.ref wa)])) rfl rfl (hb hby d1_12) _) ?_
    show Go p e below T1 (mkF m 13 #[.val (.ref a1), .val (.int p1)] [(.int r)]) _
    by_cases hc13 : r = (0 : Int32)
    · skip
      refine Go.step (fun _ => XS.ifYes X1.here hx rfl (pc0 := 13) (pc' := 20) rfl (hb hby d1_13) rfl ((if0 _ _).trans (teq hc13).1) (by decide) (by decide)) ?_
      show Go p e below T1 (mkF m 20 #[.val (.ref a1), .val (.int p1)] []) _
      refine Go.step (fun _ => XS.iconst X1.here hx rfl (hb hby d1_20)) ?_
      show Go p e below T1 (mkF m 21 #[.val (.ref a1), .val (.int p1)] [(.int (0 : Int32))]) _
      refine Go.retN (t := .boolean) (z' := (0 : Int32)) X1 hx hret (by simp) hlk (hb hby d1_21) (by decide) ?_ (by decide) (by decide)
      exact ⟨by rw [hc13], N0, e1⟩
    · skip
      refine Go.step (fun _ => XS.ifNo X1.here hx rfl (hb hby d1_13) rfl ((if0 _ _).trans (feq hc13).1)) ?_
      show Go p e below T1 (mkF m 16 #[.val (.ref a1), .val (.int p1)] []) _
      refine Go.step (fun _ => XS.iconst X1.here hx rfl (hb hby d1_16)) ?_
      show Go p e below T1 (mkF m 17 #[.val (.ref a1), .val (.int p1)] [(.int (1 : Int32))]) _
      refine Go.step (fun _ => XS.goto X1.here hx rfl (pc0 := 17) (pc' := 21) rfl (hb hby d1_17) (by decide) (by decide)) ?_
      show Go p e below T1 (mkF m 21 #[.val (.ref a1), .val (.int p1)] [(.int (1 : Int32))]) _
      refine Go.retN (t := .boolean) (z' := (1 : Int32)) X1 hx hret (by simp) hlk (hb hby d1_21) (by decide) ?_ (by decide) (by decide)
      exact ⟨by rw [h01.resolve_left hc13], N0, e1⟩
  · skip
    refine Go.step (fun _ => XS.icmpYes X0.here hx rfl (pc0 := 4) (pc' := 20) rfl (hb hby d1_4) rfl (flt hc4).2.1 (by decide) (by decide)) ?_
    show Go p e below s₁ (mkF m 20 #[.val (.ref a1), .val (.int p1)] []) _
    refine Go.step (fun _ => XS.iconst X0.here hx rfl (hb hby d1_20)) ?_
    show Go p e below s₁ (mkF m 21 #[.val (.ref a1), .val (.int p1)] [(.int (0 : Int32))]) _
    refine Go.retN (t := .boolean) (z' := (0 : Int32)) X0 hx hret (by simp) hlk (hb hby d1_21) (by decide) ?_ (by decide) (by decide)
    exact ⟨by rw [hge hc4], N0, e0⟩
theorem pn_1 : plainName "com/example/inkwell/inkwell/io/SyntaxEndsWordPinLaw" = true := by first | (simp [plainName, overriddenIn]; done) | decide +kernel
theorem pd_0 : parseMethodDescriptor "(C)Z" = some ⟨[.char], some .boolean⟩ := by decide +kernel
theorem ef_rm0 (m : MethodId) (x0 : Int32) : entryFrame m #[(.int x0)] maxLocals = mkF m 0 #[.val (.int x0), .unset, .unset, .unset, .unset, .unset, .unset] [] := by first | rfl | (simp [entryFrame, mkF, argsToLocals, Value.category, maxLocals]; done)
def Q0 (Z : State) (p0 : Int32) (wA wR vA vR : Addr) (clA clR : Cell) (h0 : Heap) (n0 : Nat) (v : Option Value) (h : Heap) (L : List Loc) : Prop := v = some (.int 1) ∧ Fr n0 L
set_option maxRecDepth 65536 in
set_option maxHeartbeats 40000000 in
theorem rm0 (l : Launch) (Z : State) (a0 : Array Value) (hw : ∀ d ∈ tables_1, d.before a0 Z = true) (ws : List Jvm.Cond) (p0 : Int32) (wA wR vA vR : Addr) (clA clR : Cell) (h0 : Heap) (n0 : Nat) (Z0 : n0 ≤ h0.size) (SA : Sta Z h0 "com/example/inkwell/inkwell/io/LineTokenizer$Syntax" "ARFF" "Lcom/example/inkwell/inkwell/io/LineTokenizer$Syntax;" (.ref wA)) (EwA : Exa Z h0 wA "com/example/inkwell/inkwell/io/LineTokenizer$Syntax") (FA : Fld Z h0 wA "com/example/inkwell/inkwell/io/LineTokenizer$Syntax" "wordEnds" "[Z" (.ref vA)) (AA : Arr Z h0 vA clA .boolean) (hszA : clA.slots.size = (128 : Int32).toNatClampNeg) (hA : ∀ c : Int32, ¬ c < 0 → c < (128 : Int32) → clA.slots[c.toNatClampNeg]? = some (.int (if ¬ (32 : Int32) < c ∨ c = (123 : Int32) ∨ c = (125 : Int32) ∨ c = (44 : Int32) then 1 else 0))) (SR : Sta Z h0 "com/example/inkwell/inkwell/io/LineTokenizer$Syntax" "RULES" "Lcom/example/inkwell/inkwell/io/LineTokenizer$Syntax;" (.ref wR)) (EwR : Exa Z h0 wR "com/example/inkwell/inkwell/io/LineTokenizer$Syntax") (FR : Fld Z h0 wR "com/example/inkwell/inkwell/io/LineTokenizer$Syntax" "wordEnds" "[Z" (.ref vR)) (AR : Arr Z h0 vR clR .boolean) (hszR : clR.slots.size = (128 : Int32).toNatClampNeg) (hR : ∀ c : Int32, ¬ c < 0 → c < (128 : Int32) → clR.slots[c.toNatClampNeg]? = some (.int (if ¬ (32 : Int32) < c ∨ c = (44 : Int32) ∨ c = (33 : Int32) ∨ c = (35 : Int32) ∨ c = (61 : Int32) ∨ c = (60 : Int32) ∨ c = (62 : Int32) ∨ c = (39 : Int32) ∨ c = (34 : Int32) ∨ c = (37 : Int32) ∨ c = (123 : Int32) ∨ c = (125 : Int32) then 1 else 0))) :
    MetFree l x (head1 (Jvm.Cond.code x code maxLocals ret :: ws) room_1) (fun a U => a = #[(.int p0)] ∧ Z.Warmed39 U.vm ∧ U.heap = h0) (fun _ _ _ _ _ => True) (fun _ U o U' => ∃ v L, o = .returned v ∧ Q0 Z p0 wA wR vA vR clA clR h0 n0 v U'.heap L ∧ FrameEnd U o U' L 0 0) := by
  refine MetFree.of_bodySF (plainFor_of_name pn_1) hisR ?_
  intro p e s m args below meth c s₁ Bd hml0 hP hK
  obtain ⟨rfl, hZ, hh⟩ := hP
  have hx := Bd.exec
  have hby := Bd.bytes
  have hml : c.maxLocals = 7 := hml0
  have hown : s.vm.findClass "com/example/inkwell/inkwell/io/SyntaxEndsWordPinLaw" = some m.cls := findClass_of_methodNamed Bd.named
  have hnm := (name_of_methodNamed Bd.named Bd.method).1
  have hlk : meth.locks = false := Bd.notSynchronized
  have hret := Bd.returns
  have X0 : Stand p l e room_1 s m #[(.int p0)] below meth c s₁ [] 0 0 := Stand.of_body Bd
  have e0 : s₁.heap = h0 := by rw [← hh, Bd.state]; rfl
  have N0 := Fr.nil n0
  show Go p e below s₁ (entryFrame m #[(.int p0)] maxLocals) (Fin s (Q0 Z p0 wA wR vA vR clA clR h0 n0) 0 0)
  rw [ef_rm0]
  show Go p e below s₁ (mkF m 0 #[.val (.int p0), .unset, .unset, .unset, .unset, .unset, .unset] []) _
  refine Go.step (fun _ => XS.iloadN X0.here hx rfl (hb hby at_0) rfl ) ?_
  show Go p e below s₁ (mkF m 1 #[.val (.int p0), .unset, .unset, .unset, .unset, .unset, .unset] [(.int p0)]) _
  refine Go.step (fun _ => X0.ldcInt hx hown (mvT hZ (hw _ (List.mem_of_getElem? (i := 0) rfl))) (g := (mkF m 1 #[.val (.int p0), .unset, .unset, .unset, .unset, .unset, .unset] [(.int p0)])) rfl (hb hby at_1) _) ?_
  show Go p e below s₁ (mkF m 3 #[.val (.int p0), .unset, .unset, .unset, .unset, .unset, .unset] [(.int (65535 : Int32)), (.int p0)]) _
  refine Go.step (fun _ => XS.iand X0.here hx rfl (hb hby at_3) rfl) ?_
  show Go p e below s₁ (mkF m 4 #[.val (.int p0), .unset, .unset, .unset, .unset, .unset, .unset] [(.int (p0 &&& (65535 : Int32)))]) _
  refine Go.step (fun _ => XS.i2c X0.here hx rfl (hb hby at_4) rfl) ?_
  show Go p e below s₁ (mkF m 5 #[.val (.int p0), .unset, .unset, .unset, .unset, .unset, .unset] [(.int ((p0 &&& (65535 : Int32)).toUInt32.toUInt16.toUInt32.toInt32))]) _
  obtain ⟨ch, hch, hp0⟩ := own_char p0
  rw [hch]
  show Go p e below s₁ (mkF m 5 #[.val (.int p0), .unset, .unset, .unset, .unset, .unset, .unset] [(.int ch)]) _
  refine Go.step (fun _ => XS.istoreN X0.here hx rfl (hb hby at_5) rfl (l' := #[.val (.int p0), .val (.int ch), .unset, .unset, .unset, .unset, .unset]) rfl) ?_
  show Go p e below s₁ (mkF m 6 #[.val (.int p0), .val (.int ch), .unset, .unset, .unset, .unset, .unset] []) _
  refine Go.step (fun _ => XS.iloadN X0.here hx rfl (hb hby at_6) rfl ) ?_
  show Go p e below s₁ (mkF m 7 #[.val (.int p0), .val (.int ch), .unset, .unset, .unset, .unset, .unset] [(.int ch)]) _
  refine Go.step (fun _ => XS.bipush X0.here hx rfl (hb hby at_7)) ?_
  show Go p e below s₁ (mkF m 9 #[.val (.int p0), .val (.int ch), .unset, .unset, .unset, .unset, .unset] [(.int (32 : Int32)), (.int ch)]) _
  by_cases hc9 : (32 : Int32) < ch
  · skip
    refine Go.step (fun _ => XS.icmpYes X0.here hx rfl (pc0 := 9) (pc' := 16) rfl (hb hby at_9) rfl (tlt hc9).2.2.1 (by decide) (by decide)) ?_
    show Go p e below s₁ (mkF m 16 #[.val (.int p0), .val (.int ch), .unset, .unset, .unset, .unset, .unset] []) _
    refine Go.step (fun _ => XS.iconst X0.here hx rfl (hb hby at_16)) ?_
    show Go p e below s₁ (mkF m 17 #[.val (.int p0), .val (.int ch), .unset, .unset, .unset, .unset, .unset] [(.int (0 : Int32))]) _
    refine Go.step (fun _ => XS.istoreN X0.here hx rfl (hb hby at_17) rfl (l' := #[.val (.int p0), .val (.int ch), .val (.int (0 : Int32)), .unset, .unset, .unset, .unset]) rfl) ?_
    show Go p e below s₁ (mkF m 18 #[.val (.int p0), .val (.int ch), .val (.int (0 : Int32)), .unset, .unset, .unset, .unset] []) _
    refine Go.step (fun _ => XS.iloadN X0.here hx rfl (hb hby at_18) rfl ) ?_
    show Go p e below s₁ (mkF m 19 #[.val (.int p0), .val (.int ch), .val (.int (0 : Int32)), .unset, .unset, .unset, .unset] [(.int (0 : Int32))]) _
    refine Go.step (fun _ => XS.ifNo X0.here hx rfl (hb hby at_19) rfl ((if0 _ _).trans (teq (by decide)).2)) ?_
    have JA : ∀ (bA : Int32) (hbA : bA = if ch = (123 : Int32) ∨ ch = (125 : Int32) ∨ ch = (44 : Int32) then 1 else 0), Go p e below s₁ (mkF m 45 #[.val (.int p0), .val (.int ch), .val (.int (0 : Int32)), .unset, .unset, .unset, .unset] [(.int bA)]) (Fin s (Q0 Z p0 wA wR vA vR clA clR h0 n0) 0 0) := by
      intro bA hbA
      show Go p e below s₁ (mkF m 45 #[.val (.int p0), .val (.int ch), .val (.int (0 : Int32)), .unset, .unset, .unset, .unset] [(.int bA)]) _
      refine Go.step (fun _ => XS.istoreN X0.here hx rfl (hb hby at_45) rfl (l' := #[.val (.int p0), .val (.int ch), .val (.int (0 : Int32)), .val (.int bA), .unset, .unset, .unset]) rfl) ?_
      show Go p e below s₁ (mkF m 46 #[.val (.int p0), .val (.int ch), .val (.int (0 : Int32)), .val (.int bA), .unset, .unset, .unset] []) _
      refine Go.step (fun _ => XS.iloadN X0.here hx rfl (hb hby at_46) rfl ) ?_
      show Go p e below s₁ (mkF m 47 #[.val (.int p0), .val (.int ch), .val (.int (0 : Int32)), .val (.int bA), .unset, .unset, .unset] [(.int (0 : Int32))]) _
      refine Go.step (fun _ => XS.ifNo X0.here hx rfl (hb hby at_47) rfl ((if0 _ _).trans (teq (by decide)).2)) ?_
      have JR : ∀ (bR : Int32) (hbR : bR = if ch = (44 : Int32) ∨ ch = (33 : Int32) ∨ ch = (35 : Int32) ∨ ch = (61 : Int32) ∨ ch = (60 : Int32) ∨ ch = (62 : Int32) ∨ ch = (39 : Int32) ∨ ch = (34 : Int32) ∨ ch = (37 : Int32) ∨ ch = (123 : Int32) ∨ ch = (125 : Int32) then 1 else 0), Go p e below s₁ (mkF m 121 #[.val (.int p0), .val (.int ch), .val (.int (0 : Int32)), .val (.int bA), .unset, .unset, .unset] [(.int bR)]) (Fin s (Q0 Z p0 wA wR vA vR clA clR h0 n0) 0 0) := by
        intro bR hbR
        show Go p e below s₁ (mkF m 121 #[.val (.int p0), .val (.int ch), .val (.int (0 : Int32)), .val (.int bA), .unset, .unset, .unset] [(.int bR)]) _
        refine Go.step (fun _ => XS.istore X0.here hx rfl (hb hby at_121) rfl (l' := #[.val (.int p0), .val (.int ch), .val (.int (0 : Int32)), .val (.int bA), .val (.int bR), .unset, .unset]) rfl) ?_
        show Go p e below s₁ (mkF m 123 #[.val (.int p0), .val (.int ch), .val (.int (0 : Int32)), .val (.int bA), .val (.int bR), .unset, .unset] []) _
        obtain ⟨T2, X2, e2, st2⟩ := getS2 X0 hx hZ hown (host := "") (Or.inl (hw _ (List.mem_of_getElem? (i := 1) rfl))) Via.refl e0 SA (g := (mkF m 123 #[.val (.int p0), .val (.int ch), .val (.int (0 : Int32)), .val (.int bA), .val (.int bR), .unset, .unset] [])) rfl (hb hby at_123)
        refine Go.step st2 ?_
        show Go p e below T2 (mkF m 126 #[.val (.int p0), .val (.int ch), .val (.int (0 : Int32)), .val (.int bA), .val (.int bR), .unset, .unset] [(.ref wA)]) _
        refine Go.step (fun _ => XS.iloadN X2.here hx rfl (hb hby at_126) rfl ) ?_
        show Go p e below T2 (mkF m 127 #[.val (.int p0), .val (.int ch), .val (.int (0 : Int32)), .val (.int bA), .val (.int bR), .unset, .unset] [(.int ch), (.ref wA)]) _
        obtain ⟨cq3, kq3, q3a, q3b, q3c⟩ := isOf hZ e2 EwA
        obtain ⟨_, _, ⟨T3, L3, k3, n3⟩, -, X3, ⟨Lc3, hQ3, l3, y3, z3⟩, st3⟩ := X2.virtualBack hx (y := (⟨"com/example/inkwell/inkwell/io/LineTokenizer$Syntax", "endsWord", "(C)Z"⟩ : MethodName)) (z := (⟨"com/example/inkwell/inkwell/io/LineTokenizer$Syntax", "endsWord", "(C)Z"⟩ : MethodName)) hown (mvT hZ (hw _ (List.mem_of_getElem? (i := 4) rfl))) (mvT hZ (hw _ (List.mem_of_getElem? (i := 5) rfl))) (notFace_of_selects (args := #[]) (mvT hZ (hw _ (List.mem_of_getElem? (i := 7) rfl)))) (mvT hZ (hw _ (List.mem_of_getElem? (i := 7) rfl))) (mvT hZ (hw _ (List.mem_of_getElem? (i := 6) rfl))) (by decide) (backOf (W := 0) (rm1 l Z a0 hw [] wA ch vA clA bA h0 n0 Z0 FA AA hszA hp0 (fun q => by rw [hA ch hp0 q, own_orN (fun z => z hc9), hbA]) (hbA ▸ own_01 _) (fun q => by rw [hbA, if_neg (fun z => by rcases z with rfl | rfl | rfl <;> exact q (by decide))])) hZ (hw _ (List.mem_of_getElem? (i := 8) rfl)) (hw _ (List.mem_of_getElem? (i := 2) rfl)) (by decide) (by decide)) q3a q3c (g := (mkF m 127 #[.val (.int p0), .val (.int ch), .val (.int (0 : Int32)), .val (.int bA), .val (.int bR), .unset, .unset] [(.int ch), (.ref wA)])) rfl (by rw [hml]; rfl) (Steps.refl _) (argsL := [(.int ch)]) (rest := []) (lenOf pd_0 rfl) rfl (by show 2 * 0 + _ ≤ _; exact Nat.le_of_eq rfl) (hb hby at_127) (fun _ _ => ⟨rfl, e2, (by decide : 0 + 0 ≤ _), (by decide : 0 + 0 ≤ _)⟩)
        dsimp only [Pt.U, Pt.locs, Pt.cells, Pt.slots] at X3 l3 y3 z3 st3 hQ3
        subst l3 y3 z3
        obtain ⟨rfl, Nq3, eh3⟩ := hQ3
        have N3 := Fr.app N0 Nq3
        refine Go.call st3 ?_
        show Go p e below T3 (mkF m 130 #[.val (.int p0), .val (.int ch), .val (.int (0 : Int32)), .val (.int bA), .val (.int bR), .unset, .unset] [(.int bA)]) _
        refine Go.step (fun _ => XS.istore X3.here hx rfl (hb hby at_130) rfl (l' := #[.val (.int p0), .val (.int ch), .val (.int (0 : Int32)), .val (.int bA), .val (.int bR), .val (.int bA), .unset]) rfl) ?_
        show Go p e below T3 (mkF m 132 #[.val (.int p0), .val (.int ch), .val (.int (0 : Int32)), .val (.int bA), .val (.int bR), .val (.int bA), .unset] []) _
        obtain ⟨T4, X4, e4, st4⟩ := getS2 X3 hx hZ hown (host := "") (Or.inl (hw _ (List.mem_of_getElem? (i := 11) rfl))) Via.refl eh3 SR (g := (mkF m 132 #[.val (.int p0), .val (.int ch), .val (.int (0 : Int32)), .val (.int bA), .val (.int bR), .val (.int bA), .unset] [])) rfl (hb hby at_132)
        refine Go.step st4 ?_
        show Go p e below T4 (mkF m 135 #[.val (.int p0), .val (.int ch), .val (.int (0 : Int32)), .val (.int bA), .val (.int bR), .val (.int bA), .unset] [(.ref wR)]) _
        refine Go.step (fun _ => XS.iloadN X4.here hx rfl (hb hby at_135) rfl ) ?_
        show Go p e below T4 (mkF m 136 #[.val (.int p0), .val (.int ch), .val (.int (0 : Int32)), .val (.int bA), .val (.int bR), .val (.int bA), .unset] [(.int ch), (.ref wR)]) _
        obtain ⟨cq5, kq5, q5a, q5b, q5c⟩ := isOf hZ e4 EwR
        obtain ⟨_, _, ⟨T5, L5, k5, n5⟩, -, X5, ⟨Lc5, hQ5, l5, y5, z5⟩, st5⟩ := X4.virtualBack hx (y := (⟨"com/example/inkwell/inkwell/io/LineTokenizer$Syntax", "endsWord", "(C)Z"⟩ : MethodName)) (z := (⟨"com/example/inkwell/inkwell/io/LineTokenizer$Syntax", "endsWord", "(C)Z"⟩ : MethodName)) hown (mvT hZ (hw _ (List.mem_of_getElem? (i := 4) rfl))) (mvT hZ (hw _ (List.mem_of_getElem? (i := 5) rfl))) (notFace_of_selects (args := #[]) (mvT hZ (hw _ (List.mem_of_getElem? (i := 7) rfl)))) (mvT hZ (hw _ (List.mem_of_getElem? (i := 7) rfl))) (mvT hZ (hw _ (List.mem_of_getElem? (i := 6) rfl))) (by decide) (backOf (W := 0) (rm1 l Z a0 hw [] wR ch vR clR bR h0 n0 Z0 FR AR hszR hp0 (fun q => by rw [hR ch hp0 q, own_orN (fun z => z hc9), hbR]) (hbR ▸ own_01 _) (fun q => by rw [hbR, if_neg (fun z => by rcases z with rfl | rfl | rfl | rfl | rfl | rfl | rfl | rfl | rfl | rfl | rfl <;> exact q (by decide))])) hZ (hw _ (List.mem_of_getElem? (i := 8) rfl)) (hw _ (List.mem_of_getElem? (i := 2) rfl)) (by decide) (by decide)) q5a q5c (g := (mkF m 136 #[.val (.int p0), .val (.int ch), .val (.int (0 : Int32)), .val (.int bA), .val (.int bR), .val (.int bA), .unset] [(.int ch), (.ref wR)])) rfl (by rw [hml]; rfl) (Steps.refl _) (argsL := [(.int ch)]) (rest := []) (lenOf pd_0 rfl) rfl (by show 2 * 0 + _ ≤ _; exact Nat.le_of_eq rfl) (hb hby at_136) (fun _ _ => ⟨rfl, e4, (by decide : 0 + 0 + 0 ≤ _), (by decide : 0 + 0 + 0 ≤ _)⟩)
        dsimp only [Pt.U, Pt.locs, Pt.cells, Pt.slots] at X5 l5 y5 z5 st5 hQ5
        subst l5 y5 z5
        obtain ⟨rfl, Nq5, eh5⟩ := hQ5
        have N5 := Fr.app N3 Nq5
        refine Go.call st5 ?_
        show Go p e below T5 (mkF m 139 #[.val (.int p0), .val (.int ch), .val (.int (0 : Int32)), .val (.int bA), .val (.int bR), .val (.int bA), .unset] [(.int bR)]) _
        refine Go.step (fun _ => XS.istore X5.here hx rfl (hb hby at_139) rfl (l' := #[.val (.int p0), .val (.int ch), .val (.int (0 : Int32)), .val (.int bA), .val (.int bR), .val (.int bA), .val (.int bR)]) rfl) ?_
        show Go p e below T5 (mkF m 141 #[.val (.int p0), .val (.int ch), .val (.int (0 : Int32)), .val (.int bA), .val (.int bR), .val (.int bA), .val (.int bR)] []) _
        refine Go.step (fun _ => XS.iload X5.here hx rfl (hb hby at_141) rfl ) ?_
        show Go p e below T5 (mkF m 143 #[.val (.int p0), .val (.int ch), .val (.int (0 : Int32)), .val (.int bA), .val (.int bR), .val (.int bA), .val (.int bR)] [(.int bA)]) _
        refine Go.step (fun _ => XS.iloadN X5.here hx rfl (hb hby at_143) rfl ) ?_
        show Go p e below T5 (mkF m 144 #[.val (.int p0), .val (.int ch), .val (.int (0 : Int32)), .val (.int bA), .val (.int bR), .val (.int bA), .val (.int bR)] [(.int bA), (.int bA)]) _
        refine Go.step (fun _ => XS.icmpNo X5.here hx rfl (hb hby at_144) rfl (teq rfl).2) ?_
        show Go p e below T5 (mkF m 147 #[.val (.int p0), .val (.int ch), .val (.int (0 : Int32)), .val (.int bA), .val (.int bR), .val (.int bA), .val (.int bR)] []) _
        refine Go.step (fun _ => XS.iload X5.here hx rfl (hb hby at_147) rfl ) ?_
        show Go p e below T5 (mkF m 149 #[.val (.int p0), .val (.int ch), .val (.int (0 : Int32)), .val (.int bA), .val (.int bR), .val (.int bA), .val (.int bR)] [(.int bR)]) _
        refine Go.step (fun _ => XS.iload X5.here hx rfl (hb hby at_149) rfl ) ?_
        show Go p e below T5 (mkF m 151 #[.val (.int p0), .val (.int ch), .val (.int (0 : Int32)), .val (.int bA), .val (.int bR), .val (.int bA), .val (.int bR)] [(.int bR), (.int bR)]) _
        refine Go.step (fun _ => XS.icmpNo X5.here hx rfl (hb hby at_151) rfl (teq rfl).2) ?_
        show Go p e below T5 (mkF m 154 #[.val (.int p0), .val (.int ch), .val (.int (0 : Int32)), .val (.int bA), .val (.int bR), .val (.int bA), .val (.int bR)] []) _
        refine Go.step (fun _ => XS.iconst X5.here hx rfl (hb hby at_154)) ?_
        show Go p e below T5 (mkF m 155 #[.val (.int p0), .val (.int ch), .val (.int (0 : Int32)), .val (.int bA), .val (.int bR), .val (.int bA), .val (.int bR)] [(.int (1 : Int32))]) _
        refine Go.step (fun _ => XS.goto X5.here hx rfl (pc0 := 155) (pc' := 159) rfl (hb hby at_155) (by decide) (by decide)) ?_
        show Go p e below T5 (mkF m 159 #[.val (.int p0), .val (.int ch), .val (.int (0 : Int32)), .val (.int bA), .val (.int bR), .val (.int bA), .val (.int bR)] [(.int (1 : Int32))]) _
        refine Go.retN (t := .boolean) (z' := (1 : Int32)) X5 hx hret (by simp) hlk (hb hby at_159) (by decide) ?_ (by decide) (by decide)
        exact ⟨rfl, N5⟩
      show Go p e below s₁ (mkF m 50 #[.val (.int p0), .val (.int ch), .val (.int (0 : Int32)), .val (.int bA), .unset, .unset, .unset] []) _
      refine Go.step (fun _ => XS.iloadN X0.here hx rfl (hb hby at_50) rfl ) ?_
      show Go p e below s₁ (mkF m 51 #[.val (.int p0), .val (.int ch), .val (.int (0 : Int32)), .val (.int bA), .unset, .unset, .unset] [(.int ch)]) _
      refine Go.step (fun _ => XS.bipush X0.here hx rfl (hb hby at_51)) ?_
      show Go p e below s₁ (mkF m 53 #[.val (.int p0), .val (.int ch), .val (.int (0 : Int32)), .val (.int bA), .unset, .unset, .unset] [(.int (44 : Int32)), (.int ch)]) _
      by_cases hc53 : ch = (44 : Int32)
      · skip
        refine Go.step (fun _ => XS.icmpYes X0.here hx rfl (pc0 := 53) (pc' := 116) rfl (hb hby at_53) rfl (teq hc53).1 (by decide) (by decide)) ?_
        show Go p e below s₁ (mkF m 116 #[.val (.int p0), .val (.int ch), .val (.int (0 : Int32)), .val (.int bA), .unset, .unset, .unset] []) _
        refine Go.step (fun _ => XS.iconst X0.here hx rfl (hb hby at_116)) ?_
        show Go p e below s₁ (mkF m 117 #[.val (.int p0), .val (.int ch), .val (.int (0 : Int32)), .val (.int bA), .unset, .unset, .unset] [(.int (1 : Int32))]) _
        refine Go.step (fun _ => XS.goto X0.here hx rfl (pc0 := 117) (pc' := 121) rfl (hb hby at_117) (by decide) (by decide)) ?_
        show Go p e below s₁ (mkF m 121 #[.val (.int p0), .val (.int ch), .val (.int (0 : Int32)), .val (.int bA), .unset, .unset, .unset] [(.int (1 : Int32))]) _
        exact JR _ (by rw [if_pos (Or.inl hc53)])
      · skip
        refine Go.step (fun _ => XS.icmpNo X0.here hx rfl (hb hby at_53) rfl (feq hc53).1) ?_
        show Go p e below s₁ (mkF m 56 #[.val (.int p0), .val (.int ch), .val (.int (0 : Int32)), .val (.int bA), .unset, .unset, .unset] []) _
        refine Go.step (fun _ => XS.iloadN X0.here hx rfl (hb hby at_56) rfl ) ?_
        show Go p e below s₁ (mkF m 57 #[.val (.int p0), .val (.int ch), .val (.int (0 : Int32)), .val (.int bA), .unset, .unset, .unset] [(.int ch)]) _
        refine Go.step (fun _ => XS.bipush X0.here hx rfl (hb hby at_57)) ?_
        show Go p e below s₁ (mkF m 59 #[.val (.int p0), .val (.int ch), .val (.int (0 : Int32)), .val (.int bA), .unset, .unset, .unset] [(.int (33 : Int32)), (.int ch)]) _
        by_cases hc59 : ch = (33 : Int32)
        · skip
          refine Go.step (fun _ => XS.icmpYes X0.here hx rfl (pc0 := 59) (pc' := 116) rfl (hb hby at_59) rfl (teq hc59).1 (by decide) (by decide)) ?_
          show Go p e below s₁ (mkF m 116 #[.val (.int p0), .val (.int ch), .val (.int (0 : Int32)), .val (.int bA), .unset, .unset, .unset] []) _
          refine Go.step (fun _ => XS.iconst X0.here hx rfl (hb hby at_116)) ?_
          show Go p e below s₁ (mkF m 117 #[.val (.int p0), .val (.int ch), .val (.int (0 : Int32)), .val (.int bA), .unset, .unset, .unset] [(.int (1 : Int32))]) _
          refine Go.step (fun _ => XS.goto X0.here hx rfl (pc0 := 117) (pc' := 121) rfl (hb hby at_117) (by decide) (by decide)) ?_
          show Go p e below s₁ (mkF m 121 #[.val (.int p0), .val (.int ch), .val (.int (0 : Int32)), .val (.int bA), .unset, .unset, .unset] [(.int (1 : Int32))]) _
          exact JR _ (by rw [if_pos (Or.inr (Or.inl hc59))])
        · skip
          refine Go.step (fun _ => XS.icmpNo X0.here hx rfl (hb hby at_59) rfl (feq hc59).1) ?_
          show Go p e below s₁ (mkF m 62 #[.val (.int p0), .val (.int ch), .val (.int (0 : Int32)), .val (.int bA), .unset, .unset, .unset] []) _
          refine Go.step (fun _ => XS.iloadN X0.here hx rfl (hb hby at_62) rfl ) ?_
          show Go p e below s₁ (mkF m 63 #[.val (.int p0), .val (.int ch), .val (.int (0 : Int32)), .val (.int bA), .unset, .unset, .unset] [(.int ch)]) _
          refine Go.step (fun _ => XS.bipush X0.here hx rfl (hb hby at_63)) ?_
          show Go p e below s₁ (mkF m 65 #[.val (.int p0), .val (.int ch), .val (.int (0 : Int32)), .val (.int bA), .unset, .unset, .unset] [(.int (35 : Int32)), (.int ch)]) _
          by_cases hc65 : ch = (35 : Int32)
          · skip
            refine Go.step (fun _ => XS.icmpYes X0.here hx rfl (pc0 := 65) (pc' := 116) rfl (hb hby at_65) rfl (teq hc65).1 (by decide) (by decide)) ?_
            show Go p e below s₁ (mkF m 116 #[.val (.int p0), .val (.int ch), .val (.int (0 : Int32)), .val (.int bA), .unset, .unset, .unset] []) _
            refine Go.step (fun _ => XS.iconst X0.here hx rfl (hb hby at_116)) ?_
            show Go p e below s₁ (mkF m 117 #[.val (.int p0), .val (.int ch), .val (.int (0 : Int32)), .val (.int bA), .unset, .unset, .unset] [(.int (1 : Int32))]) _
            refine Go.step (fun _ => XS.goto X0.here hx rfl (pc0 := 117) (pc' := 121) rfl (hb hby at_117) (by decide) (by decide)) ?_
            show Go p e below s₁ (mkF m 121 #[.val (.int p0), .val (.int ch), .val (.int (0 : Int32)), .val (.int bA), .unset, .unset, .unset] [(.int (1 : Int32))]) _
            exact JR _ (by rw [if_pos (Or.inr (Or.inr (Or.inl hc65)))])
          · skip
            refine Go.step (fun _ => XS.icmpNo X0.here hx rfl (hb hby at_65) rfl (feq hc65).1) ?_
            show Go p e below s₁ (mkF m 68 #[.val (.int p0), .val (.int ch), .val (.int (0 : Int32)), .val (.int bA), .unset, .unset, .unset] []) _
            refine Go.step (fun _ => XS.iloadN X0.here hx rfl (hb hby at_68) rfl ) ?_
            show Go p e below s₁ (mkF m 69 #[.val (.int p0), .val (.int ch), .val (.int (0 : Int32)), .val (.int bA), .unset, .unset, .unset] [(.int ch)]) _
            refine Go.step (fun _ => XS.bipush X0.here hx rfl (hb hby at_69)) ?_
            show Go p e below s₁ (mkF m 71 #[.val (.int p0), .val (.int ch), .val (.int (0 : Int32)), .val (.int bA), .unset, .unset, .unset] [(.int (61 : Int32)), (.int ch)]) _
            by_cases hc71 : ch = (61 : Int32)
            · skip
              refine Go.step (fun _ => XS.icmpYes X0.here hx rfl (pc0 := 71) (pc' := 116) rfl (hb hby at_71) rfl (teq hc71).1 (by decide) (by decide)) ?_
              show Go p e below s₁ (mkF m 116 #[.val (.int p0), .val (.int ch), .val (.int (0 : Int32)), .val (.int bA), .unset, .unset, .unset] []) _
              refine Go.step (fun _ => XS.iconst X0.here hx rfl (hb hby at_116)) ?_
              show Go p e below s₁ (mkF m 117 #[.val (.int p0), .val (.int ch), .val (.int (0 : Int32)), .val (.int bA), .unset, .unset, .unset] [(.int (1 : Int32))]) _
              refine Go.step (fun _ => XS.goto X0.here hx rfl (pc0 := 117) (pc' := 121) rfl (hb hby at_117) (by decide) (by decide)) ?_
              show Go p e below s₁ (mkF m 121 #[.val (.int p0), .val (.int ch), .val (.int (0 : Int32)), .val (.int bA), .unset, .unset, .unset] [(.int (1 : Int32))]) _
              exact JR _ (by rw [if_pos (Or.inr (Or.inr (Or.inr (Or.inl hc71))))])
            · skip
              refine Go.step (fun _ => XS.icmpNo X0.here hx rfl (hb hby at_71) rfl (feq hc71).1) ?_
              show Go p e below s₁ (mkF m 74 #[.val (.int p0), .val (.int ch), .val (.int (0 : Int32)), .val (.int bA), .unset, .unset, .unset] []) _
              refine Go.step (fun _ => XS.iloadN X0.here hx rfl (hb hby at_74) rfl ) ?_
              show Go p e below s₁ (mkF m 75 #[.val (.int p0), .val (.int ch), .val (.int (0 : Int32)), .val (.int bA), .unset, .unset, .unset] [(.int ch)]) _
              refine Go.step (fun _ => XS.bipush X0.here hx rfl (hb hby at_75)) ?_
              show Go p e below s₁ (mkF m 77 #[.val (.int p0), .val (.int ch), .val (.int (0 : Int32)), .val (.int bA), .unset, .unset, .unset] [(.int (60 : Int32)), (.int ch)]) _
              by_cases hc77 : ch = (60 : Int32)
              · skip
                refine Go.step (fun _ => XS.icmpYes X0.here hx rfl (pc0 := 77) (pc' := 116) rfl (hb hby at_77) rfl (teq hc77).1 (by decide) (by decide)) ?_
                show Go p e below s₁ (mkF m 116 #[.val (.int p0), .val (.int ch), .val (.int (0 : Int32)), .val (.int bA), .unset, .unset, .unset] []) _
                refine Go.step (fun _ => XS.iconst X0.here hx rfl (hb hby at_116)) ?_
                show Go p e below s₁ (mkF m 117 #[.val (.int p0), .val (.int ch), .val (.int (0 : Int32)), .val (.int bA), .unset, .unset, .unset] [(.int (1 : Int32))]) _
                refine Go.step (fun _ => XS.goto X0.here hx rfl (pc0 := 117) (pc' := 121) rfl (hb hby at_117) (by decide) (by decide)) ?_
                show Go p e below s₁ (mkF m 121 #[.val (.int p0), .val (.int ch), .val (.int (0 : Int32)), .val (.int bA), .unset, .unset, .unset] [(.int (1 : Int32))]) _
                exact JR _ (by rw [if_pos (Or.inr (Or.inr (Or.inr (Or.inr (Or.inl hc77)))))])
              · skip
                refine Go.step (fun _ => XS.icmpNo X0.here hx rfl (hb hby at_77) rfl (feq hc77).1) ?_
                show Go p e below s₁ (mkF m 80 #[.val (.int p0), .val (.int ch), .val (.int (0 : Int32)), .val (.int bA), .unset, .unset, .unset] []) _
                refine Go.step (fun _ => XS.iloadN X0.here hx rfl (hb hby at_80) rfl ) ?_
                show Go p e below s₁ (mkF m 81 #[.val (.int p0), .val (.int ch), .val (.int (0 : Int32)), .val (.int bA), .unset, .unset, .unset] [(.int ch)]) _
                refine Go.step (fun _ => XS.bipush X0.here hx rfl (hb hby at_81)) ?_
                show Go p e below s₁ (mkF m 83 #[.val (.int p0), .val (.int ch), .val (.int (0 : Int32)), .val (.int bA), .unset, .unset, .unset] [(.int (62 : Int32)), (.int ch)]) _
                by_cases hc83 : ch = (62 : Int32)
                · skip
                  refine Go.step (fun _ => XS.icmpYes X0.here hx rfl (pc0 := 83) (pc' := 116) rfl (hb hby at_83) rfl (teq hc83).1 (by decide) (by decide)) ?_
                  show Go p e below s₁ (mkF m 116 #[.val (.int p0), .val (.int ch), .val (.int (0 : Int32)), .val (.int bA), .unset, .unset, .unset] []) _
                  refine Go.step (fun _ => XS.iconst X0.here hx rfl (hb hby at_116)) ?_
                  show Go p e below s₁ (mkF m 117 #[.val (.int p0), .val (.int ch), .val (.int (0 : Int32)), .val (.int bA), .unset, .unset, .unset] [(.int (1 : Int32))]) _
                  refine Go.step (fun _ => XS.goto X0.here hx rfl (pc0 := 117) (pc' := 121) rfl (hb hby at_117) (by decide) (by decide)) ?_
                  show Go p e below s₁ (mkF m 121 #[.val (.int p0), .val (.int ch), .val (.int (0 : Int32)), .val (.int bA), .unset, .unset, .unset] [(.int (1 : Int32))]) _
                  exact JR _ (by rw [if_pos (Or.inr (Or.inr (Or.inr (Or.inr (Or.inr (Or.inl hc83))))))])
                · skip
                  refine Go.step (fun _ => XS.icmpNo X0.here hx rfl (hb hby at_83) rfl (feq hc83).1) ?_
                  show Go p e below s₁ (mkF m 86 #[.val (.int p0), .val (.int ch), .val (.int (0 : Int32)), .val (.int bA), .unset, .unset, .unset] []) _
                  refine Go.step (fun _ => XS.iloadN X0.here hx rfl (hb hby at_86) rfl ) ?_
                  show Go p e below s₁ (mkF m 87 #[.val (.int p0), .val (.int ch), .val (.int (0 : Int32)), .val (.int bA), .unset, .unset, .unset] [(.int ch)]) _
                  refine Go.step (fun _ => XS.bipush X0.here hx rfl (hb hby at_87)) ?_
                  show Go p e below s₁ (mkF m 89 #[.val (.int p0), .val (.int ch), .val (.int (0 : Int32)), .val (.int bA), .unset, .unset, .unset] [(.int (39 : Int32)), (.int ch)]) _
                  by_cases hc89 : ch = (39 : Int32)
                  · skip
                    refine Go.step (fun _ => XS.icmpYes X0.here hx rfl (pc0 := 89) (pc' := 116) rfl (hb hby at_89) rfl (teq hc89).1 (by decide) (by decide)) ?_
                    show Go p e below s₁ (mkF m 116 #[.val (.int p0), .val (.int ch), .val (.int (0 : Int32)), .val (.int bA), .unset, .unset, .unset] []) _
                    refine Go.step (fun _ => XS.iconst X0.here hx rfl (hb hby at_116)) ?_
                    show Go p e below s₁ (mkF m 117 #[.val (.int p0), .val (.int ch), .val (.int (0 : Int32)), .val (.int bA), .unset, .unset, .unset] [(.int (1 : Int32))]) _
                    refine Go.step (fun _ => XS.goto X0.here hx rfl (pc0 := 117) (pc' := 121) rfl (hb hby at_117) (by decide) (by decide)) ?_
                    show Go p e below s₁ (mkF m 121 #[.val (.int p0), .val (.int ch), .val (.int (0 : Int32)), .val (.int bA), .unset, .unset, .unset] [(.int (1 : Int32))]) _
                    exact JR _ (by rw [if_pos (Or.inr (Or.inr (Or.inr (Or.inr (Or.inr (Or.inr (Or.inl hc89)))))))])
                  · skip
                    refine Go.step (fun _ => XS.icmpNo X0.here hx rfl (hb hby at_89) rfl (feq hc89).1) ?_
                    show Go p e below s₁ (mkF m 92 #[.val (.int p0), .val (.int ch), .val (.int (0 : Int32)), .val (.int bA), .unset, .unset, .unset] []) _
                    refine Go.step (fun _ => XS.iloadN X0.here hx rfl (hb hby at_92) rfl ) ?_
                    show Go p e below s₁ (mkF m 93 #[.val (.int p0), .val (.int ch), .val (.int (0 : Int32)), .val (.int bA), .unset, .unset, .unset] [(.int ch)]) _
                    refine Go.step (fun _ => XS.bipush X0.here hx rfl (hb hby at_93)) ?_
                    show Go p e below s₁ (mkF m 95 #[.val (.int p0), .val (.int ch), .val (.int (0 : Int32)), .val (.int bA), .unset, .unset, .unset] [(.int (34 : Int32)), (.int ch)]) _
                    by_cases hc95 : ch = (34 : Int32)
                    · skip
                      refine Go.step (fun _ => XS.icmpYes X0.here hx rfl (pc0 := 95) (pc' := 116) rfl (hb hby at_95) rfl (teq hc95).1 (by decide) (by decide)) ?_
                      show Go p e below s₁ (mkF m 116 #[.val (.int p0), .val (.int ch), .val (.int (0 : Int32)), .val (.int bA), .unset, .unset, .unset] []) _
                      refine Go.step (fun _ => XS.iconst X0.here hx rfl (hb hby at_116)) ?_
                      show Go p e below s₁ (mkF m 117 #[.val (.int p0), .val (.int ch), .val (.int (0 : Int32)), .val (.int bA), .unset, .unset, .unset] [(.int (1 : Int32))]) _
                      refine Go.step (fun _ => XS.goto X0.here hx rfl (pc0 := 117) (pc' := 121) rfl (hb hby at_117) (by decide) (by decide)) ?_
                      show Go p e below s₁ (mkF m 121 #[.val (.int p0), .val (.int ch), .val (.int (0 : Int32)), .val (.int bA), .unset, .unset, .unset] [(.int (1 : Int32))]) _
                      exact JR _ (by rw [if_pos (Or.inr (Or.inr (Or.inr (Or.inr (Or.inr (Or.inr (Or.inr (Or.inl hc95))))))))])
                    · skip
                      refine Go.step (fun _ => XS.icmpNo X0.here hx rfl (hb hby at_95) rfl (feq hc95).1) ?_
                      show Go p e below s₁ (mkF m 98 #[.val (.int p0), .val (.int ch), .val (.int (0 : Int32)), .val (.int bA), .unset, .unset, .unset] []) _
                      refine Go.step (fun _ => XS.iloadN X0.here hx rfl (hb hby at_98) rfl ) ?_
                      show Go p e below s₁ (mkF m 99 #[.val (.int p0), .val (.int ch), .val (.int (0 : Int32)), .val (.int bA), .unset, .unset, .unset] [(.int ch)]) _
                      refine Go.step (fun _ => XS.bipush X0.here hx rfl (hb hby at_99)) ?_
                      show Go p e below s₁ (mkF m 101 #[.val (.int p0), .val (.int ch), .val (.int (0 : Int32)), .val (.int bA), .unset, .unset, .unset] [(.int (37 : Int32)), (.int ch)]) _
                      by_cases hc101 : ch = (37 : Int32)
                      · skip
                        refine Go.step (fun _ => XS.icmpYes X0.here hx rfl (pc0 := 101) (pc' := 116) rfl (hb hby at_101) rfl (teq hc101).1 (by decide) (by decide)) ?_
                        show Go p e below s₁ (mkF m 116 #[.val (.int p0), .val (.int ch), .val (.int (0 : Int32)), .val (.int bA), .unset, .unset, .unset] []) _
                        refine Go.step (fun _ => XS.iconst X0.here hx rfl (hb hby at_116)) ?_
                        show Go p e below s₁ (mkF m 117 #[.val (.int p0), .val (.int ch), .val (.int (0 : Int32)), .val (.int bA), .unset, .unset, .unset] [(.int (1 : Int32))]) _
                        refine Go.step (fun _ => XS.goto X0.here hx rfl (pc0 := 117) (pc' := 121) rfl (hb hby at_117) (by decide) (by decide)) ?_
                        show Go p e below s₁ (mkF m 121 #[.val (.int p0), .val (.int ch), .val (.int (0 : Int32)), .val (.int bA), .unset, .unset, .unset] [(.int (1 : Int32))]) _
                        exact JR _ (by rw [if_pos (Or.inr (Or.inr (Or.inr (Or.inr (Or.inr (Or.inr (Or.inr (Or.inr (Or.inl hc101)))))))))])
                      · skip
                        refine Go.step (fun _ => XS.icmpNo X0.here hx rfl (hb hby at_101) rfl (feq hc101).1) ?_
                        show Go p e below s₁ (mkF m 104 #[.val (.int p0), .val (.int ch), .val (.int (0 : Int32)), .val (.int bA), .unset, .unset, .unset] []) _
                        refine Go.step (fun _ => XS.iloadN X0.here hx rfl (hb hby at_104) rfl ) ?_
                        show Go p e below s₁ (mkF m 105 #[.val (.int p0), .val (.int ch), .val (.int (0 : Int32)), .val (.int bA), .unset, .unset, .unset] [(.int ch)]) _
                        refine Go.step (fun _ => XS.bipush X0.here hx rfl (hb hby at_105)) ?_
                        show Go p e below s₁ (mkF m 107 #[.val (.int p0), .val (.int ch), .val (.int (0 : Int32)), .val (.int bA), .unset, .unset, .unset] [(.int (123 : Int32)), (.int ch)]) _
                        by_cases hc107 : ch = (123 : Int32)
                        · skip
                          refine Go.step (fun _ => XS.icmpYes X0.here hx rfl (pc0 := 107) (pc' := 116) rfl (hb hby at_107) rfl (teq hc107).1 (by decide) (by decide)) ?_
                          show Go p e below s₁ (mkF m 116 #[.val (.int p0), .val (.int ch), .val (.int (0 : Int32)), .val (.int bA), .unset, .unset, .unset] []) _
                          refine Go.step (fun _ => XS.iconst X0.here hx rfl (hb hby at_116)) ?_
                          show Go p e below s₁ (mkF m 117 #[.val (.int p0), .val (.int ch), .val (.int (0 : Int32)), .val (.int bA), .unset, .unset, .unset] [(.int (1 : Int32))]) _
                          refine Go.step (fun _ => XS.goto X0.here hx rfl (pc0 := 117) (pc' := 121) rfl (hb hby at_117) (by decide) (by decide)) ?_
                          show Go p e below s₁ (mkF m 121 #[.val (.int p0), .val (.int ch), .val (.int (0 : Int32)), .val (.int bA), .unset, .unset, .unset] [(.int (1 : Int32))]) _
                          exact JR _ (by rw [if_pos (Or.inr (Or.inr (Or.inr (Or.inr (Or.inr (Or.inr (Or.inr (Or.inr (Or.inr (Or.inl hc107))))))))))])
                        · skip
                          refine Go.step (fun _ => XS.icmpNo X0.here hx rfl (hb hby at_107) rfl (feq hc107).1) ?_
                          show Go p e below s₁ (mkF m 110 #[.val (.int p0), .val (.int ch), .val (.int (0 : Int32)), .val (.int bA), .unset, .unset, .unset] []) _
                          refine Go.step (fun _ => XS.iloadN X0.here hx rfl (hb hby at_110) rfl ) ?_
                          show Go p e below s₁ (mkF m 111 #[.val (.int p0), .val (.int ch), .val (.int (0 : Int32)), .val (.int bA), .unset, .unset, .unset] [(.int ch)]) _
                          refine Go.step (fun _ => XS.bipush X0.here hx rfl (hb hby at_111)) ?_
                          show Go p e below s₁ (mkF m 113 #[.val (.int p0), .val (.int ch), .val (.int (0 : Int32)), .val (.int bA), .unset, .unset, .unset] [(.int (125 : Int32)), (.int ch)]) _
                          by_cases hc113 : ch = (125 : Int32)
                          · skip
                            refine Go.step (fun _ => XS.icmpNo X0.here hx rfl (hb hby at_113) rfl (teq hc113).2) ?_
                            show Go p e below s₁ (mkF m 116 #[.val (.int p0), .val (.int ch), .val (.int (0 : Int32)), .val (.int bA), .unset, .unset, .unset] []) _
                            refine Go.step (fun _ => XS.iconst X0.here hx rfl (hb hby at_116)) ?_
                            show Go p e below s₁ (mkF m 117 #[.val (.int p0), .val (.int ch), .val (.int (0 : Int32)), .val (.int bA), .unset, .unset, .unset] [(.int (1 : Int32))]) _
                            refine Go.step (fun _ => XS.goto X0.here hx rfl (pc0 := 117) (pc' := 121) rfl (hb hby at_117) (by decide) (by decide)) ?_
                            show Go p e below s₁ (mkF m 121 #[.val (.int p0), .val (.int ch), .val (.int (0 : Int32)), .val (.int bA), .unset, .unset, .unset] [(.int (1 : Int32))]) _
                            exact JR _ (by rw [if_pos (Or.inr (Or.inr (Or.inr (Or.inr (Or.inr (Or.inr (Or.inr (Or.inr (Or.inr (Or.inr hc113))))))))))])
                          · skip
                            refine Go.step (fun _ => XS.icmpYes X0.here hx rfl (pc0 := 113) (pc' := 120) rfl (hb hby at_113) rfl (feq hc113).2 (by decide) (by decide)) ?_
                            show Go p e below s₁ (mkF m 120 #[.val (.int p0), .val (.int ch), .val (.int (0 : Int32)), .val (.int bA), .unset, .unset, .unset] []) _
                            refine Go.step (fun _ => XS.iconst X0.here hx rfl (hb hby at_120)) ?_
                            show Go p e below s₁ (mkF m 121 #[.val (.int p0), .val (.int ch), .val (.int (0 : Int32)), .val (.int bA), .unset, .unset, .unset] [(.int (0 : Int32))]) _
                            exact JR _ (by rw [if_neg (fun q => q.elim hc53 (fun q => q.elim hc59 (fun q => q.elim hc65 (fun q => q.elim hc71 (fun q => q.elim hc77 (fun q => q.elim hc83 (fun q => q.elim hc89 (fun q => q.elim hc95 (fun q => q.elim hc101 (fun q => q.elim hc107 hc113))))))))))])
    show Go p e below s₁ (mkF m 22 #[.val (.int p0), .val (.int ch), .val (.int (0 : Int32)), .unset, .unset, .unset, .unset] []) _
    refine Go.step (fun _ => XS.iloadN X0.here hx rfl (hb hby at_22) rfl ) ?_
    show Go p e below s₁ (mkF m 23 #[.val (.int p0), .val (.int ch), .val (.int (0 : Int32)), .unset, .unset, .unset, .unset] [(.int ch)]) _
    refine Go.step (fun _ => XS.bipush X0.here hx rfl (hb hby at_23)) ?_
    show Go p e below s₁ (mkF m 25 #[.val (.int p0), .val (.int ch), .val (.int (0 : Int32)), .unset, .unset, .unset, .unset] [(.int (123 : Int32)), (.int ch)]) _
    by_cases hc25 : ch = (123 : Int32)
    · skip
      refine Go.step (fun _ => XS.icmpYes X0.here hx rfl (pc0 := 25) (pc' := 40) rfl (hb hby at_25) rfl (teq hc25).1 (by decide) (by decide)) ?_
      show Go p e below s₁ (mkF m 40 #[.val (.int p0), .val (.int ch), .val (.int (0 : Int32)), .unset, .unset, .unset, .unset] []) _
      refine Go.step (fun _ => XS.iconst X0.here hx rfl (hb hby at_40)) ?_
      show Go p e below s₁ (mkF m 41 #[.val (.int p0), .val (.int ch), .val (.int (0 : Int32)), .unset, .unset, .unset, .unset] [(.int (1 : Int32))]) _
      refine Go.step (fun _ => XS.goto X0.here hx rfl (pc0 := 41) (pc' := 45) rfl (hb hby at_41) (by decide) (by decide)) ?_
      show Go p e below s₁ (mkF m 45 #[.val (.int p0), .val (.int ch), .val (.int (0 : Int32)), .unset, .unset, .unset, .unset] [(.int (1 : Int32))]) _
      exact JA _ (by rw [if_pos (Or.inl hc25)])
    · skip
      refine Go.step (fun _ => XS.icmpNo X0.here hx rfl (hb hby at_25) rfl (feq hc25).1) ?_
      show Go p e below s₁ (mkF m 28 #[.val (.int p0), .val (.int ch), .val (.int (0 : Int32)), .unset, .unset, .unset, .unset] []) _
      refine Go.step (fun _ => XS.iloadN X0.here hx rfl (hb hby at_28) rfl ) ?_
      show Go p e below s₁ (mkF m 29 #[.val (.int p0), .val (.int ch), .val (.int (0 : Int32)), .unset, .unset, .unset, .unset] [(.int ch)]) _
      refine Go.step (fun _ => XS.bipush X0.here hx rfl (hb hby at_29)) ?_
      show Go p e below s₁ (mkF m 31 #[.val (.int p0), .val (.int ch), .val (.int (0 : Int32)), .unset, .unset, .unset, .unset] [(.int (125 : Int32)), (.int ch)]) _
      by_cases hc31 : ch = (125 : Int32)
      · skip
        refine Go.step (fun _ => XS.icmpYes X0.here hx rfl (pc0 := 31) (pc' := 40) rfl (hb hby at_31) rfl (teq hc31).1 (by decide) (by decide)) ?_
        show Go p e below s₁ (mkF m 40 #[.val (.int p0), .val (.int ch), .val (.int (0 : Int32)), .unset, .unset, .unset, .unset] []) _
        refine Go.step (fun _ => XS.iconst X0.here hx rfl (hb hby at_40)) ?_
        show Go p e below s₁ (mkF m 41 #[.val (.int p0), .val (.int ch), .val (.int (0 : Int32)), .unset, .unset, .unset, .unset] [(.int (1 : Int32))]) _
        refine Go.step (fun _ => XS.goto X0.here hx rfl (pc0 := 41) (pc' := 45) rfl (hb hby at_41) (by decide) (by decide)) ?_
        show Go p e below s₁ (mkF m 45 #[.val (.int p0), .val (.int ch), .val (.int (0 : Int32)), .unset, .unset, .unset, .unset] [(.int (1 : Int32))]) _
        exact JA _ (by rw [if_pos (Or.inr (Or.inl hc31))])
      · skip
        refine Go.step (fun _ => XS.icmpNo X0.here hx rfl (hb hby at_31) rfl (feq hc31).1) ?_
        show Go p e below s₁ (mkF m 34 #[.val (.int p0), .val (.int ch), .val (.int (0 : Int32)), .unset, .unset, .unset, .unset] []) _
        refine Go.step (fun _ => XS.iloadN X0.here hx rfl (hb hby at_34) rfl ) ?_
        show Go p e below s₁ (mkF m 35 #[.val (.int p0), .val (.int ch), .val (.int (0 : Int32)), .unset, .unset, .unset, .unset] [(.int ch)]) _
        refine Go.step (fun _ => XS.bipush X0.here hx rfl (hb hby at_35)) ?_
        show Go p e below s₁ (mkF m 37 #[.val (.int p0), .val (.int ch), .val (.int (0 : Int32)), .unset, .unset, .unset, .unset] [(.int (44 : Int32)), (.int ch)]) _
        by_cases hc37 : ch = (44 : Int32)
        · skip
          refine Go.step (fun _ => XS.icmpNo X0.here hx rfl (hb hby at_37) rfl (teq hc37).2) ?_
          show Go p e below s₁ (mkF m 40 #[.val (.int p0), .val (.int ch), .val (.int (0 : Int32)), .unset, .unset, .unset, .unset] []) _
          refine Go.step (fun _ => XS.iconst X0.here hx rfl (hb hby at_40)) ?_
          show Go p e below s₁ (mkF m 41 #[.val (.int p0), .val (.int ch), .val (.int (0 : Int32)), .unset, .unset, .unset, .unset] [(.int (1 : Int32))]) _
          refine Go.step (fun _ => XS.goto X0.here hx rfl (pc0 := 41) (pc' := 45) rfl (hb hby at_41) (by decide) (by decide)) ?_
          show Go p e below s₁ (mkF m 45 #[.val (.int p0), .val (.int ch), .val (.int (0 : Int32)), .unset, .unset, .unset, .unset] [(.int (1 : Int32))]) _
          exact JA _ (by rw [if_pos (Or.inr (Or.inr hc37))])
        · skip
          refine Go.step (fun _ => XS.icmpYes X0.here hx rfl (pc0 := 37) (pc' := 44) rfl (hb hby at_37) rfl (feq hc37).2 (by decide) (by decide)) ?_
          show Go p e below s₁ (mkF m 44 #[.val (.int p0), .val (.int ch), .val (.int (0 : Int32)), .unset, .unset, .unset, .unset] []) _
          refine Go.step (fun _ => XS.iconst X0.here hx rfl (hb hby at_44)) ?_
          show Go p e below s₁ (mkF m 45 #[.val (.int p0), .val (.int ch), .val (.int (0 : Int32)), .unset, .unset, .unset, .unset] [(.int (0 : Int32))]) _
          exact JA _ (by rw [if_neg (fun q => q.elim hc25 (fun q => q.elim hc31 hc37))])
  · skip
    refine Go.step (fun _ => XS.icmpNo X0.here hx rfl (hb hby at_9) rfl (flt hc9).2.2.1) ?_
    show Go p e below s₁ (mkF m 12 #[.val (.int p0), .val (.int ch), .unset, .unset, .unset, .unset, .unset] []) _
    refine Go.step (fun _ => XS.iconst X0.here hx rfl (hb hby at_12)) ?_
    show Go p e below s₁ (mkF m 13 #[.val (.int p0), .val (.int ch), .unset, .unset, .unset, .unset, .unset] [(.int (1 : Int32))]) _
    refine Go.step (fun _ => XS.goto X0.here hx rfl (pc0 := 13) (pc' := 17) rfl (hb hby at_13) (by decide) (by decide)) ?_
    show Go p e below s₁ (mkF m 17 #[.val (.int p0), .val (.int ch), .unset, .unset, .unset, .unset, .unset] [(.int (1 : Int32))]) _
    refine Go.step (fun _ => XS.istoreN X0.here hx rfl (hb hby at_17) rfl (l' := #[.val (.int p0), .val (.int ch), .val (.int (1 : Int32)), .unset, .unset, .unset, .unset]) rfl) ?_
    show Go p e below s₁ (mkF m 18 #[.val (.int p0), .val (.int ch), .val (.int (1 : Int32)), .unset, .unset, .unset, .unset] []) _
    refine Go.step (fun _ => XS.iloadN X0.here hx rfl (hb hby at_18) rfl ) ?_
    show Go p e below s₁ (mkF m 19 #[.val (.int p0), .val (.int ch), .val (.int (1 : Int32)), .unset, .unset, .unset, .unset] [(.int (1 : Int32))]) _
    refine Go.step (fun _ => XS.ifYes X0.here hx rfl (pc0 := 19) (pc' := 40) rfl (hb hby at_19) rfl ((if0 _ _).trans (feq (by decide)).2) (by decide) (by decide)) ?_
    show Go p e below s₁ (mkF m 40 #[.val (.int p0), .val (.int ch), .val (.int (1 : Int32)), .unset, .unset, .unset, .unset] []) _
    refine Go.step (fun _ => XS.iconst X0.here hx rfl (hb hby at_40)) ?_
    show Go p e below s₁ (mkF m 41 #[.val (.int p0), .val (.int ch), .val (.int (1 : Int32)), .unset, .unset, .unset, .unset] [(.int (1 : Int32))]) _
    refine Go.step (fun _ => XS.goto X0.here hx rfl (pc0 := 41) (pc' := 45) rfl (hb hby at_41) (by decide) (by decide)) ?_
    show Go p e below s₁ (mkF m 45 #[.val (.int p0), .val (.int ch), .val (.int (1 : Int32)), .unset, .unset, .unset, .unset] [(.int (1 : Int32))]) _
    refine Go.step (fun _ => XS.istoreN X0.here hx rfl (hb hby at_45) rfl (l' := #[.val (.int p0), .val (.int ch), .val (.int (1 : Int32)), .val (.int (1 : Int32)), .unset, .unset, .unset]) rfl) ?_
    show Go p e below s₁ (mkF m 46 #[.val (.int p0), .val (.int ch), .val (.int (1 : Int32)), .val (.int (1 : Int32)), .unset, .unset, .unset] []) _
    refine Go.step (fun _ => XS.iloadN X0.here hx rfl (hb hby at_46) rfl ) ?_
    show Go p e below s₁ (mkF m 47 #[.val (.int p0), .val (.int ch), .val (.int (1 : Int32)), .val (.int (1 : Int32)), .unset, .unset, .unset] [(.int (1 : Int32))]) _
    refine Go.step (fun _ => XS.ifYes X0.here hx rfl (pc0 := 47) (pc' := 116) rfl (hb hby at_47) rfl ((if0 _ _).trans (feq (by decide)).2) (by decide) (by decide)) ?_
    show Go p e below s₁ (mkF m 116 #[.val (.int p0), .val (.int ch), .val (.int (1 : Int32)), .val (.int (1 : Int32)), .unset, .unset, .unset] []) _
    refine Go.step (fun _ => XS.iconst X0.here hx rfl (hb hby at_116)) ?_
    show Go p e below s₁ (mkF m 117 #[.val (.int p0), .val (.int ch), .val (.int (1 : Int32)), .val (.int (1 : Int32)), .unset, .unset, .unset] [(.int (1 : Int32))]) _
    refine Go.step (fun _ => XS.goto X0.here hx rfl (pc0 := 117) (pc' := 121) rfl (hb hby at_117) (by decide) (by decide)) ?_
    show Go p e below s₁ (mkF m 121 #[.val (.int p0), .val (.int ch), .val (.int (1 : Int32)), .val (.int (1 : Int32)), .unset, .unset, .unset] [(.int (1 : Int32))]) _
    refine Go.step (fun _ => XS.istore X0.here hx rfl (hb hby at_121) rfl (l' := #[.val (.int p0), .val (.int ch), .val (.int (1 : Int32)), .val (.int (1 : Int32)), .val (.int (1 : Int32)), .unset, .unset]) rfl) ?_
    show Go p e below s₁ (mkF m 123 #[.val (.int p0), .val (.int ch), .val (.int (1 : Int32)), .val (.int (1 : Int32)), .val (.int (1 : Int32)), .unset, .unset] []) _
    obtain ⟨T6, X6, e6, st6⟩ := getS2 X0 hx hZ hown (host := "") (Or.inl (hw _ (List.mem_of_getElem? (i := 1) rfl))) Via.refl e0 SA (g := (mkF m 123 #[.val (.int p0), .val (.int ch), .val (.int (1 : Int32)), .val (.int (1 : Int32)), .val (.int (1 : Int32)), .unset, .unset] [])) rfl (hb hby at_123)
    refine Go.step st6 ?_
    show Go p e below T6 (mkF m 126 #[.val (.int p0), .val (.int ch), .val (.int (1 : Int32)), .val (.int (1 : Int32)), .val (.int (1 : Int32)), .unset, .unset] [(.ref wA)]) _
    refine Go.step (fun _ => XS.iloadN X6.here hx rfl (hb hby at_126) rfl ) ?_
    show Go p e below T6 (mkF m 127 #[.val (.int p0), .val (.int ch), .val (.int (1 : Int32)), .val (.int (1 : Int32)), .val (.int (1 : Int32)), .unset, .unset] [(.int ch), (.ref wA)]) _
    obtain ⟨cq7, kq7, q7a, q7b, q7c⟩ := isOf hZ e6 EwA
    obtain ⟨_, _, ⟨T7, L7, k7, n7⟩, -, X7, ⟨Lc7, hQ7, l7, y7, z7⟩, st7⟩ := X6.virtualBack hx (y := (⟨"com/example/inkwell/inkwell/io/LineTokenizer$Syntax", "endsWord", "(C)Z"⟩ : MethodName)) (z := (⟨"com/example/inkwell/inkwell/io/LineTokenizer$Syntax", "endsWord", "(C)Z"⟩ : MethodName)) hown (mvT hZ (hw _ (List.mem_of_getElem? (i := 4) rfl))) (mvT hZ (hw _ (List.mem_of_getElem? (i := 5) rfl))) (notFace_of_selects (args := #[]) (mvT hZ (hw _ (List.mem_of_getElem? (i := 7) rfl)))) (mvT hZ (hw _ (List.mem_of_getElem? (i := 7) rfl))) (mvT hZ (hw _ (List.mem_of_getElem? (i := 6) rfl))) (by decide) (backOf (W := 0) (rm1 l Z a0 hw [] wA ch vA clA (1 : Int32) h0 n0 Z0 FA AA hszA hp0 (fun q => by rw [hA ch hp0 q, if_pos (Or.inl hc9)]) (Or.inr rfl) (fun q => absurd (own_small hc9) q)) hZ (hw _ (List.mem_of_getElem? (i := 8) rfl)) (hw _ (List.mem_of_getElem? (i := 2) rfl)) (by decide) (by decide)) q7a q7c (g := (mkF m 127 #[.val (.int p0), .val (.int ch), .val (.int (1 : Int32)), .val (.int (1 : Int32)), .val (.int (1 : Int32)), .unset, .unset] [(.int ch), (.ref wA)])) rfl (by rw [hml]; rfl) (Steps.refl _) (argsL := [(.int ch)]) (rest := []) (lenOf pd_0 rfl) rfl (by show 2 * 0 + _ ≤ _; exact Nat.le_of_eq rfl) (hb hby at_127) (fun _ _ => ⟨rfl, e6, (by decide : 0 + 0 ≤ _), (by decide : 0 + 0 ≤ _)⟩)
    dsimp only [Pt.U, Pt.locs, Pt.cells, Pt.slots] at X7 l7 y7 z7 st7 hQ7
    subst l7 y7 z7
    obtain ⟨rfl, Nq7, eh7⟩ := hQ7
    have N7 := Fr.app N0 Nq7
    refine Go.call st7 ?_
    show Go p e below T7 (mkF m 130 #[.val (.int p0), .val (.int ch), .val (.int (1 : Int32)), .val (.int (1 : Int32)), .val (.int (1 : Int32)), .unset, .unset] [(.int (1 : Int32))]) _
    refine Go.step (fun _ => XS.istore X7.here hx rfl (hb hby at_130) rfl (l' := #[.val (.int p0), .val (.int ch), .val (.int (1 : Int32)), .val (.int (1 : Int32)), .val (.int (1 : Int32)), .val (.int (1 : Int32)), .unset]) rfl) ?_
    show Go p e below T7 (mkF m 132 #[.val (.int p0), .val (.int ch), .val (.int (1 : Int32)), .val (.int (1 : Int32)), .val (.int (1 : Int32)), .val (.int (1 : Int32)), .unset] []) _
    obtain ⟨T8, X8, e8, st8⟩ := getS2 X7 hx hZ hown (host := "") (Or.inl (hw _ (List.mem_of_getElem? (i := 11) rfl))) Via.refl eh7 SR (g := (mkF m 132 #[.val (.int p0), .val (.int ch), .val (.int (1 : Int32)), .val (.int (1 : Int32)), .val (.int (1 : Int32)), .val (.int (1 : Int32)), .unset] [])) rfl (hb hby at_132)
    refine Go.step st8 ?_
    show Go p e below T8 (mkF m 135 #[.val (.int p0), .val (.int ch), .val (.int (1 : Int32)), .val (.int (1 : Int32)), .val (.int (1 : Int32)), .val (.int (1 : Int32)), .unset] [(.ref wR)]) _
    refine Go.step (fun _ => XS.iloadN X8.here hx rfl (hb hby at_135) rfl ) ?_
    show Go p e below T8 (mkF m 136 #[.val (.int p0), .val (.int ch), .val (.int (1 : Int32)), .val (.int (1 : Int32)), .val (.int (1 : Int32)), .val (.int (1 : Int32)), .unset] [(.int ch), (.ref wR)]) _
    obtain ⟨cq9, kq9, q9a, q9b, q9c⟩ := isOf hZ e8 EwR
    obtain ⟨_, _, ⟨T9, L9, k9, n9⟩, -, X9, ⟨Lc9, hQ9, l9, y9, z9⟩, st9⟩ := X8.virtualBack hx (y := (⟨"com/example/inkwell/inkwell/io/LineTokenizer$Syntax", "endsWord", "(C)Z"⟩ : MethodName)) (z := (⟨"com/example/inkwell/inkwell/io/LineTokenizer$Syntax", "endsWord", "(C)Z"⟩ : MethodName)) hown (mvT hZ (hw _ (List.mem_of_getElem? (i := 4) rfl))) (mvT hZ (hw _ (List.mem_of_getElem? (i := 5) rfl))) (notFace_of_selects (args := #[]) (mvT hZ (hw _ (List.mem_of_getElem? (i := 7) rfl)))) (mvT hZ (hw _ (List.mem_of_getElem? (i := 7) rfl))) (mvT hZ (hw _ (List.mem_of_getElem? (i := 6) rfl))) (by decide) (backOf (W := 0) (rm1 l Z a0 hw [] wR ch vR clR (1 : Int32) h0 n0 Z0 FR AR hszR hp0 (fun q => by rw [hR ch hp0 q, if_pos (Or.inl hc9)]) (Or.inr rfl) (fun q => absurd (own_small hc9) q)) hZ (hw _ (List.mem_of_getElem? (i := 8) rfl)) (hw _ (List.mem_of_getElem? (i := 2) rfl)) (by decide) (by decide)) q9a q9c (g := (mkF m 136 #[.val (.int p0), .val (.int ch), .val (.int (1 : Int32)), .val (.int (1 : Int32)), .val (.int (1 : Int32)), .val (.int (1 : Int32)), .unset] [(.int ch), (.ref wR)])) rfl (by rw [hml]; rfl) (Steps.refl _) (argsL := [(.int ch)]) (rest := []) (lenOf pd_0 rfl) rfl (by show 2 * 0 + _ ≤ _; exact Nat.le_of_eq rfl) (hb hby at_136) (fun _ _ => ⟨rfl, e8, (by decide : 0 + 0 + 0 ≤ _), (by decide : 0 + 0 + 0 ≤ _)⟩)
    dsimp only [Pt.U, Pt.locs, Pt.cells, Pt.slots] at X9 l9 y9 z9 st9 hQ9
    subst l9 y9 z9
    obtain ⟨rfl, Nq9, eh9⟩ := hQ9
    have N9 := Fr.app N7 Nq9
    refine Go.call st9 ?_
    show Go p e below T9 (mkF m 139 #[.val (.int p0), .val (.int ch), .val (.int (1 : Int32)), .val (.int (1 : Int32)), .val (.int (1 : Int32)), .val (.int (1 : Int32)), .unset] [(.int (1 : Int32))]) _
    refine Go.step (fun _ => XS.istore X9.here hx rfl (hb hby at_139) rfl (l' := #[.val (.int p0), .val (.int ch), .val (.int (1 : Int32)), .val (.int (1 : Int32)), .val (.int (1 : Int32)), .val (.int (1 : Int32)), .val (.int (1 : Int32))]) rfl) ?_
    show Go p e below T9 (mkF m 141 #[.val (.int p0), .val (.int ch), .val (.int (1 : Int32)), .val (.int (1 : Int32)), .val (.int (1 : Int32)), .val (.int (1 : Int32)), .val (.int (1 : Int32))] []) _
    refine Go.step (fun _ => XS.iload X9.here hx rfl (hb hby at_141) rfl ) ?_
    show Go p e below T9 (mkF m 143 #[.val (.int p0), .val (.int ch), .val (.int (1 : Int32)), .val (.int (1 : Int32)), .val (.int (1 : Int32)), .val (.int (1 : Int32)), .val (.int (1 : Int32))] [(.int (1 : Int32))]) _
    refine Go.step (fun _ => XS.iloadN X9.here hx rfl (hb hby at_143) rfl ) ?_
    show Go p e below T9 (mkF m 144 #[.val (.int p0), .val (.int ch), .val (.int (1 : Int32)), .val (.int (1 : Int32)), .val (.int (1 : Int32)), .val (.int (1 : Int32)), .val (.int (1 : Int32))] [(.int (1 : Int32)), (.int (1 : Int32))]) _
    refine Go.step (fun _ => XS.icmpNo X9.here hx rfl (hb hby at_144) rfl (teq rfl).2) ?_
    show Go p e below T9 (mkF m 147 #[.val (.int p0), .val (.int ch), .val (.int (1 : Int32)), .val (.int (1 : Int32)), .val (.int (1 : Int32)), .val (.int (1 : Int32)), .val (.int (1 : Int32))] []) _
    refine Go.step (fun _ => XS.iload X9.here hx rfl (hb hby at_147) rfl ) ?_
    show Go p e below T9 (mkF m 149 #[.val (.int p0), .val (.int ch), .val (.int (1 : Int32)), .val (.int (1 : Int32)), .val (.int (1 : Int32)), .val (.int (1 : Int32)), .val (.int (1 : Int32))] [(.int (1 : Int32))]) _
    refine Go.step (fun _ => XS.iload X9.here hx rfl (hb hby at_149) rfl ) ?_
    show Go p e below T9 (mkF m 151 #[.val (.int p0), .val (.int ch), .val (.int (1 : Int32)), .val (.int (1 : Int32)), .val (.int (1 : Int32)), .val (.int (1 : Int32)), .val (.int (1 : Int32))] [(.int (1 : Int32)), (.int (1 : Int32))]) _
    refine Go.step (fun _ => XS.icmpNo X9.here hx rfl (hb hby at_151) rfl (teq rfl).2) ?_
    show Go p e below T9 (mkF m 154 #[.val (.int p0), .val (.int ch), .val (.int (1 : Int32)), .val (.int (1 : Int32)), .val (.int (1 : Int32)), .val (.int (1 : Int32)), .val (.int (1 : Int32))] []) _
    refine Go.step (fun _ => XS.iconst X9.here hx rfl (hb hby at_154)) ?_
    show Go p e below T9 (mkF m 155 #[.val (.int p0), .val (.int ch), .val (.int (1 : Int32)), .val (.int (1 : Int32)), .val (.int (1 : Int32)), .val (.int (1 : Int32)), .val (.int (1 : Int32))] [(.int (1 : Int32))]) _
    refine Go.step (fun _ => XS.goto X9.here hx rfl (pc0 := 155) (pc' := 159) rfl (hb hby at_155) (by decide) (by decide)) ?_
    show Go p e below T9 (mkF m 159 #[.val (.int p0), .val (.int ch), .val (.int (1 : Int32)), .val (.int (1 : Int32)), .val (.int (1 : Int32)), .val (.int (1 : Int32)), .val (.int (1 : Int32))] [(.int (1 : Int32))]) _
    refine Go.retN (t := .boolean) (z' := (1 : Int32)) X9 hx hret (by simp) hlk (hb hby at_159) (by decide) ?_ (by decide) (by decide)
    exact ⟨rfl, N9⟩
set_option maxRecDepth 65536 in
set_option maxHeartbeats 40000000 in
theorem comes_1 {Post : Tables → Env → Array Value → State → Outcome → State → Prop} (hpost : ∀ tb e args s v u, (limb_1_1.after args s (.returned v) u = true ∧ limb_1_2.after args s (.returned v) u = true ∧ True) → FrameEnd s (.returned v) u (Jvm.fieldLocs frame_1_writes args s ++ Jvm.arrayLocs frame_1_arrays args s ++ Jvm.staticLocs frame_1_statics s) 0 0 → Post tb e args s (.returned v) u) :
    ArmFor flags0 classFile x code maxLocals ret World_1 tables_1 room_1 Calls_1 rest_1 Pre_1 Post := by
  intro l hfl _ _ p e ha hc hk s m args below hf hA hF happ hP
  obtain ⟨hcalls, hrest, hpre⟩ := hP
  obtain ⟨-, -, -, hnamed, -, -, -, hat⟩ := (Spec.applies_iff hf).mp happ
  obtain ⟨hg, hn⟩ := and_e (Cond.before_iff.mp (show (Jvm.Cond.and given_1 narrow_1).before args s = true from hpre))
  obtain ⟨g1, g2⟩ := and_e hg
  obtain ⟨w0, rfl⟩ : ∃ w0 : Value, args = #[w0] := by
    have hs : args.size = 1 := by simpa [Cond.value, given_1] using g1
    obtain ⟨L⟩ := args
    match L, hs with
    | [w0], _ => exact ⟨w0, rfl⟩
  have hw := fun d (hd : d ∈ tables_1) => atoms_spec (ws := Jvm.Cond.code x code maxLocals ret :: tables_1) hat d (List.mem_cons_of_mem _ hd)
  have hfit : Fit s := fun {y c} hc i hi => by
    obtain ⟨ha, rfl⟩ := Array.getElem?_eq_some_iff.mp hc
    have q := List.all_eq_true.mp ((Array.all_eq_true_iff_forall_mem.mp hF) _ (Array.getElem_mem ha)) i (List.mem_range.mpr hi)
    simpa [Array.getElem?_eq_getElem hi] using q
  obtain ⟨i0, ei0⟩ := is_v g2
  obtain rfl : w0 = (.int i0) := Option.some.inj ei0
  obtain ⟨u0, v0⟩ := and_e hn
  obtain ⟨u1, v1⟩ := and_e v0
  obtain ⟨u2, v2⟩ := and_e v1
  obtain ⟨u3, v3⟩ := and_e v2
  obtain ⟨u4, v4⟩ := and_e v3
  obtain ⟨u5, v5⟩ := and_e v4
  obtain ⟨u6, v6⟩ := and_e v5
  obtain ⟨u7, v7⟩ := and_e v6
  obtain ⟨u8, v8⟩ := and_e v7
  obtain ⟨u9, v9⟩ := and_e v8
  obtain ⟨u10, v10⟩ := and_e v9
  obtain ⟨u11, v11⟩ := and_e v10
  obtain ⟨u12, v12⟩ := and_e v11
  obtain ⟨u13, v13⟩ := and_e v12
  obtain ⟨u14, v14⟩ := and_e v13
  obtain ⟨u15, v15⟩ := and_e v14
  obtain ⟨u16, v16⟩ := and_e v15
  obtain ⟨u17, v17⟩ := and_e v16
  obtain ⟨u18, v18⟩ := and_e v17
  obtain ⟨u19, v19⟩ := and_e v18
  obtain ⟨u20, v20⟩ := and_e v19
  obtain ⟨u21, v21⟩ := and_e v20
  obtain ⟨u22, v22⟩ := and_e v21
  obtain ⟨u23, v23⟩ := and_e v22
  obtain ⟨u24, v24⟩ := and_e v23
  obtain ⟨u25, v25⟩ := and_e v24
  obtain ⟨u26, v26⟩ := and_e v25
  obtain ⟨u27, v27⟩ := and_e v26
  obtain ⟨u28, v28⟩ := and_e v27
  obtain ⟨u29, v29⟩ := and_e v28
  obtain ⟨u30, v30⟩ := and_e v29
  obtain ⟨wA, evwA⟩ := exa_v u0
  have EwA := Exa.start evwA u0
  have SA := Sta.start evwA (Or.inr ⟨(hw _ (List.mem_of_getElem? (i := 2) rfl)), (hw _ (List.mem_of_getElem? (i := 3) rfl))⟩)
  obtain ⟨vA, evvA⟩ := arr_v u1
  obtain ⟨clA, AA⟩ := Arr.start evvA u1
  obtain ⟨hlA, hlenA⟩ := own_len evvA AA u2
  have hszA := own_size hlA hlenA
  have hsnA : clA.slots.size = 128 := hszA
  have FA : Fld s s.heap wA "com/example/inkwell/inkwell/io/LineTokenizer$Syntax" "wordEnds" "[Z" (.ref vA) := Fld.start ((fld_at evwA).symm.trans evvA)
  have evxA := fun (idx : List Nat) => (show (Jvm.Term.field (Jvm.Term.static "com/example/inkwell/inkwell/io/LineTokenizer$Syntax" "ARFF" "Lcom/example/inkwell/inkwell/io/LineTokenizer$Syntax;") "com/example/inkwell/inkwell/io/LineTokenizer$Syntax" "wordEnds" "[Z").eval #[.int i0] s none idx s = some (.ref vA) from evvA)
  have hnA : ∀ n, n < 128 → clA.slots[n]? = some (.int (if n < 33 ∨ n = 123 ∨ n = 125 ∨ n = 44 then 1 else 0)) := by
    intro n hn
    rcases (by omega : (0 ≤ n ∧ n < 33) ∨ (33 ≤ n ∧ n < 44) ∨ (44 ≤ n ∧ n < 45) ∨ (45 ≤ n ∧ n < 123) ∨ (123 ≤ n ∧ n < 124) ∨ (124 ≤ n ∧ n < 125) ∨ (125 ≤ n ∧ n < 126) ∨ (126 ≤ n ∧ n < 127) ∨ (127 ≤ n ∧ n < 128)) with h | h | h | h | h | h | h | h | h
    · rw [if_pos (by omega)]; exact own_all1 evxA AA hlA u6 n (by omega) (show (n : Int) < 33 by omega)
    · rw [if_neg (by omega)]; exact own_all2 evxA AA hlA u7 n (by omega) (show (33 : Int) ≤ n by omega) (show (n : Int) < 44 by omega)
    · obtain rfl : n = 44 := by omega
      rw [if_pos (by omega)]; exact own_elemI evvA AA u8
    · rw [if_neg (by omega)]; exact own_all2 evxA AA hlA u9 n (by omega) (show (45 : Int) ≤ n by omega) (show (n : Int) < 123 by omega)
    · obtain rfl : n = 123 := by omega
      rw [if_pos (by omega)]; exact own_elemI evvA AA u10
    · obtain rfl : n = 124 := by omega
      rw [if_neg (by omega)]; exact own_elemI evvA AA u11
    · obtain rfl : n = 125 := by omega
      rw [if_pos (by omega)]; exact own_elemI evvA AA u12
    · obtain rfl : n = 126 := by omega
      rw [if_neg (by omega)]; exact own_elemI evvA AA u13
    · obtain rfl : n = 127 := by omega
      rw [if_neg (by omega)]; exact own_elemI evvA AA u14
  have hA := own_tabA hnA
  obtain ⟨wR, evwR⟩ := exa_v u3
  have EwR := Exa.start evwR u3
  have SR := Sta.start evwR (Or.inr ⟨(hw _ (List.mem_of_getElem? (i := 2) rfl)), (hw _ (List.mem_of_getElem? (i := 12) rfl))⟩)
  obtain ⟨vR, evvR⟩ := arr_v u4
  obtain ⟨clR, AR⟩ := Arr.start evvR u4
  obtain ⟨hlR, hlenR⟩ := own_len evvR AR u5
  have hszR := own_size hlR hlenR
  have hsnR : clR.slots.size = 128 := hszR
  have FR : Fld s s.heap wR "com/example/inkwell/inkwell/io/LineTokenizer$Syntax" "wordEnds" "[Z" (.ref vR) := Fld.start ((fld_at evwR).symm.trans evvR)
  have evxR := fun (idx : List Nat) => (show (Jvm.Term.field (Jvm.Term.static "com/example/inkwell/inkwell/io/LineTokenizer$Syntax" "RULES" "Lcom/example/inkwell/inkwell/io/LineTokenizer$Syntax;") "com/example/inkwell/inkwell/io/LineTokenizer$Syntax" "wordEnds" "[Z").eval #[.int i0] s none idx s = some (.ref vR) from evvR)
  have hnR : ∀ n, n < 128 → clR.slots[n]? = some (.int (if n < 33 ∨ n = 44 ∨ n = 33 ∨ n = 35 ∨ n = 61 ∨ n = 60 ∨ n = 62 ∨ n = 39 ∨ n = 34 ∨ n = 37 ∨ n = 123 ∨ n = 125 then 1 else 0)) := by
    intro n hn
    rcases (by omega : (0 ≤ n ∧ n < 36) ∨ (36 ≤ n ∧ n < 37) ∨ (37 ≤ n ∧ n < 38) ∨ (38 ≤ n ∧ n < 39) ∨ (39 ≤ n ∧ n < 40) ∨ (40 ≤ n ∧ n < 44) ∨ (44 ≤ n ∧ n < 45) ∨ (45 ≤ n ∧ n < 60) ∨ (60 ≤ n ∧ n < 61) ∨ (61 ≤ n ∧ n < 62) ∨ (62 ≤ n ∧ n < 63) ∨ (63 ≤ n ∧ n < 123) ∨ (123 ≤ n ∧ n < 124) ∨ (124 ≤ n ∧ n < 125) ∨ (125 ≤ n ∧ n < 126) ∨ (126 ≤ n ∧ n < 127) ∨ (127 ≤ n ∧ n < 128)) with h | h | h | h | h | h | h | h | h | h | h | h | h | h | h | h | h
    · rw [if_pos (by omega)]; exact own_all1 evxR AR hlR u15 n (by omega) (show (n : Int) < 36 by omega)
    · obtain rfl : n = 36 := by omega
      rw [if_neg (by omega)]; exact own_elemI evvR AR u16
    · obtain rfl : n = 37 := by omega
      rw [if_pos (by omega)]; exact own_elemI evvR AR u17
    · obtain rfl : n = 38 := by omega
      rw [if_neg (by omega)]; exact own_elemI evvR AR u18
    · obtain rfl : n = 39 := by omega
      rw [if_pos (by omega)]; exact own_elemI evvR AR u19
    · rw [if_neg (by omega)]; exact own_all2 evxR AR hlR u20 n (by omega) (show (40 : Int) ≤ n by omega) (show (n : Int) < 44 by omega)
    · obtain rfl : n = 44 := by omega
      rw [if_pos (by omega)]; exact own_elemI evvR AR u21
    · rw [if_neg (by omega)]; exact own_all2 evxR AR hlR u22 n (by omega) (show (45 : Int) ≤ n by omega) (show (n : Int) < 60 by omega)
    · obtain rfl : n = 60 := by omega
      rw [if_pos (by omega)]; exact own_elemI evvR AR u23
    · obtain rfl : n = 61 := by omega
      rw [if_pos (by omega)]; exact own_elemI evvR AR u24
    · obtain rfl : n = 62 := by omega
      rw [if_pos (by omega)]; exact own_elemI evvR AR u25
    · rw [if_neg (by omega)]; exact own_all2 evxR AR hlR u26 n (by omega) (show (63 : Int) ≤ n by omega) (show (n : Int) < 123 by omega)
    · obtain rfl : n = 123 := by omega
      rw [if_pos (by omega)]; exact own_elemI evvR AR u27
    · obtain rfl : n = 124 := by omega
      rw [if_neg (by omega)]; exact own_elemI evvR AR u28
    · obtain rfl : n = 125 := by omega
      rw [if_pos (by omega)]; exact own_elemI evvR AR u29
    · obtain rfl : n = 126 := by omega
      rw [if_neg (by omega)]; exact own_elemI evvR AR u30
    · obtain rfl : n = 127 := by omega
      rw [if_neg (by omega)]; exact own_elemI evvR AR v30
  have hR := own_tabR hnR
  obtain ⟨n, o, h1, h2, h3, _, L, rfl, ⟨rfl, N⟩, hq⟩ := rm0 l s _ hw tables_1 i0 wA wR vA vR clA clR s.heap s.heap.size (Nat.le_refl _) SA EwA FA AA hszA hA SR EwR FR AR hszR hR p e ha hc hk s m _ below hf ((Spec.applies_iff_loose hf).mp happ).1 ⟨rfl, State.Warmed39.refl s, rfl⟩ trivial
  exact ⟨n, _, h1, h2, h3, hpost _ _ _ _ _ _ ⟨Cond.after_iff.mpr rfl, Cond.after_iff.mpr (eq_i res_at (Term.int_eval (1)) rfl), trivial⟩ ⟨hq.1, hq.2.1, (hq.2.2.sift fun y hy => Or.inr (N y hy)).mono (by decide) (by decide)⟩⟩
theorem main_1_1 : Claimed_1_1 := comes_1 fun _ _ _ _ _ _ h hF => ⟨h.1, hF⟩
theorem main_1_2 : Claimed_1_2 := comes_1 fun _ _ _ _ _ _ h hF => ⟨h.2.1, hF⟩
end Jvm.Pilot.@@N@@
namespace Jvm.Pilot.@@N@@
open Jvm Jvm.ClassFile Sem Op Lib Jvm.Free Jvm.Stand Jvm.Pilot.@@N@@.Jvm.D
/-! MADE BY PROGRAM (witnessworld.py) out of the Statement's table words and the real class files: 14 classes; the members and pool entries that the words name. The judged class is class 1, her method 1. -/
namespace start1
open Jvm.ClassFile
def u (s : String) : CpInfo := .utf8 (stringToUtf16 s)
/-- a pool by its gaps: so many unusable entries, then the entry; so many at the end -/
def gap : Nat → List CpInfo → List CpInfo
  | 0, r => r
  | n + 1, r => .unusable :: gap n r
def poolList (es : List (Nat × CpInfo)) (last : Nat) : List CpInfo := es.foldr (fun e r => gap e.1 (e.2 :: r)) (gap last [])
def pool (es : List (Nat × CpInfo)) (last : Nat) : Array CpInfo := ⟨poolList es last⟩
def fileOf (pool : Array CpInfo) (this : Nat) (attrs : Array Attribute := #[]) (ms : Array MethodInfo := #[]) (fl : Nat := 33) (sup : Nat := 0) (ifs : Array Nat := #[]) (fds : Array FieldInfo := #[]) : ClassFile where
  minorVersion := 0
  majorVersion := 65
  constantPool := pool
  accessFlags := fl
  thisClass := this
  superClass := sup
  interfaces := ifs
  fields := fds
  methods := ms
  attributes := attrs
def plain (name : String) (sup : Option ClassId) : Class where
  name := name
  kind := .ordinary
  loader := none
  accessFlags := 33
  super := sup
  interfaces := #[]
  cf := none
  fields := #[]
  methods := #[]
  instanceTypes := #[]
  staticTypes := #[]
  resolved := #[]
  callSites := []
  init := .initialized
  statics := none
  mirror := none

def pool0 : Array CpInfo := pool [(5, u "<init>"), (0, u "()V"), (1, .class_ 10), (1, u "java/lang/Object")] 113

def k0m0 : Method := { name := "<init>", desc := "()V", sig := { parameters := [], returnType := none }, accessFlags := 1, code := none }
/-- java/lang/Object -/
def k0 : Class := { plain "java/lang/Object" none with
  accessFlags := 33
  interfaces := #[]
  cf := some (fileOf pool0 8 #[] #[{ accessFlags := 1, nameIndex := 5, descriptorIndex := 6, attributes := #[] }] 33 0 #[] #[])
  fields := #[]
  methods := #[k0m0]
  instanceTypes := #[]
  staticTypes := #[]
  resolved := Array.replicate 124 none
  statics := none }

def pool1 : Array CpInfo := pool [(2, .class_ 4), (1, u "java/lang/Object"), (0, u "<init>"), (0, u "()V"), (0, .integer 65535), (0, .fieldref 9 10), (0, .class_ 11), (0, .nameAndType 12 13), (0, u "com/example/inkwell/inkwell/io/LineTokenizer$Syntax"), (0, u "ARFF"), (0, u "Lcom/example/inkwell/inkwell/io/LineTokenizer$Syntax;"), (0, .methodref 9 15), (0, .nameAndType 16 17), (0, u "endsWord"), (0, u "(C)Z"), (0, .fieldref 9 19), (0, .nameAndType 20 13), (0, u "RULES"), (0, .class_ 22), (0, u "com/example/inkwell/inkwell/io/SyntaxEndsWordPinLaw"), (2, u "law"), (0, u "(I)Z")] 7

def k1m0 : Method := { name := "<init>", desc := "()V", sig := { parameters := [], returnType := none }, accessFlags := 2, code := none }
def k1c1 : Code := { maxStack := 2, maxLocals := 7, code := code, exceptionTable := #[], attributes := #[] }
def k1m1 : Method := { name := "law", desc := "(I)Z", sig := { parameters := [.int], returnType := some .boolean }, accessFlags := 9, code := some k1c1 }
/-- com/example/inkwell/inkwell/io/SyntaxEndsWordPinLaw -/
def k1 : Class := { plain "com/example/inkwell/inkwell/io/SyntaxEndsWordPinLaw" (some 0) with
  accessFlags := 49
  interfaces := #[]
  cf := some (fileOf pool1 21 #[] #[{ accessFlags := 2, nameIndex := 5, descriptorIndex := 6, attributes := #[] }, { accessFlags := 9, nameIndex := 25, descriptorIndex := 26, attributes := #[] }] 49 2 #[] #[])
  fields := #[]
  methods := #[k1m0, k1m1]
  instanceTypes := #[]
  staticTypes := #[]
  resolved := Array.replicate 34 none
  statics := none }

def pool2 : Array CpInfo := pool [(1, .class_ 2), (0, u "java/lang/constant/Constable"), (0, .class_ 4), (0, u "java/lang/Object")] 6

/-- java/lang/constant/Constable -/
def k2 : Class := { plain "java/lang/constant/Constable" (some 0) with
  accessFlags := 1537
  interfaces := #[]
  cf := some (fileOf pool2 1 #[] #[] 1537 3 #[] #[])
  fields := #[]
  methods := #[]
  instanceTypes := #[]
  staticTypes := #[]
  resolved := Array.replicate 11 none
  statics := none }

def pool3 : Array CpInfo := pool [(1, .class_ 2), (0, u "java/lang/Comparable"), (0, .class_ 4), (0, u "java/lang/Object")] 7

/-- java/lang/Comparable -/
def k3 : Class := { plain "java/lang/Comparable" (some 0) with
  accessFlags := 1537
  interfaces := #[]
  cf := some (fileOf pool3 1 #[] #[] 1537 3 #[] #[])
  fields := #[]
  methods := #[]
  instanceTypes := #[]
  staticTypes := #[]
  resolved := Array.replicate 12 none
  statics := none }

def pool4 : Array CpInfo := pool [(1, .class_ 2), (0, u "java/io/Serializable"), (0, .class_ 4), (0, u "java/lang/Object")] 2

/-- java/io/Serializable -/
def k4 : Class := { plain "java/io/Serializable" (some 0) with
  accessFlags := 1537
  interfaces := #[]
  cf := some (fileOf pool4 1 #[] #[] 1537 3 #[] #[])
  fields := #[]
  methods := #[]
  instanceTypes := #[]
  staticTypes := #[]
  resolved := Array.replicate 7 none
  statics := none }

def pool5 : Array CpInfo := pool [(2, .class_ 4), (1, u "java/lang/Enum"), (0, u "name"), (0, u "Ljava/lang/String;"), (2, u "ordinal"), (0, u "I"), (1, .class_ 14), (1, u "java/lang/Object"), (4, u "hash"), (86, .class_ 108), (1, u "java/lang/Enum$EnumDesc"), (2, .class_ 112), (0, u "java/lang/constant/Constable"), (0, .class_ 114), (0, u "java/lang/Comparable"), (0, .class_ 116), (0, u "java/io/Serializable")] 87

/-- java/lang/Enum -/
def k5 : Class := { plain "java/lang/Enum" (some 0) with
  accessFlags := 1057
  interfaces := #[2, 3, 4]
  cf := some (fileOf pool5 2 #[.nestMembers #[106]] #[] 1057 12 #[111, 113, 115] #[{ accessFlags := 18, nameIndex := 5, descriptorIndex := 6, attributes := #[] }, { accessFlags := 18, nameIndex := 9, descriptorIndex := 10, attributes := #[] }, { accessFlags := 2, nameIndex := 19, descriptorIndex := 10, attributes := #[] }])
  fields := #[{ name := "name", type := (.object "java/lang/String"), accessFlags := 18, slot := 0, constantValue := 0 }, { name := "ordinal", type := .int, accessFlags := 18, slot := 1, constantValue := 0 }, { name := "hash", type := .int, accessFlags := 2, slot := 2, constantValue := 0 }]
  methods := #[]
  instanceTypes := #[(.object "java/lang/String"), .int, .int]
  staticTypes := #[]
  resolved := Array.replicate 204 none
  statics := none }

def pool6 : Array CpInfo := pool [(1, .class_ 2), (0, u "com/example/inkwell/inkwell/io/LineTokenizer"), (0, .class_ 4), (0, u "com/example/inkwell/inkwell/io/LineTokenizer$Syntax"), (2, u "ARFF"), (0, u "Lcom/example/inkwell/inkwell/io/LineTokenizer$Syntax;"), (2, u "RULES"), (2, u "$VALUES"), (0, u "[Lcom/example/inkwell/inkwell/io/LineTokenizer$Syntax;"), (6, .class_ 24), (1, u "java/lang/Enum"), (8, u "reserved"), (0, u "[Z"), (0, .fieldref 3 36), (0, .nameAndType 37 34), (0, u "wordEnds"), (1, u "[[Lcom/example/inkwell/inkwell/io/LineTokenizer$Kind;"), (2, u "marks"), (2, u "comment"), (0, u "C"), (13, u "(C)Z"), (38, u "endsWord")] 76

def k6c0 : Code := { maxStack := 2, maxLocals := 2, code := prog_24_method_4_code, exceptionTable := #[], attributes := #[] }
def k6m0 : Method := { name := "endsWord", desc := "(C)Z", sig := { parameters := [.char], returnType := some .boolean }, accessFlags := 0, code := some k6c0 }
/-- com/example/inkwell/inkwell/io/LineTokenizer$Syntax -/
def k6 : Class := { plain "com/example/inkwell/inkwell/io/LineTokenizer$Syntax" (some 5) with
  accessFlags := 16432
  interfaces := #[]
  cf := some (fileOf pool6 3 #[.nestHost 1] #[{ accessFlags := 0, nameIndex := 99, descriptorIndex := 60, attributes := #[] }] 16432 22 #[] #[{ accessFlags := 16409, nameIndex := 7, descriptorIndex := 8, attributes := #[] }, { accessFlags := 16409, nameIndex := 11, descriptorIndex := 8, attributes := #[] }, { accessFlags := 18, nameIndex := 45, descriptorIndex := 46, attributes := #[] }, { accessFlags := 18, nameIndex := 33, descriptorIndex := 34, attributes := #[] }, { accessFlags := 18, nameIndex := 37, descriptorIndex := 34, attributes := #[] }, { accessFlags := 18, nameIndex := 42, descriptorIndex := 39, attributes := #[] }, { accessFlags := 4122, nameIndex := 14, descriptorIndex := 15, attributes := #[] }])
  fields := #[{ name := "ARFF", type := (.object "com/example/inkwell/inkwell/io/LineTokenizer$Syntax"), accessFlags := 16409, slot := 0, constantValue := 0 }, { name := "RULES", type := (.object "com/example/inkwell/inkwell/io/LineTokenizer$Syntax"), accessFlags := 16409, slot := 1, constantValue := 0 }, { name := "comment", type := .char, accessFlags := 18, slot := 3, constantValue := 0 }, { name := "reserved", type := (.array .boolean), accessFlags := 18, slot := 4, constantValue := 0 }, { name := "wordEnds", type := (.array .boolean), accessFlags := 18, slot := 5, constantValue := 0 }, { name := "marks", type := (.array (.array (.object "com/example/inkwell/inkwell/io/LineTokenizer$Kind"))), accessFlags := 18, slot := 6, constantValue := 0 }, { name := "$VALUES", type := (.array (.object "com/example/inkwell/inkwell/io/LineTokenizer$Syntax")), accessFlags := 4122, slot := 2, constantValue := 0 }]
  methods := #[k6m0]
  instanceTypes := #[(.object "java/lang/String"), .int, .int, .char, (.array .boolean), (.array .boolean), (.array (.array (.object "com/example/inkwell/inkwell/io/LineTokenizer$Kind")))]
  staticTypes := #[(.object "com/example/inkwell/inkwell/io/LineTokenizer$Syntax"), (.object "com/example/inkwell/inkwell/io/LineTokenizer$Syntax"), (.array (.object "com/example/inkwell/inkwell/io/LineTokenizer$Syntax"))]
  resolved := Array.replicate 176 none
  statics := some 0 }

def pool7 : Array CpInfo := pool [(1, u "java/lang/Cloneable"), (0, .class_ 1), (0, u "java/lang/Object"), (0, .class_ 3)] 3

/-- java/lang/Cloneable -/
def k7 : Class := { plain "java/lang/Cloneable" (some 0) with
  accessFlags := 1537
  interfaces := #[]
  cf := some (fileOf pool7 2 #[] #[] 1537 4 #[] #[])
  fields := #[]
  methods := #[]
  instanceTypes := #[]
  staticTypes := #[]
  resolved := Array.replicate 8 none
  statics := none }

/-- the primitive boolean -/
def k8 : Class := { plain "boolean" none with kind := .primitive 'Z', accessFlags := 0x411 }
/-- [Z -/
def k9 : Class := { plain "[Z" (some 0) with kind := .array 8 .boolean, interfaces := #[7, 4], accessFlags := 1041 }

/-- the primitive byte -/
def k10 : Class := { plain "byte" none with kind := .primitive 'B', accessFlags := 0x411 }
/-- [B -/
def k11 : Class := { plain "[B" (some 0) with kind := .array 10 .byte, interfaces := #[7, 4], accessFlags := 1041 }

/-- the primitive int -/
def k12 : Class := { plain "int" none with kind := .primitive 'I', accessFlags := 0x411 }
/-- [I -/
def k13 : Class := { plain "[I" (some 0) with kind := .array 12 .int, interfaces := #[7, 4], accessFlags := 1041 }

def heap : Heap := #[{ cls := 6, slots := #[.ref 1, .ref 2, .null], vm := .statics 6 },
  { cls := 6, slots := #[.null, .int 0, .int 0, .int 0, .null, .ref 3, .null], vm := .none },
  { cls := 6, slots := #[.null, .int 1, .int 0, .int 0, .null, .ref 4, .null], vm := .none },
  { cls := 9, slots := #[.int 1, .int 1, .int 1, .int 1, .int 1, .int 1, .int 1, .int 1, .int 1, .int 1, .int 1, .int 1, .int 1, .int 1, .int 1, .int 1, .int 1, .int 1, .int 1, .int 1, .int 1, .int 1, .int 1, .int 1, .int 1, .int 1, .int 1, .int 1, .int 1, .int 1, .int 1, .int 1, .int 1, .int 0, .int 0, .int 0, .int 0, .int 0, .int 0, .int 0, .int 0, .int 0, .int 0, .int 0, .int 1, .int 0, .int 0, .int 0, .int 0, .int 0, .int 0, .int 0, .int 0, .int 0, .int 0, .int 0, .int 0, .int 0, .int 0, .int 0, .int 0, .int 0, .int 0, .int 0, .int 0, .int 0, .int 0, .int 0, .int 0, .int 0, .int 0, .int 0, .int 0, .int 0, .int 0, .int 0, .int 0, .int 0, .int 0, .int 0, .int 0, .int 0, .int 0, .int 0, .int 0, .int 0, .int 0, .int 0, .int 0, .int 0, .int 0, .int 0, .int 0, .int 0, .int 0, .int 0, .int 0, .int 0, .int 0, .int 0, .int 0, .int 0, .int 0, .int 0, .int 0, .int 0, .int 0, .int 0, .int 0, .int 0, .int 0, .int 0, .int 0, .int 0, .int 0, .int 0, .int 0, .int 0, .int 0, .int 0, .int 0, .int 0, .int 0, .int 1, .int 0, .int 1, .int 0, .int 0], vm := .none },
  { cls := 9, slots := #[.int 1, .int 1, .int 1, .int 1, .int 1, .int 1, .int 1, .int 1, .int 1, .int 1, .int 1, .int 1, .int 1, .int 1, .int 1, .int 1, .int 1, .int 1, .int 1, .int 1, .int 1, .int 1, .int 1, .int 1, .int 1, .int 1, .int 1, .int 1, .int 1, .int 1, .int 1, .int 1, .int 1, .int 1, .int 1, .int 1, .int 0, .int 1, .int 0, .int 1, .int 0, .int 0, .int 0, .int 0, .int 1, .int 0, .int 0, .int 0, .int 0, .int 0, .int 0, .int 0, .int 0, .int 0, .int 0, .int 0, .int 0, .int 0, .int 0, .int 0, .int 1, .int 1, .int 1, .int 0, .int 0, .int 0, .int 0, .int 0, .int 0, .int 0, .int 0, .int 0, .int 0, .int 0, .int 0, .int 0, .int 0, .int 0, .int 0, .int 0, .int 0, .int 0, .int 0, .int 0, .int 0, .int 0, .int 0, .int 0, .int 0, .int 0, .int 0, .int 0, .int 0, .int 0, .int 0, .int 0, .int 0, .int 0, .int 0, .int 0, .int 0, .int 0, .int 0, .int 0, .int 0, .int 0, .int 0, .int 0, .int 0, .int 0, .int 0, .int 0, .int 0, .int 0, .int 0, .int 0, .int 0, .int 0, .int 0, .int 0, .int 0, .int 0, .int 0, .int 1, .int 0, .int 1, .int 0, .int 0], vm := .none }]
def classes : Array Class := #[k0, k1, k2, k3, k4, k5, k6, k7, k8, k9, k10, k11, k12, k13]
def interned : List (Array UInt16 × Addr) := []
def slotsUsed : Nat := 273
def theMethod : MethodId := ⟨1, 1⟩
def args0 : Array Value := #[.int 5]
def aboutOver (below : List Frame) : State where
  vm := { classes := classes, interned := interned.toArray }
  heap := heap
  slotsUsed := slotsUsed
  threads := #[{ frames := .invoking theMethod args0 :: below }]
def below0 : List Frame := [.native { method := ⟨0, 0⟩, args := #[] }]
def about1 : State := aboutOver below0
def p0 : Program := .bare "" "" ""
def e0 : Env := launch0.env 0 0 0
theorem w_frames : about1.frames = Frame.invoking theMethod args0 :: below0 := rfl
set_option maxRecDepth 65536 in
theorem w_args : argsFit about1.vm theMethod args0 = true := by decide +kernel
set_option maxRecDepth 65536 in
theorem w_heap : heapFits about1 = true := by decide +kernel
set_option maxRecDepth 65536 in
theorem w_runnable : about1.curStatus? = some .runnable := by decide +kernel
set_option maxRecDepth 65536 in
theorem w_alone : about1.alone = true := by decide +kernel
set_option maxRecDepth 65536 in
theorem w_named : about1.methodNamed? x = some theMethod := by decide +kernel
set_option maxRecDepth 65536 in
theorem w_hears : about1.hears theMethod below0 = true := by decide +kernel
set_option maxRecDepth 65536 in
theorem w_ripe : about1.ripe theMethod args0 below0 = true := by decide +kernel
theorem w_running : about1.status = .running := rfl
set_option maxRecDepth 65536 in
theorem w_room : about1.hasRoom e0.platform room_1 = true :=
  launch0.hasRoom_least _ room_1 (by decide +kernel) (by decide +kernel) (by decide +kernel) (by decide +kernel) (by decide +kernel) (by decide +kernel)
theorem allAtoms_all (ts : List Jvm.Cond) (a : Array Jvm.Value) (st : Jvm.State) : (allAtoms ts).before a st = ts.all (fun c => c.before a st) := by
  induction ts with
  | nil => rfl
  | cons c t ih =>
    show (Jvm.Cond.and c (allAtoms t)).before a st = _
    rw [Jvm.Cond.before_and, ih, List.all_cons]
def words1 : List Jvm.Cond := Jvm.Cond.code x code maxLocals ret :: tables_1
/-- a 'code' word, met by the world's own term for the bytes: nothing is compared byte by byte -/
theorem code_word {y : MethodName} {bytes : ByteArray} {mx : Nat} {rt : Option FieldType} {a : Array Value} {s : State} {m : MethodId} {meth : Method} {c : Code} (h1 : s.methodNamed? y = some m) (h2 : s.vm.method? m = some meth) (h3 : meth.code = some c) (h4 : c.code = bytes)
    (h5 : (c.maxLocals == mx && c.exceptionTable.isEmpty && decide (c.maxStack ≤ mostOperands) && decide (meth.sig.returnType = rt) && !meth.locks && decide (parseMethodDescriptor y.desc = some meth.sig)) = true) : (Jvm.Cond.code y bytes mx rt).before a s = true := by
  simp only [Bool.and_eq_true, beq_iff_eq, Bool.not_eq_true', decide_eq_true_eq] at h5
  obtain ⟨⟨⟨⟨⟨g1, g2⟩, g3⟩, g4⟩, g5⟩, g6⟩ := h5
  simp [Cond.before, Cond.holds, Cond.value, h1, h2, h3, h4, g1, g2, g3, g4, g5, g6]
def isCode : Jvm.Cond → Bool
  | .code _ _ _ _ => true
  | _ => false
theorem all_split {L : List Jvm.Cond} {P : Jvm.Cond → Bool} (h1 : L.all (fun c => isCode c || P c) = true) (h2 : ∀ c ∈ L.filter isCode, P c = true) : L.all P = true := by
  refine List.all_eq_true.mpr fun c hc => ?_
  have h := List.all_eq_true.mp h1 c hc
  rcases Bool.eq_false_or_eq_true (isCode c) with hi | hi
  · exact h2 c (List.mem_filter.mpr ⟨hc, hi⟩)
  · simpa [hi] using h
set_option maxRecDepth 65536 in
theorem w_c0 : (Jvm.Cond.code x code maxLocals ret).before args0 about1 = true := code_word (m := ⟨1, 1⟩) (meth := k1m1) (c := k1c1) (by decide +kernel) rfl rfl rfl (by decide +kernel)
set_option maxRecDepth 65536 in
theorem w_c1 : (Jvm.Cond.code ({ cls := "com/example/inkwell/inkwell/io/LineTokenizer$Syntax", name := "endsWord", desc := "(C)Z" } : Jvm.MethodName) prog_24_method_4_code (2 : Nat) (Option.some Jvm.ClassFile.FieldType.boolean)).before args0 about1 = true := code_word (m := ⟨6, 0⟩) (meth := k6m0) (c := k6c0) (by decide +kernel) rfl rfl rfl (by decide +kernel)
def codes1 : List Jvm.Cond := [Jvm.Cond.code x code maxLocals ret, Jvm.Cond.code ({ cls := "com/example/inkwell/inkwell/io/LineTokenizer$Syntax", name := "endsWord", desc := "(C)Z" } : Jvm.MethodName) prog_24_method_4_code (2 : Nat) (Option.some Jvm.ClassFile.FieldType.boolean)]
set_option maxRecDepth 65536 in
theorem codes_eq : words1.filter isCode = codes1 := rfl
theorem w_codes : ∀ c ∈ words1.filter isCode, c.before args0 about1 = true := by
  rw [codes_eq]
  intro c hc
  simp only [codes1, List.mem_cons, List.not_mem_nil, or_false] at hc
  rcases hc with rfl | rfl
  · exact w_c0
  · exact w_c1
set_option maxRecDepth 65536 in
theorem w_t1 : words1.all (fun c => isCode c || c.before args0 about1) = true := by decide +kernel
theorem w_tables : (allAtoms (Jvm.Cond.code x code maxLocals ret :: tables_1)).before args0 about1 = true := by
  rw [allAtoms_all]
  show words1.all (fun c => c.before args0 about1) = true
  refine all_split ?_ w_codes
  rw [w_t1]
set_option maxRecDepth 65536 in
theorem w_case : (Jvm.Cond.and given_1 narrow_1).before args0 about1 = true := by decide +kernel
theorem w_applies : (headSpec (Jvm.Cond.code x code maxLocals ret :: tables_1) room_1).applies x e0.platform about1 = true :=
  (Spec.applies_iff w_frames).mpr ⟨w_running, w_runnable, w_alone, w_named, w_hears, w_ripe, w_room, w_tables⟩
theorem atStart : AtStart classFile x code maxLocals ret World_1 tables_1 room_1 Calls_1 rest_1 Pre_1 launch0 p0 e0 about1 theMethod args0 below0 :=
  ⟨lists_1, trivial, launch0.admits_env _ _ _, launch0.least_env, fairChoices_fair.cas, fairChoices_fair.clock, w_frames, w_args, w_heap, w_applies, trivial, trivial, w_case⟩
end start1
theorem witness_1 : WitnessClaimed_1 := ⟨start1.p0, start1.e0, start1.about1, start1.theMethod, start1.args0, start1.below0, start1.atStart⟩
end Jvm.Pilot.@@N@@
