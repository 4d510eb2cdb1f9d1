import JvmDerived
import JvmDerived.Pilot.@@N@@Statement
import JvmDerived.Pilot.@@N@@Code
set_option linter.unusedVariables false
set_option linter.unusedSimpArgs false
namespace Jvm.OwnKit
open Sem ClassFile Op Lib Jvm.Stand Jvm.Free Jvm.LawKit Jvm.RoadKit
section New
variable {p : Program} {l : Launch} {e : Env} {R : Room} {s : State} {m : MethodId} {args : Array Value} {below : List Frame} {meth : Method} {c : Code} {T T' : State} {locs : List Loc} {cells slots : Nat} {g g' : JFrame} {F : Outcome → State → Prop}
/-- from here the body runs to its end, and F says what is there -/
def Go (p : Program) (e : Env) (below : List Frame) (T : State) (g : JFrame) (F : Outcome → State → Prop) : Prop :=
  ∃ s₂ o, Steps p.tables e below (T.setTop g) s₂ ∧ s₂.status = .running ∧ Ended s₂ below o ∧ F o s₂
theorem Go.step (st : ∀ t, Steps p.tables e below (T'.setTop g') t → Steps p.tables e below (T.setTop g) t) (k : Go p e below T' g' F) : Go p e below T g F := by
  obtain ⟨a, o, h1, h2⟩ := k
  exact ⟨a, o, st _ h1, h2⟩
theorem Go.call (st : Steps p.tables e below (T.setTop g) (T'.setTop g')) (k : Go p e below T' g' F) : Go p e below T g F := by
  obtain ⟨a, o, h1, h2⟩ := k
  exact ⟨a, o, st.trans h1, h2⟩
abbrev Fin (s : State) (Q : Option Value → Heap → List Loc → Prop) (C S : Nat) : Outcome → State → Prop := fun o U' => ∃ v L, o = .returned v ∧ Q v U'.heap L ∧ FrameEnd s o U' L C S
variable {Q : Option Value → Heap → List Loc → Prop} {C S : Nat}
theorem Go.ret0 (X : Stand p l e R s m args below meth c T locs cells slots) (hx : p.tables.exec = Jvm.exec) {pc : Nat} {Ls : Array Slot} (hret : meth.sig.returnType = none) (hlk : meth.locks = false) (hd : decode c.code pc = .ok (.return_, 1))
    (hQ : Q none T.heap locs) (h1 : cells ≤ C) (h2 : slots ≤ S) : Go p e below T (mkF m pc Ls []) (Fin s Q C S) := by
  obtain ⟨fs, hr, hrun, hended, hW, hsame⟩ := X.leave (v := none) (fun _ => rfl) hlk
  exact ⟨_, _, X.returnOut hx hret hd hr, hrun, hended, _, _, rfl, hQ, ⟨_, rfl⟩, hW, hsame.mono h1 h2⟩
theorem Go.retI (X : Stand p l e R s m args below meth c T locs cells slots) (hx : p.tables.exec = Jvm.exec) {pc : Nat} {Ls : Array Slot} {z : Int32} {rest : List Value} (hret : meth.sig.returnType = some .int) (hlk : meth.locks = false) (hd : decode c.code pc = .ok (.ireturn, 1))
    (hQ : Q (some (.int z)) T.heap locs) (h1 : cells ≤ C) (h2 : slots ≤ S) : Go p e below T (mkF m pc Ls (.int z :: rest)) (Fin s Q C S) := by
  obtain ⟨fs, hr, hrun, hended, hW, hsame⟩ := X.leave (v := some (.int z)) (fun h => by rw [hret] at h; cases h) hlk
  exact ⟨_, _, retOut X hx hret rfl (Or.inl ⟨rfl, Or.inl rfl, _, rfl⟩) hd hr, hrun, hended, _, _, rfl, hQ, ⟨_, rfl⟩, hW, hsame.mono h1 h2⟩
theorem Go.retL (X : Stand p l e R s m args below meth c T locs cells slots) (hx : p.tables.exec = Jvm.exec) {pc : Nat} {Ls : Array Slot} {z : Int64} {rest : List Value} (hret : meth.sig.returnType = some .long) (hlk : meth.locks = false) (hd : decode c.code pc = .ok (.lreturn, 1))
    (hQ : Q (some (.long z)) T.heap locs) (h1 : cells ≤ C) (h2 : slots ≤ S) : Go p e below T (mkF m pc Ls (.long z :: rest)) (Fin s Q C S) := by
  obtain ⟨fs, hr, hrun, hended, hW, hsame⟩ := X.leave (v := some (.long z)) (fun h => by rw [hret] at h; cases h) hlk
  exact ⟨_, _, retOut X hx hret rfl (Or.inr (Or.inl ⟨rfl, rfl, _, rfl⟩)) hd hr, hrun, hended, _, _, rfl, hQ, ⟨_, rfl⟩, hW, hsame.mono h1 h2⟩
theorem Go.retA (X : Stand p l e R s m args below meth c T locs cells slots) (hx : p.tables.exec = Jvm.exec) {pc : Nat} {Ls : Array Slot} {w : Value} {t : FieldType} {rest : List Value} (hret : meth.sig.returnType = some t) (ht : t.isReference = true) (hv : w.isRef = true) (hlk : meth.locks = false) (hd : decode c.code pc = .ok (.areturn, 1))
    (hQ : Q (some w) T.heap locs) (h1 : cells ≤ C) (h2 : slots ≤ S) : Go p e below T (mkF m pc Ls (w :: rest)) (Fin s Q C S) := by
  obtain ⟨fs, hr, hrun, hended, hW, hsame⟩ := X.leave (v := some w) (fun h => by rw [hret] at h; cases h) hlk
  have hn : narrow t w = w := by cases w <;> cases t <;> simp_all [narrow, Value.isRef, FieldType.isReference]
  exact ⟨_, _, retOut X hx hret hn (Or.inr (Or.inr (Or.inr (Or.inr ⟨rfl, ht, hv⟩)))) hd hr, hrun, hended, _, _, rfl, hQ, ⟨_, rfl⟩, hW, hsame.mono h1 h2⟩
theorem Go.retN {t : FieldType} (X : Stand p l e R s m args below meth c T locs cells slots) (hx : p.tables.exec = Jvm.exec) {pc : Nat} {Ls : Array Slot} {z z' : Int32} {rest : List Value} (hret : meth.sig.returnType = some t) (ht : t = .boolean ∨ t = .byte ∨ t = .char ∨ t = .short) (hlk : meth.locks = false) (hd : decode c.code pc = .ok (.ireturn, 1))
    (hz : nar t z = z') (hQ : Q (some (.int z')) T.heap locs) (h1 : cells ≤ C) (h2 : slots ≤ S) : Go p e below T (mkF m pc Ls (.int z :: rest)) (Fin s Q C S) := by
  subst hz
  obtain ⟨fs, hr, hrun, hended, hW, hsame⟩ := X.leave (v := some (.int (nar t z))) (fun h => by rw [hret] at h; cases h) hlk
  exact ⟨_, _, Jvm.RoadKit.retN X hx hret ht hd hr, hrun, hended, _, _, rfl, hQ, ⟨_, rfl⟩, hW, hsame.mono h1 h2⟩
theorem own_cat {v : Value} (h : v.isRef = true) : v.category = 1 := by cases v <;> simp_all [Value.isRef, Value.category]
theorem own_fitsRef {t : FieldType} {v : Value} (ht : t.isReference = true) (h : v.isRef = true) : fits t v = true := by cases t <;> cases v <;> simp_all [fits, Value.isRef, FieldType.isReference]
theorem own_narrowRef {t : FieldType} {v : Value} (ht : t.isReference = true) (h : v.isRef = true) : narrow t v = v := by cases v <;> cases t <;> simp_all [narrow, Value.isRef, FieldType.isReference]
theorem own_staKeep {Z : State} {h h' : Heap} {C n d : String} {v : Value} {ws : List Addr} (F : Sta Z h C n d v) (K : Keep h h' ws) (q : ∀ x ∈ ws, ∀ cell : Cell, h[x]? = some cell → cell.vm.isStatics = false) : Sta Z h' C n d v := by
  obtain ⟨cf, i, k, f, st, cell, h1, h2, h3, h4, h5, h6, h7⟩ := F
  exact ⟨cf, i, k, f, st, cell, h1, h2, h3, h4, K.2.1 st cell h5 (fun m => by rw [q st m cell h5] at h6; cases h6), h6, h7⟩
theorem own_arrKeep {Z : State} {h h' : Heap} {a : Addr} {cl : Cell} {ty : FieldType} {ws : List Addr} (F : Arr Z h a cl ty) (K : Keep h h' ws) (q : a ∉ ws) : Arr Z h' a cl ty := ⟨K.2.1 a cl F.1 q, F.2⟩
theorem own_plainE {Z : State} {h : Heap} {a : Addr} {C : String} (E : Exa Z h a C) : ∀ cell : Cell, h[a]? = some cell → cell.vm.isStatics = false := fun cell hc => by
  obtain ⟨c2, k, h1, -, -, h4, -⟩ := E
  cases hc.symm.trans h1
  exact h4
theorem own_plainV {Z : State} {h : Heap} {a : Addr} {k : ClassId} {ty : FieldType} {z : Int32} {vs : List Value} {dv : Value} (V : Arv Z h a k ty z vs dv) : ∀ cell : Cell, h[a]? = some cell → cell.vm.isStatics = false := fun cell hc => by
  obtain ⟨c2, A, -⟩ := V
  cases hc.symm.trans A.1
  exact A.plain
end New
end Jvm.OwnKit

namespace Jvm.OwnKit
open Sem ClassFile Op Lib Jvm.Stand Jvm.Free Jvm.LawKit Jvm.RoadKit
section Wide
variable {p : Program} {l : Launch} {e : Env} {R : Room} {s : State} {m : MethodId} {args : Array Value} {below : List Frame} {meth : Method} {c : Code} {T T' : State} {locs : List Loc} {cells slots : Nat}
abbrev FinW (s : State) (Q : Option Value → Heap → List Loc → Prop) (C S : Nat) : Outcome → State → Prop := fun o U' => ∃ v L, o = .returned v ∧ Q v U'.heap L ∧ ReturnedEndW s o U' L C S
variable {Q : Option Value → Heap → List Loc → Prop} {C S : Nat} {vm1 : Vm} {n : Nat}
theorem own_endW {s U : State} {o : Outcome} {L : List Loc} {k n C S : Nat} (h : ReturnedEndW s o U L k n) (h1 : k ≤ C) (h2 : n ≤ S) : ReturnedEndW s o U L C S := ⟨h.1, h.2.1, h.2.2.1, h.2.2.2.mono h1 h2⟩
theorem Go.ret0W (X : Stand p l e R (s.setVm vm1) m args below meth c T locs cells slots) (hS : s.Since vm1 n) (hn : n ≤ T.heap.size) (hx : p.tables.exec = Jvm.exec) {pc : Nat} {Ls : Array Slot} (hret : meth.sig.returnType = none) (hlk : meth.locks = false) (hd : decode c.code pc = .ok (.return_, 1))
    (hQ : Q none T.heap locs) (h1 : cells ≤ C) (h2 : slots ≤ S) : Go p e below T (mkF m pc Ls []) (FinW s Q C S) := by
  obtain ⟨fs, hr, hrun, hended, hW⟩ := X.leaveW hS hn (v := none) (fun _ => rfl) hlk
  exact ⟨_, _, X.returnOut hx hret hd hr, hrun, hended, _, _, rfl, hQ, own_endW hW h1 h2⟩
theorem Go.retAW (X : Stand p l e R (s.setVm vm1) m args below meth c T locs cells slots) (hS : s.Since vm1 n) (hn : n ≤ T.heap.size) (hx : p.tables.exec = Jvm.exec) {pc : Nat} {Ls : Array Slot} {w : Value} {t : FieldType} {rest : List Value} (hret : meth.sig.returnType = some t) (ht : t.isReference = true) (hv : w.isRef = true) (hlk : meth.locks = false) (hd : decode c.code pc = .ok (.areturn, 1))
    (hQ : Q (some w) T.heap locs) (h1 : cells ≤ C) (h2 : slots ≤ S) : Go p e below T (mkF m pc Ls (w :: rest)) (FinW s Q C S) := by
  obtain ⟨fs, hr, hrun, hended, hW⟩ := X.leaveW hS hn (v := some w) (fun h => by rw [hret] at h; cases h) hlk
  have hn : narrow t w = w := by cases w <;> cases t <;> simp_all [narrow, Value.isRef, FieldType.isReference]
  exact ⟨_, _, retOut X hx hret hn (Or.inr (Or.inr (Or.inr (Or.inr ⟨rfl, ht, hv⟩)))) hd hr, hrun, hended, _, _, rfl, hQ, own_endW hW h1 h2⟩
theorem Go.retNW {t : FieldType} (X : Stand p l e R (s.setVm vm1) m args below meth c T locs cells slots) (hS : s.Since vm1 n) (hn : n ≤ T.heap.size) (hx : p.tables.exec = Jvm.exec) {pc : Nat} {Ls : Array Slot} {z z' : Int32} {rest : List Value} (hret : meth.sig.returnType = some t) (ht : t = .boolean ∨ t = .byte ∨ t = .char ∨ t = .short) (hlk : meth.locks = false) (hd : decode c.code pc = .ok (.ireturn, 1))
    (hz : nar t z = z') (hQ : Q (some (.int z')) T.heap locs) (h1 : cells ≤ C) (h2 : slots ≤ S) : Go p e below T (mkF m pc Ls (.int z :: rest)) (FinW s Q C S) := by
  subst hz
  obtain ⟨fs, hr, hrun, hended, hW⟩ := X.leaveW hS hn (v := some (.int (nar t z))) (fun h => by rw [hret] at h; cases h) hlk
  exact ⟨_, _, Jvm.RoadKit.retN X hx hret ht hd hr, hrun, hended, _, _, rfl, hQ, own_endW hW h1 h2⟩
end Wide
end Jvm.OwnKit

namespace Jvm.OwnKit
open Sem ClassFile Op Lib Jvm.Stand Jvm.Free Jvm.LawKit Jvm.RoadKit
theorem own_fldI {args : Array Value} {Z : State} {t : Term} {a : Addr} {C n d : String} {k : Int32} (ev : t.eval args Z none [] Z = some (.ref a)) (h : (Cond.eq (Term.field t C n d) (Term.int k)).value args Z none Z [] = some true) : Fld Z Z.heap a C n d (.int k) := by
  obtain ⟨x, y, e1, e2, k1, k2⟩ := cmp_v (Or.inl h)
  rw [Term.int_eval] at e2
  cases e2
  obtain ⟨z, rfl⟩ := k2
  have e3 := e1
  rw [fld_at ev] at e3
  have q : z = k := by simpa [Cond.value, e1, Term.int_eval] using h
  subst q
  exact Fld.start e3

end Jvm.OwnKit

namespace Jvm.OwnKit
open Jvm.RoadKit
theorem own_cEq (x : Int32) : nar .char ((x &&& (255 : Int32)).toUInt32.toUInt16.toUInt32.toInt32) = x &&& 255 := by
  rw [i2c_mask]
  show (x &&& 255).toUInt32.toUInt16.toUInt32.toInt32 = _
  exact i2c_mask x
theorem own_cB (x : Int32) : ¬ (x &&& 255) < 0 ∧ ¬ (255 : Int32) < (x &&& 255) := by
  rw [Int32.lt_iff_toInt_lt, Int32.lt_iff_toInt_lt]
  have h := c_and x 255 (by decide)
  have a : (255 : Int32).toInt = 255 := by decide
  have b : (0 : Int32).toInt = 0 := by decide
  omega
theorem own_lat (x : Int32) : ¬ nar .char ((x &&& (255 : Int32)).toUInt32.toUInt16.toUInt32.toInt32) < 0 ∧ ¬ (255 : Int32) < nar .char ((x &&& (255 : Int32)).toUInt32.toUInt16.toUInt32.toInt32) := by
  rw [own_cEq]; exact own_cB x
theorem own_lat2 (x y : Int32) : ∀ c ∈ [nar .char ((x &&& (255 : Int32)).toUInt32.toUInt16.toUInt32.toInt32), nar .char ((y &&& (255 : Int32)).toUInt32.toUInt16.toUInt32.toInt32)], ¬ c < 0 ∧ ¬ (255 : Int32) < c := by
  intro c hc
  rcases List.mem_cons.mp hc with rfl | hc
  · exact own_lat x
  · rcases List.mem_cons.mp hc with rfl | hc
    · exact own_lat y
    · cases hc
end Jvm.OwnKit
/- laws to paste: Road.backV (cut by pick.py; bodies as the Statement names them) -/
namespace Jvm.Pilot.@@N@@
namespace StrChars
open Jvm Sem ClassFile Op Lib Jvm.Stand Jvm.Free.XT Jvm.Free.ALB Jvm.Free.JM Jvm.Free
open Jvm.Lib.Cold (StaticIs)
/-- a char array whose places are chars -/
def Ch (a : Addr) (A : Cell) (U : State) : Prop := Arr .char a A U ∧ Typed .char A
theorem Ch.mv {a : Addr} {A : Cell} {U U' : State} (h : Ch a A U) (hal : U.vm.Alike U'.vm) (hh : U'.heap = U.heap) : Ch a A U' := ⟨h.1.mv hal hh, h.2⟩
theorem Ch.keep {a : Addr} {A : Cell} {U U' : State} (h : Ch a A U) (hal : U.vm.Alike U'.vm) (hk : U'.heap[a]? = some A) : Ch a A U' := ⟨h.1.keep hal hk, h.2⟩
/-- what place i of a char[]'s cell holds -/
def cv (A : Cell) (i : Nat) : Int32 := match A.slots[i]? with | some (.int x) => x | _ => 0
theorem Ch.get {a : Addr} {A : Cell} {U : State} (h : Ch a A U) {i : Nat} (hi : i < A.slots.size) : A.slots[i]? = some (.int (cv A i)) := by
  have e := Array.getElem?_eq_getElem hi
  have f := h.2 i _ e
  unfold cv; rw [e]
  generalize A.slots[i] = v at f
  cases v <;> simp [fits] at f ⊢
/-- the byte that i2b leaves of a char -/
def lo8 (x : Int32) : Int32 := x.toInt8.toInt32
theorem fits_lo8 (y : Int32) : fits .byte (.int (lo8 y)) = true := by
  have h1 := y.toInt8.le_toInt
  have h2 := y.toInt8.toInt_lt
  simp only [lo8, fits, Bool.and_eq_true, decide_eq_true_eq, Int32.le_iff_toInt_le, Int8.toInt_toInt32, show (-128 : Int32).toInt = -128 from by decide, show (127 : Int32).toInt = 127 from by decide]
  omega
/-- A' is A but that each place j of lo .. hi - 1 holds f j -/
def Laid (A A' : Cell) (lo hi : Nat) (f : Nat → Value) : Prop := A'.cls = A.cls ∧ A'.vm = A.vm ∧ A'.slots.size = A.slots.size ∧ ∀ i, A'.slots[i]? = if lo ≤ i ∧ i < hi then some (f i) else A.slots[i]?
theorem Laid.zero (A : Cell) (lo : Nat) (f : Nat → Value) : Laid A A lo (lo + 0) f := ⟨rfl, rfl, rfl, fun i => by rw [if_neg (by omega)]⟩
theorem Laid.step {A Ak : Cell} {lo k : Nat} {f : Nat → Value} {v : Value} (h : Laid A Ak lo k f) (hlo : lo ≤ k) (hk : k < Ak.slots.size) (hv : v = f k) : Laid A (Ak.setSlot k v) lo (k + 1) f := by
  refine ⟨h.1, h.2.1, by simpa [Cell.setSlot] using h.2.2.1, fun i => ?_⟩
  by_cases e : k = i
  · subst e; rw [Cell.slots_setSlot_self v hk, if_pos (by omega), hv]
  · rw [Cell.slots_setSlot_ne v e, h.2.2.2 i]
    by_cases q : lo ≤ i ∧ i < k
    · rw [if_pos q, if_pos (by omega)]
    · rw [if_neg q, if_neg (by omega)]
def U16 : String := "java/lang/StringUTF16"
namespace Cmp5
def yN : MethodName := ⟨"java/lang/StringUTF16", "compress", "([CI[BII)I"⟩
abbrev yB : ByteArray := jdk_52_method_21_code
theorem d0 : decode yB 0 = .ok (.iconst 0, 1) := by decide +kernel
theorem d1 : decode yB 1 = .ok (.istore 5, 2) := by decide +kernel
theorem d3 : decode yB 3 = .ok (.iload 5, 2) := by decide +kernel
theorem d5 : decode yB 5 = .ok (.iload 4, 2) := by decide +kernel
theorem d7 : decode yB 7 = .ok (.if_icmp (.ge) 37, 3) := by decide +kernel
theorem d10 : decode yB 10 = .ok (.aload_n 0, 1) := by decide +kernel
theorem d11 : decode yB 11 = .ok (.iload_n 1, 1) := by decide +kernel
theorem d12 : decode yB 12 = .ok (.caload, 1) := by decide +kernel
theorem d13 : decode yB 13 = .ok (.istore 6, 2) := by decide +kernel
theorem d15 : decode yB 15 = .ok (.iload 6, 2) := by decide +kernel
theorem d17 : decode yB 17 = .ok (.sipush 255, 3) := by decide +kernel
theorem d20 : decode yB 20 = .ok (.if_icmp (.le) 6, 3) := by decide +kernel
theorem d26 : decode yB 26 = .ok (.aload_n 2, 1) := by decide +kernel
theorem d27 : decode yB 27 = .ok (.iload_n 3, 1) := by decide +kernel
theorem d28 : decode yB 28 = .ok (.iload 6, 2) := by decide +kernel
theorem d30 : decode yB 30 = .ok (.i2b, 1) := by decide +kernel
theorem d31 : decode yB 31 = .ok (.bastore, 1) := by decide +kernel
theorem d32 : decode yB 32 = .ok (.iinc 1 1, 3) := by decide +kernel
theorem d35 : decode yB 35 = .ok (.iinc 3 1, 3) := by decide +kernel
theorem d38 : decode yB 38 = .ok (.iinc 5 1, 3) := by decide +kernel
theorem d41 : decode yB 41 = .ok (.goto (-38), 3) := by decide +kernel
theorem d44 : decode yB 44 = .ok (.iload 4, 2) := by decide +kernel
theorem d46 : decode yB 46 = .ok (.ireturn, 1) := by decide +kernel
def site : List Cond := []
def tab : Cond := tabOf yN yB 7 (some .int) site
def P (b : Addr) (A : Cell) (d : Addr) (B : Cell) (o q len : Nat) (args : Array Value) (s : State) : Prop := args = #[.ref b, .int (Int32.ofNat o), .ref d, .int (Int32.ofNat q), .int (Int32.ofNat len)] ∧ Ch b A s ∧ Arr .byte d B s ∧ b ≠ d ∧ o + len ≤ A.slots.size ∧ q + len ≤ B.slots.size ∧ ∀ i, i < len → ¬ 255 < cv A (o + i)
def E (b : Addr) (A : Cell) (d : Addr) (B : Cell) (o q len : Nat) (r : Option Value) (s u : State) : Prop := r = some (.int (Int32.ofNat len)) ∧ ∃ B', Put d B' s u ∧ Laid B B' q (q + len) (fun j => Value.int (lo8 (cv A (o + (j - q)))))
/-- no char of the range above 255: len; the places written hold each char's low byte -/
theorem law (l : Launch) (b : Addr) (A : Cell) (d : Addr) (B : Cell) (o q len : Nat) : Law l yN 5 5 0 0 yB 7 (some .int) site (P b A d B o q len) (E b A d B o q len) (copyLocs d q len) 0 0 := by
  refine Law.of_walk (plainFor_of_name (by decide +kernel)) (by decide +kernel) (by decide +kernel) (by decide) (fun _ _ h => by rw [h.1]; rfl) (fun _ U U' hal hh h => ⟨h.1, h.2.1.mv hal hh, h.2.2.1.mv hal hh, h.2.2.2⟩) (fun r U U' V V' h1 hal h2 h => ⟨h.1, h.2.elim fun B' q => ⟨B', q.1.mv h1 h2, q.2⟩⟩) ?_
  intro p e s m args below meth c s₁ X0 hexec hbytes hml hret hlk hnm hown hh0 W hP
  obtain ⟨rfl, hA, hB, hne, l1, l2, hp⟩ := hP
  have c1 : Steps p.tables e below (s₁.setTop (entryFrame m #[.ref b, .int (Int32.ofNat o), .ref d, .int (Int32.ofNat q), .int (Int32.ofNat len)] 7)) (s₁.setTop (mkF m 0 #[.val (.ref b), .val (.int (Int32.ofNat o)), .val (.ref d), .val (.int (Int32.ofNat q)), .val (.int (Int32.ofNat len)), .unset, .unset] [])) := entry rfl
  have hA0 := hA.1.mv X0.warmed.alike hh0
  have hB0 := hB.mv X0.warmed.alike hh0
  have a31 := hA.1.2.2.2
  have c2 : Steps p.tables e below (s₁.setTop (entryFrame m #[.ref b, .int (Int32.ofNat o), .ref d, .int (Int32.ofNat q), .int (Int32.ofNat len)] 7)) (s₁.setTop (mkF m 3 #[.val (.ref b), .val (.int (Int32.ofNat o)), .val (.ref d), .val (.int (Int32.ofNat q)), .val (.int (Int32.ofNat len)), .val (.int 0), .unset] [])) := c1.trans (by
    refine iconstV X0.here hexec rfl 0 (hb hbytes d0) (by decide) ?_
    refine XS.istore X0.here hexec rfl (hb hbytes d1) rfl rfl ?_
    exact Steps.refl _)
  have loop : ∀ (r i : Nat), i + r = len → ∀ (z : Slot), (z = .unset ∨ ∃ w, z = .val w ∧ w.category = 1) → ∀ (Tl : State) (Bk : Cell), Stand p l e { frames := 0, locals := 0, cells := 0, slots := 0 } s m #[.ref b, .int (Int32.ofNat o), .ref d, .int (Int32.ofNat q), .int (Int32.ofNat len)] below meth c Tl ([] ++ copyLocs d q i) 0 0 → Put d Bk s₁ Tl → Laid B Bk q (q + i) (fun j => Value.int (lo8 (cv A (o + (j - q))))) →
      Steps p.tables e below (s₁.setTop (entryFrame m #[.ref b, .int (Int32.ofNat o), .ref d, .int (Int32.ofNat q), .int (Int32.ofNat len)] 7)) (Tl.setTop (mkF m 3 #[.val (.ref b), .val (.int (Int32.ofNat (o + i))), .val (.ref d), .val (.int (Int32.ofNat (q + i))), .val (.int (Int32.ofNat len)), .val (.int (Int32.ofNat i)), z] [])) → ∃ (T' : State) (B' : Cell) (z' : Slot), Stand p l e { frames := 0, locals := 0, cells := 0, slots := 0 } s m #[.ref b, .int (Int32.ofNat o), .ref d, .int (Int32.ofNat q), .int (Int32.ofNat len)] below meth c T' ([] ++ copyLocs d q len) 0 0 ∧ Put d B' s₁ T' ∧ Laid B B' q (q + len) (fun j => Value.int (lo8 (cv A (o + (j - q))))) ∧
      Steps p.tables e below (s₁.setTop (entryFrame m #[.ref b, .int (Int32.ofNat o), .ref d, .int (Int32.ofNat q), .int (Int32.ofNat len)] 7)) (T'.setTop (mkF m 3 #[.val (.ref b), .val (.int (Int32.ofNat (o + len))), .val (.ref d), .val (.int (Int32.ofNat (q + len))), .val (.int (Int32.ofNat len)), .val (.int (Int32.ofNat len)), z'] [])) := by
    intro r
    induction r with
    | zero =>
      intro i hi z hz Tl Bk Xl pl fl cl
      have hil : i = len := by omega
      rw [hil] at Xl fl cl
      exact ⟨Tl, Bk, z, Xl, pl, fl, cl⟩
    | succ r ih =>
      intro i hi z hz Tl Bk Xl pl fl cl
      have all := X0.warmed.alike.symm.trans Xl.warmed.alike
      have hAl := hA0.keep all (pl.other hne hA0.1)
      have hBk := hB0.like all pl.1 fl.1 fl.2.1 fl.2.2.1
      have hlt : q + i < Bk.slots.size := by rw [fl.2.2.1]; omega
      have c3 : Steps p.tables e below (s₁.setTop (entryFrame m #[.ref b, .int (Int32.ofNat o), .ref d, .int (Int32.ofNat q), .int (Int32.ofNat len)] 7)) (Tl.setTop (mkF m 12 #[.val (.ref b), .val (.int (Int32.ofNat (o + i))), .val (.ref d), .val (.int (Int32.ofNat (q + i))), .val (.int (Int32.ofNat len)), .val (.int (Int32.ofNat i)), z] [.int (Int32.ofNat (o + i)), .ref b])) := cl.trans (by
        refine XS.iload Xl.here hexec rfl (hb hbytes d3) rfl ?_
        refine XS.iload Xl.here hexec rfl (hb hbytes d5) rfl ?_
        refine XS.icmpNo Xl.here hexec rfl (hb hbytes d7) rfl (ii_ge_f (lt32 (by omega) (by omega))) ?_
        refine XS.aloadN Xl.here hexec rfl (hb hbytes d10) rfl rfl ?_
        refine XS.iloadN Xl.here hexec rfl (hb hbytes d11) rfl ?_
        exact Steps.refl _)
      have c4 : Steps p.tables e below (s₁.setTop (entryFrame m #[.ref b, .int (Int32.ofNat o), .ref d, .int (Int32.ofNat q), .int (Int32.ofNat len)] 7)) (Tl.setTop (mkF m 13 #[.val (.ref b), .val (.int (Int32.ofNat (o + i))), .val (.ref d), .val (.int (Int32.ofNat (q + i))), .val (.int (Int32.ofNat len)), .val (.int (Int32.ofNat i)), z] [.int (cv A (o + i))])) := c3.trans (by
        refine Xl.aget hexec hAl rfl (hA.get (i := o + i) (by omega)) rfl rfl (hb hbytes d12) ?_
        exact Steps.refl _)
      have c5 : Steps p.tables e below (s₁.setTop (entryFrame m #[.ref b, .int (Int32.ofNat o), .ref d, .int (Int32.ofNat q), .int (Int32.ofNat len)] 7)) (Tl.setTop (mkF m 15 #[.val (.ref b), .val (.int (Int32.ofNat (o + i))), .val (.ref d), .val (.int (Int32.ofNat (q + i))), .val (.int (Int32.ofNat len)), .val (.int (Int32.ofNat i)), .val (.int (cv A (o + i)))] [])) := c4.trans (by
        refine XS.istoreS Xl.here hexec rfl (hb hbytes d13) rfl rfl hz ?_
        exact Steps.refl _)
      have c6 : Steps p.tables e below (s₁.setTop (entryFrame m #[.ref b, .int (Int32.ofNat o), .ref d, .int (Int32.ofNat q), .int (Int32.ofNat len)] 7)) (Tl.setTop (mkF m 31 #[.val (.ref b), .val (.int (Int32.ofNat (o + i))), .val (.ref d), .val (.int (Int32.ofNat (q + i))), .val (.int (Int32.ofNat len)), .val (.int (Int32.ofNat i)), .val (.int (cv A (o + i)))] [.int (lo8 (cv A (o + i))), .int (Int32.ofNat (q + i)), .ref d])) := c5.trans (by
        refine XS.iload Xl.here hexec rfl (hb hbytes d15) rfl ?_
        refine sipushV Xl.here hexec rfl 255 (hb hbytes d17) (by decide) ?_
        refine XS.icmpYes Xl.here hexec rfl (pc0 := 20) rfl (hb hbytes d20) rfl (ii_le_t (hp i (by omega))) (by decide) rfl ?_
        refine XS.aloadN Xl.here hexec rfl (hb hbytes d26) rfl rfl ?_
        refine XS.iloadN Xl.here hexec rfl (hb hbytes d27) rfl ?_
        refine XS.iload Xl.here hexec rfl (hb hbytes d28) rfl ?_
        refine i2b Xl.here hexec rfl (hb hbytes d30) rfl ?_
        exact Steps.refl _)
      obtain ⟨T7, X7, p7, st7⟩ := Xl.aput hexec hBk rfl hlt rfl (fits_lo8 (cv A (o + i))) (g := (mkF m 31 #[.val (.ref b), .val (.int (Int32.ofNat (o + i))), .val (.ref d), .val (.int (Int32.ofNat (q + i))), .val (.int (Int32.ofNat len)), .val (.int (Int32.ofNat i)), .val (.int (cv A (o + i)))] [.int (lo8 (cv A (o + i))), .int (Int32.ofNat (q + i)), .ref d])) rfl (rest := []) rfl (hb hbytes d31)
      have c8 : Steps p.tables e below (s₁.setTop (entryFrame m #[.ref b, .int (Int32.ofNat o), .ref d, .int (Int32.ofNat q), .int (Int32.ofNat len)] 7)) (T7.setTop (mkF m 32 #[.val (.ref b), .val (.int (Int32.ofNat (o + i))), .val (.ref d), .val (.int (Int32.ofNat (q + i))), .val (.int (Int32.ofNat len)), .val (.int (Int32.ofNat i)), .val (.int (cv A (o + i)))] [])) := c6.trans (st7 _ (Steps.refl _))
      have c9 : Steps p.tables e below (s₁.setTop (entryFrame m #[.ref b, .int (Int32.ofNat o), .ref d, .int (Int32.ofNat q), .int (Int32.ofNat len)] 7)) (T7.setTop (mkF m 3 #[.val (.ref b), .val (.int (Int32.ofNat (o + i) + 1)), .val (.ref d), .val (.int (Int32.ofNat (q + i) + 1)), .val (.int (Int32.ofNat len)), .val (.int (Int32.ofNat i + 1)), .val (.int (cv A (o + i)))] [])) := c8.trans (by
        refine iincV X7.here hexec rfl 1 (hb hbytes d32) (by decide) rfl rfl ?_
        refine iincV X7.here hexec rfl 1 (hb hbytes d35) (by decide) rfl rfl ?_
        refine iincV X7.here hexec rfl 1 (hb hbytes d38) (by decide) rfl rfl ?_
        refine XS.goto X7.here hexec rfl (pc0 := 41) rfl (hb hbytes d41) (by decide) rfl ?_
        exact Steps.refl _)
      have c10 : Steps p.tables e below (s₁.setTop (entryFrame m #[.ref b, .int (Int32.ofNat o), .ref d, .int (Int32.ofNat q), .int (Int32.ofNat len)] 7)) (T7.setTop (mkF m 3 #[.val (.ref b), .val (.int (Int32.ofNat (o + (i + 1)))), .val (.ref d), .val (.int (Int32.ofNat (q + (i + 1)))), .val (.int (Int32.ofNat len)), .val (.int (Int32.ofNat (i + 1))), .val (.int (cv A (o + i)))] [])) := by
        have := c9
        rw [succ32, succ32, succ32] at this
        exact this
      exact ih (i + 1) (by omega) _ (Or.inr ⟨_, rfl, rfl⟩) T7 _ (by rw [copyLocs_step, ← List.append_assoc]; exact X7) (pl.trans p7) (fl.step (by omega) hlt (by simp)) c10
  obtain ⟨T9, B9, z9, X9, p9, f9, g9⟩ := loop len 0 (by omega) .unset (Or.inl rfl) s₁ B (by simpa [copyLocs] using X0) ⟨hB0.1, fun _ _ => rfl, rfl⟩ (Laid.zero _ _ _) c2
  have c11 : Steps p.tables e below (s₁.setTop (entryFrame m #[.ref b, .int (Int32.ofNat o), .ref d, .int (Int32.ofNat q), .int (Int32.ofNat len)] 7)) (T9.setTop (mkF m 46 #[.val (.ref b), .val (.int (Int32.ofNat (o + len))), .val (.ref d), .val (.int (Int32.ofNat (q + len))), .val (.int (Int32.ofNat len)), .val (.int (Int32.ofNat len)), z9] [.int (Int32.ofNat len)])) := g9.trans (by
    refine XS.iload X9.here hexec rfl (hb hbytes d3) rfl ?_
    refine XS.iload X9.here hexec rfl (hb hbytes d5) rfl ?_
    refine XS.icmpYes X9.here hexec rfl (pc0 := 7) rfl (hb hbytes d7) rfl (ii_ge_t (nlt32 (by omega) (Nat.le_refl _))) (by decide) rfl ?_
    refine XS.iload X9.here hexec rfl (hb hbytes d44) rfl ?_
    exact Steps.refl _)
  exact ⟨T9, some (.int (Int32.ofNat len)), _, _, _, X9, by simp, rfl, rfl, (fun h => by cases h), ⟨rfl, B9, p9.from hh0, f9⟩, fun fs hl => c11.trans (X9.ireturnOut hexec hret rfl (Or.inl rfl) (hb hbytes d46) hl)⟩
end Cmp5
namespace Cmp3
def yN : MethodName := ⟨"java/lang/StringUTF16", "compress", "([CII)[B"⟩
abbrev yB : ByteArray := jdk_52_method_16_code
theorem d0 : decode yB 0 = .ok (.iload_n 2, 1) := by decide +kernel
theorem d1 : decode yB 1 = .ok (.newarray .byte, 2) := by decide +kernel
theorem d3 : decode yB 3 = .ok (.astore_n 3, 1) := by decide +kernel
theorem d4 : decode yB 4 = .ok (.aload_n 0, 1) := by decide +kernel
theorem d5 : decode yB 5 = .ok (.iload_n 1, 1) := by decide +kernel
theorem d6 : decode yB 6 = .ok (.aload_n 3, 1) := by decide +kernel
theorem d7 : decode yB 7 = .ok (.iconst 0, 1) := by decide +kernel
theorem d8 : decode yB 8 = .ok (.iload_n 2, 1) := by decide +kernel
theorem d9 : decode yB 9 = .ok (.invokestatic 115, 3) := by decide +kernel
theorem d12 : decode yB 12 = .ok (.istore 4, 2) := by decide +kernel
theorem d14 : decode yB 14 = .ok (.iload 4, 2) := by decide +kernel
theorem d16 : decode yB 16 = .ok (.iload_n 2, 1) := by decide +kernel
theorem d17 : decode yB 17 = .ok (.if_icmp (.eq) 40, 3) := by decide +kernel
theorem d57 : decode yB 57 = .ok (.aload_n 3, 1) := by decide +kernel
theorem d58 : decode yB 58 = .ok (.areturn, 1) := by decide +kernel
def site : List Cond := [.arrayClass .byte, Cmp5.tab] ++ staticW U16 115 Cmp5.yN
def tab : Cond := tabOf yN yB 6 (some (.array .byte)) site
def P (b : Addr) (A : Cell) (o len : Nat) (args : Array Value) (s : State) : Prop := args = #[.ref b, .int (Int32.ofNat o), .int (Int32.ofNat len)] ∧ Ch b A s ∧ o + len ≤ A.slots.size ∧ len ≤ 536870912 ∧ ∀ i, i < len → ¬ 255 < cv A (o + i)
def E (b : Addr) (A : Cell) (o len : Nat) (r : Option Value) (s u : State) : Prop := NewArr .byte "[B" len (fun j => .int (lo8 (cv A (o + j)))) r s u ∧ u.heap.size = s.heap.size + 1
/-- no char of the range above 255: a new byte[] of their low bytes -/
theorem law (l : Launch) (b : Addr) (A : Cell) (o len : Nat) : Law l yN 3 3 1 18 yB 6 (some (.array .byte)) site (P b A o len) (E b A o len) [] 1 len := by
  refine Law.of_walk (plainFor_of_name (by decide +kernel)) (by decide +kernel) (by decide +kernel) (by decide) (fun _ _ h => by rw [h.1]; rfl) (fun _ U U' hal hh h => ⟨h.1, h.2.1.mv hal hh, h.2.2⟩) (fun r U U' V V' h1 hal h2 h => ⟨NewArr.mv r U U' V V' h1 hal h2 h.1, by rw [h1, h2]; exact h.2⟩) ?_
  intro p e s m args below meth c s₁ X0 hexec hbytes hml hret hlk hnm hown hh0 W hP
  obtain ⟨rfl, hA, l1, l2, hp⟩ := hP
  have a31 := hA.1.2.2.2
  have c1 : Steps p.tables e below (s₁.setTop (entryFrame m #[.ref b, .int (Int32.ofNat o), .int (Int32.ofNat len)] 6)) (s₁.setTop (mkF m 0 #[.val (.ref b), .val (.int (Int32.ofNat o)), .val (.int (Int32.ofNat len)), .unset, .unset, .unset] [])) := entry rfl
  have c2 : Steps p.tables e below (s₁.setTop (entryFrame m #[.ref b, .int (Int32.ofNat o), .int (Int32.ofNat len)] 6)) (s₁.setTop (mkF m 1 #[.val (.ref b), .val (.int (Int32.ofNat o)), .val (.int (Int32.ofNat len)), .unset, .unset, .unset] [.int (Int32.ofNat len)])) := c1.trans (by
    refine XS.iloadN X0.here hexec rfl (hb hbytes d0) rfl ?_
    exact Steps.refl _)
  obtain ⟨T3, B3, X3, ba3, bs3, bv3, bh3, bf3, st3⟩ := X0.anew hexec (atype := .byte) (wk W (.arrayClass .byte)) rfl (by show len * 1 ≤ _; omega) (by omega) (g := (mkF m 1 #[.val (.ref b), .val (.int (Int32.ofNat o)), .val (.int (Int32.ofNat len)), .unset, .unset, .unset] [.int (Int32.ofNat len)])) rfl (hb hbytes d1) (rest := []) rfl (Nat.le_refl _) (by show 0 + len ≤ len; omega)
  rw [hh0] at ba3 st3
  have kp3 : XT.Kept s T3 := (XT.Kept.of_eq hh0).push bh3
  have hA3 := hA.keep X3.warmed.alike (kp3 _ _ hA.1.1)
  have hne : b ≠ s.heap.size := hA.1.ne
  have c4 : Steps p.tables e below (s₁.setTop (entryFrame m #[.ref b, .int (Int32.ofNat o), .int (Int32.ofNat len)] 6)) (T3.setTop (mkF m 3 #[.val (.ref b), .val (.int (Int32.ofNat o)), .val (.int (Int32.ofNat len)), .unset, .unset, .unset] [.ref s.heap.size])) := c2.trans (st3 _ (Steps.refl _))
  have c5 : Steps p.tables e below (s₁.setTop (entryFrame m #[.ref b, .int (Int32.ofNat o), .int (Int32.ofNat len)] 6)) (T3.setTop (mkF m 9 #[.val (.ref b), .val (.int (Int32.ofNat o)), .val (.int (Int32.ofNat len)), .val (.ref s.heap.size), .unset, .unset] [.int (Int32.ofNat len), .int 0, .ref s.heap.size, .int (Int32.ofNat o), .ref b])) := c4.trans (by
    refine XS.astoreN X3.here hexec rfl (hb hbytes d3) rfl rfl rfl ?_
    refine XS.aloadN X3.here hexec rfl (hb hbytes d4) rfl rfl ?_
    refine XS.iloadN X3.here hexec rfl (hb hbytes d5) rfl ?_
    refine XS.aloadN X3.here hexec rfl (hb hbytes d6) rfl rfl ?_
    refine iconstV X3.here hexec rfl 0 (hb hbytes d7) (by decide) ?_
    refine XS.iloadN X3.here hexec rfl (hb hbytes d8) rfl ?_
    exact Steps.refl _)
  obtain ⟨v6, T6, X6, E6, g6⟩ := X3.callS hexec (Cmp5.law l b A s.heap.size B3 o 0 len) hown (wks W (staticW U16 115 Cmp5.yN)) (wk W Cmp5.tab) (W := 0) (Nat.le_of_ble_eq_true rfl) (Nat.le_of_ble_eq_true rfl) (Nat.le_refl _) (by show 0 + len + 0 ≤ len; omega) (g := (mkF m 9 #[.val (.ref b), .val (.int (Int32.ofNat o)), .val (.int (Int32.ofNat len)), .val (.ref s.heap.size), .unset, .unset] [.int (Int32.ofNat len), .int (Int32.ofNat 0), .ref s.heap.size, .int (Int32.ofNat o), .ref b])) rfl (by rw [hml]; rfl) c5 (argsL := [.ref b, .int (Int32.ofNat o), .ref s.heap.size, .int (Int32.ofNat 0), .int (Int32.ofNat len)]) (rest := []) rfl rfl (by show 2 * 0 + 0 ≤ _; decide) (hb hbytes d9) (⟨rfl, hA3, ba3, hne, l1, by rw [bs3]; simp, hp⟩)
  obtain ⟨rfl, B6, p6, f6⟩ := E6
  have c7 : Steps p.tables e below (s₁.setTop (entryFrame m #[.ref b, .int (Int32.ofNat o), .int (Int32.ofNat len)] 6)) (T6.setTop (mkF m 12 #[.val (.ref b), .val (.int (Int32.ofNat o)), .val (.int (Int32.ofNat len)), .val (.ref s.heap.size), .unset, .unset] [.int (Int32.ofNat len)])) := g6
  have c8 : Steps p.tables e below (s₁.setTop (entryFrame m #[.ref b, .int (Int32.ofNat o), .int (Int32.ofNat len)] 6)) (T6.setTop (mkF m 58 #[.val (.ref b), .val (.int (Int32.ofNat o)), .val (.int (Int32.ofNat len)), .val (.ref s.heap.size), .val (.int (Int32.ofNat len)), .unset] [.ref s.heap.size])) := c7.trans (by
    refine XS.istore X6.here hexec rfl (hb hbytes d12) rfl rfl ?_
    refine XS.iload X6.here hexec rfl (hb hbytes d14) rfl ?_
    refine XS.iloadN X6.here hexec rfl (hb hbytes d16) rfl ?_
    refine XS.icmpYes X6.here hexec rfl (pc0 := 17) rfl (hb hbytes d17) rfl (ii_eq_t rfl) (by decide) rfl ?_
    refine XS.aloadN X6.here hexec rfl (hb hbytes d57) rfl rfl ?_
    exact Steps.refl _)
  have X8 := X6.wide (L' := []) (cells' := 1) (slots' := len) (fun x hx hlt => by
    simp only [List.nil_append, copyLocs, List.mem_map, List.mem_range] at hx
    obtain ⟨i, -, rfl⟩ := hx
    exact absurd hlt (Nat.lt_irrefl _)) (Nat.le_refl _) (by omega)
  exact ⟨T6, some (.ref s.heap.size), _, _, _, X8, rfl, rfl, rfl, (fun h => by cases h), ⟨⟨rfl, B6, ba3.like (X3.warmed.alike.symm.trans X6.warmed.alike) p6.1 f6.1 f6.2.1 f6.2.2.1, f6.2.1.trans bv3, by rw [X6.warmed.alike.findClass, f6.1]; exact bf3, by rw [f6.2.2.1, bs3]; simp, fun j hj => by rw [f6.2.2.2 j, if_pos (by omega)]; rfl, kp3.put p6 (Nat.le_refl _)⟩, by rw [p6.2.2, bh3, hh0]; simp⟩, fun fs hl => c8.trans (X8.areturnOut hexec rfl hret rfl (hb hbytes d58) hl)⟩
end Cmp3
namespace CodL
def yN : MethodName := ⟨"java/lang/StringUTF16", "coderFromArrayLen", "([BI)B"⟩
abbrev yB : ByteArray := jdk_52_method_15_code
theorem d0 : decode yB 0 = .ok (.iload_n 1, 1) := by decide +kernel
theorem d1 : decode yB 1 = .ok (.aload_n 0, 1) := by decide +kernel
theorem d2 : decode yB 2 = .ok (.arraylength, 1) := by decide +kernel
theorem d3 : decode yB 3 = .ok (.isub, 1) := by decide +kernel
theorem d4 : decode yB 4 = .ok (.bipush 31, 2) := by decide +kernel
theorem d6 : decode yB 6 = .ok (.iushr, 1) := by decide +kernel
theorem d7 : decode yB 7 = .ok (.i2b, 1) := by decide +kernel
theorem d8 : decode yB 8 = .ok (.ireturn, 1) := by decide +kernel
def site : List Cond := []
def tab : Cond := tabOf yN yB 2 (some .byte) site
def P (d : Addr) (B : Cell) (args : Array Value) (s : State) : Prop := args = #[.ref d, .int (Int32.ofNat B.slots.size)] ∧ Arr .byte d B s
def E (r : Option Value) (s u : State) : Prop := XT.PureE (some (.int 0)) r s u
/-- an array as long as the number of chars: LATIN1 -/
theorem law (l : Launch) (d : Addr) (B : Cell) : Law l yN 2 2 0 0 yB 2 (some .byte) site (P d B) E [] 0 0 := by
  refine Law.of_walk (plainFor_of_name (by decide +kernel)) (by decide +kernel) (by decide +kernel) (by decide) (fun _ _ h => by rw [h.1]; rfl) (fun _ U U' hal hh h => ⟨h.1, h.2.mv hal hh⟩) (fun r U U' V V' h1 hal h2 h => XT.PureE.mv r U U' V V' h1 hal h2 h) ?_
  intro p e s m args below meth c s₁ X0 hexec hbytes hml hret hlk hnm hown hh0 W hP
  obtain ⟨rfl, hB⟩ := hP
  have hB0 := hB.mv X0.warmed.alike hh0
  have c1 : Steps p.tables e below (s₁.setTop (entryFrame m #[.ref d, .int (Int32.ofNat B.slots.size)] 2)) (s₁.setTop (mkF m 0 #[.val (.ref d), .val (.int (Int32.ofNat B.slots.size))] [])) := entry rfl
  have c2 : Steps p.tables e below (s₁.setTop (entryFrame m #[.ref d, .int (Int32.ofNat B.slots.size)] 2)) (s₁.setTop (mkF m 2 #[.val (.ref d), .val (.int (Int32.ofNat B.slots.size))] [.ref d, .int (Int32.ofNat B.slots.size)])) := c1.trans (by
    refine XS.iloadN X0.here hexec rfl (hb hbytes d0) rfl ?_
    refine XS.aloadN X0.here hexec rfl (hb hbytes d1) rfl rfl ?_
    exact Steps.refl _)
  have c3 : Steps p.tables e below (s₁.setTop (entryFrame m #[.ref d, .int (Int32.ofNat B.slots.size)] 2)) (s₁.setTop (mkF m 8 #[.val (.ref d), .val (.int (Int32.ofNat B.slots.size))] [.int (lo8 (ushr (Int32.ofNat B.slots.size - Int32.ofNat B.slots.size) 31))])) := c2.trans (by
    refine X0.alen hexec hB0 rfl rfl (hb hbytes d2) ?_
    refine XS.isub X0.here hexec rfl (hb hbytes d3) rfl ?_
    refine bipushV X0.here hexec rfl 31 (hb hbytes d4) (by decide) ?_
    refine iushr X0.here hexec rfl (hb hbytes d6) rfl ?_
    refine i2b X0.here hexec rfl (hb hbytes d7) rfl ?_
    exact Steps.refl _)
  have e0 : lo8 (ushr (Int32.ofNat B.slots.size - Int32.ofNat B.slots.size) 31) = 0 := by rw [Int32.sub_self]; decide
  rw [e0] at c3
  exact ⟨s₁, some (.int 0), _, _, _, X0, rfl, rfl, rfl, (fun h => by cases h), ⟨rfl, hh0⟩, fun fs hl => c3.trans (X0.ireturnOut hexec hret rfl (Or.inr (Or.inr (Or.inl rfl))) (hb hbytes d8) hl)⟩
end CodL
/-- the String at a is Latin-1 over a new byte[] (the heap's one new cell): the low bytes of the len chars of A from o on; every cell but a is kept -/
def Got (a : Addr) (D : Cell) (fV fC : Field) (A : Cell) (o len : Nat) (r : Option Value) (s u : State) : Prop := r = none ∧ ∃ D' V : Cell, Blank "java/lang/String" a D' u ∧ Same D D' [fV.slot, fC.slot] ∧ D'.slots[fV.slot]? = some (.ref s.heap.size) ∧ D'.slots[fC.slot]? = some (.int 0) ∧ Arr .byte s.heap.size V u ∧ V.vm = .none ∧ u.vm.findClass "[B" = some V.cls ∧ V.slots.size = len ∧ (∀ j, j < len → V.slots[j]? = some (.int (lo8 (cv A (o + j))))) ∧ (∀ (y : Addr) (c : Cell), y ≠ a → s.heap[y]? = some c → u.heap[y]? = some c) ∧ u.heap.size = s.heap.size + 1
theorem Got.mv {a : Addr} {D A : Cell} {fV fC : Field} {o len : Nat} : ∀ r (U U' V V' : State), U'.heap = U.heap → V.vm.Alike V'.vm → V'.heap = V.heap → Got a D fV fC A o len r U V → Got a D fV fC A o len r U' V' :=
  fun r U U' V V' h1 hal h2 ⟨e0, D', X, a1, a2, a3, a4, a5, a6, a7, a8, a9, a10, a11⟩ => ⟨e0, D', X, a1.mv hal h2, a2, by rw [h1]; exact a3, a4, by rw [h1]; exact a5.mv hal h2, a6, by rw [hal.findClass]; exact a7, a8, a9, by rw [h1, h2]; exact a10, by rw [h1, h2]; exact a11⟩
namespace New4
def yN : MethodName := ⟨"java/lang/String", "<init>", "([CIILjava/lang/Void;)V"⟩
abbrev yB : ByteArray := jdk_42_method_149_code
theorem d0 : decode yB 0 = .ok (.aload_n 0, 1) := by decide +kernel
theorem d1 : decode yB 1 = .ok (.invokespecial 1, 3) := by decide +kernel
theorem d4 : decode yB 4 = .ok (.iload_n 3, 1) := by decide +kernel
theorem d5 : decode yB 5 = .ok (.ifCond (.ne) 22, 3) := by decide +kernel
theorem d27 : decode yB 27 = .ok (.getstatic 38, 3) := by decide +kernel
theorem d30 : decode yB 30 = .ok (.ifCond (.eq) 28, 3) := by decide +kernel
theorem d33 : decode yB 33 = .ok (.aload_n 1, 1) := by decide +kernel
theorem d34 : decode yB 34 = .ok (.iload_n 2, 1) := by decide +kernel
theorem d35 : decode yB 35 = .ok (.iload_n 3, 1) := by decide +kernel
theorem d36 : decode yB 36 = .ok (.invokestatic 177, 3) := by decide +kernel
theorem d39 : decode yB 39 = .ok (.astore 5, 2) := by decide +kernel
theorem d41 : decode yB 41 = .ok (.aload_n 0, 1) := by decide +kernel
theorem d42 : decode yB 42 = .ok (.aload 5, 2) := by decide +kernel
theorem d44 : decode yB 44 = .ok (.iload_n 3, 1) := by decide +kernel
theorem d45 : decode yB 45 = .ok (.invokestatic 47, 3) := by decide +kernel
theorem d48 : decode yB 48 = .ok (.putfield 15, 3) := by decide +kernel
theorem d51 : decode yB 51 = .ok (.aload_n 0, 1) := by decide +kernel
theorem d52 : decode yB 52 = .ok (.aload 5, 2) := by decide +kernel
theorem d54 : decode yB 54 = .ok (.putfield 9, 3) := by decide +kernel
theorem d57 : decode yB 57 = .ok (.return_, 1) := by decide +kernel
def site : List Cond := [.fieldLink "java/lang/String" 38 "java/lang/String" "COMPACT_STRINGS" "Z", Cmp3.tab, CodL.tab, .laysFinal "java/lang/String" "java/lang/String" "value" "[B", .fieldLink "java/lang/String" 9 "java/lang/String" "value" "[B", .laysFinal "java/lang/String" "java/lang/String" "coder" "B", .fieldLink "java/lang/String" 15 "java/lang/String" "coder" "B"] ++ objW "java/lang/String" 1 ++ staticW "java/lang/String" 177 Cmp3.yN ++ staticW "java/lang/String" 47 CodL.yN
def tab : Cond := tabOf yN yB 6 none site
def P (a : Addr) (D : Cell) (fV fC : Field) (b : Addr) (A : Cell) (z : Int32) (o len : Nat) (args : Array Value) (s : State) : Prop := args = #[.ref a, .ref b, .int (Int32.ofNat o), .int (Int32.ofNat len), .null] ∧ Blank "java/lang/String" a D s ∧ Found "java/lang/String" "value" "[B" fV s ∧ Found "java/lang/String" "coder" "B" fC s ∧ Ch b A s ∧ StaticIs s "java/lang/String" "COMPACT_STRINGS" "Z" (.int z) ∧ ¬ z = 0 ∧ 0 < len ∧ o + len ≤ A.slots.size ∧ len ≤ 536870912 ∧ ∀ i, i < len → ¬ 255 < cv A (o + i)
def E (a : Addr) (D : Cell) (fV fC : Field) (A : Cell) (o len : Nat) (r : Option Value) (s u : State) : Prop := Got a D fV fC A o len r s u
/-- len > 0, no char of the range above 255: a Latin-1 String of their low bytes -/
theorem law (l : Launch) (a : Addr) (D : Cell) (fV fC : Field) (b : Addr) (A : Cell) (z : Int32) (o len : Nat) : Law l yN 5 4 2 35 yB 6 none site (P a D fV fC b A z o len) (E a D fV fC A o len) [⟨a, fC.slot⟩, ⟨a, fV.slot⟩] 1 len := by
  refine Law.of_walk (plainFor_of_name (by decide +kernel)) (by decide +kernel) (by decide +kernel) (by decide) (fun _ _ h => by rw [h.1]; rfl) (fun _ U U' hal hh h => ⟨h.1, h.2.1.mv hal hh, h.2.2.1.al hal, h.2.2.2.1.al hal, h.2.2.2.2.1.mv hal hh, h.2.2.2.2.2.1.there hal hh, h.2.2.2.2.2.2⟩) (fun r U U' V V' h1 hal h2 h => Got.mv r U U' V V' h1 hal h2 h) ?_
  intro p e s m args below meth c s₁ X0 hexec hbytes hml hret hlk hnm hown hh0 W hP
  obtain ⟨rfl, hB, f1, f2, hA, s1, hz, l0, l1, l2, hp⟩ := hP
  have a31 := hA.1.2.2.2
  have c1 : Steps p.tables e below (s₁.setTop (entryFrame m #[.ref a, .ref b, .int (Int32.ofNat o), .int (Int32.ofNat len), .null] 6)) (s₁.setTop (mkF m 0 #[.val (.ref a), .val (.ref b), .val (.int (Int32.ofNat o)), .val (.int (Int32.ofNat len)), .val .null, .unset] [])) := entry rfl
  have c2 : Steps p.tables e below (s₁.setTop (entryFrame m #[.ref a, .ref b, .int (Int32.ofNat o), .int (Int32.ofNat len), .null] 6)) (s₁.setTop (mkF m 1 #[.val (.ref a), .val (.ref b), .val (.int (Int32.ofNat o)), .val (.int (Int32.ofNat len)), .val .null, .unset] [.ref a])) := c1.trans (by
    refine XS.aloadN X0.here hexec rfl (hb hbytes d0) rfl rfl ?_
    exact Steps.refl _)
  obtain ⟨T3, X3, q3, st3⟩ := X0.oinit hexec hown (wks W (objW "java/lang/String" 1)) (g := (mkF m 1 #[.val (.ref a), .val (.ref b), .val (.int (Int32.ofNat o)), .val (.int (Int32.ofNat len)), .val .null, .unset] [.ref a])) rfl (by rw [hml]; rfl) (rest := []) rfl (hb hbytes d1) (W := 0) (by show 2 * 0 + 0 ≤ _; decide) (Nat.le_of_ble_eq_true rfl) (Nat.le_of_ble_eq_true rfl)
  have hh3 := q3.trans hh0
  have c4 : Steps p.tables e below (s₁.setTop (entryFrame m #[.ref a, .ref b, .int (Int32.ofNat o), .int (Int32.ofNat len), .null] 6)) (T3.setTop (mkF m 27 #[.val (.ref a), .val (.ref b), .val (.int (Int32.ofNat o)), .val (.int (Int32.ofNat len)), .val .null, .unset] [])) := (c2.trans (st3 _ (Steps.refl _))).trans (by
    refine XS.iloadN X3.here hexec rfl (hb hbytes d4) rfl ?_
    refine XS.ifYes X3.here hexec rfl (pc0 := 5) rfl (hb hbytes d5) rfl (i0_ne_t (nz32 (by omega) l0)) (by decide) rfl ?_
    exact Steps.refl _)
  obtain ⟨T5, X5, q5, st5⟩ := X3.sget hexec hown (wk W (.fieldLink "java/lang/String" 38 "java/lang/String" "COMPACT_STRINGS" "Z")) s1 (fun _ _ h => by rw [hh3]; exact h) (g := (mkF m 27 #[.val (.ref a), .val (.ref b), .val (.int (Int32.ofNat o)), .val (.int (Int32.ofNat len)), .val .null, .unset] [])) rfl (hb hbytes d27)
  have hh5 := q5.trans hh3
  have c6 : Steps p.tables e below (s₁.setTop (entryFrame m #[.ref a, .ref b, .int (Int32.ofNat o), .int (Int32.ofNat len), .null] 6)) (T5.setTop (mkF m 30 #[.val (.ref a), .val (.ref b), .val (.int (Int32.ofNat o)), .val (.int (Int32.ofNat len)), .val .null, .unset] [.int z])) := c4.trans (st5 _ (Steps.refl _))
  have c7 : Steps p.tables e below (s₁.setTop (entryFrame m #[.ref a, .ref b, .int (Int32.ofNat o), .int (Int32.ofNat len), .null] 6)) (T5.setTop (mkF m 36 #[.val (.ref a), .val (.ref b), .val (.int (Int32.ofNat o)), .val (.int (Int32.ofNat len)), .val .null, .unset] [.int (Int32.ofNat len), .int (Int32.ofNat o), .ref b])) := c6.trans (by
    refine XS.ifNo X5.here hexec rfl (hb hbytes d30) rfl (i0_eq_f hz) ?_
    refine XS.aloadN X5.here hexec rfl (hb hbytes d33) rfl rfl ?_
    refine XS.iloadN X5.here hexec rfl (hb hbytes d34) rfl ?_
    refine XS.iloadN X5.here hexec rfl (hb hbytes d35) rfl ?_
    exact Steps.refl _)
  obtain ⟨v8, T8, X8, E8, g8⟩ := X5.callS hexec (Cmp3.law l b A o len) hown (wks W (staticW "java/lang/String" 177 Cmp3.yN)) (wk W Cmp3.tab) (W := 0) (Nat.le_of_ble_eq_true rfl) (Nat.le_of_ble_eq_true rfl) (Nat.le_refl _) (by show 0 + len ≤ len; omega) (g := (mkF m 36 #[.val (.ref a), .val (.ref b), .val (.int (Int32.ofNat o)), .val (.int (Int32.ofNat len)), .val .null, .unset] [.int (Int32.ofNat len), .int (Int32.ofNat o), .ref b])) rfl (by rw [hml]; rfl) c7 (argsL := [.ref b, .int (Int32.ofNat o), .int (Int32.ofNat len)]) (rest := []) rfl rfl (by show 2 * 0 + 0 ≤ _; decide) (hb hbytes d36) (⟨rfl, hA.mv X5.warmed.alike hh5, l1, l2, hp⟩)
  obtain ⟨e8, z8⟩ := E8
  obtain ⟨rfl, N, n1, n2, n3, n4, n5, n6⟩ := NewArr.mv _ T5 s _ _ hh5.symm (Vm.Alike.refl _) rfl e8
  rw [hh5] at z8
  have hB1 := hB.keep X8.warmed.alike (n6 _ _ hB.1)
  have hne : s.heap.size ≠ a := (Nat.ne_of_lt (Array.getElem?_eq_some_iff.mp hB.1).1).symm
  have c9 : Steps p.tables e below (s₁.setTop (entryFrame m #[.ref a, .ref b, .int (Int32.ofNat o), .int (Int32.ofNat len), .null] 6)) (T8.setTop (mkF m 39 #[.val (.ref a), .val (.ref b), .val (.int (Int32.ofNat o)), .val (.int (Int32.ofNat len)), .val .null, .unset] [.ref s.heap.size])) := g8
  have c10 : Steps p.tables e below (s₁.setTop (entryFrame m #[.ref a, .ref b, .int (Int32.ofNat o), .int (Int32.ofNat len), .null] 6)) (T8.setTop (mkF m 45 #[.val (.ref a), .val (.ref b), .val (.int (Int32.ofNat o)), .val (.int (Int32.ofNat len)), .val .null, .val (.ref s.heap.size)] [.int (Int32.ofNat N.slots.size), .ref s.heap.size, .ref a])) := by
    have hc : Steps p.tables e below (s₁.setTop (entryFrame m #[.ref a, .ref b, .int (Int32.ofNat o), .int (Int32.ofNat len), .null] 6)) (T8.setTop (mkF m 45 #[.val (.ref a), .val (.ref b), .val (.int (Int32.ofNat o)), .val (.int (Int32.ofNat len)), .val .null, .val (.ref s.heap.size)] [.int (Int32.ofNat len), .ref s.heap.size, .ref a])) := c9.trans (by
      refine XS.astore X8.here hexec rfl (hb hbytes d39) rfl rfl rfl ?_
      refine XS.aloadN X8.here hexec rfl (hb hbytes d41) rfl rfl ?_
      refine XS.aload X8.here hexec rfl (hb hbytes d42) rfl rfl ?_
      refine XS.iloadN X8.here hexec rfl (hb hbytes d44) rfl ?_
      exact Steps.refl _)
    rw [n4]; exact hc
  obtain ⟨v11, T11, X11, E11, g11⟩ := X8.callS hexec (CodL.law l s.heap.size N) hown (wks W (staticW "java/lang/String" 47 CodL.yN)) (wk W CodL.tab) (W := 1) (Nat.le_of_ble_eq_true rfl) (Nat.le_of_ble_eq_true rfl) (Nat.le_refl _) (by show 0 + len + 0 ≤ len; omega) (g := (mkF m 45 #[.val (.ref a), .val (.ref b), .val (.int (Int32.ofNat o)), .val (.int (Int32.ofNat len)), .val .null, .val (.ref s.heap.size)] [.int (Int32.ofNat N.slots.size), .ref s.heap.size, .ref a])) rfl (by rw [hml]; rfl) c10 (argsL := [.ref s.heap.size, .int (Int32.ofNat N.slots.size)]) (rest := [.ref a]) rfl rfl (by show 2 * 0 + (1 + 0) ≤ _; decide) (hb hbytes d45) (⟨rfl, n1⟩)
  obtain ⟨rfl, q11⟩ := E11
  have hB11 := hB1.mv (X8.warmed.alike.symm.trans X11.warmed.alike) q11
  have c12 : Steps p.tables e below (s₁.setTop (entryFrame m #[.ref a, .ref b, .int (Int32.ofNat o), .int (Int32.ofNat len), .null] 6)) (T11.setTop (mkF m 48 #[.val (.ref a), .val (.ref b), .val (.int (Int32.ofNat o)), .val (.int (Int32.ofNat len)), .val .null, .val (.ref s.heap.size)] [.int 0, .ref a])) := g11
  obtain ⟨T13, X13, p13, bl13, sl13, st13⟩ := X11.finit hexec hown (wk W (.fieldLink "java/lang/String" 15 "java/lang/String" "coder" "B")) (Or.inr ⟨_, (wk W (.laysFinal "java/lang/String" "java/lang/String" "coder" "B"))⟩) (Or.inl ⟨rfl, hnm⟩) f2 (Or.inl rfl) hB11 (t := .byte) (by decide +kernel) rfl (g := (mkF m 48 #[.val (.ref a), .val (.ref b), .val (.int (Int32.ofNat o)), .val (.int (Int32.ofNat len)), .val .null, .val (.ref s.heap.size)] [.int 0, .ref a])) rfl (rest := []) rfl (hb hbytes d48)
  have c14 : Steps p.tables e below (s₁.setTop (entryFrame m #[.ref a, .ref b, .int (Int32.ofNat o), .int (Int32.ofNat len), .null] 6)) (T13.setTop (mkF m 54 #[.val (.ref a), .val (.ref b), .val (.int (Int32.ofNat o)), .val (.int (Int32.ofNat len)), .val .null, .val (.ref s.heap.size)] [.ref s.heap.size, .ref a])) := (c12.trans (st13 _ (Steps.refl _))).trans (by
    refine XS.aloadN X13.here hexec rfl (hb hbytes d51) rfl rfl ?_
    refine XS.aload X13.here hexec rfl (hb hbytes d52) rfl rfl ?_
    exact Steps.refl _)
  obtain ⟨T15, X15, p15, bl15, sl15, st15⟩ := X13.finit hexec hown (wk W (.fieldLink "java/lang/String" 9 "java/lang/String" "value" "[B")) (Or.inr ⟨_, (wk W (.laysFinal "java/lang/String" "java/lang/String" "value" "[B"))⟩) (Or.inl ⟨rfl, hnm⟩) f1 (Or.inl rfl) bl13 (t := (.array .byte)) (by decide +kernel) rfl (g := (mkF m 54 #[.val (.ref a), .val (.ref b), .val (.int (Int32.ofNat o)), .val (.int (Int32.ofNat len)), .val .null, .val (.ref s.heap.size)] [.ref s.heap.size, .ref a])) rfl (rest := []) rfl (hb hbytes d54)
  have c16 : Steps p.tables e below (s₁.setTop (entryFrame m #[.ref a, .ref b, .int (Int32.ofNat o), .int (Int32.ofNat len), .null] 6)) (T15.setTop (mkF m 57 #[.val (.ref a), .val (.ref b), .val (.int (Int32.ofNat o)), .val (.int (Int32.ofNat len)), .val .null, .val (.ref s.heap.size)] [])) := c14.trans (st15 _ (Steps.refl _))
  have ap := apart (Or.inr ⟨_, (wk W (.laysFinal "java/lang/String" "java/lang/String" "value" "[B"))⟩) (Or.inr ⟨_, (wk W (.laysFinal "java/lang/String" "java/lang/String" "coder" "B"))⟩) f1 f2 (t₁ := .array .byte) (t₂ := .byte) (by decide +kernel) (by decide +kernel) (by decide)
  have al := X8.warmed.alike.symm.trans X15.warmed.alike
  have n7 : T11.heap[s.heap.size]? = some N := by rw [q11]; exact n1.1
  exact ⟨T15, none, _, _, _, X15, by simp, rfl, by omega, (fun _ => rfl), ⟨rfl, _, N, bl15, ((Same.refl D _).set _ (by simp)).set _ (by simp), sl15, (Cell.slots_setSlot_ne _ ap).trans sl13, n1.keep al (p15.other hne (p13.other hne n7)), n2, by rw [al.findClass]; exact n3, n4, n5, fun y c h1 h2 => p15.other h1 (p13.other h1 (by rw [q11]; exact n6 y c h2)), by rw [p15.2.2, p13.2.2, q11]; exact z8⟩, fun fs hl => c16.trans (X15.returnOut hexec hret (hb hbytes d57) hl)⟩
end New4
namespace New1
def yN : MethodName := ⟨"java/lang/String", "<init>", "([C)V"⟩
abbrev yB : ByteArray := jdk_42_method_3_code
theorem d0 : decode yB 0 = .ok (.aload_n 0, 1) := by decide +kernel
theorem d1 : decode yB 1 = .ok (.aload_n 1, 1) := by decide +kernel
theorem d2 : decode yB 2 = .ok (.iconst 0, 1) := by decide +kernel
theorem d3 : decode yB 3 = .ok (.aload_n 1, 1) := by decide +kernel
theorem d4 : decode yB 4 = .ok (.arraylength, 1) := by decide +kernel
theorem d5 : decode yB 5 = .ok (.aconst_null, 1) := by decide +kernel
theorem d6 : decode yB 6 = .ok (.invokespecial 27, 3) := by decide +kernel
theorem d9 : decode yB 9 = .ok (.return_, 1) := by decide +kernel
def site : List Cond := [New4.tab] ++ initW "java/lang/String" 27 New4.yN
def tab : Cond := tabOf yN yB 2 none site
def P (a : Addr) (D : Cell) (fV fC : Field) (b : Addr) (A : Cell) (z : Int32) (args : Array Value) (s : State) : Prop := args = #[.ref a, .ref b] ∧ Blank "java/lang/String" a D s ∧ Found "java/lang/String" "value" "[B" fV s ∧ Found "java/lang/String" "coder" "B" fC s ∧ Ch b A s ∧ StaticIs s "java/lang/String" "COMPACT_STRINGS" "Z" (.int z) ∧ ¬ z = 0 ∧ 0 < A.slots.size ∧ A.slots.size ≤ 536870912 ∧ ∀ i, i < A.slots.size → ¬ 255 < cv A i
def E (a : Addr) (D : Cell) (fV fC : Field) (A : Cell) (r : Option Value) (s u : State) : Prop := Got a D fV fC A 0 A.slots.size r s u
/-- new String(chars), not empty, no char above 255: a Latin-1 String of their low bytes -/
theorem law (l : Launch) (a : Addr) (D : Cell) (fV fC : Field) (b : Addr) (A : Cell) (z : Int32) : Law l yN 2 1 3 52 yB 2 none site (P a D fV fC b A z) (E a D fV fC A) [⟨a, fC.slot⟩, ⟨a, fV.slot⟩] 1 A.slots.size := by
  refine Law.of_walk (plainFor_of_name (by decide +kernel)) (by decide +kernel) (by decide +kernel) (by decide) (fun _ _ h => by rw [h.1]; rfl) (fun _ U U' hal hh h => ⟨h.1, h.2.1.mv hal hh, h.2.2.1.al hal, h.2.2.2.1.al hal, h.2.2.2.2.1.mv hal hh, h.2.2.2.2.2.1.there hal hh, h.2.2.2.2.2.2⟩) (fun r U U' V V' h1 hal h2 h => Got.mv r U U' V V' h1 hal h2 h) ?_
  intro p e s m args below meth c s₁ X0 hexec hbytes hml hret hlk hnm hown hh0 W hP
  obtain ⟨rfl, hB, f1, f2, hA, s1, hz, l0, l2, hp⟩ := hP
  have c1 : Steps p.tables e below (s₁.setTop (entryFrame m #[.ref a, .ref b] 2)) (s₁.setTop (mkF m 0 #[.val (.ref a), .val (.ref b)] [])) := entry rfl
  have c2 : Steps p.tables e below (s₁.setTop (entryFrame m #[.ref a, .ref b] 2)) (s₁.setTop (mkF m 6 #[.val (.ref a), .val (.ref b)] [.null, .int (Int32.ofNat A.slots.size), .int 0, .ref b, .ref a])) := c1.trans (by
    refine XS.aloadN X0.here hexec rfl (hb hbytes d0) rfl rfl ?_
    refine XS.aloadN X0.here hexec rfl (hb hbytes d1) rfl rfl ?_
    refine iconstV X0.here hexec rfl 0 (hb hbytes d2) (by decide) ?_
    refine XS.aloadN X0.here hexec rfl (hb hbytes d3) rfl rfl ?_
    refine X0.alen hexec (hA.1.mv X0.warmed.alike hh0) rfl rfl (hb hbytes d4) ?_
    refine XS.aconstNull X0.here hexec rfl (hb hbytes d5) ?_
    exact Steps.refl _)
  obtain ⟨v3, T3, X3, E3, g3⟩ := X0.callN hexec (New4.law l a D fV fC b A z 0 A.slots.size) rfl hown (wks W (initW "java/lang/String" 27 New4.yN)) (W New4.tab (by simp only [site, List.mem_cons, List.mem_append, true_or, or_true])) (W := 0) (Nat.le_of_ble_eq_true rfl) (Nat.le_of_ble_eq_true rfl) (Nat.le_refl _) (by show 0 + A.slots.size ≤ A.slots.size; omega) (g := (mkF m 6 #[.val (.ref a), .val (.ref b)] [.null, .int (Int32.ofNat A.slots.size), .int (Int32.ofNat 0), .ref b, .ref a])) rfl (by rw [hml]; rfl) c2 (argsL := [.ref b, .int (Int32.ofNat 0), .int (Int32.ofNat A.slots.size), .null]) (rest := []) rfl rfl (by show 2 * 0 + 0 ≤ _; decide) (hb hbytes d6) (⟨rfl, hB.mv X0.warmed.alike hh0, f1.al X0.warmed.alike, f2.al X0.warmed.alike, hA.mv X0.warmed.alike hh0, s1.there X0.warmed.alike hh0, hz, l0, by omega, l2, fun i hi => by rw [Nat.zero_add]; exact hp i hi⟩)
  have e0 := Got.mv _ s₁ s _ _ hh0.symm (Vm.Alike.refl _) rfl E3
  obtain rfl := e0.1
  have c4 : Steps p.tables e below (s₁.setTop (entryFrame m #[.ref a, .ref b] 2)) (T3.setTop (mkF m 9 #[.val (.ref a), .val (.ref b)] [])) := g3
  exact ⟨T3, none, _, _, _, X3, by simp, rfl, by omega, (fun _ => rfl), e0, fun fs hl => c4.trans (X3.returnOut hexec hret (hb hbytes d9) hl)⟩
theorem pays {l : Launch} {R : Room} {p : Program} {e : Env} {below : List Frame} {s : State} {sargs : Array Value} {len W : Nat} (a : Addr) (D : Cell) (fV fC : Field) (b : Addr) (A : Cell) (z : Int32) (htab : tab.before sargs s = true) (hfr : 4 ≤ R.frames) (hlo : W + 65 ≤ R.locals) :
    Back l R p e below s sargs yN len W (fun A₁ a₁ => A₁.cells + 1 ≤ R.cells ∧ A₁.slots + A.slots.size ≤ R.slots ∧ P a D fV fC b A z a₁ A₁.U) (fun A₁ _ v₁ B₁ => E a D fV fC A v₁ A₁.U B₁.U ∧ B₁.locs = A₁.locs ++ [⟨a, fC.slot⟩, ⟨a, fV.slot⟩] ∧ B₁.cells = A₁.cells + 1 ∧ B₁.slots = A₁.slots + A.slots.size) :=
  (law l a D fV fC b A z).pays htab hfr (by omega)
end New1
end StrChars
namespace StrChars.Road
open Jvm Sem ClassFile Op Lib Jvm.Stand Jvm.Free Jvm.Free.XT
open Jvm.Lib.Cold (StaticIs)
abbrev ST : String := "java/lang/String"
/-- every table word that New1's law asks, flat -/
abbrev words : List Jvm.Cond := [.code New1.yN New1.yB 2 none, .initialized ST, .methodLink ST 27 New4.yN, .instanceMethod New4.yN,
  .code New4.yN New4.yB 6 none, .fieldLink ST 38 ST "COMPACT_STRINGS" "Z", .laysFinal ST ST "value" "[B", .fieldLink ST 9 ST "value" "[B", .laysFinal ST ST "coder" "B", .fieldLink ST 15 ST "coder" "B",
  .methodLink ST 1 Lib.objectInit, .instanceMethod Lib.objectInit, .code Lib.objectInit ⟨#[0xb1]⟩ 1 none, .methodLink ST 177 Cmp3.yN, .static Cmp3.yN, .methodLink ST 47 CodL.yN, .static CodL.yN,
  .code Cmp3.yN Cmp3.yB 6 (some (.array .byte)), .initialized U16, .arrayClass .byte, .methodLink U16 115 Cmp5.yN, .static Cmp5.yN, .code Cmp5.yN Cmp5.yB 7 (some .int), .code CodL.yN CodL.yB 2 (some .byte)]
theorem tab_of {a : Array Value} {s : State} (h : ∀ w ∈ words, w.before a s = true) : New1.tab.before a s = true := by
  have h5 : Cmp5.tab.before a s = true := unparts (wk h (.code Cmp5.yN Cmp5.yB 7 (some .int))) (wks h (.initialized Cmp5.yN.cls :: Cmp5.site))
  have hc : CodL.tab.before a s = true := unparts (wk h (.code CodL.yN CodL.yB 2 (some .byte))) (wks h (.initialized CodL.yN.cls :: CodL.site))
  have q5 : ∀ w ∈ Cmp5.tab :: words, w.before a s = true := fun w hw => (List.mem_cons.mp hw).elim (fun e => e ▸ h5) (h w)
  have h3 : Cmp3.tab.before a s = true := unparts (wk q5 (.code Cmp3.yN Cmp3.yB 6 (some (.array .byte)))) (wks q5 (.initialized Cmp3.yN.cls :: Cmp3.site))
  have q3 : ∀ w ∈ Cmp3.tab :: CodL.tab :: words, w.before a s = true := fun w hw => (List.mem_cons.mp hw).elim (fun e => e ▸ h3) fun hw => (List.mem_cons.mp hw).elim (fun e => e ▸ hc) (h w)
  have h4 : New4.tab.before a s = true := unparts (wk q3 (.code New4.yN New4.yB 6 none)) (wks q3 (.initialized New4.yN.cls :: New4.site))
  have q4 : ∀ w ∈ New4.tab :: words, w.before a s = true := fun w hw => (List.mem_cons.mp hw).elim (fun e => e ▸ h4) (h w)
  exact unparts (wk q4 (.code New1.yN New1.yB 2 none)) (wks q4 (.initialized New1.yN.cls :: New1.site))
/-- the words ride from the start Z to the walk's own state -/
theorem moved {Z s : State} {a0 args : Array Value} (hZ : Z.Warmed39 s.vm) (hw : ∀ d ∈ words, d.before a0 Z = true) : ∀ d ∈ words, d.before args s = true := fun d hd => by
  have q := hw d hd
  have t : ∀ d ∈ words, d = .arrayClass .byte ∨ (d.onTables && d.keepsFace) = true := by decide +kernel
  rcases t d hd with rfl | t
  · exact RoadKit.mvA hZ q
  · exact RoadKit.mv hZ q t
/-- WHAT COMES BACK, over the tables of the start Z: h the heap at the call, h' behind it -/
def Q (Z : State) (x : Addr) (A : Cell) (h : Heap) (v : Option Value) (h' : Heap) (L : List Loc) : Prop := v = none ∧ (∀ y ∈ L, y.base = x) ∧ RoadKit.Keep h h' [x] ∧ h'.size = h.size + 1 ∧ RoadKit.Exa Z h' x ST ∧ RoadKit.Fld Z h' x ST "value" "[B" (.ref h.size) ∧ RoadKit.Fld Z h' x ST "coder" "B" (.int 0) ∧
  (∃ V : Cell, RoadKit.Arr Z h' h.size V .byte ∧ V.vm = .none ∧ Z.vm.findClass "[B" = some V.cls ∧ V.slots.size = A.slots.size ∧ ∀ j, j < A.slots.size → V.slots[j]? = some (.int (lo8 (cv A j)))) ∧
  ∀ (O n d : String) (w : Value), RoadKit.Fld Z h x O n d w → RoadKit.slotOf Z O n d ≠ RoadKit.slotOf Z ST "value" "[B" → RoadKit.slotOf Z O n d ≠ RoadKit.slotOf Z ST "coder" "B" → RoadKit.Fld Z h' x O n d w
/-- **new String(chars) AT A CALL, IN THE ROAD'S FORM**: for specialBack behind newO: x the fresh String, b the char[] with the cell A -/
theorem back {p : Program} {l : Launch} {e : Env} {R : Room} {s : State} {args : Array Value} {below : List Frame} {len W : Nat} {Z : State} {a0 : Array Value} {h : Heap} (hZ : Z.Warmed39 s.vm) (hw : ∀ d ∈ words, d.before a0 Z = true) {kI : Nat} (wi : (Jvm.Cond.instantiable ST kI).before a0 Z = true)
    {x b : Addr} {A : Cell} {z : Int32} {v0 c0 : Value} (E : RoadKit.Exa Z h x ST) (V : RoadKit.Fld Z h x ST "value" "[B" v0) (C : RoadKit.Fld Z h x ST "coder" "B" c0) (K : RoadKit.Arr Z h b A .char) (hty : Typed .char A) (S : RoadKit.Sta Z h ST "COMPACT_STRINGS" "Z" (.int z)) (hz : ¬ z = 0)
    (l0 : 0 < A.slots.size) (l2 : A.slots.size ≤ 536870912) (hp : ∀ i, i < A.slots.size → ¬ 255 < cv A i) (hfr : 4 ≤ R.frames) (hlo : W + 65 ≤ R.locals) :
    Back l R p e below s args New1.yN len W (fun P a => a = #[.ref x, .ref b] ∧ P.U.heap = h ∧ P.cells + 1 ≤ R.cells ∧ P.slots + A.slots.size ≤ R.slots)
      (fun P _ v B => ∃ L, Q Z x A h v B.U.heap L ∧ B.locs = P.locs ++ L ∧ B.cells = P.cells + 1 ∧ B.slots = P.slots + A.slots.size) := by
  intro m meth c P g ig mk a X hg hsize hdg hW hn hp'
  obtain ⟨rfl, rfl, r1, r2⟩ := hp'
  have al : Z.vm.Alike P.U.vm := hZ.alike.trans X.warmed.alike
  obtain ⟨D, cfV, kV, iV, fV, hD, gV, stV, knV, obV, asV, slV⟩ := id V
  obtain ⟨D', cfC, kC, iC, fC, hD', gC, stC, -, -, asC, slC⟩ := id C
  cases hD.symm.trans hD'
  obtain ⟨D2, kD, e1, e2, e3, e4, e5⟩ := id E
  cases hD.symm.trans e1
  obtain ⟨c2, k2, i1, i2, i3, -⟩ := Cond.instantiable_spec wi
  cases e2.symm.trans i1
  cases e3.symm.trans i2
  obtain ⟨kU, u1, u2⟩ := al.2.2 _ _ e3
  have hB : Blank ST x D P.U := ⟨hD, ⟨knV, fun q hq => by rw [hq] at obV; cases obV⟩, by rw [al.findClass]; exact e2, kU, u1, by rw [u2]; exact i3, by rw [u2]; exact e5 i3⟩
  have F1 : Found ST "value" "[B" fV P.U := ⟨SBG.found_only al ⟨cfV, kV, iV, gV⟩, stV⟩
  have F2 : Found ST "coder" "B" fC P.U := ⟨SBG.found_only al ⟨cfC, kC, iC, gC⟩, stC⟩
  have hA : Ch b A P.U := ⟨⟨K.1, State.isArrayOf_alike al K.2.1, K.2.2, by omega⟩, hty⟩
  have hS : StaticIs P.U ST "COMPACT_STRINGS" "Z" (.int z) := by
    obtain ⟨cfS, iS, kS, fS, st, cS, t1, t2, t3, t4, t5, t6, t7⟩ := S
    exact StaticIs.there (s := { Z with heap := P.U.heap }) ⟨cfS, iS, kS, fS, st, cS, t1, t2, t3, t4, t5, (fun q => by rw [q] at t6; cases t6), t7⟩ al rfl
  obtain ⟨v, B, X', ⟨⟨hv, E', V', q1, q2, q3, q4, q5, q6, q7, q8, q9, q10, q11⟩, hl, hc, hs⟩, st⟩ := New1.pays x D fV fC b A z (tab_of (moved hZ hw)) hfr hlo m meth c P g ig mk _ X hg hsize hdg hW hn ⟨r1, r2, rfl, hB, F1, F2, hA, hS, hz, l0, l2, hp⟩
  have al' : Z.vm.Alike B.U.vm := hZ.alike.trans X'.warmed.alike
  have hsz : E'.slots.size = D.slots.size := by
    obtain ⟨-, -, -, kB, w1, w2, w3⟩ := q1
    obtain ⟨kB', y1, y2⟩ := al'.2.2 _ _ e3
    rw [q2.2.1] at w1
    cases w1.symm.trans y1
    rw [w3, e5 i3, y2]
  refine ⟨v, B, X', ⟨_, ⟨hv, ?_, ⟨by omega, fun y cy hy hn' => q10 y cy (by simpa using hn') hy, fun y cy hy => ?_⟩, q11, ⟨E', _, q1.1, by rw [q2.2.1]; exact e2, by rw [q2.2.1]; exact e3, by rw [q2.1]; exact obV, fun _ => by rw [hsz]; exact e5 i3⟩,
    ⟨E', cfV, kV, iV, fV, q1.1, gV, stV, by rw [q2.1]; exact knV, by rw [q2.1]; exact obV, by rw [q2.2.1]; exact asV, q3⟩, ⟨E', cfC, kC, iC, fC, q1.1, gC, stC, by rw [q2.1]; exact knV, by rw [q2.1]; exact obV, by rw [q2.2.1]; exact asC, q4⟩,
    ⟨V', ⟨q5.1, State.isArrayOf_alike al'.symm q5.2.1, q5.2.2.1⟩, q6, by rw [← al'.findClass]; exact q7, q8, fun j hj => by have := q9 j hj; rwa [Nat.zero_add] at this⟩, fun O n d w F n1 n2 => ?_⟩, hl, hc, hs⟩, st⟩
  · intro y hy
    simp only [List.mem_cons, List.not_mem_nil, or_false] at hy
    rcases hy with rfl | rfl <;> rfl
  · by_cases q : y = x
    · subst q
      cases hD.symm.trans hy
      exact ⟨E', q1.1, q2.2.1, q2.1, hsz⟩
    · exact ⟨cy, q10 y cy q hy, rfl, rfl, rfl⟩
  · obtain ⟨D3, cf, k, i, f, g1, g2, g3, g4, g5, g6, g7⟩ := F
    cases hD.symm.trans g1
    simp only [RoadKit.slotOf, g2, gV, gC, Option.map_some, Option.getD_some] at n1 n2
    exact ⟨E', cf, k, i, f, q1.1, g2, g3, by rw [q2.1]; exact g4, by rw [q2.1]; exact g5, by rw [q2.2.1]; exact g6, by rw [q2.2.2 f.slot (by simp [n1, n2])]; exact g7⟩
end StrChars.Road
namespace StrChars.Road
open Jvm Sem ClassFile Op Lib Jvm.Stand Jvm.Free Jvm.Free.XT
/-- WHAT COMES BACK, the byte[] as a list of values -/
def QA (Z : State) (x : Addr) (zn : Int32) (cs : List Int32) (h : Heap) (v : Option Value) (h' : Heap) (L : List Loc) : Prop := v = none ∧ (∀ y ∈ L, y.base = x) ∧ RoadKit.Keep h h' [x] ∧ h'.size = h.size + 1 ∧ RoadKit.Exa Z h' x ST ∧ RoadKit.Fld Z h' x ST "value" "[B" (.ref h.size) ∧ RoadKit.Fld Z h' x ST "coder" "B" (.int 0) ∧
  (∃ kb, Z.vm.findClass "[B" = some kb ∧ RoadKit.Arv Z h' h.size kb .byte zn (cs.map fun c => .int (lo8 c)) (.int 0)) ∧
  ∀ (O n d : String) (w : Value), RoadKit.Fld Z h x O n d w → RoadKit.slotOf Z O n d ≠ RoadKit.slotOf Z ST "value" "[B" → RoadKit.slotOf Z O n d ≠ RoadKit.slotOf Z ST "coder" "B" → RoadKit.Fld Z h' x O n d w
/-- **new String(chars) AT A CALL, THE ARRAYS AS LISTS**: the char[] at b holds cs, not empty, no char above 255 -/
theorem backArv {p : Program} {l : Launch} {e : Env} {R : Room} {s : State} {args : Array Value} {below : List Frame} {len W : Nat} {Z : State} {a0 : Array Value} {h : Heap} (hZ : Z.Warmed39 s.vm) (hw : ∀ d ∈ words, d.before a0 Z = true) {kI : Nat} (wi : (Jvm.Cond.instantiable ST kI).before a0 Z = true)
    {x b : Addr} {k : ClassId} {zn z : Int32} {cs : List Int32} {dv v0 c0 : Value} (E : RoadKit.Exa Z h x ST) (V : RoadKit.Fld Z h x ST "value" "[B" v0) (C : RoadKit.Fld Z h x ST "coder" "B" c0) (K : RoadKit.Arv Z h b k .char zn (cs.map Value.int) dv) (S : RoadKit.Sta Z h ST "COMPACT_STRINGS" "Z" (.int z)) (hz : ¬ z = 0)
    (hlen : zn.toNatClampNeg = cs.length) (h0 : 0 < cs.length) (hbig : cs.length ≤ 536870912) (hall : ∀ c ∈ cs, ¬ 255 < c) (hfr : 4 ≤ R.frames) (hlo : W + 65 ≤ R.locals) :
    Back l R p e below s args New1.yN len W (fun P a => a = #[.ref x, .ref b] ∧ P.U.heap = h ∧ P.cells + 1 ≤ R.cells ∧ P.slots + cs.length ≤ R.slots)
      (fun P _ v B => ∃ L, QA Z x zn cs h v B.U.heap L ∧ B.locs = P.locs ++ L ∧ B.cells = P.cells + 1 ∧ B.slots = P.slots + cs.length) := by
  obtain ⟨A, K1, K2, K3, K4, K5, K6⟩ := K
  have e : A.slots.size = cs.length := K3.trans hlen
  have hat : ∀ (i : Nat) (hi : i < cs.length), A.slots[i]? = some (.int cs[i]) := fun i hi => by rw [K5 i (by omega)]; simp [List.getD_eq_getElem?_getD, hi]
  have hcv : ∀ (i : Nat) (hi : i < cs.length), cv A i = cs[i] := fun i hi => by unfold cv; rw [hat i hi]
  have hty : Typed .char A := fun i v hv => by
    have hi : i < A.slots.size := (Array.getElem?_eq_some_iff.mp hv).1
    have q := K5 i hi
    rw [hv] at q
    rw [Option.some.inj q]
    exact K6 i hi
  refine Back.mono (back hZ hw wi E V C K1 hty S hz (by omega) (by omega) (fun i hi => by rw [hcv i (by omega)]; exact hall _ (List.getElem_mem _)) hfr hlo) (fun P a hp => ⟨hp.1, hp.2.1, hp.2.2.1, by rw [e]; exact hp.2.2.2⟩) (fun P a v B hp hq => ?_)
  obtain ⟨L, ⟨q1, q2, q3, q4, q5, q6, q7, ⟨V', v1, v2, v3, v4, v5⟩, q9⟩, hl, hc, hs⟩ := hq
  refine ⟨L, ⟨q1, q2, q3, q4, q5, q6, q7, ⟨V'.cls, v3, V', v1, rfl, by rw [v4, e, hlen], K4, fun i hi => ?_, fun i hi => ?_⟩, q9⟩, hl, hc, by rw [hs, e]⟩
  · have hi' : i < cs.length := by omega
    rw [v5 i (by omega), hcv i hi']; simp [List.getD_eq_getElem?_getD, hi']
  · have hi' : i < cs.length := by omega
    simp only [List.getD_eq_getElem?_getD, List.getElem?_map, List.getElem?_eq_getElem hi', Option.map_some, Option.getD_some]
    exact fits_lo8 _
end StrChars.Road
namespace StrChars.Road
open Jvm Sem ClassFile Op Lib Jvm.Stand Jvm.Free Jvm.Free.XT
/-- WHAT COMES BACK, in the writer's own shape -/
def QV (Z : State) (x : Addr) (N : Int32) (bs : List Int32) (h : Heap) (n0 : Nat) (v : Option Value) (h' : Heap) (L : List Loc) : Prop := v = none ∧ RoadKit.Fr n0 L ∧ RoadKit.Keep h h' [x] ∧ RoadKit.Exa Z h' x ST ∧ RoadKit.Fld Z h' x ST "coder" "B" (.int 0) ∧
  ∃ (t : Addr) (kb : ClassId), n0 ≤ t ∧ h.size ≤ t ∧ ¬ t = x ∧ RoadKit.Fld Z h' x ST "value" "[B" (.ref t) ∧ RoadKit.Arv Z h' t kb .byte N (bs.map Value.int) (.int 0)
/-- **new String(chars) AT A CALL, FOR THE WRITER**: a char[] of n known ints, each 0 to 255 -/
theorem backV {p : Program} {l : Launch} {e : Env} {R : Room} {s : State} {args : Array Value} {below : List Frame} {len W : Nat} {Z : State} {a0 : Array Value} {h : Heap} (hZ : Z.Warmed39 s.vm) (hw : ∀ d ∈ words, d.before a0 Z = true) {kI : Nat} (wi : (Jvm.Cond.instantiable ST kI).before a0 Z = true)
    {x b : Addr} {kC : ClassId} {cs bs : List Int32} {d v0 c0 : Value} {z N : Int32} {n n0 : Nat} (hx0 : n0 ≤ x) (hh0 : n0 ≤ h.size) (E : RoadKit.Exa Z h x ST) (V : RoadKit.Fld Z h x ST "value" "[B" v0) (C : RoadKit.Fld Z h x ST "coder" "B" c0) (K : RoadKit.Arv Z h b kC .char N (cs.map Value.int) d) (S : RoadKit.Sta Z h ST "COMPACT_STRINGS" "Z" (.int z)) (hz : ¬ z = 0)
    (hn : cs.length = n) (hN : N = Int32.ofNat n) (l0 : 0 < n) (l2 : n ≤ 4000) (hp : ∀ c ∈ cs, ¬ c < 0 ∧ ¬ (255 : Int32) < c) (hb : bs = cs.map (fun c => c.toInt8.toInt32)) (hfr : 4 ≤ R.frames) (hlo : W + 65 ≤ R.locals) :
    Back l R p e below s args (⟨"java/lang/String", "<init>", "([C)V"⟩ : MethodName) len W (fun P a => a = #[.ref x, .ref b] ∧ P.U.heap = h ∧ P.cells + 1 ≤ R.cells ∧ P.slots + n ≤ R.slots)
      (fun P _ v B => ∃ L, QV Z x N bs h n0 v B.U.heap L ∧ B.locs = P.locs ++ L ∧ B.cells = P.cells + 1 ∧ B.slots = P.slots + n) := by
  subst hn hN hb
  refine Back.mono (backArv hZ hw wi E V C K S hz (n32 (by omega)) l0 (by omega) (fun c hc => (hp c hc).2) hfr hlo) (fun P a hp => hp) (fun P a v B hp hq => ?_)
  obtain ⟨L, ⟨q1, q2, q3, q4, q5, q6, q7, ⟨kb, v1, v2⟩, q9⟩, hl, hc, hs⟩ := hq
  exact ⟨L, ⟨q1, fun y hy => by rw [q2 y hy]; exact hx0, q3, q5, q7, h.size, kb, hh0, Nat.le_refl _, Nat.ne_of_gt E.lt, q6, by rw [List.map_map]; exact v2⟩, hl, hc, hs⟩
end StrChars.Road
end Jvm.Pilot.@@N@@
namespace Jvm.Pilot.@@N@@
open Jvm Jvm.ClassFile Sem Op Lib Jvm.Free Jvm.Stand Jvm.LawKit Jvm.RoadKit Jvm.OwnKit Bundle Jvm.Pilot.@@N@@.Jvm.D
theorem d3_0 : decode jdk_30_method_1_code 0 = .ok (.aload_n 0, 1) := by decide +kernel
theorem d3_1 : decode jdk_30_method_1_code 1 = .ok (.invokespecial 1, 3) := by decide +kernel
theorem d3_4 : decode jdk_30_method_1_code 4 = .ok (.return_, 1) := by decide +kernel
theorem pn_0 : plainName "java/lang/Record" = true := by first | (simp [plainName, overriddenIn]; done) | decide +kernel
theorem ef_rmRec (m : MethodId) (x0 : Addr) : entryFrame m #[(.ref x0)] 1 = mkF m 0 #[.val (.ref x0)] [] := by first | (simp [entryFrame, mkF, argsToLocals, Value.category]; done) | rfl
def QRec (Z : State) (a1 : Addr) (h0 : Heap) (n0 : Nat) (v : Option Value) (h : Heap) (L : List Loc) : Prop := v = none ∧ Fr n0 L ∧ h = h0
set_option maxRecDepth 65536 in
set_option maxHeartbeats 40000000 in
theorem rmRec (l : Launch) (Z : State) (a0 : Array Value) (hw : ∀ d ∈ tables_1, d.before a0 Z = true) (ws : List Jvm.Cond) (a1 : Addr) (h0 : Heap) (n0 : Nat) (Z0 : n0 ≤ h0.size)  :
    MetFree l (⟨"java/lang/Record", "<init>", "()V"⟩ : MethodName) (head1 (Jvm.Cond.code (⟨"java/lang/Record", "<init>", "()V"⟩ : MethodName) jdk_30_method_1_code 1 none :: ws) ({ frames := 1, cells := 0, slots := 0, locals := 12 } : Room)) (fun as' U => as' = #[(.ref a1)] ∧ Z.Warmed39 U.vm ∧ U.heap = h0) (fun _ _ _ _ _ => True) (fun _ U o U' => ∃ v L, o = .returned v ∧ QRec Z a1 h0 n0 v U'.heap L ∧ FrameEnd U o U' L ({ frames := 1, cells := 0, slots := 0, locals := 12 } : Room).cells ({ frames := 1, cells := 0, slots := 0, locals := 12 } : Room).slots) := by
  refine MetFree.of_bodySF (plainFor_of_name pn_0) hisR ?_
  intro p e s m args below meth c s₁ Bd hml0 hP hK
  obtain ⟨rfl, hZ, hh⟩ := hP
  have hx := Bd.exec
  have hby := Bd.bytes
  have hml : c.maxLocals = 1 := hml0
  have hown : s.vm.findClass "java/lang/Record" = some m.cls := findClass_of_methodNamed Bd.named
  have hnm := (name_of_methodNamed Bd.named Bd.method).1
  have hlk : meth.locks = false := Bd.notSynchronized
  have hret := Bd.returns
  have X0 : Stand p l e ({ frames := 1, cells := 0, slots := 0, locals := 12 } : Room) s m #[(.ref a1)] below meth c s₁ [] 0 0 := Stand.of_body Bd
  have e0 : s₁.heap = h0 := by rw [← hh, Bd.state]; rfl
  have N0 := Fr.nil n0
  show Go p e below s₁ (entryFrame m #[(.ref a1)] 1) (Fin s (QRec Z a1 h0 n0) ({ frames := 1, cells := 0, slots := 0, locals := 12 } : Room).cells ({ frames := 1, cells := 0, slots := 0, locals := 12 } : Room).slots)
  rw [ef_rmRec]
  show Go p e below s₁ (mkF m 0 #[.val (.ref a1)] []) _
  refine Go.step (fun _ => XS.aloadN X0.here hx rfl (hb hby d3_0) rfl rfl ) ?_
  show Go p e below s₁ (mkF m 1 #[.val (.ref a1)] [(.ref a1)]) _
  obtain ⟨T1, X1, e1, st1⟩ := initO X0 hx hZ hown (hw _ (List.mem_of_getElem? (i := 23) rfl)) (hw _ (List.mem_of_getElem? (i := 24) rfl)) (hw _ (List.mem_of_getElem? (i := 25) rfl)) e0 (g := (mkF m 1 #[.val (.ref a1)] [(.ref a1)])) rfl (by rw [hml]; rfl) rfl (hb hby d3_1) (by decide) (W := 0) (by show 2 * 0 + _ ≤ _; exact Nat.le_of_eq rfl) (by decide)
  refine Go.step st1 ?_
  show Go p e below T1 (mkF m 4 #[.val (.ref a1)] []) _
  refine Go.ret0 X1 hx hret hlk (hb hby d3_4) ?_ (by decide) (by decide)
  exact ⟨rfl, N0, e1⟩
theorem d13_0 : decode jdk_43_method_3_code 0 = .ok (.iload_n 0, 1) := by decide +kernel
theorem d13_1 : decode jdk_43_method_3_code 1 = .ok (.sipush 255, 3) := by decide +kernel
theorem d13_4 : decode jdk_43_method_3_code 4 = .ok (.if_icmp .gt 7, 3) := by decide +kernel
theorem d13_7 : decode jdk_43_method_3_code 7 = .ok (.iconst 1, 1) := by decide +kernel
theorem d13_8 : decode jdk_43_method_3_code 8 = .ok (.goto 4, 3) := by decide +kernel
theorem d13_11 : decode jdk_43_method_3_code 11 = .ok (.iconst 0, 1) := by decide +kernel
theorem d13_12 : decode jdk_43_method_3_code 12 = .ok (.ireturn, 1) := by decide +kernel
theorem pn_1 : plainName "java/lang/StringLatin1" = true := by first | (simp [plainName, overriddenIn]; done) | decide +kernel
theorem ef_rmEnc (m : MethodId) (x0 : Int32) : entryFrame m #[(.int x0)] 1 = mkF m 0 #[.val (.int x0)] [] := by first | (simp [entryFrame, mkF, argsToLocals, Value.category]; done) | rfl
def QEnc (Z : State) (p0 : Int32) (h0 : Heap) (n0 : Nat) (v : Option Value) (h : Heap) (L : List Loc) : Prop := v = some (.int 1) ∧ Fr n0 L ∧ h = h0
set_option maxRecDepth 65536 in
set_option maxHeartbeats 40000000 in
theorem rmEnc (l : Launch) (Z : State) (a0 : Array Value) (hw : ∀ d ∈ tables_1, d.before a0 Z = true) (ws : List Jvm.Cond) (p0 : Int32) (h0 : Heap) (n0 : Nat) (Z0 : n0 ≤ h0.size) (hp : ¬ (255 : Int32) < p0) :
    MetFree l (⟨"java/lang/StringLatin1", "canEncode", "(C)Z"⟩ : MethodName) (head1 (Jvm.Cond.code (⟨"java/lang/StringLatin1", "canEncode", "(C)Z"⟩ : MethodName) jdk_43_method_3_code 1 (some .boolean) :: ws) ({ frames := 0, cells := 0, slots := 0, locals := 0 } : Room)) (fun as' U => as' = #[(.int p0)] ∧ Z.Warmed39 U.vm ∧ U.heap = h0) (fun _ _ _ _ _ => True) (fun _ U o U' => ∃ v L, o = .returned v ∧ QEnc Z p0 h0 n0 v U'.heap L ∧ FrameEnd U o U' L ({ frames := 0, cells := 0, slots := 0, locals := 0 } : Room).cells ({ frames := 0, cells := 0, slots := 0, locals := 0 } : Room).slots) := by
  refine MetFree.of_bodySF (plainFor_of_name pn_1) hisR ?_
  intro p e s m args below meth c s₁ Bd hml0 hP hK
  obtain ⟨rfl, hZ, hh⟩ := hP
  have hx := Bd.exec
  have hby := Bd.bytes
  have hml : c.maxLocals = 1 := hml0
  have hown : s.vm.findClass "java/lang/StringLatin1" = some m.cls := findClass_of_methodNamed Bd.named
  have hnm := (name_of_methodNamed Bd.named Bd.method).1
  have hlk : meth.locks = false := Bd.notSynchronized
  have hret := Bd.returns
  have X0 : Stand p l e ({ frames := 0, cells := 0, slots := 0, locals := 0 } : Room) s m #[(.int p0)] below meth c s₁ [] 0 0 := Stand.of_body Bd
  have e0 : s₁.heap = h0 := by rw [← hh, Bd.state]; rfl
  have N0 := Fr.nil n0
  show Go p e below s₁ (entryFrame m #[(.int p0)] 1) (Fin s (QEnc Z p0 h0 n0) ({ frames := 0, cells := 0, slots := 0, locals := 0 } : Room).cells ({ frames := 0, cells := 0, slots := 0, locals := 0 } : Room).slots)
  rw [ef_rmEnc]
  show Go p e below s₁ (mkF m 0 #[.val (.int p0)] []) _
  refine Go.step (fun _ => XS.iloadN X0.here hx rfl (hb hby d13_0) rfl ) ?_
  show Go p e below s₁ (mkF m 1 #[.val (.int p0)] [(.int p0)]) _
  refine Go.step (fun _ => XS.sipush X0.here hx rfl (hb hby d13_1)) ?_
  show Go p e below s₁ (mkF m 4 #[.val (.int p0)] [(.int (255 : Int32)), (.int p0)]) _
  refine Go.step (fun _ => XS.icmpNo X0.here hx rfl (hb hby d13_4) rfl (flt hp).2.2.1) ?_
  show Go p e below s₁ (mkF m 7 #[.val (.int p0)] []) _
  refine Go.step (fun _ => XS.iconst X0.here hx rfl (hb hby d13_7)) ?_
  show Go p e below s₁ (mkF m 8 #[.val (.int p0)] [(.int (1 : Int32))]) _
  refine Go.step (fun _ => XS.goto X0.here hx rfl (pc0 := 8) (pc' := 12) rfl (hb hby d13_8) (by decide) (by decide)) ?_
  show Go p e below s₁ (mkF m 12 #[.val (.int p0)] [(.int (1 : Int32))]) _
  refine Go.retN (t := .boolean) (z' := (1 : Int32)) X0 hx hret (by simp) hlk (hb hby d13_12) (by decide) ?_ (by decide) (by decide)
  exact ⟨rfl, N0, e0⟩
theorem d14_0 : decode jdk_43_method_46_code 0 = .ok (.iconst 1, 1) := by decide +kernel
theorem d14_1 : decode jdk_43_method_46_code 1 = .ok (.newarray .byte, 2) := by decide +kernel
theorem d14_3 : decode jdk_43_method_46_code 3 = .ok (.dup, 1) := by decide +kernel
theorem d14_4 : decode jdk_43_method_46_code 4 = .ok (.iconst 0, 1) := by decide +kernel
theorem d14_5 : decode jdk_43_method_46_code 5 = .ok (.iload_n 0, 1) := by decide +kernel
theorem d14_6 : decode jdk_43_method_46_code 6 = .ok (.i2b, 1) := by decide +kernel
theorem d14_7 : decode jdk_43_method_46_code 7 = .ok (.bastore, 1) := by decide +kernel
theorem d14_8 : decode jdk_43_method_46_code 8 = .ok (.areturn, 1) := by decide +kernel
theorem ef_rmTB (m : MethodId) (x0 : Int32) : entryFrame m #[(.int x0)] 1 = mkF m 0 #[.val (.int x0)] [] := by first | (simp [entryFrame, mkF, argsToLocals, Value.category]; done) | rfl
def QTB (Z : State) (p0 : Int32) (h0 : Heap) (n0 : Nat) (v : Option Value) (h : Heap) (L : List Loc) : Prop := ∃ b, v = some (.ref b) ∧ Fr n0 L ∧ Keep h0 h []
set_option maxRecDepth 65536 in
set_option maxHeartbeats 40000000 in
theorem rmTB (l : Launch) (Z : State) (a0 : Array Value) (hw : ∀ d ∈ tables_1, d.before a0 Z = true) (ws : List Jvm.Cond) (p0 : Int32) (h0 : Heap) (n0 : Nat) (Z0 : n0 ≤ h0.size)  :
    MetFree l (⟨"java/lang/StringLatin1", "toBytes", "(C)[B"⟩ : MethodName) (head1 (Jvm.Cond.code (⟨"java/lang/StringLatin1", "toBytes", "(C)[B"⟩ : MethodName) jdk_43_method_46_code 1 (some (.array .byte)) :: ws) ({ frames := 0, cells := 1, slots := 1, locals := 0 } : Room)) (fun as' U => as' = #[(.int p0)] ∧ Z.Warmed39 U.vm ∧ U.heap = h0) (fun _ _ _ _ _ => True) (fun _ U o U' => ∃ v L, o = .returned v ∧ QTB Z p0 h0 n0 v U'.heap L ∧ FrameEnd U o U' L ({ frames := 0, cells := 1, slots := 1, locals := 0 } : Room).cells ({ frames := 0, cells := 1, slots := 1, locals := 0 } : Room).slots) := by
  refine MetFree.of_bodySF (plainFor_of_name pn_1) hisR ?_
  intro p e s m args below meth c s₁ Bd hml0 hP hK
  obtain ⟨rfl, hZ, hh⟩ := hP
  have hx := Bd.exec
  have hby := Bd.bytes
  have hml : c.maxLocals = 1 := hml0
  have hown : s.vm.findClass "java/lang/StringLatin1" = some m.cls := findClass_of_methodNamed Bd.named
  have hnm := (name_of_methodNamed Bd.named Bd.method).1
  have hlk : meth.locks = false := Bd.notSynchronized
  have hret := Bd.returns
  have X0 : Stand p l e ({ frames := 0, cells := 1, slots := 1, locals := 0 } : Room) s m #[(.int p0)] below meth c s₁ [] 0 0 := Stand.of_body Bd
  have e0 : s₁.heap = h0 := by rw [← hh, Bd.state]; rfl
  have N0 := Fr.nil n0
  show Go p e below s₁ (entryFrame m #[(.int p0)] 1) (Fin s (QTB Z p0 h0 n0) ({ frames := 0, cells := 1, slots := 1, locals := 0 } : Room).cells ({ frames := 0, cells := 1, slots := 1, locals := 0 } : Room).slots)
  rw [ef_rmTB]
  show Go p e below s₁ (mkF m 0 #[.val (.int p0)] []) _
  refine Go.step (fun _ => XS.iconst X0.here hx rfl (hb hby d14_0)) ?_
  show Go p e below s₁ (mkF m 1 #[.val (.int p0)] [(.int (1 : Int32))]) _
  obtain ⟨T2, h2, k2, X2, e2, E2, A2, st2⟩ := newP X0 hx hZ (hw _ (List.mem_of_getElem? (i := 10) rfl)) e0 (g := (mkF m 1 #[.val (.int p0)] [(.int (1 : Int32))])) rfl (hb hby d14_1) rfl (by decide) (cap := 1) (by decide) (by decide) (by decide) (by decide)
  obtain ⟨b2, g2⟩ : ∃ z, z = h0.size := ⟨_, rfl⟩
  rw [← g2] at A2 st2
  have g_b2 : n0 ≤ b2 := Nat.le_trans Z0 (Nat.le_of_eq g2.symm)
  have sz_b2 : h0.size ≤ b2 := Nat.le_trans (Keep.refl h0 []).1 (Nat.le_of_eq g2.symm)
  have Z2 : n0 ≤ h2.size := Nat.le_trans Z0 E2.1
  have K2 : Keep h0 h2 [] := (Keep.refl h0 []).ext E2
  refine Go.step st2 ?_
  have V_b2 := Arv.new A2 (by decide)
  have V_b2 : Arv Z h2 b2 k2 .byte (1 : Int32) [(.int (0 : Int32))] (.int (0 : Int32)) := V_b2.pad (pad_rep [] (.int (0 : Int32)) 1)
  show Go p e below T2 (mkF m 3 #[.val (.int p0)] [(.ref b2)]) _
  refine Go.step (fun _ => XS.dup X2.here hx rfl (hb hby d14_3) rfl rfl) ?_
  show Go p e below T2 (mkF m 4 #[.val (.int p0)] [(.ref b2), (.ref b2)]) _
  refine Go.step (fun _ => XS.iconst X2.here hx rfl (hb hby d14_4)) ?_
  show Go p e below T2 (mkF m 5 #[.val (.int p0)] [(.int (0 : Int32)), (.ref b2), (.ref b2)]) _
  refine Go.step (fun _ => XS.iloadN X2.here hx rfl (hb hby d14_5) rfl ) ?_
  show Go p e below T2 (mkF m 6 #[.val (.int p0)] [(.int p0), (.int (0 : Int32)), (.ref b2), (.ref b2)]) _
  refine Go.step (fun _ => XS.i2b X2.here hx rfl (hb hby d14_6) rfl) ?_
  show Go p e below T2 (mkF m 7 #[.val (.int p0)] [(.int (p0.toInt8.toInt32)), (.int (0 : Int32)), (.ref b2), (.ref b2)]) _
  obtain ⟨cl3, Ar3, qa3, Sz3, Nz3, Ha3, Ga3⟩ := V_b2
  have hin3 : ¬ ((0 : Int32) < 0 ∨ cl3.slots.size ≤ ((0 : Int32)).toNatClampNeg) := inb_of Sz3 ⟨by decide, by decide⟩
  obtain ⟨T4, h4, X4, e4, W4, st4⟩ := stB X2 hx hZ e2 Ar3 (j := (0 : Int32)) hin3 (g := (mkF m 7 #[.val (.int p0)] [(.int (p0.toInt8.toInt32)), (.int (0 : Int32)), (.ref b2), (.ref b2)])) rfl rfl (hb hby d14_7)
  refine Go.step st4 ?_
  have N4 := Fr.snoc X4 N0 g_b2
  have V_b2_q4 := Arv.set Ar3 qa3 Sz3 Nz3 Ha3 Ga3 (fits_nar_byte _) W4 0 rfl (Nat.le_of_ble_eq_true rfl)
  have V_b2_q4 : Arv Z h4 b2 k2 .byte (1 : Int32) [(.int (nar .byte (p0.toInt8.toInt32)))] (.int (0 : Int32)) := V_b2_q4
  have Z4 : n0 ≤ h4.size := by rw [W4.size]; exact Z2
  have K4 : Keep h0 h4 [] := K2.wr W4 (Or.inr sz_b2)
  show Go p e below T4 (mkF m 8 #[.val (.int p0)] [(.ref b2)]) _
  refine Go.retA X4 hx hret rfl rfl hlk (hb hby d14_8) ?_ (by decide) (by decide)
  rw [e4]
  exact ⟨_, rfl, N4, K4⟩
theorem d15_0 : decode jdk_42_method_151_code 0 = .ok (.aload_n 0, 1) := by decide +kernel
theorem d15_1 : decode jdk_42_method_151_code 1 = .ok (.invokespecial 1, 3) := by decide +kernel
theorem d15_4 : decode jdk_42_method_151_code 4 = .ok (.aload_n 0, 1) := by decide +kernel
theorem d15_5 : decode jdk_42_method_151_code 5 = .ok (.aload_n 1, 1) := by decide +kernel
theorem d15_6 : decode jdk_42_method_151_code 6 = .ok (.putfield 9, 3) := by decide +kernel
theorem d15_9 : decode jdk_42_method_151_code 9 = .ok (.aload_n 0, 1) := by decide +kernel
theorem d15_10 : decode jdk_42_method_151_code 10 = .ok (.iload_n 2, 1) := by decide +kernel
theorem d15_11 : decode jdk_42_method_151_code 11 = .ok (.putfield 15, 3) := by decide +kernel
theorem d15_14 : decode jdk_42_method_151_code 14 = .ok (.return_, 1) := by decide +kernel
theorem pn_2 : plainName "java/lang/String" = true := by first | (simp [plainName, overriddenIn]; done) | decide +kernel
theorem ef_rmSi (m : MethodId) (x0 : Addr) (x1 : Addr) (x2 : Int32) : entryFrame m #[(.ref x0), (.ref x1), (.int x2)] 3 = mkF m 0 #[.val (.ref x0), .val (.ref x1), .val (.int x2)] [] := by first | (simp [entryFrame, mkF, argsToLocals, Value.category]; done) | rfl
def QSi (Z : State) (a1 a2 : Addr) (p3 : Int32) (h0 : Heap) (n0 : Nat) (v : Option Value) (h : Heap) (L : List Loc) : Prop := v = none ∧ Fr n0 L ∧ Keep h0 h [a1]
set_option maxRecDepth 65536 in
set_option maxHeartbeats 40000000 in
theorem rmSi (l : Launch) (Z : State) (a0 : Array Value) (hw : ∀ d ∈ tables_1, d.before a0 Z = true) (ws : List Jvm.Cond) (a1 a2 : Addr) (p3 : Int32) (h0 : Heap) (n0 : Nat) (Z0 : n0 ≤ h0.size) (E1 : Exa Z h0 a1 "java/lang/String") (F_value : Fld Z h0 a1 "java/lang/String" "value" "[B" .null) (F_coder : Fld Z h0 a1 "java/lang/String" "coder" "B" (.int (0 : Int32))) (g1 : n0 ≤ a1) :
    MetFree l (⟨"java/lang/String", "<init>", "([BB)V"⟩ : MethodName) (head1 (Jvm.Cond.code (⟨"java/lang/String", "<init>", "([BB)V"⟩ : MethodName) jdk_42_method_151_code 3 none :: ws) ({ frames := 1, cells := 0, slots := 0, locals := 12 } : Room)) (fun as' U => as' = #[(.ref a1), (.ref a2), (.int p3)] ∧ Z.Warmed39 U.vm ∧ U.heap = h0) (fun _ _ _ _ _ => True) (fun _ U o U' => ∃ v L, o = .returned v ∧ QSi Z a1 a2 p3 h0 n0 v U'.heap L ∧ FrameEnd U o U' L ({ frames := 1, cells := 0, slots := 0, locals := 12 } : Room).cells ({ frames := 1, cells := 0, slots := 0, locals := 12 } : Room).slots) := by
  refine MetFree.of_bodySF (plainFor_of_name pn_2) hisR ?_
  intro p e s m args below meth c s₁ Bd hml0 hP hK
  obtain ⟨rfl, hZ, hh⟩ := hP
  have hx := Bd.exec
  have hby := Bd.bytes
  have hml : c.maxLocals = 3 := hml0
  have hown : s.vm.findClass "java/lang/String" = some m.cls := findClass_of_methodNamed Bd.named
  have hnm := (name_of_methodNamed Bd.named Bd.method).1
  have hlk : meth.locks = false := Bd.notSynchronized
  have hret := Bd.returns
  have X0 : Stand p l e ({ frames := 1, cells := 0, slots := 0, locals := 12 } : Room) s m #[(.ref a1), (.ref a2), (.int p3)] below meth c s₁ [] 0 0 := Stand.of_body Bd
  have e0 : s₁.heap = h0 := by rw [← hh, Bd.state]; rfl
  have N0 := Fr.nil n0
  show Go p e below s₁ (entryFrame m #[(.ref a1), (.ref a2), (.int p3)] 3) (Fin s (QSi Z a1 a2 p3 h0 n0) ({ frames := 1, cells := 0, slots := 0, locals := 12 } : Room).cells ({ frames := 1, cells := 0, slots := 0, locals := 12 } : Room).slots)
  rw [ef_rmSi]
  show Go p e below s₁ (mkF m 0 #[.val (.ref a1), .val (.ref a2), .val (.int p3)] []) _
  refine Go.step (fun _ => XS.aloadN X0.here hx rfl (hb hby d15_0) rfl rfl ) ?_
  show Go p e below s₁ (mkF m 1 #[.val (.ref a1), .val (.ref a2), .val (.int p3)] [(.ref a1)]) _
  obtain ⟨T5, X5, e5, st5⟩ := initO X0 hx hZ hown (hw _ (List.mem_of_getElem? (i := 72) rfl)) (hw _ (List.mem_of_getElem? (i := 24) rfl)) (hw _ (List.mem_of_getElem? (i := 25) rfl)) e0 (g := (mkF m 1 #[.val (.ref a1), .val (.ref a2), .val (.int p3)] [(.ref a1)])) rfl (by rw [hml]; rfl) rfl (hb hby d15_1) (by decide) (W := 0) (by show 2 * 0 + _ ≤ _; exact Nat.le_of_eq rfl) (by decide)
  refine Go.step st5 ?_
  show Go p e below T5 (mkF m 4 #[.val (.ref a1), .val (.ref a2), .val (.int p3)] []) _
  refine Go.step (fun _ => XS.aloadN X5.here hx rfl (hb hby d15_4) rfl rfl ) ?_
  show Go p e below T5 (mkF m 5 #[.val (.ref a1), .val (.ref a2), .val (.int p3)] [(.ref a1)]) _
  refine Go.step (fun _ => XS.aloadN X5.here hx rfl (hb hby d15_5) rfl rfl ) ?_
  show Go p e below T5 (mkF m 6 #[.val (.ref a1), .val (.ref a2), .val (.int p3)] [(.ref a2), (.ref a1)]) _
  obtain ⟨T6, h6, X6, e6, W6, st6⟩ := putF X5 hx hZ hown (host := "") (Or.inl (hw _ (List.mem_of_getElem? (i := 85) rfl))) Via.refl e5 F_value E1 (Or.inr ⟨(hw _ (List.mem_of_getElem? (i := 11) rfl)), rfl, hnm⟩) (hw _ (List.mem_of_getElem? (i := 9) rfl)) (ty := (.array .byte)) (by decide) rfl rfl (g := (mkF m 6 #[.val (.ref a1), .val (.ref a2), .val (.int p3)] [(.ref a2), (.ref a1)])) rfl rfl (hb hby d15_6)
  refine Go.step st6 ?_
  have N6 := Fr.snoc X6 N0 g1
  have F_value_a1_q6 := F_value.same W6
  have E1_q6 := E1.wr W6
  have F_coder_q6 := F_coder.other W6 (Or.inr (slot_ne (Or.inr (hw _ (List.mem_of_getElem? (i := 12) rfl))) (Or.inr (hw _ (List.mem_of_getElem? (i := 11) rfl))) (by decide) (t := .byte) (t' := (.array .byte)) (by decide) (by decide)))
  have Z6 : n0 ≤ h6.size := by rw [W6.size]; exact Z0
  have K6 : Keep h0 h6 [a1] := (Keep.refl h0 [a1]).wr W6 (Or.inl (List.mem_of_getElem? (i := 0) rfl))
  show Go p e below T6 (mkF m 9 #[.val (.ref a1), .val (.ref a2), .val (.int p3)] []) _
  refine Go.step (fun _ => XS.aloadN X6.here hx rfl (hb hby d15_9) rfl rfl ) ?_
  show Go p e below T6 (mkF m 10 #[.val (.ref a1), .val (.ref a2), .val (.int p3)] [(.ref a1)]) _
  refine Go.step (fun _ => XS.iloadN X6.here hx rfl (hb hby d15_10) rfl ) ?_
  show Go p e below T6 (mkF m 11 #[.val (.ref a1), .val (.ref a2), .val (.int p3)] [(.int p3), (.ref a1)]) _
  obtain ⟨T7, h7, X7, e7, W7, st7⟩ := putFN X6 hx hZ hown (hw _ (List.mem_of_getElem? (i := 84) rfl)) Via.refl e6 F_coder_q6 E1_q6 (Or.inr ⟨(hw _ (List.mem_of_getElem? (i := 12) rfl)), rfl, hnm⟩) (hw _ (List.mem_of_getElem? (i := 9) rfl)) (ty := .byte) (v' := .int (nar .byte p3)) (by decide) rfl (fits_nar_byte _) (g := (mkF m 11 #[.val (.ref a1), .val (.ref a2), .val (.int p3)] [(.int p3), (.ref a1)])) rfl rfl (hb hby d15_11)
  refine Go.step st7 ?_
  have N7 := Fr.snoc X7 N6 g1
  have F_coder_a1_q7 := F_coder_q6.same W7
  have E1_q7 := E1_q6.wr W7
  have F_value_a1_q7 := F_value_a1_q6.other W7 (Or.inr (slot_ne (Or.inr (hw _ (List.mem_of_getElem? (i := 11) rfl))) (Or.inr (hw _ (List.mem_of_getElem? (i := 12) rfl))) (by decide) (t := (.array .byte)) (t' := .byte) (by decide) (by decide)))
  have Z7 : n0 ≤ h7.size := by rw [W7.size]; exact Z6
  have K7 : Keep h0 h7 [a1] := K6.wr W7 (Or.inl (List.mem_of_getElem? (i := 0) rfl))
  show Go p e below T7 (mkF m 14 #[.val (.ref a1), .val (.ref a2), .val (.int p3)] []) _
  refine Go.ret0 X7 hx hret hlk (hb hby d15_14) ?_ (by decide) (by decide)
  rw [e7]
  exact ⟨rfl, N7, K7⟩
theorem d12_0 : decode jdk_42_method_139_code 0 = .ok (.getstatic 38, 3) := by decide +kernel
theorem d12_3 : decode jdk_42_method_139_code 3 = .ok (.ifCond .eq 23, 3) := by decide +kernel
theorem d12_6 : decode jdk_42_method_139_code 6 = .ok (.iload_n 0, 1) := by decide +kernel
theorem d12_7 : decode jdk_42_method_139_code 7 = .ok (.invokestatic 1015, 3) := by decide +kernel
theorem d12_10 : decode jdk_42_method_139_code 10 = .ok (.ifCond .eq 16, 3) := by decide +kernel
theorem d12_13 : decode jdk_42_method_139_code 13 = .ok (.new 10, 3) := by decide +kernel
theorem d12_16 : decode jdk_42_method_139_code 16 = .ok (.dup, 1) := by decide +kernel
theorem d12_17 : decode jdk_42_method_139_code 17 = .ok (.iload_n 0, 1) := by decide +kernel
theorem d12_18 : decode jdk_42_method_139_code 18 = .ok (.invokestatic 1018, 3) := by decide +kernel
theorem d12_21 : decode jdk_42_method_139_code 21 = .ok (.iconst 0, 1) := by decide +kernel
theorem d12_22 : decode jdk_42_method_139_code 22 = .ok (.invokespecial 209, 3) := by decide +kernel
theorem d12_25 : decode jdk_42_method_139_code 25 = .ok (.areturn, 1) := by decide +kernel
theorem d12_26 : decode jdk_42_method_139_code 26 = .ok (.new 10, 3) := by decide +kernel
theorem d12_29 : decode jdk_42_method_139_code 29 = .ok (.dup, 1) := by decide +kernel
theorem d12_30 : decode jdk_42_method_139_code 30 = .ok (.iload_n 0, 1) := by decide +kernel
theorem d12_31 : decode jdk_42_method_139_code 31 = .ok (.invokestatic 1021, 3) := by decide +kernel
theorem d12_34 : decode jdk_42_method_139_code 34 = .ok (.iconst 1, 1) := by decide +kernel
theorem d12_35 : decode jdk_42_method_139_code 35 = .ok (.invokespecial 209, 3) := by decide +kernel
theorem d12_38 : decode jdk_42_method_139_code 38 = .ok (.areturn, 1) := by decide +kernel
theorem pd_0 : parseMethodDescriptor "(C)Z" = some ⟨[.char], some .boolean⟩ := by decide +kernel
theorem pd_1 : parseMethodDescriptor "(C)[B" = some ⟨[.char], some (.array .byte)⟩ := by decide +kernel
theorem pd_2 : parseMethodDescriptor "([BB)V" = some ⟨[(.array .byte), .byte], none⟩ := by decide +kernel
theorem ef_rmVo (m : MethodId) (x0 : Int32) : entryFrame m #[(.int x0)] 1 = mkF m 0 #[.val (.int x0)] [] := by first | (simp [entryFrame, mkF, argsToLocals, Value.category]; done) | rfl
def QVo (Z : State) (p0 : Int32) (G : Int32) (h0 : Heap) (n0 : Nat) (v : Option Value) (h : Heap) (L : List Loc) : Prop := ∃ b, v = some (.ref b) ∧ Fr n0 L ∧ Keep h0 h []
set_option maxRecDepth 65536 in
set_option maxHeartbeats 40000000 in
theorem rmVo (l : Launch) (Z : State) (a0 : Array Value) (hw : ∀ d ∈ tables_1, d.before a0 Z = true) (ws : List Jvm.Cond) (p0 : Int32) (G : Int32) (h0 : Heap) (n0 : Nat) (Z0 : n0 ≤ h0.size) (P3 : ¬ G = (0 : Int32)) (O2 : Sta Z h0 "java/lang/String" "COMPACT_STRINGS" "Z" (.int G)) (hp : ¬ (255 : Int32) < p0) :
    MetFree l (⟨"java/lang/String", "valueOf", "(C)Ljava/lang/String;"⟩ : MethodName) (head1 (Jvm.Cond.code (⟨"java/lang/String", "valueOf", "(C)Ljava/lang/String;"⟩ : MethodName) jdk_42_method_139_code 1 (some (.object "java/lang/String")) :: ws) ({ frames := 2, cells := 2, slots := 5, locals := 30 } : Room)) (fun as' U => as' = #[(.int p0)] ∧ Z.Warmed39 U.vm ∧ U.heap = h0) (fun _ _ _ _ _ => True) (fun _ U o U' => ∃ v L, o = .returned v ∧ QVo Z p0 G h0 n0 v U'.heap L ∧ FrameEnd U o U' L ({ frames := 2, cells := 2, slots := 5, locals := 30 } : Room).cells ({ frames := 2, cells := 2, slots := 5, locals := 30 } : Room).slots) := by
  refine MetFree.of_bodySF (plainFor_of_name pn_2) hisR ?_
  intro p e s m args below meth c s₁ Bd hml0 hP hK
  obtain ⟨rfl, hZ, hh⟩ := hP
  have hx := Bd.exec
  have hby := Bd.bytes
  have hml : c.maxLocals = 1 := hml0
  have hown : s.vm.findClass "java/lang/String" = some m.cls := findClass_of_methodNamed Bd.named
  have hnm := (name_of_methodNamed Bd.named Bd.method).1
  have hlk : meth.locks = false := Bd.notSynchronized
  have hret := Bd.returns
  have X0 : Stand p l e ({ frames := 2, cells := 2, slots := 5, locals := 30 } : Room) s m #[(.int p0)] below meth c s₁ [] 0 0 := Stand.of_body Bd
  have e0 : s₁.heap = h0 := by rw [← hh, Bd.state]; rfl
  have N0 := Fr.nil n0
  show Go p e below s₁ (entryFrame m #[(.int p0)] 1) (Fin s (QVo Z p0 G h0 n0) ({ frames := 2, cells := 2, slots := 5, locals := 30 } : Room).cells ({ frames := 2, cells := 2, slots := 5, locals := 30 } : Room).slots)
  rw [ef_rmVo]
  show Go p e below s₁ (mkF m 0 #[.val (.int p0)] []) _
  obtain ⟨T8, X8, e8, st8⟩ := getS2 X0 hx hZ hown (host := "") (Or.inl (hw _ (List.mem_of_getElem? (i := 73) rfl))) Via.refl e0 O2 (g := (mkF m 0 #[.val (.int p0)] [])) rfl (hb hby d12_0)
  refine Go.step st8 ?_
  show Go p e below T8 (mkF m 3 #[.val (.int p0)] [(.int G)]) _
  refine Go.step (fun _ => XS.ifNo X8.here hx rfl (hb hby d12_3) rfl ((if0 _ _).trans (feq P3).1)) ?_
  show Go p e below T8 (mkF m 6 #[.val (.int p0)] []) _
  refine Go.step (fun _ => XS.iloadN X8.here hx rfl (hb hby d12_6) rfl ) ?_
  show Go p e below T8 (mkF m 7 #[.val (.int p0)] [(.int p0)]) _
  obtain ⟨_, _, ⟨T9, L9, k9, n9⟩, -, X9, ⟨Lc9, hQ9, l9, y9, z9⟩, st9⟩ := Jvm.LawKit.callS X8 hx (y := (⟨"java/lang/StringLatin1", "canEncode", "(C)Z"⟩ : MethodName)) hown (mvT hZ (hw _ (List.mem_of_getElem? (i := 89) rfl))) (mvT hZ (hw _ (List.mem_of_getElem? (i := 90) rfl))) (mvT hZ (hw _ (List.mem_of_getElem? (i := 91) rfl))) (mvT hZ (hw _ (List.mem_of_getElem? (i := 92) rfl))) (by decide) (backOf (W := 0) (rmEnc l Z a0 hw [] p0 h0 n0 Z0 hp) hZ (hw _ (List.mem_of_getElem? (i := 92) rfl)) (hw _ (List.mem_of_getElem? (i := 91) rfl)) (by decide) (by decide)) (g := (mkF m 7 #[.val (.int p0)] [(.int p0)])) rfl (by rw [hml]; rfl) (argsL := [(.int p0)]) (rest := []) (lenOf pd_0 rfl) rfl (by show 2 * 0 + _ ≤ _; exact Nat.le_of_eq rfl) (hb hby d12_7) (fun _ _ => ⟨rfl, e8, (by decide : 0 + 0 ≤ _), (by decide : 0 + 0 ≤ _)⟩)
  dsimp only [Pt.U, Pt.locs, Pt.cells, Pt.slots] at X9 l9 y9 z9 st9 hQ9
  subst l9 y9 z9
  obtain ⟨rfl, Nq9, eh9⟩ := hQ9
  have N9 := Fr.app N0 Nq9
  refine Go.step st9 ?_
  show Go p e below T9 (mkF m 10 #[.val (.int p0)] [(.int (1 : Int32))]) _
  refine Go.step (fun _ => XS.ifNo X9.here hx rfl (hb hby d12_10) rfl ((if0 _ _).trans (feq (by decide)).1)) ?_
  show Go p e below T9 (mkF m 13 #[.val (.int p0)] []) _
  obtain ⟨T10, h10, X10, e10, E10, A10, D10, -, st10⟩ := newO X9 hx hZ hown (hw _ (List.mem_of_getElem? (i := 93) rfl)) (hw _ (List.mem_of_getElem? (i := 9) rfl)) (hw _ (List.mem_of_getElem? (i := 8) rfl)) eh9 (g := (mkF m 13 #[.val (.int p0)] [])) rfl (hb hby d12_13) (by decide) (by decide)
  obtain ⟨b10, g10⟩ : ∃ z, z = h0.size := ⟨_, rfl⟩
  rw [← g10] at A10 D10 st10
  have g_b10 : n0 ≤ b10 := Nat.le_trans Z0 (Nat.le_of_eq g10.symm)
  have sz_b10 : h0.size ≤ b10 := Nat.le_trans (Keep.refl h0 []).1 (Nat.le_of_eq g10.symm)
  have O2_q10 := O2.ext E10
  have Z10 : n0 ≤ h10.size := Nat.le_trans Z0 E10.1
  have K10 : Keep h0 h10 [] := (Keep.refl h0 []).ext E10
  refine Go.step st10 ?_
  have F_value_b10 : Fld Z h10 b10 "java/lang/String" "value" "[B" .null := D10 (Or.inr (hw _ (List.mem_of_getElem? (i := 11) rfl))) (ty := (.array .byte)) (by decide)
  have F_coder_b10 : Fld Z h10 b10 "java/lang/String" "coder" "B" (.int (0 : Int32)) := D10 (Or.inr (hw _ (List.mem_of_getElem? (i := 12) rfl))) (ty := .byte) (by decide)
  show Go p e below T10 (mkF m 16 #[.val (.int p0)] [(.ref b10)]) _
  refine Go.step (fun _ => XS.dup X10.here hx rfl (hb hby d12_16) rfl rfl) ?_
  show Go p e below T10 (mkF m 17 #[.val (.int p0)] [(.ref b10), (.ref b10)]) _
  refine Go.step (fun _ => XS.iloadN X10.here hx rfl (hb hby d12_17) rfl ) ?_
  show Go p e below T10 (mkF m 18 #[.val (.int p0)] [(.int p0), (.ref b10), (.ref b10)]) _
  obtain ⟨_, _, ⟨T11, L11, k11, n11⟩, -, X11, ⟨Lc11, hQ11, l11, y11, z11⟩, st11⟩ := Jvm.LawKit.callS X10 hx (y := (⟨"java/lang/StringLatin1", "toBytes", "(C)[B"⟩ : MethodName)) hown (mvT hZ (hw _ (List.mem_of_getElem? (i := 94) rfl))) (mvT hZ (hw _ (List.mem_of_getElem? (i := 95) rfl))) (mvT hZ (hw _ (List.mem_of_getElem? (i := 91) rfl))) (mvT hZ (hw _ (List.mem_of_getElem? (i := 96) rfl))) (by decide) (backOf (W := 2) (rmTB l Z a0 hw [] p0 h10 n0 Z10) hZ (hw _ (List.mem_of_getElem? (i := 96) rfl)) (hw _ (List.mem_of_getElem? (i := 91) rfl)) (by decide) (by decide)) (g := (mkF m 18 #[.val (.int p0)] [(.int p0), (.ref b10), (.ref b10)])) rfl (by rw [hml]; rfl) (argsL := [(.int p0)]) (rest := [(.ref b10), (.ref b10)]) (lenOf pd_1 rfl) rfl (by show 2 * 0 + _ ≤ _; exact Nat.le_of_eq rfl) (hb hby d12_18) (fun _ _ => ⟨rfl, e10, (by decide : 0 + 0 + 1 + 1 ≤ _), (by decide : 0 + 0 + 4 + 1 ≤ _)⟩)
  dsimp only [Pt.U, Pt.locs, Pt.cells, Pt.slots] at X11 l11 y11 z11 st11 hQ11
  subst l11 y11 z11
  obtain ⟨x11, rfl, Nq11, K11⟩ := hQ11
  have N11 := Fr.app N9 Nq11
  refine Go.step st11 ?_
  have O2_q11 := own_staKeep O2_q10 K11 all0
  have A10_q11 := A10.keep K11
  have F_value_b10_q11 := F_value_b10.keep K11 nin0
  have F_coder_b10_q11 := F_coder_b10.keep K11 nin0
  have Z11 : n0 ≤ T11.heap.size := Nat.le_trans Z10 K11.1
  have K11 : Keep h0 T11.heap [] := K10.trans K11 all0
  show Go p e below T11 (mkF m 21 #[.val (.int p0)] [(.ref x11), (.ref b10), (.ref b10)]) _
  refine Go.step (fun _ => XS.iconst X11.here hx rfl (hb hby d12_21)) ?_
  show Go p e below T11 (mkF m 22 #[.val (.int p0)] [(.int (0 : Int32)), (.ref x11), (.ref b10), (.ref b10)]) _
  obtain ⟨_, _, ⟨T12, L12, k12, n12⟩, -, X12, ⟨Lc12, hQ12, l12, y12, z12⟩, st12⟩ := X11.specialBack hx (y := (⟨"java/lang/String", "<init>", "([BB)V"⟩ : MethodName)) rfl hown (mvT hZ (hw _ (List.mem_of_getElem? (i := 97) rfl))) (mvT hZ (hw _ (List.mem_of_getElem? (i := 98) rfl))) (mvT hZ (hw _ (List.mem_of_getElem? (i := 99) rfl))) (by decide) (backOf (W := 1) (rmSi l Z a0 hw [] b10 x11 (0 : Int32) T11.heap n0 Z11 A10_q11 F_value_b10_q11 F_coder_b10_q11 g_b10) hZ (hw _ (List.mem_of_getElem? (i := 99) rfl)) (hw _ (List.mem_of_getElem? (i := 8) rfl)) (by decide) (by decide)) (g := (mkF m 22 #[.val (.int p0)] [(.int (0 : Int32)), (.ref x11), (.ref b10), (.ref b10)])) rfl (by rw [hml]; rfl) (Steps.refl _) (a := b10) (argsL := [(.ref x11), (.int (0 : Int32))]) (rest := [(.ref b10)]) (lenOf pd_2 rfl) rfl (by show 2 * 0 + _ ≤ _; exact Nat.le_of_eq rfl) (hb hby d12_22) (fun _ _ => ⟨rfl, rfl, (by decide : 0 + 0 + 1 + 1 + 0 ≤ _), (by decide : 0 + 0 + 4 + 1 + 0 ≤ _)⟩)
  dsimp only [Pt.U, Pt.locs, Pt.cells, Pt.slots] at X12 l12 y12 z12 st12 hQ12
  subst l12 y12 z12
  obtain ⟨rfl, Nq12, K12⟩ := hQ12
  have N12 := Fr.app N11 Nq12
  refine Go.call st12 ?_
  have O2_q12 := own_staKeep O2_q11 K12 (allS (own_plainE A10_q11) all0)
  have A10_q12 := A10_q11.keep K12
  have Z12 : n0 ≤ T12.heap.size := Nat.le_trans Z11 K12.1
  have K12 : Keep h0 T12.heap [] := K11.trans K12 (allS (Or.inr sz_b10) all0)
  show Go p e below T12 (mkF m 25 #[.val (.int p0)] [(.ref b10)]) _
  refine Go.retA X12 hx hret rfl rfl hlk (hb hby d12_25) ?_ (by decide) (by decide)
  exact ⟨_, rfl, N12, K12⟩
theorem d1_0 : decode method_2_code 0 = .ok (.iload_n 0, 1) := by decide +kernel
theorem d1_1 : decode method_2_code 1 = .ok (.ifCond .ne 5, 3) := by decide +kernel
theorem d1_4 : decode method_2_code 4 = .ok (.aconst_null, 1) := by decide +kernel
theorem d1_5 : decode method_2_code 5 = .ok (.areturn, 1) := by decide +kernel
theorem d1_6 : decode method_2_code 6 = .ok (.iload_n 0, 1) := by decide +kernel
theorem d1_7 : decode method_2_code 7 = .ok (.iconst 1, 1) := by decide +kernel
theorem d1_8 : decode method_2_code 8 = .ok (.if_icmp .ne 6, 3) := by decide +kernel
theorem d1_11 : decode method_2_code 11 = .ok (.ldc 7, 2) := by decide +kernel
theorem d1_13 : decode method_2_code 13 = .ok (.areturn, 1) := by decide +kernel
theorem d1_14 : decode method_2_code 14 = .ok (.iload_n 0, 1) := by decide +kernel
theorem d1_15 : decode method_2_code 15 = .ok (.iconst 2, 1) := by decide +kernel
theorem d1_16 : decode method_2_code 16 = .ok (.if_icmp .ne 6, 3) := by decide +kernel
theorem d1_19 : decode method_2_code 19 = .ok (.ldc 9, 2) := by decide +kernel
theorem d1_21 : decode method_2_code 21 = .ok (.areturn, 1) := by decide +kernel
theorem d1_22 : decode method_2_code 22 = .ok (.iconst 2, 1) := by decide +kernel
theorem d1_23 : decode method_2_code 23 = .ok (.newarray .char, 2) := by decide +kernel
theorem d1_25 : decode method_2_code 25 = .ok (.dup, 1) := by decide +kernel
theorem d1_26 : decode method_2_code 26 = .ok (.iconst 0, 1) := by decide +kernel
theorem d1_27 : decode method_2_code 27 = .ok (.iload_n 1, 1) := by decide +kernel
theorem d1_28 : decode method_2_code 28 = .ok (.sipush 255, 3) := by decide +kernel
theorem d1_31 : decode method_2_code 31 = .ok (.iand, 1) := by decide +kernel
theorem d1_32 : decode method_2_code 32 = .ok (.i2c, 1) := by decide +kernel
theorem d1_33 : decode method_2_code 33 = .ok (.castore, 1) := by decide +kernel
theorem d1_34 : decode method_2_code 34 = .ok (.dup, 1) := by decide +kernel
theorem d1_35 : decode method_2_code 35 = .ok (.iconst 1, 1) := by decide +kernel
theorem d1_36 : decode method_2_code 36 = .ok (.iload_n 2, 1) := by decide +kernel
theorem d1_37 : decode method_2_code 37 = .ok (.sipush 255, 3) := by decide +kernel
theorem d1_40 : decode method_2_code 40 = .ok (.iand, 1) := by decide +kernel
theorem d1_41 : decode method_2_code 41 = .ok (.i2c, 1) := by decide +kernel
theorem d1_42 : decode method_2_code 42 = .ok (.castore, 1) := by decide +kernel
theorem d1_43 : decode method_2_code 43 = .ok (.astore_n 3, 1) := by decide +kernel
theorem d1_44 : decode method_2_code 44 = .ok (.new 11, 3) := by decide +kernel
theorem d1_47 : decode method_2_code 47 = .ok (.dup, 1) := by decide +kernel
theorem d1_48 : decode method_2_code 48 = .ok (.aload_n 3, 1) := by decide +kernel
theorem d1_49 : decode method_2_code 49 = .ok (.invokespecial 13, 3) := by decide +kernel
theorem d1_52 : decode method_2_code 52 = .ok (.areturn, 1) := by decide +kernel
theorem pn_3 : plainName "org/linkweave/core/TermDefinitionDirectionPinLaw" = true := by first | (simp [plainName, overriddenIn]; done) | decide +kernel
theorem pd_3 : parseMethodDescriptor "([C)V" = some ⟨[(.array .char)], none⟩ := by decide +kernel
theorem ef_rmPick (m : MethodId) (x0 : Int32) (x1 : Int32) (x2 : Int32) : entryFrame m #[(.int x0), (.int x1), (.int x2)] 4 = mkF m 0 #[.val (.int x0), .val (.int x1), .val (.int x2), .unset] [] := by first | (simp [entryFrame, mkF, argsToLocals, Value.category]; done) | rfl
def QPick (Z : State) (p0 p1 p2 : Int32) (G : Int32) (h0 : Heap) (n0 : Nat) (v : Option Value) (h : Heap) (L : List Loc) : Prop := ∃ r, v = some r ∧ Fr n0 L ∧ Keep h0 h [] ∧ r.isRef = true
set_option maxRecDepth 65536 in
set_option maxHeartbeats 40000000 in
theorem rmPick (l : Launch) (Z : State) (a0 : Array Value) (hw : ∀ d ∈ tables_1, d.before a0 Z = true) (ws : List Jvm.Cond) (p0 p1 p2 : Int32) (G : Int32) (h0 : Heap) (n0 : Nat) (Z0 : n0 ≤ h0.size) (P3 : ¬ G = (0 : Int32)) (O2 : Sta Z h0 "java/lang/String" "COMPACT_STRINGS" "Z" (.int G)) :
    MetFree l (⟨"org/linkweave/core/TermDefinitionDirectionPinLaw", "pick", "(III)Ljava/lang/String;"⟩ : MethodName) (head1 (Jvm.Cond.code (⟨"org/linkweave/core/TermDefinitionDirectionPinLaw", "pick", "(III)Ljava/lang/String;"⟩ : MethodName) method_2_code 4 (some (.object "java/lang/String")) :: ws) ({ frames := 5, cells := 3, slots := 16, locals := 80 } : Room)) (fun as' U => as' = #[(.int p0), (.int p1), (.int p2)] ∧ Z.Warmed39 U.vm ∧ U.heap = h0) (fun _ _ _ _ _ => True) (fun _ U o U' => ∃ v L, o = .returned v ∧ QPick Z p0 p1 p2 G h0 n0 v U'.heap L ∧ ReturnedEndW U o U' L ({ frames := 5, cells := 3, slots := 16, locals := 80 } : Room).cells ({ frames := 5, cells := 3, slots := 16, locals := 80 } : Room).slots) := by
  refine MetFree.of_bodySF (plainFor_of_name pn_3) hisR ?_
  intro p e s m args below meth c s₁ Bd hml0 hP hK
  obtain ⟨rfl, hZ, hh⟩ := hP
  have hx := Bd.exec
  have hby := Bd.bytes
  have hml : c.maxLocals = 4 := hml0
  have hown : s.vm.findClass "org/linkweave/core/TermDefinitionDirectionPinLaw" = some m.cls := findClass_of_methodNamed Bd.named
  have hnm := (name_of_methodNamed Bd.named Bd.method).1
  have hlk : meth.locks = false := Bd.notSynchronized
  have hret := Bd.returns
  have X0 : Stand p l e ({ frames := 5, cells := 3, slots := 16, locals := 80 } : Room) (s.setVm s.vm) m #[(.int p0), (.int p1), (.int p2)] below meth c s₁ [] 0 0 := Stand.of_body Bd
  have e0 : s₁.heap = h0 := by rw [← hh, Bd.state]; rfl
  have N0 := Fr.nil n0
  have hS0 : s.Since s.vm h0.size := (State.WarmedH.refl s).since _
  have hk0 := Nat.le_refl h0.size
  have wStr : ∀ a ∈ Bundle.stringAtoms, a.before a0 Z = true := fun d hd => hw d ((by decide +kernel : ∀ d ∈ Bundle.stringAtoms, d ∈ tables_1) d hd)
  show Go p e below s₁ (entryFrame m #[(.int p0), (.int p1), (.int p2)] 4) (FinW s (QPick Z p0 p1 p2 G h0 n0) ({ frames := 5, cells := 3, slots := 16, locals := 80 } : Room).cells ({ frames := 5, cells := 3, slots := 16, locals := 80 } : Room).slots)
  rw [ef_rmPick]
  have hws : ∀ d ∈ StrChars.Road.words, d.before a0 Z = true := fun d hd => hw d ((by decide +kernel : ∀ d ∈ StrChars.Road.words, d ∈ tables_1) d hd)
  show Go p e below s₁ (mkF m 0 #[.val (.int p0), .val (.int p1), .val (.int p2), .unset] []) _
  refine Go.step (fun _ => XS.iloadN X0.here hx rfl (hb hby d1_0) rfl ) ?_
  show Go p e below s₁ (mkF m 1 #[.val (.int p0), .val (.int p1), .val (.int p2), .unset] [(.int p0)]) _
  by_cases hc1 : p0 = (0 : Int32)
  · skip
    refine Go.step (fun _ => XS.ifNo X0.here hx rfl (hb hby d1_1) rfl ((if0 _ _).trans (teq hc1).2)) ?_
    show Go p e below s₁ (mkF m 4 #[.val (.int p0), .val (.int p1), .val (.int p2), .unset] []) _
    refine Go.step (fun _ => XS.aconstNull X0.here hx rfl (hb hby d1_4)) ?_
    show Go p e below s₁ (mkF m 5 #[.val (.int p0), .val (.int p1), .val (.int p2), .unset] [.null]) _
    refine Go.retAW X0 hS0 (by rw [e0]; exact hk0) hx hret rfl rfl hlk (hb hby d1_5) ?_ (by decide) (by decide)
    rw [e0]
    exact ⟨_, rfl, N0, (Keep.refl h0 []), rfl⟩
  · skip
    refine Go.step (fun _ => XS.ifYes X0.here hx rfl (pc0 := 1) (pc' := 6) rfl (hb hby d1_1) rfl ((if0 _ _).trans (feq hc1).2) (by decide) (by decide)) ?_
    show Go p e below s₁ (mkF m 6 #[.val (.int p0), .val (.int p1), .val (.int p2), .unset] []) _
    refine Go.step (fun _ => XS.iloadN X0.here hx rfl (hb hby d1_6) rfl ) ?_
    show Go p e below s₁ (mkF m 7 #[.val (.int p0), .val (.int p1), .val (.int p2), .unset] [(.int p0)]) _
    refine Go.step (fun _ => XS.iconst X0.here hx rfl (hb hby d1_7)) ?_
    show Go p e below s₁ (mkF m 8 #[.val (.int p0), .val (.int p1), .val (.int p2), .unset] [(.int (1 : Int32)), (.int p0)]) _
    by_cases hc8 : p0 = (1 : Int32)
    · skip
      refine Go.step (fun _ => XS.icmpNo X0.here hx rfl (hb hby d1_8) rfl (teq hc8).2) ?_
      show Go p e below s₁ (mkF m 11 #[.val (.int p0), .val (.int p1), .val (.int p2), .unset] []) _
      obtain ⟨a13, T13, h13, kk13, X13, e13, E13, hS13, hk13, hZ, hown, st13⟩ := ldcS X0 hx hZ hown (hw _ (List.mem_of_getElem? (i := 62) rfl)) wStr e0 hS0 hk0 (g := (mkF m 11 #[.val (.int p0), .val (.int p1), .val (.int p2), .unset] [])) rfl (hb hby d1_11) (n := 12) (by decide) (by decide) (by decide) (by decide)
      refine Go.step st13 ?_
      have O2_q13 := O2.ext E13
      have Z13 : n0 ≤ h13.size := Nat.le_trans Z0 E13.1
      have K13 : Keep h0 h13 [] := (Keep.refl h0 []).ext E13
      show Go p e below T13 (mkF m 13 #[.val (.int p0), .val (.int p1), .val (.int p2), .unset] [(.ref a13)]) _
      refine Go.retAW X13 hS13 (by rw [e13]; exact hk13) hx hret rfl rfl hlk (hb hby d1_13) ?_ (by decide) (by decide)
      rw [e13]
      exact ⟨_, rfl, N0, K13, rfl⟩
    · skip
      refine Go.step (fun _ => XS.icmpYes X0.here hx rfl (pc0 := 8) (pc' := 14) rfl (hb hby d1_8) rfl (feq hc8).2 (by decide) (by decide)) ?_
      show Go p e below s₁ (mkF m 14 #[.val (.int p0), .val (.int p1), .val (.int p2), .unset] []) _
      refine Go.step (fun _ => XS.iloadN X0.here hx rfl (hb hby d1_14) rfl ) ?_
      show Go p e below s₁ (mkF m 15 #[.val (.int p0), .val (.int p1), .val (.int p2), .unset] [(.int p0)]) _
      refine Go.step (fun _ => XS.iconst X0.here hx rfl (hb hby d1_15)) ?_
      show Go p e below s₁ (mkF m 16 #[.val (.int p0), .val (.int p1), .val (.int p2), .unset] [(.int (2 : Int32)), (.int p0)]) _
      by_cases hc16 : p0 = (2 : Int32)
      · skip
        refine Go.step (fun _ => XS.icmpNo X0.here hx rfl (hb hby d1_16) rfl (teq hc16).2) ?_
        show Go p e below s₁ (mkF m 19 #[.val (.int p0), .val (.int p1), .val (.int p2), .unset] []) _
        obtain ⟨a14, T14, h14, kk14, X14, e14, E14, hS14, hk14, hZ, hown, st14⟩ := ldcS X0 hx hZ hown (hw _ (List.mem_of_getElem? (i := 100) rfl)) wStr e0 hS0 hk0 (g := (mkF m 19 #[.val (.int p0), .val (.int p1), .val (.int p2), .unset] [])) rfl (hb hby d1_19) (n := 12) (by decide) (by decide) (by decide) (by decide)
        refine Go.step st14 ?_
        have O2_q14 := O2.ext E14
        have Z14 : n0 ≤ h14.size := Nat.le_trans Z0 E14.1
        have K14 : Keep h0 h14 [] := (Keep.refl h0 []).ext E14
        show Go p e below T14 (mkF m 21 #[.val (.int p0), .val (.int p1), .val (.int p2), .unset] [(.ref a14)]) _
        refine Go.retAW X14 hS14 (by rw [e14]; exact hk14) hx hret rfl rfl hlk (hb hby d1_21) ?_ (by decide) (by decide)
        rw [e14]
        exact ⟨_, rfl, N0, K14, rfl⟩
      · skip
        refine Go.step (fun _ => XS.icmpYes X0.here hx rfl (pc0 := 16) (pc' := 22) rfl (hb hby d1_16) rfl (feq hc16).2 (by decide) (by decide)) ?_
        show Go p e below s₁ (mkF m 22 #[.val (.int p0), .val (.int p1), .val (.int p2), .unset] []) _
        refine Go.step (fun _ => XS.iconst X0.here hx rfl (hb hby d1_22)) ?_
        show Go p e below s₁ (mkF m 23 #[.val (.int p0), .val (.int p1), .val (.int p2), .unset] [(.int (2 : Int32))]) _
        obtain ⟨T15, h15, k15, X15, e15, E15, A15, st15⟩ := newP X0 hx hZ (hw _ (List.mem_of_getElem? (i := 63) rfl)) e0 (g := (mkF m 23 #[.val (.int p0), .val (.int p1), .val (.int p2), .unset] [(.int (2 : Int32))])) rfl (hb hby d1_23) rfl (by decide) (cap := 2) (by decide) (by decide) (by decide) (by decide)
        obtain ⟨b15, g15⟩ : ∃ z, z = h0.size := ⟨_, rfl⟩
        rw [← g15] at A15 st15
        have g_b15 : n0 ≤ b15 := Nat.le_trans Z0 (Nat.le_of_eq g15.symm)
        have sz_b15 : h0.size ≤ b15 := Nat.le_trans (Keep.refl h0 []).1 (Nat.le_of_eq g15.symm)
        have O2_q15 := O2.ext E15
        have Z15 : n0 ≤ h15.size := Nat.le_trans Z0 E15.1
        have hk15 := Nat.le_trans hk0 E15.1
        have K15 : Keep h0 h15 [] := (Keep.refl h0 []).ext E15
        refine Go.step st15 ?_
        have V_b15 := Arv.new A15 (by decide)
        have V_b15 : Arv Z h15 b15 k15 .char (2 : Int32) [(.int (0 : Int32)), (.int (0 : Int32))] (.int (0 : Int32)) := V_b15.pad (pad_rep [] (.int (0 : Int32)) 2)
        show Go p e below T15 (mkF m 25 #[.val (.int p0), .val (.int p1), .val (.int p2), .unset] [(.ref b15)]) _
        refine Go.step (fun _ => XS.dup X15.here hx rfl (hb hby d1_25) rfl rfl) ?_
        show Go p e below T15 (mkF m 26 #[.val (.int p0), .val (.int p1), .val (.int p2), .unset] [(.ref b15), (.ref b15)]) _
        refine Go.step (fun _ => XS.iconst X15.here hx rfl (hb hby d1_26)) ?_
        show Go p e below T15 (mkF m 27 #[.val (.int p0), .val (.int p1), .val (.int p2), .unset] [(.int (0 : Int32)), (.ref b15), (.ref b15)]) _
        refine Go.step (fun _ => XS.iloadN X15.here hx rfl (hb hby d1_27) rfl ) ?_
        show Go p e below T15 (mkF m 28 #[.val (.int p0), .val (.int p1), .val (.int p2), .unset] [(.int p1), (.int (0 : Int32)), (.ref b15), (.ref b15)]) _
        refine Go.step (fun _ => XS.sipush X15.here hx rfl (hb hby d1_28)) ?_
        show Go p e below T15 (mkF m 31 #[.val (.int p0), .val (.int p1), .val (.int p2), .unset] [(.int (255 : Int32)), (.int p1), (.int (0 : Int32)), (.ref b15), (.ref b15)]) _
        refine Go.step (fun _ => XS.iand X15.here hx rfl (hb hby d1_31) rfl) ?_
        show Go p e below T15 (mkF m 32 #[.val (.int p0), .val (.int p1), .val (.int p2), .unset] [(.int (p1 &&& (255 : Int32))), (.int (0 : Int32)), (.ref b15), (.ref b15)]) _
        refine Go.step (fun _ => XS.i2c X15.here hx rfl (hb hby d1_32) rfl) ?_
        show Go p e below T15 (mkF m 33 #[.val (.int p0), .val (.int p1), .val (.int p2), .unset] [(.int ((p1 &&& (255 : Int32)).toUInt32.toUInt16.toUInt32.toInt32)), (.int (0 : Int32)), (.ref b15), (.ref b15)]) _
        obtain ⟨cl16, Ar16, qa16, Sz16, Nz16, Ha16, Ga16⟩ := V_b15
        have hin16 : ¬ ((0 : Int32) < 0 ∨ cl16.slots.size ≤ ((0 : Int32)).toNatClampNeg) := inb_of Sz16 ⟨by decide, by decide⟩
        obtain ⟨T17, h17, X17, e17, W17, st17⟩ := stC X15 hx hZ e15 Ar16 (j := (0 : Int32)) hin16 (g := (mkF m 33 #[.val (.int p0), .val (.int p1), .val (.int p2), .unset] [(.int ((p1 &&& (255 : Int32)).toUInt32.toUInt16.toUInt32.toInt32)), (.int (0 : Int32)), (.ref b15), (.ref b15)])) rfl rfl (hb hby d1_33)
        refine Go.step st17 ?_
        have N17 := Fr.snoc X17 N0 g_b15
        have V_b15_q17 := Arv.set Ar16 qa16 Sz16 Nz16 Ha16 Ga16 (fits_nar_char _) W17 0 rfl (Nat.le_of_ble_eq_true rfl)
        have V_b15_q17 : Arv Z h17 b15 k15 .char (2 : Int32) [(.int (nar .char ((p1 &&& (255 : Int32)).toUInt32.toUInt16.toUInt32.toInt32))), (.int (0 : Int32))] (.int (0 : Int32)) := V_b15_q17
        have O2_q17 := O2_q15.wr W17
        have hk17 := Nat.le_trans hk15 (Nat.le_of_eq W17.size.symm)
        have Z17 : n0 ≤ h17.size := by rw [W17.size]; exact Z15
        have K17 : Keep h0 h17 [] := K15.wr W17 (Or.inr sz_b15)
        show Go p e below T17 (mkF m 34 #[.val (.int p0), .val (.int p1), .val (.int p2), .unset] [(.ref b15)]) _
        refine Go.step (fun _ => XS.dup X17.here hx rfl (hb hby d1_34) rfl rfl) ?_
        show Go p e below T17 (mkF m 35 #[.val (.int p0), .val (.int p1), .val (.int p2), .unset] [(.ref b15), (.ref b15)]) _
        refine Go.step (fun _ => XS.iconst X17.here hx rfl (hb hby d1_35)) ?_
        show Go p e below T17 (mkF m 36 #[.val (.int p0), .val (.int p1), .val (.int p2), .unset] [(.int (1 : Int32)), (.ref b15), (.ref b15)]) _
        refine Go.step (fun _ => XS.iloadN X17.here hx rfl (hb hby d1_36) rfl ) ?_
        show Go p e below T17 (mkF m 37 #[.val (.int p0), .val (.int p1), .val (.int p2), .unset] [(.int p2), (.int (1 : Int32)), (.ref b15), (.ref b15)]) _
        refine Go.step (fun _ => XS.sipush X17.here hx rfl (hb hby d1_37)) ?_
        show Go p e below T17 (mkF m 40 #[.val (.int p0), .val (.int p1), .val (.int p2), .unset] [(.int (255 : Int32)), (.int p2), (.int (1 : Int32)), (.ref b15), (.ref b15)]) _
        refine Go.step (fun _ => XS.iand X17.here hx rfl (hb hby d1_40) rfl) ?_
        show Go p e below T17 (mkF m 41 #[.val (.int p0), .val (.int p1), .val (.int p2), .unset] [(.int (p2 &&& (255 : Int32))), (.int (1 : Int32)), (.ref b15), (.ref b15)]) _
        refine Go.step (fun _ => XS.i2c X17.here hx rfl (hb hby d1_41) rfl) ?_
        show Go p e below T17 (mkF m 42 #[.val (.int p0), .val (.int p1), .val (.int p2), .unset] [(.int ((p2 &&& (255 : Int32)).toUInt32.toUInt16.toUInt32.toInt32)), (.int (1 : Int32)), (.ref b15), (.ref b15)]) _
        obtain ⟨cl18, Ar18, qa18, Sz18, Nz18, Ha18, Ga18⟩ := V_b15_q17
        have hin18 : ¬ ((1 : Int32) < 0 ∨ cl18.slots.size ≤ ((1 : Int32)).toNatClampNeg) := inb_of Sz18 ⟨by decide, by decide⟩
        obtain ⟨T19, h19, X19, e19, W19, st19⟩ := stC X17 hx hZ e17 Ar18 (j := (1 : Int32)) hin18 (g := (mkF m 42 #[.val (.int p0), .val (.int p1), .val (.int p2), .unset] [(.int ((p2 &&& (255 : Int32)).toUInt32.toUInt16.toUInt32.toInt32)), (.int (1 : Int32)), (.ref b15), (.ref b15)])) rfl rfl (hb hby d1_42)
        refine Go.step st19 ?_
        have N19 := Fr.snoc X19 N17 g_b15
        have V_b15_q19 := Arv.set Ar18 qa18 Sz18 Nz18 Ha18 Ga18 (fits_nar_char _) W19 1 rfl (Nat.le_of_ble_eq_true rfl)
        have V_b15_q19 : Arv Z h19 b15 k15 .char (2 : Int32) [(.int (nar .char ((p1 &&& (255 : Int32)).toUInt32.toUInt16.toUInt32.toInt32))), (.int (nar .char ((p2 &&& (255 : Int32)).toUInt32.toUInt16.toUInt32.toInt32)))] (.int (0 : Int32)) := V_b15_q19
        have O2_q19 := O2_q17.wr W19
        have hk19 := Nat.le_trans hk17 (Nat.le_of_eq W19.size.symm)
        have Z19 : n0 ≤ h19.size := by rw [W19.size]; exact Z17
        have K19 : Keep h0 h19 [] := K17.wr W19 (Or.inr sz_b15)
        show Go p e below T19 (mkF m 43 #[.val (.int p0), .val (.int p1), .val (.int p2), .unset] [(.ref b15)]) _
        refine Go.step (fun _ => XS.astoreN X19.here hx rfl (hb hby d1_43) rfl rfl (l' := #[.val (.int p0), .val (.int p1), .val (.int p2), .val (.ref b15)]) rfl) ?_
        show Go p e below T19 (mkF m 44 #[.val (.int p0), .val (.int p1), .val (.int p2), .val (.ref b15)] []) _
        obtain ⟨T20, h20, X20, e20, E20, A20, D20, -, st20⟩ := newO X19 hx hZ hown (hw _ (List.mem_of_getElem? (i := 64) rfl)) (hw _ (List.mem_of_getElem? (i := 9) rfl)) (hw _ (List.mem_of_getElem? (i := 8) rfl)) e19 (g := (mkF m 44 #[.val (.int p0), .val (.int p1), .val (.int p2), .val (.ref b15)] [])) rfl (hb hby d1_44) (by decide) (by decide)
        obtain ⟨b20, g20⟩ : ∃ z, z = h19.size := ⟨_, rfl⟩
        rw [← g20] at A20 D20 st20
        have ne_b15_b20 : b15 ≠ b20 := Nat.ne_of_lt (Nat.lt_of_lt_of_le V_b15_q19.lt (Nat.le_of_eq g20.symm))
        have g_b20 : n0 ≤ b20 := Nat.le_trans Z19 (Nat.le_of_eq g20.symm)
        have sz_b20 : h0.size ≤ b20 := Nat.le_trans K19.1 (Nat.le_of_eq g20.symm)
        have O2_q20 := O2_q19.ext E20
        have V_b15_q20 := V_b15_q19.ext E20
        have Z20 : n0 ≤ h20.size := Nat.le_trans Z19 E20.1
        have hk20 := Nat.le_trans hk19 E20.1
        have K20 : Keep h0 h20 [] := K19.ext E20
        refine Go.step st20 ?_
        have F_value_b20 : Fld Z h20 b20 "java/lang/String" "value" "[B" .null := D20 (Or.inr (hw _ (List.mem_of_getElem? (i := 11) rfl))) (ty := (.array .byte)) (by decide)
        have F_coder_b20 : Fld Z h20 b20 "java/lang/String" "coder" "B" (.int (0 : Int32)) := D20 (Or.inr (hw _ (List.mem_of_getElem? (i := 12) rfl))) (ty := .byte) (by decide)
        show Go p e below T20 (mkF m 47 #[.val (.int p0), .val (.int p1), .val (.int p2), .val (.ref b15)] [(.ref b20)]) _
        refine Go.step (fun _ => XS.dup X20.here hx rfl (hb hby d1_47) rfl rfl) ?_
        show Go p e below T20 (mkF m 48 #[.val (.int p0), .val (.int p1), .val (.int p2), .val (.ref b15)] [(.ref b20), (.ref b20)]) _
        refine Go.step (fun _ => XS.aloadN X20.here hx rfl (hb hby d1_48) rfl rfl ) ?_
        show Go p e below T20 (mkF m 49 #[.val (.int p0), .val (.int p1), .val (.int p2), .val (.ref b15)] [(.ref b15), (.ref b20), (.ref b20)]) _
        obtain ⟨_, _, ⟨T21, L21, k21, n21⟩, -, X21, ⟨Lc21, hQ21, l21, y21, z21⟩, st21⟩ := X20.specialBack hx (y := (⟨"java/lang/String", "<init>", "([C)V"⟩ : MethodName)) rfl hown (mvT hZ (hw _ (List.mem_of_getElem? (i := 65) rfl))) (mvT hZ (hw _ (List.mem_of_getElem? (i := 66) rfl))) (mvT hZ (hw _ (List.mem_of_getElem? (i := 67) rfl))) (by decide) (StrChars.Road.backV (W := 1) hZ hws (kI := 4) (hw _ (List.mem_of_getElem? (i := 9) rfl)) (cs := [(nar .char ((p1 &&& (255 : Int32)).toUInt32.toUInt16.toUInt32.toInt32)), (nar .char ((p2 &&& (255 : Int32)).toUInt32.toUInt16.toUInt32.toInt32))]) (bs := [((nar .char ((p1 &&& (255 : Int32)).toUInt32.toUInt16.toUInt32.toInt32))).toInt8.toInt32, ((nar .char ((p2 &&& (255 : Int32)).toUInt32.toUInt16.toUInt32.toInt32))).toInt8.toInt32]) (n := 2) g_b20 Z20 A20 F_value_b20 F_coder_b20 V_b15_q20 O2_q20 P3 rfl rfl (by decide) (by decide) (own_lat2 _ _) rfl (by decide) (by decide)) (g := (mkF m 49 #[.val (.int p0), .val (.int p1), .val (.int p2), .val (.ref b15)] [(.ref b15), (.ref b20), (.ref b20)])) rfl (by rw [hml]; rfl) (Steps.refl _) (a := b20) (argsL := [(.ref b15)]) (rest := [(.ref b20)]) (lenOf pd_3 rfl) rfl (by show 2 * 0 + _ ≤ _; exact Nat.le_of_eq rfl) (hb hby d1_49) (fun _ _ => ⟨rfl, e20, (by decide : 0 + 1 + 1 + 1 ≤ _), (by decide : 0 + 2 + 4 + 2 ≤ _)⟩)
        dsimp only [Pt.U, Pt.locs, Pt.cells, Pt.slots] at X21 l21 y21 z21 st21 hQ21
        subst l21 y21 z21
        obtain ⟨rfl, Nq21, K21, Es21, Cs21, t21, kb21, gt21, st'21, nt21, Fv21, Va21⟩ := hQ21
        have N21 := Fr.app N19 Nq21
        refine Go.call st21 ?_
        have O2_q21 := own_staKeep O2_q20 K21 (allS (own_plainE A20) all0)
        have V_b15_q21 := V_b15_q20.keep K21 (ninS ne_b15_b20 nin0)
        have A20_q21 := A20.keep K21
        have Z21 : n0 ≤ T21.heap.size := Nat.le_trans Z20 K21.1
        have hk21 := Nat.le_trans hk20 K21.1
        have K21 : Keep h0 T21.heap [] := K20.trans K21 (allS (Or.inr sz_b20) all0)
        show Go p e below T21 (mkF m 52 #[.val (.int p0), .val (.int p1), .val (.int p2), .val (.ref b15)] [(.ref b20)]) _
        refine Go.retAW X21 hS0 hk21 hx hret rfl rfl hlk (hb hby d1_52) ?_ (by decide) (by decide)
        exact ⟨_, rfl, N21, K21, rfl⟩
theorem d2_0 : decode prog_76_method_1_code 0 = .ok (.aload_n 0, 1) := by decide +kernel
theorem d2_1 : decode prog_76_method_1_code 1 = .ok (.invokespecial 1, 3) := by decide +kernel
theorem d2_4 : decode prog_76_method_1_code 4 = .ok (.aload_n 0, 1) := by decide +kernel
theorem d2_5 : decode prog_76_method_1_code 5 = .ok (.aload_n 1, 1) := by decide +kernel
theorem d2_6 : decode prog_76_method_1_code 6 = .ok (.putfield 7, 3) := by decide +kernel
theorem d2_9 : decode prog_76_method_1_code 9 = .ok (.aload_n 0, 1) := by decide +kernel
theorem d2_10 : decode prog_76_method_1_code 10 = .ok (.iload_n 2, 1) := by decide +kernel
theorem d2_11 : decode prog_76_method_1_code 11 = .ok (.putfield 13, 3) := by decide +kernel
theorem d2_14 : decode prog_76_method_1_code 14 = .ok (.aload_n 0, 1) := by decide +kernel
theorem d2_15 : decode prog_76_method_1_code 15 = .ok (.iload_n 3, 1) := by decide +kernel
theorem d2_16 : decode prog_76_method_1_code 16 = .ok (.putfield 17, 3) := by decide +kernel
theorem d2_19 : decode prog_76_method_1_code 19 = .ok (.aload_n 0, 1) := by decide +kernel
theorem d2_20 : decode prog_76_method_1_code 20 = .ok (.aload 4, 2) := by decide +kernel
theorem d2_22 : decode prog_76_method_1_code 22 = .ok (.putfield 20, 3) := by decide +kernel
theorem d2_25 : decode prog_76_method_1_code 25 = .ok (.aload_n 0, 1) := by decide +kernel
theorem d2_26 : decode prog_76_method_1_code 26 = .ok (.aload 5, 2) := by decide +kernel
theorem d2_28 : decode prog_76_method_1_code 28 = .ok (.putfield 23, 3) := by decide +kernel
theorem d2_31 : decode prog_76_method_1_code 31 = .ok (.aload_n 0, 1) := by decide +kernel
theorem d2_32 : decode prog_76_method_1_code 32 = .ok (.iload 6, 2) := by decide +kernel
theorem d2_34 : decode prog_76_method_1_code 34 = .ok (.putfield 27, 3) := by decide +kernel
theorem d2_37 : decode prog_76_method_1_code 37 = .ok (.aload_n 0, 1) := by decide +kernel
theorem d2_38 : decode prog_76_method_1_code 38 = .ok (.aload 7, 2) := by decide +kernel
theorem d2_40 : decode prog_76_method_1_code 40 = .ok (.putfield 30, 3) := by decide +kernel
theorem d2_43 : decode prog_76_method_1_code 43 = .ok (.aload_n 0, 1) := by decide +kernel
theorem d2_44 : decode prog_76_method_1_code 44 = .ok (.iload 8, 2) := by decide +kernel
theorem d2_46 : decode prog_76_method_1_code 46 = .ok (.putfield 33, 3) := by decide +kernel
theorem d2_49 : decode prog_76_method_1_code 49 = .ok (.aload_n 0, 1) := by decide +kernel
theorem d2_50 : decode prog_76_method_1_code 50 = .ok (.aload 9, 2) := by decide +kernel
theorem d2_52 : decode prog_76_method_1_code 52 = .ok (.putfield 36, 3) := by decide +kernel
theorem d2_55 : decode prog_76_method_1_code 55 = .ok (.aload_n 0, 1) := by decide +kernel
theorem d2_56 : decode prog_76_method_1_code 56 = .ok (.aload 10, 2) := by decide +kernel
theorem d2_58 : decode prog_76_method_1_code 58 = .ok (.putfield 39, 3) := by decide +kernel
theorem d2_61 : decode prog_76_method_1_code 61 = .ok (.aload_n 0, 1) := by decide +kernel
theorem d2_62 : decode prog_76_method_1_code 62 = .ok (.aload 11, 2) := by decide +kernel
theorem d2_64 : decode prog_76_method_1_code 64 = .ok (.putfield 42, 3) := by decide +kernel
theorem d2_67 : decode prog_76_method_1_code 67 = .ok (.aload_n 0, 1) := by decide +kernel
theorem d2_68 : decode prog_76_method_1_code 68 = .ok (.aload 12, 2) := by decide +kernel
theorem d2_70 : decode prog_76_method_1_code 70 = .ok (.putfield 46, 3) := by decide +kernel
theorem d2_73 : decode prog_76_method_1_code 73 = .ok (.aload_n 0, 1) := by decide +kernel
theorem d2_74 : decode prog_76_method_1_code 74 = .ok (.iload 13, 2) := by decide +kernel
theorem d2_76 : decode prog_76_method_1_code 76 = .ok (.putfield 49, 3) := by decide +kernel
theorem d2_79 : decode prog_76_method_1_code 79 = .ok (.return_, 1) := by decide +kernel
theorem pn_4 : plainName "org/linkweave/core/TermDefinition" = true := by first | (simp [plainName, overriddenIn]; done) | decide +kernel
theorem pd_4 : parseMethodDescriptor "()V" = some ⟨[], none⟩ := by decide +kernel
theorem ef_rmCt (m : MethodId) (x0 : Addr) (x1 : Addr) (x2 : Int32) (x3 : Int32) (x6 : Int32) (x7 : Value) (x8 : Int32) (x9 : Value) (x13 : Int32) (hx7 : x7.isRef = true) (hx9 : x9.isRef = true) : entryFrame m #[(.ref x0), (.ref x1), (.int x2), (.int x3), .null, .null, (.int x6), x7, (.int x8), x9, .null, .null, .null, (.int x13)] 14 = mkF m 0 #[.val (.ref x0), .val (.ref x1), .val (.int x2), .val (.int x3), .val .null, .val .null, .val (.int x6), .val x7, .val (.int x8), .val x9, .val .null, .val .null, .val .null, .val (.int x13)] [] := by rcases ref_cases hx7 with rfl | ⟨yx7, rfl⟩ <;> rcases ref_cases hx9 with rfl | ⟨yx9, rfl⟩ <;> first | (simp [entryFrame, mkF, argsToLocals, Value.category]; done) | rfl
def QCt (Z : State) (a0_ o1 : Addr) (i2 i3 i6 : Int32) (v7 : Value) (i8 : Int32) (v9 : Value) (i13 : Int32) (h0 : Heap) (n0 : Nat) (v : Option Value) (h : Heap) (L : List Loc) : Prop := v = none ∧ Fr n0 L ∧ Keep h0 h [a0_] ∧ Exa Z h a0_ "org/linkweave/core/TermDefinition" ∧ Fld Z h a0_ "org/linkweave/core/TermDefinition" "hasDirection" "Z" (.int (nar .boolean i8)) ∧ Fld Z h a0_ "org/linkweave/core/TermDefinition" "direction" "Ljava/lang/String;" v9
set_option maxRecDepth 65536 in
set_option maxHeartbeats 40000000 in
theorem rmCt (l : Launch) (Z : State) (a0 : Array Value) (hw : ∀ d ∈ tables_1, d.before a0 Z = true) (ws : List Jvm.Cond) (a0_ o1 : Addr) (i2 i3 i6 : Int32) (v7 : Value) (i8 : Int32) (v9 : Value) (i13 : Int32) (h0 : Heap) (n0 : Nat) (Z0 : n0 ≤ h0.size) (E1 : Exa Z h0 a0_ "org/linkweave/core/TermDefinition") (F_iri : Fld Z h0 a0_ "org/linkweave/core/TermDefinition" "iri" "Ljava/lang/String;" .null) (F_prefix : Fld Z h0 a0_ "org/linkweave/core/TermDefinition" "prefix" "Z" (.int (0 : Int32))) (F_reverse : Fld Z h0 a0_ "org/linkweave/core/TermDefinition" "reverse" "Z" (.int (0 : Int32))) (F_typeMapping : Fld Z h0 a0_ "org/linkweave/core/TermDefinition" "typeMapping" "Ljava/lang/String;" .null) (F_container : Fld Z h0 a0_ "org/linkweave/core/TermDefinition" "container" "Ljava/util/Set;" .null) (F_hasLanguage : Fld Z h0 a0_ "org/linkweave/core/TermDefinition" "hasLanguage" "Z" (.int (0 : Int32))) (F_language : Fld Z h0 a0_ "org/linkweave/core/TermDefinition" "language" "Ljava/lang/String;" .null) (F_hasDirection : Fld Z h0 a0_ "org/linkweave/core/TermDefinition" "hasDirection" "Z" (.int (0 : Int32))) (F_direction : Fld Z h0 a0_ "org/linkweave/core/TermDefinition" "direction" "Ljava/lang/String;" .null) (F_index : Fld Z h0 a0_ "org/linkweave/core/TermDefinition" "index" "Ljava/lang/String;" .null) (F_scopedContext : Fld Z h0 a0_ "org/linkweave/core/TermDefinition" "scopedContext" "Lorg/linkweave/core/TermDefinition$ScopedContext;" .null) (F_nest : Fld Z h0 a0_ "org/linkweave/core/TermDefinition" "nest" "Ljava/lang/String;" .null) (F_protectedTerm : Fld Z h0 a0_ "org/linkweave/core/TermDefinition" "protectedTerm" "Z" (.int (0 : Int32))) (g1 : n0 ≤ a0_) (hv7 : v7.isRef = true) (hv9 : v9.isRef = true) :
    MetFree l (⟨"org/linkweave/core/TermDefinition", "<init>", "(Ljava/lang/String;ZZLjava/lang/String;Ljava/util/Set;ZLjava/lang/String;ZLjava/lang/String;Ljava/lang/String;Lorg/linkweave/core/TermDefinition$ScopedContext;Ljava/lang/String;Z)V"⟩ : MethodName) (head1 (Jvm.Cond.code (⟨"org/linkweave/core/TermDefinition", "<init>", "(Ljava/lang/String;ZZLjava/lang/String;Ljava/util/Set;ZLjava/lang/String;ZLjava/lang/String;Ljava/lang/String;Lorg/linkweave/core/TermDefinition$ScopedContext;Ljava/lang/String;Z)V"⟩ : MethodName) prog_76_method_1_code 14 none :: ws) ({ frames := 2, cells := 0, slots := 0, locals := 24 } : Room)) (fun as' U => as' = #[(.ref a0_), (.ref o1), (.int i2), (.int i3), .null, .null, (.int i6), v7, (.int i8), v9, .null, .null, .null, (.int i13)] ∧ Z.Warmed39 U.vm ∧ U.heap = h0) (fun _ _ _ _ _ => True) (fun _ U o U' => ∃ v L, o = .returned v ∧ QCt Z a0_ o1 i2 i3 i6 v7 i8 v9 i13 h0 n0 v U'.heap L ∧ FrameEnd U o U' L ({ frames := 2, cells := 0, slots := 0, locals := 24 } : Room).cells ({ frames := 2, cells := 0, slots := 0, locals := 24 } : Room).slots) := by
  refine MetFree.of_bodySF (plainFor_of_name pn_4) hisR ?_
  intro p e s m args below meth c s₁ Bd hml0 hP hK
  obtain ⟨rfl, hZ, hh⟩ := hP
  have hx := Bd.exec
  have hby := Bd.bytes
  have hml : c.maxLocals = 14 := hml0
  have hown : s.vm.findClass "org/linkweave/core/TermDefinition" = some m.cls := findClass_of_methodNamed Bd.named
  have hnm := (name_of_methodNamed Bd.named Bd.method).1
  have hlk : meth.locks = false := Bd.notSynchronized
  have hret := Bd.returns
  have X0 : Stand p l e ({ frames := 2, cells := 0, slots := 0, locals := 24 } : Room) s m #[(.ref a0_), (.ref o1), (.int i2), (.int i3), .null, .null, (.int i6), v7, (.int i8), v9, .null, .null, .null, (.int i13)] below meth c s₁ [] 0 0 := Stand.of_body Bd
  have e0 : s₁.heap = h0 := by rw [← hh, Bd.state]; rfl
  have N0 := Fr.nil n0
  show Go p e below s₁ (entryFrame m #[(.ref a0_), (.ref o1), (.int i2), (.int i3), .null, .null, (.int i6), v7, (.int i8), v9, .null, .null, .null, (.int i13)] 14) (Fin s (QCt Z a0_ o1 i2 i3 i6 v7 i8 v9 i13 h0 n0) ({ frames := 2, cells := 0, slots := 0, locals := 24 } : Room).cells ({ frames := 2, cells := 0, slots := 0, locals := 24 } : Room).slots)
  rw [ef_rmCt _ _ _ _ _ _ _ _ _ _ hv7 hv9]
  show Go p e below s₁ (mkF m 0 #[.val (.ref a0_), .val (.ref o1), .val (.int i2), .val (.int i3), .val .null, .val .null, .val (.int i6), .val v7, .val (.int i8), .val v9, .val .null, .val .null, .val .null, .val (.int i13)] []) _
  refine Go.step (fun _ => XS.aloadN X0.here hx rfl (hb hby d2_0) rfl rfl ) ?_
  show Go p e below s₁ (mkF m 1 #[.val (.ref a0_), .val (.ref o1), .val (.int i2), .val (.int i3), .val .null, .val .null, .val (.int i6), .val v7, .val (.int i8), .val v9, .val .null, .val .null, .val .null, .val (.int i13)] [(.ref a0_)]) _
  obtain ⟨_, _, ⟨T22, L22, k22, n22⟩, -, X22, ⟨Lc22, hQ22, l22, y22, z22⟩, st22⟩ := X0.specialBack hx (y := (⟨"java/lang/Record", "<init>", "()V"⟩ : MethodName)) rfl hown (mvT hZ (hw _ (List.mem_of_getElem? (i := 18) rfl))) (mvT hZ (hw _ (List.mem_of_getElem? (i := 19) rfl))) (mvT hZ (hw _ (List.mem_of_getElem? (i := 22) rfl))) (by decide) (backOf (W := 0) (rmRec l Z a0 hw [] a0_ h0 n0 Z0) hZ (hw _ (List.mem_of_getElem? (i := 22) rfl)) (hw _ (List.mem_of_getElem? (i := 21) rfl)) (by decide) (by decide)) (g := (mkF m 1 #[.val (.ref a0_), .val (.ref o1), .val (.int i2), .val (.int i3), .val .null, .val .null, .val (.int i6), .val v7, .val (.int i8), .val v9, .val .null, .val .null, .val .null, .val (.int i13)] [(.ref a0_)])) rfl (by rw [hml]; rfl) (Steps.refl _) (a := a0_) (argsL := []) (rest := []) (lenOf pd_4 rfl) rfl (by show 2 * 0 + _ ≤ _; exact Nat.le_of_eq rfl) (hb hby d2_1) (fun _ _ => ⟨rfl, e0, (by decide : 0 + 0 ≤ _), (by decide : 0 + 0 ≤ _)⟩)
  dsimp only [Pt.U, Pt.locs, Pt.cells, Pt.slots] at X22 l22 y22 z22 st22 hQ22
  subst l22 y22 z22
  obtain ⟨rfl, Nq22, eh22⟩ := hQ22
  have N22 := Fr.app N0 Nq22
  refine Go.call st22 ?_
  show Go p e below T22 (mkF m 4 #[.val (.ref a0_), .val (.ref o1), .val (.int i2), .val (.int i3), .val .null, .val .null, .val (.int i6), .val v7, .val (.int i8), .val v9, .val .null, .val .null, .val .null, .val (.int i13)] []) _
  refine Go.step (fun _ => XS.aloadN X22.here hx rfl (hb hby d2_4) rfl rfl ) ?_
  show Go p e below T22 (mkF m 5 #[.val (.ref a0_), .val (.ref o1), .val (.int i2), .val (.int i3), .val .null, .val .null, .val (.int i6), .val v7, .val (.int i8), .val v9, .val .null, .val .null, .val .null, .val (.int i13)] [(.ref a0_)]) _
  refine Go.step (fun _ => XS.aloadN X22.here hx rfl (hb hby d2_5) rfl rfl ) ?_
  show Go p e below T22 (mkF m 6 #[.val (.ref a0_), .val (.ref o1), .val (.int i2), .val (.int i3), .val .null, .val .null, .val (.int i6), .val v7, .val (.int i8), .val v9, .val .null, .val .null, .val .null, .val (.int i13)] [(.ref o1), (.ref a0_)]) _
  obtain ⟨T23, h23, X23, e23, W23, st23⟩ := putF X22 hx hZ hown (host := "") (Or.inl (hw _ (List.mem_of_getElem? (i := 26) rfl))) Via.refl eh22 F_iri E1 (Or.inr ⟨(hw _ (List.mem_of_getElem? (i := 27) rfl)), rfl, hnm⟩) (hw _ (List.mem_of_getElem? (i := 5) rfl)) (ty := (.object "java/lang/String")) (by decide) rfl rfl (g := (mkF m 6 #[.val (.ref a0_), .val (.ref o1), .val (.int i2), .val (.int i3), .val .null, .val .null, .val (.int i6), .val v7, .val (.int i8), .val v9, .val .null, .val .null, .val .null, .val (.int i13)] [(.ref o1), (.ref a0_)])) rfl rfl (hb hby d2_6)
  refine Go.step st23 ?_
  have N23 := Fr.snoc X23 N22 g1
  have F_iri_a0__q23 := F_iri.same W23
  have E1_q23 := E1.wr W23
  have F_prefix_q23 := F_prefix.other W23 (Or.inr (slot_ne (Or.inr (hw _ (List.mem_of_getElem? (i := 29) rfl))) (Or.inr (hw _ (List.mem_of_getElem? (i := 27) rfl))) (by decide) (t := .boolean) (t' := (.object "java/lang/String")) (by decide) (by decide)))
  have F_reverse_q23 := F_reverse.other W23 (Or.inr (slot_ne (Or.inr (hw _ (List.mem_of_getElem? (i := 31) rfl))) (Or.inr (hw _ (List.mem_of_getElem? (i := 27) rfl))) (by decide) (t := .boolean) (t' := (.object "java/lang/String")) (by decide) (by decide)))
  have F_typeMapping_q23 := F_typeMapping.other W23 (Or.inr (slot_ne (Or.inr (hw _ (List.mem_of_getElem? (i := 33) rfl))) (Or.inr (hw _ (List.mem_of_getElem? (i := 27) rfl))) (by decide) (t := (.object "java/lang/String")) (t' := (.object "java/lang/String")) (by decide) (by decide)))
  have F_container_q23 := F_container.other W23 (Or.inr (slot_ne (Or.inr (hw _ (List.mem_of_getElem? (i := 35) rfl))) (Or.inr (hw _ (List.mem_of_getElem? (i := 27) rfl))) (by decide) (t := (.object "java/util/Set")) (t' := (.object "java/lang/String")) (by decide) (by decide)))
  have F_hasLanguage_q23 := F_hasLanguage.other W23 (Or.inr (slot_ne (Or.inr (hw _ (List.mem_of_getElem? (i := 37) rfl))) (Or.inr (hw _ (List.mem_of_getElem? (i := 27) rfl))) (by decide) (t := .boolean) (t' := (.object "java/lang/String")) (by decide) (by decide)))
  have F_language_q23 := F_language.other W23 (Or.inr (slot_ne (Or.inr (hw _ (List.mem_of_getElem? (i := 39) rfl))) (Or.inr (hw _ (List.mem_of_getElem? (i := 27) rfl))) (by decide) (t := (.object "java/lang/String")) (t' := (.object "java/lang/String")) (by decide) (by decide)))
  have F_hasDirection_q23 := F_hasDirection.other W23 (Or.inr (slot_ne (Or.inr (hw _ (List.mem_of_getElem? (i := 41) rfl))) (Or.inr (hw _ (List.mem_of_getElem? (i := 27) rfl))) (by decide) (t := .boolean) (t' := (.object "java/lang/String")) (by decide) (by decide)))
  have F_direction_q23 := F_direction.other W23 (Or.inr (slot_ne (Or.inr (hw _ (List.mem_of_getElem? (i := 43) rfl))) (Or.inr (hw _ (List.mem_of_getElem? (i := 27) rfl))) (by decide) (t := (.object "java/lang/String")) (t' := (.object "java/lang/String")) (by decide) (by decide)))
  have F_index_q23 := F_index.other W23 (Or.inr (slot_ne (Or.inr (hw _ (List.mem_of_getElem? (i := 45) rfl))) (Or.inr (hw _ (List.mem_of_getElem? (i := 27) rfl))) (by decide) (t := (.object "java/lang/String")) (t' := (.object "java/lang/String")) (by decide) (by decide)))
  have F_scopedContext_q23 := F_scopedContext.other W23 (Or.inr (slot_ne (Or.inr (hw _ (List.mem_of_getElem? (i := 47) rfl))) (Or.inr (hw _ (List.mem_of_getElem? (i := 27) rfl))) (by decide) (t := (.object "org/linkweave/core/TermDefinition$ScopedContext")) (t' := (.object "java/lang/String")) (by decide) (by decide)))
  have F_nest_q23 := F_nest.other W23 (Or.inr (slot_ne (Or.inr (hw _ (List.mem_of_getElem? (i := 49) rfl))) (Or.inr (hw _ (List.mem_of_getElem? (i := 27) rfl))) (by decide) (t := (.object "java/lang/String")) (t' := (.object "java/lang/String")) (by decide) (by decide)))
  have F_protectedTerm_q23 := F_protectedTerm.other W23 (Or.inr (slot_ne (Or.inr (hw _ (List.mem_of_getElem? (i := 51) rfl))) (Or.inr (hw _ (List.mem_of_getElem? (i := 27) rfl))) (by decide) (t := .boolean) (t' := (.object "java/lang/String")) (by decide) (by decide)))
  have Z23 : n0 ≤ h23.size := by rw [W23.size]; exact Z0
  have K23 : Keep h0 h23 [a0_] := (Keep.refl h0 [a0_]).wr W23 (Or.inl (List.mem_of_getElem? (i := 0) rfl))
  show Go p e below T23 (mkF m 9 #[.val (.ref a0_), .val (.ref o1), .val (.int i2), .val (.int i3), .val .null, .val .null, .val (.int i6), .val v7, .val (.int i8), .val v9, .val .null, .val .null, .val .null, .val (.int i13)] []) _
  refine Go.step (fun _ => XS.aloadN X23.here hx rfl (hb hby d2_9) rfl rfl ) ?_
  show Go p e below T23 (mkF m 10 #[.val (.ref a0_), .val (.ref o1), .val (.int i2), .val (.int i3), .val .null, .val .null, .val (.int i6), .val v7, .val (.int i8), .val v9, .val .null, .val .null, .val .null, .val (.int i13)] [(.ref a0_)]) _
  refine Go.step (fun _ => XS.iloadN X23.here hx rfl (hb hby d2_10) rfl ) ?_
  show Go p e below T23 (mkF m 11 #[.val (.ref a0_), .val (.ref o1), .val (.int i2), .val (.int i3), .val .null, .val .null, .val (.int i6), .val v7, .val (.int i8), .val v9, .val .null, .val .null, .val .null, .val (.int i13)] [(.int i2), (.ref a0_)]) _
  obtain ⟨T24, h24, X24, e24, W24, st24⟩ := putFN X23 hx hZ hown (hw _ (List.mem_of_getElem? (i := 28) rfl)) Via.refl e23 F_prefix_q23 E1_q23 (Or.inr ⟨(hw _ (List.mem_of_getElem? (i := 29) rfl)), rfl, hnm⟩) (hw _ (List.mem_of_getElem? (i := 5) rfl)) (ty := .boolean) (v' := .int (nar .boolean i2)) (by decide) rfl (fits_nar_bool _) (g := (mkF m 11 #[.val (.ref a0_), .val (.ref o1), .val (.int i2), .val (.int i3), .val .null, .val .null, .val (.int i6), .val v7, .val (.int i8), .val v9, .val .null, .val .null, .val .null, .val (.int i13)] [(.int i2), (.ref a0_)])) rfl rfl (hb hby d2_11)
  refine Go.step st24 ?_
  have N24 := Fr.snoc X24 N23 g1
  have F_prefix_a0__q24 := F_prefix_q23.same W24
  have E1_q24 := E1_q23.wr W24
  have F_reverse_q24 := F_reverse_q23.other W24 (Or.inr (slot_ne (Or.inr (hw _ (List.mem_of_getElem? (i := 31) rfl))) (Or.inr (hw _ (List.mem_of_getElem? (i := 29) rfl))) (by decide) (t := .boolean) (t' := .boolean) (by decide) (by decide)))
  have F_typeMapping_q24 := F_typeMapping_q23.other W24 (Or.inr (slot_ne (Or.inr (hw _ (List.mem_of_getElem? (i := 33) rfl))) (Or.inr (hw _ (List.mem_of_getElem? (i := 29) rfl))) (by decide) (t := (.object "java/lang/String")) (t' := .boolean) (by decide) (by decide)))
  have F_container_q24 := F_container_q23.other W24 (Or.inr (slot_ne (Or.inr (hw _ (List.mem_of_getElem? (i := 35) rfl))) (Or.inr (hw _ (List.mem_of_getElem? (i := 29) rfl))) (by decide) (t := (.object "java/util/Set")) (t' := .boolean) (by decide) (by decide)))
  have F_hasLanguage_q24 := F_hasLanguage_q23.other W24 (Or.inr (slot_ne (Or.inr (hw _ (List.mem_of_getElem? (i := 37) rfl))) (Or.inr (hw _ (List.mem_of_getElem? (i := 29) rfl))) (by decide) (t := .boolean) (t' := .boolean) (by decide) (by decide)))
  have F_language_q24 := F_language_q23.other W24 (Or.inr (slot_ne (Or.inr (hw _ (List.mem_of_getElem? (i := 39) rfl))) (Or.inr (hw _ (List.mem_of_getElem? (i := 29) rfl))) (by decide) (t := (.object "java/lang/String")) (t' := .boolean) (by decide) (by decide)))
  have F_hasDirection_q24 := F_hasDirection_q23.other W24 (Or.inr (slot_ne (Or.inr (hw _ (List.mem_of_getElem? (i := 41) rfl))) (Or.inr (hw _ (List.mem_of_getElem? (i := 29) rfl))) (by decide) (t := .boolean) (t' := .boolean) (by decide) (by decide)))
  have F_direction_q24 := F_direction_q23.other W24 (Or.inr (slot_ne (Or.inr (hw _ (List.mem_of_getElem? (i := 43) rfl))) (Or.inr (hw _ (List.mem_of_getElem? (i := 29) rfl))) (by decide) (t := (.object "java/lang/String")) (t' := .boolean) (by decide) (by decide)))
  have F_index_q24 := F_index_q23.other W24 (Or.inr (slot_ne (Or.inr (hw _ (List.mem_of_getElem? (i := 45) rfl))) (Or.inr (hw _ (List.mem_of_getElem? (i := 29) rfl))) (by decide) (t := (.object "java/lang/String")) (t' := .boolean) (by decide) (by decide)))
  have F_scopedContext_q24 := F_scopedContext_q23.other W24 (Or.inr (slot_ne (Or.inr (hw _ (List.mem_of_getElem? (i := 47) rfl))) (Or.inr (hw _ (List.mem_of_getElem? (i := 29) rfl))) (by decide) (t := (.object "org/linkweave/core/TermDefinition$ScopedContext")) (t' := .boolean) (by decide) (by decide)))
  have F_nest_q24 := F_nest_q23.other W24 (Or.inr (slot_ne (Or.inr (hw _ (List.mem_of_getElem? (i := 49) rfl))) (Or.inr (hw _ (List.mem_of_getElem? (i := 29) rfl))) (by decide) (t := (.object "java/lang/String")) (t' := .boolean) (by decide) (by decide)))
  have F_protectedTerm_q24 := F_protectedTerm_q23.other W24 (Or.inr (slot_ne (Or.inr (hw _ (List.mem_of_getElem? (i := 51) rfl))) (Or.inr (hw _ (List.mem_of_getElem? (i := 29) rfl))) (by decide) (t := .boolean) (t' := .boolean) (by decide) (by decide)))
  have F_iri_a0__q24 := F_iri_a0__q23.other W24 (Or.inr (slot_ne (Or.inr (hw _ (List.mem_of_getElem? (i := 27) rfl))) (Or.inr (hw _ (List.mem_of_getElem? (i := 29) rfl))) (by decide) (t := (.object "java/lang/String")) (t' := .boolean) (by decide) (by decide)))
  have Z24 : n0 ≤ h24.size := by rw [W24.size]; exact Z23
  have K24 : Keep h0 h24 [a0_] := K23.wr W24 (Or.inl (List.mem_of_getElem? (i := 0) rfl))
  show Go p e below T24 (mkF m 14 #[.val (.ref a0_), .val (.ref o1), .val (.int i2), .val (.int i3), .val .null, .val .null, .val (.int i6), .val v7, .val (.int i8), .val v9, .val .null, .val .null, .val .null, .val (.int i13)] []) _
  refine Go.step (fun _ => XS.aloadN X24.here hx rfl (hb hby d2_14) rfl rfl ) ?_
  show Go p e below T24 (mkF m 15 #[.val (.ref a0_), .val (.ref o1), .val (.int i2), .val (.int i3), .val .null, .val .null, .val (.int i6), .val v7, .val (.int i8), .val v9, .val .null, .val .null, .val .null, .val (.int i13)] [(.ref a0_)]) _
  refine Go.step (fun _ => XS.iloadN X24.here hx rfl (hb hby d2_15) rfl ) ?_
  show Go p e below T24 (mkF m 16 #[.val (.ref a0_), .val (.ref o1), .val (.int i2), .val (.int i3), .val .null, .val .null, .val (.int i6), .val v7, .val (.int i8), .val v9, .val .null, .val .null, .val .null, .val (.int i13)] [(.int i3), (.ref a0_)]) _
  obtain ⟨T25, h25, X25, e25, W25, st25⟩ := putFN X24 hx hZ hown (hw _ (List.mem_of_getElem? (i := 30) rfl)) Via.refl e24 F_reverse_q24 E1_q24 (Or.inr ⟨(hw _ (List.mem_of_getElem? (i := 31) rfl)), rfl, hnm⟩) (hw _ (List.mem_of_getElem? (i := 5) rfl)) (ty := .boolean) (v' := .int (nar .boolean i3)) (by decide) rfl (fits_nar_bool _) (g := (mkF m 16 #[.val (.ref a0_), .val (.ref o1), .val (.int i2), .val (.int i3), .val .null, .val .null, .val (.int i6), .val v7, .val (.int i8), .val v9, .val .null, .val .null, .val .null, .val (.int i13)] [(.int i3), (.ref a0_)])) rfl rfl (hb hby d2_16)
  refine Go.step st25 ?_
  have N25 := Fr.snoc X25 N24 g1
  have F_reverse_a0__q25 := F_reverse_q24.same W25
  have E1_q25 := E1_q24.wr W25
  have F_typeMapping_q25 := F_typeMapping_q24.other W25 (Or.inr (slot_ne (Or.inr (hw _ (List.mem_of_getElem? (i := 33) rfl))) (Or.inr (hw _ (List.mem_of_getElem? (i := 31) rfl))) (by decide) (t := (.object "java/lang/String")) (t' := .boolean) (by decide) (by decide)))
  have F_container_q25 := F_container_q24.other W25 (Or.inr (slot_ne (Or.inr (hw _ (List.mem_of_getElem? (i := 35) rfl))) (Or.inr (hw _ (List.mem_of_getElem? (i := 31) rfl))) (by decide) (t := (.object "java/util/Set")) (t' := .boolean) (by decide) (by decide)))
  have F_hasLanguage_q25 := F_hasLanguage_q24.other W25 (Or.inr (slot_ne (Or.inr (hw _ (List.mem_of_getElem? (i := 37) rfl))) (Or.inr (hw _ (List.mem_of_getElem? (i := 31) rfl))) (by decide) (t := .boolean) (t' := .boolean) (by decide) (by decide)))
  have F_language_q25 := F_language_q24.other W25 (Or.inr (slot_ne (Or.inr (hw _ (List.mem_of_getElem? (i := 39) rfl))) (Or.inr (hw _ (List.mem_of_getElem? (i := 31) rfl))) (by decide) (t := (.object "java/lang/String")) (t' := .boolean) (by decide) (by decide)))
  have F_hasDirection_q25 := F_hasDirection_q24.other W25 (Or.inr (slot_ne (Or.inr (hw _ (List.mem_of_getElem? (i := 41) rfl))) (Or.inr (hw _ (List.mem_of_getElem? (i := 31) rfl))) (by decide) (t := .boolean) (t' := .boolean) (by decide) (by decide)))
  have F_direction_q25 := F_direction_q24.other W25 (Or.inr (slot_ne (Or.inr (hw _ (List.mem_of_getElem? (i := 43) rfl))) (Or.inr (hw _ (List.mem_of_getElem? (i := 31) rfl))) (by decide) (t := (.object "java/lang/String")) (t' := .boolean) (by decide) (by decide)))
  have F_index_q25 := F_index_q24.other W25 (Or.inr (slot_ne (Or.inr (hw _ (List.mem_of_getElem? (i := 45) rfl))) (Or.inr (hw _ (List.mem_of_getElem? (i := 31) rfl))) (by decide) (t := (.object "java/lang/String")) (t' := .boolean) (by decide) (by decide)))
  have F_scopedContext_q25 := F_scopedContext_q24.other W25 (Or.inr (slot_ne (Or.inr (hw _ (List.mem_of_getElem? (i := 47) rfl))) (Or.inr (hw _ (List.mem_of_getElem? (i := 31) rfl))) (by decide) (t := (.object "org/linkweave/core/TermDefinition$ScopedContext")) (t' := .boolean) (by decide) (by decide)))
  have F_nest_q25 := F_nest_q24.other W25 (Or.inr (slot_ne (Or.inr (hw _ (List.mem_of_getElem? (i := 49) rfl))) (Or.inr (hw _ (List.mem_of_getElem? (i := 31) rfl))) (by decide) (t := (.object "java/lang/String")) (t' := .boolean) (by decide) (by decide)))
  have F_protectedTerm_q25 := F_protectedTerm_q24.other W25 (Or.inr (slot_ne (Or.inr (hw _ (List.mem_of_getElem? (i := 51) rfl))) (Or.inr (hw _ (List.mem_of_getElem? (i := 31) rfl))) (by decide) (t := .boolean) (t' := .boolean) (by decide) (by decide)))
  have F_iri_a0__q25 := F_iri_a0__q24.other W25 (Or.inr (slot_ne (Or.inr (hw _ (List.mem_of_getElem? (i := 27) rfl))) (Or.inr (hw _ (List.mem_of_getElem? (i := 31) rfl))) (by decide) (t := (.object "java/lang/String")) (t' := .boolean) (by decide) (by decide)))
  have F_prefix_a0__q25 := F_prefix_a0__q24.other W25 (Or.inr (slot_ne (Or.inr (hw _ (List.mem_of_getElem? (i := 29) rfl))) (Or.inr (hw _ (List.mem_of_getElem? (i := 31) rfl))) (by decide) (t := .boolean) (t' := .boolean) (by decide) (by decide)))
  have Z25 : n0 ≤ h25.size := by rw [W25.size]; exact Z24
  have K25 : Keep h0 h25 [a0_] := K24.wr W25 (Or.inl (List.mem_of_getElem? (i := 0) rfl))
  show Go p e below T25 (mkF m 19 #[.val (.ref a0_), .val (.ref o1), .val (.int i2), .val (.int i3), .val .null, .val .null, .val (.int i6), .val v7, .val (.int i8), .val v9, .val .null, .val .null, .val .null, .val (.int i13)] []) _
  refine Go.step (fun _ => XS.aloadN X25.here hx rfl (hb hby d2_19) rfl rfl ) ?_
  show Go p e below T25 (mkF m 20 #[.val (.ref a0_), .val (.ref o1), .val (.int i2), .val (.int i3), .val .null, .val .null, .val (.int i6), .val v7, .val (.int i8), .val v9, .val .null, .val .null, .val .null, .val (.int i13)] [(.ref a0_)]) _
  refine Go.step (fun _ => XS.aload X25.here hx rfl (hb hby d2_20) rfl rfl ) ?_
  show Go p e below T25 (mkF m 22 #[.val (.ref a0_), .val (.ref o1), .val (.int i2), .val (.int i3), .val .null, .val .null, .val (.int i6), .val v7, .val (.int i8), .val v9, .val .null, .val .null, .val .null, .val (.int i13)] [.null, (.ref a0_)]) _
  obtain ⟨T26, h26, X26, e26, W26, st26⟩ := putF X25 hx hZ hown (host := "") (Or.inl (hw _ (List.mem_of_getElem? (i := 32) rfl))) Via.refl e25 F_typeMapping_q25 E1_q25 (Or.inr ⟨(hw _ (List.mem_of_getElem? (i := 33) rfl)), rfl, hnm⟩) (hw _ (List.mem_of_getElem? (i := 5) rfl)) (ty := (.object "java/lang/String")) (by decide) rfl rfl (g := (mkF m 22 #[.val (.ref a0_), .val (.ref o1), .val (.int i2), .val (.int i3), .val .null, .val .null, .val (.int i6), .val v7, .val (.int i8), .val v9, .val .null, .val .null, .val .null, .val (.int i13)] [.null, (.ref a0_)])) rfl rfl (hb hby d2_22)
  refine Go.step st26 ?_
  have N26 := Fr.snoc X26 N25 g1
  have F_typeMapping_a0__q26 := F_typeMapping_q25.same W26
  have E1_q26 := E1_q25.wr W26
  have F_container_q26 := F_container_q25.other W26 (Or.inr (slot_ne (Or.inr (hw _ (List.mem_of_getElem? (i := 35) rfl))) (Or.inr (hw _ (List.mem_of_getElem? (i := 33) rfl))) (by decide) (t := (.object "java/util/Set")) (t' := (.object "java/lang/String")) (by decide) (by decide)))
  have F_hasLanguage_q26 := F_hasLanguage_q25.other W26 (Or.inr (slot_ne (Or.inr (hw _ (List.mem_of_getElem? (i := 37) rfl))) (Or.inr (hw _ (List.mem_of_getElem? (i := 33) rfl))) (by decide) (t := .boolean) (t' := (.object "java/lang/String")) (by decide) (by decide)))
  have F_language_q26 := F_language_q25.other W26 (Or.inr (slot_ne (Or.inr (hw _ (List.mem_of_getElem? (i := 39) rfl))) (Or.inr (hw _ (List.mem_of_getElem? (i := 33) rfl))) (by decide) (t := (.object "java/lang/String")) (t' := (.object "java/lang/String")) (by decide) (by decide)))
  have F_hasDirection_q26 := F_hasDirection_q25.other W26 (Or.inr (slot_ne (Or.inr (hw _ (List.mem_of_getElem? (i := 41) rfl))) (Or.inr (hw _ (List.mem_of_getElem? (i := 33) rfl))) (by decide) (t := .boolean) (t' := (.object "java/lang/String")) (by decide) (by decide)))
  have F_direction_q26 := F_direction_q25.other W26 (Or.inr (slot_ne (Or.inr (hw _ (List.mem_of_getElem? (i := 43) rfl))) (Or.inr (hw _ (List.mem_of_getElem? (i := 33) rfl))) (by decide) (t := (.object "java/lang/String")) (t' := (.object "java/lang/String")) (by decide) (by decide)))
  have F_index_q26 := F_index_q25.other W26 (Or.inr (slot_ne (Or.inr (hw _ (List.mem_of_getElem? (i := 45) rfl))) (Or.inr (hw _ (List.mem_of_getElem? (i := 33) rfl))) (by decide) (t := (.object "java/lang/String")) (t' := (.object "java/lang/String")) (by decide) (by decide)))
  have F_scopedContext_q26 := F_scopedContext_q25.other W26 (Or.inr (slot_ne (Or.inr (hw _ (List.mem_of_getElem? (i := 47) rfl))) (Or.inr (hw _ (List.mem_of_getElem? (i := 33) rfl))) (by decide) (t := (.object "org/linkweave/core/TermDefinition$ScopedContext")) (t' := (.object "java/lang/String")) (by decide) (by decide)))
  have F_nest_q26 := F_nest_q25.other W26 (Or.inr (slot_ne (Or.inr (hw _ (List.mem_of_getElem? (i := 49) rfl))) (Or.inr (hw _ (List.mem_of_getElem? (i := 33) rfl))) (by decide) (t := (.object "java/lang/String")) (t' := (.object "java/lang/String")) (by decide) (by decide)))
  have F_protectedTerm_q26 := F_protectedTerm_q25.other W26 (Or.inr (slot_ne (Or.inr (hw _ (List.mem_of_getElem? (i := 51) rfl))) (Or.inr (hw _ (List.mem_of_getElem? (i := 33) rfl))) (by decide) (t := .boolean) (t' := (.object "java/lang/String")) (by decide) (by decide)))
  have F_iri_a0__q26 := F_iri_a0__q25.other W26 (Or.inr (slot_ne (Or.inr (hw _ (List.mem_of_getElem? (i := 27) rfl))) (Or.inr (hw _ (List.mem_of_getElem? (i := 33) rfl))) (by decide) (t := (.object "java/lang/String")) (t' := (.object "java/lang/String")) (by decide) (by decide)))
  have F_prefix_a0__q26 := F_prefix_a0__q25.other W26 (Or.inr (slot_ne (Or.inr (hw _ (List.mem_of_getElem? (i := 29) rfl))) (Or.inr (hw _ (List.mem_of_getElem? (i := 33) rfl))) (by decide) (t := .boolean) (t' := (.object "java/lang/String")) (by decide) (by decide)))
  have F_reverse_a0__q26 := F_reverse_a0__q25.other W26 (Or.inr (slot_ne (Or.inr (hw _ (List.mem_of_getElem? (i := 31) rfl))) (Or.inr (hw _ (List.mem_of_getElem? (i := 33) rfl))) (by decide) (t := .boolean) (t' := (.object "java/lang/String")) (by decide) (by decide)))
  have Z26 : n0 ≤ h26.size := by rw [W26.size]; exact Z25
  have K26 : Keep h0 h26 [a0_] := K25.wr W26 (Or.inl (List.mem_of_getElem? (i := 0) rfl))
  show Go p e below T26 (mkF m 25 #[.val (.ref a0_), .val (.ref o1), .val (.int i2), .val (.int i3), .val .null, .val .null, .val (.int i6), .val v7, .val (.int i8), .val v9, .val .null, .val .null, .val .null, .val (.int i13)] []) _
  refine Go.step (fun _ => XS.aloadN X26.here hx rfl (hb hby d2_25) rfl rfl ) ?_
  show Go p e below T26 (mkF m 26 #[.val (.ref a0_), .val (.ref o1), .val (.int i2), .val (.int i3), .val .null, .val .null, .val (.int i6), .val v7, .val (.int i8), .val v9, .val .null, .val .null, .val .null, .val (.int i13)] [(.ref a0_)]) _
  refine Go.step (fun _ => XS.aload X26.here hx rfl (hb hby d2_26) rfl rfl ) ?_
  show Go p e below T26 (mkF m 28 #[.val (.ref a0_), .val (.ref o1), .val (.int i2), .val (.int i3), .val .null, .val .null, .val (.int i6), .val v7, .val (.int i8), .val v9, .val .null, .val .null, .val .null, .val (.int i13)] [.null, (.ref a0_)]) _
  obtain ⟨T27, h27, X27, e27, W27, st27⟩ := putF X26 hx hZ hown (host := "") (Or.inl (hw _ (List.mem_of_getElem? (i := 34) rfl))) Via.refl e26 F_container_q26 E1_q26 (Or.inr ⟨(hw _ (List.mem_of_getElem? (i := 35) rfl)), rfl, hnm⟩) (hw _ (List.mem_of_getElem? (i := 5) rfl)) (ty := (.object "java/util/Set")) (by decide) rfl rfl (g := (mkF m 28 #[.val (.ref a0_), .val (.ref o1), .val (.int i2), .val (.int i3), .val .null, .val .null, .val (.int i6), .val v7, .val (.int i8), .val v9, .val .null, .val .null, .val .null, .val (.int i13)] [.null, (.ref a0_)])) rfl rfl (hb hby d2_28)
  refine Go.step st27 ?_
  have N27 := Fr.snoc X27 N26 g1
  have F_container_a0__q27 := F_container_q26.same W27
  have E1_q27 := E1_q26.wr W27
  have F_hasLanguage_q27 := F_hasLanguage_q26.other W27 (Or.inr (slot_ne (Or.inr (hw _ (List.mem_of_getElem? (i := 37) rfl))) (Or.inr (hw _ (List.mem_of_getElem? (i := 35) rfl))) (by decide) (t := .boolean) (t' := (.object "java/util/Set")) (by decide) (by decide)))
  have F_language_q27 := F_language_q26.other W27 (Or.inr (slot_ne (Or.inr (hw _ (List.mem_of_getElem? (i := 39) rfl))) (Or.inr (hw _ (List.mem_of_getElem? (i := 35) rfl))) (by decide) (t := (.object "java/lang/String")) (t' := (.object "java/util/Set")) (by decide) (by decide)))
  have F_hasDirection_q27 := F_hasDirection_q26.other W27 (Or.inr (slot_ne (Or.inr (hw _ (List.mem_of_getElem? (i := 41) rfl))) (Or.inr (hw _ (List.mem_of_getElem? (i := 35) rfl))) (by decide) (t := .boolean) (t' := (.object "java/util/Set")) (by decide) (by decide)))
  have F_direction_q27 := F_direction_q26.other W27 (Or.inr (slot_ne (Or.inr (hw _ (List.mem_of_getElem? (i := 43) rfl))) (Or.inr (hw _ (List.mem_of_getElem? (i := 35) rfl))) (by decide) (t := (.object "java/lang/String")) (t' := (.object "java/util/Set")) (by decide) (by decide)))
  have F_index_q27 := F_index_q26.other W27 (Or.inr (slot_ne (Or.inr (hw _ (List.mem_of_getElem? (i := 45) rfl))) (Or.inr (hw _ (List.mem_of_getElem? (i := 35) rfl))) (by decide) (t := (.object "java/lang/String")) (t' := (.object "java/util/Set")) (by decide) (by decide)))
  have F_scopedContext_q27 := F_scopedContext_q26.other W27 (Or.inr (slot_ne (Or.inr (hw _ (List.mem_of_getElem? (i := 47) rfl))) (Or.inr (hw _ (List.mem_of_getElem? (i := 35) rfl))) (by decide) (t := (.object "org/linkweave/core/TermDefinition$ScopedContext")) (t' := (.object "java/util/Set")) (by decide) (by decide)))
  have F_nest_q27 := F_nest_q26.other W27 (Or.inr (slot_ne (Or.inr (hw _ (List.mem_of_getElem? (i := 49) rfl))) (Or.inr (hw _ (List.mem_of_getElem? (i := 35) rfl))) (by decide) (t := (.object "java/lang/String")) (t' := (.object "java/util/Set")) (by decide) (by decide)))
  have F_protectedTerm_q27 := F_protectedTerm_q26.other W27 (Or.inr (slot_ne (Or.inr (hw _ (List.mem_of_getElem? (i := 51) rfl))) (Or.inr (hw _ (List.mem_of_getElem? (i := 35) rfl))) (by decide) (t := .boolean) (t' := (.object "java/util/Set")) (by decide) (by decide)))
  have F_iri_a0__q27 := F_iri_a0__q26.other W27 (Or.inr (slot_ne (Or.inr (hw _ (List.mem_of_getElem? (i := 27) rfl))) (Or.inr (hw _ (List.mem_of_getElem? (i := 35) rfl))) (by decide) (t := (.object "java/lang/String")) (t' := (.object "java/util/Set")) (by decide) (by decide)))
  have F_prefix_a0__q27 := F_prefix_a0__q26.other W27 (Or.inr (slot_ne (Or.inr (hw _ (List.mem_of_getElem? (i := 29) rfl))) (Or.inr (hw _ (List.mem_of_getElem? (i := 35) rfl))) (by decide) (t := .boolean) (t' := (.object "java/util/Set")) (by decide) (by decide)))
  have F_reverse_a0__q27 := F_reverse_a0__q26.other W27 (Or.inr (slot_ne (Or.inr (hw _ (List.mem_of_getElem? (i := 31) rfl))) (Or.inr (hw _ (List.mem_of_getElem? (i := 35) rfl))) (by decide) (t := .boolean) (t' := (.object "java/util/Set")) (by decide) (by decide)))
  have F_typeMapping_a0__q27 := F_typeMapping_a0__q26.other W27 (Or.inr (slot_ne (Or.inr (hw _ (List.mem_of_getElem? (i := 33) rfl))) (Or.inr (hw _ (List.mem_of_getElem? (i := 35) rfl))) (by decide) (t := (.object "java/lang/String")) (t' := (.object "java/util/Set")) (by decide) (by decide)))
  have Z27 : n0 ≤ h27.size := by rw [W27.size]; exact Z26
  have K27 : Keep h0 h27 [a0_] := K26.wr W27 (Or.inl (List.mem_of_getElem? (i := 0) rfl))
  show Go p e below T27 (mkF m 31 #[.val (.ref a0_), .val (.ref o1), .val (.int i2), .val (.int i3), .val .null, .val .null, .val (.int i6), .val v7, .val (.int i8), .val v9, .val .null, .val .null, .val .null, .val (.int i13)] []) _
  refine Go.step (fun _ => XS.aloadN X27.here hx rfl (hb hby d2_31) rfl rfl ) ?_
  show Go p e below T27 (mkF m 32 #[.val (.ref a0_), .val (.ref o1), .val (.int i2), .val (.int i3), .val .null, .val .null, .val (.int i6), .val v7, .val (.int i8), .val v9, .val .null, .val .null, .val .null, .val (.int i13)] [(.ref a0_)]) _
  refine Go.step (fun _ => XS.iload X27.here hx rfl (hb hby d2_32) rfl ) ?_
  show Go p e below T27 (mkF m 34 #[.val (.ref a0_), .val (.ref o1), .val (.int i2), .val (.int i3), .val .null, .val .null, .val (.int i6), .val v7, .val (.int i8), .val v9, .val .null, .val .null, .val .null, .val (.int i13)] [(.int i6), (.ref a0_)]) _
  obtain ⟨T28, h28, X28, e28, W28, st28⟩ := putFN X27 hx hZ hown (hw _ (List.mem_of_getElem? (i := 36) rfl)) Via.refl e27 F_hasLanguage_q27 E1_q27 (Or.inr ⟨(hw _ (List.mem_of_getElem? (i := 37) rfl)), rfl, hnm⟩) (hw _ (List.mem_of_getElem? (i := 5) rfl)) (ty := .boolean) (v' := .int (nar .boolean i6)) (by decide) rfl (fits_nar_bool _) (g := (mkF m 34 #[.val (.ref a0_), .val (.ref o1), .val (.int i2), .val (.int i3), .val .null, .val .null, .val (.int i6), .val v7, .val (.int i8), .val v9, .val .null, .val .null, .val .null, .val (.int i13)] [(.int i6), (.ref a0_)])) rfl rfl (hb hby d2_34)
  refine Go.step st28 ?_
  have N28 := Fr.snoc X28 N27 g1
  have F_hasLanguage_a0__q28 := F_hasLanguage_q27.same W28
  have E1_q28 := E1_q27.wr W28
  have F_language_q28 := F_language_q27.other W28 (Or.inr (slot_ne (Or.inr (hw _ (List.mem_of_getElem? (i := 39) rfl))) (Or.inr (hw _ (List.mem_of_getElem? (i := 37) rfl))) (by decide) (t := (.object "java/lang/String")) (t' := .boolean) (by decide) (by decide)))
  have F_hasDirection_q28 := F_hasDirection_q27.other W28 (Or.inr (slot_ne (Or.inr (hw _ (List.mem_of_getElem? (i := 41) rfl))) (Or.inr (hw _ (List.mem_of_getElem? (i := 37) rfl))) (by decide) (t := .boolean) (t' := .boolean) (by decide) (by decide)))
  have F_direction_q28 := F_direction_q27.other W28 (Or.inr (slot_ne (Or.inr (hw _ (List.mem_of_getElem? (i := 43) rfl))) (Or.inr (hw _ (List.mem_of_getElem? (i := 37) rfl))) (by decide) (t := (.object "java/lang/String")) (t' := .boolean) (by decide) (by decide)))
  have F_index_q28 := F_index_q27.other W28 (Or.inr (slot_ne (Or.inr (hw _ (List.mem_of_getElem? (i := 45) rfl))) (Or.inr (hw _ (List.mem_of_getElem? (i := 37) rfl))) (by decide) (t := (.object "java/lang/String")) (t' := .boolean) (by decide) (by decide)))
  have F_scopedContext_q28 := F_scopedContext_q27.other W28 (Or.inr (slot_ne (Or.inr (hw _ (List.mem_of_getElem? (i := 47) rfl))) (Or.inr (hw _ (List.mem_of_getElem? (i := 37) rfl))) (by decide) (t := (.object "org/linkweave/core/TermDefinition$ScopedContext")) (t' := .boolean) (by decide) (by decide)))
  have F_nest_q28 := F_nest_q27.other W28 (Or.inr (slot_ne (Or.inr (hw _ (List.mem_of_getElem? (i := 49) rfl))) (Or.inr (hw _ (List.mem_of_getElem? (i := 37) rfl))) (by decide) (t := (.object "java/lang/String")) (t' := .boolean) (by decide) (by decide)))
  have F_protectedTerm_q28 := F_protectedTerm_q27.other W28 (Or.inr (slot_ne (Or.inr (hw _ (List.mem_of_getElem? (i := 51) rfl))) (Or.inr (hw _ (List.mem_of_getElem? (i := 37) rfl))) (by decide) (t := .boolean) (t' := .boolean) (by decide) (by decide)))
  have F_iri_a0__q28 := F_iri_a0__q27.other W28 (Or.inr (slot_ne (Or.inr (hw _ (List.mem_of_getElem? (i := 27) rfl))) (Or.inr (hw _ (List.mem_of_getElem? (i := 37) rfl))) (by decide) (t := (.object "java/lang/String")) (t' := .boolean) (by decide) (by decide)))
  have F_prefix_a0__q28 := F_prefix_a0__q27.other W28 (Or.inr (slot_ne (Or.inr (hw _ (List.mem_of_getElem? (i := 29) rfl))) (Or.inr (hw _ (List.mem_of_getElem? (i := 37) rfl))) (by decide) (t := .boolean) (t' := .boolean) (by decide) (by decide)))
  have F_reverse_a0__q28 := F_reverse_a0__q27.other W28 (Or.inr (slot_ne (Or.inr (hw _ (List.mem_of_getElem? (i := 31) rfl))) (Or.inr (hw _ (List.mem_of_getElem? (i := 37) rfl))) (by decide) (t := .boolean) (t' := .boolean) (by decide) (by decide)))
  have F_typeMapping_a0__q28 := F_typeMapping_a0__q27.other W28 (Or.inr (slot_ne (Or.inr (hw _ (List.mem_of_getElem? (i := 33) rfl))) (Or.inr (hw _ (List.mem_of_getElem? (i := 37) rfl))) (by decide) (t := (.object "java/lang/String")) (t' := .boolean) (by decide) (by decide)))
  have F_container_a0__q28 := F_container_a0__q27.other W28 (Or.inr (slot_ne (Or.inr (hw _ (List.mem_of_getElem? (i := 35) rfl))) (Or.inr (hw _ (List.mem_of_getElem? (i := 37) rfl))) (by decide) (t := (.object "java/util/Set")) (t' := .boolean) (by decide) (by decide)))
  have Z28 : n0 ≤ h28.size := by rw [W28.size]; exact Z27
  have K28 : Keep h0 h28 [a0_] := K27.wr W28 (Or.inl (List.mem_of_getElem? (i := 0) rfl))
  show Go p e below T28 (mkF m 37 #[.val (.ref a0_), .val (.ref o1), .val (.int i2), .val (.int i3), .val .null, .val .null, .val (.int i6), .val v7, .val (.int i8), .val v9, .val .null, .val .null, .val .null, .val (.int i13)] []) _
  refine Go.step (fun _ => XS.aloadN X28.here hx rfl (hb hby d2_37) rfl rfl ) ?_
  show Go p e below T28 (mkF m 38 #[.val (.ref a0_), .val (.ref o1), .val (.int i2), .val (.int i3), .val .null, .val .null, .val (.int i6), .val v7, .val (.int i8), .val v9, .val .null, .val .null, .val .null, .val (.int i13)] [(.ref a0_)]) _
  refine Go.step (fun _ => XS.aload X28.here hx rfl (hb hby d2_38) rfl hv7 ) ?_
  show Go p e below T28 (mkF m 40 #[.val (.ref a0_), .val (.ref o1), .val (.int i2), .val (.int i3), .val .null, .val .null, .val (.int i6), .val v7, .val (.int i8), .val v9, .val .null, .val .null, .val .null, .val (.int i13)] [v7, (.ref a0_)]) _
  obtain ⟨T29, h29, X29, e29, W29, st29⟩ := putF X28 hx hZ hown (host := "") (Or.inl (hw _ (List.mem_of_getElem? (i := 38) rfl))) Via.refl e28 F_language_q28 E1_q28 (Or.inr ⟨(hw _ (List.mem_of_getElem? (i := 39) rfl)), rfl, hnm⟩) (hw _ (List.mem_of_getElem? (i := 5) rfl)) (ty := (.object "java/lang/String")) (by decide) (own_narrowRef rfl hv7) (own_fitsRef rfl hv7) (g := (mkF m 40 #[.val (.ref a0_), .val (.ref o1), .val (.int i2), .val (.int i3), .val .null, .val .null, .val (.int i6), .val v7, .val (.int i8), .val v9, .val .null, .val .null, .val .null, .val (.int i13)] [v7, (.ref a0_)])) rfl rfl (hb hby d2_40)
  refine Go.step st29 ?_
  have N29 := Fr.snoc X29 N28 g1
  have F_language_a0__q29 := F_language_q28.same W29
  have E1_q29 := E1_q28.wr W29
  have F_hasDirection_q29 := F_hasDirection_q28.other W29 (Or.inr (slot_ne (Or.inr (hw _ (List.mem_of_getElem? (i := 41) rfl))) (Or.inr (hw _ (List.mem_of_getElem? (i := 39) rfl))) (by decide) (t := .boolean) (t' := (.object "java/lang/String")) (by decide) (by decide)))
  have F_direction_q29 := F_direction_q28.other W29 (Or.inr (slot_ne (Or.inr (hw _ (List.mem_of_getElem? (i := 43) rfl))) (Or.inr (hw _ (List.mem_of_getElem? (i := 39) rfl))) (by decide) (t := (.object "java/lang/String")) (t' := (.object "java/lang/String")) (by decide) (by decide)))
  have F_index_q29 := F_index_q28.other W29 (Or.inr (slot_ne (Or.inr (hw _ (List.mem_of_getElem? (i := 45) rfl))) (Or.inr (hw _ (List.mem_of_getElem? (i := 39) rfl))) (by decide) (t := (.object "java/lang/String")) (t' := (.object "java/lang/String")) (by decide) (by decide)))
  have F_scopedContext_q29 := F_scopedContext_q28.other W29 (Or.inr (slot_ne (Or.inr (hw _ (List.mem_of_getElem? (i := 47) rfl))) (Or.inr (hw _ (List.mem_of_getElem? (i := 39) rfl))) (by decide) (t := (.object "org/linkweave/core/TermDefinition$ScopedContext")) (t' := (.object "java/lang/String")) (by decide) (by decide)))
  have F_nest_q29 := F_nest_q28.other W29 (Or.inr (slot_ne (Or.inr (hw _ (List.mem_of_getElem? (i := 49) rfl))) (Or.inr (hw _ (List.mem_of_getElem? (i := 39) rfl))) (by decide) (t := (.object "java/lang/String")) (t' := (.object "java/lang/String")) (by decide) (by decide)))
  have F_protectedTerm_q29 := F_protectedTerm_q28.other W29 (Or.inr (slot_ne (Or.inr (hw _ (List.mem_of_getElem? (i := 51) rfl))) (Or.inr (hw _ (List.mem_of_getElem? (i := 39) rfl))) (by decide) (t := .boolean) (t' := (.object "java/lang/String")) (by decide) (by decide)))
  have F_iri_a0__q29 := F_iri_a0__q28.other W29 (Or.inr (slot_ne (Or.inr (hw _ (List.mem_of_getElem? (i := 27) rfl))) (Or.inr (hw _ (List.mem_of_getElem? (i := 39) rfl))) (by decide) (t := (.object "java/lang/String")) (t' := (.object "java/lang/String")) (by decide) (by decide)))
  have F_prefix_a0__q29 := F_prefix_a0__q28.other W29 (Or.inr (slot_ne (Or.inr (hw _ (List.mem_of_getElem? (i := 29) rfl))) (Or.inr (hw _ (List.mem_of_getElem? (i := 39) rfl))) (by decide) (t := .boolean) (t' := (.object "java/lang/String")) (by decide) (by decide)))
  have F_reverse_a0__q29 := F_reverse_a0__q28.other W29 (Or.inr (slot_ne (Or.inr (hw _ (List.mem_of_getElem? (i := 31) rfl))) (Or.inr (hw _ (List.mem_of_getElem? (i := 39) rfl))) (by decide) (t := .boolean) (t' := (.object "java/lang/String")) (by decide) (by decide)))
  have F_typeMapping_a0__q29 := F_typeMapping_a0__q28.other W29 (Or.inr (slot_ne (Or.inr (hw _ (List.mem_of_getElem? (i := 33) rfl))) (Or.inr (hw _ (List.mem_of_getElem? (i := 39) rfl))) (by decide) (t := (.object "java/lang/String")) (t' := (.object "java/lang/String")) (by decide) (by decide)))
  have F_container_a0__q29 := F_container_a0__q28.other W29 (Or.inr (slot_ne (Or.inr (hw _ (List.mem_of_getElem? (i := 35) rfl))) (Or.inr (hw _ (List.mem_of_getElem? (i := 39) rfl))) (by decide) (t := (.object "java/util/Set")) (t' := (.object "java/lang/String")) (by decide) (by decide)))
  have F_hasLanguage_a0__q29 := F_hasLanguage_a0__q28.other W29 (Or.inr (slot_ne (Or.inr (hw _ (List.mem_of_getElem? (i := 37) rfl))) (Or.inr (hw _ (List.mem_of_getElem? (i := 39) rfl))) (by decide) (t := .boolean) (t' := (.object "java/lang/String")) (by decide) (by decide)))
  have Z29 : n0 ≤ h29.size := by rw [W29.size]; exact Z28
  have K29 : Keep h0 h29 [a0_] := K28.wr W29 (Or.inl (List.mem_of_getElem? (i := 0) rfl))
  show Go p e below T29 (mkF m 43 #[.val (.ref a0_), .val (.ref o1), .val (.int i2), .val (.int i3), .val .null, .val .null, .val (.int i6), .val v7, .val (.int i8), .val v9, .val .null, .val .null, .val .null, .val (.int i13)] []) _
  refine Go.step (fun _ => XS.aloadN X29.here hx rfl (hb hby d2_43) rfl rfl ) ?_
  show Go p e below T29 (mkF m 44 #[.val (.ref a0_), .val (.ref o1), .val (.int i2), .val (.int i3), .val .null, .val .null, .val (.int i6), .val v7, .val (.int i8), .val v9, .val .null, .val .null, .val .null, .val (.int i13)] [(.ref a0_)]) _
  refine Go.step (fun _ => XS.iload X29.here hx rfl (hb hby d2_44) rfl ) ?_
  show Go p e below T29 (mkF m 46 #[.val (.ref a0_), .val (.ref o1), .val (.int i2), .val (.int i3), .val .null, .val .null, .val (.int i6), .val v7, .val (.int i8), .val v9, .val .null, .val .null, .val .null, .val (.int i13)] [(.int i8), (.ref a0_)]) _
  obtain ⟨T30, h30, X30, e30, W30, st30⟩ := putFN X29 hx hZ hown (hw _ (List.mem_of_getElem? (i := 40) rfl)) Via.refl e29 F_hasDirection_q29 E1_q29 (Or.inr ⟨(hw _ (List.mem_of_getElem? (i := 41) rfl)), rfl, hnm⟩) (hw _ (List.mem_of_getElem? (i := 5) rfl)) (ty := .boolean) (v' := .int (nar .boolean i8)) (by decide) rfl (fits_nar_bool _) (g := (mkF m 46 #[.val (.ref a0_), .val (.ref o1), .val (.int i2), .val (.int i3), .val .null, .val .null, .val (.int i6), .val v7, .val (.int i8), .val v9, .val .null, .val .null, .val .null, .val (.int i13)] [(.int i8), (.ref a0_)])) rfl rfl (hb hby d2_46)
  refine Go.step st30 ?_
  have N30 := Fr.snoc X30 N29 g1
  have F_hasDirection_a0__q30 := F_hasDirection_q29.same W30
  have E1_q30 := E1_q29.wr W30
  have F_direction_q30 := F_direction_q29.other W30 (Or.inr (slot_ne (Or.inr (hw _ (List.mem_of_getElem? (i := 43) rfl))) (Or.inr (hw _ (List.mem_of_getElem? (i := 41) rfl))) (by decide) (t := (.object "java/lang/String")) (t' := .boolean) (by decide) (by decide)))
  have F_index_q30 := F_index_q29.other W30 (Or.inr (slot_ne (Or.inr (hw _ (List.mem_of_getElem? (i := 45) rfl))) (Or.inr (hw _ (List.mem_of_getElem? (i := 41) rfl))) (by decide) (t := (.object "java/lang/String")) (t' := .boolean) (by decide) (by decide)))
  have F_scopedContext_q30 := F_scopedContext_q29.other W30 (Or.inr (slot_ne (Or.inr (hw _ (List.mem_of_getElem? (i := 47) rfl))) (Or.inr (hw _ (List.mem_of_getElem? (i := 41) rfl))) (by decide) (t := (.object "org/linkweave/core/TermDefinition$ScopedContext")) (t' := .boolean) (by decide) (by decide)))
  have F_nest_q30 := F_nest_q29.other W30 (Or.inr (slot_ne (Or.inr (hw _ (List.mem_of_getElem? (i := 49) rfl))) (Or.inr (hw _ (List.mem_of_getElem? (i := 41) rfl))) (by decide) (t := (.object "java/lang/String")) (t' := .boolean) (by decide) (by decide)))
  have F_protectedTerm_q30 := F_protectedTerm_q29.other W30 (Or.inr (slot_ne (Or.inr (hw _ (List.mem_of_getElem? (i := 51) rfl))) (Or.inr (hw _ (List.mem_of_getElem? (i := 41) rfl))) (by decide) (t := .boolean) (t' := .boolean) (by decide) (by decide)))
  have F_iri_a0__q30 := F_iri_a0__q29.other W30 (Or.inr (slot_ne (Or.inr (hw _ (List.mem_of_getElem? (i := 27) rfl))) (Or.inr (hw _ (List.mem_of_getElem? (i := 41) rfl))) (by decide) (t := (.object "java/lang/String")) (t' := .boolean) (by decide) (by decide)))
  have F_prefix_a0__q30 := F_prefix_a0__q29.other W30 (Or.inr (slot_ne (Or.inr (hw _ (List.mem_of_getElem? (i := 29) rfl))) (Or.inr (hw _ (List.mem_of_getElem? (i := 41) rfl))) (by decide) (t := .boolean) (t' := .boolean) (by decide) (by decide)))
  have F_reverse_a0__q30 := F_reverse_a0__q29.other W30 (Or.inr (slot_ne (Or.inr (hw _ (List.mem_of_getElem? (i := 31) rfl))) (Or.inr (hw _ (List.mem_of_getElem? (i := 41) rfl))) (by decide) (t := .boolean) (t' := .boolean) (by decide) (by decide)))
  have F_typeMapping_a0__q30 := F_typeMapping_a0__q29.other W30 (Or.inr (slot_ne (Or.inr (hw _ (List.mem_of_getElem? (i := 33) rfl))) (Or.inr (hw _ (List.mem_of_getElem? (i := 41) rfl))) (by decide) (t := (.object "java/lang/String")) (t' := .boolean) (by decide) (by decide)))
  have F_container_a0__q30 := F_container_a0__q29.other W30 (Or.inr (slot_ne (Or.inr (hw _ (List.mem_of_getElem? (i := 35) rfl))) (Or.inr (hw _ (List.mem_of_getElem? (i := 41) rfl))) (by decide) (t := (.object "java/util/Set")) (t' := .boolean) (by decide) (by decide)))
  have F_hasLanguage_a0__q30 := F_hasLanguage_a0__q29.other W30 (Or.inr (slot_ne (Or.inr (hw _ (List.mem_of_getElem? (i := 37) rfl))) (Or.inr (hw _ (List.mem_of_getElem? (i := 41) rfl))) (by decide) (t := .boolean) (t' := .boolean) (by decide) (by decide)))
  have F_language_a0__q30 := F_language_a0__q29.other W30 (Or.inr (slot_ne (Or.inr (hw _ (List.mem_of_getElem? (i := 39) rfl))) (Or.inr (hw _ (List.mem_of_getElem? (i := 41) rfl))) (by decide) (t := (.object "java/lang/String")) (t' := .boolean) (by decide) (by decide)))
  have Z30 : n0 ≤ h30.size := by rw [W30.size]; exact Z29
  have K30 : Keep h0 h30 [a0_] := K29.wr W30 (Or.inl (List.mem_of_getElem? (i := 0) rfl))
  show Go p e below T30 (mkF m 49 #[.val (.ref a0_), .val (.ref o1), .val (.int i2), .val (.int i3), .val .null, .val .null, .val (.int i6), .val v7, .val (.int i8), .val v9, .val .null, .val .null, .val .null, .val (.int i13)] []) _
  refine Go.step (fun _ => XS.aloadN X30.here hx rfl (hb hby d2_49) rfl rfl ) ?_
  show Go p e below T30 (mkF m 50 #[.val (.ref a0_), .val (.ref o1), .val (.int i2), .val (.int i3), .val .null, .val .null, .val (.int i6), .val v7, .val (.int i8), .val v9, .val .null, .val .null, .val .null, .val (.int i13)] [(.ref a0_)]) _
  refine Go.step (fun _ => XS.aload X30.here hx rfl (hb hby d2_50) rfl hv9 ) ?_
  show Go p e below T30 (mkF m 52 #[.val (.ref a0_), .val (.ref o1), .val (.int i2), .val (.int i3), .val .null, .val .null, .val (.int i6), .val v7, .val (.int i8), .val v9, .val .null, .val .null, .val .null, .val (.int i13)] [v9, (.ref a0_)]) _
  obtain ⟨T31, h31, X31, e31, W31, st31⟩ := putF X30 hx hZ hown (host := "") (Or.inl (hw _ (List.mem_of_getElem? (i := 42) rfl))) Via.refl e30 F_direction_q30 E1_q30 (Or.inr ⟨(hw _ (List.mem_of_getElem? (i := 43) rfl)), rfl, hnm⟩) (hw _ (List.mem_of_getElem? (i := 5) rfl)) (ty := (.object "java/lang/String")) (by decide) (own_narrowRef rfl hv9) (own_fitsRef rfl hv9) (g := (mkF m 52 #[.val (.ref a0_), .val (.ref o1), .val (.int i2), .val (.int i3), .val .null, .val .null, .val (.int i6), .val v7, .val (.int i8), .val v9, .val .null, .val .null, .val .null, .val (.int i13)] [v9, (.ref a0_)])) rfl rfl (hb hby d2_52)
  refine Go.step st31 ?_
  have N31 := Fr.snoc X31 N30 g1
  have F_direction_a0__q31 := F_direction_q30.same W31
  have E1_q31 := E1_q30.wr W31
  have F_index_q31 := F_index_q30.other W31 (Or.inr (slot_ne (Or.inr (hw _ (List.mem_of_getElem? (i := 45) rfl))) (Or.inr (hw _ (List.mem_of_getElem? (i := 43) rfl))) (by decide) (t := (.object "java/lang/String")) (t' := (.object "java/lang/String")) (by decide) (by decide)))
  have F_scopedContext_q31 := F_scopedContext_q30.other W31 (Or.inr (slot_ne (Or.inr (hw _ (List.mem_of_getElem? (i := 47) rfl))) (Or.inr (hw _ (List.mem_of_getElem? (i := 43) rfl))) (by decide) (t := (.object "org/linkweave/core/TermDefinition$ScopedContext")) (t' := (.object "java/lang/String")) (by decide) (by decide)))
  have F_nest_q31 := F_nest_q30.other W31 (Or.inr (slot_ne (Or.inr (hw _ (List.mem_of_getElem? (i := 49) rfl))) (Or.inr (hw _ (List.mem_of_getElem? (i := 43) rfl))) (by decide) (t := (.object "java/lang/String")) (t' := (.object "java/lang/String")) (by decide) (by decide)))
  have F_protectedTerm_q31 := F_protectedTerm_q30.other W31 (Or.inr (slot_ne (Or.inr (hw _ (List.mem_of_getElem? (i := 51) rfl))) (Or.inr (hw _ (List.mem_of_getElem? (i := 43) rfl))) (by decide) (t := .boolean) (t' := (.object "java/lang/String")) (by decide) (by decide)))
  have F_iri_a0__q31 := F_iri_a0__q30.other W31 (Or.inr (slot_ne (Or.inr (hw _ (List.mem_of_getElem? (i := 27) rfl))) (Or.inr (hw _ (List.mem_of_getElem? (i := 43) rfl))) (by decide) (t := (.object "java/lang/String")) (t' := (.object "java/lang/String")) (by decide) (by decide)))
  have F_prefix_a0__q31 := F_prefix_a0__q30.other W31 (Or.inr (slot_ne (Or.inr (hw _ (List.mem_of_getElem? (i := 29) rfl))) (Or.inr (hw _ (List.mem_of_getElem? (i := 43) rfl))) (by decide) (t := .boolean) (t' := (.object "java/lang/String")) (by decide) (by decide)))
  have F_reverse_a0__q31 := F_reverse_a0__q30.other W31 (Or.inr (slot_ne (Or.inr (hw _ (List.mem_of_getElem? (i := 31) rfl))) (Or.inr (hw _ (List.mem_of_getElem? (i := 43) rfl))) (by decide) (t := .boolean) (t' := (.object "java/lang/String")) (by decide) (by decide)))
  have F_typeMapping_a0__q31 := F_typeMapping_a0__q30.other W31 (Or.inr (slot_ne (Or.inr (hw _ (List.mem_of_getElem? (i := 33) rfl))) (Or.inr (hw _ (List.mem_of_getElem? (i := 43) rfl))) (by decide) (t := (.object "java/lang/String")) (t' := (.object "java/lang/String")) (by decide) (by decide)))
  have F_container_a0__q31 := F_container_a0__q30.other W31 (Or.inr (slot_ne (Or.inr (hw _ (List.mem_of_getElem? (i := 35) rfl))) (Or.inr (hw _ (List.mem_of_getElem? (i := 43) rfl))) (by decide) (t := (.object "java/util/Set")) (t' := (.object "java/lang/String")) (by decide) (by decide)))
  have F_hasLanguage_a0__q31 := F_hasLanguage_a0__q30.other W31 (Or.inr (slot_ne (Or.inr (hw _ (List.mem_of_getElem? (i := 37) rfl))) (Or.inr (hw _ (List.mem_of_getElem? (i := 43) rfl))) (by decide) (t := .boolean) (t' := (.object "java/lang/String")) (by decide) (by decide)))
  have F_language_a0__q31 := F_language_a0__q30.other W31 (Or.inr (slot_ne (Or.inr (hw _ (List.mem_of_getElem? (i := 39) rfl))) (Or.inr (hw _ (List.mem_of_getElem? (i := 43) rfl))) (by decide) (t := (.object "java/lang/String")) (t' := (.object "java/lang/String")) (by decide) (by decide)))
  have F_hasDirection_a0__q31 := F_hasDirection_a0__q30.other W31 (Or.inr (slot_ne (Or.inr (hw _ (List.mem_of_getElem? (i := 41) rfl))) (Or.inr (hw _ (List.mem_of_getElem? (i := 43) rfl))) (by decide) (t := .boolean) (t' := (.object "java/lang/String")) (by decide) (by decide)))
  have Z31 : n0 ≤ h31.size := by rw [W31.size]; exact Z30
  have K31 : Keep h0 h31 [a0_] := K30.wr W31 (Or.inl (List.mem_of_getElem? (i := 0) rfl))
  show Go p e below T31 (mkF m 55 #[.val (.ref a0_), .val (.ref o1), .val (.int i2), .val (.int i3), .val .null, .val .null, .val (.int i6), .val v7, .val (.int i8), .val v9, .val .null, .val .null, .val .null, .val (.int i13)] []) _
  refine Go.step (fun _ => XS.aloadN X31.here hx rfl (hb hby d2_55) rfl rfl ) ?_
  show Go p e below T31 (mkF m 56 #[.val (.ref a0_), .val (.ref o1), .val (.int i2), .val (.int i3), .val .null, .val .null, .val (.int i6), .val v7, .val (.int i8), .val v9, .val .null, .val .null, .val .null, .val (.int i13)] [(.ref a0_)]) _
  refine Go.step (fun _ => XS.aload X31.here hx rfl (hb hby d2_56) rfl rfl ) ?_
  show Go p e below T31 (mkF m 58 #[.val (.ref a0_), .val (.ref o1), .val (.int i2), .val (.int i3), .val .null, .val .null, .val (.int i6), .val v7, .val (.int i8), .val v9, .val .null, .val .null, .val .null, .val (.int i13)] [.null, (.ref a0_)]) _
  obtain ⟨T32, h32, X32, e32, W32, st32⟩ := putF X31 hx hZ hown (host := "") (Or.inl (hw _ (List.mem_of_getElem? (i := 44) rfl))) Via.refl e31 F_index_q31 E1_q31 (Or.inr ⟨(hw _ (List.mem_of_getElem? (i := 45) rfl)), rfl, hnm⟩) (hw _ (List.mem_of_getElem? (i := 5) rfl)) (ty := (.object "java/lang/String")) (by decide) rfl rfl (g := (mkF m 58 #[.val (.ref a0_), .val (.ref o1), .val (.int i2), .val (.int i3), .val .null, .val .null, .val (.int i6), .val v7, .val (.int i8), .val v9, .val .null, .val .null, .val .null, .val (.int i13)] [.null, (.ref a0_)])) rfl rfl (hb hby d2_58)
  refine Go.step st32 ?_
  have N32 := Fr.snoc X32 N31 g1
  have F_index_a0__q32 := F_index_q31.same W32
  have E1_q32 := E1_q31.wr W32
  have F_scopedContext_q32 := F_scopedContext_q31.other W32 (Or.inr (slot_ne (Or.inr (hw _ (List.mem_of_getElem? (i := 47) rfl))) (Or.inr (hw _ (List.mem_of_getElem? (i := 45) rfl))) (by decide) (t := (.object "org/linkweave/core/TermDefinition$ScopedContext")) (t' := (.object "java/lang/String")) (by decide) (by decide)))
  have F_nest_q32 := F_nest_q31.other W32 (Or.inr (slot_ne (Or.inr (hw _ (List.mem_of_getElem? (i := 49) rfl))) (Or.inr (hw _ (List.mem_of_getElem? (i := 45) rfl))) (by decide) (t := (.object "java/lang/String")) (t' := (.object "java/lang/String")) (by decide) (by decide)))
  have F_protectedTerm_q32 := F_protectedTerm_q31.other W32 (Or.inr (slot_ne (Or.inr (hw _ (List.mem_of_getElem? (i := 51) rfl))) (Or.inr (hw _ (List.mem_of_getElem? (i := 45) rfl))) (by decide) (t := .boolean) (t' := (.object "java/lang/String")) (by decide) (by decide)))
  have F_iri_a0__q32 := F_iri_a0__q31.other W32 (Or.inr (slot_ne (Or.inr (hw _ (List.mem_of_getElem? (i := 27) rfl))) (Or.inr (hw _ (List.mem_of_getElem? (i := 45) rfl))) (by decide) (t := (.object "java/lang/String")) (t' := (.object "java/lang/String")) (by decide) (by decide)))
  have F_prefix_a0__q32 := F_prefix_a0__q31.other W32 (Or.inr (slot_ne (Or.inr (hw _ (List.mem_of_getElem? (i := 29) rfl))) (Or.inr (hw _ (List.mem_of_getElem? (i := 45) rfl))) (by decide) (t := .boolean) (t' := (.object "java/lang/String")) (by decide) (by decide)))
  have F_reverse_a0__q32 := F_reverse_a0__q31.other W32 (Or.inr (slot_ne (Or.inr (hw _ (List.mem_of_getElem? (i := 31) rfl))) (Or.inr (hw _ (List.mem_of_getElem? (i := 45) rfl))) (by decide) (t := .boolean) (t' := (.object "java/lang/String")) (by decide) (by decide)))
  have F_typeMapping_a0__q32 := F_typeMapping_a0__q31.other W32 (Or.inr (slot_ne (Or.inr (hw _ (List.mem_of_getElem? (i := 33) rfl))) (Or.inr (hw _ (List.mem_of_getElem? (i := 45) rfl))) (by decide) (t := (.object "java/lang/String")) (t' := (.object "java/lang/String")) (by decide) (by decide)))
  have F_container_a0__q32 := F_container_a0__q31.other W32 (Or.inr (slot_ne (Or.inr (hw _ (List.mem_of_getElem? (i := 35) rfl))) (Or.inr (hw _ (List.mem_of_getElem? (i := 45) rfl))) (by decide) (t := (.object "java/util/Set")) (t' := (.object "java/lang/String")) (by decide) (by decide)))
  have F_hasLanguage_a0__q32 := F_hasLanguage_a0__q31.other W32 (Or.inr (slot_ne (Or.inr (hw _ (List.mem_of_getElem? (i := 37) rfl))) (Or.inr (hw _ (List.mem_of_getElem? (i := 45) rfl))) (by decide) (t := .boolean) (t' := (.object "java/lang/String")) (by decide) (by decide)))
  have F_language_a0__q32 := F_language_a0__q31.other W32 (Or.inr (slot_ne (Or.inr (hw _ (List.mem_of_getElem? (i := 39) rfl))) (Or.inr (hw _ (List.mem_of_getElem? (i := 45) rfl))) (by decide) (t := (.object "java/lang/String")) (t' := (.object "java/lang/String")) (by decide) (by decide)))
  have F_hasDirection_a0__q32 := F_hasDirection_a0__q31.other W32 (Or.inr (slot_ne (Or.inr (hw _ (List.mem_of_getElem? (i := 41) rfl))) (Or.inr (hw _ (List.mem_of_getElem? (i := 45) rfl))) (by decide) (t := .boolean) (t' := (.object "java/lang/String")) (by decide) (by decide)))
  have F_direction_a0__q32 := F_direction_a0__q31.other W32 (Or.inr (slot_ne (Or.inr (hw _ (List.mem_of_getElem? (i := 43) rfl))) (Or.inr (hw _ (List.mem_of_getElem? (i := 45) rfl))) (by decide) (t := (.object "java/lang/String")) (t' := (.object "java/lang/String")) (by decide) (by decide)))
  have Z32 : n0 ≤ h32.size := by rw [W32.size]; exact Z31
  have K32 : Keep h0 h32 [a0_] := K31.wr W32 (Or.inl (List.mem_of_getElem? (i := 0) rfl))
  show Go p e below T32 (mkF m 61 #[.val (.ref a0_), .val (.ref o1), .val (.int i2), .val (.int i3), .val .null, .val .null, .val (.int i6), .val v7, .val (.int i8), .val v9, .val .null, .val .null, .val .null, .val (.int i13)] []) _
  refine Go.step (fun _ => XS.aloadN X32.here hx rfl (hb hby d2_61) rfl rfl ) ?_
  show Go p e below T32 (mkF m 62 #[.val (.ref a0_), .val (.ref o1), .val (.int i2), .val (.int i3), .val .null, .val .null, .val (.int i6), .val v7, .val (.int i8), .val v9, .val .null, .val .null, .val .null, .val (.int i13)] [(.ref a0_)]) _
  refine Go.step (fun _ => XS.aload X32.here hx rfl (hb hby d2_62) rfl rfl ) ?_
  show Go p e below T32 (mkF m 64 #[.val (.ref a0_), .val (.ref o1), .val (.int i2), .val (.int i3), .val .null, .val .null, .val (.int i6), .val v7, .val (.int i8), .val v9, .val .null, .val .null, .val .null, .val (.int i13)] [.null, (.ref a0_)]) _
  obtain ⟨T33, h33, X33, e33, W33, st33⟩ := putF X32 hx hZ hown (host := "") (Or.inl (hw _ (List.mem_of_getElem? (i := 46) rfl))) Via.refl e32 F_scopedContext_q32 E1_q32 (Or.inr ⟨(hw _ (List.mem_of_getElem? (i := 47) rfl)), rfl, hnm⟩) (hw _ (List.mem_of_getElem? (i := 5) rfl)) (ty := (.object "org/linkweave/core/TermDefinition$ScopedContext")) (by decide) rfl rfl (g := (mkF m 64 #[.val (.ref a0_), .val (.ref o1), .val (.int i2), .val (.int i3), .val .null, .val .null, .val (.int i6), .val v7, .val (.int i8), .val v9, .val .null, .val .null, .val .null, .val (.int i13)] [.null, (.ref a0_)])) rfl rfl (hb hby d2_64)
  refine Go.step st33 ?_
  have N33 := Fr.snoc X33 N32 g1
  have F_scopedContext_a0__q33 := F_scopedContext_q32.same W33
  have E1_q33 := E1_q32.wr W33
  have F_nest_q33 := F_nest_q32.other W33 (Or.inr (slot_ne (Or.inr (hw _ (List.mem_of_getElem? (i := 49) rfl))) (Or.inr (hw _ (List.mem_of_getElem? (i := 47) rfl))) (by decide) (t := (.object "java/lang/String")) (t' := (.object "org/linkweave/core/TermDefinition$ScopedContext")) (by decide) (by decide)))
  have F_protectedTerm_q33 := F_protectedTerm_q32.other W33 (Or.inr (slot_ne (Or.inr (hw _ (List.mem_of_getElem? (i := 51) rfl))) (Or.inr (hw _ (List.mem_of_getElem? (i := 47) rfl))) (by decide) (t := .boolean) (t' := (.object "org/linkweave/core/TermDefinition$ScopedContext")) (by decide) (by decide)))
  have F_iri_a0__q33 := F_iri_a0__q32.other W33 (Or.inr (slot_ne (Or.inr (hw _ (List.mem_of_getElem? (i := 27) rfl))) (Or.inr (hw _ (List.mem_of_getElem? (i := 47) rfl))) (by decide) (t := (.object "java/lang/String")) (t' := (.object "org/linkweave/core/TermDefinition$ScopedContext")) (by decide) (by decide)))
  have F_prefix_a0__q33 := F_prefix_a0__q32.other W33 (Or.inr (slot_ne (Or.inr (hw _ (List.mem_of_getElem? (i := 29) rfl))) (Or.inr (hw _ (List.mem_of_getElem? (i := 47) rfl))) (by decide) (t := .boolean) (t' := (.object "org/linkweave/core/TermDefinition$ScopedContext")) (by decide) (by decide)))
  have F_reverse_a0__q33 := F_reverse_a0__q32.other W33 (Or.inr (slot_ne (Or.inr (hw _ (List.mem_of_getElem? (i := 31) rfl))) (Or.inr (hw _ (List.mem_of_getElem? (i := 47) rfl))) (by decide) (t := .boolean) (t' := (.object "org/linkweave/core/TermDefinition$ScopedContext")) (by decide) (by decide)))
  have F_typeMapping_a0__q33 := F_typeMapping_a0__q32.other W33 (Or.inr (slot_ne (Or.inr (hw _ (List.mem_of_getElem? (i := 33) rfl))) (Or.inr (hw _ (List.mem_of_getElem? (i := 47) rfl))) (by decide) (t := (.object "java/lang/String")) (t' := (.object "org/linkweave/core/TermDefinition$ScopedContext")) (by decide) (by decide)))
  have F_container_a0__q33 := F_container_a0__q32.other W33 (Or.inr (slot_ne (Or.inr (hw _ (List.mem_of_getElem? (i := 35) rfl))) (Or.inr (hw _ (List.mem_of_getElem? (i := 47) rfl))) (by decide) (t := (.object "java/util/Set")) (t' := (.object "org/linkweave/core/TermDefinition$ScopedContext")) (by decide) (by decide)))
  have F_hasLanguage_a0__q33 := F_hasLanguage_a0__q32.other W33 (Or.inr (slot_ne (Or.inr (hw _ (List.mem_of_getElem? (i := 37) rfl))) (Or.inr (hw _ (List.mem_of_getElem? (i := 47) rfl))) (by decide) (t := .boolean) (t' := (.object "org/linkweave/core/TermDefinition$ScopedContext")) (by decide) (by decide)))
  have F_language_a0__q33 := F_language_a0__q32.other W33 (Or.inr (slot_ne (Or.inr (hw _ (List.mem_of_getElem? (i := 39) rfl))) (Or.inr (hw _ (List.mem_of_getElem? (i := 47) rfl))) (by decide) (t := (.object "java/lang/String")) (t' := (.object "org/linkweave/core/TermDefinition$ScopedContext")) (by decide) (by decide)))
  have F_hasDirection_a0__q33 := F_hasDirection_a0__q32.other W33 (Or.inr (slot_ne (Or.inr (hw _ (List.mem_of_getElem? (i := 41) rfl))) (Or.inr (hw _ (List.mem_of_getElem? (i := 47) rfl))) (by decide) (t := .boolean) (t' := (.object "org/linkweave/core/TermDefinition$ScopedContext")) (by decide) (by decide)))
  have F_direction_a0__q33 := F_direction_a0__q32.other W33 (Or.inr (slot_ne (Or.inr (hw _ (List.mem_of_getElem? (i := 43) rfl))) (Or.inr (hw _ (List.mem_of_getElem? (i := 47) rfl))) (by decide) (t := (.object "java/lang/String")) (t' := (.object "org/linkweave/core/TermDefinition$ScopedContext")) (by decide) (by decide)))
  have F_index_a0__q33 := F_index_a0__q32.other W33 (Or.inr (slot_ne (Or.inr (hw _ (List.mem_of_getElem? (i := 45) rfl))) (Or.inr (hw _ (List.mem_of_getElem? (i := 47) rfl))) (by decide) (t := (.object "java/lang/String")) (t' := (.object "org/linkweave/core/TermDefinition$ScopedContext")) (by decide) (by decide)))
  have Z33 : n0 ≤ h33.size := by rw [W33.size]; exact Z32
  have K33 : Keep h0 h33 [a0_] := K32.wr W33 (Or.inl (List.mem_of_getElem? (i := 0) rfl))
  show Go p e below T33 (mkF m 67 #[.val (.ref a0_), .val (.ref o1), .val (.int i2), .val (.int i3), .val .null, .val .null, .val (.int i6), .val v7, .val (.int i8), .val v9, .val .null, .val .null, .val .null, .val (.int i13)] []) _
  refine Go.step (fun _ => XS.aloadN X33.here hx rfl (hb hby d2_67) rfl rfl ) ?_
  show Go p e below T33 (mkF m 68 #[.val (.ref a0_), .val (.ref o1), .val (.int i2), .val (.int i3), .val .null, .val .null, .val (.int i6), .val v7, .val (.int i8), .val v9, .val .null, .val .null, .val .null, .val (.int i13)] [(.ref a0_)]) _
  refine Go.step (fun _ => XS.aload X33.here hx rfl (hb hby d2_68) rfl rfl ) ?_
  show Go p e below T33 (mkF m 70 #[.val (.ref a0_), .val (.ref o1), .val (.int i2), .val (.int i3), .val .null, .val .null, .val (.int i6), .val v7, .val (.int i8), .val v9, .val .null, .val .null, .val .null, .val (.int i13)] [.null, (.ref a0_)]) _
  obtain ⟨T34, h34, X34, e34, W34, st34⟩ := putF X33 hx hZ hown (host := "") (Or.inl (hw _ (List.mem_of_getElem? (i := 48) rfl))) Via.refl e33 F_nest_q33 E1_q33 (Or.inr ⟨(hw _ (List.mem_of_getElem? (i := 49) rfl)), rfl, hnm⟩) (hw _ (List.mem_of_getElem? (i := 5) rfl)) (ty := (.object "java/lang/String")) (by decide) rfl rfl (g := (mkF m 70 #[.val (.ref a0_), .val (.ref o1), .val (.int i2), .val (.int i3), .val .null, .val .null, .val (.int i6), .val v7, .val (.int i8), .val v9, .val .null, .val .null, .val .null, .val (.int i13)] [.null, (.ref a0_)])) rfl rfl (hb hby d2_70)
  refine Go.step st34 ?_
  have N34 := Fr.snoc X34 N33 g1
  have F_nest_a0__q34 := F_nest_q33.same W34
  have E1_q34 := E1_q33.wr W34
  have F_protectedTerm_q34 := F_protectedTerm_q33.other W34 (Or.inr (slot_ne (Or.inr (hw _ (List.mem_of_getElem? (i := 51) rfl))) (Or.inr (hw _ (List.mem_of_getElem? (i := 49) rfl))) (by decide) (t := .boolean) (t' := (.object "java/lang/String")) (by decide) (by decide)))
  have F_iri_a0__q34 := F_iri_a0__q33.other W34 (Or.inr (slot_ne (Or.inr (hw _ (List.mem_of_getElem? (i := 27) rfl))) (Or.inr (hw _ (List.mem_of_getElem? (i := 49) rfl))) (by decide) (t := (.object "java/lang/String")) (t' := (.object "java/lang/String")) (by decide) (by decide)))
  have F_prefix_a0__q34 := F_prefix_a0__q33.other W34 (Or.inr (slot_ne (Or.inr (hw _ (List.mem_of_getElem? (i := 29) rfl))) (Or.inr (hw _ (List.mem_of_getElem? (i := 49) rfl))) (by decide) (t := .boolean) (t' := (.object "java/lang/String")) (by decide) (by decide)))
  have F_reverse_a0__q34 := F_reverse_a0__q33.other W34 (Or.inr (slot_ne (Or.inr (hw _ (List.mem_of_getElem? (i := 31) rfl))) (Or.inr (hw _ (List.mem_of_getElem? (i := 49) rfl))) (by decide) (t := .boolean) (t' := (.object "java/lang/String")) (by decide) (by decide)))
  have F_typeMapping_a0__q34 := F_typeMapping_a0__q33.other W34 (Or.inr (slot_ne (Or.inr (hw _ (List.mem_of_getElem? (i := 33) rfl))) (Or.inr (hw _ (List.mem_of_getElem? (i := 49) rfl))) (by decide) (t := (.object "java/lang/String")) (t' := (.object "java/lang/String")) (by decide) (by decide)))
  have F_container_a0__q34 := F_container_a0__q33.other W34 (Or.inr (slot_ne (Or.inr (hw _ (List.mem_of_getElem? (i := 35) rfl))) (Or.inr (hw _ (List.mem_of_getElem? (i := 49) rfl))) (by decide) (t := (.object "java/util/Set")) (t' := (.object "java/lang/String")) (by decide) (by decide)))
  have F_hasLanguage_a0__q34 := F_hasLanguage_a0__q33.other W34 (Or.inr (slot_ne (Or.inr (hw _ (List.mem_of_getElem? (i := 37) rfl))) (Or.inr (hw _ (List.mem_of_getElem? (i := 49) rfl))) (by decide) (t := .boolean) (t' := (.object "java/lang/String")) (by decide) (by decide)))
  have F_language_a0__q34 := F_language_a0__q33.other W34 (Or.inr (slot_ne (Or.inr (hw _ (List.mem_of_getElem? (i := 39) rfl))) (Or.inr (hw _ (List.mem_of_getElem? (i := 49) rfl))) (by decide) (t := (.object "java/lang/String")) (t' := (.object "java/lang/String")) (by decide) (by decide)))
  have F_hasDirection_a0__q34 := F_hasDirection_a0__q33.other W34 (Or.inr (slot_ne (Or.inr (hw _ (List.mem_of_getElem? (i := 41) rfl))) (Or.inr (hw _ (List.mem_of_getElem? (i := 49) rfl))) (by decide) (t := .boolean) (t' := (.object "java/lang/String")) (by decide) (by decide)))
  have F_direction_a0__q34 := F_direction_a0__q33.other W34 (Or.inr (slot_ne (Or.inr (hw _ (List.mem_of_getElem? (i := 43) rfl))) (Or.inr (hw _ (List.mem_of_getElem? (i := 49) rfl))) (by decide) (t := (.object "java/lang/String")) (t' := (.object "java/lang/String")) (by decide) (by decide)))
  have F_index_a0__q34 := F_index_a0__q33.other W34 (Or.inr (slot_ne (Or.inr (hw _ (List.mem_of_getElem? (i := 45) rfl))) (Or.inr (hw _ (List.mem_of_getElem? (i := 49) rfl))) (by decide) (t := (.object "java/lang/String")) (t' := (.object "java/lang/String")) (by decide) (by decide)))
  have F_scopedContext_a0__q34 := F_scopedContext_a0__q33.other W34 (Or.inr (slot_ne (Or.inr (hw _ (List.mem_of_getElem? (i := 47) rfl))) (Or.inr (hw _ (List.mem_of_getElem? (i := 49) rfl))) (by decide) (t := (.object "org/linkweave/core/TermDefinition$ScopedContext")) (t' := (.object "java/lang/String")) (by decide) (by decide)))
  have Z34 : n0 ≤ h34.size := by rw [W34.size]; exact Z33
  have K34 : Keep h0 h34 [a0_] := K33.wr W34 (Or.inl (List.mem_of_getElem? (i := 0) rfl))
  show Go p e below T34 (mkF m 73 #[.val (.ref a0_), .val (.ref o1), .val (.int i2), .val (.int i3), .val .null, .val .null, .val (.int i6), .val v7, .val (.int i8), .val v9, .val .null, .val .null, .val .null, .val (.int i13)] []) _
  refine Go.step (fun _ => XS.aloadN X34.here hx rfl (hb hby d2_73) rfl rfl ) ?_
  show Go p e below T34 (mkF m 74 #[.val (.ref a0_), .val (.ref o1), .val (.int i2), .val (.int i3), .val .null, .val .null, .val (.int i6), .val v7, .val (.int i8), .val v9, .val .null, .val .null, .val .null, .val (.int i13)] [(.ref a0_)]) _
  refine Go.step (fun _ => XS.iload X34.here hx rfl (hb hby d2_74) rfl ) ?_
  show Go p e below T34 (mkF m 76 #[.val (.ref a0_), .val (.ref o1), .val (.int i2), .val (.int i3), .val .null, .val .null, .val (.int i6), .val v7, .val (.int i8), .val v9, .val .null, .val .null, .val .null, .val (.int i13)] [(.int i13), (.ref a0_)]) _
  obtain ⟨T35, h35, X35, e35, W35, st35⟩ := putFN X34 hx hZ hown (hw _ (List.mem_of_getElem? (i := 50) rfl)) Via.refl e34 F_protectedTerm_q34 E1_q34 (Or.inr ⟨(hw _ (List.mem_of_getElem? (i := 51) rfl)), rfl, hnm⟩) (hw _ (List.mem_of_getElem? (i := 5) rfl)) (ty := .boolean) (v' := .int (nar .boolean i13)) (by decide) rfl (fits_nar_bool _) (g := (mkF m 76 #[.val (.ref a0_), .val (.ref o1), .val (.int i2), .val (.int i3), .val .null, .val .null, .val (.int i6), .val v7, .val (.int i8), .val v9, .val .null, .val .null, .val .null, .val (.int i13)] [(.int i13), (.ref a0_)])) rfl rfl (hb hby d2_76)
  refine Go.step st35 ?_
  have N35 := Fr.snoc X35 N34 g1
  have F_protectedTerm_a0__q35 := F_protectedTerm_q34.same W35
  have E1_q35 := E1_q34.wr W35
  have F_iri_a0__q35 := F_iri_a0__q34.other W35 (Or.inr (slot_ne (Or.inr (hw _ (List.mem_of_getElem? (i := 27) rfl))) (Or.inr (hw _ (List.mem_of_getElem? (i := 51) rfl))) (by decide) (t := (.object "java/lang/String")) (t' := .boolean) (by decide) (by decide)))
  have F_prefix_a0__q35 := F_prefix_a0__q34.other W35 (Or.inr (slot_ne (Or.inr (hw _ (List.mem_of_getElem? (i := 29) rfl))) (Or.inr (hw _ (List.mem_of_getElem? (i := 51) rfl))) (by decide) (t := .boolean) (t' := .boolean) (by decide) (by decide)))
  have F_reverse_a0__q35 := F_reverse_a0__q34.other W35 (Or.inr (slot_ne (Or.inr (hw _ (List.mem_of_getElem? (i := 31) rfl))) (Or.inr (hw _ (List.mem_of_getElem? (i := 51) rfl))) (by decide) (t := .boolean) (t' := .boolean) (by decide) (by decide)))
  have F_typeMapping_a0__q35 := F_typeMapping_a0__q34.other W35 (Or.inr (slot_ne (Or.inr (hw _ (List.mem_of_getElem? (i := 33) rfl))) (Or.inr (hw _ (List.mem_of_getElem? (i := 51) rfl))) (by decide) (t := (.object "java/lang/String")) (t' := .boolean) (by decide) (by decide)))
  have F_container_a0__q35 := F_container_a0__q34.other W35 (Or.inr (slot_ne (Or.inr (hw _ (List.mem_of_getElem? (i := 35) rfl))) (Or.inr (hw _ (List.mem_of_getElem? (i := 51) rfl))) (by decide) (t := (.object "java/util/Set")) (t' := .boolean) (by decide) (by decide)))
  have F_hasLanguage_a0__q35 := F_hasLanguage_a0__q34.other W35 (Or.inr (slot_ne (Or.inr (hw _ (List.mem_of_getElem? (i := 37) rfl))) (Or.inr (hw _ (List.mem_of_getElem? (i := 51) rfl))) (by decide) (t := .boolean) (t' := .boolean) (by decide) (by decide)))
  have F_language_a0__q35 := F_language_a0__q34.other W35 (Or.inr (slot_ne (Or.inr (hw _ (List.mem_of_getElem? (i := 39) rfl))) (Or.inr (hw _ (List.mem_of_getElem? (i := 51) rfl))) (by decide) (t := (.object "java/lang/String")) (t' := .boolean) (by decide) (by decide)))
  have F_hasDirection_a0__q35 := F_hasDirection_a0__q34.other W35 (Or.inr (slot_ne (Or.inr (hw _ (List.mem_of_getElem? (i := 41) rfl))) (Or.inr (hw _ (List.mem_of_getElem? (i := 51) rfl))) (by decide) (t := .boolean) (t' := .boolean) (by decide) (by decide)))
  have F_direction_a0__q35 := F_direction_a0__q34.other W35 (Or.inr (slot_ne (Or.inr (hw _ (List.mem_of_getElem? (i := 43) rfl))) (Or.inr (hw _ (List.mem_of_getElem? (i := 51) rfl))) (by decide) (t := (.object "java/lang/String")) (t' := .boolean) (by decide) (by decide)))
  have F_index_a0__q35 := F_index_a0__q34.other W35 (Or.inr (slot_ne (Or.inr (hw _ (List.mem_of_getElem? (i := 45) rfl))) (Or.inr (hw _ (List.mem_of_getElem? (i := 51) rfl))) (by decide) (t := (.object "java/lang/String")) (t' := .boolean) (by decide) (by decide)))
  have F_scopedContext_a0__q35 := F_scopedContext_a0__q34.other W35 (Or.inr (slot_ne (Or.inr (hw _ (List.mem_of_getElem? (i := 47) rfl))) (Or.inr (hw _ (List.mem_of_getElem? (i := 51) rfl))) (by decide) (t := (.object "org/linkweave/core/TermDefinition$ScopedContext")) (t' := .boolean) (by decide) (by decide)))
  have F_nest_a0__q35 := F_nest_a0__q34.other W35 (Or.inr (slot_ne (Or.inr (hw _ (List.mem_of_getElem? (i := 49) rfl))) (Or.inr (hw _ (List.mem_of_getElem? (i := 51) rfl))) (by decide) (t := (.object "java/lang/String")) (t' := .boolean) (by decide) (by decide)))
  have Z35 : n0 ≤ h35.size := by rw [W35.size]; exact Z34
  have K35 : Keep h0 h35 [a0_] := K34.wr W35 (Or.inl (List.mem_of_getElem? (i := 0) rfl))
  show Go p e below T35 (mkF m 79 #[.val (.ref a0_), .val (.ref o1), .val (.int i2), .val (.int i3), .val .null, .val .null, .val (.int i6), .val v7, .val (.int i8), .val v9, .val .null, .val .null, .val .null, .val (.int i13)] []) _
  refine Go.ret0 X35 hx hret hlk (hb hby d2_79) ?_ (by decide) (by decide)
  rw [e35]
  exact ⟨rfl, N35, K35, E1_q35, F_hasDirection_a0__q35, F_direction_a0__q35⟩
theorem d5_0 : decode prog_76_method_4_code 0 = .ok (.aload_n 0, 1) := by decide +kernel
theorem d5_1 : decode prog_76_method_4_code 1 = .ok (.getfield 33, 3) := by decide +kernel
theorem d5_4 : decode prog_76_method_4_code 4 = .ok (.ifCond .eq 10, 3) := by decide +kernel
theorem d5_7 : decode prog_76_method_4_code 7 = .ok (.aload_n 0, 1) := by decide +kernel
theorem d5_8 : decode prog_76_method_4_code 8 = .ok (.getfield 36, 3) := by decide +kernel
theorem d5_11 : decode prog_76_method_4_code 11 = .ok (.goto 4, 3) := by decide +kernel
theorem d5_14 : decode prog_76_method_4_code 14 = .ok (.aload_n 1, 1) := by decide +kernel
theorem d5_15 : decode prog_76_method_4_code 15 = .ok (.areturn, 1) := by decide +kernel
theorem ef_rmDi (m : MethodId) (x0 : Addr) (x1 : Value) (hx1 : x1.isRef = true) : entryFrame m #[(.ref x0), x1] 2 = mkF m 0 #[.val (.ref x0), .val x1] [] := by rcases ref_cases hx1 with rfl | ⟨yx1, rfl⟩ <;> first | (simp [entryFrame, mkF, argsToLocals, Value.category]; done) | rfl
def QDi (Z : State) (a1 : Addr) (vd : Value) (b : Int32) (vl r : Value) (h0 : Heap) (n0 : Nat) (v : Option Value) (h : Heap) (L : List Loc) : Prop := v = some r ∧ Fr n0 L ∧ h = h0
set_option maxRecDepth 65536 in
set_option maxHeartbeats 40000000 in
theorem rmDi (l : Launch) (Z : State) (a0 : Array Value) (hw : ∀ d ∈ tables_1, d.before a0 Z = true) (ws : List Jvm.Cond) (a1 : Addr) (vd : Value) (b : Int32) (vl r : Value) (h0 : Heap) (n0 : Nat) (Z0 : n0 ≤ h0.size) (FB : Fld Z h0 a1 "org/linkweave/core/TermDefinition" "hasDirection" "Z" (.int b)) (FL : Fld Z h0 a1 "org/linkweave/core/TermDefinition" "direction" "Ljava/lang/String;" vl) (hvd : vd.isRef = true) (hvl : vl.isRef = true) (hr : r = if b = 0 then vd else vl) :
    MetFree l (⟨"org/linkweave/core/TermDefinition", "direction", "(Ljava/lang/String;)Ljava/lang/String;"⟩ : MethodName) (head1 (Jvm.Cond.code (⟨"org/linkweave/core/TermDefinition", "direction", "(Ljava/lang/String;)Ljava/lang/String;"⟩ : MethodName) prog_76_method_4_code 2 (some (.object "java/lang/String")) :: ws) ({ frames := 0, cells := 0, slots := 0, locals := 0 } : Room)) (fun as' U => as' = #[(.ref a1), vd] ∧ Z.Warmed39 U.vm ∧ U.heap = h0) (fun _ _ _ _ _ => True) (fun _ U o U' => ∃ v L, o = .returned v ∧ QDi Z a1 vd b vl r h0 n0 v U'.heap L ∧ FrameEnd U o U' L ({ frames := 0, cells := 0, slots := 0, locals := 0 } : Room).cells ({ frames := 0, cells := 0, slots := 0, locals := 0 } : Room).slots) := by
  refine MetFree.of_bodySF (plainFor_of_name pn_4) hisR ?_
  intro p e s m args below meth c s₁ Bd hml0 hP hK
  obtain ⟨rfl, hZ, hh⟩ := hP
  have hx := Bd.exec
  have hby := Bd.bytes
  have hml : c.maxLocals = 2 := hml0
  have hown : s.vm.findClass "org/linkweave/core/TermDefinition" = some m.cls := findClass_of_methodNamed Bd.named
  have hnm := (name_of_methodNamed Bd.named Bd.method).1
  have hlk : meth.locks = false := Bd.notSynchronized
  have hret := Bd.returns
  have X0 : Stand p l e ({ frames := 0, cells := 0, slots := 0, locals := 0 } : Room) s m #[(.ref a1), vd] below meth c s₁ [] 0 0 := Stand.of_body Bd
  have e0 : s₁.heap = h0 := by rw [← hh, Bd.state]; rfl
  have N0 := Fr.nil n0
  show Go p e below s₁ (entryFrame m #[(.ref a1), vd] 2) (Fin s (QDi Z a1 vd b vl r h0 n0) ({ frames := 0, cells := 0, slots := 0, locals := 0 } : Room).cells ({ frames := 0, cells := 0, slots := 0, locals := 0 } : Room).slots)
  rw [ef_rmDi _ _ _ hvd]
  show Go p e below s₁ (mkF m 0 #[.val (.ref a1), .val vd] []) _
  refine Go.step (fun _ => XS.aloadN X0.here hx rfl (hb hby d5_0) rfl rfl ) ?_
  show Go p e below s₁ (mkF m 1 #[.val (.ref a1), .val vd] [(.ref a1)]) _
  obtain ⟨T36, X36, e36, st36⟩ := getF X0 hx hZ hown (host := "") (Or.inl (hw _ (List.mem_of_getElem? (i := 40) rfl))) Via.refl e0 FB (g := (mkF m 1 #[.val (.ref a1), .val vd] [(.ref a1)])) rfl rfl (hb hby d5_1)
  refine Go.step st36 ?_
  show Go p e below T36 (mkF m 4 #[.val (.ref a1), .val vd] [(.int b)]) _
  by_cases hc4 : b = (0 : Int32)
  · skip
    refine Go.step (fun _ => XS.ifYes X36.here hx rfl (pc0 := 4) (pc' := 14) rfl (hb hby d5_4) rfl ((if0 _ _).trans (teq hc4).1) (by decide) (by decide)) ?_
    show Go p e below T36 (mkF m 14 #[.val (.ref a1), .val vd] []) _
    refine Go.step (fun _ => XS.aloadN X36.here hx rfl (hb hby d5_14) rfl hvd ) ?_
    show Go p e below T36 (mkF m 15 #[.val (.ref a1), .val vd] [vd]) _
    refine Go.retA X36 hx hret rfl hvd hlk (hb hby d5_15) ?_ (by decide) (by decide)
    exact ⟨by rw [hr, if_pos hc4], N0, e36⟩
  · skip
    refine Go.step (fun _ => XS.ifNo X36.here hx rfl (hb hby d5_4) rfl ((if0 _ _).trans (feq hc4).1)) ?_
    show Go p e below T36 (mkF m 7 #[.val (.ref a1), .val vd] []) _
    refine Go.step (fun _ => XS.aloadN X36.here hx rfl (hb hby d5_7) rfl rfl ) ?_
    show Go p e below T36 (mkF m 8 #[.val (.ref a1), .val vd] [(.ref a1)]) _
    obtain ⟨T37, X37, e37, st37⟩ := getF X36 hx hZ hown (host := "") (Or.inl (hw _ (List.mem_of_getElem? (i := 42) rfl))) Via.refl e36 FL (g := (mkF m 8 #[.val (.ref a1), .val vd] [(.ref a1)])) rfl rfl (hb hby d5_8)
    refine Go.step st37 ?_
    show Go p e below T37 (mkF m 11 #[.val (.ref a1), .val vd] [vl]) _
    refine Go.step (fun _ => XS.goto X37.here hx rfl (pc0 := 11) (pc' := 15) rfl (hb hby d5_11) (by decide) (by decide)) ?_
    show Go p e below T37 (mkF m 15 #[.val (.ref a1), .val vd] [vl]) _
    refine Go.retA X37 hx hret rfl hvl hlk (hb hby d5_15) ?_ (by decide) (by decide)
    exact ⟨by rw [hr, if_neg hc4], N0, e37⟩
theorem d6_0 : decode prog_76_method_17_code 0 = .ok (.aload_n 0, 1) := by decide +kernel
theorem d6_1 : decode prog_76_method_17_code 1 = .ok (.getfield 36, 3) := by decide +kernel
theorem d6_4 : decode prog_76_method_17_code 4 = .ok (.areturn, 1) := by decide +kernel
theorem ef_rmD0 (m : MethodId) (x0 : Addr) : entryFrame m #[(.ref x0)] 1 = mkF m 0 #[.val (.ref x0)] [] := by first | (simp [entryFrame, mkF, argsToLocals, Value.category]; done) | rfl
def QD0 (Z : State) (a1 : Addr) (vl : Value) (h0 : Heap) (n0 : Nat) (v : Option Value) (h : Heap) (L : List Loc) : Prop := v = some vl ∧ Fr n0 L ∧ h = h0
set_option maxRecDepth 65536 in
set_option maxHeartbeats 40000000 in
theorem rmD0 (l : Launch) (Z : State) (a0 : Array Value) (hw : ∀ d ∈ tables_1, d.before a0 Z = true) (ws : List Jvm.Cond) (a1 : Addr) (vl : Value) (h0 : Heap) (n0 : Nat) (Z0 : n0 ≤ h0.size) (FL : Fld Z h0 a1 "org/linkweave/core/TermDefinition" "direction" "Ljava/lang/String;" vl) (hvl : vl.isRef = true) :
    MetFree l (⟨"org/linkweave/core/TermDefinition", "direction", "()Ljava/lang/String;"⟩ : MethodName) (head1 (Jvm.Cond.code (⟨"org/linkweave/core/TermDefinition", "direction", "()Ljava/lang/String;"⟩ : MethodName) prog_76_method_17_code 1 (some (.object "java/lang/String")) :: ws) ({ frames := 0, cells := 0, slots := 0, locals := 0 } : Room)) (fun as' U => as' = #[(.ref a1)] ∧ Z.Warmed39 U.vm ∧ U.heap = h0) (fun _ _ _ _ _ => True) (fun _ U o U' => ∃ v L, o = .returned v ∧ QD0 Z a1 vl h0 n0 v U'.heap L ∧ FrameEnd U o U' L ({ frames := 0, cells := 0, slots := 0, locals := 0 } : Room).cells ({ frames := 0, cells := 0, slots := 0, locals := 0 } : Room).slots) := by
  refine MetFree.of_bodySF (plainFor_of_name pn_4) hisR ?_
  intro p e s m args below meth c s₁ Bd hml0 hP hK
  obtain ⟨rfl, hZ, hh⟩ := hP
  have hx := Bd.exec
  have hby := Bd.bytes
  have hml : c.maxLocals = 1 := hml0
  have hown : s.vm.findClass "org/linkweave/core/TermDefinition" = some m.cls := findClass_of_methodNamed Bd.named
  have hnm := (name_of_methodNamed Bd.named Bd.method).1
  have hlk : meth.locks = false := Bd.notSynchronized
  have hret := Bd.returns
  have X0 : Stand p l e ({ frames := 0, cells := 0, slots := 0, locals := 0 } : Room) s m #[(.ref a1)] below meth c s₁ [] 0 0 := Stand.of_body Bd
  have e0 : s₁.heap = h0 := by rw [← hh, Bd.state]; rfl
  have N0 := Fr.nil n0
  show Go p e below s₁ (entryFrame m #[(.ref a1)] 1) (Fin s (QD0 Z a1 vl h0 n0) ({ frames := 0, cells := 0, slots := 0, locals := 0 } : Room).cells ({ frames := 0, cells := 0, slots := 0, locals := 0 } : Room).slots)
  rw [ef_rmD0]
  show Go p e below s₁ (mkF m 0 #[.val (.ref a1)] []) _
  refine Go.step (fun _ => XS.aloadN X0.here hx rfl (hb hby d6_0) rfl rfl ) ?_
  show Go p e below s₁ (mkF m 1 #[.val (.ref a1)] [(.ref a1)]) _
  obtain ⟨T38, X38, e38, st38⟩ := getF X0 hx hZ hown (host := "") (Or.inl (hw _ (List.mem_of_getElem? (i := 42) rfl))) Via.refl e0 FL (g := (mkF m 1 #[.val (.ref a1)] [(.ref a1)])) rfl rfl (hb hby d6_1)
  refine Go.step st38 ?_
  show Go p e below T38 (mkF m 4 #[.val (.ref a1)] [vl]) _
  refine Go.retA X38 hx hret rfl hvl hlk (hb hby d6_4) ?_ (by decide) (by decide)
  exact ⟨rfl, N0, e38⟩
theorem pd_5 : parseMethodDescriptor "(III)Ljava/lang/String;" = some ⟨[.int, .int, .int], some (.object "java/lang/String")⟩ := by decide +kernel
theorem pd_6 : parseMethodDescriptor "(Ljava/lang/String;ZZLjava/lang/String;Ljava/util/Set;ZLjava/lang/String;ZLjava/lang/String;Ljava/lang/String;Lorg/linkweave/core/TermDefinition$ScopedContext;Ljava/lang/String;Z)V" = some ⟨[(.object "java/lang/String"), .boolean, .boolean, (.object "java/lang/String"), (.object "java/util/Set"), .boolean, (.object "java/lang/String"), .boolean, (.object "java/lang/String"), (.object "java/lang/String"), (.object "org/linkweave/core/TermDefinition$ScopedContext"), (.object "java/lang/String"), .boolean], none⟩ := by decide +kernel
theorem pd_7 : parseMethodDescriptor "(Ljava/lang/String;)Ljava/lang/String;" = some ⟨[(.object "java/lang/String")], some (.object "java/lang/String")⟩ := by decide +kernel
theorem pd_8 : parseMethodDescriptor "()Ljava/lang/String;" = some ⟨[], some (.object "java/lang/String")⟩ := by decide +kernel
theorem pd_9 : parseMethodDescriptor "(C)Ljava/lang/String;" = some ⟨[.char], some (.object "java/lang/String")⟩ := by decide +kernel
theorem ef_rm0 (m : MethodId) (x0 : Int32) (x1 : Int32) (x2 : Int32) (x3 : Int32) (x4 : Int32) : entryFrame m #[(.int x0), (.int x1), (.int x2), (.int x3), (.int x4)] maxLocals = mkF m 0 #[.val (.int x0), .val (.int x1), .val (.int x2), .val (.int x3), .val (.int x4), .unset, .unset, .unset, .unset, .unset, .unset, .unset, .unset, .unset, .unset, .unset] [] := by first | (simp [entryFrame, mkF, argsToLocals, Value.category, maxLocals]; done) | rfl
def Q0 (Z : State) (p0 p1 p2 p3 p4 : Int32) (G : Int32) (h0 : Heap) (n0 : Nat) (v : Option Value) (h : Heap) (L : List Loc) : Prop := v = some (.int 1) ∧ Fr n0 L
set_option maxRecDepth 65536 in
set_option maxHeartbeats 40000000 in
theorem rm0 (l : Launch) (Z : State) (a0 : Array Value) (hw : ∀ d ∈ tables_1, d.before a0 Z = true) (ws : List Jvm.Cond) (p0 p1 p2 p3 p4 : Int32) (G : Int32) (h0 : Heap) (n0 : Nat) (Z0 : n0 ≤ h0.size) (P3 : ¬ G = (0 : Int32)) (O2 : Sta Z h0 "java/lang/String" "COMPACT_STRINGS" "Z" (.int G)) :
    MetFree l x (head1 (Jvm.Cond.code x code maxLocals ret :: ws) room_1) (fun as' U => as' = #[(.int p0), (.int p1), (.int p2), (.int p3), (.int p4)] ∧ Z.Warmed39 U.vm ∧ U.heap = h0) (fun _ _ _ _ _ => True) (fun _ U o U' => ∃ v L, o = .returned v ∧ Q0 Z p0 p1 p2 p3 p4 G h0 n0 v U'.heap L ∧ ReturnedEndW U o U' L 32 3264) := by
  refine MetFree.of_bodySF (plainFor_of_name pn_3) hisR ?_
  intro p e s m args below meth c s₁ Bd hml0 hP hK
  obtain ⟨rfl, hZ, hh⟩ := hP
  have hx := Bd.exec
  have hby := Bd.bytes
  have hml : c.maxLocals = 16 := hml0
  have hown : s.vm.findClass "org/linkweave/core/TermDefinitionDirectionPinLaw" = some m.cls := findClass_of_methodNamed Bd.named
  have hnm := (name_of_methodNamed Bd.named Bd.method).1
  have hlk : meth.locks = false := Bd.notSynchronized
  have hret := Bd.returns
  have X0 : Stand p l e room_1 (s.setVm s.vm) m #[(.int p0), (.int p1), (.int p2), (.int p3), (.int p4)] below meth c s₁ [] 0 0 := Stand.of_body Bd
  have e0 : s₁.heap = h0 := by rw [← hh, Bd.state]; rfl
  have N0 := Fr.nil n0
  have hS0 : s.Since s.vm h0.size := (State.WarmedH.refl s).since _
  have hk0 := Nat.le_refl h0.size
  have wStr : ∀ a ∈ Bundle.stringAtoms, a.before a0 Z = true := fun d hd => hw d ((by decide +kernel : ∀ d ∈ Bundle.stringAtoms, d ∈ tables_1) d hd)
  show Go p e below s₁ (entryFrame m #[(.int p0), (.int p1), (.int p2), (.int p3), (.int p4)] maxLocals) (FinW s (Q0 Z p0 p1 p2 p3 p4 G h0 n0) 32 3264)
  rw [ef_rm0]
  show Go p e below s₁ (mkF m 0 #[.val (.int p0), .val (.int p1), .val (.int p2), .val (.int p3), .val (.int p4), .unset, .unset, .unset, .unset, .unset, .unset, .unset, .unset, .unset, .unset, .unset] []) _
  refine Go.step (fun _ => XS.iloadN X0.here hx rfl (hb hby at_0) rfl ) ?_
  have J11 : ∀ (b5 : Int32) (hb5 : b5 = 0 ∨ b5 = 1), Go p e below s₁ (mkF m 11 #[.val (.int p0), .val (.int p1), .val (.int p2), .val (.int p3), .val (.int p4), .unset, .unset, .unset, .unset, .unset, .unset, .unset, .unset, .unset, .unset, .unset] [(.int b5)]) (FinW s (Q0 Z p0 p1 p2 p3 p4 G h0 n0) 32 3264) := by
    intro b5 hb5
    show Go p e below s₁ (mkF m 11 #[.val (.int p0), .val (.int p1), .val (.int p2), .val (.int p3), .val (.int p4), .unset, .unset, .unset, .unset, .unset, .unset, .unset, .unset, .unset, .unset, .unset] [(.int b5)]) _
    refine Go.step (fun _ => XS.istore X0.here hx rfl (hb hby at_11) rfl (l' := #[.val (.int p0), .val (.int p1), .val (.int p2), .val (.int p3), .val (.int p4), .val (.int b5), .unset, .unset, .unset, .unset, .unset, .unset, .unset, .unset, .unset, .unset]) rfl) ?_
    show Go p e below s₁ (mkF m 13 #[.val (.int p0), .val (.int p1), .val (.int p2), .val (.int p3), .val (.int p4), .val (.int b5), .unset, .unset, .unset, .unset, .unset, .unset, .unset, .unset, .unset, .unset] []) _
    refine Go.step (fun _ => XS.iloadN X0.here hx rfl (hb hby at_13) rfl ) ?_
    have J26 : ∀ (b6 : Int32) (hb6 : b6 = 0 ∨ b6 = 1), Go p e below s₁ (mkF m 26 #[.val (.int p0), .val (.int p1), .val (.int p2), .val (.int p3), .val (.int p4), .val (.int b5), .unset, .unset, .unset, .unset, .unset, .unset, .unset, .unset, .unset, .unset] [(.int b6)]) (FinW s (Q0 Z p0 p1 p2 p3 p4 G h0 n0) 32 3264) := by
      intro b6 hb6
      show Go p e below s₁ (mkF m 26 #[.val (.int p0), .val (.int p1), .val (.int p2), .val (.int p3), .val (.int p4), .val (.int b5), .unset, .unset, .unset, .unset, .unset, .unset, .unset, .unset, .unset, .unset] [(.int b6)]) _
      refine Go.step (fun _ => XS.istore X0.here hx rfl (hb hby at_26) rfl (l' := #[.val (.int p0), .val (.int p1), .val (.int p2), .val (.int p3), .val (.int p4), .val (.int b5), .val (.int b6), .unset, .unset, .unset, .unset, .unset, .unset, .unset, .unset, .unset]) rfl) ?_
      show Go p e below s₁ (mkF m 28 #[.val (.int p0), .val (.int p1), .val (.int p2), .val (.int p3), .val (.int p4), .val (.int b5), .val (.int b6), .unset, .unset, .unset, .unset, .unset, .unset, .unset, .unset, .unset] []) _
      refine Go.step (fun _ => XS.iloadN X0.here hx rfl (hb hby at_28) rfl ) ?_
      have J42 : ∀ (b7 : Int32) (hb7 : b7 = 0 ∨ b7 = 1), Go p e below s₁ (mkF m 42 #[.val (.int p0), .val (.int p1), .val (.int p2), .val (.int p3), .val (.int p4), .val (.int b5), .val (.int b6), .unset, .unset, .unset, .unset, .unset, .unset, .unset, .unset, .unset] [(.int b7)]) (FinW s (Q0 Z p0 p1 p2 p3 p4 G h0 n0) 32 3264) := by
        intro b7 hb7
        show Go p e below s₁ (mkF m 42 #[.val (.int p0), .val (.int p1), .val (.int p2), .val (.int p3), .val (.int p4), .val (.int b5), .val (.int b6), .unset, .unset, .unset, .unset, .unset, .unset, .unset, .unset, .unset] [(.int b7)]) _
        refine Go.step (fun _ => XS.istore X0.here hx rfl (hb hby at_42) rfl (l' := #[.val (.int p0), .val (.int p1), .val (.int p2), .val (.int p3), .val (.int p4), .val (.int b5), .val (.int b6), .val (.int b7), .unset, .unset, .unset, .unset, .unset, .unset, .unset, .unset]) rfl) ?_
        show Go p e below s₁ (mkF m 44 #[.val (.int p0), .val (.int p1), .val (.int p2), .val (.int p3), .val (.int p4), .val (.int b5), .val (.int b6), .val (.int b7), .unset, .unset, .unset, .unset, .unset, .unset, .unset, .unset] []) _
        refine Go.step (fun _ => XS.iloadN X0.here hx rfl (hb hby at_44) rfl ) ?_
        have J58 : ∀ (b8 : Int32) (hb8 : b8 = 0 ∨ b8 = 1), Go p e below s₁ (mkF m 58 #[.val (.int p0), .val (.int p1), .val (.int p2), .val (.int p3), .val (.int p4), .val (.int b5), .val (.int b6), .val (.int b7), .unset, .unset, .unset, .unset, .unset, .unset, .unset, .unset] [(.int b8)]) (FinW s (Q0 Z p0 p1 p2 p3 p4 G h0 n0) 32 3264) := by
          intro b8 hb8
          show Go p e below s₁ (mkF m 58 #[.val (.int p0), .val (.int p1), .val (.int p2), .val (.int p3), .val (.int p4), .val (.int b5), .val (.int b6), .val (.int b7), .unset, .unset, .unset, .unset, .unset, .unset, .unset, .unset] [(.int b8)]) _
          refine Go.step (fun _ => XS.istore X0.here hx rfl (hb hby at_58) rfl (l' := #[.val (.int p0), .val (.int p1), .val (.int p2), .val (.int p3), .val (.int p4), .val (.int b5), .val (.int b6), .val (.int b7), .val (.int b8), .unset, .unset, .unset, .unset, .unset, .unset, .unset]) rfl) ?_
          show Go p e below s₁ (mkF m 60 #[.val (.int p0), .val (.int p1), .val (.int p2), .val (.int p3), .val (.int p4), .val (.int b5), .val (.int b6), .val (.int b7), .val (.int b8), .unset, .unset, .unset, .unset, .unset, .unset, .unset] []) _
          refine Go.step (fun _ => XS.iloadN X0.here hx rfl (hb hby at_60) rfl ) ?_
          have J74 : ∀ (b9 : Int32) (hb9 : b9 = 0 ∨ b9 = 1), Go p e below s₁ (mkF m 74 #[.val (.int p0), .val (.int p1), .val (.int p2), .val (.int p3), .val (.int p4), .val (.int b5), .val (.int b6), .val (.int b7), .val (.int b8), .unset, .unset, .unset, .unset, .unset, .unset, .unset] [(.int b9)]) (FinW s (Q0 Z p0 p1 p2 p3 p4 G h0 n0) 32 3264) := by
            intro b9 hb9
            show Go p e below s₁ (mkF m 74 #[.val (.int p0), .val (.int p1), .val (.int p2), .val (.int p3), .val (.int p4), .val (.int b5), .val (.int b6), .val (.int b7), .val (.int b8), .unset, .unset, .unset, .unset, .unset, .unset, .unset] [(.int b9)]) _
            refine Go.step (fun _ => XS.istore X0.here hx rfl (hb hby at_74) rfl (l' := #[.val (.int p0), .val (.int p1), .val (.int p2), .val (.int p3), .val (.int p4), .val (.int b5), .val (.int b6), .val (.int b7), .val (.int b8), .val (.int b9), .unset, .unset, .unset, .unset, .unset, .unset]) rfl) ?_
            show Go p e below s₁ (mkF m 76 #[.val (.int p0), .val (.int p1), .val (.int p2), .val (.int p3), .val (.int p4), .val (.int b5), .val (.int b6), .val (.int b7), .val (.int b8), .val (.int b9), .unset, .unset, .unset, .unset, .unset, .unset] []) _
            refine Go.step (fun _ => XS.iloadN X0.here hx rfl (hb hby at_76) rfl ) ?_
            show Go p e below s₁ (mkF m 77 #[.val (.int p0), .val (.int p1), .val (.int p2), .val (.int p3), .val (.int p4), .val (.int b5), .val (.int b6), .val (.int b7), .val (.int b8), .val (.int b9), .unset, .unset, .unset, .unset, .unset, .unset] [(.int p0)]) _
            refine Go.step (fun _ => XS.iconst X0.here hx rfl (hb hby at_77)) ?_
            show Go p e below s₁ (mkF m 78 #[.val (.int p0), .val (.int p1), .val (.int p2), .val (.int p3), .val (.int p4), .val (.int b5), .val (.int b6), .val (.int b7), .val (.int b8), .val (.int b9), .unset, .unset, .unset, .unset, .unset, .unset] [(.int (1 : Int32)), (.int p0)]) _
            refine Go.step (fun _ => XS.ishr X0.here hx rfl (hb hby at_78) rfl) ?_
            show Go p e below s₁ (mkF m 79 #[.val (.int p0), .val (.int p1), .val (.int p2), .val (.int p3), .val (.int p4), .val (.int b5), .val (.int b6), .val (.int b7), .val (.int b8), .val (.int b9), .unset, .unset, .unset, .unset, .unset, .unset] [(.int (p0 >>> ((1 : Int32) &&& 31)))]) _
            refine Go.step (fun _ => XS.iconst X0.here hx rfl (hb hby at_79)) ?_
            show Go p e below s₁ (mkF m 80 #[.val (.int p0), .val (.int p1), .val (.int p2), .val (.int p3), .val (.int p4), .val (.int b5), .val (.int b6), .val (.int b7), .val (.int b8), .val (.int b9), .unset, .unset, .unset, .unset, .unset, .unset] [(.int (3 : Int32)), (.int (p0 >>> ((1 : Int32) &&& 31)))]) _
            refine Go.step (fun _ => XS.iand X0.here hx rfl (hb hby at_80) rfl) ?_
            show Go p e below s₁ (mkF m 81 #[.val (.int p0), .val (.int p1), .val (.int p2), .val (.int p3), .val (.int p4), .val (.int b5), .val (.int b6), .val (.int b7), .val (.int b8), .val (.int b9), .unset, .unset, .unset, .unset, .unset, .unset] [(.int ((p0 >>> ((1 : Int32) &&& 31)) &&& (3 : Int32)))]) _
            refine Go.step (fun _ => XS.iloadN X0.here hx rfl (hb hby at_81) rfl ) ?_
            show Go p e below s₁ (mkF m 82 #[.val (.int p0), .val (.int p1), .val (.int p2), .val (.int p3), .val (.int p4), .val (.int b5), .val (.int b6), .val (.int b7), .val (.int b8), .val (.int b9), .unset, .unset, .unset, .unset, .unset, .unset] [(.int p1), (.int ((p0 >>> ((1 : Int32) &&& 31)) &&& (3 : Int32)))]) _
            refine Go.step (fun _ => XS.iloadN X0.here hx rfl (hb hby at_82) rfl ) ?_
            show Go p e below s₁ (mkF m 83 #[.val (.int p0), .val (.int p1), .val (.int p2), .val (.int p3), .val (.int p4), .val (.int b5), .val (.int b6), .val (.int b7), .val (.int b8), .val (.int b9), .unset, .unset, .unset, .unset, .unset, .unset] [(.int p2), (.int p1), (.int ((p0 >>> ((1 : Int32) &&& 31)) &&& (3 : Int32)))]) _
            obtain ⟨_, _, ⟨T39, L39, k39, n39⟩, -, X39, hSq39, hgq39, ⟨Lc39, hQ39, l39, y39, z39⟩, st39⟩ := callSS X0 hx (y := (⟨"org/linkweave/core/TermDefinitionDirectionPinLaw", "pick", "(III)Ljava/lang/String;"⟩ : MethodName)) hown (mvT hZ (hw _ (List.mem_of_getElem? (i := 0) rfl))) (mvT hZ (hw _ (List.mem_of_getElem? (i := 1) rfl))) (mvT hZ (hw _ (List.mem_of_getElem? (i := 2) rfl))) (mvT hZ (hw _ (List.mem_of_getElem? (i := 3) rfl))) (by decide) (backOfS (W := 0) (rmPick l Z a0 hw [] ((p0 >>> ((1 : Int32) &&& 31)) &&& (3 : Int32)) p1 p2 G h0 n0 Z0 P3 O2) hZ (hw _ (List.mem_of_getElem? (i := 3) rfl)) (hw _ (List.mem_of_getElem? (i := 2) rfl)) (by decide) (by decide)) (g := (mkF m 83 #[.val (.int p0), .val (.int p1), .val (.int p2), .val (.int p3), .val (.int p4), .val (.int b5), .val (.int b6), .val (.int b7), .val (.int b8), .val (.int b9), .unset, .unset, .unset, .unset, .unset, .unset] [(.int p2), (.int p1), (.int ((p0 >>> ((1 : Int32) &&& 31)) &&& (3 : Int32)))])) rfl (by rw [hml]; rfl) (argsL := [(.int ((p0 >>> ((1 : Int32) &&& 31)) &&& (3 : Int32))), (.int p1), (.int p2)]) (rest := []) (lenOf pd_5 rfl) rfl (by show 2 * 0 + _ ≤ _; exact Nat.le_of_eq rfl) (hb hby at_83) (fun _ _ => ⟨rfl, e0, (by decide : 0 + 3 ≤ _), (by decide : 0 + 16 ≤ _)⟩)
            dsimp only [Pt.U, Pt.locs, Pt.cells, Pt.slots] at X39 l39 y39 z39 st39 hQ39 hSq39 hgq39
            subst l39 y39 z39
            obtain ⟨X39, hS39⟩ := Jvm.Stand.againW X39 hS0 hSq39 (Nat.le_trans hk0 (by rw [← e0]; exact hgq39))
            have hZ := State.Warmed39.trans hZ hSq39.1
            have hown : (s.setVm T39.vm).vm.findClass "org/linkweave/core/TermDefinitionDirectionPinLaw" = some m.cls := by rw [show (s.setVm T39.vm).vm = T39.vm from rfl, hSq39.1.alike.findClass]; exact hown
            have hk39 := Nat.le_refl T39.heap.size
            obtain ⟨r39, rfl, Nq39, K39, hr39⟩ := hQ39
            have N39 := Fr.app N0 Nq39
            refine Go.call st39 ?_
            have O2_q39 := own_staKeep O2 K39 all0
            have Z39 : n0 ≤ T39.heap.size := Nat.le_trans Z0 K39.1
            show Go p e below T39 (mkF m 86 #[.val (.int p0), .val (.int p1), .val (.int p2), .val (.int p3), .val (.int p4), .val (.int b5), .val (.int b6), .val (.int b7), .val (.int b8), .val (.int b9), .unset, .unset, .unset, .unset, .unset, .unset] [r39]) _
            refine Go.step (fun _ => XS.astore X39.here hx rfl (hb hby at_86) rfl hr39 (l' := #[.val (.int p0), .val (.int p1), .val (.int p2), .val (.int p3), .val (.int p4), .val (.int b5), .val (.int b6), .val (.int b7), .val (.int b8), .val (.int b9), .val r39, .unset, .unset, .unset, .unset, .unset]) (XS.store1 rfl (Or.inl rfl) (own_cat hr39))) ?_
            show Go p e below T39 (mkF m 88 #[.val (.int p0), .val (.int p1), .val (.int p2), .val (.int p3), .val (.int p4), .val (.int b5), .val (.int b6), .val (.int b7), .val (.int b8), .val (.int b9), .val r39, .unset, .unset, .unset, .unset, .unset] []) _
            refine Go.step (fun _ => XS.iloadN X39.here hx rfl (hb hby at_88) rfl ) ?_
            show Go p e below T39 (mkF m 89 #[.val (.int p0), .val (.int p1), .val (.int p2), .val (.int p3), .val (.int p4), .val (.int b5), .val (.int b6), .val (.int b7), .val (.int b8), .val (.int b9), .val r39, .unset, .unset, .unset, .unset, .unset] [(.int p0)]) _
            refine Go.step (fun _ => XS.iconst X39.here hx rfl (hb hby at_89)) ?_
            show Go p e below T39 (mkF m 90 #[.val (.int p0), .val (.int p1), .val (.int p2), .val (.int p3), .val (.int p4), .val (.int b5), .val (.int b6), .val (.int b7), .val (.int b8), .val (.int b9), .val r39, .unset, .unset, .unset, .unset, .unset] [(.int (3 : Int32)), (.int p0)]) _
            refine Go.step (fun _ => XS.ishr X39.here hx rfl (hb hby at_90) rfl) ?_
            show Go p e below T39 (mkF m 91 #[.val (.int p0), .val (.int p1), .val (.int p2), .val (.int p3), .val (.int p4), .val (.int b5), .val (.int b6), .val (.int b7), .val (.int b8), .val (.int b9), .val r39, .unset, .unset, .unset, .unset, .unset] [(.int (p0 >>> ((3 : Int32) &&& 31)))]) _
            refine Go.step (fun _ => XS.iconst X39.here hx rfl (hb hby at_91)) ?_
            show Go p e below T39 (mkF m 92 #[.val (.int p0), .val (.int p1), .val (.int p2), .val (.int p3), .val (.int p4), .val (.int b5), .val (.int b6), .val (.int b7), .val (.int b8), .val (.int b9), .val r39, .unset, .unset, .unset, .unset, .unset] [(.int (3 : Int32)), (.int (p0 >>> ((3 : Int32) &&& 31)))]) _
            refine Go.step (fun _ => XS.iand X39.here hx rfl (hb hby at_92) rfl) ?_
            show Go p e below T39 (mkF m 93 #[.val (.int p0), .val (.int p1), .val (.int p2), .val (.int p3), .val (.int p4), .val (.int b5), .val (.int b6), .val (.int b7), .val (.int b8), .val (.int b9), .val r39, .unset, .unset, .unset, .unset, .unset] [(.int ((p0 >>> ((3 : Int32) &&& 31)) &&& (3 : Int32)))]) _
            refine Go.step (fun _ => XS.iloadN X39.here hx rfl (hb hby at_93) rfl ) ?_
            show Go p e below T39 (mkF m 94 #[.val (.int p0), .val (.int p1), .val (.int p2), .val (.int p3), .val (.int p4), .val (.int b5), .val (.int b6), .val (.int b7), .val (.int b8), .val (.int b9), .val r39, .unset, .unset, .unset, .unset, .unset] [(.int p3), (.int ((p0 >>> ((3 : Int32) &&& 31)) &&& (3 : Int32)))]) _
            refine Go.step (fun _ => XS.iload X39.here hx rfl (hb hby at_94) rfl ) ?_
            show Go p e below T39 (mkF m 96 #[.val (.int p0), .val (.int p1), .val (.int p2), .val (.int p3), .val (.int p4), .val (.int b5), .val (.int b6), .val (.int b7), .val (.int b8), .val (.int b9), .val r39, .unset, .unset, .unset, .unset, .unset] [(.int p4), (.int p3), (.int ((p0 >>> ((3 : Int32) &&& 31)) &&& (3 : Int32)))]) _
            obtain ⟨_, _, ⟨T40, L40, k40, n40⟩, -, X40, hSq40, hgq40, ⟨Lc40, hQ40, l40, y40, z40⟩, st40⟩ := callSS X39 hx (y := (⟨"org/linkweave/core/TermDefinitionDirectionPinLaw", "pick", "(III)Ljava/lang/String;"⟩ : MethodName)) hown (mvT hZ (hw _ (List.mem_of_getElem? (i := 0) rfl))) (mvT hZ (hw _ (List.mem_of_getElem? (i := 1) rfl))) (mvT hZ (hw _ (List.mem_of_getElem? (i := 2) rfl))) (mvT hZ (hw _ (List.mem_of_getElem? (i := 3) rfl))) (by decide) (backOfS (W := 0) (rmPick l Z a0 hw [] ((p0 >>> ((3 : Int32) &&& 31)) &&& (3 : Int32)) p3 p4 G T39.heap n0 Z39 P3 O2_q39) hZ (hw _ (List.mem_of_getElem? (i := 3) rfl)) (hw _ (List.mem_of_getElem? (i := 2) rfl)) (by decide) (by decide)) (g := (mkF m 96 #[.val (.int p0), .val (.int p1), .val (.int p2), .val (.int p3), .val (.int p4), .val (.int b5), .val (.int b6), .val (.int b7), .val (.int b8), .val (.int b9), .val r39, .unset, .unset, .unset, .unset, .unset] [(.int p4), (.int p3), (.int ((p0 >>> ((3 : Int32) &&& 31)) &&& (3 : Int32)))])) rfl (by rw [hml]; rfl) (argsL := [(.int ((p0 >>> ((3 : Int32) &&& 31)) &&& (3 : Int32))), (.int p3), (.int p4)]) (rest := []) (lenOf pd_5 rfl) rfl (by show 2 * 0 + _ ≤ _; exact Nat.le_of_eq rfl) (hb hby at_96) (fun _ _ => ⟨rfl, rfl, (by decide : 0 + 3 + 3 ≤ _), (by decide : 0 + 16 + 16 ≤ _)⟩)
            dsimp only [Pt.U, Pt.locs, Pt.cells, Pt.slots] at X40 l40 y40 z40 st40 hQ40 hSq40 hgq40
            subst l40 y40 z40
            obtain ⟨X40, hS40⟩ := Jvm.Stand.againW X40 hS39 hSq40 (Nat.le_trans hk39 hgq40)
            have hZ := State.Warmed39.trans hZ hSq40.1
            have hown : (s.setVm T40.vm).vm.findClass "org/linkweave/core/TermDefinitionDirectionPinLaw" = some m.cls := by rw [show (s.setVm T40.vm).vm = T40.vm from rfl, hSq40.1.alike.findClass]; exact hown
            have hk40 := Nat.le_refl T40.heap.size
            obtain ⟨r40, rfl, Nq40, K40, hr40⟩ := hQ40
            have N40 := Fr.app N39 Nq40
            refine Go.call st40 ?_
            have O2_q40 := own_staKeep O2_q39 K40 all0
            have Z40 : n0 ≤ T40.heap.size := Nat.le_trans Z39 K40.1
            show Go p e below T40 (mkF m 99 #[.val (.int p0), .val (.int p1), .val (.int p2), .val (.int p3), .val (.int p4), .val (.int b5), .val (.int b6), .val (.int b7), .val (.int b8), .val (.int b9), .val r39, .unset, .unset, .unset, .unset, .unset] [r40]) _
            refine Go.step (fun _ => XS.astore X40.here hx rfl (hb hby at_99) rfl hr40 (l' := #[.val (.int p0), .val (.int p1), .val (.int p2), .val (.int p3), .val (.int p4), .val (.int b5), .val (.int b6), .val (.int b7), .val (.int b8), .val (.int b9), .val r39, .val r40, .unset, .unset, .unset, .unset]) (XS.store1 rfl (Or.inl rfl) (own_cat hr40))) ?_
            show Go p e below T40 (mkF m 101 #[.val (.int p0), .val (.int p1), .val (.int p2), .val (.int p3), .val (.int p4), .val (.int b5), .val (.int b6), .val (.int b7), .val (.int b8), .val (.int b9), .val r39, .val r40, .unset, .unset, .unset, .unset] []) _
            refine Go.step (fun _ => XS.iload X40.here hx rfl (hb hby at_101) rfl ) ?_
            show Go p e below T40 (mkF m 103 #[.val (.int p0), .val (.int p1), .val (.int p2), .val (.int p3), .val (.int p4), .val (.int b5), .val (.int b6), .val (.int b7), .val (.int b8), .val (.int b9), .val r39, .val r40, .unset, .unset, .unset, .unset] [(.int b6)]) _
            by_cases hc103 : b6 = (0 : Int32)
            · skip
              refine Go.step (fun _ => XS.ifYes X40.here hx rfl (pc0 := 103) (pc' := 118) rfl (hb hby at_103) rfl ((if0 _ _).trans (teq hc103).1) (by decide) (by decide)) ?_
              show Go p e below T40 (mkF m 118 #[.val (.int p0), .val (.int p1), .val (.int p2), .val (.int p3), .val (.int p4), .val (.int b5), .val (.int b6), .val (.int b7), .val (.int b8), .val (.int b9), .val r39, .val r40, .unset, .unset, .unset, .unset] []) _
              refine Go.step (fun _ => XS.aconstNull X40.here hx rfl (hb hby at_118)) ?_
              show Go p e below T40 (mkF m 119 #[.val (.int p0), .val (.int p1), .val (.int p2), .val (.int p3), .val (.int p4), .val (.int b5), .val (.int b6), .val (.int b7), .val (.int b8), .val (.int b9), .val r39, .val r40, .unset, .unset, .unset, .unset] [.null]) _
              refine Go.step (fun _ => XS.astore X40.here hx rfl (hb hby at_119) rfl rfl (l' := #[.val (.int p0), .val (.int p1), .val (.int p2), .val (.int p3), .val (.int p4), .val (.int b5), .val (.int b6), .val (.int b7), .val (.int b8), .val (.int b9), .val r39, .val r40, .val .null, .unset, .unset, .unset]) rfl) ?_
              show Go p e below T40 (mkF m 121 #[.val (.int p0), .val (.int p1), .val (.int p2), .val (.int p3), .val (.int p4), .val (.int b5), .val (.int b6), .val (.int b7), .val (.int b8), .val (.int b9), .val r39, .val r40, .val .null, .unset, .unset, .unset] []) _
              obtain ⟨T41, h41, X41, e41, E41, A41, D41, -, st41⟩ := newO X40 hx hZ hown (hw _ (List.mem_of_getElem? (i := 4) rfl)) (hw _ (List.mem_of_getElem? (i := 5) rfl)) (hw _ (List.mem_of_getElem? (i := 6) rfl)) rfl (g := (mkF m 121 #[.val (.int p0), .val (.int p1), .val (.int p2), .val (.int p3), .val (.int p4), .val (.int b5), .val (.int b6), .val (.int b7), .val (.int b8), .val (.int b9), .val r39, .val r40, .val .null, .unset, .unset, .unset] [])) rfl (hb hby at_121) (by decide) (by decide)
              obtain ⟨b41, g41⟩ : ∃ z, z = T40.heap.size := ⟨_, rfl⟩
              rw [← g41] at A41 D41 st41
              have g_b41 : n0 ≤ b41 := Nat.le_trans Z40 (Nat.le_of_eq g41.symm)
              have O2_q41 := O2_q40.ext E41
              have Z41 : n0 ≤ h41.size := Nat.le_trans Z40 E41.1
              have hk41 := Nat.le_trans hk40 E41.1
              refine Go.step st41 ?_
              have F_iri_b41 : Fld Z h41 b41 "org/linkweave/core/TermDefinition" "iri" "Ljava/lang/String;" .null := D41 (Or.inr (hw _ (List.mem_of_getElem? (i := 27) rfl))) (ty := (.object "java/lang/String")) (by decide)
              have F_prefix_b41 : Fld Z h41 b41 "org/linkweave/core/TermDefinition" "prefix" "Z" (.int (0 : Int32)) := D41 (Or.inr (hw _ (List.mem_of_getElem? (i := 29) rfl))) (ty := .boolean) (by decide)
              have F_reverse_b41 : Fld Z h41 b41 "org/linkweave/core/TermDefinition" "reverse" "Z" (.int (0 : Int32)) := D41 (Or.inr (hw _ (List.mem_of_getElem? (i := 31) rfl))) (ty := .boolean) (by decide)
              have F_typeMapping_b41 : Fld Z h41 b41 "org/linkweave/core/TermDefinition" "typeMapping" "Ljava/lang/String;" .null := D41 (Or.inr (hw _ (List.mem_of_getElem? (i := 33) rfl))) (ty := (.object "java/lang/String")) (by decide)
              have F_container_b41 : Fld Z h41 b41 "org/linkweave/core/TermDefinition" "container" "Ljava/util/Set;" .null := D41 (Or.inr (hw _ (List.mem_of_getElem? (i := 35) rfl))) (ty := (.object "java/util/Set")) (by decide)
              have F_hasLanguage_b41 : Fld Z h41 b41 "org/linkweave/core/TermDefinition" "hasLanguage" "Z" (.int (0 : Int32)) := D41 (Or.inr (hw _ (List.mem_of_getElem? (i := 37) rfl))) (ty := .boolean) (by decide)
              have F_language_b41 : Fld Z h41 b41 "org/linkweave/core/TermDefinition" "language" "Ljava/lang/String;" .null := D41 (Or.inr (hw _ (List.mem_of_getElem? (i := 39) rfl))) (ty := (.object "java/lang/String")) (by decide)
              have F_hasDirection_b41 : Fld Z h41 b41 "org/linkweave/core/TermDefinition" "hasDirection" "Z" (.int (0 : Int32)) := D41 (Or.inr (hw _ (List.mem_of_getElem? (i := 41) rfl))) (ty := .boolean) (by decide)
              have F_direction_b41 : Fld Z h41 b41 "org/linkweave/core/TermDefinition" "direction" "Ljava/lang/String;" .null := D41 (Or.inr (hw _ (List.mem_of_getElem? (i := 43) rfl))) (ty := (.object "java/lang/String")) (by decide)
              have F_index_b41 : Fld Z h41 b41 "org/linkweave/core/TermDefinition" "index" "Ljava/lang/String;" .null := D41 (Or.inr (hw _ (List.mem_of_getElem? (i := 45) rfl))) (ty := (.object "java/lang/String")) (by decide)
              have F_scopedContext_b41 : Fld Z h41 b41 "org/linkweave/core/TermDefinition" "scopedContext" "Lorg/linkweave/core/TermDefinition$ScopedContext;" .null := D41 (Or.inr (hw _ (List.mem_of_getElem? (i := 47) rfl))) (ty := (.object "org/linkweave/core/TermDefinition$ScopedContext")) (by decide)
              have F_nest_b41 : Fld Z h41 b41 "org/linkweave/core/TermDefinition" "nest" "Ljava/lang/String;" .null := D41 (Or.inr (hw _ (List.mem_of_getElem? (i := 49) rfl))) (ty := (.object "java/lang/String")) (by decide)
              have F_protectedTerm_b41 : Fld Z h41 b41 "org/linkweave/core/TermDefinition" "protectedTerm" "Z" (.int (0 : Int32)) := D41 (Or.inr (hw _ (List.mem_of_getElem? (i := 51) rfl))) (ty := .boolean) (by decide)
              show Go p e below T41 (mkF m 124 #[.val (.int p0), .val (.int p1), .val (.int p2), .val (.int p3), .val (.int p4), .val (.int b5), .val (.int b6), .val (.int b7), .val (.int b8), .val (.int b9), .val r39, .val r40, .val .null, .unset, .unset, .unset] [(.ref b41)]) _
              refine Go.step (fun _ => XS.dup X41.here hx rfl (hb hby at_124) rfl rfl) ?_
              show Go p e below T41 (mkF m 125 #[.val (.int p0), .val (.int p1), .val (.int p2), .val (.int p3), .val (.int p4), .val (.int b5), .val (.int b6), .val (.int b7), .val (.int b8), .val (.int b9), .val r39, .val r40, .val .null, .unset, .unset, .unset] [(.ref b41), (.ref b41)]) _
              obtain ⟨a42, T42, h42, kk42, X42, e42, E42, hS42, hk42, hZ, hown, st42⟩ := ldcS X41 hx hZ hown (hw _ (List.mem_of_getElem? (i := 7) rfl)) wStr e41 hS40 hk41 (g := (mkF m 125 #[.val (.int p0), .val (.int p1), .val (.int p2), .val (.int p3), .val (.int p4), .val (.int b5), .val (.int b6), .val (.int b7), .val (.int b8), .val (.int b9), .val r39, .val r40, .val .null, .unset, .unset, .unset] [(.ref b41), (.ref b41)])) rfl (hb hby at_125) (n := 4) (by decide) (by decide) (by decide) (by decide)
              refine Go.step st42 ?_
              have O2_q42 := O2_q41.ext E42
              have A41_q42 := A41.ext E42
              have F_iri_b41_q42 := F_iri_b41.ext E42
              have F_prefix_b41_q42 := F_prefix_b41.ext E42
              have F_reverse_b41_q42 := F_reverse_b41.ext E42
              have F_typeMapping_b41_q42 := F_typeMapping_b41.ext E42
              have F_container_b41_q42 := F_container_b41.ext E42
              have F_hasLanguage_b41_q42 := F_hasLanguage_b41.ext E42
              have F_language_b41_q42 := F_language_b41.ext E42
              have F_hasDirection_b41_q42 := F_hasDirection_b41.ext E42
              have F_direction_b41_q42 := F_direction_b41.ext E42
              have F_index_b41_q42 := F_index_b41.ext E42
              have F_scopedContext_b41_q42 := F_scopedContext_b41.ext E42
              have F_nest_b41_q42 := F_nest_b41.ext E42
              have F_protectedTerm_b41_q42 := F_protectedTerm_b41.ext E42
              have Z42 : n0 ≤ h42.size := Nat.le_trans Z41 E42.1
              show Go p e below T42 (mkF m 127 #[.val (.int p0), .val (.int p1), .val (.int p2), .val (.int p3), .val (.int p4), .val (.int b5), .val (.int b6), .val (.int b7), .val (.int b8), .val (.int b9), .val r39, .val r40, .val .null, .unset, .unset, .unset] [(.ref a42), (.ref b41), (.ref b41)]) _
              refine Go.step (fun _ => XS.iload X42.here hx rfl (hb hby at_127) rfl ) ?_
              show Go p e below T42 (mkF m 129 #[.val (.int p0), .val (.int p1), .val (.int p2), .val (.int p3), .val (.int p4), .val (.int b5), .val (.int b6), .val (.int b7), .val (.int b8), .val (.int b9), .val r39, .val r40, .val .null, .unset, .unset, .unset] [(.int b7), (.ref a42), (.ref b41), (.ref b41)]) _
              refine Go.step (fun _ => XS.iload X42.here hx rfl (hb hby at_129) rfl ) ?_
              show Go p e below T42 (mkF m 131 #[.val (.int p0), .val (.int p1), .val (.int p2), .val (.int p3), .val (.int p4), .val (.int b5), .val (.int b6), .val (.int b7), .val (.int b8), .val (.int b9), .val r39, .val r40, .val .null, .unset, .unset, .unset] [(.int b8), (.int b7), (.ref a42), (.ref b41), (.ref b41)]) _
              refine Go.step (fun _ => XS.aconstNull X42.here hx rfl (hb hby at_131)) ?_
              show Go p e below T42 (mkF m 132 #[.val (.int p0), .val (.int p1), .val (.int p2), .val (.int p3), .val (.int p4), .val (.int b5), .val (.int b6), .val (.int b7), .val (.int b8), .val (.int b9), .val r39, .val r40, .val .null, .unset, .unset, .unset] [.null, (.int b8), (.int b7), (.ref a42), (.ref b41), (.ref b41)]) _
              refine Go.step (fun _ => XS.aconstNull X42.here hx rfl (hb hby at_132)) ?_
              show Go p e below T42 (mkF m 133 #[.val (.int p0), .val (.int p1), .val (.int p2), .val (.int p3), .val (.int p4), .val (.int b5), .val (.int b6), .val (.int b7), .val (.int b8), .val (.int b9), .val r39, .val r40, .val .null, .unset, .unset, .unset] [.null, .null, (.int b8), (.int b7), (.ref a42), (.ref b41), (.ref b41)]) _
              refine Go.step (fun _ => XS.iload X42.here hx rfl (hb hby at_133) rfl ) ?_
              show Go p e below T42 (mkF m 135 #[.val (.int p0), .val (.int p1), .val (.int p2), .val (.int p3), .val (.int p4), .val (.int b5), .val (.int b6), .val (.int b7), .val (.int b8), .val (.int b9), .val r39, .val r40, .val .null, .unset, .unset, .unset] [(.int b6), .null, .null, (.int b8), (.int b7), (.ref a42), (.ref b41), (.ref b41)]) _
              refine Go.step (fun _ => XS.aload X42.here hx rfl (hb hby at_135) rfl rfl ) ?_
              show Go p e below T42 (mkF m 137 #[.val (.int p0), .val (.int p1), .val (.int p2), .val (.int p3), .val (.int p4), .val (.int b5), .val (.int b6), .val (.int b7), .val (.int b8), .val (.int b9), .val r39, .val r40, .val .null, .unset, .unset, .unset] [.null, (.int b6), .null, .null, (.int b8), (.int b7), (.ref a42), (.ref b41), (.ref b41)]) _
              refine Go.step (fun _ => XS.iload X42.here hx rfl (hb hby at_137) rfl ) ?_
              show Go p e below T42 (mkF m 139 #[.val (.int p0), .val (.int p1), .val (.int p2), .val (.int p3), .val (.int p4), .val (.int b5), .val (.int b6), .val (.int b7), .val (.int b8), .val (.int b9), .val r39, .val r40, .val .null, .unset, .unset, .unset] [(.int b5), .null, (.int b6), .null, .null, (.int b8), (.int b7), (.ref a42), (.ref b41), (.ref b41)]) _
              refine Go.step (fun _ => XS.aload X42.here hx rfl (hb hby at_139) rfl hr39 ) ?_
              show Go p e below T42 (mkF m 141 #[.val (.int p0), .val (.int p1), .val (.int p2), .val (.int p3), .val (.int p4), .val (.int b5), .val (.int b6), .val (.int b7), .val (.int b8), .val (.int b9), .val r39, .val r40, .val .null, .unset, .unset, .unset] [r39, (.int b5), .null, (.int b6), .null, .null, (.int b8), (.int b7), (.ref a42), (.ref b41), (.ref b41)]) _
              refine Go.step (fun _ => XS.aconstNull X42.here hx rfl (hb hby at_141)) ?_
              show Go p e below T42 (mkF m 142 #[.val (.int p0), .val (.int p1), .val (.int p2), .val (.int p3), .val (.int p4), .val (.int b5), .val (.int b6), .val (.int b7), .val (.int b8), .val (.int b9), .val r39, .val r40, .val .null, .unset, .unset, .unset] [.null, r39, (.int b5), .null, (.int b6), .null, .null, (.int b8), (.int b7), (.ref a42), (.ref b41), (.ref b41)]) _
              refine Go.step (fun _ => XS.aconstNull X42.here hx rfl (hb hby at_142)) ?_
              show Go p e below T42 (mkF m 143 #[.val (.int p0), .val (.int p1), .val (.int p2), .val (.int p3), .val (.int p4), .val (.int b5), .val (.int b6), .val (.int b7), .val (.int b8), .val (.int b9), .val r39, .val r40, .val .null, .unset, .unset, .unset] [.null, .null, r39, (.int b5), .null, (.int b6), .null, .null, (.int b8), (.int b7), (.ref a42), (.ref b41), (.ref b41)]) _
              refine Go.step (fun _ => XS.aconstNull X42.here hx rfl (hb hby at_143)) ?_
              show Go p e below T42 (mkF m 144 #[.val (.int p0), .val (.int p1), .val (.int p2), .val (.int p3), .val (.int p4), .val (.int b5), .val (.int b6), .val (.int b7), .val (.int b8), .val (.int b9), .val r39, .val r40, .val .null, .unset, .unset, .unset] [.null, .null, .null, r39, (.int b5), .null, (.int b6), .null, .null, (.int b8), (.int b7), (.ref a42), (.ref b41), (.ref b41)]) _
              refine Go.step (fun _ => XS.iload X42.here hx rfl (hb hby at_144) rfl ) ?_
              show Go p e below T42 (mkF m 146 #[.val (.int p0), .val (.int p1), .val (.int p2), .val (.int p3), .val (.int p4), .val (.int b5), .val (.int b6), .val (.int b7), .val (.int b8), .val (.int b9), .val r39, .val r40, .val .null, .unset, .unset, .unset] [(.int b9), .null, .null, .null, r39, (.int b5), .null, (.int b6), .null, .null, (.int b8), (.int b7), (.ref a42), (.ref b41), (.ref b41)]) _
              obtain ⟨_, _, ⟨T43, L43, k43, n43⟩, -, X43, ⟨Lc43, hQ43, l43, y43, z43⟩, st43⟩ := X42.specialBack hx (y := (⟨"org/linkweave/core/TermDefinition", "<init>", "(Ljava/lang/String;ZZLjava/lang/String;Ljava/util/Set;ZLjava/lang/String;ZLjava/lang/String;Ljava/lang/String;Lorg/linkweave/core/TermDefinition$ScopedContext;Ljava/lang/String;Z)V"⟩ : MethodName)) rfl hown (mvT hZ (hw _ (List.mem_of_getElem? (i := 15) rfl))) (mvT hZ (hw _ (List.mem_of_getElem? (i := 16) rfl))) (mvT hZ (hw _ (List.mem_of_getElem? (i := 17) rfl))) (by decide) (backOf (W := 1) (rmCt l Z a0 hw [] b41 a42 b7 b8 b6 .null b5 r39 b9 h42 n0 Z42 A41_q42 F_iri_b41_q42 F_prefix_b41_q42 F_reverse_b41_q42 F_typeMapping_b41_q42 F_container_b41_q42 F_hasLanguage_b41_q42 F_language_b41_q42 F_hasDirection_b41_q42 F_direction_b41_q42 F_index_b41_q42 F_scopedContext_b41_q42 F_nest_b41_q42 F_protectedTerm_b41_q42 g_b41 rfl hr39) hZ (hw _ (List.mem_of_getElem? (i := 17) rfl)) (hw _ (List.mem_of_getElem? (i := 6) rfl)) (by decide) (by decide)) (g := (mkF m 146 #[.val (.int p0), .val (.int p1), .val (.int p2), .val (.int p3), .val (.int p4), .val (.int b5), .val (.int b6), .val (.int b7), .val (.int b8), .val (.int b9), .val r39, .val r40, .val .null, .unset, .unset, .unset] [(.int b9), .null, .null, .null, r39, (.int b5), .null, (.int b6), .null, .null, (.int b8), (.int b7), (.ref a42), (.ref b41), (.ref b41)])) rfl (by rw [hml]; rfl) (Steps.refl _) (a := b41) (argsL := [(.ref a42), (.int b7), (.int b8), .null, .null, (.int b6), .null, (.int b5), r39, .null, .null, .null, (.int b9)]) (rest := [(.ref b41)]) (lenOf pd_6 rfl) rfl (by show 2 * 0 + _ ≤ _; exact Nat.le_of_eq rfl) (hb hby at_146) (fun _ _ => ⟨rfl, e42, (by decide : 0 + 3 + 3 + 1 + 2 + 0 ≤ _), (by decide : 0 + 16 + 16 + 13 + (4 + 4) + 0 ≤ _)⟩)
              dsimp only [Pt.U, Pt.locs, Pt.cells, Pt.slots] at X43 l43 y43 z43 st43 hQ43
              subst l43 y43 z43
              obtain ⟨rfl, Nq43, K43, Ex43, FB43, FL43⟩ := hQ43
              have N43 := Fr.app N40 Nq43
              refine Go.call st43 ?_
              have O2_q43 := own_staKeep O2_q42 K43 (allS (own_plainE A41_q42) all0)
              have A41_q43 := A41_q42.keep K43
              have Z43 : n0 ≤ T43.heap.size := Nat.le_trans Z42 K43.1
              have hk43 := Nat.le_trans hk42 K43.1
              show Go p e below T43 (mkF m 149 #[.val (.int p0), .val (.int p1), .val (.int p2), .val (.int p3), .val (.int p4), .val (.int b5), .val (.int b6), .val (.int b7), .val (.int b8), .val (.int b9), .val r39, .val r40, .val .null, .unset, .unset, .unset] [(.ref b41)]) _
              refine Go.step (fun _ => XS.astore X43.here hx rfl (hb hby at_149) rfl rfl (l' := #[.val (.int p0), .val (.int p1), .val (.int p2), .val (.int p3), .val (.int p4), .val (.int b5), .val (.int b6), .val (.int b7), .val (.int b8), .val (.int b9), .val r39, .val r40, .val .null, .val (.ref b41), .unset, .unset]) rfl) ?_
              show Go p e below T43 (mkF m 151 #[.val (.int p0), .val (.int p1), .val (.int p2), .val (.int p3), .val (.int p4), .val (.int b5), .val (.int b6), .val (.int b7), .val (.int b8), .val (.int b9), .val r39, .val r40, .val .null, .val (.ref b41), .unset, .unset] []) _
              refine Go.step (fun _ => XS.aload X43.here hx rfl (hb hby at_151) rfl rfl ) ?_
              show Go p e below T43 (mkF m 153 #[.val (.int p0), .val (.int p1), .val (.int p2), .val (.int p3), .val (.int p4), .val (.int b5), .val (.int b6), .val (.int b7), .val (.int b8), .val (.int b9), .val r39, .val r40, .val .null, .val (.ref b41), .unset, .unset] [(.ref b41)]) _
              refine Go.step (fun _ => XS.aload X43.here hx rfl (hb hby at_153) rfl hr40 ) ?_
              show Go p e below T43 (mkF m 155 #[.val (.int p0), .val (.int p1), .val (.int p2), .val (.int p3), .val (.int p4), .val (.int b5), .val (.int b6), .val (.int b7), .val (.int b8), .val (.int b9), .val r39, .val r40, .val .null, .val (.ref b41), .unset, .unset] [r40, (.ref b41)]) _
              rcases hb5 with rfl | rfl
              · skip
                obtain ⟨cq44, kq44, q44a, q44b, q44c⟩ := isOf hZ rfl A41_q43
                obtain ⟨_, _, ⟨T44, L44, k44, n44⟩, -, X44, ⟨Lc44, hQ44, l44, y44, z44⟩, st44⟩ := X43.virtualBack hx (y := (⟨"org/linkweave/core/TermDefinition", "direction", "(Ljava/lang/String;)Ljava/lang/String;"⟩ : MethodName)) (z := (⟨"org/linkweave/core/TermDefinition", "direction", "(Ljava/lang/String;)Ljava/lang/String;"⟩ : MethodName)) hown (mvT hZ (hw _ (List.mem_of_getElem? (i := 52) rfl))) (mvT hZ (hw _ (List.mem_of_getElem? (i := 53) rfl))) (notFace_of_selects (args := #[]) (mvT hZ (hw _ (List.mem_of_getElem? (i := 55) rfl)))) (mvT hZ (hw _ (List.mem_of_getElem? (i := 55) rfl))) (mvT hZ (hw _ (List.mem_of_getElem? (i := 54) rfl))) (by decide) (backOf (W := 0) (rmDi l Z a0 hw [] b41 r40 (nar .boolean (0 : Int32)) r39 r40 T43.heap n0 Z43 FB43 FL43 hr40 hr39 (by first | rfl | decide)) hZ (hw _ (List.mem_of_getElem? (i := 56) rfl)) (hw _ (List.mem_of_getElem? (i := 6) rfl)) (by decide) (by decide)) q44a q44c (g := (mkF m 155 #[.val (.int p0), .val (.int p1), .val (.int p2), .val (.int p3), .val (.int p4), .val (.int (0 : Int32)), .val (.int b6), .val (.int b7), .val (.int b8), .val (.int b9), .val r39, .val r40, .val .null, .val (.ref b41), .unset, .unset] [r40, (.ref b41)])) rfl (by rw [hml]; rfl) (Steps.refl _) (argsL := [r40]) (rest := []) (lenOf pd_7 rfl) rfl (by show 2 * 0 + _ ≤ _; exact Nat.le_of_eq rfl) (hb hby at_155) (fun _ _ => ⟨rfl, rfl, (by decide : 0 + 3 + 3 + 1 + 2 + 0 + 0 ≤ _), (by decide : 0 + 16 + 16 + 13 + (4 + 4) + 0 + 0 ≤ _)⟩)
                dsimp only [Pt.U, Pt.locs, Pt.cells, Pt.slots] at X44 l44 y44 z44 st44 hQ44
                subst l44 y44 z44
                obtain ⟨rfl, Nq44, eh44⟩ := hQ44
                have N44 := Fr.app N43 Nq44
                refine Go.call st44 ?_
                show Go p e below T44 (mkF m 158 #[.val (.int p0), .val (.int p1), .val (.int p2), .val (.int p3), .val (.int p4), .val (.int (0 : Int32)), .val (.int b6), .val (.int b7), .val (.int b8), .val (.int b9), .val r39, .val r40, .val .null, .val (.ref b41), .unset, .unset] [r40]) _
                refine Go.step (fun _ => XS.astore X44.here hx rfl (hb hby at_158) rfl hr40 (l' := #[.val (.int p0), .val (.int p1), .val (.int p2), .val (.int p3), .val (.int p4), .val (.int (0 : Int32)), .val (.int b6), .val (.int b7), .val (.int b8), .val (.int b9), .val r39, .val r40, .val .null, .val (.ref b41), .val r40, .unset]) (XS.store1 rfl (Or.inl rfl) (own_cat hr40))) ?_
                show Go p e below T44 (mkF m 160 #[.val (.int p0), .val (.int p1), .val (.int p2), .val (.int p3), .val (.int p4), .val (.int (0 : Int32)), .val (.int b6), .val (.int b7), .val (.int b8), .val (.int b9), .val r39, .val r40, .val .null, .val (.ref b41), .val r40, .unset] []) _
                refine Go.step (fun _ => XS.iload X44.here hx rfl (hb hby at_160) rfl ) ?_
                show Go p e below T44 (mkF m 162 #[.val (.int p0), .val (.int p1), .val (.int p2), .val (.int p3), .val (.int p4), .val (.int (0 : Int32)), .val (.int b6), .val (.int b7), .val (.int b8), .val (.int b9), .val r39, .val r40, .val .null, .val (.ref b41), .val r40, .unset] [(.int (0 : Int32))]) _
                refine Go.step (fun _ => XS.ifYes X44.here hx rfl (pc0 := 162) (pc' := 170) rfl (hb hby at_162) rfl ((if0 _ _).trans (teq (by decide)).1) (by decide) (by decide)) ?_
                show Go p e below T44 (mkF m 170 #[.val (.int p0), .val (.int p1), .val (.int p2), .val (.int p3), .val (.int p4), .val (.int (0 : Int32)), .val (.int b6), .val (.int b7), .val (.int b8), .val (.int b9), .val r39, .val r40, .val .null, .val (.ref b41), .val r40, .unset] []) _
                refine Go.step (fun _ => XS.aload X44.here hx rfl (hb hby at_170) rfl hr40 ) ?_
                show Go p e below T44 (mkF m 172 #[.val (.int p0), .val (.int p1), .val (.int p2), .val (.int p3), .val (.int p4), .val (.int (0 : Int32)), .val (.int b6), .val (.int b7), .val (.int b8), .val (.int b9), .val r39, .val r40, .val .null, .val (.ref b41), .val r40, .unset] [r40]) _
                refine Go.step (fun _ => XS.astore X44.here hx rfl (hb hby at_172) rfl hr40 (l' := #[.val (.int p0), .val (.int p1), .val (.int p2), .val (.int p3), .val (.int p4), .val (.int (0 : Int32)), .val (.int b6), .val (.int b7), .val (.int b8), .val (.int b9), .val r39, .val r40, .val .null, .val (.ref b41), .val r40, .val r40]) (XS.store1 rfl (Or.inl rfl) (own_cat hr40))) ?_
                show Go p e below T44 (mkF m 174 #[.val (.int p0), .val (.int p1), .val (.int p2), .val (.int p3), .val (.int p4), .val (.int (0 : Int32)), .val (.int b6), .val (.int b7), .val (.int b8), .val (.int b9), .val r39, .val r40, .val .null, .val (.ref b41), .val r40, .val r40] []) _
                refine Go.step (fun _ => XS.aload X44.here hx rfl (hb hby at_174) rfl hr40 ) ?_
                show Go p e below T44 (mkF m 176 #[.val (.int p0), .val (.int p1), .val (.int p2), .val (.int p3), .val (.int p4), .val (.int (0 : Int32)), .val (.int b6), .val (.int b7), .val (.int b8), .val (.int b9), .val r39, .val r40, .val .null, .val (.ref b41), .val r40, .val r40] [r40]) _
                refine Go.step (fun _ => XS.aload X44.here hx rfl (hb hby at_176) rfl hr40 ) ?_
                show Go p e below T44 (mkF m 178 #[.val (.int p0), .val (.int p1), .val (.int p2), .val (.int p3), .val (.int p4), .val (.int (0 : Int32)), .val (.int b6), .val (.int b7), .val (.int b8), .val (.int b9), .val r39, .val r40, .val .null, .val (.ref b41), .val r40, .val r40] [r40, r40]) _
                refine Go.step (fun _ => Jvm.RoadKit.acmp (g := (mkF m 178 #[.val (.int p0), .val (.int p1), .val (.int p2), .val (.int p3), .val (.int p4), .val (.int (0 : Int32)), .val (.int b6), .val (.int b7), .val (.int b8), .val (.int b9), .val r39, .val r40, .val .null, .val (.ref b41), .val r40, .val r40] [r40, r40])) X44 hx rfl hr40 hr40 (pc0 := 178) (pc' := 181) (same := true) rfl (hb hby at_178) rfl (decide_eq_true rfl) (by decide) (by decide)) ?_
                show Go p e below T44 (mkF m 181 #[.val (.int p0), .val (.int p1), .val (.int p2), .val (.int p3), .val (.int p4), .val (.int (0 : Int32)), .val (.int b6), .val (.int b7), .val (.int b8), .val (.int b9), .val r39, .val r40, .val .null, .val (.ref b41), .val r40, .val r40] []) _
                refine Go.step (fun _ => XS.aload X44.here hx rfl (hb hby at_181) rfl rfl ) ?_
                show Go p e below T44 (mkF m 183 #[.val (.int p0), .val (.int p1), .val (.int p2), .val (.int p3), .val (.int p4), .val (.int (0 : Int32)), .val (.int b6), .val (.int b7), .val (.int b8), .val (.int b9), .val r39, .val r40, .val .null, .val (.ref b41), .val r40, .val r40] [(.ref b41)]) _
                obtain ⟨cq45, kq45, q45a, q45b, q45c⟩ := isOf hZ eh44 A41_q43
                obtain ⟨_, _, ⟨T45, L45, k45, n45⟩, -, X45, ⟨Lc45, hQ45, l45, y45, z45⟩, st45⟩ := X44.virtualBack hx (y := (⟨"org/linkweave/core/TermDefinition", "direction", "()Ljava/lang/String;"⟩ : MethodName)) (z := (⟨"org/linkweave/core/TermDefinition", "direction", "()Ljava/lang/String;"⟩ : MethodName)) hown (mvT hZ (hw _ (List.mem_of_getElem? (i := 57) rfl))) (mvT hZ (hw _ (List.mem_of_getElem? (i := 58) rfl))) (notFace_of_selects (args := #[]) (mvT hZ (hw _ (List.mem_of_getElem? (i := 60) rfl)))) (mvT hZ (hw _ (List.mem_of_getElem? (i := 60) rfl))) (mvT hZ (hw _ (List.mem_of_getElem? (i := 59) rfl))) (by decide) (backOf (W := 0) (rmD0 l Z a0 hw [] b41 r39 T43.heap n0 Z43 FL43 hr39) hZ (hw _ (List.mem_of_getElem? (i := 61) rfl)) (hw _ (List.mem_of_getElem? (i := 6) rfl)) (by decide) (by decide)) q45a q45c (g := (mkF m 183 #[.val (.int p0), .val (.int p1), .val (.int p2), .val (.int p3), .val (.int p4), .val (.int (0 : Int32)), .val (.int b6), .val (.int b7), .val (.int b8), .val (.int b9), .val r39, .val r40, .val .null, .val (.ref b41), .val r40, .val r40] [(.ref b41)])) rfl (by rw [hml]; rfl) (Steps.refl _) (argsL := []) (rest := []) (lenOf pd_8 rfl) rfl (by show 2 * 0 + _ ≤ _; exact Nat.le_of_eq rfl) (hb hby at_183) (fun _ _ => ⟨rfl, eh44, (by decide : 0 + 3 + 3 + 1 + 2 + 0 + 0 + 0 ≤ _), (by decide : 0 + 16 + 16 + 13 + (4 + 4) + 0 + 0 + 0 ≤ _)⟩)
                dsimp only [Pt.U, Pt.locs, Pt.cells, Pt.slots] at X45 l45 y45 z45 st45 hQ45
                subst l45 y45 z45
                obtain ⟨rfl, Nq45, ei45⟩ := hQ45
                have N45 := Fr.app N44 Nq45
                refine Go.call st45 ?_
                show Go p e below T45 (mkF m 186 #[.val (.int p0), .val (.int p1), .val (.int p2), .val (.int p3), .val (.int p4), .val (.int (0 : Int32)), .val (.int b6), .val (.int b7), .val (.int b8), .val (.int b9), .val r39, .val r40, .val .null, .val (.ref b41), .val r40, .val r40] [r39]) _
                refine Go.step (fun _ => XS.aload X45.here hx rfl (hb hby at_186) rfl hr39 ) ?_
                show Go p e below T45 (mkF m 188 #[.val (.int p0), .val (.int p1), .val (.int p2), .val (.int p3), .val (.int p4), .val (.int (0 : Int32)), .val (.int b6), .val (.int b7), .val (.int b8), .val (.int b9), .val r39, .val r40, .val .null, .val (.ref b41), .val r40, .val r40] [r39, r39]) _
                refine Go.step (fun _ => Jvm.RoadKit.acmp (g := (mkF m 188 #[.val (.int p0), .val (.int p1), .val (.int p2), .val (.int p3), .val (.int p4), .val (.int (0 : Int32)), .val (.int b6), .val (.int b7), .val (.int b8), .val (.int b9), .val r39, .val r40, .val .null, .val (.ref b41), .val r40, .val r40] [r39, r39])) X45 hx rfl hr39 hr39 (pc0 := 188) (pc' := 191) (same := true) rfl (hb hby at_188) rfl (decide_eq_true rfl) (by decide) (by decide)) ?_
                show Go p e below T45 (mkF m 191 #[.val (.int p0), .val (.int p1), .val (.int p2), .val (.int p3), .val (.int p4), .val (.int (0 : Int32)), .val (.int b6), .val (.int b7), .val (.int b8), .val (.int b9), .val r39, .val r40, .val .null, .val (.ref b41), .val r40, .val r40] []) _
                refine Go.step (fun _ => XS.iconst X45.here hx rfl (hb hby at_191)) ?_
                show Go p e below T45 (mkF m 192 #[.val (.int p0), .val (.int p1), .val (.int p2), .val (.int p3), .val (.int p4), .val (.int (0 : Int32)), .val (.int b6), .val (.int b7), .val (.int b8), .val (.int b9), .val r39, .val r40, .val .null, .val (.ref b41), .val r40, .val r40] [(.int (1 : Int32))]) _
                refine Go.step (fun _ => XS.goto X45.here hx rfl (pc0 := 192) (pc' := 196) rfl (hb hby at_192) (by decide) (by decide)) ?_
                show Go p e below T45 (mkF m 196 #[.val (.int p0), .val (.int p1), .val (.int p2), .val (.int p3), .val (.int p4), .val (.int (0 : Int32)), .val (.int b6), .val (.int b7), .val (.int b8), .val (.int b9), .val r39, .val r40, .val .null, .val (.ref b41), .val r40, .val r40] [(.int (1 : Int32))]) _
                refine Go.retNW (t := .boolean) (z' := (1 : Int32)) X45 hS42 (by rw [ei45]; exact hk43) hx hret (by simp) hlk (hb hby at_196) (by decide) ?_ (by decide) (by decide)
                exact ⟨rfl, N45⟩
              · skip
                obtain ⟨cq46, kq46, q46a, q46b, q46c⟩ := isOf hZ rfl A41_q43
                obtain ⟨_, _, ⟨T46, L46, k46, n46⟩, -, X46, ⟨Lc46, hQ46, l46, y46, z46⟩, st46⟩ := X43.virtualBack hx (y := (⟨"org/linkweave/core/TermDefinition", "direction", "(Ljava/lang/String;)Ljava/lang/String;"⟩ : MethodName)) (z := (⟨"org/linkweave/core/TermDefinition", "direction", "(Ljava/lang/String;)Ljava/lang/String;"⟩ : MethodName)) hown (mvT hZ (hw _ (List.mem_of_getElem? (i := 52) rfl))) (mvT hZ (hw _ (List.mem_of_getElem? (i := 53) rfl))) (notFace_of_selects (args := #[]) (mvT hZ (hw _ (List.mem_of_getElem? (i := 55) rfl)))) (mvT hZ (hw _ (List.mem_of_getElem? (i := 55) rfl))) (mvT hZ (hw _ (List.mem_of_getElem? (i := 54) rfl))) (by decide) (backOf (W := 0) (rmDi l Z a0 hw [] b41 r40 (nar .boolean (1 : Int32)) r39 r39 T43.heap n0 Z43 FB43 FL43 hr40 hr39 (by first | rfl | decide)) hZ (hw _ (List.mem_of_getElem? (i := 56) rfl)) (hw _ (List.mem_of_getElem? (i := 6) rfl)) (by decide) (by decide)) q46a q46c (g := (mkF m 155 #[.val (.int p0), .val (.int p1), .val (.int p2), .val (.int p3), .val (.int p4), .val (.int (1 : Int32)), .val (.int b6), .val (.int b7), .val (.int b8), .val (.int b9), .val r39, .val r40, .val .null, .val (.ref b41), .unset, .unset] [r40, (.ref b41)])) rfl (by rw [hml]; rfl) (Steps.refl _) (argsL := [r40]) (rest := []) (lenOf pd_7 rfl) rfl (by show 2 * 0 + _ ≤ _; exact Nat.le_of_eq rfl) (hb hby at_155) (fun _ _ => ⟨rfl, rfl, (by decide : 0 + 3 + 3 + 1 + 2 + 0 + 0 ≤ _), (by decide : 0 + 16 + 16 + 13 + (4 + 4) + 0 + 0 ≤ _)⟩)
                dsimp only [Pt.U, Pt.locs, Pt.cells, Pt.slots] at X46 l46 y46 z46 st46 hQ46
                subst l46 y46 z46
                obtain ⟨rfl, Nq46, eh46⟩ := hQ46
                have N46 := Fr.app N43 Nq46
                refine Go.call st46 ?_
                show Go p e below T46 (mkF m 158 #[.val (.int p0), .val (.int p1), .val (.int p2), .val (.int p3), .val (.int p4), .val (.int (1 : Int32)), .val (.int b6), .val (.int b7), .val (.int b8), .val (.int b9), .val r39, .val r40, .val .null, .val (.ref b41), .unset, .unset] [r39]) _
                refine Go.step (fun _ => XS.astore X46.here hx rfl (hb hby at_158) rfl hr39 (l' := #[.val (.int p0), .val (.int p1), .val (.int p2), .val (.int p3), .val (.int p4), .val (.int (1 : Int32)), .val (.int b6), .val (.int b7), .val (.int b8), .val (.int b9), .val r39, .val r40, .val .null, .val (.ref b41), .val r39, .unset]) (XS.store1 rfl (Or.inl rfl) (own_cat hr39))) ?_
                show Go p e below T46 (mkF m 160 #[.val (.int p0), .val (.int p1), .val (.int p2), .val (.int p3), .val (.int p4), .val (.int (1 : Int32)), .val (.int b6), .val (.int b7), .val (.int b8), .val (.int b9), .val r39, .val r40, .val .null, .val (.ref b41), .val r39, .unset] []) _
                refine Go.step (fun _ => XS.iload X46.here hx rfl (hb hby at_160) rfl ) ?_
                show Go p e below T46 (mkF m 162 #[.val (.int p0), .val (.int p1), .val (.int p2), .val (.int p3), .val (.int p4), .val (.int (1 : Int32)), .val (.int b6), .val (.int b7), .val (.int b8), .val (.int b9), .val r39, .val r40, .val .null, .val (.ref b41), .val r39, .unset] [(.int (1 : Int32))]) _
                refine Go.step (fun _ => XS.ifNo X46.here hx rfl (hb hby at_162) rfl ((if0 _ _).trans (feq (by decide)).1)) ?_
                show Go p e below T46 (mkF m 165 #[.val (.int p0), .val (.int p1), .val (.int p2), .val (.int p3), .val (.int p4), .val (.int (1 : Int32)), .val (.int b6), .val (.int b7), .val (.int b8), .val (.int b9), .val r39, .val r40, .val .null, .val (.ref b41), .val r39, .unset] []) _
                refine Go.step (fun _ => XS.aload X46.here hx rfl (hb hby at_165) rfl hr39 ) ?_
                show Go p e below T46 (mkF m 167 #[.val (.int p0), .val (.int p1), .val (.int p2), .val (.int p3), .val (.int p4), .val (.int (1 : Int32)), .val (.int b6), .val (.int b7), .val (.int b8), .val (.int b9), .val r39, .val r40, .val .null, .val (.ref b41), .val r39, .unset] [r39]) _
                refine Go.step (fun _ => XS.goto X46.here hx rfl (pc0 := 167) (pc' := 172) rfl (hb hby at_167) (by decide) (by decide)) ?_
                show Go p e below T46 (mkF m 172 #[.val (.int p0), .val (.int p1), .val (.int p2), .val (.int p3), .val (.int p4), .val (.int (1 : Int32)), .val (.int b6), .val (.int b7), .val (.int b8), .val (.int b9), .val r39, .val r40, .val .null, .val (.ref b41), .val r39, .unset] [r39]) _
                refine Go.step (fun _ => XS.astore X46.here hx rfl (hb hby at_172) rfl hr39 (l' := #[.val (.int p0), .val (.int p1), .val (.int p2), .val (.int p3), .val (.int p4), .val (.int (1 : Int32)), .val (.int b6), .val (.int b7), .val (.int b8), .val (.int b9), .val r39, .val r40, .val .null, .val (.ref b41), .val r39, .val r39]) (XS.store1 rfl (Or.inl rfl) (own_cat hr39))) ?_
                show Go p e below T46 (mkF m 174 #[.val (.int p0), .val (.int p1), .val (.int p2), .val (.int p3), .val (.int p4), .val (.int (1 : Int32)), .val (.int b6), .val (.int b7), .val (.int b8), .val (.int b9), .val r39, .val r40, .val .null, .val (.ref b41), .val r39, .val r39] []) _
                refine Go.step (fun _ => XS.aload X46.here hx rfl (hb hby at_174) rfl hr39 ) ?_
                show Go p e below T46 (mkF m 176 #[.val (.int p0), .val (.int p1), .val (.int p2), .val (.int p3), .val (.int p4), .val (.int (1 : Int32)), .val (.int b6), .val (.int b7), .val (.int b8), .val (.int b9), .val r39, .val r40, .val .null, .val (.ref b41), .val r39, .val r39] [r39]) _
                refine Go.step (fun _ => XS.aload X46.here hx rfl (hb hby at_176) rfl hr39 ) ?_
                show Go p e below T46 (mkF m 178 #[.val (.int p0), .val (.int p1), .val (.int p2), .val (.int p3), .val (.int p4), .val (.int (1 : Int32)), .val (.int b6), .val (.int b7), .val (.int b8), .val (.int b9), .val r39, .val r40, .val .null, .val (.ref b41), .val r39, .val r39] [r39, r39]) _
                refine Go.step (fun _ => Jvm.RoadKit.acmp (g := (mkF m 178 #[.val (.int p0), .val (.int p1), .val (.int p2), .val (.int p3), .val (.int p4), .val (.int (1 : Int32)), .val (.int b6), .val (.int b7), .val (.int b8), .val (.int b9), .val r39, .val r40, .val .null, .val (.ref b41), .val r39, .val r39] [r39, r39])) X46 hx rfl hr39 hr39 (pc0 := 178) (pc' := 181) (same := true) rfl (hb hby at_178) rfl (decide_eq_true rfl) (by decide) (by decide)) ?_
                show Go p e below T46 (mkF m 181 #[.val (.int p0), .val (.int p1), .val (.int p2), .val (.int p3), .val (.int p4), .val (.int (1 : Int32)), .val (.int b6), .val (.int b7), .val (.int b8), .val (.int b9), .val r39, .val r40, .val .null, .val (.ref b41), .val r39, .val r39] []) _
                refine Go.step (fun _ => XS.aload X46.here hx rfl (hb hby at_181) rfl rfl ) ?_
                show Go p e below T46 (mkF m 183 #[.val (.int p0), .val (.int p1), .val (.int p2), .val (.int p3), .val (.int p4), .val (.int (1 : Int32)), .val (.int b6), .val (.int b7), .val (.int b8), .val (.int b9), .val r39, .val r40, .val .null, .val (.ref b41), .val r39, .val r39] [(.ref b41)]) _
                obtain ⟨cq47, kq47, q47a, q47b, q47c⟩ := isOf hZ eh46 A41_q43
                obtain ⟨_, _, ⟨T47, L47, k47, n47⟩, -, X47, ⟨Lc47, hQ47, l47, y47, z47⟩, st47⟩ := X46.virtualBack hx (y := (⟨"org/linkweave/core/TermDefinition", "direction", "()Ljava/lang/String;"⟩ : MethodName)) (z := (⟨"org/linkweave/core/TermDefinition", "direction", "()Ljava/lang/String;"⟩ : MethodName)) hown (mvT hZ (hw _ (List.mem_of_getElem? (i := 57) rfl))) (mvT hZ (hw _ (List.mem_of_getElem? (i := 58) rfl))) (notFace_of_selects (args := #[]) (mvT hZ (hw _ (List.mem_of_getElem? (i := 60) rfl)))) (mvT hZ (hw _ (List.mem_of_getElem? (i := 60) rfl))) (mvT hZ (hw _ (List.mem_of_getElem? (i := 59) rfl))) (by decide) (backOf (W := 0) (rmD0 l Z a0 hw [] b41 r39 T43.heap n0 Z43 FL43 hr39) hZ (hw _ (List.mem_of_getElem? (i := 61) rfl)) (hw _ (List.mem_of_getElem? (i := 6) rfl)) (by decide) (by decide)) q47a q47c (g := (mkF m 183 #[.val (.int p0), .val (.int p1), .val (.int p2), .val (.int p3), .val (.int p4), .val (.int (1 : Int32)), .val (.int b6), .val (.int b7), .val (.int b8), .val (.int b9), .val r39, .val r40, .val .null, .val (.ref b41), .val r39, .val r39] [(.ref b41)])) rfl (by rw [hml]; rfl) (Steps.refl _) (argsL := []) (rest := []) (lenOf pd_8 rfl) rfl (by show 2 * 0 + _ ≤ _; exact Nat.le_of_eq rfl) (hb hby at_183) (fun _ _ => ⟨rfl, eh46, (by decide : 0 + 3 + 3 + 1 + 2 + 0 + 0 + 0 ≤ _), (by decide : 0 + 16 + 16 + 13 + (4 + 4) + 0 + 0 + 0 ≤ _)⟩)
                dsimp only [Pt.U, Pt.locs, Pt.cells, Pt.slots] at X47 l47 y47 z47 st47 hQ47
                subst l47 y47 z47
                obtain ⟨rfl, Nq47, ei47⟩ := hQ47
                have N47 := Fr.app N46 Nq47
                refine Go.call st47 ?_
                show Go p e below T47 (mkF m 186 #[.val (.int p0), .val (.int p1), .val (.int p2), .val (.int p3), .val (.int p4), .val (.int (1 : Int32)), .val (.int b6), .val (.int b7), .val (.int b8), .val (.int b9), .val r39, .val r40, .val .null, .val (.ref b41), .val r39, .val r39] [r39]) _
                refine Go.step (fun _ => XS.aload X47.here hx rfl (hb hby at_186) rfl hr39 ) ?_
                show Go p e below T47 (mkF m 188 #[.val (.int p0), .val (.int p1), .val (.int p2), .val (.int p3), .val (.int p4), .val (.int (1 : Int32)), .val (.int b6), .val (.int b7), .val (.int b8), .val (.int b9), .val r39, .val r40, .val .null, .val (.ref b41), .val r39, .val r39] [r39, r39]) _
                refine Go.step (fun _ => Jvm.RoadKit.acmp (g := (mkF m 188 #[.val (.int p0), .val (.int p1), .val (.int p2), .val (.int p3), .val (.int p4), .val (.int (1 : Int32)), .val (.int b6), .val (.int b7), .val (.int b8), .val (.int b9), .val r39, .val r40, .val .null, .val (.ref b41), .val r39, .val r39] [r39, r39])) X47 hx rfl hr39 hr39 (pc0 := 188) (pc' := 191) (same := true) rfl (hb hby at_188) rfl (decide_eq_true rfl) (by decide) (by decide)) ?_
                show Go p e below T47 (mkF m 191 #[.val (.int p0), .val (.int p1), .val (.int p2), .val (.int p3), .val (.int p4), .val (.int (1 : Int32)), .val (.int b6), .val (.int b7), .val (.int b8), .val (.int b9), .val r39, .val r40, .val .null, .val (.ref b41), .val r39, .val r39] []) _
                refine Go.step (fun _ => XS.iconst X47.here hx rfl (hb hby at_191)) ?_
                show Go p e below T47 (mkF m 192 #[.val (.int p0), .val (.int p1), .val (.int p2), .val (.int p3), .val (.int p4), .val (.int (1 : Int32)), .val (.int b6), .val (.int b7), .val (.int b8), .val (.int b9), .val r39, .val r40, .val .null, .val (.ref b41), .val r39, .val r39] [(.int (1 : Int32))]) _
                refine Go.step (fun _ => XS.goto X47.here hx rfl (pc0 := 192) (pc' := 196) rfl (hb hby at_192) (by decide) (by decide)) ?_
                show Go p e below T47 (mkF m 196 #[.val (.int p0), .val (.int p1), .val (.int p2), .val (.int p3), .val (.int p4), .val (.int (1 : Int32)), .val (.int b6), .val (.int b7), .val (.int b8), .val (.int b9), .val r39, .val r40, .val .null, .val (.ref b41), .val r39, .val r39] [(.int (1 : Int32))]) _
                refine Go.retNW (t := .boolean) (z' := (1 : Int32)) X47 hS42 (by rw [ei47]; exact hk43) hx hret (by simp) hlk (hb hby at_196) (by decide) ?_ (by decide) (by decide)
                exact ⟨rfl, N47⟩
            · skip
              refine Go.step (fun _ => XS.ifNo X40.here hx rfl (hb hby at_103) rfl ((if0 _ _).trans (feq hc103).1)) ?_
              show Go p e below T40 (mkF m 106 #[.val (.int p0), .val (.int p1), .val (.int p2), .val (.int p3), .val (.int p4), .val (.int b5), .val (.int b6), .val (.int b7), .val (.int b8), .val (.int b9), .val r39, .val r40, .unset, .unset, .unset, .unset] []) _
              refine Go.step (fun _ => XS.iloadN X40.here hx rfl (hb hby at_106) rfl ) ?_
              show Go p e below T40 (mkF m 107 #[.val (.int p0), .val (.int p1), .val (.int p2), .val (.int p3), .val (.int p4), .val (.int b5), .val (.int b6), .val (.int b7), .val (.int b8), .val (.int b9), .val r39, .val r40, .unset, .unset, .unset, .unset] [(.int p1)]) _
              refine Go.step (fun _ => XS.sipush X40.here hx rfl (hb hby at_107)) ?_
              show Go p e below T40 (mkF m 110 #[.val (.int p0), .val (.int p1), .val (.int p2), .val (.int p3), .val (.int p4), .val (.int b5), .val (.int b6), .val (.int b7), .val (.int b8), .val (.int b9), .val r39, .val r40, .unset, .unset, .unset, .unset] [(.int (255 : Int32)), (.int p1)]) _
              refine Go.step (fun _ => XS.iand X40.here hx rfl (hb hby at_110) rfl) ?_
              show Go p e below T40 (mkF m 111 #[.val (.int p0), .val (.int p1), .val (.int p2), .val (.int p3), .val (.int p4), .val (.int b5), .val (.int b6), .val (.int b7), .val (.int b8), .val (.int b9), .val r39, .val r40, .unset, .unset, .unset, .unset] [(.int (p1 &&& (255 : Int32)))]) _
              refine Go.step (fun _ => XS.i2c X40.here hx rfl (hb hby at_111) rfl) ?_
              show Go p e below T40 (mkF m 112 #[.val (.int p0), .val (.int p1), .val (.int p2), .val (.int p3), .val (.int p4), .val (.int b5), .val (.int b6), .val (.int b7), .val (.int b8), .val (.int b9), .val r39, .val r40, .unset, .unset, .unset, .unset] [(.int ((p1 &&& (255 : Int32)).toUInt32.toUInt16.toUInt32.toInt32))]) _
              obtain ⟨_, _, ⟨T48, L48, k48, n48⟩, -, X48, ⟨Lc48, hQ48, l48, y48, z48⟩, st48⟩ := Jvm.LawKit.callS X40 hx (y := (⟨"java/lang/String", "valueOf", "(C)Ljava/lang/String;"⟩ : MethodName)) hown (mvT hZ (hw _ (List.mem_of_getElem? (i := 86) rfl))) (mvT hZ (hw _ (List.mem_of_getElem? (i := 87) rfl))) (mvT hZ (hw _ (List.mem_of_getElem? (i := 8) rfl))) (mvT hZ (hw _ (List.mem_of_getElem? (i := 88) rfl))) (by decide) (backOf (W := 0) (rmVo l Z a0 hw [] ((p1 &&& (255 : Int32)).toUInt32.toUInt16.toUInt32.toInt32) G T40.heap n0 Z40 P3 O2_q40 (by rw [i2c_mask]; exact (own_cB _).2)) hZ (hw _ (List.mem_of_getElem? (i := 88) rfl)) (hw _ (List.mem_of_getElem? (i := 8) rfl)) (by decide) (by decide)) (g := (mkF m 112 #[.val (.int p0), .val (.int p1), .val (.int p2), .val (.int p3), .val (.int p4), .val (.int b5), .val (.int b6), .val (.int b7), .val (.int b8), .val (.int b9), .val r39, .val r40, .unset, .unset, .unset, .unset] [(.int ((p1 &&& (255 : Int32)).toUInt32.toUInt16.toUInt32.toInt32))])) rfl (by rw [hml]; rfl) (argsL := [(.int ((p1 &&& (255 : Int32)).toUInt32.toUInt16.toUInt32.toInt32))]) (rest := []) (lenOf pd_9 rfl) rfl (by show 2 * 0 + _ ≤ _; exact Nat.le_of_eq rfl) (hb hby at_112) (fun _ _ => ⟨rfl, rfl, (by decide : 0 + 3 + 3 + 2 ≤ _), (by decide : 0 + 16 + 16 + 5 ≤ _)⟩)
              dsimp only [Pt.U, Pt.locs, Pt.cells, Pt.slots] at X48 l48 y48 z48 st48 hQ48
              subst l48 y48 z48
              obtain ⟨x48, rfl, Nq48, K48⟩ := hQ48
              have N48 := Fr.app N40 Nq48
              refine Go.step st48 ?_
              have O2_q48 := own_staKeep O2_q40 K48 all0
              have Z48 : n0 ≤ T48.heap.size := Nat.le_trans Z40 K48.1
              have hk48 := Nat.le_trans hk40 K48.1
              show Go p e below T48 (mkF m 115 #[.val (.int p0), .val (.int p1), .val (.int p2), .val (.int p3), .val (.int p4), .val (.int b5), .val (.int b6), .val (.int b7), .val (.int b8), .val (.int b9), .val r39, .val r40, .unset, .unset, .unset, .unset] [(.ref x48)]) _
              refine Go.step (fun _ => XS.goto X48.here hx rfl (pc0 := 115) (pc' := 119) rfl (hb hby at_115) (by decide) (by decide)) ?_
              show Go p e below T48 (mkF m 119 #[.val (.int p0), .val (.int p1), .val (.int p2), .val (.int p3), .val (.int p4), .val (.int b5), .val (.int b6), .val (.int b7), .val (.int b8), .val (.int b9), .val r39, .val r40, .unset, .unset, .unset, .unset] [(.ref x48)]) _
              refine Go.step (fun _ => XS.astore X48.here hx rfl (hb hby at_119) rfl rfl (l' := #[.val (.int p0), .val (.int p1), .val (.int p2), .val (.int p3), .val (.int p4), .val (.int b5), .val (.int b6), .val (.int b7), .val (.int b8), .val (.int b9), .val r39, .val r40, .val (.ref x48), .unset, .unset, .unset]) rfl) ?_
              show Go p e below T48 (mkF m 121 #[.val (.int p0), .val (.int p1), .val (.int p2), .val (.int p3), .val (.int p4), .val (.int b5), .val (.int b6), .val (.int b7), .val (.int b8), .val (.int b9), .val r39, .val r40, .val (.ref x48), .unset, .unset, .unset] []) _
              obtain ⟨T49, h49, X49, e49, E49, A49, D49, -, st49⟩ := newO X48 hx hZ hown (hw _ (List.mem_of_getElem? (i := 4) rfl)) (hw _ (List.mem_of_getElem? (i := 5) rfl)) (hw _ (List.mem_of_getElem? (i := 6) rfl)) rfl (g := (mkF m 121 #[.val (.int p0), .val (.int p1), .val (.int p2), .val (.int p3), .val (.int p4), .val (.int b5), .val (.int b6), .val (.int b7), .val (.int b8), .val (.int b9), .val r39, .val r40, .val (.ref x48), .unset, .unset, .unset] [])) rfl (hb hby at_121) (by decide) (by decide)
              obtain ⟨b49, g49⟩ : ∃ z, z = T48.heap.size := ⟨_, rfl⟩
              rw [← g49] at A49 D49 st49
              have g_b49 : n0 ≤ b49 := Nat.le_trans Z48 (Nat.le_of_eq g49.symm)
              have O2_q49 := O2_q48.ext E49
              have Z49 : n0 ≤ h49.size := Nat.le_trans Z48 E49.1
              have hk49 := Nat.le_trans hk48 E49.1
              refine Go.step st49 ?_
              have F_iri_b49 : Fld Z h49 b49 "org/linkweave/core/TermDefinition" "iri" "Ljava/lang/String;" .null := D49 (Or.inr (hw _ (List.mem_of_getElem? (i := 27) rfl))) (ty := (.object "java/lang/String")) (by decide)
              have F_prefix_b49 : Fld Z h49 b49 "org/linkweave/core/TermDefinition" "prefix" "Z" (.int (0 : Int32)) := D49 (Or.inr (hw _ (List.mem_of_getElem? (i := 29) rfl))) (ty := .boolean) (by decide)
              have F_reverse_b49 : Fld Z h49 b49 "org/linkweave/core/TermDefinition" "reverse" "Z" (.int (0 : Int32)) := D49 (Or.inr (hw _ (List.mem_of_getElem? (i := 31) rfl))) (ty := .boolean) (by decide)
              have F_typeMapping_b49 : Fld Z h49 b49 "org/linkweave/core/TermDefinition" "typeMapping" "Ljava/lang/String;" .null := D49 (Or.inr (hw _ (List.mem_of_getElem? (i := 33) rfl))) (ty := (.object "java/lang/String")) (by decide)
              have F_container_b49 : Fld Z h49 b49 "org/linkweave/core/TermDefinition" "container" "Ljava/util/Set;" .null := D49 (Or.inr (hw _ (List.mem_of_getElem? (i := 35) rfl))) (ty := (.object "java/util/Set")) (by decide)
              have F_hasLanguage_b49 : Fld Z h49 b49 "org/linkweave/core/TermDefinition" "hasLanguage" "Z" (.int (0 : Int32)) := D49 (Or.inr (hw _ (List.mem_of_getElem? (i := 37) rfl))) (ty := .boolean) (by decide)
              have F_language_b49 : Fld Z h49 b49 "org/linkweave/core/TermDefinition" "language" "Ljava/lang/String;" .null := D49 (Or.inr (hw _ (List.mem_of_getElem? (i := 39) rfl))) (ty := (.object "java/lang/String")) (by decide)
              have F_hasDirection_b49 : Fld Z h49 b49 "org/linkweave/core/TermDefinition" "hasDirection" "Z" (.int (0 : Int32)) := D49 (Or.inr (hw _ (List.mem_of_getElem? (i := 41) rfl))) (ty := .boolean) (by decide)
              have F_direction_b49 : Fld Z h49 b49 "org/linkweave/core/TermDefinition" "direction" "Ljava/lang/String;" .null := D49 (Or.inr (hw _ (List.mem_of_getElem? (i := 43) rfl))) (ty := (.object "java/lang/String")) (by decide)
              have F_index_b49 : Fld Z h49 b49 "org/linkweave/core/TermDefinition" "index" "Ljava/lang/String;" .null := D49 (Or.inr (hw _ (List.mem_of_getElem? (i := 45) rfl))) (ty := (.object "java/lang/String")) (by decide)
              have F_scopedContext_b49 : Fld Z h49 b49 "org/linkweave/core/TermDefinition" "scopedContext" "Lorg/linkweave/core/TermDefinition$ScopedContext;" .null := D49 (Or.inr (hw _ (List.mem_of_getElem? (i := 47) rfl))) (ty := (.object "org/linkweave/core/TermDefinition$ScopedContext")) (by decide)
              have F_nest_b49 : Fld Z h49 b49 "org/linkweave/core/TermDefinition" "nest" "Ljava/lang/String;" .null := D49 (Or.inr (hw _ (List.mem_of_getElem? (i := 49) rfl))) (ty := (.object "java/lang/String")) (by decide)
              have F_protectedTerm_b49 : Fld Z h49 b49 "org/linkweave/core/TermDefinition" "protectedTerm" "Z" (.int (0 : Int32)) := D49 (Or.inr (hw _ (List.mem_of_getElem? (i := 51) rfl))) (ty := .boolean) (by decide)
              show Go p e below T49 (mkF m 124 #[.val (.int p0), .val (.int p1), .val (.int p2), .val (.int p3), .val (.int p4), .val (.int b5), .val (.int b6), .val (.int b7), .val (.int b8), .val (.int b9), .val r39, .val r40, .val (.ref x48), .unset, .unset, .unset] [(.ref b49)]) _
              refine Go.step (fun _ => XS.dup X49.here hx rfl (hb hby at_124) rfl rfl) ?_
              show Go p e below T49 (mkF m 125 #[.val (.int p0), .val (.int p1), .val (.int p2), .val (.int p3), .val (.int p4), .val (.int b5), .val (.int b6), .val (.int b7), .val (.int b8), .val (.int b9), .val r39, .val r40, .val (.ref x48), .unset, .unset, .unset] [(.ref b49), (.ref b49)]) _
              obtain ⟨a50, T50, h50, kk50, X50, e50, E50, hS50, hk50, hZ, hown, st50⟩ := ldcS X49 hx hZ hown (hw _ (List.mem_of_getElem? (i := 7) rfl)) wStr e49 hS40 hk49 (g := (mkF m 125 #[.val (.int p0), .val (.int p1), .val (.int p2), .val (.int p3), .val (.int p4), .val (.int b5), .val (.int b6), .val (.int b7), .val (.int b8), .val (.int b9), .val r39, .val r40, .val (.ref x48), .unset, .unset, .unset] [(.ref b49), (.ref b49)])) rfl (hb hby at_125) (n := 4) (by decide) (by decide) (by decide) (by decide)
              refine Go.step st50 ?_
              have O2_q50 := O2_q49.ext E50
              have A49_q50 := A49.ext E50
              have F_iri_b49_q50 := F_iri_b49.ext E50
              have F_prefix_b49_q50 := F_prefix_b49.ext E50
              have F_reverse_b49_q50 := F_reverse_b49.ext E50
              have F_typeMapping_b49_q50 := F_typeMapping_b49.ext E50
              have F_container_b49_q50 := F_container_b49.ext E50
              have F_hasLanguage_b49_q50 := F_hasLanguage_b49.ext E50
              have F_language_b49_q50 := F_language_b49.ext E50
              have F_hasDirection_b49_q50 := F_hasDirection_b49.ext E50
              have F_direction_b49_q50 := F_direction_b49.ext E50
              have F_index_b49_q50 := F_index_b49.ext E50
              have F_scopedContext_b49_q50 := F_scopedContext_b49.ext E50
              have F_nest_b49_q50 := F_nest_b49.ext E50
              have F_protectedTerm_b49_q50 := F_protectedTerm_b49.ext E50
              have Z50 : n0 ≤ h50.size := Nat.le_trans Z49 E50.1
              show Go p e below T50 (mkF m 127 #[.val (.int p0), .val (.int p1), .val (.int p2), .val (.int p3), .val (.int p4), .val (.int b5), .val (.int b6), .val (.int b7), .val (.int b8), .val (.int b9), .val r39, .val r40, .val (.ref x48), .unset, .unset, .unset] [(.ref a50), (.ref b49), (.ref b49)]) _
              refine Go.step (fun _ => XS.iload X50.here hx rfl (hb hby at_127) rfl ) ?_
              show Go p e below T50 (mkF m 129 #[.val (.int p0), .val (.int p1), .val (.int p2), .val (.int p3), .val (.int p4), .val (.int b5), .val (.int b6), .val (.int b7), .val (.int b8), .val (.int b9), .val r39, .val r40, .val (.ref x48), .unset, .unset, .unset] [(.int b7), (.ref a50), (.ref b49), (.ref b49)]) _
              refine Go.step (fun _ => XS.iload X50.here hx rfl (hb hby at_129) rfl ) ?_
              show Go p e below T50 (mkF m 131 #[.val (.int p0), .val (.int p1), .val (.int p2), .val (.int p3), .val (.int p4), .val (.int b5), .val (.int b6), .val (.int b7), .val (.int b8), .val (.int b9), .val r39, .val r40, .val (.ref x48), .unset, .unset, .unset] [(.int b8), (.int b7), (.ref a50), (.ref b49), (.ref b49)]) _
              refine Go.step (fun _ => XS.aconstNull X50.here hx rfl (hb hby at_131)) ?_
              show Go p e below T50 (mkF m 132 #[.val (.int p0), .val (.int p1), .val (.int p2), .val (.int p3), .val (.int p4), .val (.int b5), .val (.int b6), .val (.int b7), .val (.int b8), .val (.int b9), .val r39, .val r40, .val (.ref x48), .unset, .unset, .unset] [.null, (.int b8), (.int b7), (.ref a50), (.ref b49), (.ref b49)]) _
              refine Go.step (fun _ => XS.aconstNull X50.here hx rfl (hb hby at_132)) ?_
              show Go p e below T50 (mkF m 133 #[.val (.int p0), .val (.int p1), .val (.int p2), .val (.int p3), .val (.int p4), .val (.int b5), .val (.int b6), .val (.int b7), .val (.int b8), .val (.int b9), .val r39, .val r40, .val (.ref x48), .unset, .unset, .unset] [.null, .null, (.int b8), (.int b7), (.ref a50), (.ref b49), (.ref b49)]) _
              refine Go.step (fun _ => XS.iload X50.here hx rfl (hb hby at_133) rfl ) ?_
              show Go p e below T50 (mkF m 135 #[.val (.int p0), .val (.int p1), .val (.int p2), .val (.int p3), .val (.int p4), .val (.int b5), .val (.int b6), .val (.int b7), .val (.int b8), .val (.int b9), .val r39, .val r40, .val (.ref x48), .unset, .unset, .unset] [(.int b6), .null, .null, (.int b8), (.int b7), (.ref a50), (.ref b49), (.ref b49)]) _
              refine Go.step (fun _ => XS.aload X50.here hx rfl (hb hby at_135) rfl rfl ) ?_
              show Go p e below T50 (mkF m 137 #[.val (.int p0), .val (.int p1), .val (.int p2), .val (.int p3), .val (.int p4), .val (.int b5), .val (.int b6), .val (.int b7), .val (.int b8), .val (.int b9), .val r39, .val r40, .val (.ref x48), .unset, .unset, .unset] [(.ref x48), (.int b6), .null, .null, (.int b8), (.int b7), (.ref a50), (.ref b49), (.ref b49)]) _
              refine Go.step (fun _ => XS.iload X50.here hx rfl (hb hby at_137) rfl ) ?_
              show Go p e below T50 (mkF m 139 #[.val (.int p0), .val (.int p1), .val (.int p2), .val (.int p3), .val (.int p4), .val (.int b5), .val (.int b6), .val (.int b7), .val (.int b8), .val (.int b9), .val r39, .val r40, .val (.ref x48), .unset, .unset, .unset] [(.int b5), (.ref x48), (.int b6), .null, .null, (.int b8), (.int b7), (.ref a50), (.ref b49), (.ref b49)]) _
              refine Go.step (fun _ => XS.aload X50.here hx rfl (hb hby at_139) rfl hr39 ) ?_
              show Go p e below T50 (mkF m 141 #[.val (.int p0), .val (.int p1), .val (.int p2), .val (.int p3), .val (.int p4), .val (.int b5), .val (.int b6), .val (.int b7), .val (.int b8), .val (.int b9), .val r39, .val r40, .val (.ref x48), .unset, .unset, .unset] [r39, (.int b5), (.ref x48), (.int b6), .null, .null, (.int b8), (.int b7), (.ref a50), (.ref b49), (.ref b49)]) _
              refine Go.step (fun _ => XS.aconstNull X50.here hx rfl (hb hby at_141)) ?_
              show Go p e below T50 (mkF m 142 #[.val (.int p0), .val (.int p1), .val (.int p2), .val (.int p3), .val (.int p4), .val (.int b5), .val (.int b6), .val (.int b7), .val (.int b8), .val (.int b9), .val r39, .val r40, .val (.ref x48), .unset, .unset, .unset] [.null, r39, (.int b5), (.ref x48), (.int b6), .null, .null, (.int b8), (.int b7), (.ref a50), (.ref b49), (.ref b49)]) _
              refine Go.step (fun _ => XS.aconstNull X50.here hx rfl (hb hby at_142)) ?_
              show Go p e below T50 (mkF m 143 #[.val (.int p0), .val (.int p1), .val (.int p2), .val (.int p3), .val (.int p4), .val (.int b5), .val (.int b6), .val (.int b7), .val (.int b8), .val (.int b9), .val r39, .val r40, .val (.ref x48), .unset, .unset, .unset] [.null, .null, r39, (.int b5), (.ref x48), (.int b6), .null, .null, (.int b8), (.int b7), (.ref a50), (.ref b49), (.ref b49)]) _
              refine Go.step (fun _ => XS.aconstNull X50.here hx rfl (hb hby at_143)) ?_
              show Go p e below T50 (mkF m 144 #[.val (.int p0), .val (.int p1), .val (.int p2), .val (.int p3), .val (.int p4), .val (.int b5), .val (.int b6), .val (.int b7), .val (.int b8), .val (.int b9), .val r39, .val r40, .val (.ref x48), .unset, .unset, .unset] [.null, .null, .null, r39, (.int b5), (.ref x48), (.int b6), .null, .null, (.int b8), (.int b7), (.ref a50), (.ref b49), (.ref b49)]) _
              refine Go.step (fun _ => XS.iload X50.here hx rfl (hb hby at_144) rfl ) ?_
              show Go p e below T50 (mkF m 146 #[.val (.int p0), .val (.int p1), .val (.int p2), .val (.int p3), .val (.int p4), .val (.int b5), .val (.int b6), .val (.int b7), .val (.int b8), .val (.int b9), .val r39, .val r40, .val (.ref x48), .unset, .unset, .unset] [(.int b9), .null, .null, .null, r39, (.int b5), (.ref x48), (.int b6), .null, .null, (.int b8), (.int b7), (.ref a50), (.ref b49), (.ref b49)]) _
              obtain ⟨_, _, ⟨T51, L51, k51, n51⟩, -, X51, ⟨Lc51, hQ51, l51, y51, z51⟩, st51⟩ := X50.specialBack hx (y := (⟨"org/linkweave/core/TermDefinition", "<init>", "(Ljava/lang/String;ZZLjava/lang/String;Ljava/util/Set;ZLjava/lang/String;ZLjava/lang/String;Ljava/lang/String;Lorg/linkweave/core/TermDefinition$ScopedContext;Ljava/lang/String;Z)V"⟩ : MethodName)) rfl hown (mvT hZ (hw _ (List.mem_of_getElem? (i := 15) rfl))) (mvT hZ (hw _ (List.mem_of_getElem? (i := 16) rfl))) (mvT hZ (hw _ (List.mem_of_getElem? (i := 17) rfl))) (by decide) (backOf (W := 1) (rmCt l Z a0 hw [] b49 a50 b7 b8 b6 (.ref x48) b5 r39 b9 h50 n0 Z50 A49_q50 F_iri_b49_q50 F_prefix_b49_q50 F_reverse_b49_q50 F_typeMapping_b49_q50 F_container_b49_q50 F_hasLanguage_b49_q50 F_language_b49_q50 F_hasDirection_b49_q50 F_direction_b49_q50 F_index_b49_q50 F_scopedContext_b49_q50 F_nest_b49_q50 F_protectedTerm_b49_q50 g_b49 rfl hr39) hZ (hw _ (List.mem_of_getElem? (i := 17) rfl)) (hw _ (List.mem_of_getElem? (i := 6) rfl)) (by decide) (by decide)) (g := (mkF m 146 #[.val (.int p0), .val (.int p1), .val (.int p2), .val (.int p3), .val (.int p4), .val (.int b5), .val (.int b6), .val (.int b7), .val (.int b8), .val (.int b9), .val r39, .val r40, .val (.ref x48), .unset, .unset, .unset] [(.int b9), .null, .null, .null, r39, (.int b5), (.ref x48), (.int b6), .null, .null, (.int b8), (.int b7), (.ref a50), (.ref b49), (.ref b49)])) rfl (by rw [hml]; rfl) (Steps.refl _) (a := b49) (argsL := [(.ref a50), (.int b7), (.int b8), .null, .null, (.int b6), (.ref x48), (.int b5), r39, .null, .null, .null, (.int b9)]) (rest := [(.ref b49)]) (lenOf pd_6 rfl) rfl (by show 2 * 0 + _ ≤ _; exact Nat.le_of_eq rfl) (hb hby at_146) (fun _ _ => ⟨rfl, e50, (by decide : 0 + 3 + 3 + 2 + 1 + 2 + 0 ≤ _), (by decide : 0 + 16 + 16 + 5 + 13 + (4 + 4) + 0 ≤ _)⟩)
              dsimp only [Pt.U, Pt.locs, Pt.cells, Pt.slots] at X51 l51 y51 z51 st51 hQ51
              subst l51 y51 z51
              obtain ⟨rfl, Nq51, K51, Ex51, FB51, FL51⟩ := hQ51
              have N51 := Fr.app N48 Nq51
              refine Go.call st51 ?_
              have O2_q51 := own_staKeep O2_q50 K51 (allS (own_plainE A49_q50) all0)
              have A49_q51 := A49_q50.keep K51
              have Z51 : n0 ≤ T51.heap.size := Nat.le_trans Z50 K51.1
              have hk51 := Nat.le_trans hk50 K51.1
              show Go p e below T51 (mkF m 149 #[.val (.int p0), .val (.int p1), .val (.int p2), .val (.int p3), .val (.int p4), .val (.int b5), .val (.int b6), .val (.int b7), .val (.int b8), .val (.int b9), .val r39, .val r40, .val (.ref x48), .unset, .unset, .unset] [(.ref b49)]) _
              refine Go.step (fun _ => XS.astore X51.here hx rfl (hb hby at_149) rfl rfl (l' := #[.val (.int p0), .val (.int p1), .val (.int p2), .val (.int p3), .val (.int p4), .val (.int b5), .val (.int b6), .val (.int b7), .val (.int b8), .val (.int b9), .val r39, .val r40, .val (.ref x48), .val (.ref b49), .unset, .unset]) rfl) ?_
              show Go p e below T51 (mkF m 151 #[.val (.int p0), .val (.int p1), .val (.int p2), .val (.int p3), .val (.int p4), .val (.int b5), .val (.int b6), .val (.int b7), .val (.int b8), .val (.int b9), .val r39, .val r40, .val (.ref x48), .val (.ref b49), .unset, .unset] []) _
              refine Go.step (fun _ => XS.aload X51.here hx rfl (hb hby at_151) rfl rfl ) ?_
              show Go p e below T51 (mkF m 153 #[.val (.int p0), .val (.int p1), .val (.int p2), .val (.int p3), .val (.int p4), .val (.int b5), .val (.int b6), .val (.int b7), .val (.int b8), .val (.int b9), .val r39, .val r40, .val (.ref x48), .val (.ref b49), .unset, .unset] [(.ref b49)]) _
              refine Go.step (fun _ => XS.aload X51.here hx rfl (hb hby at_153) rfl hr40 ) ?_
              show Go p e below T51 (mkF m 155 #[.val (.int p0), .val (.int p1), .val (.int p2), .val (.int p3), .val (.int p4), .val (.int b5), .val (.int b6), .val (.int b7), .val (.int b8), .val (.int b9), .val r39, .val r40, .val (.ref x48), .val (.ref b49), .unset, .unset] [r40, (.ref b49)]) _
              rcases hb5 with rfl | rfl
              · skip
                obtain ⟨cq52, kq52, q52a, q52b, q52c⟩ := isOf hZ rfl A49_q51
                obtain ⟨_, _, ⟨T52, L52, k52, n52⟩, -, X52, ⟨Lc52, hQ52, l52, y52, z52⟩, st52⟩ := X51.virtualBack hx (y := (⟨"org/linkweave/core/TermDefinition", "direction", "(Ljava/lang/String;)Ljava/lang/String;"⟩ : MethodName)) (z := (⟨"org/linkweave/core/TermDefinition", "direction", "(Ljava/lang/String;)Ljava/lang/String;"⟩ : MethodName)) hown (mvT hZ (hw _ (List.mem_of_getElem? (i := 52) rfl))) (mvT hZ (hw _ (List.mem_of_getElem? (i := 53) rfl))) (notFace_of_selects (args := #[]) (mvT hZ (hw _ (List.mem_of_getElem? (i := 55) rfl)))) (mvT hZ (hw _ (List.mem_of_getElem? (i := 55) rfl))) (mvT hZ (hw _ (List.mem_of_getElem? (i := 54) rfl))) (by decide) (backOf (W := 0) (rmDi l Z a0 hw [] b49 r40 (nar .boolean (0 : Int32)) r39 r40 T51.heap n0 Z51 FB51 FL51 hr40 hr39 (by first | rfl | decide)) hZ (hw _ (List.mem_of_getElem? (i := 56) rfl)) (hw _ (List.mem_of_getElem? (i := 6) rfl)) (by decide) (by decide)) q52a q52c (g := (mkF m 155 #[.val (.int p0), .val (.int p1), .val (.int p2), .val (.int p3), .val (.int p4), .val (.int (0 : Int32)), .val (.int b6), .val (.int b7), .val (.int b8), .val (.int b9), .val r39, .val r40, .val (.ref x48), .val (.ref b49), .unset, .unset] [r40, (.ref b49)])) rfl (by rw [hml]; rfl) (Steps.refl _) (argsL := [r40]) (rest := []) (lenOf pd_7 rfl) rfl (by show 2 * 0 + _ ≤ _; exact Nat.le_of_eq rfl) (hb hby at_155) (fun _ _ => ⟨rfl, rfl, (by decide : 0 + 3 + 3 + 2 + 1 + 2 + 0 + 0 ≤ _), (by decide : 0 + 16 + 16 + 5 + 13 + (4 + 4) + 0 + 0 ≤ _)⟩)
                dsimp only [Pt.U, Pt.locs, Pt.cells, Pt.slots] at X52 l52 y52 z52 st52 hQ52
                subst l52 y52 z52
                obtain ⟨rfl, Nq52, eh52⟩ := hQ52
                have N52 := Fr.app N51 Nq52
                refine Go.call st52 ?_
                show Go p e below T52 (mkF m 158 #[.val (.int p0), .val (.int p1), .val (.int p2), .val (.int p3), .val (.int p4), .val (.int (0 : Int32)), .val (.int b6), .val (.int b7), .val (.int b8), .val (.int b9), .val r39, .val r40, .val (.ref x48), .val (.ref b49), .unset, .unset] [r40]) _
                refine Go.step (fun _ => XS.astore X52.here hx rfl (hb hby at_158) rfl hr40 (l' := #[.val (.int p0), .val (.int p1), .val (.int p2), .val (.int p3), .val (.int p4), .val (.int (0 : Int32)), .val (.int b6), .val (.int b7), .val (.int b8), .val (.int b9), .val r39, .val r40, .val (.ref x48), .val (.ref b49), .val r40, .unset]) (XS.store1 rfl (Or.inl rfl) (own_cat hr40))) ?_
                show Go p e below T52 (mkF m 160 #[.val (.int p0), .val (.int p1), .val (.int p2), .val (.int p3), .val (.int p4), .val (.int (0 : Int32)), .val (.int b6), .val (.int b7), .val (.int b8), .val (.int b9), .val r39, .val r40, .val (.ref x48), .val (.ref b49), .val r40, .unset] []) _
                refine Go.step (fun _ => XS.iload X52.here hx rfl (hb hby at_160) rfl ) ?_
                show Go p e below T52 (mkF m 162 #[.val (.int p0), .val (.int p1), .val (.int p2), .val (.int p3), .val (.int p4), .val (.int (0 : Int32)), .val (.int b6), .val (.int b7), .val (.int b8), .val (.int b9), .val r39, .val r40, .val (.ref x48), .val (.ref b49), .val r40, .unset] [(.int (0 : Int32))]) _
                refine Go.step (fun _ => XS.ifYes X52.here hx rfl (pc0 := 162) (pc' := 170) rfl (hb hby at_162) rfl ((if0 _ _).trans (teq (by decide)).1) (by decide) (by decide)) ?_
                show Go p e below T52 (mkF m 170 #[.val (.int p0), .val (.int p1), .val (.int p2), .val (.int p3), .val (.int p4), .val (.int (0 : Int32)), .val (.int b6), .val (.int b7), .val (.int b8), .val (.int b9), .val r39, .val r40, .val (.ref x48), .val (.ref b49), .val r40, .unset] []) _
                refine Go.step (fun _ => XS.aload X52.here hx rfl (hb hby at_170) rfl hr40 ) ?_
                show Go p e below T52 (mkF m 172 #[.val (.int p0), .val (.int p1), .val (.int p2), .val (.int p3), .val (.int p4), .val (.int (0 : Int32)), .val (.int b6), .val (.int b7), .val (.int b8), .val (.int b9), .val r39, .val r40, .val (.ref x48), .val (.ref b49), .val r40, .unset] [r40]) _
                refine Go.step (fun _ => XS.astore X52.here hx rfl (hb hby at_172) rfl hr40 (l' := #[.val (.int p0), .val (.int p1), .val (.int p2), .val (.int p3), .val (.int p4), .val (.int (0 : Int32)), .val (.int b6), .val (.int b7), .val (.int b8), .val (.int b9), .val r39, .val r40, .val (.ref x48), .val (.ref b49), .val r40, .val r40]) (XS.store1 rfl (Or.inl rfl) (own_cat hr40))) ?_
                show Go p e below T52 (mkF m 174 #[.val (.int p0), .val (.int p1), .val (.int p2), .val (.int p3), .val (.int p4), .val (.int (0 : Int32)), .val (.int b6), .val (.int b7), .val (.int b8), .val (.int b9), .val r39, .val r40, .val (.ref x48), .val (.ref b49), .val r40, .val r40] []) _
                refine Go.step (fun _ => XS.aload X52.here hx rfl (hb hby at_174) rfl hr40 ) ?_
                show Go p e below T52 (mkF m 176 #[.val (.int p0), .val (.int p1), .val (.int p2), .val (.int p3), .val (.int p4), .val (.int (0 : Int32)), .val (.int b6), .val (.int b7), .val (.int b8), .val (.int b9), .val r39, .val r40, .val (.ref x48), .val (.ref b49), .val r40, .val r40] [r40]) _
                refine Go.step (fun _ => XS.aload X52.here hx rfl (hb hby at_176) rfl hr40 ) ?_
                show Go p e below T52 (mkF m 178 #[.val (.int p0), .val (.int p1), .val (.int p2), .val (.int p3), .val (.int p4), .val (.int (0 : Int32)), .val (.int b6), .val (.int b7), .val (.int b8), .val (.int b9), .val r39, .val r40, .val (.ref x48), .val (.ref b49), .val r40, .val r40] [r40, r40]) _
                refine Go.step (fun _ => Jvm.RoadKit.acmp (g := (mkF m 178 #[.val (.int p0), .val (.int p1), .val (.int p2), .val (.int p3), .val (.int p4), .val (.int (0 : Int32)), .val (.int b6), .val (.int b7), .val (.int b8), .val (.int b9), .val r39, .val r40, .val (.ref x48), .val (.ref b49), .val r40, .val r40] [r40, r40])) X52 hx rfl hr40 hr40 (pc0 := 178) (pc' := 181) (same := true) rfl (hb hby at_178) rfl (decide_eq_true rfl) (by decide) (by decide)) ?_
                show Go p e below T52 (mkF m 181 #[.val (.int p0), .val (.int p1), .val (.int p2), .val (.int p3), .val (.int p4), .val (.int (0 : Int32)), .val (.int b6), .val (.int b7), .val (.int b8), .val (.int b9), .val r39, .val r40, .val (.ref x48), .val (.ref b49), .val r40, .val r40] []) _
                refine Go.step (fun _ => XS.aload X52.here hx rfl (hb hby at_181) rfl rfl ) ?_
                show Go p e below T52 (mkF m 183 #[.val (.int p0), .val (.int p1), .val (.int p2), .val (.int p3), .val (.int p4), .val (.int (0 : Int32)), .val (.int b6), .val (.int b7), .val (.int b8), .val (.int b9), .val r39, .val r40, .val (.ref x48), .val (.ref b49), .val r40, .val r40] [(.ref b49)]) _
                obtain ⟨cq53, kq53, q53a, q53b, q53c⟩ := isOf hZ eh52 A49_q51
                obtain ⟨_, _, ⟨T53, L53, k53, n53⟩, -, X53, ⟨Lc53, hQ53, l53, y53, z53⟩, st53⟩ := X52.virtualBack hx (y := (⟨"org/linkweave/core/TermDefinition", "direction", "()Ljava/lang/String;"⟩ : MethodName)) (z := (⟨"org/linkweave/core/TermDefinition", "direction", "()Ljava/lang/String;"⟩ : MethodName)) hown (mvT hZ (hw _ (List.mem_of_getElem? (i := 57) rfl))) (mvT hZ (hw _ (List.mem_of_getElem? (i := 58) rfl))) (notFace_of_selects (args := #[]) (mvT hZ (hw _ (List.mem_of_getElem? (i := 60) rfl)))) (mvT hZ (hw _ (List.mem_of_getElem? (i := 60) rfl))) (mvT hZ (hw _ (List.mem_of_getElem? (i := 59) rfl))) (by decide) (backOf (W := 0) (rmD0 l Z a0 hw [] b49 r39 T51.heap n0 Z51 FL51 hr39) hZ (hw _ (List.mem_of_getElem? (i := 61) rfl)) (hw _ (List.mem_of_getElem? (i := 6) rfl)) (by decide) (by decide)) q53a q53c (g := (mkF m 183 #[.val (.int p0), .val (.int p1), .val (.int p2), .val (.int p3), .val (.int p4), .val (.int (0 : Int32)), .val (.int b6), .val (.int b7), .val (.int b8), .val (.int b9), .val r39, .val r40, .val (.ref x48), .val (.ref b49), .val r40, .val r40] [(.ref b49)])) rfl (by rw [hml]; rfl) (Steps.refl _) (argsL := []) (rest := []) (lenOf pd_8 rfl) rfl (by show 2 * 0 + _ ≤ _; exact Nat.le_of_eq rfl) (hb hby at_183) (fun _ _ => ⟨rfl, eh52, (by decide : 0 + 3 + 3 + 2 + 1 + 2 + 0 + 0 + 0 ≤ _), (by decide : 0 + 16 + 16 + 5 + 13 + (4 + 4) + 0 + 0 + 0 ≤ _)⟩)
                dsimp only [Pt.U, Pt.locs, Pt.cells, Pt.slots] at X53 l53 y53 z53 st53 hQ53
                subst l53 y53 z53
                obtain ⟨rfl, Nq53, ei53⟩ := hQ53
                have N53 := Fr.app N52 Nq53
                refine Go.call st53 ?_
                show Go p e below T53 (mkF m 186 #[.val (.int p0), .val (.int p1), .val (.int p2), .val (.int p3), .val (.int p4), .val (.int (0 : Int32)), .val (.int b6), .val (.int b7), .val (.int b8), .val (.int b9), .val r39, .val r40, .val (.ref x48), .val (.ref b49), .val r40, .val r40] [r39]) _
                refine Go.step (fun _ => XS.aload X53.here hx rfl (hb hby at_186) rfl hr39 ) ?_
                show Go p e below T53 (mkF m 188 #[.val (.int p0), .val (.int p1), .val (.int p2), .val (.int p3), .val (.int p4), .val (.int (0 : Int32)), .val (.int b6), .val (.int b7), .val (.int b8), .val (.int b9), .val r39, .val r40, .val (.ref x48), .val (.ref b49), .val r40, .val r40] [r39, r39]) _
                refine Go.step (fun _ => Jvm.RoadKit.acmp (g := (mkF m 188 #[.val (.int p0), .val (.int p1), .val (.int p2), .val (.int p3), .val (.int p4), .val (.int (0 : Int32)), .val (.int b6), .val (.int b7), .val (.int b8), .val (.int b9), .val r39, .val r40, .val (.ref x48), .val (.ref b49), .val r40, .val r40] [r39, r39])) X53 hx rfl hr39 hr39 (pc0 := 188) (pc' := 191) (same := true) rfl (hb hby at_188) rfl (decide_eq_true rfl) (by decide) (by decide)) ?_
                show Go p e below T53 (mkF m 191 #[.val (.int p0), .val (.int p1), .val (.int p2), .val (.int p3), .val (.int p4), .val (.int (0 : Int32)), .val (.int b6), .val (.int b7), .val (.int b8), .val (.int b9), .val r39, .val r40, .val (.ref x48), .val (.ref b49), .val r40, .val r40] []) _
                refine Go.step (fun _ => XS.iconst X53.here hx rfl (hb hby at_191)) ?_
                show Go p e below T53 (mkF m 192 #[.val (.int p0), .val (.int p1), .val (.int p2), .val (.int p3), .val (.int p4), .val (.int (0 : Int32)), .val (.int b6), .val (.int b7), .val (.int b8), .val (.int b9), .val r39, .val r40, .val (.ref x48), .val (.ref b49), .val r40, .val r40] [(.int (1 : Int32))]) _
                refine Go.step (fun _ => XS.goto X53.here hx rfl (pc0 := 192) (pc' := 196) rfl (hb hby at_192) (by decide) (by decide)) ?_
                show Go p e below T53 (mkF m 196 #[.val (.int p0), .val (.int p1), .val (.int p2), .val (.int p3), .val (.int p4), .val (.int (0 : Int32)), .val (.int b6), .val (.int b7), .val (.int b8), .val (.int b9), .val r39, .val r40, .val (.ref x48), .val (.ref b49), .val r40, .val r40] [(.int (1 : Int32))]) _
                refine Go.retNW (t := .boolean) (z' := (1 : Int32)) X53 hS50 (by rw [ei53]; exact hk51) hx hret (by simp) hlk (hb hby at_196) (by decide) ?_ (by decide) (by decide)
                exact ⟨rfl, N53⟩
              · skip
                obtain ⟨cq54, kq54, q54a, q54b, q54c⟩ := isOf hZ rfl A49_q51
                obtain ⟨_, _, ⟨T54, L54, k54, n54⟩, -, X54, ⟨Lc54, hQ54, l54, y54, z54⟩, st54⟩ := X51.virtualBack hx (y := (⟨"org/linkweave/core/TermDefinition", "direction", "(Ljava/lang/String;)Ljava/lang/String;"⟩ : MethodName)) (z := (⟨"org/linkweave/core/TermDefinition", "direction", "(Ljava/lang/String;)Ljava/lang/String;"⟩ : MethodName)) hown (mvT hZ (hw _ (List.mem_of_getElem? (i := 52) rfl))) (mvT hZ (hw _ (List.mem_of_getElem? (i := 53) rfl))) (notFace_of_selects (args := #[]) (mvT hZ (hw _ (List.mem_of_getElem? (i := 55) rfl)))) (mvT hZ (hw _ (List.mem_of_getElem? (i := 55) rfl))) (mvT hZ (hw _ (List.mem_of_getElem? (i := 54) rfl))) (by decide) (backOf (W := 0) (rmDi l Z a0 hw [] b49 r40 (nar .boolean (1 : Int32)) r39 r39 T51.heap n0 Z51 FB51 FL51 hr40 hr39 (by first | rfl | decide)) hZ (hw _ (List.mem_of_getElem? (i := 56) rfl)) (hw _ (List.mem_of_getElem? (i := 6) rfl)) (by decide) (by decide)) q54a q54c (g := (mkF m 155 #[.val (.int p0), .val (.int p1), .val (.int p2), .val (.int p3), .val (.int p4), .val (.int (1 : Int32)), .val (.int b6), .val (.int b7), .val (.int b8), .val (.int b9), .val r39, .val r40, .val (.ref x48), .val (.ref b49), .unset, .unset] [r40, (.ref b49)])) rfl (by rw [hml]; rfl) (Steps.refl _) (argsL := [r40]) (rest := []) (lenOf pd_7 rfl) rfl (by show 2 * 0 + _ ≤ _; exact Nat.le_of_eq rfl) (hb hby at_155) (fun _ _ => ⟨rfl, rfl, (by decide : 0 + 3 + 3 + 2 + 1 + 2 + 0 + 0 ≤ _), (by decide : 0 + 16 + 16 + 5 + 13 + (4 + 4) + 0 + 0 ≤ _)⟩)
                dsimp only [Pt.U, Pt.locs, Pt.cells, Pt.slots] at X54 l54 y54 z54 st54 hQ54
                subst l54 y54 z54
                obtain ⟨rfl, Nq54, eh54⟩ := hQ54
                have N54 := Fr.app N51 Nq54
                refine Go.call st54 ?_
                show Go p e below T54 (mkF m 158 #[.val (.int p0), .val (.int p1), .val (.int p2), .val (.int p3), .val (.int p4), .val (.int (1 : Int32)), .val (.int b6), .val (.int b7), .val (.int b8), .val (.int b9), .val r39, .val r40, .val (.ref x48), .val (.ref b49), .unset, .unset] [r39]) _
                refine Go.step (fun _ => XS.astore X54.here hx rfl (hb hby at_158) rfl hr39 (l' := #[.val (.int p0), .val (.int p1), .val (.int p2), .val (.int p3), .val (.int p4), .val (.int (1 : Int32)), .val (.int b6), .val (.int b7), .val (.int b8), .val (.int b9), .val r39, .val r40, .val (.ref x48), .val (.ref b49), .val r39, .unset]) (XS.store1 rfl (Or.inl rfl) (own_cat hr39))) ?_
                show Go p e below T54 (mkF m 160 #[.val (.int p0), .val (.int p1), .val (.int p2), .val (.int p3), .val (.int p4), .val (.int (1 : Int32)), .val (.int b6), .val (.int b7), .val (.int b8), .val (.int b9), .val r39, .val r40, .val (.ref x48), .val (.ref b49), .val r39, .unset] []) _
                refine Go.step (fun _ => XS.iload X54.here hx rfl (hb hby at_160) rfl ) ?_
                show Go p e below T54 (mkF m 162 #[.val (.int p0), .val (.int p1), .val (.int p2), .val (.int p3), .val (.int p4), .val (.int (1 : Int32)), .val (.int b6), .val (.int b7), .val (.int b8), .val (.int b9), .val r39, .val r40, .val (.ref x48), .val (.ref b49), .val r39, .unset] [(.int (1 : Int32))]) _
                refine Go.step (fun _ => XS.ifNo X54.here hx rfl (hb hby at_162) rfl ((if0 _ _).trans (feq (by decide)).1)) ?_
                show Go p e below T54 (mkF m 165 #[.val (.int p0), .val (.int p1), .val (.int p2), .val (.int p3), .val (.int p4), .val (.int (1 : Int32)), .val (.int b6), .val (.int b7), .val (.int b8), .val (.int b9), .val r39, .val r40, .val (.ref x48), .val (.ref b49), .val r39, .unset] []) _
                refine Go.step (fun _ => XS.aload X54.here hx rfl (hb hby at_165) rfl hr39 ) ?_
                show Go p e below T54 (mkF m 167 #[.val (.int p0), .val (.int p1), .val (.int p2), .val (.int p3), .val (.int p4), .val (.int (1 : Int32)), .val (.int b6), .val (.int b7), .val (.int b8), .val (.int b9), .val r39, .val r40, .val (.ref x48), .val (.ref b49), .val r39, .unset] [r39]) _
                refine Go.step (fun _ => XS.goto X54.here hx rfl (pc0 := 167) (pc' := 172) rfl (hb hby at_167) (by decide) (by decide)) ?_
                show Go p e below T54 (mkF m 172 #[.val (.int p0), .val (.int p1), .val (.int p2), .val (.int p3), .val (.int p4), .val (.int (1 : Int32)), .val (.int b6), .val (.int b7), .val (.int b8), .val (.int b9), .val r39, .val r40, .val (.ref x48), .val (.ref b49), .val r39, .unset] [r39]) _
                refine Go.step (fun _ => XS.astore X54.here hx rfl (hb hby at_172) rfl hr39 (l' := #[.val (.int p0), .val (.int p1), .val (.int p2), .val (.int p3), .val (.int p4), .val (.int (1 : Int32)), .val (.int b6), .val (.int b7), .val (.int b8), .val (.int b9), .val r39, .val r40, .val (.ref x48), .val (.ref b49), .val r39, .val r39]) (XS.store1 rfl (Or.inl rfl) (own_cat hr39))) ?_
                show Go p e below T54 (mkF m 174 #[.val (.int p0), .val (.int p1), .val (.int p2), .val (.int p3), .val (.int p4), .val (.int (1 : Int32)), .val (.int b6), .val (.int b7), .val (.int b8), .val (.int b9), .val r39, .val r40, .val (.ref x48), .val (.ref b49), .val r39, .val r39] []) _
                refine Go.step (fun _ => XS.aload X54.here hx rfl (hb hby at_174) rfl hr39 ) ?_
                show Go p e below T54 (mkF m 176 #[.val (.int p0), .val (.int p1), .val (.int p2), .val (.int p3), .val (.int p4), .val (.int (1 : Int32)), .val (.int b6), .val (.int b7), .val (.int b8), .val (.int b9), .val r39, .val r40, .val (.ref x48), .val (.ref b49), .val r39, .val r39] [r39]) _
                refine Go.step (fun _ => XS.aload X54.here hx rfl (hb hby at_176) rfl hr39 ) ?_
                show Go p e below T54 (mkF m 178 #[.val (.int p0), .val (.int p1), .val (.int p2), .val (.int p3), .val (.int p4), .val (.int (1 : Int32)), .val (.int b6), .val (.int b7), .val (.int b8), .val (.int b9), .val r39, .val r40, .val (.ref x48), .val (.ref b49), .val r39, .val r39] [r39, r39]) _
                refine Go.step (fun _ => Jvm.RoadKit.acmp (g := (mkF m 178 #[.val (.int p0), .val (.int p1), .val (.int p2), .val (.int p3), .val (.int p4), .val (.int (1 : Int32)), .val (.int b6), .val (.int b7), .val (.int b8), .val (.int b9), .val r39, .val r40, .val (.ref x48), .val (.ref b49), .val r39, .val r39] [r39, r39])) X54 hx rfl hr39 hr39 (pc0 := 178) (pc' := 181) (same := true) rfl (hb hby at_178) rfl (decide_eq_true rfl) (by decide) (by decide)) ?_
                show Go p e below T54 (mkF m 181 #[.val (.int p0), .val (.int p1), .val (.int p2), .val (.int p3), .val (.int p4), .val (.int (1 : Int32)), .val (.int b6), .val (.int b7), .val (.int b8), .val (.int b9), .val r39, .val r40, .val (.ref x48), .val (.ref b49), .val r39, .val r39] []) _
                refine Go.step (fun _ => XS.aload X54.here hx rfl (hb hby at_181) rfl rfl ) ?_
                show Go p e below T54 (mkF m 183 #[.val (.int p0), .val (.int p1), .val (.int p2), .val (.int p3), .val (.int p4), .val (.int (1 : Int32)), .val (.int b6), .val (.int b7), .val (.int b8), .val (.int b9), .val r39, .val r40, .val (.ref x48), .val (.ref b49), .val r39, .val r39] [(.ref b49)]) _
                obtain ⟨cq55, kq55, q55a, q55b, q55c⟩ := isOf hZ eh54 A49_q51
                obtain ⟨_, _, ⟨T55, L55, k55, n55⟩, -, X55, ⟨Lc55, hQ55, l55, y55, z55⟩, st55⟩ := X54.virtualBack hx (y := (⟨"org/linkweave/core/TermDefinition", "direction", "()Ljava/lang/String;"⟩ : MethodName)) (z := (⟨"org/linkweave/core/TermDefinition", "direction", "()Ljava/lang/String;"⟩ : MethodName)) hown (mvT hZ (hw _ (List.mem_of_getElem? (i := 57) rfl))) (mvT hZ (hw _ (List.mem_of_getElem? (i := 58) rfl))) (notFace_of_selects (args := #[]) (mvT hZ (hw _ (List.mem_of_getElem? (i := 60) rfl)))) (mvT hZ (hw _ (List.mem_of_getElem? (i := 60) rfl))) (mvT hZ (hw _ (List.mem_of_getElem? (i := 59) rfl))) (by decide) (backOf (W := 0) (rmD0 l Z a0 hw [] b49 r39 T51.heap n0 Z51 FL51 hr39) hZ (hw _ (List.mem_of_getElem? (i := 61) rfl)) (hw _ (List.mem_of_getElem? (i := 6) rfl)) (by decide) (by decide)) q55a q55c (g := (mkF m 183 #[.val (.int p0), .val (.int p1), .val (.int p2), .val (.int p3), .val (.int p4), .val (.int (1 : Int32)), .val (.int b6), .val (.int b7), .val (.int b8), .val (.int b9), .val r39, .val r40, .val (.ref x48), .val (.ref b49), .val r39, .val r39] [(.ref b49)])) rfl (by rw [hml]; rfl) (Steps.refl _) (argsL := []) (rest := []) (lenOf pd_8 rfl) rfl (by show 2 * 0 + _ ≤ _; exact Nat.le_of_eq rfl) (hb hby at_183) (fun _ _ => ⟨rfl, eh54, (by decide : 0 + 3 + 3 + 2 + 1 + 2 + 0 + 0 + 0 ≤ _), (by decide : 0 + 16 + 16 + 5 + 13 + (4 + 4) + 0 + 0 + 0 ≤ _)⟩)
                dsimp only [Pt.U, Pt.locs, Pt.cells, Pt.slots] at X55 l55 y55 z55 st55 hQ55
                subst l55 y55 z55
                obtain ⟨rfl, Nq55, ei55⟩ := hQ55
                have N55 := Fr.app N54 Nq55
                refine Go.call st55 ?_
                show Go p e below T55 (mkF m 186 #[.val (.int p0), .val (.int p1), .val (.int p2), .val (.int p3), .val (.int p4), .val (.int (1 : Int32)), .val (.int b6), .val (.int b7), .val (.int b8), .val (.int b9), .val r39, .val r40, .val (.ref x48), .val (.ref b49), .val r39, .val r39] [r39]) _
                refine Go.step (fun _ => XS.aload X55.here hx rfl (hb hby at_186) rfl hr39 ) ?_
                show Go p e below T55 (mkF m 188 #[.val (.int p0), .val (.int p1), .val (.int p2), .val (.int p3), .val (.int p4), .val (.int (1 : Int32)), .val (.int b6), .val (.int b7), .val (.int b8), .val (.int b9), .val r39, .val r40, .val (.ref x48), .val (.ref b49), .val r39, .val r39] [r39, r39]) _
                refine Go.step (fun _ => Jvm.RoadKit.acmp (g := (mkF m 188 #[.val (.int p0), .val (.int p1), .val (.int p2), .val (.int p3), .val (.int p4), .val (.int (1 : Int32)), .val (.int b6), .val (.int b7), .val (.int b8), .val (.int b9), .val r39, .val r40, .val (.ref x48), .val (.ref b49), .val r39, .val r39] [r39, r39])) X55 hx rfl hr39 hr39 (pc0 := 188) (pc' := 191) (same := true) rfl (hb hby at_188) rfl (decide_eq_true rfl) (by decide) (by decide)) ?_
                show Go p e below T55 (mkF m 191 #[.val (.int p0), .val (.int p1), .val (.int p2), .val (.int p3), .val (.int p4), .val (.int (1 : Int32)), .val (.int b6), .val (.int b7), .val (.int b8), .val (.int b9), .val r39, .val r40, .val (.ref x48), .val (.ref b49), .val r39, .val r39] []) _
                refine Go.step (fun _ => XS.iconst X55.here hx rfl (hb hby at_191)) ?_
                show Go p e below T55 (mkF m 192 #[.val (.int p0), .val (.int p1), .val (.int p2), .val (.int p3), .val (.int p4), .val (.int (1 : Int32)), .val (.int b6), .val (.int b7), .val (.int b8), .val (.int b9), .val r39, .val r40, .val (.ref x48), .val (.ref b49), .val r39, .val r39] [(.int (1 : Int32))]) _
                refine Go.step (fun _ => XS.goto X55.here hx rfl (pc0 := 192) (pc' := 196) rfl (hb hby at_192) (by decide) (by decide)) ?_
                show Go p e below T55 (mkF m 196 #[.val (.int p0), .val (.int p1), .val (.int p2), .val (.int p3), .val (.int p4), .val (.int (1 : Int32)), .val (.int b6), .val (.int b7), .val (.int b8), .val (.int b9), .val r39, .val r40, .val (.ref x48), .val (.ref b49), .val r39, .val r39] [(.int (1 : Int32))]) _
                refine Go.retNW (t := .boolean) (z' := (1 : Int32)) X55 hS50 (by rw [ei55]; exact hk51) hx hret (by simp) hlk (hb hby at_196) (by decide) ?_ (by decide) (by decide)
                exact ⟨rfl, N55⟩
          show Go p e below s₁ (mkF m 61 #[.val (.int p0), .val (.int p1), .val (.int p2), .val (.int p3), .val (.int p4), .val (.int b5), .val (.int b6), .val (.int b7), .val (.int b8), .unset, .unset, .unset, .unset, .unset, .unset, .unset] [(.int p0)]) _
          refine Go.step (fun _ => XS.bipush X0.here hx rfl (hb hby at_61)) ?_
          show Go p e below s₁ (mkF m 63 #[.val (.int p0), .val (.int p1), .val (.int p2), .val (.int p3), .val (.int p4), .val (.int b5), .val (.int b6), .val (.int b7), .val (.int b8), .unset, .unset, .unset, .unset, .unset, .unset, .unset] [(.int (8 : Int32)), (.int p0)]) _
          refine Go.step (fun _ => XS.ishr X0.here hx rfl (hb hby at_63) rfl) ?_
          show Go p e below s₁ (mkF m 64 #[.val (.int p0), .val (.int p1), .val (.int p2), .val (.int p3), .val (.int p4), .val (.int b5), .val (.int b6), .val (.int b7), .val (.int b8), .unset, .unset, .unset, .unset, .unset, .unset, .unset] [(.int (p0 >>> ((8 : Int32) &&& 31)))]) _
          refine Go.step (fun _ => XS.iconst X0.here hx rfl (hb hby at_64)) ?_
          show Go p e below s₁ (mkF m 65 #[.val (.int p0), .val (.int p1), .val (.int p2), .val (.int p3), .val (.int p4), .val (.int b5), .val (.int b6), .val (.int b7), .val (.int b8), .unset, .unset, .unset, .unset, .unset, .unset, .unset] [(.int (1 : Int32)), (.int (p0 >>> ((8 : Int32) &&& 31)))]) _
          refine Go.step (fun _ => XS.iand X0.here hx rfl (hb hby at_65) rfl) ?_
          show Go p e below s₁ (mkF m 66 #[.val (.int p0), .val (.int p1), .val (.int p2), .val (.int p3), .val (.int p4), .val (.int b5), .val (.int b6), .val (.int b7), .val (.int b8), .unset, .unset, .unset, .unset, .unset, .unset, .unset] [(.int ((p0 >>> ((8 : Int32) &&& 31)) &&& (1 : Int32)))]) _
          by_cases hc66 : ((p0 >>> ((8 : Int32) &&& 31)) &&& (1 : Int32)) = (0 : Int32)
          · skip
            refine Go.step (fun _ => XS.ifYes X0.here hx rfl (pc0 := 66) (pc' := 73) rfl (hb hby at_66) rfl ((if0 _ _).trans (teq hc66).1) (by decide) (by decide)) ?_
            show Go p e below s₁ (mkF m 73 #[.val (.int p0), .val (.int p1), .val (.int p2), .val (.int p3), .val (.int p4), .val (.int b5), .val (.int b6), .val (.int b7), .val (.int b8), .unset, .unset, .unset, .unset, .unset, .unset, .unset] []) _
            refine Go.step (fun _ => XS.iconst X0.here hx rfl (hb hby at_73)) ?_
            show Go p e below s₁ (mkF m 74 #[.val (.int p0), .val (.int p1), .val (.int p2), .val (.int p3), .val (.int p4), .val (.int b5), .val (.int b6), .val (.int b7), .val (.int b8), .unset, .unset, .unset, .unset, .unset, .unset, .unset] [(.int (0 : Int32))]) _
            exact J74 _ (Or.inl rfl)
          · skip
            refine Go.step (fun _ => XS.ifNo X0.here hx rfl (hb hby at_66) rfl ((if0 _ _).trans (feq hc66).1)) ?_
            show Go p e below s₁ (mkF m 69 #[.val (.int p0), .val (.int p1), .val (.int p2), .val (.int p3), .val (.int p4), .val (.int b5), .val (.int b6), .val (.int b7), .val (.int b8), .unset, .unset, .unset, .unset, .unset, .unset, .unset] []) _
            refine Go.step (fun _ => XS.iconst X0.here hx rfl (hb hby at_69)) ?_
            show Go p e below s₁ (mkF m 70 #[.val (.int p0), .val (.int p1), .val (.int p2), .val (.int p3), .val (.int p4), .val (.int b5), .val (.int b6), .val (.int b7), .val (.int b8), .unset, .unset, .unset, .unset, .unset, .unset, .unset] [(.int (1 : Int32))]) _
            refine Go.step (fun _ => XS.goto X0.here hx rfl (pc0 := 70) (pc' := 74) rfl (hb hby at_70) (by decide) (by decide)) ?_
            show Go p e below s₁ (mkF m 74 #[.val (.int p0), .val (.int p1), .val (.int p2), .val (.int p3), .val (.int p4), .val (.int b5), .val (.int b6), .val (.int b7), .val (.int b8), .unset, .unset, .unset, .unset, .unset, .unset, .unset] [(.int (1 : Int32))]) _
            exact J74 _ (Or.inr rfl)
        show Go p e below s₁ (mkF m 45 #[.val (.int p0), .val (.int p1), .val (.int p2), .val (.int p3), .val (.int p4), .val (.int b5), .val (.int b6), .val (.int b7), .unset, .unset, .unset, .unset, .unset, .unset, .unset, .unset] [(.int p0)]) _
        refine Go.step (fun _ => XS.bipush X0.here hx rfl (hb hby at_45)) ?_
        show Go p e below s₁ (mkF m 47 #[.val (.int p0), .val (.int p1), .val (.int p2), .val (.int p3), .val (.int p4), .val (.int b5), .val (.int b6), .val (.int b7), .unset, .unset, .unset, .unset, .unset, .unset, .unset, .unset] [(.int (7 : Int32)), (.int p0)]) _
        refine Go.step (fun _ => XS.ishr X0.here hx rfl (hb hby at_47) rfl) ?_
        show Go p e below s₁ (mkF m 48 #[.val (.int p0), .val (.int p1), .val (.int p2), .val (.int p3), .val (.int p4), .val (.int b5), .val (.int b6), .val (.int b7), .unset, .unset, .unset, .unset, .unset, .unset, .unset, .unset] [(.int (p0 >>> ((7 : Int32) &&& 31)))]) _
        refine Go.step (fun _ => XS.iconst X0.here hx rfl (hb hby at_48)) ?_
        show Go p e below s₁ (mkF m 49 #[.val (.int p0), .val (.int p1), .val (.int p2), .val (.int p3), .val (.int p4), .val (.int b5), .val (.int b6), .val (.int b7), .unset, .unset, .unset, .unset, .unset, .unset, .unset, .unset] [(.int (1 : Int32)), (.int (p0 >>> ((7 : Int32) &&& 31)))]) _
        refine Go.step (fun _ => XS.iand X0.here hx rfl (hb hby at_49) rfl) ?_
        show Go p e below s₁ (mkF m 50 #[.val (.int p0), .val (.int p1), .val (.int p2), .val (.int p3), .val (.int p4), .val (.int b5), .val (.int b6), .val (.int b7), .unset, .unset, .unset, .unset, .unset, .unset, .unset, .unset] [(.int ((p0 >>> ((7 : Int32) &&& 31)) &&& (1 : Int32)))]) _
        by_cases hc50 : ((p0 >>> ((7 : Int32) &&& 31)) &&& (1 : Int32)) = (0 : Int32)
        · skip
          refine Go.step (fun _ => XS.ifYes X0.here hx rfl (pc0 := 50) (pc' := 57) rfl (hb hby at_50) rfl ((if0 _ _).trans (teq hc50).1) (by decide) (by decide)) ?_
          show Go p e below s₁ (mkF m 57 #[.val (.int p0), .val (.int p1), .val (.int p2), .val (.int p3), .val (.int p4), .val (.int b5), .val (.int b6), .val (.int b7), .unset, .unset, .unset, .unset, .unset, .unset, .unset, .unset] []) _
          refine Go.step (fun _ => XS.iconst X0.here hx rfl (hb hby at_57)) ?_
          show Go p e below s₁ (mkF m 58 #[.val (.int p0), .val (.int p1), .val (.int p2), .val (.int p3), .val (.int p4), .val (.int b5), .val (.int b6), .val (.int b7), .unset, .unset, .unset, .unset, .unset, .unset, .unset, .unset] [(.int (0 : Int32))]) _
          exact J58 _ (Or.inl rfl)
        · skip
          refine Go.step (fun _ => XS.ifNo X0.here hx rfl (hb hby at_50) rfl ((if0 _ _).trans (feq hc50).1)) ?_
          show Go p e below s₁ (mkF m 53 #[.val (.int p0), .val (.int p1), .val (.int p2), .val (.int p3), .val (.int p4), .val (.int b5), .val (.int b6), .val (.int b7), .unset, .unset, .unset, .unset, .unset, .unset, .unset, .unset] []) _
          refine Go.step (fun _ => XS.iconst X0.here hx rfl (hb hby at_53)) ?_
          show Go p e below s₁ (mkF m 54 #[.val (.int p0), .val (.int p1), .val (.int p2), .val (.int p3), .val (.int p4), .val (.int b5), .val (.int b6), .val (.int b7), .unset, .unset, .unset, .unset, .unset, .unset, .unset, .unset] [(.int (1 : Int32))]) _
          refine Go.step (fun _ => XS.goto X0.here hx rfl (pc0 := 54) (pc' := 58) rfl (hb hby at_54) (by decide) (by decide)) ?_
          show Go p e below s₁ (mkF m 58 #[.val (.int p0), .val (.int p1), .val (.int p2), .val (.int p3), .val (.int p4), .val (.int b5), .val (.int b6), .val (.int b7), .unset, .unset, .unset, .unset, .unset, .unset, .unset, .unset] [(.int (1 : Int32))]) _
          exact J58 _ (Or.inr rfl)
      show Go p e below s₁ (mkF m 29 #[.val (.int p0), .val (.int p1), .val (.int p2), .val (.int p3), .val (.int p4), .val (.int b5), .val (.int b6), .unset, .unset, .unset, .unset, .unset, .unset, .unset, .unset, .unset] [(.int p0)]) _
      refine Go.step (fun _ => XS.bipush X0.here hx rfl (hb hby at_29)) ?_
      show Go p e below s₁ (mkF m 31 #[.val (.int p0), .val (.int p1), .val (.int p2), .val (.int p3), .val (.int p4), .val (.int b5), .val (.int b6), .unset, .unset, .unset, .unset, .unset, .unset, .unset, .unset, .unset] [(.int (6 : Int32)), (.int p0)]) _
      refine Go.step (fun _ => XS.ishr X0.here hx rfl (hb hby at_31) rfl) ?_
      show Go p e below s₁ (mkF m 32 #[.val (.int p0), .val (.int p1), .val (.int p2), .val (.int p3), .val (.int p4), .val (.int b5), .val (.int b6), .unset, .unset, .unset, .unset, .unset, .unset, .unset, .unset, .unset] [(.int (p0 >>> ((6 : Int32) &&& 31)))]) _
      refine Go.step (fun _ => XS.iconst X0.here hx rfl (hb hby at_32)) ?_
      show Go p e below s₁ (mkF m 33 #[.val (.int p0), .val (.int p1), .val (.int p2), .val (.int p3), .val (.int p4), .val (.int b5), .val (.int b6), .unset, .unset, .unset, .unset, .unset, .unset, .unset, .unset, .unset] [(.int (1 : Int32)), (.int (p0 >>> ((6 : Int32) &&& 31)))]) _
      refine Go.step (fun _ => XS.iand X0.here hx rfl (hb hby at_33) rfl) ?_
      show Go p e below s₁ (mkF m 34 #[.val (.int p0), .val (.int p1), .val (.int p2), .val (.int p3), .val (.int p4), .val (.int b5), .val (.int b6), .unset, .unset, .unset, .unset, .unset, .unset, .unset, .unset, .unset] [(.int ((p0 >>> ((6 : Int32) &&& 31)) &&& (1 : Int32)))]) _
      by_cases hc34 : ((p0 >>> ((6 : Int32) &&& 31)) &&& (1 : Int32)) = (0 : Int32)
      · skip
        refine Go.step (fun _ => XS.ifYes X0.here hx rfl (pc0 := 34) (pc' := 41) rfl (hb hby at_34) rfl ((if0 _ _).trans (teq hc34).1) (by decide) (by decide)) ?_
        show Go p e below s₁ (mkF m 41 #[.val (.int p0), .val (.int p1), .val (.int p2), .val (.int p3), .val (.int p4), .val (.int b5), .val (.int b6), .unset, .unset, .unset, .unset, .unset, .unset, .unset, .unset, .unset] []) _
        refine Go.step (fun _ => XS.iconst X0.here hx rfl (hb hby at_41)) ?_
        show Go p e below s₁ (mkF m 42 #[.val (.int p0), .val (.int p1), .val (.int p2), .val (.int p3), .val (.int p4), .val (.int b5), .val (.int b6), .unset, .unset, .unset, .unset, .unset, .unset, .unset, .unset, .unset] [(.int (0 : Int32))]) _
        exact J42 _ (Or.inl rfl)
      · skip
        refine Go.step (fun _ => XS.ifNo X0.here hx rfl (hb hby at_34) rfl ((if0 _ _).trans (feq hc34).1)) ?_
        show Go p e below s₁ (mkF m 37 #[.val (.int p0), .val (.int p1), .val (.int p2), .val (.int p3), .val (.int p4), .val (.int b5), .val (.int b6), .unset, .unset, .unset, .unset, .unset, .unset, .unset, .unset, .unset] []) _
        refine Go.step (fun _ => XS.iconst X0.here hx rfl (hb hby at_37)) ?_
        show Go p e below s₁ (mkF m 38 #[.val (.int p0), .val (.int p1), .val (.int p2), .val (.int p3), .val (.int p4), .val (.int b5), .val (.int b6), .unset, .unset, .unset, .unset, .unset, .unset, .unset, .unset, .unset] [(.int (1 : Int32))]) _
        refine Go.step (fun _ => XS.goto X0.here hx rfl (pc0 := 38) (pc' := 42) rfl (hb hby at_38) (by decide) (by decide)) ?_
        show Go p e below s₁ (mkF m 42 #[.val (.int p0), .val (.int p1), .val (.int p2), .val (.int p3), .val (.int p4), .val (.int b5), .val (.int b6), .unset, .unset, .unset, .unset, .unset, .unset, .unset, .unset, .unset] [(.int (1 : Int32))]) _
        exact J42 _ (Or.inr rfl)
    show Go p e below s₁ (mkF m 14 #[.val (.int p0), .val (.int p1), .val (.int p2), .val (.int p3), .val (.int p4), .val (.int b5), .unset, .unset, .unset, .unset, .unset, .unset, .unset, .unset, .unset, .unset] [(.int p0)]) _
    refine Go.step (fun _ => XS.iconst X0.here hx rfl (hb hby at_14)) ?_
    show Go p e below s₁ (mkF m 15 #[.val (.int p0), .val (.int p1), .val (.int p2), .val (.int p3), .val (.int p4), .val (.int b5), .unset, .unset, .unset, .unset, .unset, .unset, .unset, .unset, .unset, .unset] [(.int (5 : Int32)), (.int p0)]) _
    refine Go.step (fun _ => XS.ishr X0.here hx rfl (hb hby at_15) rfl) ?_
    show Go p e below s₁ (mkF m 16 #[.val (.int p0), .val (.int p1), .val (.int p2), .val (.int p3), .val (.int p4), .val (.int b5), .unset, .unset, .unset, .unset, .unset, .unset, .unset, .unset, .unset, .unset] [(.int (p0 >>> ((5 : Int32) &&& 31)))]) _
    refine Go.step (fun _ => XS.iconst X0.here hx rfl (hb hby at_16)) ?_
    show Go p e below s₁ (mkF m 17 #[.val (.int p0), .val (.int p1), .val (.int p2), .val (.int p3), .val (.int p4), .val (.int b5), .unset, .unset, .unset, .unset, .unset, .unset, .unset, .unset, .unset, .unset] [(.int (1 : Int32)), (.int (p0 >>> ((5 : Int32) &&& 31)))]) _
    refine Go.step (fun _ => XS.iand X0.here hx rfl (hb hby at_17) rfl) ?_
    show Go p e below s₁ (mkF m 18 #[.val (.int p0), .val (.int p1), .val (.int p2), .val (.int p3), .val (.int p4), .val (.int b5), .unset, .unset, .unset, .unset, .unset, .unset, .unset, .unset, .unset, .unset] [(.int ((p0 >>> ((5 : Int32) &&& 31)) &&& (1 : Int32)))]) _
    by_cases hc18 : ((p0 >>> ((5 : Int32) &&& 31)) &&& (1 : Int32)) = (0 : Int32)
    · skip
      refine Go.step (fun _ => XS.ifYes X0.here hx rfl (pc0 := 18) (pc' := 25) rfl (hb hby at_18) rfl ((if0 _ _).trans (teq hc18).1) (by decide) (by decide)) ?_
      show Go p e below s₁ (mkF m 25 #[.val (.int p0), .val (.int p1), .val (.int p2), .val (.int p3), .val (.int p4), .val (.int b5), .unset, .unset, .unset, .unset, .unset, .unset, .unset, .unset, .unset, .unset] []) _
      refine Go.step (fun _ => XS.iconst X0.here hx rfl (hb hby at_25)) ?_
      show Go p e below s₁ (mkF m 26 #[.val (.int p0), .val (.int p1), .val (.int p2), .val (.int p3), .val (.int p4), .val (.int b5), .unset, .unset, .unset, .unset, .unset, .unset, .unset, .unset, .unset, .unset] [(.int (0 : Int32))]) _
      exact J26 _ (Or.inl rfl)
    · skip
      refine Go.step (fun _ => XS.ifNo X0.here hx rfl (hb hby at_18) rfl ((if0 _ _).trans (feq hc18).1)) ?_
      show Go p e below s₁ (mkF m 21 #[.val (.int p0), .val (.int p1), .val (.int p2), .val (.int p3), .val (.int p4), .val (.int b5), .unset, .unset, .unset, .unset, .unset, .unset, .unset, .unset, .unset, .unset] []) _
      refine Go.step (fun _ => XS.iconst X0.here hx rfl (hb hby at_21)) ?_
      show Go p e below s₁ (mkF m 22 #[.val (.int p0), .val (.int p1), .val (.int p2), .val (.int p3), .val (.int p4), .val (.int b5), .unset, .unset, .unset, .unset, .unset, .unset, .unset, .unset, .unset, .unset] [(.int (1 : Int32))]) _
      refine Go.step (fun _ => XS.goto X0.here hx rfl (pc0 := 22) (pc' := 26) rfl (hb hby at_22) (by decide) (by decide)) ?_
      show Go p e below s₁ (mkF m 26 #[.val (.int p0), .val (.int p1), .val (.int p2), .val (.int p3), .val (.int p4), .val (.int b5), .unset, .unset, .unset, .unset, .unset, .unset, .unset, .unset, .unset, .unset] [(.int (1 : Int32))]) _
      exact J26 _ (Or.inr rfl)
  show Go p e below s₁ (mkF m 1 #[.val (.int p0), .val (.int p1), .val (.int p2), .val (.int p3), .val (.int p4), .unset, .unset, .unset, .unset, .unset, .unset, .unset, .unset, .unset, .unset, .unset] [(.int p0)]) _
  refine Go.step (fun _ => XS.iconst X0.here hx rfl (hb hby at_1)) ?_
  show Go p e below s₁ (mkF m 2 #[.val (.int p0), .val (.int p1), .val (.int p2), .val (.int p3), .val (.int p4), .unset, .unset, .unset, .unset, .unset, .unset, .unset, .unset, .unset, .unset, .unset] [(.int (1 : Int32)), (.int p0)]) _
  refine Go.step (fun _ => XS.iand X0.here hx rfl (hb hby at_2) rfl) ?_
  show Go p e below s₁ (mkF m 3 #[.val (.int p0), .val (.int p1), .val (.int p2), .val (.int p3), .val (.int p4), .unset, .unset, .unset, .unset, .unset, .unset, .unset, .unset, .unset, .unset, .unset] [(.int (p0 &&& (1 : Int32)))]) _
  by_cases hc3 : (p0 &&& (1 : Int32)) = (0 : Int32)
  · skip
    refine Go.step (fun _ => XS.ifYes X0.here hx rfl (pc0 := 3) (pc' := 10) rfl (hb hby at_3) rfl ((if0 _ _).trans (teq hc3).1) (by decide) (by decide)) ?_
    show Go p e below s₁ (mkF m 10 #[.val (.int p0), .val (.int p1), .val (.int p2), .val (.int p3), .val (.int p4), .unset, .unset, .unset, .unset, .unset, .unset, .unset, .unset, .unset, .unset, .unset] []) _
    refine Go.step (fun _ => XS.iconst X0.here hx rfl (hb hby at_10)) ?_
    show Go p e below s₁ (mkF m 11 #[.val (.int p0), .val (.int p1), .val (.int p2), .val (.int p3), .val (.int p4), .unset, .unset, .unset, .unset, .unset, .unset, .unset, .unset, .unset, .unset, .unset] [(.int (0 : Int32))]) _
    exact J11 _ (Or.inl rfl)
  · skip
    refine Go.step (fun _ => XS.ifNo X0.here hx rfl (hb hby at_3) rfl ((if0 _ _).trans (feq hc3).1)) ?_
    show Go p e below s₁ (mkF m 6 #[.val (.int p0), .val (.int p1), .val (.int p2), .val (.int p3), .val (.int p4), .unset, .unset, .unset, .unset, .unset, .unset, .unset, .unset, .unset, .unset, .unset] []) _
    refine Go.step (fun _ => XS.iconst X0.here hx rfl (hb hby at_6)) ?_
    show Go p e below s₁ (mkF m 7 #[.val (.int p0), .val (.int p1), .val (.int p2), .val (.int p3), .val (.int p4), .unset, .unset, .unset, .unset, .unset, .unset, .unset, .unset, .unset, .unset, .unset] [(.int (1 : Int32))]) _
    refine Go.step (fun _ => XS.goto X0.here hx rfl (pc0 := 7) (pc' := 11) rfl (hb hby at_7) (by decide) (by decide)) ?_
    show Go p e below s₁ (mkF m 11 #[.val (.int p0), .val (.int p1), .val (.int p2), .val (.int p3), .val (.int p4), .unset, .unset, .unset, .unset, .unset, .unset, .unset, .unset, .unset, .unset, .unset] [(.int (1 : Int32))]) _
    exact J11 _ (Or.inr rfl)
set_option maxRecDepth 65536 in
set_option maxHeartbeats 40000000 in
theorem comes_1 {Post : Tables → Env → Array Value → State → Outcome → State → Prop} (hpost : ∀ tb e args s v u, (limb_1_1.after args s (.returned v) u = true ∧ limb_1_2.after args s (.returned v) u = true ∧ True) → ReturnedEndW s (.returned v) u (Jvm.fieldLocs frame_1_writes args s ++ Jvm.arrayLocs frame_1_arrays args s ++ Jvm.staticLocs frame_1_statics s) 32 3264 → Post tb e args s (.returned v) u) :
    ArmFor flags0 classFile x code maxLocals ret World_1 tables_1 room_1 Calls_1 rest_1 Pre_1 Post := by
  intro l hfl _ _ p e ha hc hk s m args below hf hA hF happ hP
  obtain ⟨hcalls, hrest, hpre⟩ := hP
  obtain ⟨-, -, -, hnamed, -, -, -, hat⟩ := (Spec.applies_iff hf).mp happ
  obtain ⟨hg, hn⟩ := and_e (Cond.before_iff.mp (show (Jvm.Cond.and given_1 narrow_1).before args s = true from hpre))
  obtain ⟨g1, g2⟩ := and_e hg
  obtain ⟨g3, g4⟩ := and_e g2
  obtain ⟨g5, g6⟩ := and_e g4
  obtain ⟨g7, g8⟩ := and_e g6
  obtain ⟨g9, g10⟩ := and_e g8
  obtain ⟨w0, w1, w2, w3, w4, rfl⟩ : ∃ w0 w1 w2 w3 w4 : Value, args = #[w0, w1, w2, w3, w4] := by
    have hs : args.size = 5 := by simpa [Cond.value, given_1] using g1
    obtain ⟨L⟩ := args
    match L, hs with
    | [w0, w1, w2, w3, w4], _ => exact ⟨w0, w1, w2, w3, w4, rfl⟩
  have hw := fun d (hd : d ∈ tables_1) => atoms_spec (ws := Jvm.Cond.code x code maxLocals ret :: tables_1) hat d (List.mem_cons_of_mem _ hd)
  have hfit : Fit s := fun {y c} hc i hi => by
    obtain ⟨ha, rfl⟩ := Array.getElem?_eq_some_iff.mp hc
    have q := List.all_eq_true.mp ((Array.all_eq_true_iff_forall_mem.mp hF) _ (Array.getElem_mem ha)) i (List.mem_range.mpr hi)
    simpa [Array.getElem?_eq_getElem hi] using q
  obtain ⟨hsets, hown0⟩ := atoms_of _ (rest_1_c_eq ▸ (show rest_1_c.before _ s = true from hrest))
  have hr0 := Cond.before_iff.mp hown0
  obtain ⟨i0, ei0⟩ := is_v g3
  obtain rfl : w0 = (.int i0) := Option.some.inj ei0
  obtain ⟨i1, ei1⟩ := is_v g5
  obtain rfl : w1 = (.int i1) := Option.some.inj ei1
  obtain ⟨i2, ei2⟩ := is_v g7
  obtain rfl : w2 = (.int i2) := Option.some.inj ei2
  obtain ⟨i3, ei3⟩ := is_v g9
  obtain rfl : w3 = (.int i3) := Option.some.inj ei3
  obtain ⟨i4, ei4⟩ := is_v g10
  obtain rfl : w4 = (.int i4) := Option.some.inj ei4
  obtain ⟨G, evG⟩ := is_v (Cond.before_iff.mp (hsets _ (List.mem_of_getElem? (i := 1) rfl)))
  have P3 : ¬ G = (0 : Int32) := gotF (Cond.eq_ints evG (Term.int_eval (0))) (not_v (Cond.before_iff.mp (hsets _ (List.mem_of_getElem? (i := 2) rfl))))
  have O2 := Sta.start evG (Or.inl (hsets _ (List.mem_of_getElem? (i := 0) rfl)))
  obtain ⟨n, o, h1, h2, h3, _, L, rfl, ⟨rfl, N⟩, hq⟩ := rm0 l s _ hw tables_1 i0 i1 i2 i3 i4 G s.heap s.heap.size (Nat.le_refl _) P3 O2 p e ha hc hk s m _ below hf ((Spec.applies_iff_loose hf).mp happ).1 ⟨rfl, State.Warmed39.refl s, rfl⟩ trivial
  exact ⟨n, _, h1, h2, h3, hpost _ _ _ _ _ _ ⟨Cond.after_iff.mpr rfl, Cond.after_iff.mpr (eq_i res_at (Term.int_eval (1)) rfl), trivial⟩ ⟨hq.1, hq.2.1, hq.2.2.1, (hq.2.2.2.sift fun y hy => Or.inr (N y hy)).mono (by decide) (by decide)⟩⟩
theorem main_1_1 : Claimed_1_1 := comes_1 fun _ _ _ _ _ _ h hF => ⟨h.1, hF⟩
theorem main_1_2 : Claimed_1_2 := comes_1 fun _ _ _ _ _ _ h hF => ⟨h.2.1, hF⟩
end Jvm.Pilot.@@N@@
namespace Jvm.Pilot.@@N@@
open Jvm Jvm.ClassFile Sem Op Lib Jvm.Free Jvm.Stand Jvm.Pilot.@@N@@.Jvm.D
/-! MADE BY PROGRAM (witnessworld.py) out of the Statement's table words and the real class files: 21 classes; the members and pool entries that the words name. The judged class is class 1, her method 2. -/
namespace start1
open Jvm.ClassFile
def u (s : String) : CpInfo := .utf8 (stringToUtf16 s)
/-- a pool by its gaps: so many unusable entries, then the entry; so many at the end -/
def gap : Nat → List CpInfo → List CpInfo
  | 0, r => r
  | n + 1, r => .unusable :: gap n r
def poolList (es : List (Nat × CpInfo)) (last : Nat) : List CpInfo := es.foldr (fun e r => gap e.1 (e.2 :: r)) (gap last [])
def pool (es : List (Nat × CpInfo)) (last : Nat) : Array CpInfo := ⟨poolList es last⟩
def fileOf (pool : Array CpInfo) (this : Nat) (attrs : Array Attribute := #[]) (ms : Array MethodInfo := #[]) (fl : Nat := 33) (sup : Nat := 0) (ifs : Array Nat := #[]) (fds : Array FieldInfo := #[]) : ClassFile where
  minorVersion := 0
  majorVersion := 65
  constantPool := pool
  accessFlags := fl
  thisClass := this
  superClass := sup
  interfaces := ifs
  fields := fds
  methods := ms
  attributes := attrs
def plain (name : String) (sup : Option ClassId) : Class where
  name := name
  kind := .ordinary
  loader := none
  accessFlags := 33
  super := sup
  interfaces := #[]
  cf := none
  fields := #[]
  methods := #[]
  instanceTypes := #[]
  staticTypes := #[]
  resolved := #[]
  callSites := []
  init := .initialized
  statics := none
  mirror := none

def pool0 : Array CpInfo := pool [(5, u "<init>"), (0, u "()V"), (1, .class_ 10), (1, u "java/lang/Object")] 113

def k0c0 : Code := { maxStack := 0, maxLocals := 1, code := object_method_1_code, exceptionTable := #[], attributes := #[] }
def k0m0 : Method := { name := "<init>", desc := "()V", sig := { parameters := [], returnType := none }, accessFlags := 1, code := some k0c0 }
/-- java/lang/Object -/
def k0 : Class := { plain "java/lang/Object" none with
  accessFlags := 33
  interfaces := #[]
  cf := some (fileOf pool0 8 #[] #[{ accessFlags := 1, nameIndex := 5, descriptorIndex := 6, attributes := #[] }] 33 0 #[] #[])
  fields := #[]
  methods := #[k0m0]
  instanceTypes := #[]
  staticTypes := #[]
  resolved := Array.replicate 124 none
  statics := none }

def pool1 : Array CpInfo := pool [(2, .class_ 4), (1, u "java/lang/Object"), (0, u "<init>"), (0, u "()V"), (0, .string 8), (0, u "ltr"), (0, .string 10), (0, u "rtl"), (0, .class_ 12), (0, u "java/lang/String"), (0, .methodref 11 14), (0, .nameAndType 5 15), (0, u "([C)V"), (0, .methodref 17 18), (0, .class_ 19), (0, .nameAndType 20 21), (0, u "org/linkweave/core/TermDefinitionDirectionPinLaw"), (0, u "pick"), (0, u "(III)Ljava/lang/String;"), (0, .methodref 11 23), (0, .nameAndType 24 25), (0, u "valueOf"), (0, u "(C)Ljava/lang/String;"), (0, .class_ 27), (0, u "org/linkweave/core/TermDefinition"), (0, .string 29), (0, u "x"), (0, .methodref 26 31), (0, .nameAndType 5 32), (0, u "(Ljava/lang/String;ZZLjava/lang/String;Ljava/util/Set;ZLjava/lang/String;ZLjava/lang/String;Ljava/lang/String;Lorg/linkweave/core/TermDefinition$ScopedContext;Ljava/lang/String;Z)V"), (0, .methodref 26 34), (0, .nameAndType 35 36), (0, u "direction"), (0, u "(Ljava/lang/String;)Ljava/lang/String;"), (0, .methodref 26 38), (0, .nameAndType 35 39), (0, u "()Ljava/lang/String;"), (3, u "law"), (0, u "(IIIII)Z")] 6

def k1m0 : Method := { name := "<init>", desc := "()V", sig := { parameters := [], returnType := none }, accessFlags := 1, code := none }
def k1c1 : Code := { maxStack := 5, maxLocals := 4, code := method_2_code, exceptionTable := #[], attributes := #[] }
def k1m1 : Method := { name := "pick", desc := "(III)Ljava/lang/String;", sig := { parameters := [.int, .int, .int], returnType := some (.object "java/lang/String") }, accessFlags := 10, code := some k1c1 }
def k1c2 : Code := { maxStack := 15, maxLocals := 16, code := code, exceptionTable := #[], attributes := #[] }
def k1m2 : Method := { name := "law", desc := "(IIIII)Z", sig := { parameters := [.int, .int, .int, .int, .int], returnType := some .boolean }, accessFlags := 9, code := some k1c2 }
/-- org/linkweave/core/TermDefinitionDirectionPinLaw -/
def k1 : Class := { plain "org/linkweave/core/TermDefinitionDirectionPinLaw" (some 0) with
  accessFlags := 49
  interfaces := #[]
  cf := some (fileOf pool1 17 #[] #[{ accessFlags := 1, nameIndex := 5, descriptorIndex := 6, attributes := #[] }, { accessFlags := 10, nameIndex := 20, descriptorIndex := 21, attributes := #[] }, { accessFlags := 9, nameIndex := 43, descriptorIndex := 44, attributes := #[] }] 49 2 #[] #[])
  fields := #[]
  methods := #[k1m0, k1m1, k1m2]
  instanceTypes := #[]
  staticTypes := #[]
  resolved := Array.replicate 51 none
  statics := none }

def pool2 : Array CpInfo := pool [(1, .methodref 2 3), (0, .class_ 4), (0, .nameAndType 5 6), (0, u "java/lang/Object"), (0, u "<init>"), (0, u "()V"), (0, .class_ 8), (0, u "java/lang/Record")] 13

def k2c0 : Code := { maxStack := 1, maxLocals := 1, code := jdk_30_method_1_code, exceptionTable := #[], attributes := #[] }
def k2m0 : Method := { name := "<init>", desc := "()V", sig := { parameters := [], returnType := none }, accessFlags := 4, code := some k2c0 }
/-- java/lang/Record -/
def k2 : Class := { plain "java/lang/Record" (some 0) with
  accessFlags := 1057
  interfaces := #[]
  cf := some (fileOf pool2 7 #[] #[{ accessFlags := 4, nameIndex := 5, descriptorIndex := 6, attributes := #[] }] 1057 2 #[] #[])
  fields := #[]
  methods := #[k2m0]
  instanceTypes := #[]
  staticTypes := #[]
  resolved := Array.replicate 22 none
  statics := none }

def pool3 : Array CpInfo := pool [(1, .methodref 2 3), (0, .class_ 4), (0, .nameAndType 5 6), (0, u "java/lang/Record"), (0, u "<init>"), (0, u "()V"), (0, .fieldref 8 9), (0, .class_ 10), (0, .nameAndType 11 12), (0, u "org/linkweave/core/TermDefinition"), (0, u "iri"), (0, u "Ljava/lang/String;"), (0, .fieldref 8 14), (0, .nameAndType 15 16), (0, u "prefix"), (0, u "Z"), (0, .fieldref 8 18), (0, .nameAndType 19 16), (0, u "reverse"), (0, .fieldref 8 21), (0, .nameAndType 22 12), (0, u "typeMapping"), (0, .fieldref 8 24), (0, .nameAndType 25 26), (0, u "container"), (0, u "Ljava/util/Set;"), (0, .fieldref 8 28), (0, .nameAndType 29 16), (0, u "hasLanguage"), (0, .fieldref 8 31), (0, .nameAndType 32 12), (0, u "language"), (0, .fieldref 8 34), (0, .nameAndType 35 16), (0, u "hasDirection"), (0, .fieldref 8 37), (0, .nameAndType 38 12), (0, u "direction"), (0, .fieldref 8 40), (0, .nameAndType 41 12), (0, u "index"), (0, .fieldref 8 43), (0, .nameAndType 44 45), (0, u "scopedContext"), (0, u "Lorg/linkweave/core/TermDefinition$ScopedContext;"), (0, .fieldref 8 47), (0, .nameAndType 48 12), (0, u "nest"), (0, .fieldref 8 50), (0, .nameAndType 51 16), (0, u "protectedTerm"), (8, u "(Ljava/lang/String;ZZLjava/lang/String;Ljava/util/Set;ZLjava/lang/String;ZLjava/lang/String;Ljava/lang/String;Lorg/linkweave/core/TermDefinition$ScopedContext;Ljava/lang/String;Z)V"), (22, u "(Ljava/lang/String;)Ljava/lang/String;"), (5, u "()Ljava/lang/String;"), (8, .class_ 99), (0, u "org/linkweave/core/TermDefinition$ScopedContext")] 31

def k3c0 : Code := { maxStack := 2, maxLocals := 14, code := prog_76_method_1_code, exceptionTable := #[], attributes := #[] }
def k3m0 : Method := { name := "<init>", desc := "(Ljava/lang/String;ZZLjava/lang/String;Ljava/util/Set;ZLjava/lang/String;ZLjava/lang/String;Ljava/lang/String;Lorg/linkweave/core/TermDefinition$ScopedContext;Ljava/lang/String;Z)V", sig := { parameters := [(.object "java/lang/String"), .boolean, .boolean, (.object "java/lang/String"), (.object "java/util/Set"), .boolean, (.object "java/lang/String"), .boolean, (.object "java/lang/String"), (.object "java/lang/String"), (.object "org/linkweave/core/TermDefinition$ScopedContext"), (.object "java/lang/String"), .boolean], returnType := none }, accessFlags := 0, code := some k3c0 }
def k3c1 : Code := { maxStack := 1, maxLocals := 2, code := prog_76_method_4_code, exceptionTable := #[], attributes := #[] }
def k3m1 : Method := { name := "direction", desc := "(Ljava/lang/String;)Ljava/lang/String;", sig := { parameters := [(.object "java/lang/String")], returnType := some (.object "java/lang/String") }, accessFlags := 0, code := some k3c1 }
def k3c2 : Code := { maxStack := 1, maxLocals := 1, code := prog_76_method_17_code, exceptionTable := #[], attributes := #[] }
def k3m2 : Method := { name := "direction", desc := "()Ljava/lang/String;", sig := { parameters := [], returnType := some (.object "java/lang/String") }, accessFlags := 1, code := some k3c2 }
/-- org/linkweave/core/TermDefinition -/
def k3 : Class := { plain "org/linkweave/core/TermDefinition" (some 2) with
  accessFlags := 48
  interfaces := #[]
  cf := some (fileOf pool3 8 #[.nestMembers #[98]] #[{ accessFlags := 0, nameIndex := 5, descriptorIndex := 60, attributes := #[] }, { accessFlags := 0, nameIndex := 38, descriptorIndex := 83, attributes := #[] }, { accessFlags := 1, nameIndex := 38, descriptorIndex := 89, attributes := #[] }] 48 2 #[] #[{ accessFlags := 18, nameIndex := 11, descriptorIndex := 12, attributes := #[] }, { accessFlags := 18, nameIndex := 15, descriptorIndex := 16, attributes := #[] }, { accessFlags := 18, nameIndex := 19, descriptorIndex := 16, attributes := #[] }, { accessFlags := 18, nameIndex := 22, descriptorIndex := 12, attributes := #[] }, { accessFlags := 18, nameIndex := 25, descriptorIndex := 26, attributes := #[] }, { accessFlags := 18, nameIndex := 29, descriptorIndex := 16, attributes := #[] }, { accessFlags := 18, nameIndex := 32, descriptorIndex := 12, attributes := #[] }, { accessFlags := 18, nameIndex := 35, descriptorIndex := 16, attributes := #[] }, { accessFlags := 18, nameIndex := 38, descriptorIndex := 12, attributes := #[] }, { accessFlags := 18, nameIndex := 41, descriptorIndex := 12, attributes := #[] }, { accessFlags := 18, nameIndex := 44, descriptorIndex := 45, attributes := #[] }, { accessFlags := 18, nameIndex := 48, descriptorIndex := 12, attributes := #[] }, { accessFlags := 18, nameIndex := 51, descriptorIndex := 16, attributes := #[] }])
  fields := #[{ name := "iri", type := (.object "java/lang/String"), accessFlags := 18, slot := 0, constantValue := 0 }, { name := "prefix", type := .boolean, accessFlags := 18, slot := 1, constantValue := 0 }, { name := "reverse", type := .boolean, accessFlags := 18, slot := 2, constantValue := 0 }, { name := "typeMapping", type := (.object "java/lang/String"), accessFlags := 18, slot := 3, constantValue := 0 }, { name := "container", type := (.object "java/util/Set"), accessFlags := 18, slot := 4, constantValue := 0 }, { name := "hasLanguage", type := .boolean, accessFlags := 18, slot := 5, constantValue := 0 }, { name := "language", type := (.object "java/lang/String"), accessFlags := 18, slot := 6, constantValue := 0 }, { name := "hasDirection", type := .boolean, accessFlags := 18, slot := 7, constantValue := 0 }, { name := "direction", type := (.object "java/lang/String"), accessFlags := 18, slot := 8, constantValue := 0 }, { name := "index", type := (.object "java/lang/String"), accessFlags := 18, slot := 9, constantValue := 0 }, { name := "scopedContext", type := (.object "org/linkweave/core/TermDefinition$ScopedContext"), accessFlags := 18, slot := 10, constantValue := 0 }, { name := "nest", type := (.object "java/lang/String"), accessFlags := 18, slot := 11, constantValue := 0 }, { name := "protectedTerm", type := .boolean, accessFlags := 18, slot := 12, constantValue := 0 }]
  methods := #[k3m0, k3m1, k3m2]
  instanceTypes := #[(.object "java/lang/String"), .boolean, .boolean, (.object "java/lang/String"), (.object "java/util/Set"), .boolean, (.object "java/lang/String"), .boolean, (.object "java/lang/String"), (.object "java/lang/String"), (.object "org/linkweave/core/TermDefinition$ScopedContext"), (.object "java/lang/String"), .boolean]
  staticTypes := #[]
  resolved := Array.replicate 131 none
  statics := none }

def pool4 : Array CpInfo := pool [(1, .class_ 2), (0, u "java/io/Serializable"), (0, .class_ 4), (0, u "java/lang/Object")] 2

/-- java/io/Serializable -/
def k4 : Class := { plain "java/io/Serializable" (some 0) with
  accessFlags := 1537
  interfaces := #[]
  cf := some (fileOf pool4 1 #[] #[] 1537 3 #[] #[])
  fields := #[]
  methods := #[]
  instanceTypes := #[]
  staticTypes := #[]
  resolved := Array.replicate 7 none
  statics := none }

def pool5 : Array CpInfo := pool [(1, .class_ 2), (0, u "java/lang/Comparable"), (0, .class_ 4), (0, u "java/lang/Object")] 7

/-- java/lang/Comparable -/
def k5 : Class := { plain "java/lang/Comparable" (some 0) with
  accessFlags := 1537
  interfaces := #[]
  cf := some (fileOf pool5 1 #[] #[] 1537 3 #[] #[])
  fields := #[]
  methods := #[]
  instanceTypes := #[]
  staticTypes := #[]
  resolved := Array.replicate 12 none
  statics := none }

def pool6 : Array CpInfo := pool [(2, .class_ 4), (1, u "java/lang/CharSequence"), (42, .class_ 48), (0, u "java/lang/CharSequence$1CodePointIterator"), (10, .class_ 60), (0, u "java/lang/CharSequence$1CharIterator"), (5, .class_ 67), (0, u "java/lang/Object")] 63

/-- java/lang/CharSequence -/
def k6 : Class := { plain "java/lang/CharSequence" (some 0) with
  accessFlags := 1537
  interfaces := #[]
  cf := some (fileOf pool6 2 #[.nestMembers #[47, 59]] #[] 1537 66 #[] #[])
  fields := #[]
  methods := #[]
  instanceTypes := #[]
  staticTypes := #[]
  resolved := Array.replicate 131 none
  statics := none }

def pool7 : Array CpInfo := pool [(1, .class_ 2), (0, u "java/lang/constant/Constable"), (0, .class_ 4), (0, u "java/lang/Object")] 6

/-- java/lang/constant/Constable -/
def k7 : Class := { plain "java/lang/constant/Constable" (some 0) with
  accessFlags := 1537
  interfaces := #[]
  cf := some (fileOf pool7 1 #[] #[] 1537 3 #[] #[])
  fields := #[]
  methods := #[]
  instanceTypes := #[]
  staticTypes := #[]
  resolved := Array.replicate 11 none
  statics := none }

def pool8 : Array CpInfo := pool [(1, .class_ 2), (0, u "java/lang/constant/ConstantDesc"), (0, .class_ 4), (0, u "java/lang/Object")] 32

/-- java/lang/constant/ConstantDesc -/
def k8 : Class := { plain "java/lang/constant/ConstantDesc" (some 0) with
  accessFlags := 1537
  interfaces := #[]
  cf := some (fileOf pool8 1 #[] #[] 1537 3 #[] #[])
  fields := #[]
  methods := #[]
  instanceTypes := #[]
  staticTypes := #[]
  resolved := Array.replicate 37 none
  statics := none }

def pool9 : Array CpInfo := pool [(1, .methodref 2 3), (0, .class_ 4), (0, .nameAndType 5 6), (0, u "java/lang/Object"), (0, u "<init>"), (0, u "()V"), (2, .fieldref 10 11), (0, .class_ 12), (0, .nameAndType 13 14), (0, u "java/lang/String"), (0, u "value"), (0, u "[B"), (0, .fieldref 10 16), (0, .nameAndType 17 18), (0, u "coder"), (0, u "B"), (2, u "hash"), (0, u "I"), (2, u "hashIsZero"), (0, u "Z"), (0, .methodref 10 28), (0, .nameAndType 5 29), (0, u "([CIILjava/lang/Void;)V"), (8, .fieldref 10 39), (0, .nameAndType 40 26), (0, u "COMPACT_STRINGS"), (1, .class_ 44), (1, u "java/lang/StringUTF16"), (0, u "compress"), (1, .methodref 42 48), (0, .nameAndType 49 50), (0, u "coderFromArrayLen"), (0, u "([BI)B"), (2, u "toBytes"), (53, .class_ 109), (1, u "java/lang/StringLatin1"), (67, .methodref 42 178), (0, .nameAndType 45 179), (0, u "([CII)[B"), (29, .methodref 10 210), (0, .nameAndType 5 211), (0, u "([BB)V"), (157, u "(C)Z"), (205, .class_ 576), (0, u "java/lang/CharSequence"), (22, u "CASE_INSENSITIVE_ORDER"), (0, u "Ljava/util/Comparator;"), (181, u "valueOf"), (0, u "(C)Ljava/lang/String;"), (226, u "([C)V"), (4, .methodref 107 1016), (0, .nameAndType 1017 369), (0, u "canEncode"), (0, .methodref 107 1019), (0, .nameAndType 53 1020), (0, u "(C)[B"), (80, u "serialPersistentFields"), (0, u "[Ljava/io/ObjectStreamField;"), (0, .class_ 1104), (0, u "java/lang/String$CaseInsensitiveComparator"), (1, .class_ 1107), (0, u "java/io/Serializable"), (0, .class_ 1109), (0, u "java/lang/Comparable"), (0, .class_ 1111), (0, u "java/lang/constant/Constable"), (0, .class_ 1113), (0, u "java/lang/constant/ConstantDesc"), (2, u "serialVersionUID"), (0, u "J"), (3, u "REPL"), (0, u "C"), (2, u "LATIN1"), (1, u "UTF16")] 323

def k9m0 : Method := { name := "<init>", desc := "()V", sig := { parameters := [], returnType := none }, accessFlags := 1, code := none }
def k9c1 : Code := { maxStack := 5, maxLocals := 2, code := jdk_42_method_3_code, exceptionTable := #[], attributes := #[] }
def k9m1 : Method := { name := "<init>", desc := "([C)V", sig := { parameters := [(.array .char)], returnType := none }, accessFlags := 1, code := some k9c1 }
def k9c2 : Code := { maxStack := 4, maxLocals := 1, code := jdk_42_method_139_code, exceptionTable := #[], attributes := #[] }
def k9m2 : Method := { name := "valueOf", desc := "(C)Ljava/lang/String;", sig := { parameters := [.char], returnType := some (.object "java/lang/String") }, accessFlags := 9, code := some k9c2 }
def k9c3 : Code := { maxStack := 4, maxLocals := 6, code := jdk_42_method_149_code, exceptionTable := #[], attributes := #[] }
def k9m3 : Method := { name := "<init>", desc := "([CIILjava/lang/Void;)V", sig := { parameters := [(.array .char), .int, .int, (.object "java/lang/Void")], returnType := none }, accessFlags := 2, code := some k9c3 }
def k9c4 : Code := { maxStack := 2, maxLocals := 3, code := jdk_42_method_151_code, exceptionTable := #[], attributes := #[] }
def k9m4 : Method := { name := "<init>", desc := "([BB)V", sig := { parameters := [(.array .byte), .byte], returnType := none }, accessFlags := 0, code := some k9c4 }
/-- java/lang/String -/
def k9 : Class := { plain "java/lang/String" (some 0) with
  accessFlags := 49
  interfaces := #[4, 5, 6, 7, 8]
  cf := some (fileOf pool9 10 #[.nestMembers #[1103]] #[{ accessFlags := 1, nameIndex := 5, descriptorIndex := 6, attributes := #[] }, { accessFlags := 1, nameIndex := 5, descriptorIndex := 1010, attributes := #[] }, { accessFlags := 9, nameIndex := 782, descriptorIndex := 783, attributes := #[] }, { accessFlags := 2, nameIndex := 5, descriptorIndex := 29, attributes := #[] }, { accessFlags := 0, nameIndex := 5, descriptorIndex := 211, attributes := #[] }] 49 2 #[1106, 1108, 575, 1110, 1112] #[{ accessFlags := 18, nameIndex := 13, descriptorIndex := 14, attributes := #[] }, { accessFlags := 18, nameIndex := 17, descriptorIndex := 18, attributes := #[] }, { accessFlags := 2, nameIndex := 21, descriptorIndex := 22, attributes := #[] }, { accessFlags := 2, nameIndex := 25, descriptorIndex := 26, attributes := #[] }, { accessFlags := 26, nameIndex := 1116, descriptorIndex := 1117, attributes := #[] }, { accessFlags := 24, nameIndex := 40, descriptorIndex := 26, attributes := #[] }, { accessFlags := 26, nameIndex := 1101, descriptorIndex := 1102, attributes := #[] }, { accessFlags := 26, nameIndex := 1121, descriptorIndex := 1122, attributes := #[] }, { accessFlags := 25, nameIndex := 599, descriptorIndex := 600, attributes := #[] }, { accessFlags := 24, nameIndex := 1125, descriptorIndex := 18, attributes := #[] }, { accessFlags := 24, nameIndex := 1127, descriptorIndex := 18, attributes := #[] }])
  fields := #[{ name := "value", type := (.array .byte), accessFlags := 18, slot := 0, constantValue := 0 }, { name := "coder", type := .byte, accessFlags := 18, slot := 1, constantValue := 0 }, { name := "hash", type := .int, accessFlags := 2, slot := 2, constantValue := 0 }, { name := "hashIsZero", type := .boolean, accessFlags := 2, slot := 3, constantValue := 0 }, { name := "serialVersionUID", type := .long, accessFlags := 26, slot := 0, constantValue := 0 }, { name := "COMPACT_STRINGS", type := .boolean, accessFlags := 24, slot := 1, constantValue := 0 }, { name := "serialPersistentFields", type := (.array (.object "java/io/ObjectStreamField")), accessFlags := 26, slot := 2, constantValue := 0 }, { name := "REPL", type := .char, accessFlags := 26, slot := 3, constantValue := 0 }, { name := "CASE_INSENSITIVE_ORDER", type := (.object "java/util/Comparator"), accessFlags := 25, slot := 4, constantValue := 0 }, { name := "LATIN1", type := .byte, accessFlags := 24, slot := 5, constantValue := 0 }, { name := "UTF16", type := .byte, accessFlags := 24, slot := 6, constantValue := 0 }]
  methods := #[k9m0, k9m1, k9m2, k9m3, k9m4]
  instanceTypes := #[(.array .byte), .byte, .int, .boolean]
  staticTypes := #[.long, .boolean, (.array (.object "java/io/ObjectStreamField")), .char, (.object "java/util/Comparator"), .byte, .byte]
  resolved := Array.replicate 1451 none
  statics := some 0 }

def pool10 : Array CpInfo := pool [(6, .class_ 8), (1, u "java/lang/Object"), (0, u "<init>"), (0, u "()V"), (1, .class_ 14), (1, u "java/lang/StringUTF16"), (31, u "$assertionsDisabled"), (0, u "Z"), (13, u "HI_BYTE_SHIFT"), (0, u "I"), (2, u "LO_BYTE_SHIFT"), (49, .methodref 12 116), (0, .nameAndType 117 118), (0, u "compress"), (0, u "([CI[BII)I"), (3, u "([CII)[B"), (138, u "coderFromArrayLen"), (0, u "([BI)B"), (106, .class_ 371), (1, u "java/lang/StringUTF16$LinesSpliterator"), (58, u "MAX_LENGTH"), (196, .class_ 628), (0, u "java/lang/StringUTF16$CodePointsSpliterator"), (0, .class_ 630), (0, u "java/lang/StringUTF16$CharsSpliterator")] 4

def k10m0 : Method := { name := "<init>", desc := "()V", sig := { parameters := [], returnType := none }, accessFlags := 0, code := none }
def k10c1 : Code := { maxStack := 2, maxLocals := 2, code := jdk_52_method_15_code, exceptionTable := #[], attributes := #[] }
def k10m1 : Method := { name := "coderFromArrayLen", desc := "([BI)B", sig := { parameters := [(.array .byte), .int], returnType := some .byte }, accessFlags := 8, code := some k10c1 }
def k10c2 : Code := { maxStack := 5, maxLocals := 6, code := jdk_52_method_16_code, exceptionTable := #[], attributes := #[] }
def k10m2 : Method := { name := "compress", desc := "([CII)[B", sig := { parameters := [(.array .char), .int, .int], returnType := some (.array .byte) }, accessFlags := 9, code := some k10c2 }
def k10c3 : Code := { maxStack := 3, maxLocals := 7, code := jdk_52_method_21_code, exceptionTable := #[], attributes := #[] }
def k10m3 : Method := { name := "compress", desc := "([CI[BII)I", sig := { parameters := [(.array .char), .int, (.array .byte), .int, .int], returnType := some .int }, accessFlags := 9, code := some k10c3 }
/-- java/lang/StringUTF16 -/
def k10 : Class := { plain "java/lang/StringUTF16" (some 0) with
  accessFlags := 48
  interfaces := #[]
  cf := some (fileOf pool10 12 #[.nestMembers #[627, 629, 369]] #[{ accessFlags := 0, nameIndex := 9, descriptorIndex := 10, attributes := #[] }, { accessFlags := 8, nameIndex := 261, descriptorIndex := 262, attributes := #[] }, { accessFlags := 9, nameIndex := 117, descriptorIndex := 122, attributes := #[] }, { accessFlags := 9, nameIndex := 117, descriptorIndex := 118, attributes := #[] }] 48 6 #[] #[{ accessFlags := 26, nameIndex := 61, descriptorIndex := 62, attributes := #[] }, { accessFlags := 26, nameIndex := 65, descriptorIndex := 62, attributes := #[] }, { accessFlags := 24, nameIndex := 430, descriptorIndex := 62, attributes := #[] }, { accessFlags := 4120, nameIndex := 46, descriptorIndex := 47, attributes := #[] }])
  fields := #[{ name := "HI_BYTE_SHIFT", type := .int, accessFlags := 26, slot := 0, constantValue := 0 }, { name := "LO_BYTE_SHIFT", type := .int, accessFlags := 26, slot := 1, constantValue := 0 }, { name := "MAX_LENGTH", type := .int, accessFlags := 24, slot := 2, constantValue := 0 }, { name := "$assertionsDisabled", type := .boolean, accessFlags := 4120, slot := 3, constantValue := 0 }]
  methods := #[k10m0, k10m1, k10m2, k10m3]
  instanceTypes := #[]
  staticTypes := #[.int, .int, .int, .boolean]
  resolved := Array.replicate 635 none
  statics := none }

def pool11 : Array CpInfo := pool [(4, .class_ 6), (1, u "java/lang/Object"), (0, u "<init>"), (0, u "()V"), (5, .class_ 16), (1, u "java/lang/StringLatin1"), (73, u "canEncode"), (14, u "(C)Z"), (15, u "$assertionsDisabled"), (0, u "Z"), (98, .class_ 223), (1, u "java/lang/StringLatin1$LinesSpliterator"), (156, u "toBytes"), (1, u "(C)[B"), (7, .class_ 391), (0, u "java/lang/StringLatin1$CharsSpliterator")] 3

def k11m0 : Method := { name := "<init>", desc := "()V", sig := { parameters := [], returnType := none }, accessFlags := 0, code := none }
def k11c1 : Code := { maxStack := 2, maxLocals := 1, code := jdk_43_method_3_code, exceptionTable := #[], attributes := #[] }
def k11m1 : Method := { name := "canEncode", desc := "(C)Z", sig := { parameters := [.char], returnType := some .boolean }, accessFlags := 9, code := some k11c1 }
def k11c2 : Code := { maxStack := 4, maxLocals := 1, code := jdk_43_method_46_code, exceptionTable := #[], attributes := #[] }
def k11m2 : Method := { name := "toBytes", desc := "(C)[B", sig := { parameters := [.char], returnType := some (.array .byte) }, accessFlags := 9, code := some k11c2 }
/-- java/lang/StringLatin1 -/
def k11 : Class := { plain "java/lang/StringLatin1" (some 0) with
  accessFlags := 48
  interfaces := #[]
  cf := some (fileOf pool11 14 #[.nestMembers #[390, 221]] #[{ accessFlags := 0, nameIndex := 7, descriptorIndex := 8, attributes := #[] }, { accessFlags := 9, nameIndex := 90, descriptorIndex := 105, attributes := #[] }, { accessFlags := 9, nameIndex := 380, descriptorIndex := 382, attributes := #[] }] 48 4 #[] #[{ accessFlags := 4120, nameIndex := 121, descriptorIndex := 122, attributes := #[] }])
  fields := #[{ name := "$assertionsDisabled", type := .boolean, accessFlags := 4120, slot := 0, constantValue := 0 }]
  methods := #[k11m0, k11m1, k11m2]
  instanceTypes := #[]
  staticTypes := #[.boolean]
  resolved := Array.replicate 395 none
  statics := none }

def pool12 : Array CpInfo := pool [(2, .class_ 4), (1, u "java/lang/Object"), (0, u "<init>"), (0, u "()V"), (17, .class_ 26), (1, u "jdk/internal/util/Preconditions"), (28, .class_ 56), (0, u "jdk/internal/util/Preconditions$4"), (57, .class_ 115), (0, u "jdk/internal/util/Preconditions$1"), (7, u "SIOOBE_FORMATTER"), (0, u "Ljava/util/function/BiFunction;"), (0, .class_ 126), (0, u "jdk/internal/util/Preconditions$2"), (3, u "AIOOBE_FORMATTER"), (0, .class_ 132), (0, u "jdk/internal/util/Preconditions$3"), (3, u "IOOBE_FORMATTER")] 57

def k12m0 : Method := { name := "<init>", desc := "()V", sig := { parameters := [], returnType := none }, accessFlags := 1, code := none }
/-- jdk/internal/util/Preconditions -/
def k12 : Class := { plain "jdk/internal/util/Preconditions" (some 0) with
  accessFlags := 33
  interfaces := #[]
  cf := some (fileOf pool12 24 #[.nestMembers #[55, 131, 125, 114]] #[{ accessFlags := 1, nameIndex := 5, descriptorIndex := 6, attributes := #[] }] 33 2 #[] #[{ accessFlags := 25, nameIndex := 123, descriptorIndex := 124, attributes := #[] }, { accessFlags := 25, nameIndex := 130, descriptorIndex := 124, attributes := #[] }, { accessFlags := 25, nameIndex := 136, descriptorIndex := 124, attributes := #[] }])
  fields := #[{ name := "SIOOBE_FORMATTER", type := (.object "java/util/function/BiFunction"), accessFlags := 25, slot := 0, constantValue := 0 }, { name := "AIOOBE_FORMATTER", type := (.object "java/util/function/BiFunction"), accessFlags := 25, slot := 1, constantValue := 0 }, { name := "IOOBE_FORMATTER", type := (.object "java/util/function/BiFunction"), accessFlags := 25, slot := 2, constantValue := 0 }]
  methods := #[k12m0]
  instanceTypes := #[]
  staticTypes := #[(.object "java/util/function/BiFunction"), (.object "java/util/function/BiFunction"), (.object "java/util/function/BiFunction")]
  resolved := Array.replicate 194 none
  statics := some 1 }

def pool13 : Array CpInfo := pool [(9, u "<init>"), (6, .class_ 18), (1, u "java/lang/Object"), (0, u "()V"), (1, .class_ 23), (1, u "jdk/internal/util/ArraysSupport"), (0, u "LOG2_ARRAY_LONG_INDEX_SCALE"), (0, u "I"), (2, u "U"), (0, u "Ljdk/internal/misc/Unsafe;"), (8, u "BIG_ENDIAN"), (0, u "Z"), (8, u "LOG2_BYTE_BIT_SIZE"), (4, u "LOG2_ARRAY_INT_INDEX_SCALE"), (54, u "JLA"), (0, u "Ljdk/internal/access/JavaLangAccess;"), (11, u "LOG2_ARRAY_BOOLEAN_INDEX_SCALE"), (9, u "LOG2_ARRAY_BYTE_INDEX_SCALE"), (5, u "LOG2_ARRAY_CHAR_INDEX_SCALE"), (5, u "LOG2_ARRAY_SHORT_INDEX_SCALE"), (18, u "LOG2_ARRAY_FLOAT_INDEX_SCALE"), (24, u "LOG2_ARRAY_DOUBLE_INDEX_SCALE"), (89, u "T_BOOLEAN"), (2, u "T_CHAR"), (1, u "T_FLOAT"), (1, u "T_DOUBLE"), (1, u "T_BYTE"), (1, u "T_SHORT"), (1, u "T_INT"), (1, u "T_LONG"), (1, u "SOFT_MAX_ARRAY_LENGTH")] 83

def k13m0 : Method := { name := "<init>", desc := "()V", sig := { parameters := [], returnType := none }, accessFlags := 2, code := none }
/-- jdk/internal/util/ArraysSupport -/
def k13 : Class := { plain "jdk/internal/util/ArraysSupport" (some 0) with
  accessFlags := 33
  interfaces := #[]
  cf := some (fileOf pool13 21 #[] #[{ accessFlags := 2, nameIndex := 9, descriptorIndex := 19, attributes := #[] }] 33 16 #[] #[{ accessFlags := 24, nameIndex := 28, descriptorIndex := 29, attributes := #[] }, { accessFlags := 26, nameIndex := 38, descriptorIndex := 39, attributes := #[] }, { accessFlags := 25, nameIndex := 121, descriptorIndex := 25, attributes := #[] }, { accessFlags := 25, nameIndex := 131, descriptorIndex := 25, attributes := #[] }, { accessFlags := 25, nameIndex := 137, descriptorIndex := 25, attributes := #[] }, { accessFlags := 25, nameIndex := 143, descriptorIndex := 25, attributes := #[] }, { accessFlags := 25, nameIndex := 53, descriptorIndex := 25, attributes := #[] }, { accessFlags := 25, nameIndex := 24, descriptorIndex := 25, attributes := #[] }, { accessFlags := 25, nameIndex := 162, descriptorIndex := 25, attributes := #[] }, { accessFlags := 25, nameIndex := 187, descriptorIndex := 25, attributes := #[] }, { accessFlags := 26, nameIndex := 48, descriptorIndex := 25, attributes := #[] }, { accessFlags := 25, nameIndex := 277, descriptorIndex := 25, attributes := #[] }, { accessFlags := 25, nameIndex := 280, descriptorIndex := 25, attributes := #[] }, { accessFlags := 25, nameIndex := 282, descriptorIndex := 25, attributes := #[] }, { accessFlags := 25, nameIndex := 284, descriptorIndex := 25, attributes := #[] }, { accessFlags := 25, nameIndex := 286, descriptorIndex := 25, attributes := #[] }, { accessFlags := 25, nameIndex := 288, descriptorIndex := 25, attributes := #[] }, { accessFlags := 25, nameIndex := 290, descriptorIndex := 25, attributes := #[] }, { accessFlags := 25, nameIndex := 292, descriptorIndex := 25, attributes := #[] }, { accessFlags := 26, nameIndex := 108, descriptorIndex := 109, attributes := #[] }, { accessFlags := 25, nameIndex := 294, descriptorIndex := 25, attributes := #[] }])
  fields := #[{ name := "U", type := (.object "jdk/internal/misc/Unsafe"), accessFlags := 24, slot := 0, constantValue := 0 }, { name := "BIG_ENDIAN", type := .boolean, accessFlags := 26, slot := 1, constantValue := 0 }, { name := "LOG2_ARRAY_BOOLEAN_INDEX_SCALE", type := .int, accessFlags := 25, slot := 2, constantValue := 0 }, { name := "LOG2_ARRAY_BYTE_INDEX_SCALE", type := .int, accessFlags := 25, slot := 3, constantValue := 0 }, { name := "LOG2_ARRAY_CHAR_INDEX_SCALE", type := .int, accessFlags := 25, slot := 4, constantValue := 0 }, { name := "LOG2_ARRAY_SHORT_INDEX_SCALE", type := .int, accessFlags := 25, slot := 5, constantValue := 0 }, { name := "LOG2_ARRAY_INT_INDEX_SCALE", type := .int, accessFlags := 25, slot := 6, constantValue := 0 }, { name := "LOG2_ARRAY_LONG_INDEX_SCALE", type := .int, accessFlags := 25, slot := 7, constantValue := 0 }, { name := "LOG2_ARRAY_FLOAT_INDEX_SCALE", type := .int, accessFlags := 25, slot := 8, constantValue := 0 }, { name := "LOG2_ARRAY_DOUBLE_INDEX_SCALE", type := .int, accessFlags := 25, slot := 9, constantValue := 0 }, { name := "LOG2_BYTE_BIT_SIZE", type := .int, accessFlags := 26, slot := 10, constantValue := 0 }, { name := "T_BOOLEAN", type := .int, accessFlags := 25, slot := 11, constantValue := 0 }, { name := "T_CHAR", type := .int, accessFlags := 25, slot := 12, constantValue := 0 }, { name := "T_FLOAT", type := .int, accessFlags := 25, slot := 13, constantValue := 0 }, { name := "T_DOUBLE", type := .int, accessFlags := 25, slot := 14, constantValue := 0 }, { name := "T_BYTE", type := .int, accessFlags := 25, slot := 15, constantValue := 0 }, { name := "T_SHORT", type := .int, accessFlags := 25, slot := 16, constantValue := 0 }, { name := "T_INT", type := .int, accessFlags := 25, slot := 17, constantValue := 0 }, { name := "T_LONG", type := .int, accessFlags := 25, slot := 18, constantValue := 0 }, { name := "JLA", type := (.object "jdk/internal/access/JavaLangAccess"), accessFlags := 26, slot := 19, constantValue := 0 }, { name := "SOFT_MAX_ARRAY_LENGTH", type := .int, accessFlags := 25, slot := 20, constantValue := 0 }]
  methods := #[k13m0]
  instanceTypes := #[]
  staticTypes := #[(.object "jdk/internal/misc/Unsafe"), .boolean, .int, .int, .int, .int, .int, .int, .int, .int, .int, .int, .int, .int, .int, .int, .int, .int, .int, (.object "jdk/internal/access/JavaLangAccess"), .int]
  resolved := Array.replicate 378 none
  statics := none }

def pool14 : Array CpInfo := pool [(1, u "java/lang/Cloneable"), (0, .class_ 1), (0, u "java/lang/Object"), (0, .class_ 3)] 3

/-- java/lang/Cloneable -/
def k14 : Class := { plain "java/lang/Cloneable" (some 0) with
  accessFlags := 1537
  interfaces := #[]
  cf := some (fileOf pool14 2 #[] #[] 1537 4 #[] #[])
  fields := #[]
  methods := #[]
  instanceTypes := #[]
  staticTypes := #[]
  resolved := Array.replicate 8 none
  statics := none }

/-- the primitive byte -/
def k15 : Class := { plain "byte" none with kind := .primitive 'B', accessFlags := 0x411 }
/-- [B -/
def k16 : Class := { plain "[B" (some 0) with kind := .array 15 .byte, interfaces := #[14, 4], accessFlags := 1041 }

/-- the primitive char -/
def k17 : Class := { plain "char" none with kind := .primitive 'C', accessFlags := 0x411 }
/-- [C -/
def k18 : Class := { plain "[C" (some 0) with kind := .array 17 .char, interfaces := #[14, 4], accessFlags := 1041 }

/-- the primitive int -/
def k19 : Class := { plain "int" none with kind := .primitive 'I', accessFlags := 0x411 }
/-- [I -/
def k20 : Class := { plain "[I" (some 0) with kind := .array 19 .int, interfaces := #[14, 4], accessFlags := 1041 }

def heap : Heap := #[{ cls := 9, slots := #[.long 0, .int 1, .null, .int 0, .null, .int 0, .int 0], vm := .statics 9 },
  { cls := 12, slots := #[.null, .null, .null], vm := .statics 12 }]
def classes : Array Class := #[k0, k1, k2, k3, k4, k5, k6, k7, k8, k9, k10, k11, k12, k13, k14, k15, k16, k17, k18, k19, k20]
def interned : List (Array UInt16 × Addr) := []
def slotsUsed : Nat := 10
def theMethod : MethodId := ⟨1, 2⟩
def args0 : Array Value := #[.int 5, .int 3, .int 3, .int 3, .int 3]
def aboutOver (below : List Frame) : State where
  vm := { classes := classes, interned := interned.toArray }
  heap := heap
  slotsUsed := slotsUsed
  threads := #[{ frames := .invoking theMethod args0 :: below }]
def below0 : List Frame := [.native { method := ⟨0, 0⟩, args := #[] }]
def about1 : State := aboutOver below0
def p0 : Program := .bare "" "" ""
def e0 : Env := launch0.env 0 0 0
theorem w_frames : about1.frames = Frame.invoking theMethod args0 :: below0 := rfl
set_option maxRecDepth 65536 in
theorem w_args : argsFit about1.vm theMethod args0 = true := by decide +kernel
set_option maxRecDepth 65536 in
theorem w_heap : heapFits about1 = true := by decide +kernel
set_option maxRecDepth 65536 in
theorem w_runnable : about1.curStatus? = some .runnable := by decide +kernel
set_option maxRecDepth 65536 in
theorem w_alone : about1.alone = true := by decide +kernel
set_option maxRecDepth 65536 in
theorem w_named : about1.methodNamed? x = some theMethod := by decide +kernel
set_option maxRecDepth 65536 in
theorem w_hears : about1.hears theMethod below0 = true := by decide +kernel
set_option maxRecDepth 65536 in
theorem w_ripe : about1.ripe theMethod args0 below0 = true := by decide +kernel
theorem w_running : about1.status = .running := rfl
set_option maxRecDepth 65536 in
theorem w_room : about1.hasRoom e0.platform room_1 = true :=
  launch0.hasRoom_least _ room_1 (by decide +kernel) (by decide +kernel) (by decide +kernel) (by decide +kernel) (by decide +kernel) (by decide +kernel)
theorem allAtoms_all (ts : List Jvm.Cond) (a : Array Jvm.Value) (st : Jvm.State) : (allAtoms ts).before a st = ts.all (fun c => c.before a st) := by
  induction ts with
  | nil => rfl
  | cons c t ih =>
    show (Jvm.Cond.and c (allAtoms t)).before a st = _
    rw [Jvm.Cond.before_and, ih, List.all_cons]
def words1 : List Jvm.Cond := Jvm.Cond.code x code maxLocals ret :: tables_1
/-- a 'code' word, met by the world's own term for the bytes: nothing is compared byte by byte -/
theorem code_word {y : MethodName} {bytes : ByteArray} {mx : Nat} {rt : Option FieldType} {a : Array Value} {s : State} {m : MethodId} {meth : Method} {c : Code} (h1 : s.methodNamed? y = some m) (h2 : s.vm.method? m = some meth) (h3 : meth.code = some c) (h4 : c.code = bytes)
    (h5 : (c.maxLocals == mx && c.exceptionTable.isEmpty && decide (c.maxStack ≤ mostOperands) && decide (meth.sig.returnType = rt) && !meth.locks && decide (parseMethodDescriptor y.desc = some meth.sig)) = true) : (Jvm.Cond.code y bytes mx rt).before a s = true := by
  simp only [Bool.and_eq_true, beq_iff_eq, Bool.not_eq_true', decide_eq_true_eq] at h5
  obtain ⟨⟨⟨⟨⟨g1, g2⟩, g3⟩, g4⟩, g5⟩, g6⟩ := h5
  simp [Cond.before, Cond.holds, Cond.value, h1, h2, h3, h4, g1, g2, g3, g4, g5, g6]
def isCode : Jvm.Cond → Bool
  | .code _ _ _ _ => true
  | _ => false
theorem all_split {L : List Jvm.Cond} {P : Jvm.Cond → Bool} (h1 : L.all (fun c => isCode c || P c) = true) (h2 : ∀ c ∈ L.filter isCode, P c = true) : L.all P = true := by
  refine List.all_eq_true.mpr fun c hc => ?_
  have h := List.all_eq_true.mp h1 c hc
  rcases Bool.eq_false_or_eq_true (isCode c) with hi | hi
  · exact h2 c (List.mem_filter.mpr ⟨hc, hi⟩)
  · simpa [hi] using h
set_option maxRecDepth 65536 in
theorem w_c0 : (Jvm.Cond.code x code maxLocals ret).before args0 about1 = true := code_word (m := ⟨1, 2⟩) (meth := k1m2) (c := k1c2) (by decide +kernel) rfl rfl rfl (by decide +kernel)
set_option maxRecDepth 65536 in
theorem w_c1 : (Jvm.Cond.code ({ cls := "org/linkweave/core/TermDefinitionDirectionPinLaw", name := "pick", desc := "(III)Ljava/lang/String;" } : Jvm.MethodName) method_2_code (4 : Nat) (Option.some (Jvm.ClassFile.FieldType.object "java/lang/String"))).before args0 about1 = true := code_word (m := ⟨1, 1⟩) (meth := k1m1) (c := k1c1) (by decide +kernel) rfl rfl rfl (by decide +kernel)
set_option maxRecDepth 65536 in
theorem w_c2 : (Jvm.Cond.code ({ cls := "org/linkweave/core/TermDefinition", name := "<init>", desc := "(Ljava/lang/String;ZZLjava/lang/String;Ljava/util/Set;ZLjava/lang/String;ZLjava/lang/String;Ljava/lang/String;Lorg/linkweave/core/TermDefinition$ScopedContext;Ljava/lang/String;Z)V" } : Jvm.MethodName) prog_76_method_1_code (14 : Nat) (Option.none : Option Jvm.ClassFile.FieldType)).before args0 about1 = true := code_word (m := ⟨3, 0⟩) (meth := k3m0) (c := k3c0) (by decide +kernel) rfl rfl rfl (by decide +kernel)
set_option maxRecDepth 65536 in
theorem w_c3 : (Jvm.Cond.code ({ cls := "java/lang/Record", name := "<init>", desc := "()V" } : Jvm.MethodName) jdk_30_method_1_code (1 : Nat) (Option.none : Option Jvm.ClassFile.FieldType)).before args0 about1 = true := code_word (m := ⟨2, 0⟩) (meth := k2m0) (c := k2c0) (by decide +kernel) rfl rfl rfl (by decide +kernel)
set_option maxRecDepth 65536 in
theorem w_c4 : (Jvm.Cond.code ({ cls := "java/lang/Object", name := "<init>", desc := "()V" } : Jvm.MethodName) object_method_1_code (1 : Nat) (Option.none : Option Jvm.ClassFile.FieldType)).before args0 about1 = true := code_word (m := ⟨0, 0⟩) (meth := k0m0) (c := k0c0) (by decide +kernel) rfl rfl rfl (by decide +kernel)
set_option maxRecDepth 65536 in
theorem w_c5 : (Jvm.Cond.code ({ cls := "org/linkweave/core/TermDefinition", name := "direction", desc := "(Ljava/lang/String;)Ljava/lang/String;" } : Jvm.MethodName) prog_76_method_4_code (2 : Nat) (Option.some (Jvm.ClassFile.FieldType.object "java/lang/String"))).before args0 about1 = true := code_word (m := ⟨3, 1⟩) (meth := k3m1) (c := k3c1) (by decide +kernel) rfl rfl rfl (by decide +kernel)
set_option maxRecDepth 65536 in
theorem w_c6 : (Jvm.Cond.code ({ cls := "org/linkweave/core/TermDefinition", name := "direction", desc := "()Ljava/lang/String;" } : Jvm.MethodName) prog_76_method_17_code (1 : Nat) (Option.some (Jvm.ClassFile.FieldType.object "java/lang/String"))).before args0 about1 = true := code_word (m := ⟨3, 2⟩) (meth := k3m2) (c := k3c2) (by decide +kernel) rfl rfl rfl (by decide +kernel)
set_option maxRecDepth 65536 in
theorem w_c7 : (Jvm.Cond.code ({ cls := "java/lang/String", name := "<init>", desc := "([C)V" } : Jvm.MethodName) jdk_42_method_3_code (2 : Nat) (Option.none : Option Jvm.ClassFile.FieldType)).before args0 about1 = true := code_word (m := ⟨9, 1⟩) (meth := k9m1) (c := k9c1) (by decide +kernel) rfl rfl rfl (by decide +kernel)
set_option maxRecDepth 65536 in
theorem w_c8 : (Jvm.Cond.code ({ cls := "java/lang/String", name := "<init>", desc := "([CIILjava/lang/Void;)V" } : Jvm.MethodName) jdk_42_method_149_code (6 : Nat) (Option.none : Option Jvm.ClassFile.FieldType)).before args0 about1 = true := code_word (m := ⟨9, 3⟩) (meth := k9m3) (c := k9c3) (by decide +kernel) rfl rfl rfl (by decide +kernel)
set_option maxRecDepth 65536 in
theorem w_c9 : (Jvm.Cond.code ({ cls := "java/lang/StringUTF16", name := "compress", desc := "([CII)[B" } : Jvm.MethodName) jdk_52_method_16_code (6 : Nat) (Option.some (Jvm.ClassFile.FieldType.array Jvm.ClassFile.FieldType.byte))).before args0 about1 = true := code_word (m := ⟨10, 2⟩) (meth := k10m2) (c := k10c2) (by decide +kernel) rfl rfl rfl (by decide +kernel)
set_option maxRecDepth 65536 in
theorem w_c10 : (Jvm.Cond.code ({ cls := "java/lang/StringUTF16", name := "compress", desc := "([CI[BII)I" } : Jvm.MethodName) jdk_52_method_21_code (7 : Nat) (Option.some Jvm.ClassFile.FieldType.int)).before args0 about1 = true := code_word (m := ⟨10, 3⟩) (meth := k10m3) (c := k10c3) (by decide +kernel) rfl rfl rfl (by decide +kernel)
set_option maxRecDepth 65536 in
theorem w_c11 : (Jvm.Cond.code ({ cls := "java/lang/StringUTF16", name := "coderFromArrayLen", desc := "([BI)B" } : Jvm.MethodName) jdk_52_method_15_code (2 : Nat) (Option.some Jvm.ClassFile.FieldType.byte)).before args0 about1 = true := code_word (m := ⟨10, 1⟩) (meth := k10m1) (c := k10c1) (by decide +kernel) rfl rfl rfl (by decide +kernel)
set_option maxRecDepth 65536 in
theorem w_c12 : (Jvm.Cond.code ({ cls := "java/lang/String", name := "valueOf", desc := "(C)Ljava/lang/String;" } : Jvm.MethodName) jdk_42_method_139_code (1 : Nat) (Option.some (Jvm.ClassFile.FieldType.object "java/lang/String"))).before args0 about1 = true := code_word (m := ⟨9, 2⟩) (meth := k9m2) (c := k9c2) (by decide +kernel) rfl rfl rfl (by decide +kernel)
set_option maxRecDepth 65536 in
theorem w_c13 : (Jvm.Cond.code ({ cls := "java/lang/StringLatin1", name := "canEncode", desc := "(C)Z" } : Jvm.MethodName) jdk_43_method_3_code (1 : Nat) (Option.some Jvm.ClassFile.FieldType.boolean)).before args0 about1 = true := code_word (m := ⟨11, 1⟩) (meth := k11m1) (c := k11c1) (by decide +kernel) rfl rfl rfl (by decide +kernel)
set_option maxRecDepth 65536 in
theorem w_c14 : (Jvm.Cond.code ({ cls := "java/lang/StringLatin1", name := "toBytes", desc := "(C)[B" } : Jvm.MethodName) jdk_43_method_46_code (1 : Nat) (Option.some (Jvm.ClassFile.FieldType.array Jvm.ClassFile.FieldType.byte))).before args0 about1 = true := code_word (m := ⟨11, 2⟩) (meth := k11m2) (c := k11c2) (by decide +kernel) rfl rfl rfl (by decide +kernel)
set_option maxRecDepth 65536 in
theorem w_c15 : (Jvm.Cond.code ({ cls := "java/lang/String", name := "<init>", desc := "([BB)V" } : Jvm.MethodName) jdk_42_method_151_code (3 : Nat) (Option.none : Option Jvm.ClassFile.FieldType)).before args0 about1 = true := code_word (m := ⟨9, 4⟩) (meth := k9m4) (c := k9c4) (by decide +kernel) rfl rfl rfl (by decide +kernel)
def codes1 : List Jvm.Cond := [Jvm.Cond.code x code maxLocals ret, Jvm.Cond.code ({ cls := "org/linkweave/core/TermDefinitionDirectionPinLaw", name := "pick", desc := "(III)Ljava/lang/String;" } : Jvm.MethodName) method_2_code (4 : Nat) (Option.some (Jvm.ClassFile.FieldType.object "java/lang/String")), Jvm.Cond.code ({ cls := "org/linkweave/core/TermDefinition", name := "<init>", desc := "(Ljava/lang/String;ZZLjava/lang/String;Ljava/util/Set;ZLjava/lang/String;ZLjava/lang/String;Ljava/lang/String;Lorg/linkweave/core/TermDefinition$ScopedContext;Ljava/lang/String;Z)V" } : Jvm.MethodName) prog_76_method_1_code (14 : Nat) (Option.none : Option Jvm.ClassFile.FieldType), Jvm.Cond.code ({ cls := "java/lang/Record", name := "<init>", desc := "()V" } : Jvm.MethodName) jdk_30_method_1_code (1 : Nat) (Option.none : Option Jvm.ClassFile.FieldType), Jvm.Cond.code ({ cls := "java/lang/Object", name := "<init>", desc := "()V" } : Jvm.MethodName) object_method_1_code (1 : Nat) (Option.none : Option Jvm.ClassFile.FieldType), Jvm.Cond.code ({ cls := "org/linkweave/core/TermDefinition", name := "direction", desc := "(Ljava/lang/String;)Ljava/lang/String;" } : Jvm.MethodName) prog_76_method_4_code (2 : Nat) (Option.some (Jvm.ClassFile.FieldType.object "java/lang/String")), Jvm.Cond.code ({ cls := "org/linkweave/core/TermDefinition", name := "direction", desc := "()Ljava/lang/String;" } : Jvm.MethodName) prog_76_method_17_code (1 : Nat) (Option.some (Jvm.ClassFile.FieldType.object "java/lang/String")), Jvm.Cond.code ({ cls := "java/lang/String", name := "<init>", desc := "([C)V" } : Jvm.MethodName) jdk_42_method_3_code (2 : Nat) (Option.none : Option Jvm.ClassFile.FieldType), Jvm.Cond.code ({ cls := "java/lang/String", name := "<init>", desc := "([CIILjava/lang/Void;)V" } : Jvm.MethodName) jdk_42_method_149_code (6 : Nat) (Option.none : Option Jvm.ClassFile.FieldType), Jvm.Cond.code ({ cls := "java/lang/StringUTF16", name := "compress", desc := "([CII)[B" } : Jvm.MethodName) jdk_52_method_16_code (6 : Nat) (Option.some (Jvm.ClassFile.FieldType.array Jvm.ClassFile.FieldType.byte)), Jvm.Cond.code ({ cls := "java/lang/StringUTF16", name := "compress", desc := "([CI[BII)I" } : Jvm.MethodName) jdk_52_method_21_code (7 : Nat) (Option.some Jvm.ClassFile.FieldType.int), Jvm.Cond.code ({ cls := "java/lang/StringUTF16", name := "coderFromArrayLen", desc := "([BI)B" } : Jvm.MethodName) jdk_52_method_15_code (2 : Nat) (Option.some Jvm.ClassFile.FieldType.byte), Jvm.Cond.code ({ cls := "java/lang/String", name := "valueOf", desc := "(C)Ljava/lang/String;" } : Jvm.MethodName) jdk_42_method_139_code (1 : Nat) (Option.some (Jvm.ClassFile.FieldType.object "java/lang/String")), Jvm.Cond.code ({ cls := "java/lang/StringLatin1", name := "canEncode", desc := "(C)Z" } : Jvm.MethodName) jdk_43_method_3_code (1 : Nat) (Option.some Jvm.ClassFile.FieldType.boolean), Jvm.Cond.code ({ cls := "java/lang/StringLatin1", name := "toBytes", desc := "(C)[B" } : Jvm.MethodName) jdk_43_method_46_code (1 : Nat) (Option.some (Jvm.ClassFile.FieldType.array Jvm.ClassFile.FieldType.byte)), Jvm.Cond.code ({ cls := "java/lang/String", name := "<init>", desc := "([BB)V" } : Jvm.MethodName) jdk_42_method_151_code (3 : Nat) (Option.none : Option Jvm.ClassFile.FieldType)]
set_option maxRecDepth 65536 in
theorem codes_eq : words1.filter isCode = codes1 := rfl
theorem w_codes : ∀ c ∈ words1.filter isCode, c.before args0 about1 = true := by
  rw [codes_eq]
  intro c hc
  simp only [codes1, List.mem_cons, List.not_mem_nil, or_false] at hc
  rcases hc with rfl | rfl | rfl | rfl | rfl | rfl | rfl | rfl | rfl | rfl | rfl | rfl | rfl | rfl | rfl | rfl
  · exact w_c0
  · exact w_c1
  · exact w_c2
  · exact w_c3
  · exact w_c4
  · exact w_c5
  · exact w_c6
  · exact w_c7
  · exact w_c8
  · exact w_c9
  · exact w_c10
  · exact w_c11
  · exact w_c12
  · exact w_c13
  · exact w_c14
  · exact w_c15
set_option maxRecDepth 65536 in
theorem w_t1 : (words1.take 24).all (fun c => isCode c || c.before args0 about1) = true := by decide +kernel
set_option maxRecDepth 65536 in
theorem w_t2 : ((words1.drop 24).take 24).all (fun c => isCode c || c.before args0 about1) = true := by decide +kernel
set_option maxRecDepth 65536 in
theorem w_t3 : (((words1.drop 24).drop 24).take 24).all (fun c => isCode c || c.before args0 about1) = true := by decide +kernel
set_option maxRecDepth 65536 in
theorem w_t4 : ((((words1.drop 24).drop 24).drop 24).take 24).all (fun c => isCode c || c.before args0 about1) = true := by decide +kernel
set_option maxRecDepth 65536 in
theorem w_t5 : ((((words1.drop 24).drop 24).drop 24).drop 24).all (fun c => isCode c || c.before args0 about1) = true := by decide +kernel
theorem w_tables : (allAtoms (Jvm.Cond.code x code maxLocals ret :: tables_1)).before args0 about1 = true := by
  rw [allAtoms_all]
  show words1.all (fun c => c.before args0 about1) = true
  refine all_split ?_ w_codes
  rw [← List.take_append_drop 24 words1, List.all_append, w_t1, ← List.take_append_drop 24 (words1.drop 24), List.all_append, w_t2, ← List.take_append_drop 24 ((words1.drop 24).drop 24), List.all_append, w_t3, ← List.take_append_drop 24 (((words1.drop 24).drop 24).drop 24), List.all_append, w_t4, w_t5]
  rfl
set_option maxRecDepth 65536 in
theorem w_rest : rest_1_c.before args0 about1 = true := by decide +kernel
set_option maxRecDepth 65536 in
theorem w_case : (Jvm.Cond.and given_1 narrow_1).before args0 about1 = true := by decide +kernel
theorem w_applies : (headSpec (Jvm.Cond.code x code maxLocals ret :: tables_1) room_1).applies x e0.platform about1 = true :=
  (Spec.applies_iff w_frames).mpr ⟨w_running, w_runnable, w_alone, w_named, w_hears, w_ripe, w_room, w_tables⟩
theorem atStart : AtStart classFile x code maxLocals ret World_1 tables_1 room_1 Calls_1 rest_1 Pre_1 launch0 p0 e0 about1 theMethod args0 below0 :=
  ⟨lists_1, trivial, launch0.admits_env _ _ _, launch0.least_env, fairChoices_fair.cas, fairChoices_fair.clock, w_frames, w_args, w_heap, w_applies, trivial, w_rest, w_case⟩
end start1
theorem witness_1 : WitnessClaimed_1 := ⟨start1.p0, start1.e0, start1.about1, start1.theMethod, start1.args0, start1.below0, start1.atStart⟩
end Jvm.Pilot.@@N@@
