import JvmDerived
import JvmDerived.Pilot.@@N@@Statement
import JvmDerived.Pilot.@@N@@Code
set_option linter.unusedVariables false
set_option linter.unusedSimpArgs false
namespace Jvm.OwnKit
open Sem ClassFile Op Lib Jvm.Stand Jvm.Free Jvm.LawKit Jvm.RoadKit
section New
variable {p : Program} {l : Launch} {e : Env} {R : Room} {s : State} {m : MethodId} {args : Array Value} {below : List Frame} {meth : Method} {c : Code} {T T' : State} {locs : List Loc} {cells slots : Nat} {g g' : JFrame} {F : Outcome → State → Prop}
/-- from here the body runs to its end, and F says what is there -/
def Go (p : Program) (e : Env) (below : List Frame) (T : State) (g : JFrame) (F : Outcome → State → Prop) : Prop :=
  ∃ s₂ o, Steps p.tables e below (T.setTop g) s₂ ∧ s₂.status = .running ∧ Ended s₂ below o ∧ F o s₂
theorem Go.step (st : ∀ t, Steps p.tables e below (T'.setTop g') t → Steps p.tables e below (T.setTop g) t) (k : Go p e below T' g' F) : Go p e below T g F := by
  obtain ⟨a, o, h1, h2⟩ := k
  exact ⟨a, o, st _ h1, h2⟩
theorem Go.call (st : Steps p.tables e below (T.setTop g) (T'.setTop g')) (k : Go p e below T' g' F) : Go p e below T g F := by
  obtain ⟨a, o, h1, h2⟩ := k
  exact ⟨a, o, st.trans h1, h2⟩
abbrev Fin (s : State) (Q : Option Value → Heap → List Loc → Prop) (C S : Nat) : Outcome → State → Prop := fun o U' => ∃ v L, o = .returned v ∧ Q v U'.heap L ∧ FrameEnd s o U' L C S
variable {Q : Option Value → Heap → List Loc → Prop} {C S : Nat}
theorem Go.ret0 (X : Stand p l e R s m args below meth c T locs cells slots) (hx : p.tables.exec = Jvm.exec) {pc : Nat} {Ls : Array Slot} (hret : meth.sig.returnType = none) (hlk : meth.locks = false) (hd : decode c.code pc = .ok (.return_, 1))
    (hQ : Q none T.heap locs) (h1 : cells ≤ C) (h2 : slots ≤ S) : Go p e below T (mkF m pc Ls []) (Fin s Q C S) := by
  obtain ⟨fs, hr, hrun, hended, hW, hsame⟩ := X.leave (v := none) (fun _ => rfl) hlk
  exact ⟨_, _, X.returnOut hx hret hd hr, hrun, hended, _, _, rfl, hQ, ⟨_, rfl⟩, hW, hsame.mono h1 h2⟩
theorem Go.retI (X : Stand p l e R s m args below meth c T locs cells slots) (hx : p.tables.exec = Jvm.exec) {pc : Nat} {Ls : Array Slot} {z : Int32} {rest : List Value} (hret : meth.sig.returnType = some .int) (hlk : meth.locks = false) (hd : decode c.code pc = .ok (.ireturn, 1))
    (hQ : Q (some (.int z)) T.heap locs) (h1 : cells ≤ C) (h2 : slots ≤ S) : Go p e below T (mkF m pc Ls (.int z :: rest)) (Fin s Q C S) := by
  obtain ⟨fs, hr, hrun, hended, hW, hsame⟩ := X.leave (v := some (.int z)) (fun h => by rw [hret] at h; cases h) hlk
  exact ⟨_, _, retOut X hx hret rfl (Or.inl ⟨rfl, Or.inl rfl, _, rfl⟩) hd hr, hrun, hended, _, _, rfl, hQ, ⟨_, rfl⟩, hW, hsame.mono h1 h2⟩
theorem Go.retL (X : Stand p l e R s m args below meth c T locs cells slots) (hx : p.tables.exec = Jvm.exec) {pc : Nat} {Ls : Array Slot} {z : Int64} {rest : List Value} (hret : meth.sig.returnType = some .long) (hlk : meth.locks = false) (hd : decode c.code pc = .ok (.lreturn, 1))
    (hQ : Q (some (.long z)) T.heap locs) (h1 : cells ≤ C) (h2 : slots ≤ S) : Go p e below T (mkF m pc Ls (.long z :: rest)) (Fin s Q C S) := by
  obtain ⟨fs, hr, hrun, hended, hW, hsame⟩ := X.leave (v := some (.long z)) (fun h => by rw [hret] at h; cases h) hlk
  exact ⟨_, _, retOut X hx hret rfl (Or.inr (Or.inl ⟨rfl, rfl, _, rfl⟩)) hd hr, hrun, hended, _, _, rfl, hQ, ⟨_, rfl⟩, hW, hsame.mono h1 h2⟩
theorem Go.retA (X : Stand p l e R s m args below meth c T locs cells slots) (hx : p.tables.exec = Jvm.exec) {pc : Nat} {Ls : Array Slot} {w : Value} {t : FieldType} {rest : List Value} (hret : meth.sig.returnType = some t) (ht : t.isReference = true) (hv : w.isRef = true) (hlk : meth.locks = false) (hd : decode c.code pc = .ok (.areturn, 1))
    (hQ : Q (some w) T.heap locs) (h1 : cells ≤ C) (h2 : slots ≤ S) : Go p e below T (mkF m pc Ls (w :: rest)) (Fin s Q C S) := by
  obtain ⟨fs, hr, hrun, hended, hW, hsame⟩ := X.leave (v := some w) (fun h => by rw [hret] at h; cases h) hlk
  have hn : narrow t w = w := by cases w <;> cases t <;> simp_all [narrow, Value.isRef, FieldType.isReference]
  exact ⟨_, _, retOut X hx hret hn (Or.inr (Or.inr (Or.inr (Or.inr ⟨rfl, ht, hv⟩)))) hd hr, hrun, hended, _, _, rfl, hQ, ⟨_, rfl⟩, hW, hsame.mono h1 h2⟩
theorem Go.retN {t : FieldType} (X : Stand p l e R s m args below meth c T locs cells slots) (hx : p.tables.exec = Jvm.exec) {pc : Nat} {Ls : Array Slot} {z z' : Int32} {rest : List Value} (hret : meth.sig.returnType = some t) (ht : t = .boolean ∨ t = .byte ∨ t = .char ∨ t = .short) (hlk : meth.locks = false) (hd : decode c.code pc = .ok (.ireturn, 1))
    (hz : nar t z = z') (hQ : Q (some (.int z')) T.heap locs) (h1 : cells ≤ C) (h2 : slots ≤ S) : Go p e below T (mkF m pc Ls (.int z :: rest)) (Fin s Q C S) := by
  subst hz
  obtain ⟨fs, hr, hrun, hended, hW, hsame⟩ := X.leave (v := some (.int (nar t z))) (fun h => by rw [hret] at h; cases h) hlk
  exact ⟨_, _, Jvm.RoadKit.retN X hx hret ht hd hr, hrun, hended, _, _, rfl, hQ, ⟨_, rfl⟩, hW, hsame.mono h1 h2⟩
theorem own_fitsRef {t : FieldType} {v : Value} (ht : t.isReference = true) (h : v.isRef = true) : fits t v = true := by cases t <;> cases v <;> simp_all [fits, Value.isRef, FieldType.isReference]
theorem own_narrowRef {t : FieldType} {v : Value} (ht : t.isReference = true) (h : v.isRef = true) : narrow t v = v := by cases v <;> cases t <;> simp_all [narrow, Value.isRef, FieldType.isReference]
theorem own_staKeep {Z : State} {h h' : Heap} {C n d : String} {v : Value} {ws : List Addr} (F : Sta Z h C n d v) (K : Keep h h' ws) (q : ∀ x ∈ ws, ∀ cell : Cell, h[x]? = some cell → cell.vm.isStatics = false) : Sta Z h' C n d v := by
  obtain ⟨cf, i, k, f, st, cell, h1, h2, h3, h4, h5, h6, h7⟩ := F
  exact ⟨cf, i, k, f, st, cell, h1, h2, h3, h4, K.2.1 st cell h5 (fun m => by rw [q st m cell h5] at h6; cases h6), h6, h7⟩
theorem own_arrKeep {Z : State} {h h' : Heap} {a : Addr} {cl : Cell} {ty : FieldType} {ws : List Addr} (F : Arr Z h a cl ty) (K : Keep h h' ws) (q : a ∉ ws) : Arr Z h' a cl ty := ⟨K.2.1 a cl F.1 q, F.2⟩
theorem own_plainE {Z : State} {h : Heap} {a : Addr} {C : String} (E : Exa Z h a C) : ∀ cell : Cell, h[a]? = some cell → cell.vm.isStatics = false := fun cell hc => by
  obtain ⟨c2, k, h1, -, -, h4, -⟩ := E
  cases hc.symm.trans h1
  exact h4
theorem own_plainV {Z : State} {h : Heap} {a : Addr} {k : ClassId} {ty : FieldType} {z : Int32} {vs : List Value} {dv : Value} (V : Arv Z h a k ty z vs dv) : ∀ cell : Cell, h[a]? = some cell → cell.vm.isStatics = false := fun cell hc => by
  obtain ⟨c2, A, -⟩ := V
  cases hc.symm.trans A.1
  exact A.plain
end New
end Jvm.OwnKit

namespace Jvm.OwnKit
open Sem ClassFile Op Lib Jvm.Stand Jvm.Free Jvm.LawKit Jvm.RoadKit
theorem own_fldI {args : Array Value} {Z : State} {t : Term} {a : Addr} {C n d : String} {k : Int32} (ev : t.eval args Z none [] Z = some (.ref a)) (h : (Cond.eq (Term.field t C n d) (Term.int k)).value args Z none Z [] = some true) : Fld Z Z.heap a C n d (.int k) := by
  obtain ⟨x, y, e1, e2, k1, k2⟩ := cmp_v (Or.inl h)
  rw [Term.int_eval] at e2
  cases e2
  obtain ⟨z, rfl⟩ := k2
  have e3 := e1
  rw [fld_at ev] at e3
  have q : z = k := by simpa [Cond.value, e1, Term.int_eval] using h
  subst q
  exact Fld.start e3

end Jvm.OwnKit

namespace Jvm.OwnKit
open Jvm.RoadKit
theorem own_lat (x : Int32) : ¬ nar .char ((x &&& (255 : Int32)).toUInt32.toUInt16.toUInt32.toInt32) < 0 ∧ ¬ (255 : Int32) < nar .char ((x &&& (255 : Int32)).toUInt32.toUInt16.toUInt32.toInt32) := by
  have e : nar .char ((x &&& (255 : Int32)).toUInt32.toUInt16.toUInt32.toInt32) = x &&& 255 := by
    rw [i2c_mask]
    show (x &&& 255).toUInt32.toUInt16.toUInt32.toInt32 = _
    exact i2c_mask x
  rw [e, Int32.lt_iff_toInt_lt, Int32.lt_iff_toInt_lt]
  have h := c_and x 255 (by decide)
  have a : (255 : Int32).toInt = 255 := by decide
  have b : (0 : Int32).toInt = 0 := by decide
  omega
theorem own_lat2 (x y : Int32) : ∀ c ∈ [nar .char ((x &&& (255 : Int32)).toUInt32.toUInt16.toUInt32.toInt32), nar .char ((y &&& (255 : Int32)).toUInt32.toUInt16.toUInt32.toInt32)], ¬ c < 0 ∧ ¬ (255 : Int32) < c := by
  intro c hc
  rcases List.mem_cons.mp hc with rfl | hc
  · exact own_lat x
  · rcases List.mem_cons.mp hc with rfl | hc
    · exact own_lat y
    · cases hc
theorem own_narB {b : Int32} (h : b = 0 ∨ b = 1) : nar .boolean b = b := by rcases h with rfl | rfl <;> decide
end Jvm.OwnKit
/- laws to paste: Road.backV (cut by pick.py; bodies as the Statement names them) -/
namespace Jvm.Pilot.@@N@@
namespace StrChars
open Jvm Sem ClassFile Op Lib Jvm.Stand Jvm.Free.XT Jvm.Free.ALB Jvm.Free.JM Jvm.Free
open Jvm.Lib.Cold (StaticIs)
/-- a char array whose places are chars -/
def Ch (a : Addr) (A : Cell) (U : State) : Prop := Arr .char a A U ∧ Typed .char A
theorem Ch.mv {a : Addr} {A : Cell} {U U' : State} (h : Ch a A U) (hal : U.vm.Alike U'.vm) (hh : U'.heap = U.heap) : Ch a A U' := ⟨h.1.mv hal hh, h.2⟩
theorem Ch.keep {a : Addr} {A : Cell} {U U' : State} (h : Ch a A U) (hal : U.vm.Alike U'.vm) (hk : U'.heap[a]? = some A) : Ch a A U' := ⟨h.1.keep hal hk, h.2⟩
/-- what place i of a char[]'s cell holds -/
def cv (A : Cell) (i : Nat) : Int32 := match A.slots[i]? with | some (.int x) => x | _ => 0
theorem Ch.get {a : Addr} {A : Cell} {U : State} (h : Ch a A U) {i : Nat} (hi : i < A.slots.size) : A.slots[i]? = some (.int (cv A i)) := by
  have e := Array.getElem?_eq_getElem hi
  have f := h.2 i _ e
  unfold cv; rw [e]
  generalize A.slots[i] = v at f
  cases v <;> simp [fits] at f ⊢
/-- the byte that i2b leaves of a char -/
def lo8 (x : Int32) : Int32 := x.toInt8.toInt32
theorem fits_lo8 (y : Int32) : fits .byte (.int (lo8 y)) = true := by
  have h1 := y.toInt8.le_toInt
  have h2 := y.toInt8.toInt_lt
  simp only [lo8, fits, Bool.and_eq_true, decide_eq_true_eq, Int32.le_iff_toInt_le, Int8.toInt_toInt32, show (-128 : Int32).toInt = -128 from by decide, show (127 : Int32).toInt = 127 from by decide]
  omega
/-- A' is A but that each place j of lo .. hi - 1 holds f j -/
def Laid (A A' : Cell) (lo hi : Nat) (f : Nat → Value) : Prop := A'.cls = A.cls ∧ A'.vm = A.vm ∧ A'.slots.size = A.slots.size ∧ ∀ i, A'.slots[i]? = if lo ≤ i ∧ i < hi then some (f i) else A.slots[i]?
theorem Laid.zero (A : Cell) (lo : Nat) (f : Nat → Value) : Laid A A lo (lo + 0) f := ⟨rfl, rfl, rfl, fun i => by rw [if_neg (by omega)]⟩
theorem Laid.step {A Ak : Cell} {lo k : Nat} {f : Nat → Value} {v : Value} (h : Laid A Ak lo k f) (hlo : lo ≤ k) (hk : k < Ak.slots.size) (hv : v = f k) : Laid A (Ak.setSlot k v) lo (k + 1) f := by
  refine ⟨h.1, h.2.1, by simpa [Cell.setSlot] using h.2.2.1, fun i => ?_⟩
  by_cases e : k = i
  · subst e; rw [Cell.slots_setSlot_self v hk, if_pos (by omega), hv]
  · rw [Cell.slots_setSlot_ne v e, h.2.2.2 i]
    by_cases q : lo ≤ i ∧ i < k
    · rw [if_pos q, if_pos (by omega)]
    · rw [if_neg q, if_neg (by omega)]
def U16 : String := "java/lang/StringUTF16"
namespace Cmp5
def yN : MethodName := ⟨"java/lang/StringUTF16", "compress", "([CI[BII)I"⟩
abbrev yB : ByteArray := jdk_52_method_21_code
theorem d0 : decode yB 0 = .ok (.iconst 0, 1) := by decide +kernel
theorem d1 : decode yB 1 = .ok (.istore 5, 2) := by decide +kernel
theorem d3 : decode yB 3 = .ok (.iload 5, 2) := by decide +kernel
theorem d5 : decode yB 5 = .ok (.iload 4, 2) := by decide +kernel
theorem d7 : decode yB 7 = .ok (.if_icmp (.ge) 37, 3) := by decide +kernel
theorem d10 : decode yB 10 = .ok (.aload_n 0, 1) := by decide +kernel
theorem d11 : decode yB 11 = .ok (.iload_n 1, 1) := by decide +kernel
theorem d12 : decode yB 12 = .ok (.caload, 1) := by decide +kernel
theorem d13 : decode yB 13 = .ok (.istore 6, 2) := by decide +kernel
theorem d15 : decode yB 15 = .ok (.iload 6, 2) := by decide +kernel
theorem d17 : decode yB 17 = .ok (.sipush 255, 3) := by decide +kernel
theorem d20 : decode yB 20 = .ok (.if_icmp (.le) 6, 3) := by decide +kernel
theorem d26 : decode yB 26 = .ok (.aload_n 2, 1) := by decide +kernel
theorem d27 : decode yB 27 = .ok (.iload_n 3, 1) := by decide +kernel
theorem d28 : decode yB 28 = .ok (.iload 6, 2) := by decide +kernel
theorem d30 : decode yB 30 = .ok (.i2b, 1) := by decide +kernel
theorem d31 : decode yB 31 = .ok (.bastore, 1) := by decide +kernel
theorem d32 : decode yB 32 = .ok (.iinc 1 1, 3) := by decide +kernel
theorem d35 : decode yB 35 = .ok (.iinc 3 1, 3) := by decide +kernel
theorem d38 : decode yB 38 = .ok (.iinc 5 1, 3) := by decide +kernel
theorem d41 : decode yB 41 = .ok (.goto (-38), 3) := by decide +kernel
theorem d44 : decode yB 44 = .ok (.iload 4, 2) := by decide +kernel
theorem d46 : decode yB 46 = .ok (.ireturn, 1) := by decide +kernel
def site : List Cond := []
def tab : Cond := tabOf yN yB 7 (some .int) site
def P (b : Addr) (A : Cell) (d : Addr) (B : Cell) (o q len : Nat) (args : Array Value) (s : State) : Prop := args = #[.ref b, .int (Int32.ofNat o), .ref d, .int (Int32.ofNat q), .int (Int32.ofNat len)] ∧ Ch b A s ∧ Arr .byte d B s ∧ b ≠ d ∧ o + len ≤ A.slots.size ∧ q + len ≤ B.slots.size ∧ ∀ i, i < len → ¬ 255 < cv A (o + i)
def E (b : Addr) (A : Cell) (d : Addr) (B : Cell) (o q len : Nat) (r : Option Value) (s u : State) : Prop := r = some (.int (Int32.ofNat len)) ∧ ∃ B', Put d B' s u ∧ Laid B B' q (q + len) (fun j => Value.int (lo8 (cv A (o + (j - q)))))
/-- no char of the range above 255: len; the places written hold each char's low byte -/
theorem law (l : Launch) (b : Addr) (A : Cell) (d : Addr) (B : Cell) (o q len : Nat) : Law l yN 5 5 0 0 yB 7 (some .int) site (P b A d B o q len) (E b A d B o q len) (copyLocs d q len) 0 0 := by
  refine Law.of_walk (plainFor_of_name (by decide +kernel)) (by decide +kernel) (by decide +kernel) (by decide) (fun _ _ h => by rw [h.1]; rfl) (fun _ U U' hal hh h => ⟨h.1, h.2.1.mv hal hh, h.2.2.1.mv hal hh, h.2.2.2⟩) (fun r U U' V V' h1 hal h2 h => ⟨h.1, h.2.elim fun B' q => ⟨B', q.1.mv h1 h2, q.2⟩⟩) ?_
  intro p e s m args below meth c s₁ X0 hexec hbytes hml hret hlk hnm hown hh0 W hP
  obtain ⟨rfl, hA, hB, hne, l1, l2, hp⟩ := hP
  have c1 : Steps p.tables e below (s₁.setTop (entryFrame m #[.ref b, .int (Int32.ofNat o), .ref d, .int (Int32.ofNat q), .int (Int32.ofNat len)] 7)) (s₁.setTop (mkF m 0 #[.val (.ref b), .val (.int (Int32.ofNat o)), .val (.ref d), .val (.int (Int32.ofNat q)), .val (.int (Int32.ofNat len)), .unset, .unset] [])) := entry rfl
  have hA0 := hA.1.mv X0.warmed.alike hh0
  have hB0 := hB.mv X0.warmed.alike hh0
  have a31 := hA.1.2.2.2
  have c2 : Steps p.tables e below (s₁.setTop (entryFrame m #[.ref b, .int (Int32.ofNat o), .ref d, .int (Int32.ofNat q), .int (Int32.ofNat len)] 7)) (s₁.setTop (mkF m 3 #[.val (.ref b), .val (.int (Int32.ofNat o)), .val (.ref d), .val (.int (Int32.ofNat q)), .val (.int (Int32.ofNat len)), .val (.int 0), .unset] [])) := c1.trans (by
    refine iconstV X0.here hexec rfl 0 (hb hbytes d0) (by decide) ?_
    refine XS.istore X0.here hexec rfl (hb hbytes d1) rfl rfl ?_
    exact Steps.refl _)
  have loop : ∀ (r i : Nat), i + r = len → ∀ (z : Slot), (z = .unset ∨ ∃ w, z = .val w ∧ w.category = 1) → ∀ (Tl : State) (Bk : Cell), Stand p l e { frames := 0, locals := 0, cells := 0, slots := 0 } s m #[.ref b, .int (Int32.ofNat o), .ref d, .int (Int32.ofNat q), .int (Int32.ofNat len)] below meth c Tl ([] ++ copyLocs d q i) 0 0 → Put d Bk s₁ Tl → Laid B Bk q (q + i) (fun j => Value.int (lo8 (cv A (o + (j - q))))) →
      Steps p.tables e below (s₁.setTop (entryFrame m #[.ref b, .int (Int32.ofNat o), .ref d, .int (Int32.ofNat q), .int (Int32.ofNat len)] 7)) (Tl.setTop (mkF m 3 #[.val (.ref b), .val (.int (Int32.ofNat (o + i))), .val (.ref d), .val (.int (Int32.ofNat (q + i))), .val (.int (Int32.ofNat len)), .val (.int (Int32.ofNat i)), z] [])) → ∃ (T' : State) (B' : Cell) (z' : Slot), Stand p l e { frames := 0, locals := 0, cells := 0, slots := 0 } s m #[.ref b, .int (Int32.ofNat o), .ref d, .int (Int32.ofNat q), .int (Int32.ofNat len)] below meth c T' ([] ++ copyLocs d q len) 0 0 ∧ Put d B' s₁ T' ∧ Laid B B' q (q + len) (fun j => Value.int (lo8 (cv A (o + (j - q))))) ∧
      Steps p.tables e below (s₁.setTop (entryFrame m #[.ref b, .int (Int32.ofNat o), .ref d, .int (Int32.ofNat q), .int (Int32.ofNat len)] 7)) (T'.setTop (mkF m 3 #[.val (.ref b), .val (.int (Int32.ofNat (o + len))), .val (.ref d), .val (.int (Int32.ofNat (q + len))), .val (.int (Int32.ofNat len)), .val (.int (Int32.ofNat len)), z'] [])) := by
    intro r
    induction r with
    | zero =>
      intro i hi z hz Tl Bk Xl pl fl cl
      have hil : i = len := by omega
      rw [hil] at Xl fl cl
      exact ⟨Tl, Bk, z, Xl, pl, fl, cl⟩
    | succ r ih =>
      intro i hi z hz Tl Bk Xl pl fl cl
      have all := X0.warmed.alike.symm.trans Xl.warmed.alike
      have hAl := hA0.keep all (pl.other hne hA0.1)
      have hBk := hB0.like all pl.1 fl.1 fl.2.1 fl.2.2.1
      have hlt : q + i < Bk.slots.size := by rw [fl.2.2.1]; omega
      have c3 : Steps p.tables e below (s₁.setTop (entryFrame m #[.ref b, .int (Int32.ofNat o), .ref d, .int (Int32.ofNat q), .int (Int32.ofNat len)] 7)) (Tl.setTop (mkF m 12 #[.val (.ref b), .val (.int (Int32.ofNat (o + i))), .val (.ref d), .val (.int (Int32.ofNat (q + i))), .val (.int (Int32.ofNat len)), .val (.int (Int32.ofNat i)), z] [.int (Int32.ofNat (o + i)), .ref b])) := cl.trans (by
        refine XS.iload Xl.here hexec rfl (hb hbytes d3) rfl ?_
        refine XS.iload Xl.here hexec rfl (hb hbytes d5) rfl ?_
        refine XS.icmpNo Xl.here hexec rfl (hb hbytes d7) rfl (ii_ge_f (lt32 (by omega) (by omega))) ?_
        refine XS.aloadN Xl.here hexec rfl (hb hbytes d10) rfl rfl ?_
        refine XS.iloadN Xl.here hexec rfl (hb hbytes d11) rfl ?_
        exact Steps.refl _)
      have c4 : Steps p.tables e below (s₁.setTop (entryFrame m #[.ref b, .int (Int32.ofNat o), .ref d, .int (Int32.ofNat q), .int (Int32.ofNat len)] 7)) (Tl.setTop (mkF m 13 #[.val (.ref b), .val (.int (Int32.ofNat (o + i))), .val (.ref d), .val (.int (Int32.ofNat (q + i))), .val (.int (Int32.ofNat len)), .val (.int (Int32.ofNat i)), z] [.int (cv A (o + i))])) := c3.trans (by
        refine Xl.aget hexec hAl rfl (hA.get (i := o + i) (by omega)) rfl rfl (hb hbytes d12) ?_
        exact Steps.refl _)
      have c5 : Steps p.tables e below (s₁.setTop (entryFrame m #[.ref b, .int (Int32.ofNat o), .ref d, .int (Int32.ofNat q), .int (Int32.ofNat len)] 7)) (Tl.setTop (mkF m 15 #[.val (.ref b), .val (.int (Int32.ofNat (o + i))), .val (.ref d), .val (.int (Int32.ofNat (q + i))), .val (.int (Int32.ofNat len)), .val (.int (Int32.ofNat i)), .val (.int (cv A (o + i)))] [])) := c4.trans (by
        refine XS.istoreS Xl.here hexec rfl (hb hbytes d13) rfl rfl hz ?_
        exact Steps.refl _)
      have c6 : Steps p.tables e below (s₁.setTop (entryFrame m #[.ref b, .int (Int32.ofNat o), .ref d, .int (Int32.ofNat q), .int (Int32.ofNat len)] 7)) (Tl.setTop (mkF m 31 #[.val (.ref b), .val (.int (Int32.ofNat (o + i))), .val (.ref d), .val (.int (Int32.ofNat (q + i))), .val (.int (Int32.ofNat len)), .val (.int (Int32.ofNat i)), .val (.int (cv A (o + i)))] [.int (lo8 (cv A (o + i))), .int (Int32.ofNat (q + i)), .ref d])) := c5.trans (by
        refine XS.iload Xl.here hexec rfl (hb hbytes d15) rfl ?_
        refine sipushV Xl.here hexec rfl 255 (hb hbytes d17) (by decide) ?_
        refine XS.icmpYes Xl.here hexec rfl (pc0 := 20) rfl (hb hbytes d20) rfl (ii_le_t (hp i (by omega))) (by decide) rfl ?_
        refine XS.aloadN Xl.here hexec rfl (hb hbytes d26) rfl rfl ?_
        refine XS.iloadN Xl.here hexec rfl (hb hbytes d27) rfl ?_
        refine XS.iload Xl.here hexec rfl (hb hbytes d28) rfl ?_
        refine i2b Xl.here hexec rfl (hb hbytes d30) rfl ?_
        exact Steps.refl _)
      obtain ⟨T7, X7, p7, st7⟩ := Xl.aput hexec hBk rfl hlt rfl (fits_lo8 (cv A (o + i))) (g := (mkF m 31 #[.val (.ref b), .val (.int (Int32.ofNat (o + i))), .val (.ref d), .val (.int (Int32.ofNat (q + i))), .val (.int (Int32.ofNat len)), .val (.int (Int32.ofNat i)), .val (.int (cv A (o + i)))] [.int (lo8 (cv A (o + i))), .int (Int32.ofNat (q + i)), .ref d])) rfl (rest := []) rfl (hb hbytes d31)
      have c8 : Steps p.tables e below (s₁.setTop (entryFrame m #[.ref b, .int (Int32.ofNat o), .ref d, .int (Int32.ofNat q), .int (Int32.ofNat len)] 7)) (T7.setTop (mkF m 32 #[.val (.ref b), .val (.int (Int32.ofNat (o + i))), .val (.ref d), .val (.int (Int32.ofNat (q + i))), .val (.int (Int32.ofNat len)), .val (.int (Int32.ofNat i)), .val (.int (cv A (o + i)))] [])) := c6.trans (st7 _ (Steps.refl _))
      have c9 : Steps p.tables e below (s₁.setTop (entryFrame m #[.ref b, .int (Int32.ofNat o), .ref d, .int (Int32.ofNat q), .int (Int32.ofNat len)] 7)) (T7.setTop (mkF m 3 #[.val (.ref b), .val (.int (Int32.ofNat (o + i) + 1)), .val (.ref d), .val (.int (Int32.ofNat (q + i) + 1)), .val (.int (Int32.ofNat len)), .val (.int (Int32.ofNat i + 1)), .val (.int (cv A (o + i)))] [])) := c8.trans (by
        refine iincV X7.here hexec rfl 1 (hb hbytes d32) (by decide) rfl rfl ?_
        refine iincV X7.here hexec rfl 1 (hb hbytes d35) (by decide) rfl rfl ?_
        refine iincV X7.here hexec rfl 1 (hb hbytes d38) (by decide) rfl rfl ?_
        refine XS.goto X7.here hexec rfl (pc0 := 41) rfl (hb hbytes d41) (by decide) rfl ?_
        exact Steps.refl _)
      have c10 : Steps p.tables e below (s₁.setTop (entryFrame m #[.ref b, .int (Int32.ofNat o), .ref d, .int (Int32.ofNat q), .int (Int32.ofNat len)] 7)) (T7.setTop (mkF m 3 #[.val (.ref b), .val (.int (Int32.ofNat (o + (i + 1)))), .val (.ref d), .val (.int (Int32.ofNat (q + (i + 1)))), .val (.int (Int32.ofNat len)), .val (.int (Int32.ofNat (i + 1))), .val (.int (cv A (o + i)))] [])) := by
        have := c9
        rw [succ32, succ32, succ32] at this
        exact this
      exact ih (i + 1) (by omega) _ (Or.inr ⟨_, rfl, rfl⟩) T7 _ (by rw [copyLocs_step, ← List.append_assoc]; exact X7) (pl.trans p7) (fl.step (by omega) hlt (by simp)) c10
  obtain ⟨T9, B9, z9, X9, p9, f9, g9⟩ := loop len 0 (by omega) .unset (Or.inl rfl) s₁ B (by simpa [copyLocs] using X0) ⟨hB0.1, fun _ _ => rfl, rfl⟩ (Laid.zero _ _ _) c2
  have c11 : Steps p.tables e below (s₁.setTop (entryFrame m #[.ref b, .int (Int32.ofNat o), .ref d, .int (Int32.ofNat q), .int (Int32.ofNat len)] 7)) (T9.setTop (mkF m 46 #[.val (.ref b), .val (.int (Int32.ofNat (o + len))), .val (.ref d), .val (.int (Int32.ofNat (q + len))), .val (.int (Int32.ofNat len)), .val (.int (Int32.ofNat len)), z9] [.int (Int32.ofNat len)])) := g9.trans (by
    refine XS.iload X9.here hexec rfl (hb hbytes d3) rfl ?_
    refine XS.iload X9.here hexec rfl (hb hbytes d5) rfl ?_
    refine XS.icmpYes X9.here hexec rfl (pc0 := 7) rfl (hb hbytes d7) rfl (ii_ge_t (nlt32 (by omega) (Nat.le_refl _))) (by decide) rfl ?_
    refine XS.iload X9.here hexec rfl (hb hbytes d44) rfl ?_
    exact Steps.refl _)
  exact ⟨T9, some (.int (Int32.ofNat len)), _, _, _, X9, by simp, rfl, rfl, (fun h => by cases h), ⟨rfl, B9, p9.from hh0, f9⟩, fun fs hl => c11.trans (X9.ireturnOut hexec hret rfl (Or.inl rfl) (hb hbytes d46) hl)⟩
end Cmp5
namespace Cmp3
def yN : MethodName := ⟨"java/lang/StringUTF16", "compress", "([CII)[B"⟩
abbrev yB : ByteArray := jdk_52_method_16_code
theorem d0 : decode yB 0 = .ok (.iload_n 2, 1) := by decide +kernel
theorem d1 : decode yB 1 = .ok (.newarray .byte, 2) := by decide +kernel
theorem d3 : decode yB 3 = .ok (.astore_n 3, 1) := by decide +kernel
theorem d4 : decode yB 4 = .ok (.aload_n 0, 1) := by decide +kernel
theorem d5 : decode yB 5 = .ok (.iload_n 1, 1) := by decide +kernel
theorem d6 : decode yB 6 = .ok (.aload_n 3, 1) := by decide +kernel
theorem d7 : decode yB 7 = .ok (.iconst 0, 1) := by decide +kernel
theorem d8 : decode yB 8 = .ok (.iload_n 2, 1) := by decide +kernel
theorem d9 : decode yB 9 = .ok (.invokestatic 115, 3) := by decide +kernel
theorem d12 : decode yB 12 = .ok (.istore 4, 2) := by decide +kernel
theorem d14 : decode yB 14 = .ok (.iload 4, 2) := by decide +kernel
theorem d16 : decode yB 16 = .ok (.iload_n 2, 1) := by decide +kernel
theorem d17 : decode yB 17 = .ok (.if_icmp (.eq) 40, 3) := by decide +kernel
theorem d57 : decode yB 57 = .ok (.aload_n 3, 1) := by decide +kernel
theorem d58 : decode yB 58 = .ok (.areturn, 1) := by decide +kernel
def site : List Cond := [.arrayClass .byte, Cmp5.tab] ++ staticW U16 115 Cmp5.yN
def tab : Cond := tabOf yN yB 6 (some (.array .byte)) site
def P (b : Addr) (A : Cell) (o len : Nat) (args : Array Value) (s : State) : Prop := args = #[.ref b, .int (Int32.ofNat o), .int (Int32.ofNat len)] ∧ Ch b A s ∧ o + len ≤ A.slots.size ∧ len ≤ 536870912 ∧ ∀ i, i < len → ¬ 255 < cv A (o + i)
def E (b : Addr) (A : Cell) (o len : Nat) (r : Option Value) (s u : State) : Prop := NewArr .byte "[B" len (fun j => .int (lo8 (cv A (o + j)))) r s u ∧ u.heap.size = s.heap.size + 1
/-- no char of the range above 255: a new byte[] of their low bytes -/
theorem law (l : Launch) (b : Addr) (A : Cell) (o len : Nat) : Law l yN 3 3 1 18 yB 6 (some (.array .byte)) site (P b A o len) (E b A o len) [] 1 len := by
  refine Law.of_walk (plainFor_of_name (by decide +kernel)) (by decide +kernel) (by decide +kernel) (by decide) (fun _ _ h => by rw [h.1]; rfl) (fun _ U U' hal hh h => ⟨h.1, h.2.1.mv hal hh, h.2.2⟩) (fun r U U' V V' h1 hal h2 h => ⟨NewArr.mv r U U' V V' h1 hal h2 h.1, by rw [h1, h2]; exact h.2⟩) ?_
  intro p e s m args below meth c s₁ X0 hexec hbytes hml hret hlk hnm hown hh0 W hP
  obtain ⟨rfl, hA, l1, l2, hp⟩ := hP
  have a31 := hA.1.2.2.2
  have c1 : Steps p.tables e below (s₁.setTop (entryFrame m #[.ref b, .int (Int32.ofNat o), .int (Int32.ofNat len)] 6)) (s₁.setTop (mkF m 0 #[.val (.ref b), .val (.int (Int32.ofNat o)), .val (.int (Int32.ofNat len)), .unset, .unset, .unset] [])) := entry rfl
  have c2 : Steps p.tables e below (s₁.setTop (entryFrame m #[.ref b, .int (Int32.ofNat o), .int (Int32.ofNat len)] 6)) (s₁.setTop (mkF m 1 #[.val (.ref b), .val (.int (Int32.ofNat o)), .val (.int (Int32.ofNat len)), .unset, .unset, .unset] [.int (Int32.ofNat len)])) := c1.trans (by
    refine XS.iloadN X0.here hexec rfl (hb hbytes d0) rfl ?_
    exact Steps.refl _)
  obtain ⟨T3, B3, X3, ba3, bs3, bv3, bh3, bf3, st3⟩ := X0.anew hexec (atype := .byte) (wk W (.arrayClass .byte)) rfl (by show len * 1 ≤ _; omega) (by omega) (g := (mkF m 1 #[.val (.ref b), .val (.int (Int32.ofNat o)), .val (.int (Int32.ofNat len)), .unset, .unset, .unset] [.int (Int32.ofNat len)])) rfl (hb hbytes d1) (rest := []) rfl (Nat.le_refl _) (by show 0 + len ≤ len; omega)
  rw [hh0] at ba3 st3
  have kp3 : XT.Kept s T3 := (XT.Kept.of_eq hh0).push bh3
  have hA3 := hA.keep X3.warmed.alike (kp3 _ _ hA.1.1)
  have hne : b ≠ s.heap.size := hA.1.ne
  have c4 : Steps p.tables e below (s₁.setTop (entryFrame m #[.ref b, .int (Int32.ofNat o), .int (Int32.ofNat len)] 6)) (T3.setTop (mkF m 3 #[.val (.ref b), .val (.int (Int32.ofNat o)), .val (.int (Int32.ofNat len)), .unset, .unset, .unset] [.ref s.heap.size])) := c2.trans (st3 _ (Steps.refl _))
  have c5 : Steps p.tables e below (s₁.setTop (entryFrame m #[.ref b, .int (Int32.ofNat o), .int (Int32.ofNat len)] 6)) (T3.setTop (mkF m 9 #[.val (.ref b), .val (.int (Int32.ofNat o)), .val (.int (Int32.ofNat len)), .val (.ref s.heap.size), .unset, .unset] [.int (Int32.ofNat len), .int 0, .ref s.heap.size, .int (Int32.ofNat o), .ref b])) := c4.trans (by
    refine XS.astoreN X3.here hexec rfl (hb hbytes d3) rfl rfl rfl ?_
    refine XS.aloadN X3.here hexec rfl (hb hbytes d4) rfl rfl ?_
    refine XS.iloadN X3.here hexec rfl (hb hbytes d5) rfl ?_
    refine XS.aloadN X3.here hexec rfl (hb hbytes d6) rfl rfl ?_
    refine iconstV X3.here hexec rfl 0 (hb hbytes d7) (by decide) ?_
    refine XS.iloadN X3.here hexec rfl (hb hbytes d8) rfl ?_
    exact Steps.refl _)
  obtain ⟨v6, T6, X6, E6, g6⟩ := X3.callS hexec (Cmp5.law l b A s.heap.size B3 o 0 len) hown (wks W (staticW U16 115 Cmp5.yN)) (wk W Cmp5.tab) (W := 0) (Nat.le_of_ble_eq_true rfl) (Nat.le_of_ble_eq_true rfl) (Nat.le_refl _) (by show 0 + len + 0 ≤ len; omega) (g := (mkF m 9 #[.val (.ref b), .val (.int (Int32.ofNat o)), .val (.int (Int32.ofNat len)), .val (.ref s.heap.size), .unset, .unset] [.int (Int32.ofNat len), .int (Int32.ofNat 0), .ref s.heap.size, .int (Int32.ofNat o), .ref b])) rfl (by rw [hml]; rfl) c5 (argsL := [.ref b, .int (Int32.ofNat o), .ref s.heap.size, .int (Int32.ofNat 0), .int (Int32.ofNat len)]) (rest := []) rfl rfl (by show 2 * 0 + 0 ≤ _; decide) (hb hbytes d9) (⟨rfl, hA3, ba3, hne, l1, by rw [bs3]; simp, hp⟩)
  obtain ⟨rfl, B6, p6, f6⟩ := E6
  have c7 : Steps p.tables e below (s₁.setTop (entryFrame m #[.ref b, .int (Int32.ofNat o), .int (Int32.ofNat len)] 6)) (T6.setTop (mkF m 12 #[.val (.ref b), .val (.int (Int32.ofNat o)), .val (.int (Int32.ofNat len)), .val (.ref s.heap.size), .unset, .unset] [.int (Int32.ofNat len)])) := g6
  have c8 : Steps p.tables e below (s₁.setTop (entryFrame m #[.ref b, .int (Int32.ofNat o), .int (Int32.ofNat len)] 6)) (T6.setTop (mkF m 58 #[.val (.ref b), .val (.int (Int32.ofNat o)), .val (.int (Int32.ofNat len)), .val (.ref s.heap.size), .val (.int (Int32.ofNat len)), .unset] [.ref s.heap.size])) := c7.trans (by
    refine XS.istore X6.here hexec rfl (hb hbytes d12) rfl rfl ?_
    refine XS.iload X6.here hexec rfl (hb hbytes d14) rfl ?_
    refine XS.iloadN X6.here hexec rfl (hb hbytes d16) rfl ?_
    refine XS.icmpYes X6.here hexec rfl (pc0 := 17) rfl (hb hbytes d17) rfl (ii_eq_t rfl) (by decide) rfl ?_
    refine XS.aloadN X6.here hexec rfl (hb hbytes d57) rfl rfl ?_
    exact Steps.refl _)
  have X8 := X6.wide (L' := []) (cells' := 1) (slots' := len) (fun x hx hlt => by
    simp only [List.nil_append, copyLocs, List.mem_map, List.mem_range] at hx
    obtain ⟨i, -, rfl⟩ := hx
    exact absurd hlt (Nat.lt_irrefl _)) (Nat.le_refl _) (by omega)
  exact ⟨T6, some (.ref s.heap.size), _, _, _, X8, rfl, rfl, rfl, (fun h => by cases h), ⟨⟨rfl, B6, ba3.like (X3.warmed.alike.symm.trans X6.warmed.alike) p6.1 f6.1 f6.2.1 f6.2.2.1, f6.2.1.trans bv3, by rw [X6.warmed.alike.findClass, f6.1]; exact bf3, by rw [f6.2.2.1, bs3]; simp, fun j hj => by rw [f6.2.2.2 j, if_pos (by omega)]; rfl, kp3.put p6 (Nat.le_refl _)⟩, by rw [p6.2.2, bh3, hh0]; simp⟩, fun fs hl => c8.trans (X8.areturnOut hexec rfl hret rfl (hb hbytes d58) hl)⟩
end Cmp3
namespace CodL
def yN : MethodName := ⟨"java/lang/StringUTF16", "coderFromArrayLen", "([BI)B"⟩
abbrev yB : ByteArray := jdk_52_method_15_code
theorem d0 : decode yB 0 = .ok (.iload_n 1, 1) := by decide +kernel
theorem d1 : decode yB 1 = .ok (.aload_n 0, 1) := by decide +kernel
theorem d2 : decode yB 2 = .ok (.arraylength, 1) := by decide +kernel
theorem d3 : decode yB 3 = .ok (.isub, 1) := by decide +kernel
theorem d4 : decode yB 4 = .ok (.bipush 31, 2) := by decide +kernel
theorem d6 : decode yB 6 = .ok (.iushr, 1) := by decide +kernel
theorem d7 : decode yB 7 = .ok (.i2b, 1) := by decide +kernel
theorem d8 : decode yB 8 = .ok (.ireturn, 1) := by decide +kernel
def site : List Cond := []
def tab : Cond := tabOf yN yB 2 (some .byte) site
def P (d : Addr) (B : Cell) (args : Array Value) (s : State) : Prop := args = #[.ref d, .int (Int32.ofNat B.slots.size)] ∧ Arr .byte d B s
def E (r : Option Value) (s u : State) : Prop := XT.PureE (some (.int 0)) r s u
/-- an array as long as the number of chars: LATIN1 -/
theorem law (l : Launch) (d : Addr) (B : Cell) : Law l yN 2 2 0 0 yB 2 (some .byte) site (P d B) E [] 0 0 := by
  refine Law.of_walk (plainFor_of_name (by decide +kernel)) (by decide +kernel) (by decide +kernel) (by decide) (fun _ _ h => by rw [h.1]; rfl) (fun _ U U' hal hh h => ⟨h.1, h.2.mv hal hh⟩) (fun r U U' V V' h1 hal h2 h => XT.PureE.mv r U U' V V' h1 hal h2 h) ?_
  intro p e s m args below meth c s₁ X0 hexec hbytes hml hret hlk hnm hown hh0 W hP
  obtain ⟨rfl, hB⟩ := hP
  have hB0 := hB.mv X0.warmed.alike hh0
  have c1 : Steps p.tables e below (s₁.setTop (entryFrame m #[.ref d, .int (Int32.ofNat B.slots.size)] 2)) (s₁.setTop (mkF m 0 #[.val (.ref d), .val (.int (Int32.ofNat B.slots.size))] [])) := entry rfl
  have c2 : Steps p.tables e below (s₁.setTop (entryFrame m #[.ref d, .int (Int32.ofNat B.slots.size)] 2)) (s₁.setTop (mkF m 2 #[.val (.ref d), .val (.int (Int32.ofNat B.slots.size))] [.ref d, .int (Int32.ofNat B.slots.size)])) := c1.trans (by
    refine XS.iloadN X0.here hexec rfl (hb hbytes d0) rfl ?_
    refine XS.aloadN X0.here hexec rfl (hb hbytes d1) rfl rfl ?_
    exact Steps.refl _)
  have c3 : Steps p.tables e below (s₁.setTop (entryFrame m #[.ref d, .int (Int32.ofNat B.slots.size)] 2)) (s₁.setTop (mkF m 8 #[.val (.ref d), .val (.int (Int32.ofNat B.slots.size))] [.int (lo8 (ushr (Int32.ofNat B.slots.size - Int32.ofNat B.slots.size) 31))])) := c2.trans (by
    refine X0.alen hexec hB0 rfl rfl (hb hbytes d2) ?_
    refine XS.isub X0.here hexec rfl (hb hbytes d3) rfl ?_
    refine bipushV X0.here hexec rfl 31 (hb hbytes d4) (by decide) ?_
    refine iushr X0.here hexec rfl (hb hbytes d6) rfl ?_
    refine i2b X0.here hexec rfl (hb hbytes d7) rfl ?_
    exact Steps.refl _)
  have e0 : lo8 (ushr (Int32.ofNat B.slots.size - Int32.ofNat B.slots.size) 31) = 0 := by rw [Int32.sub_self]; decide
  rw [e0] at c3
  exact ⟨s₁, some (.int 0), _, _, _, X0, rfl, rfl, rfl, (fun h => by cases h), ⟨rfl, hh0⟩, fun fs hl => c3.trans (X0.ireturnOut hexec hret rfl (Or.inr (Or.inr (Or.inl rfl))) (hb hbytes d8) hl)⟩
end CodL
/-- the String at a is Latin-1 over a new byte[] (the heap's one new cell): the low bytes of the len chars of A from o on; every cell but a is kept -/
def Got (a : Addr) (D : Cell) (fV fC : Field) (A : Cell) (o len : Nat) (r : Option Value) (s u : State) : Prop := r = none ∧ ∃ D' V : Cell, Blank "java/lang/String" a D' u ∧ Same D D' [fV.slot, fC.slot] ∧ D'.slots[fV.slot]? = some (.ref s.heap.size) ∧ D'.slots[fC.slot]? = some (.int 0) ∧ Arr .byte s.heap.size V u ∧ V.vm = .none ∧ u.vm.findClass "[B" = some V.cls ∧ V.slots.size = len ∧ (∀ j, j < len → V.slots[j]? = some (.int (lo8 (cv A (o + j))))) ∧ (∀ (y : Addr) (c : Cell), y ≠ a → s.heap[y]? = some c → u.heap[y]? = some c) ∧ u.heap.size = s.heap.size + 1
theorem Got.mv {a : Addr} {D A : Cell} {fV fC : Field} {o len : Nat} : ∀ r (U U' V V' : State), U'.heap = U.heap → V.vm.Alike V'.vm → V'.heap = V.heap → Got a D fV fC A o len r U V → Got a D fV fC A o len r U' V' :=
  fun r U U' V V' h1 hal h2 ⟨e0, D', X, a1, a2, a3, a4, a5, a6, a7, a8, a9, a10, a11⟩ => ⟨e0, D', X, a1.mv hal h2, a2, by rw [h1]; exact a3, a4, by rw [h1]; exact a5.mv hal h2, a6, by rw [hal.findClass]; exact a7, a8, a9, by rw [h1, h2]; exact a10, by rw [h1, h2]; exact a11⟩
namespace New4
def yN : MethodName := ⟨"java/lang/String", "<init>", "([CIILjava/lang/Void;)V"⟩
abbrev yB : ByteArray := jdk_42_method_149_code
theorem d0 : decode yB 0 = .ok (.aload_n 0, 1) := by decide +kernel
theorem d1 : decode yB 1 = .ok (.invokespecial 1, 3) := by decide +kernel
theorem d4 : decode yB 4 = .ok (.iload_n 3, 1) := by decide +kernel
theorem d5 : decode yB 5 = .ok (.ifCond (.ne) 22, 3) := by decide +kernel
theorem d27 : decode yB 27 = .ok (.getstatic 38, 3) := by decide +kernel
theorem d30 : decode yB 30 = .ok (.ifCond (.eq) 28, 3) := by decide +kernel
theorem d33 : decode yB 33 = .ok (.aload_n 1, 1) := by decide +kernel
theorem d34 : decode yB 34 = .ok (.iload_n 2, 1) := by decide +kernel
theorem d35 : decode yB 35 = .ok (.iload_n 3, 1) := by decide +kernel
theorem d36 : decode yB 36 = .ok (.invokestatic 177, 3) := by decide +kernel
theorem d39 : decode yB 39 = .ok (.astore 5, 2) := by decide +kernel
theorem d41 : decode yB 41 = .ok (.aload_n 0, 1) := by decide +kernel
theorem d42 : decode yB 42 = .ok (.aload 5, 2) := by decide +kernel
theorem d44 : decode yB 44 = .ok (.iload_n 3, 1) := by decide +kernel
theorem d45 : decode yB 45 = .ok (.invokestatic 47, 3) := by decide +kernel
theorem d48 : decode yB 48 = .ok (.putfield 15, 3) := by decide +kernel
theorem d51 : decode yB 51 = .ok (.aload_n 0, 1) := by decide +kernel
theorem d52 : decode yB 52 = .ok (.aload 5, 2) := by decide +kernel
theorem d54 : decode yB 54 = .ok (.putfield 9, 3) := by decide +kernel
theorem d57 : decode yB 57 = .ok (.return_, 1) := by decide +kernel
def site : List Cond := [.fieldLink "java/lang/String" 38 "java/lang/String" "COMPACT_STRINGS" "Z", Cmp3.tab, CodL.tab, .laysFinal "java/lang/String" "java/lang/String" "value" "[B", .fieldLink "java/lang/String" 9 "java/lang/String" "value" "[B", .laysFinal "java/lang/String" "java/lang/String" "coder" "B", .fieldLink "java/lang/String" 15 "java/lang/String" "coder" "B"] ++ objW "java/lang/String" 1 ++ staticW "java/lang/String" 177 Cmp3.yN ++ staticW "java/lang/String" 47 CodL.yN
def tab : Cond := tabOf yN yB 6 none site
def P (a : Addr) (D : Cell) (fV fC : Field) (b : Addr) (A : Cell) (z : Int32) (o len : Nat) (args : Array Value) (s : State) : Prop := args = #[.ref a, .ref b, .int (Int32.ofNat o), .int (Int32.ofNat len), .null] ∧ Blank "java/lang/String" a D s ∧ Found "java/lang/String" "value" "[B" fV s ∧ Found "java/lang/String" "coder" "B" fC s ∧ Ch b A s ∧ StaticIs s "java/lang/String" "COMPACT_STRINGS" "Z" (.int z) ∧ ¬ z = 0 ∧ 0 < len ∧ o + len ≤ A.slots.size ∧ len ≤ 536870912 ∧ ∀ i, i < len → ¬ 255 < cv A (o + i)
def E (a : Addr) (D : Cell) (fV fC : Field) (A : Cell) (o len : Nat) (r : Option Value) (s u : State) : Prop := Got a D fV fC A o len r s u
/-- len > 0, no char of the range above 255: a Latin-1 String of their low bytes -/
theorem law (l : Launch) (a : Addr) (D : Cell) (fV fC : Field) (b : Addr) (A : Cell) (z : Int32) (o len : Nat) : Law l yN 5 4 2 35 yB 6 none site (P a D fV fC b A z o len) (E a D fV fC A o len) [⟨a, fC.slot⟩, ⟨a, fV.slot⟩] 1 len := by
  refine Law.of_walk (plainFor_of_name (by decide +kernel)) (by decide +kernel) (by decide +kernel) (by decide) (fun _ _ h => by rw [h.1]; rfl) (fun _ U U' hal hh h => ⟨h.1, h.2.1.mv hal hh, h.2.2.1.al hal, h.2.2.2.1.al hal, h.2.2.2.2.1.mv hal hh, h.2.2.2.2.2.1.there hal hh, h.2.2.2.2.2.2⟩) (fun r U U' V V' h1 hal h2 h => Got.mv r U U' V V' h1 hal h2 h) ?_
  intro p e s m args below meth c s₁ X0 hexec hbytes hml hret hlk hnm hown hh0 W hP
  obtain ⟨rfl, hB, f1, f2, hA, s1, hz, l0, l1, l2, hp⟩ := hP
  have a31 := hA.1.2.2.2
  have c1 : Steps p.tables e below (s₁.setTop (entryFrame m #[.ref a, .ref b, .int (Int32.ofNat o), .int (Int32.ofNat len), .null] 6)) (s₁.setTop (mkF m 0 #[.val (.ref a), .val (.ref b), .val (.int (Int32.ofNat o)), .val (.int (Int32.ofNat len)), .val .null, .unset] [])) := entry rfl
  have c2 : Steps p.tables e below (s₁.setTop (entryFrame m #[.ref a, .ref b, .int (Int32.ofNat o), .int (Int32.ofNat len), .null] 6)) (s₁.setTop (mkF m 1 #[.val (.ref a), .val (.ref b), .val (.int (Int32.ofNat o)), .val (.int (Int32.ofNat len)), .val .null, .unset] [.ref a])) := c1.trans (by
    refine XS.aloadN X0.here hexec rfl (hb hbytes d0) rfl rfl ?_
    exact Steps.refl _)
  obtain ⟨T3, X3, q3, st3⟩ := X0.oinit hexec hown (wks W (objW "java/lang/String" 1)) (g := (mkF m 1 #[.val (.ref a), .val (.ref b), .val (.int (Int32.ofNat o)), .val (.int (Int32.ofNat len)), .val .null, .unset] [.ref a])) rfl (by rw [hml]; rfl) (rest := []) rfl (hb hbytes d1) (W := 0) (by show 2 * 0 + 0 ≤ _; decide) (Nat.le_of_ble_eq_true rfl) (Nat.le_of_ble_eq_true rfl)
  have hh3 := q3.trans hh0
  have c4 : Steps p.tables e below (s₁.setTop (entryFrame m #[.ref a, .ref b, .int (Int32.ofNat o), .int (Int32.ofNat len), .null] 6)) (T3.setTop (mkF m 27 #[.val (.ref a), .val (.ref b), .val (.int (Int32.ofNat o)), .val (.int (Int32.ofNat len)), .val .null, .unset] [])) := (c2.trans (st3 _ (Steps.refl _))).trans (by
    refine XS.iloadN X3.here hexec rfl (hb hbytes d4) rfl ?_
    refine XS.ifYes X3.here hexec rfl (pc0 := 5) rfl (hb hbytes d5) rfl (i0_ne_t (nz32 (by omega) l0)) (by decide) rfl ?_
    exact Steps.refl _)
  obtain ⟨T5, X5, q5, st5⟩ := X3.sget hexec hown (wk W (.fieldLink "java/lang/String" 38 "java/lang/String" "COMPACT_STRINGS" "Z")) s1 (fun _ _ h => by rw [hh3]; exact h) (g := (mkF m 27 #[.val (.ref a), .val (.ref b), .val (.int (Int32.ofNat o)), .val (.int (Int32.ofNat len)), .val .null, .unset] [])) rfl (hb hbytes d27)
  have hh5 := q5.trans hh3
  have c6 : Steps p.tables e below (s₁.setTop (entryFrame m #[.ref a, .ref b, .int (Int32.ofNat o), .int (Int32.ofNat len), .null] 6)) (T5.setTop (mkF m 30 #[.val (.ref a), .val (.ref b), .val (.int (Int32.ofNat o)), .val (.int (Int32.ofNat len)), .val .null, .unset] [.int z])) := c4.trans (st5 _ (Steps.refl _))
  have c7 : Steps p.tables e below (s₁.setTop (entryFrame m #[.ref a, .ref b, .int (Int32.ofNat o), .int (Int32.ofNat len), .null] 6)) (T5.setTop (mkF m 36 #[.val (.ref a), .val (.ref b), .val (.int (Int32.ofNat o)), .val (.int (Int32.ofNat len)), .val .null, .unset] [.int (Int32.ofNat len), .int (Int32.ofNat o), .ref b])) := c6.trans (by
    refine XS.ifNo X5.here hexec rfl (hb hbytes d30) rfl (i0_eq_f hz) ?_
    refine XS.aloadN X5.here hexec rfl (hb hbytes d33) rfl rfl ?_
    refine XS.iloadN X5.here hexec rfl (hb hbytes d34) rfl ?_
    refine XS.iloadN X5.here hexec rfl (hb hbytes d35) rfl ?_
    exact Steps.refl _)
  obtain ⟨v8, T8, X8, E8, g8⟩ := X5.callS hexec (Cmp3.law l b A o len) hown (wks W (staticW "java/lang/String" 177 Cmp3.yN)) (wk W Cmp3.tab) (W := 0) (Nat.le_of_ble_eq_true rfl) (Nat.le_of_ble_eq_true rfl) (Nat.le_refl _) (by show 0 + len ≤ len; omega) (g := (mkF m 36 #[.val (.ref a), .val (.ref b), .val (.int (Int32.ofNat o)), .val (.int (Int32.ofNat len)), .val .null, .unset] [.int (Int32.ofNat len), .int (Int32.ofNat o), .ref b])) rfl (by rw [hml]; rfl) c7 (argsL := [.ref b, .int (Int32.ofNat o), .int (Int32.ofNat len)]) (rest := []) rfl rfl (by show 2 * 0 + 0 ≤ _; decide) (hb hbytes d36) (⟨rfl, hA.mv X5.warmed.alike hh5, l1, l2, hp⟩)
  obtain ⟨e8, z8⟩ := E8
  obtain ⟨rfl, N, n1, n2, n3, n4, n5, n6⟩ := NewArr.mv _ T5 s _ _ hh5.symm (Vm.Alike.refl _) rfl e8
  rw [hh5] at z8
  have hB1 := hB.keep X8.warmed.alike (n6 _ _ hB.1)
  have hne : s.heap.size ≠ a := (Nat.ne_of_lt (Array.getElem?_eq_some_iff.mp hB.1).1).symm
  have c9 : Steps p.tables e below (s₁.setTop (entryFrame m #[.ref a, .ref b, .int (Int32.ofNat o), .int (Int32.ofNat len), .null] 6)) (T8.setTop (mkF m 39 #[.val (.ref a), .val (.ref b), .val (.int (Int32.ofNat o)), .val (.int (Int32.ofNat len)), .val .null, .unset] [.ref s.heap.size])) := g8
  have c10 : Steps p.tables e below (s₁.setTop (entryFrame m #[.ref a, .ref b, .int (Int32.ofNat o), .int (Int32.ofNat len), .null] 6)) (T8.setTop (mkF m 45 #[.val (.ref a), .val (.ref b), .val (.int (Int32.ofNat o)), .val (.int (Int32.ofNat len)), .val .null, .val (.ref s.heap.size)] [.int (Int32.ofNat N.slots.size), .ref s.heap.size, .ref a])) := by
    have hc : Steps p.tables e below (s₁.setTop (entryFrame m #[.ref a, .ref b, .int (Int32.ofNat o), .int (Int32.ofNat len), .null] 6)) (T8.setTop (mkF m 45 #[.val (.ref a), .val (.ref b), .val (.int (Int32.ofNat o)), .val (.int (Int32.ofNat len)), .val .null, .val (.ref s.heap.size)] [.int (Int32.ofNat len), .ref s.heap.size, .ref a])) := c9.trans (by
      refine XS.astore X8.here hexec rfl (hb hbytes d39) rfl rfl rfl ?_
      refine XS.aloadN X8.here hexec rfl (hb hbytes d41) rfl rfl ?_
      refine XS.aload X8.here hexec rfl (hb hbytes d42) rfl rfl ?_
      refine XS.iloadN X8.here hexec rfl (hb hbytes d44) rfl ?_
      exact Steps.refl _)
    rw [n4]; exact hc
  obtain ⟨v11, T11, X11, E11, g11⟩ := X8.callS hexec (CodL.law l s.heap.size N) hown (wks W (staticW "java/lang/String" 47 CodL.yN)) (wk W CodL.tab) (W := 1) (Nat.le_of_ble_eq_true rfl) (Nat.le_of_ble_eq_true rfl) (Nat.le_refl _) (by show 0 + len + 0 ≤ len; omega) (g := (mkF m 45 #[.val (.ref a), .val (.ref b), .val (.int (Int32.ofNat o)), .val (.int (Int32.ofNat len)), .val .null, .val (.ref s.heap.size)] [.int (Int32.ofNat N.slots.size), .ref s.heap.size, .ref a])) rfl (by rw [hml]; rfl) c10 (argsL := [.ref s.heap.size, .int (Int32.ofNat N.slots.size)]) (rest := [.ref a]) rfl rfl (by show 2 * 0 + (1 + 0) ≤ _; decide) (hb hbytes d45) (⟨rfl, n1⟩)
  obtain ⟨rfl, q11⟩ := E11
  have hB11 := hB1.mv (X8.warmed.alike.symm.trans X11.warmed.alike) q11
  have c12 : Steps p.tables e below (s₁.setTop (entryFrame m #[.ref a, .ref b, .int (Int32.ofNat o), .int (Int32.ofNat len), .null] 6)) (T11.setTop (mkF m 48 #[.val (.ref a), .val (.ref b), .val (.int (Int32.ofNat o)), .val (.int (Int32.ofNat len)), .val .null, .val (.ref s.heap.size)] [.int 0, .ref a])) := g11
  obtain ⟨T13, X13, p13, bl13, sl13, st13⟩ := X11.finit hexec hown (wk W (.fieldLink "java/lang/String" 15 "java/lang/String" "coder" "B")) (Or.inr ⟨_, (wk W (.laysFinal "java/lang/String" "java/lang/String" "coder" "B"))⟩) (Or.inl ⟨rfl, hnm⟩) f2 (Or.inl rfl) hB11 (t := .byte) (by decide +kernel) rfl (g := (mkF m 48 #[.val (.ref a), .val (.ref b), .val (.int (Int32.ofNat o)), .val (.int (Int32.ofNat len)), .val .null, .val (.ref s.heap.size)] [.int 0, .ref a])) rfl (rest := []) rfl (hb hbytes d48)
  have c14 : Steps p.tables e below (s₁.setTop (entryFrame m #[.ref a, .ref b, .int (Int32.ofNat o), .int (Int32.ofNat len), .null] 6)) (T13.setTop (mkF m 54 #[.val (.ref a), .val (.ref b), .val (.int (Int32.ofNat o)), .val (.int (Int32.ofNat len)), .val .null, .val (.ref s.heap.size)] [.ref s.heap.size, .ref a])) := (c12.trans (st13 _ (Steps.refl _))).trans (by
    refine XS.aloadN X13.here hexec rfl (hb hbytes d51) rfl rfl ?_
    refine XS.aload X13.here hexec rfl (hb hbytes d52) rfl rfl ?_
    exact Steps.refl _)
  obtain ⟨T15, X15, p15, bl15, sl15, st15⟩ := X13.finit hexec hown (wk W (.fieldLink "java/lang/String" 9 "java/lang/String" "value" "[B")) (Or.inr ⟨_, (wk W (.laysFinal "java/lang/String" "java/lang/String" "value" "[B"))⟩) (Or.inl ⟨rfl, hnm⟩) f1 (Or.inl rfl) bl13 (t := (.array .byte)) (by decide +kernel) rfl (g := (mkF m 54 #[.val (.ref a), .val (.ref b), .val (.int (Int32.ofNat o)), .val (.int (Int32.ofNat len)), .val .null, .val (.ref s.heap.size)] [.ref s.heap.size, .ref a])) rfl (rest := []) rfl (hb hbytes d54)
  have c16 : Steps p.tables e below (s₁.setTop (entryFrame m #[.ref a, .ref b, .int (Int32.ofNat o), .int (Int32.ofNat len), .null] 6)) (T15.setTop (mkF m 57 #[.val (.ref a), .val (.ref b), .val (.int (Int32.ofNat o)), .val (.int (Int32.ofNat len)), .val .null, .val (.ref s.heap.size)] [])) := c14.trans (st15 _ (Steps.refl _))
  have ap := apart (Or.inr ⟨_, (wk W (.laysFinal "java/lang/String" "java/lang/String" "value" "[B"))⟩) (Or.inr ⟨_, (wk W (.laysFinal "java/lang/String" "java/lang/String" "coder" "B"))⟩) f1 f2 (t₁ := .array .byte) (t₂ := .byte) (by decide +kernel) (by decide +kernel) (by decide)
  have al := X8.warmed.alike.symm.trans X15.warmed.alike
  have n7 : T11.heap[s.heap.size]? = some N := by rw [q11]; exact n1.1
  exact ⟨T15, none, _, _, _, X15, by simp, rfl, by omega, (fun _ => rfl), ⟨rfl, _, N, bl15, ((Same.refl D _).set _ (by simp)).set _ (by simp), sl15, (Cell.slots_setSlot_ne _ ap).trans sl13, n1.keep al (p15.other hne (p13.other hne n7)), n2, by rw [al.findClass]; exact n3, n4, n5, fun y c h1 h2 => p15.other h1 (p13.other h1 (by rw [q11]; exact n6 y c h2)), by rw [p15.2.2, p13.2.2, q11]; exact z8⟩, fun fs hl => c16.trans (X15.returnOut hexec hret (hb hbytes d57) hl)⟩
end New4
namespace New1
def yN : MethodName := ⟨"java/lang/String", "<init>", "([C)V"⟩
abbrev yB : ByteArray := jdk_42_method_3_code
theorem d0 : decode yB 0 = .ok (.aload_n 0, 1) := by decide +kernel
theorem d1 : decode yB 1 = .ok (.aload_n 1, 1) := by decide +kernel
theorem d2 : decode yB 2 = .ok (.iconst 0, 1) := by decide +kernel
theorem d3 : decode yB 3 = .ok (.aload_n 1, 1) := by decide +kernel
theorem d4 : decode yB 4 = .ok (.arraylength, 1) := by decide +kernel
theorem d5 : decode yB 5 = .ok (.aconst_null, 1) := by decide +kernel
theorem d6 : decode yB 6 = .ok (.invokespecial 27, 3) := by decide +kernel
theorem d9 : decode yB 9 = .ok (.return_, 1) := by decide +kernel
def site : List Cond := [New4.tab] ++ initW "java/lang/String" 27 New4.yN
def tab : Cond := tabOf yN yB 2 none site
def P (a : Addr) (D : Cell) (fV fC : Field) (b : Addr) (A : Cell) (z : Int32) (args : Array Value) (s : State) : Prop := args = #[.ref a, .ref b] ∧ Blank "java/lang/String" a D s ∧ Found "java/lang/String" "value" "[B" fV s ∧ Found "java/lang/String" "coder" "B" fC s ∧ Ch b A s ∧ StaticIs s "java/lang/String" "COMPACT_STRINGS" "Z" (.int z) ∧ ¬ z = 0 ∧ 0 < A.slots.size ∧ A.slots.size ≤ 536870912 ∧ ∀ i, i < A.slots.size → ¬ 255 < cv A i
def E (a : Addr) (D : Cell) (fV fC : Field) (A : Cell) (r : Option Value) (s u : State) : Prop := Got a D fV fC A 0 A.slots.size r s u
/-- new String(chars), not empty, no char above 255: a Latin-1 String of their low bytes -/
theorem law (l : Launch) (a : Addr) (D : Cell) (fV fC : Field) (b : Addr) (A : Cell) (z : Int32) : Law l yN 2 1 3 52 yB 2 none site (P a D fV fC b A z) (E a D fV fC A) [⟨a, fC.slot⟩, ⟨a, fV.slot⟩] 1 A.slots.size := by
  refine Law.of_walk (plainFor_of_name (by decide +kernel)) (by decide +kernel) (by decide +kernel) (by decide) (fun _ _ h => by rw [h.1]; rfl) (fun _ U U' hal hh h => ⟨h.1, h.2.1.mv hal hh, h.2.2.1.al hal, h.2.2.2.1.al hal, h.2.2.2.2.1.mv hal hh, h.2.2.2.2.2.1.there hal hh, h.2.2.2.2.2.2⟩) (fun r U U' V V' h1 hal h2 h => Got.mv r U U' V V' h1 hal h2 h) ?_
  intro p e s m args below meth c s₁ X0 hexec hbytes hml hret hlk hnm hown hh0 W hP
  obtain ⟨rfl, hB, f1, f2, hA, s1, hz, l0, l2, hp⟩ := hP
  have c1 : Steps p.tables e below (s₁.setTop (entryFrame m #[.ref a, .ref b] 2)) (s₁.setTop (mkF m 0 #[.val (.ref a), .val (.ref b)] [])) := entry rfl
  have c2 : Steps p.tables e below (s₁.setTop (entryFrame m #[.ref a, .ref b] 2)) (s₁.setTop (mkF m 6 #[.val (.ref a), .val (.ref b)] [.null, .int (Int32.ofNat A.slots.size), .int 0, .ref b, .ref a])) := c1.trans (by
    refine XS.aloadN X0.here hexec rfl (hb hbytes d0) rfl rfl ?_
    refine XS.aloadN X0.here hexec rfl (hb hbytes d1) rfl rfl ?_
    refine iconstV X0.here hexec rfl 0 (hb hbytes d2) (by decide) ?_
    refine XS.aloadN X0.here hexec rfl (hb hbytes d3) rfl rfl ?_
    refine X0.alen hexec (hA.1.mv X0.warmed.alike hh0) rfl rfl (hb hbytes d4) ?_
    refine XS.aconstNull X0.here hexec rfl (hb hbytes d5) ?_
    exact Steps.refl _)
  obtain ⟨v3, T3, X3, E3, g3⟩ := X0.callN hexec (New4.law l a D fV fC b A z 0 A.slots.size) rfl hown (wks W (initW "java/lang/String" 27 New4.yN)) (W New4.tab (by simp only [site, List.mem_cons, List.mem_append, true_or, or_true])) (W := 0) (Nat.le_of_ble_eq_true rfl) (Nat.le_of_ble_eq_true rfl) (Nat.le_refl _) (by show 0 + A.slots.size ≤ A.slots.size; omega) (g := (mkF m 6 #[.val (.ref a), .val (.ref b)] [.null, .int (Int32.ofNat A.slots.size), .int (Int32.ofNat 0), .ref b, .ref a])) rfl (by rw [hml]; rfl) c2 (argsL := [.ref b, .int (Int32.ofNat 0), .int (Int32.ofNat A.slots.size), .null]) (rest := []) rfl rfl (by show 2 * 0 + 0 ≤ _; decide) (hb hbytes d6) (⟨rfl, hB.mv X0.warmed.alike hh0, f1.al X0.warmed.alike, f2.al X0.warmed.alike, hA.mv X0.warmed.alike hh0, s1.there X0.warmed.alike hh0, hz, l0, by omega, l2, fun i hi => by rw [Nat.zero_add]; exact hp i hi⟩)
  have e0 := Got.mv _ s₁ s _ _ hh0.symm (Vm.Alike.refl _) rfl E3
  obtain rfl := e0.1
  have c4 : Steps p.tables e below (s₁.setTop (entryFrame m #[.ref a, .ref b] 2)) (T3.setTop (mkF m 9 #[.val (.ref a), .val (.ref b)] [])) := g3
  exact ⟨T3, none, _, _, _, X3, by simp, rfl, by omega, (fun _ => rfl), e0, fun fs hl => c4.trans (X3.returnOut hexec hret (hb hbytes d9) hl)⟩
theorem pays {l : Launch} {R : Room} {p : Program} {e : Env} {below : List Frame} {s : State} {sargs : Array Value} {len W : Nat} (a : Addr) (D : Cell) (fV fC : Field) (b : Addr) (A : Cell) (z : Int32) (htab : tab.before sargs s = true) (hfr : 4 ≤ R.frames) (hlo : W + 65 ≤ R.locals) :
    Back l R p e below s sargs yN len W (fun A₁ a₁ => A₁.cells + 1 ≤ R.cells ∧ A₁.slots + A.slots.size ≤ R.slots ∧ P a D fV fC b A z a₁ A₁.U) (fun A₁ _ v₁ B₁ => E a D fV fC A v₁ A₁.U B₁.U ∧ B₁.locs = A₁.locs ++ [⟨a, fC.slot⟩, ⟨a, fV.slot⟩] ∧ B₁.cells = A₁.cells + 1 ∧ B₁.slots = A₁.slots + A.slots.size) :=
  (law l a D fV fC b A z).pays htab hfr (by omega)
end New1
end StrChars
namespace StrChars.Road
open Jvm Sem ClassFile Op Lib Jvm.Stand Jvm.Free Jvm.Free.XT
open Jvm.Lib.Cold (StaticIs)
abbrev ST : String := "java/lang/String"
/-- every table word that New1's law asks, flat -/
abbrev words : List Jvm.Cond := [.code New1.yN New1.yB 2 none, .initialized ST, .methodLink ST 27 New4.yN, .instanceMethod New4.yN,
  .code New4.yN New4.yB 6 none, .fieldLink ST 38 ST "COMPACT_STRINGS" "Z", .laysFinal ST ST "value" "[B", .fieldLink ST 9 ST "value" "[B", .laysFinal ST ST "coder" "B", .fieldLink ST 15 ST "coder" "B",
  .methodLink ST 1 Lib.objectInit, .instanceMethod Lib.objectInit, .code Lib.objectInit ⟨#[0xb1]⟩ 1 none, .methodLink ST 177 Cmp3.yN, .static Cmp3.yN, .methodLink ST 47 CodL.yN, .static CodL.yN,
  .code Cmp3.yN Cmp3.yB 6 (some (.array .byte)), .initialized U16, .arrayClass .byte, .methodLink U16 115 Cmp5.yN, .static Cmp5.yN, .code Cmp5.yN Cmp5.yB 7 (some .int), .code CodL.yN CodL.yB 2 (some .byte)]
theorem tab_of {a : Array Value} {s : State} (h : ∀ w ∈ words, w.before a s = true) : New1.tab.before a s = true := by
  have h5 : Cmp5.tab.before a s = true := unparts (wk h (.code Cmp5.yN Cmp5.yB 7 (some .int))) (wks h (.initialized Cmp5.yN.cls :: Cmp5.site))
  have hc : CodL.tab.before a s = true := unparts (wk h (.code CodL.yN CodL.yB 2 (some .byte))) (wks h (.initialized CodL.yN.cls :: CodL.site))
  have q5 : ∀ w ∈ Cmp5.tab :: words, w.before a s = true := fun w hw => (List.mem_cons.mp hw).elim (fun e => e ▸ h5) (h w)
  have h3 : Cmp3.tab.before a s = true := unparts (wk q5 (.code Cmp3.yN Cmp3.yB 6 (some (.array .byte)))) (wks q5 (.initialized Cmp3.yN.cls :: Cmp3.site))
  have q3 : ∀ w ∈ Cmp3.tab :: CodL.tab :: words, w.before a s = true := fun w hw => (List.mem_cons.mp hw).elim (fun e => e ▸ h3) fun hw => (List.mem_cons.mp hw).elim (fun e => e ▸ hc) (h w)
  have h4 : New4.tab.before a s = true := unparts (wk q3 (.code New4.yN New4.yB 6 none)) (wks q3 (.initialized New4.yN.cls :: New4.site))
  have q4 : ∀ w ∈ New4.tab :: words, w.before a s = true := fun w hw => (List.mem_cons.mp hw).elim (fun e => e ▸ h4) (h w)
  exact unparts (wk q4 (.code New1.yN New1.yB 2 none)) (wks q4 (.initialized New1.yN.cls :: New1.site))
/-- the words ride from the start Z to the walk's own state -/
theorem moved {Z s : State} {a0 args : Array Value} (hZ : Z.Warmed39 s.vm) (hw : ∀ d ∈ words, d.before a0 Z = true) : ∀ d ∈ words, d.before args s = true := fun d hd => by
  have q := hw d hd
  have t : ∀ d ∈ words, d = .arrayClass .byte ∨ (d.onTables && d.keepsFace) = true := by decide +kernel
  rcases t d hd with rfl | t
  · exact RoadKit.mvA hZ q
  · exact RoadKit.mv hZ q t
/-- WHAT COMES BACK, over the tables of the start Z: h the heap at the call, h' behind it -/
def Q (Z : State) (x : Addr) (A : Cell) (h : Heap) (v : Option Value) (h' : Heap) (L : List Loc) : Prop := v = none ∧ (∀ y ∈ L, y.base = x) ∧ RoadKit.Keep h h' [x] ∧ h'.size = h.size + 1 ∧ RoadKit.Exa Z h' x ST ∧ RoadKit.Fld Z h' x ST "value" "[B" (.ref h.size) ∧ RoadKit.Fld Z h' x ST "coder" "B" (.int 0) ∧
  (∃ V : Cell, RoadKit.Arr Z h' h.size V .byte ∧ V.vm = .none ∧ Z.vm.findClass "[B" = some V.cls ∧ V.slots.size = A.slots.size ∧ ∀ j, j < A.slots.size → V.slots[j]? = some (.int (lo8 (cv A j)))) ∧
  ∀ (O n d : String) (w : Value), RoadKit.Fld Z h x O n d w → RoadKit.slotOf Z O n d ≠ RoadKit.slotOf Z ST "value" "[B" → RoadKit.slotOf Z O n d ≠ RoadKit.slotOf Z ST "coder" "B" → RoadKit.Fld Z h' x O n d w
/-- **new String(chars) AT A CALL, IN THE ROAD'S FORM**: for specialBack behind newO: x the fresh String, b the char[] with the cell A -/
theorem back {p : Program} {l : Launch} {e : Env} {R : Room} {s : State} {args : Array Value} {below : List Frame} {len W : Nat} {Z : State} {a0 : Array Value} {h : Heap} (hZ : Z.Warmed39 s.vm) (hw : ∀ d ∈ words, d.before a0 Z = true) {kI : Nat} (wi : (Jvm.Cond.instantiable ST kI).before a0 Z = true)
    {x b : Addr} {A : Cell} {z : Int32} {v0 c0 : Value} (E : RoadKit.Exa Z h x ST) (V : RoadKit.Fld Z h x ST "value" "[B" v0) (C : RoadKit.Fld Z h x ST "coder" "B" c0) (K : RoadKit.Arr Z h b A .char) (hty : Typed .char A) (S : RoadKit.Sta Z h ST "COMPACT_STRINGS" "Z" (.int z)) (hz : ¬ z = 0)
    (l0 : 0 < A.slots.size) (l2 : A.slots.size ≤ 536870912) (hp : ∀ i, i < A.slots.size → ¬ 255 < cv A i) (hfr : 4 ≤ R.frames) (hlo : W + 65 ≤ R.locals) :
    Back l R p e below s args New1.yN len W (fun P a => a = #[.ref x, .ref b] ∧ P.U.heap = h ∧ P.cells + 1 ≤ R.cells ∧ P.slots + A.slots.size ≤ R.slots)
      (fun P _ v B => ∃ L, Q Z x A h v B.U.heap L ∧ B.locs = P.locs ++ L ∧ B.cells = P.cells + 1 ∧ B.slots = P.slots + A.slots.size) := by
  intro m meth c P g ig mk a X hg hsize hdg hW hn hp'
  obtain ⟨rfl, rfl, r1, r2⟩ := hp'
  have al : Z.vm.Alike P.U.vm := hZ.alike.trans X.warmed.alike
  obtain ⟨D, cfV, kV, iV, fV, hD, gV, stV, knV, obV, asV, slV⟩ := id V
  obtain ⟨D', cfC, kC, iC, fC, hD', gC, stC, -, -, asC, slC⟩ := id C
  cases hD.symm.trans hD'
  obtain ⟨D2, kD, e1, e2, e3, e4, e5⟩ := id E
  cases hD.symm.trans e1
  obtain ⟨c2, k2, i1, i2, i3, -⟩ := Cond.instantiable_spec wi
  cases e2.symm.trans i1
  cases e3.symm.trans i2
  obtain ⟨kU, u1, u2⟩ := al.2.2 _ _ e3
  have hB : Blank ST x D P.U := ⟨hD, ⟨knV, fun q hq => by rw [hq] at obV; cases obV⟩, by rw [al.findClass]; exact e2, kU, u1, by rw [u2]; exact i3, by rw [u2]; exact e5 i3⟩
  have F1 : Found ST "value" "[B" fV P.U := ⟨SBG.found_only al ⟨cfV, kV, iV, gV⟩, stV⟩
  have F2 : Found ST "coder" "B" fC P.U := ⟨SBG.found_only al ⟨cfC, kC, iC, gC⟩, stC⟩
  have hA : Ch b A P.U := ⟨⟨K.1, State.isArrayOf_alike al K.2.1, K.2.2, by omega⟩, hty⟩
  have hS : StaticIs P.U ST "COMPACT_STRINGS" "Z" (.int z) := by
    obtain ⟨cfS, iS, kS, fS, st, cS, t1, t2, t3, t4, t5, t6, t7⟩ := S
    exact StaticIs.there (s := { Z with heap := P.U.heap }) ⟨cfS, iS, kS, fS, st, cS, t1, t2, t3, t4, t5, (fun q => by rw [q] at t6; cases t6), t7⟩ al rfl
  obtain ⟨v, B, X', ⟨⟨hv, E', V', q1, q2, q3, q4, q5, q6, q7, q8, q9, q10, q11⟩, hl, hc, hs⟩, st⟩ := New1.pays x D fV fC b A z (tab_of (moved hZ hw)) hfr hlo m meth c P g ig mk _ X hg hsize hdg hW hn ⟨r1, r2, rfl, hB, F1, F2, hA, hS, hz, l0, l2, hp⟩
  have al' : Z.vm.Alike B.U.vm := hZ.alike.trans X'.warmed.alike
  have hsz : E'.slots.size = D.slots.size := by
    obtain ⟨-, -, -, kB, w1, w2, w3⟩ := q1
    obtain ⟨kB', y1, y2⟩ := al'.2.2 _ _ e3
    rw [q2.2.1] at w1
    cases w1.symm.trans y1
    rw [w3, e5 i3, y2]
  refine ⟨v, B, X', ⟨_, ⟨hv, ?_, ⟨by omega, fun y cy hy hn' => q10 y cy (by simpa using hn') hy, fun y cy hy => ?_⟩, q11, ⟨E', _, q1.1, by rw [q2.2.1]; exact e2, by rw [q2.2.1]; exact e3, by rw [q2.1]; exact obV, fun _ => by rw [hsz]; exact e5 i3⟩,
    ⟨E', cfV, kV, iV, fV, q1.1, gV, stV, by rw [q2.1]; exact knV, by rw [q2.1]; exact obV, by rw [q2.2.1]; exact asV, q3⟩, ⟨E', cfC, kC, iC, fC, q1.1, gC, stC, by rw [q2.1]; exact knV, by rw [q2.1]; exact obV, by rw [q2.2.1]; exact asC, q4⟩,
    ⟨V', ⟨q5.1, State.isArrayOf_alike al'.symm q5.2.1, q5.2.2.1⟩, q6, by rw [← al'.findClass]; exact q7, q8, fun j hj => by have := q9 j hj; rwa [Nat.zero_add] at this⟩, fun O n d w F n1 n2 => ?_⟩, hl, hc, hs⟩, st⟩
  · intro y hy
    simp only [List.mem_cons, List.not_mem_nil, or_false] at hy
    rcases hy with rfl | rfl <;> rfl
  · by_cases q : y = x
    · subst q
      cases hD.symm.trans hy
      exact ⟨E', q1.1, q2.2.1, q2.1, hsz⟩
    · exact ⟨cy, q10 y cy q hy, rfl, rfl, rfl⟩
  · obtain ⟨D3, cf, k, i, f, g1, g2, g3, g4, g5, g6, g7⟩ := F
    cases hD.symm.trans g1
    simp only [RoadKit.slotOf, g2, gV, gC, Option.map_some, Option.getD_some] at n1 n2
    exact ⟨E', cf, k, i, f, q1.1, g2, g3, by rw [q2.1]; exact g4, by rw [q2.1]; exact g5, by rw [q2.2.1]; exact g6, by rw [q2.2.2 f.slot (by simp [n1, n2])]; exact g7⟩
end StrChars.Road
namespace StrChars.Road
open Jvm Sem ClassFile Op Lib Jvm.Stand Jvm.Free Jvm.Free.XT
/-- WHAT COMES BACK, the byte[] as a list of values -/
def QA (Z : State) (x : Addr) (zn : Int32) (cs : List Int32) (h : Heap) (v : Option Value) (h' : Heap) (L : List Loc) : Prop := v = none ∧ (∀ y ∈ L, y.base = x) ∧ RoadKit.Keep h h' [x] ∧ h'.size = h.size + 1 ∧ RoadKit.Exa Z h' x ST ∧ RoadKit.Fld Z h' x ST "value" "[B" (.ref h.size) ∧ RoadKit.Fld Z h' x ST "coder" "B" (.int 0) ∧
  (∃ kb, Z.vm.findClass "[B" = some kb ∧ RoadKit.Arv Z h' h.size kb .byte zn (cs.map fun c => .int (lo8 c)) (.int 0)) ∧
  ∀ (O n d : String) (w : Value), RoadKit.Fld Z h x O n d w → RoadKit.slotOf Z O n d ≠ RoadKit.slotOf Z ST "value" "[B" → RoadKit.slotOf Z O n d ≠ RoadKit.slotOf Z ST "coder" "B" → RoadKit.Fld Z h' x O n d w
/-- **new String(chars) AT A CALL, THE ARRAYS AS LISTS**: the char[] at b holds cs, not empty, no char above 255 -/
theorem backArv {p : Program} {l : Launch} {e : Env} {R : Room} {s : State} {args : Array Value} {below : List Frame} {len W : Nat} {Z : State} {a0 : Array Value} {h : Heap} (hZ : Z.Warmed39 s.vm) (hw : ∀ d ∈ words, d.before a0 Z = true) {kI : Nat} (wi : (Jvm.Cond.instantiable ST kI).before a0 Z = true)
    {x b : Addr} {k : ClassId} {zn z : Int32} {cs : List Int32} {dv v0 c0 : Value} (E : RoadKit.Exa Z h x ST) (V : RoadKit.Fld Z h x ST "value" "[B" v0) (C : RoadKit.Fld Z h x ST "coder" "B" c0) (K : RoadKit.Arv Z h b k .char zn (cs.map Value.int) dv) (S : RoadKit.Sta Z h ST "COMPACT_STRINGS" "Z" (.int z)) (hz : ¬ z = 0)
    (hlen : zn.toNatClampNeg = cs.length) (h0 : 0 < cs.length) (hbig : cs.length ≤ 536870912) (hall : ∀ c ∈ cs, ¬ 255 < c) (hfr : 4 ≤ R.frames) (hlo : W + 65 ≤ R.locals) :
    Back l R p e below s args New1.yN len W (fun P a => a = #[.ref x, .ref b] ∧ P.U.heap = h ∧ P.cells + 1 ≤ R.cells ∧ P.slots + cs.length ≤ R.slots)
      (fun P _ v B => ∃ L, QA Z x zn cs h v B.U.heap L ∧ B.locs = P.locs ++ L ∧ B.cells = P.cells + 1 ∧ B.slots = P.slots + cs.length) := by
  obtain ⟨A, K1, K2, K3, K4, K5, K6⟩ := K
  have e : A.slots.size = cs.length := K3.trans hlen
  have hat : ∀ (i : Nat) (hi : i < cs.length), A.slots[i]? = some (.int cs[i]) := fun i hi => by rw [K5 i (by omega)]; simp [List.getD_eq_getElem?_getD, hi]
  have hcv : ∀ (i : Nat) (hi : i < cs.length), cv A i = cs[i] := fun i hi => by unfold cv; rw [hat i hi]
  have hty : Typed .char A := fun i v hv => by
    have hi : i < A.slots.size := (Array.getElem?_eq_some_iff.mp hv).1
    have q := K5 i hi
    rw [hv] at q
    rw [Option.some.inj q]
    exact K6 i hi
  refine Back.mono (back hZ hw wi E V C K1 hty S hz (by omega) (by omega) (fun i hi => by rw [hcv i (by omega)]; exact hall _ (List.getElem_mem _)) hfr hlo) (fun P a hp => ⟨hp.1, hp.2.1, hp.2.2.1, by rw [e]; exact hp.2.2.2⟩) (fun P a v B hp hq => ?_)
  obtain ⟨L, ⟨q1, q2, q3, q4, q5, q6, q7, ⟨V', v1, v2, v3, v4, v5⟩, q9⟩, hl, hc, hs⟩ := hq
  refine ⟨L, ⟨q1, q2, q3, q4, q5, q6, q7, ⟨V'.cls, v3, V', v1, rfl, by rw [v4, e, hlen], K4, fun i hi => ?_, fun i hi => ?_⟩, q9⟩, hl, hc, by rw [hs, e]⟩
  · have hi' : i < cs.length := by omega
    rw [v5 i (by omega), hcv i hi']; simp [List.getD_eq_getElem?_getD, hi']
  · have hi' : i < cs.length := by omega
    simp only [List.getD_eq_getElem?_getD, List.getElem?_map, List.getElem?_eq_getElem hi', Option.map_some, Option.getD_some]
    exact fits_lo8 _
end StrChars.Road
namespace StrChars.Road
open Jvm Sem ClassFile Op Lib Jvm.Stand Jvm.Free Jvm.Free.XT
/-- WHAT COMES BACK, in the writer's own shape -/
def QV (Z : State) (x : Addr) (N : Int32) (bs : List Int32) (h : Heap) (n0 : Nat) (v : Option Value) (h' : Heap) (L : List Loc) : Prop := v = none ∧ RoadKit.Fr n0 L ∧ RoadKit.Keep h h' [x] ∧ RoadKit.Exa Z h' x ST ∧ RoadKit.Fld Z h' x ST "coder" "B" (.int 0) ∧
  ∃ (t : Addr) (kb : ClassId), n0 ≤ t ∧ h.size ≤ t ∧ ¬ t = x ∧ RoadKit.Fld Z h' x ST "value" "[B" (.ref t) ∧ RoadKit.Arv Z h' t kb .byte N (bs.map Value.int) (.int 0)
/-- **new String(chars) AT A CALL, FOR THE WRITER**: a char[] of n known ints, each 0 to 255 -/
theorem backV {p : Program} {l : Launch} {e : Env} {R : Room} {s : State} {args : Array Value} {below : List Frame} {len W : Nat} {Z : State} {a0 : Array Value} {h : Heap} (hZ : Z.Warmed39 s.vm) (hw : ∀ d ∈ words, d.before a0 Z = true) {kI : Nat} (wi : (Jvm.Cond.instantiable ST kI).before a0 Z = true)
    {x b : Addr} {kC : ClassId} {cs bs : List Int32} {d v0 c0 : Value} {z N : Int32} {n n0 : Nat} (hx0 : n0 ≤ x) (hh0 : n0 ≤ h.size) (E : RoadKit.Exa Z h x ST) (V : RoadKit.Fld Z h x ST "value" "[B" v0) (C : RoadKit.Fld Z h x ST "coder" "B" c0) (K : RoadKit.Arv Z h b kC .char N (cs.map Value.int) d) (S : RoadKit.Sta Z h ST "COMPACT_STRINGS" "Z" (.int z)) (hz : ¬ z = 0)
    (hn : cs.length = n) (hN : N = Int32.ofNat n) (l0 : 0 < n) (l2 : n ≤ 4000) (hp : ∀ c ∈ cs, ¬ c < 0 ∧ ¬ (255 : Int32) < c) (hb : bs = cs.map (fun c => c.toInt8.toInt32)) (hfr : 4 ≤ R.frames) (hlo : W + 65 ≤ R.locals) :
    Back l R p e below s args (⟨"java/lang/String", "<init>", "([C)V"⟩ : MethodName) len W (fun P a => a = #[.ref x, .ref b] ∧ P.U.heap = h ∧ P.cells + 1 ≤ R.cells ∧ P.slots + n ≤ R.slots)
      (fun P _ v B => ∃ L, QV Z x N bs h n0 v B.U.heap L ∧ B.locs = P.locs ++ L ∧ B.cells = P.cells + 1 ∧ B.slots = P.slots + n) := by
  subst hn hN hb
  refine Back.mono (backArv hZ hw wi E V C K S hz (n32 (by omega)) l0 (by omega) (fun c hc => (hp c hc).2) hfr hlo) (fun P a hp => hp) (fun P a v B hp hq => ?_)
  obtain ⟨L, ⟨q1, q2, q3, q4, q5, q6, q7, ⟨kb, v1, v2⟩, q9⟩, hl, hc, hs⟩ := hq
  exact ⟨L, ⟨q1, fun y hy => by rw [q2 y hy]; exact hx0, q3, q5, q7, h.size, kb, hh0, Nat.le_refl _, Nat.ne_of_gt E.lt, q6, by rw [List.map_map]; exact v2⟩, hl, hc, hs⟩
end StrChars.Road
end Jvm.Pilot.@@N@@
namespace Jvm.Pilot.@@N@@
open Jvm Jvm.ClassFile Sem Op Lib Jvm.Free Jvm.Stand Jvm.LawKit Jvm.RoadKit Jvm.OwnKit Bundle Jvm.Pilot.@@N@@.Jvm.D
theorem d9_0 : decode jdk_30_method_1_code 0 = .ok (.aload_n 0, 1) := by decide +kernel
theorem d9_1 : decode jdk_30_method_1_code 1 = .ok (.invokespecial 1, 3) := by decide +kernel
theorem d9_4 : decode jdk_30_method_1_code 4 = .ok (.return_, 1) := by decide +kernel
theorem pn_0 : plainName "java/lang/Record" = true := by first | (simp [plainName, overriddenIn]; done) | decide +kernel
theorem ef_rmRec (m : MethodId) (x0 : Addr) : entryFrame m #[(.ref x0)] 1 = mkF m 0 #[.val (.ref x0)] [] := by first | (simp [entryFrame, mkF, argsToLocals, Value.category]; done) | rfl
def QRec (Z : State) (a1 : Addr) (h0 : Heap) (n0 : Nat) (v : Option Value) (h : Heap) (L : List Loc) : Prop := v = none ∧ Fr n0 L ∧ h = h0
set_option maxRecDepth 65536 in
set_option maxHeartbeats 40000000 in
theorem rmRec (l : Launch) (Z : State) (a0 : Array Value) (hw : ∀ d ∈ tables_1, d.before a0 Z = true) (ws : List Jvm.Cond) (a1 : Addr) (h0 : Heap) (n0 : Nat) (Z0 : n0 ≤ h0.size)  :
    MetFree l (⟨"java/lang/Record", "<init>", "()V"⟩ : MethodName) (head1 (Jvm.Cond.code (⟨"java/lang/Record", "<init>", "()V"⟩ : MethodName) jdk_30_method_1_code 1 none :: ws) ({ frames := 1, cells := 0, slots := 0, locals := 12 } : Room)) (fun a U => a = #[(.ref a1)] ∧ Z.Warmed39 U.vm ∧ U.heap = h0) (fun _ _ _ _ _ => True) (fun _ U o U' => ∃ v L, o = .returned v ∧ QRec Z a1 h0 n0 v U'.heap L ∧ FrameEnd U o U' L ({ frames := 1, cells := 0, slots := 0, locals := 12 } : Room).cells ({ frames := 1, cells := 0, slots := 0, locals := 12 } : Room).slots) := by
  refine MetFree.of_bodySF (plainFor_of_name pn_0) hisR ?_
  intro p e s m args below meth c s₁ Bd hml0 hP hK
  obtain ⟨rfl, hZ, hh⟩ := hP
  have hx := Bd.exec
  have hby := Bd.bytes
  have hml : c.maxLocals = 1 := hml0
  have hown : s.vm.findClass "java/lang/Record" = some m.cls := findClass_of_methodNamed Bd.named
  have hnm := (name_of_methodNamed Bd.named Bd.method).1
  have hlk : meth.locks = false := Bd.notSynchronized
  have hret := Bd.returns
  have X0 : Stand p l e ({ frames := 1, cells := 0, slots := 0, locals := 12 } : Room) s m #[(.ref a1)] below meth c s₁ [] 0 0 := Stand.of_body Bd
  have e0 : s₁.heap = h0 := by rw [← hh, Bd.state]; rfl
  have N0 := Fr.nil n0
  show Go p e below s₁ (entryFrame m #[(.ref a1)] 1) (Fin s (QRec Z a1 h0 n0) ({ frames := 1, cells := 0, slots := 0, locals := 12 } : Room).cells ({ frames := 1, cells := 0, slots := 0, locals := 12 } : Room).slots)
  rw [ef_rmRec]
  show Go p e below s₁ (mkF m 0 #[.val (.ref a1)] []) _
  refine Go.step (fun _ => XS.aloadN X0.here hx rfl (hb hby d9_0) rfl rfl ) ?_
  show Go p e below s₁ (mkF m 1 #[.val (.ref a1)] [(.ref a1)]) _
  obtain ⟨T1, X1, e1, st1⟩ := initO X0 hx hZ hown (hw _ (List.mem_of_getElem? (i := 45) rfl)) (hw _ (List.mem_of_getElem? (i := 16) rfl)) (hw _ (List.mem_of_getElem? (i := 17) rfl)) e0 (g := (mkF m 1 #[.val (.ref a1)] [(.ref a1)])) rfl (by rw [hml]; rfl) rfl (hb hby d9_1) (by decide) (W := 0) (by show 2 * 0 + _ ≤ _; exact Nat.le_of_eq rfl) (by decide)
  refine Go.step st1 ?_
  show Go p e below T1 (mkF m 4 #[.val (.ref a1)] []) _
  refine Go.ret0 X1 hx hret hlk (hb hby d9_4) ?_ (by decide) (by decide)
  exact ⟨rfl, N0, e1⟩
theorem d1_0 : decode method_3_code 0 = .ok (.iconst 2, 1) := by decide +kernel
theorem d1_1 : decode method_3_code 1 = .ok (.newarray .char, 2) := by decide +kernel
theorem d1_3 : decode method_3_code 3 = .ok (.astore_n 1, 1) := by decide +kernel
theorem d1_4 : decode method_3_code 4 = .ok (.aload_n 1, 1) := by decide +kernel
theorem d1_5 : decode method_3_code 5 = .ok (.iconst 0, 1) := by decide +kernel
theorem d1_6 : decode method_3_code 6 = .ok (.iload_n 0, 1) := by decide +kernel
theorem d1_7 : decode method_3_code 7 = .ok (.sipush 255, 3) := by decide +kernel
theorem d1_10 : decode method_3_code 10 = .ok (.iand, 1) := by decide +kernel
theorem d1_11 : decode method_3_code 11 = .ok (.i2c, 1) := by decide +kernel
theorem d1_12 : decode method_3_code 12 = .ok (.castore, 1) := by decide +kernel
theorem d1_13 : decode method_3_code 13 = .ok (.aload_n 1, 1) := by decide +kernel
theorem d1_14 : decode method_3_code 14 = .ok (.iconst 1, 1) := by decide +kernel
theorem d1_15 : decode method_3_code 15 = .ok (.iload_n 0, 1) := by decide +kernel
theorem d1_16 : decode method_3_code 16 = .ok (.bipush 8, 2) := by decide +kernel
theorem d1_18 : decode method_3_code 18 = .ok (.iushr, 1) := by decide +kernel
theorem d1_19 : decode method_3_code 19 = .ok (.sipush 255, 3) := by decide +kernel
theorem d1_22 : decode method_3_code 22 = .ok (.iand, 1) := by decide +kernel
theorem d1_23 : decode method_3_code 23 = .ok (.i2c, 1) := by decide +kernel
theorem d1_24 : decode method_3_code 24 = .ok (.castore, 1) := by decide +kernel
theorem d1_25 : decode method_3_code 25 = .ok (.new 22, 3) := by decide +kernel
theorem d1_28 : decode method_3_code 28 = .ok (.dup, 1) := by decide +kernel
theorem d1_29 : decode method_3_code 29 = .ok (.aload_n 1, 1) := by decide +kernel
theorem d1_30 : decode method_3_code 30 = .ok (.invokespecial 24, 3) := by decide +kernel
theorem d1_33 : decode method_3_code 33 = .ok (.areturn, 1) := by decide +kernel
theorem pn_1 : plainName "org/linkweave/core/TermDefinitionLanguagePinLaw" = true := by first | (simp [plainName, overriddenIn]; done) | decide +kernel
theorem pd_0 : parseMethodDescriptor "([C)V" = some ⟨[(.array .char)], none⟩ := by decide +kernel
theorem ef_rm1 (m : MethodId) (x0 : Int32) : entryFrame m #[(.int x0)] 2 = mkF m 0 #[.val (.int x0), .unset] [] := by first | (simp [entryFrame, mkF, argsToLocals, Value.category]; done) | rfl
def Q1 (Z : State) (p0 : Int32) (G : Int32) (h0 : Heap) (n0 : Nat) (v : Option Value) (h : Heap) (L : List Loc) : Prop := ∃ b, v = some (.ref b) ∧ Fr n0 L ∧ Keep h0 h []
set_option maxRecDepth 65536 in
set_option maxHeartbeats 40000000 in
theorem rm1 (l : Launch) (Z : State) (a0 : Array Value) (hw : ∀ d ∈ tables_1, d.before a0 Z = true) (ws : List Jvm.Cond) (p0 : Int32) (G : Int32) (h0 : Heap) (n0 : Nat) (Z0 : n0 ≤ h0.size) (P3 : ¬ G = (0 : Int32)) (O2 : Sta Z h0 "java/lang/String" "COMPACT_STRINGS" "Z" (.int G)) :
    MetFree l (⟨"org/linkweave/core/TermDefinitionLanguagePinLaw", "str", "(I)Ljava/lang/String;"⟩ : MethodName) (head1 (Jvm.Cond.code (⟨"org/linkweave/core/TermDefinitionLanguagePinLaw", "str", "(I)Ljava/lang/String;"⟩ : MethodName) method_3_code 2 (some (.object "java/lang/String")) :: ws) ({ frames := 5, cells := 3, slots := 8, locals := 80 } : Room)) (fun a U => a = #[(.int p0)] ∧ Z.Warmed39 U.vm ∧ U.heap = h0) (fun _ _ _ _ _ => True) (fun _ U o U' => ∃ v L, o = .returned v ∧ Q1 Z p0 G h0 n0 v U'.heap L ∧ FrameEnd U o U' L ({ frames := 5, cells := 3, slots := 8, locals := 80 } : Room).cells ({ frames := 5, cells := 3, slots := 8, locals := 80 } : Room).slots) := by
  refine MetFree.of_bodySF (plainFor_of_name pn_1) hisR ?_
  intro p e s m args below meth c s₁ Bd hml0 hP hK
  obtain ⟨rfl, hZ, hh⟩ := hP
  have hx := Bd.exec
  have hby := Bd.bytes
  have hml : c.maxLocals = 2 := hml0
  have hown : s.vm.findClass "org/linkweave/core/TermDefinitionLanguagePinLaw" = some m.cls := findClass_of_methodNamed Bd.named
  have hnm := (name_of_methodNamed Bd.named Bd.method).1
  have hlk : meth.locks = false := Bd.notSynchronized
  have hret := Bd.returns
  have X0 : Stand p l e ({ frames := 5, cells := 3, slots := 8, locals := 80 } : Room) s m #[(.int p0)] below meth c s₁ [] 0 0 := Stand.of_body Bd
  have e0 : s₁.heap = h0 := by rw [← hh, Bd.state]; rfl
  have N0 := Fr.nil n0
  show Go p e below s₁ (entryFrame m #[(.int p0)] 2) (Fin s (Q1 Z p0 G h0 n0) ({ frames := 5, cells := 3, slots := 8, locals := 80 } : Room).cells ({ frames := 5, cells := 3, slots := 8, locals := 80 } : Room).slots)
  rw [ef_rm1]
  have hws : ∀ d ∈ StrChars.Road.words, d.before a0 Z = true := fun d hd => hw d ((by decide +kernel : ∀ d ∈ StrChars.Road.words, d ∈ tables_1) d hd)
  show Go p e below s₁ (mkF m 0 #[.val (.int p0), .unset] []) _
  refine Go.step (fun _ => XS.iconst X0.here hx rfl (hb hby d1_0)) ?_
  show Go p e below s₁ (mkF m 1 #[.val (.int p0), .unset] [(.int (2 : Int32))]) _
  obtain ⟨T2, h2, k2, X2, e2, E2, A2, st2⟩ := newP X0 hx hZ (hw _ (List.mem_of_getElem? (i := 4) rfl)) e0 (g := (mkF m 1 #[.val (.int p0), .unset] [(.int (2 : Int32))])) rfl (hb hby d1_1) rfl (by decide) (cap := 2) (by decide) (by decide) (by decide) (by decide)
  obtain ⟨b2, g2⟩ : ∃ z, z = h0.size := ⟨_, rfl⟩
  rw [← g2] at A2 st2
  have g_b2 : n0 ≤ b2 := Nat.le_trans Z0 (Nat.le_of_eq g2.symm)
  have sz_b2 : h0.size ≤ b2 := Nat.le_trans (Keep.refl h0 []).1 (Nat.le_of_eq g2.symm)
  have O2_q2 := O2.ext E2
  have Z2 : n0 ≤ h2.size := Nat.le_trans Z0 E2.1
  have K2 : Keep h0 h2 [] := (Keep.refl h0 []).ext E2
  refine Go.step st2 ?_
  have V_b2 := Arv.new A2 (by decide)
  have V_b2 : Arv Z h2 b2 k2 .char (2 : Int32) [(.int (0 : Int32)), (.int (0 : Int32))] (.int (0 : Int32)) := V_b2.pad (pad_rep [] (.int (0 : Int32)) 2)
  show Go p e below T2 (mkF m 3 #[.val (.int p0), .unset] [(.ref b2)]) _
  refine Go.step (fun _ => XS.astoreN X2.here hx rfl (hb hby d1_3) rfl rfl (l' := #[.val (.int p0), .val (.ref b2)]) rfl) ?_
  show Go p e below T2 (mkF m 4 #[.val (.int p0), .val (.ref b2)] []) _
  refine Go.step (fun _ => XS.aloadN X2.here hx rfl (hb hby d1_4) rfl rfl ) ?_
  show Go p e below T2 (mkF m 5 #[.val (.int p0), .val (.ref b2)] [(.ref b2)]) _
  refine Go.step (fun _ => XS.iconst X2.here hx rfl (hb hby d1_5)) ?_
  show Go p e below T2 (mkF m 6 #[.val (.int p0), .val (.ref b2)] [(.int (0 : Int32)), (.ref b2)]) _
  refine Go.step (fun _ => XS.iloadN X2.here hx rfl (hb hby d1_6) rfl ) ?_
  show Go p e below T2 (mkF m 7 #[.val (.int p0), .val (.ref b2)] [(.int p0), (.int (0 : Int32)), (.ref b2)]) _
  refine Go.step (fun _ => XS.sipush X2.here hx rfl (hb hby d1_7)) ?_
  show Go p e below T2 (mkF m 10 #[.val (.int p0), .val (.ref b2)] [(.int (255 : Int32)), (.int p0), (.int (0 : Int32)), (.ref b2)]) _
  refine Go.step (fun _ => XS.iand X2.here hx rfl (hb hby d1_10) rfl) ?_
  show Go p e below T2 (mkF m 11 #[.val (.int p0), .val (.ref b2)] [(.int (p0 &&& (255 : Int32))), (.int (0 : Int32)), (.ref b2)]) _
  refine Go.step (fun _ => XS.i2c X2.here hx rfl (hb hby d1_11) rfl) ?_
  show Go p e below T2 (mkF m 12 #[.val (.int p0), .val (.ref b2)] [(.int ((p0 &&& (255 : Int32)).toUInt32.toUInt16.toUInt32.toInt32)), (.int (0 : Int32)), (.ref b2)]) _
  obtain ⟨cl3, Ar3, qa3, Sz3, Nz3, Ha3, Ga3⟩ := id V_b2
  have hin3 : ¬ ((0 : Int32) < 0 ∨ cl3.slots.size ≤ ((0 : Int32)).toNatClampNeg) := inb_of Sz3 ⟨by decide, by decide⟩
  obtain ⟨T4, h4, X4, e4, W4, st4⟩ := stC X2 hx hZ e2 Ar3 (j := (0 : Int32)) hin3 (g := (mkF m 12 #[.val (.int p0), .val (.ref b2)] [(.int ((p0 &&& (255 : Int32)).toUInt32.toUInt16.toUInt32.toInt32)), (.int (0 : Int32)), (.ref b2)])) rfl rfl (hb hby d1_12)
  refine Go.step st4 ?_
  have N4 := Fr.snoc X4 N0 g_b2
  have V_b2_q4 := Arv.set Ar3 qa3 Sz3 Nz3 Ha3 Ga3 (fits_nar_char _) W4 0 rfl (Nat.le_of_ble_eq_true rfl)
  have V_b2_q4 : Arv Z h4 b2 k2 .char (2 : Int32) [(.int (nar .char ((p0 &&& (255 : Int32)).toUInt32.toUInt16.toUInt32.toInt32))), (.int (0 : Int32))] (.int (0 : Int32)) := V_b2_q4
  have O2_q4 := O2_q2.wr W4
  have Z4 : n0 ≤ h4.size := by rw [W4.size]; exact Z2
  have K4 : Keep h0 h4 [] := K2.wr W4 (Or.inr sz_b2)
  show Go p e below T4 (mkF m 13 #[.val (.int p0), .val (.ref b2)] []) _
  refine Go.step (fun _ => XS.aloadN X4.here hx rfl (hb hby d1_13) rfl rfl ) ?_
  show Go p e below T4 (mkF m 14 #[.val (.int p0), .val (.ref b2)] [(.ref b2)]) _
  refine Go.step (fun _ => XS.iconst X4.here hx rfl (hb hby d1_14)) ?_
  show Go p e below T4 (mkF m 15 #[.val (.int p0), .val (.ref b2)] [(.int (1 : Int32)), (.ref b2)]) _
  refine Go.step (fun _ => XS.iloadN X4.here hx rfl (hb hby d1_15) rfl ) ?_
  show Go p e below T4 (mkF m 16 #[.val (.int p0), .val (.ref b2)] [(.int p0), (.int (1 : Int32)), (.ref b2)]) _
  refine Go.step (fun _ => XS.bipush X4.here hx rfl (hb hby d1_16)) ?_
  show Go p e below T4 (mkF m 18 #[.val (.int p0), .val (.ref b2)] [(.int (8 : Int32)), (.int p0), (.int (1 : Int32)), (.ref b2)]) _
  refine Go.step (fun _ => XS.iushr X4.here hx rfl (hb hby d1_18) rfl) ?_
  show Go p e below T4 (mkF m 19 #[.val (.int p0), .val (.ref b2)] [(.int ((p0.toUInt32 >>> ((8 : Int32) &&& 31).toUInt32).toInt32)), (.int (1 : Int32)), (.ref b2)]) _
  refine Go.step (fun _ => XS.sipush X4.here hx rfl (hb hby d1_19)) ?_
  show Go p e below T4 (mkF m 22 #[.val (.int p0), .val (.ref b2)] [(.int (255 : Int32)), (.int ((p0.toUInt32 >>> ((8 : Int32) &&& 31).toUInt32).toInt32)), (.int (1 : Int32)), (.ref b2)]) _
  refine Go.step (fun _ => XS.iand X4.here hx rfl (hb hby d1_22) rfl) ?_
  show Go p e below T4 (mkF m 23 #[.val (.int p0), .val (.ref b2)] [(.int (((p0.toUInt32 >>> ((8 : Int32) &&& 31).toUInt32).toInt32) &&& (255 : Int32))), (.int (1 : Int32)), (.ref b2)]) _
  refine Go.step (fun _ => XS.i2c X4.here hx rfl (hb hby d1_23) rfl) ?_
  show Go p e below T4 (mkF m 24 #[.val (.int p0), .val (.ref b2)] [(.int ((((p0.toUInt32 >>> ((8 : Int32) &&& 31).toUInt32).toInt32) &&& (255 : Int32)).toUInt32.toUInt16.toUInt32.toInt32)), (.int (1 : Int32)), (.ref b2)]) _
  obtain ⟨cl5, Ar5, qa5, Sz5, Nz5, Ha5, Ga5⟩ := id V_b2_q4
  have hin5 : ¬ ((1 : Int32) < 0 ∨ cl5.slots.size ≤ ((1 : Int32)).toNatClampNeg) := inb_of Sz5 ⟨by decide, by decide⟩
  obtain ⟨T6, h6, X6, e6, W6, st6⟩ := stC X4 hx hZ e4 Ar5 (j := (1 : Int32)) hin5 (g := (mkF m 24 #[.val (.int p0), .val (.ref b2)] [(.int ((((p0.toUInt32 >>> ((8 : Int32) &&& 31).toUInt32).toInt32) &&& (255 : Int32)).toUInt32.toUInt16.toUInt32.toInt32)), (.int (1 : Int32)), (.ref b2)])) rfl rfl (hb hby d1_24)
  refine Go.step st6 ?_
  have N6 := Fr.snoc X6 N4 g_b2
  have V_b2_q6 := Arv.set Ar5 qa5 Sz5 Nz5 Ha5 Ga5 (fits_nar_char _) W6 1 rfl (Nat.le_of_ble_eq_true rfl)
  have V_b2_q6 : Arv Z h6 b2 k2 .char (2 : Int32) [(.int (nar .char ((p0 &&& (255 : Int32)).toUInt32.toUInt16.toUInt32.toInt32))), (.int (nar .char ((((p0.toUInt32 >>> ((8 : Int32) &&& 31).toUInt32).toInt32) &&& (255 : Int32)).toUInt32.toUInt16.toUInt32.toInt32)))] (.int (0 : Int32)) := V_b2_q6
  have O2_q6 := O2_q4.wr W6
  have Z6 : n0 ≤ h6.size := by rw [W6.size]; exact Z4
  have K6 : Keep h0 h6 [] := K4.wr W6 (Or.inr sz_b2)
  show Go p e below T6 (mkF m 25 #[.val (.int p0), .val (.ref b2)] []) _
  obtain ⟨T7, h7, X7, e7, E7, A7, D7, -, st7⟩ := newO X6 hx hZ hown (hw _ (List.mem_of_getElem? (i := 5) rfl)) (hw _ (List.mem_of_getElem? (i := 6) rfl)) (hw _ (List.mem_of_getElem? (i := 7) rfl)) e6 (g := (mkF m 25 #[.val (.int p0), .val (.ref b2)] [])) rfl (hb hby d1_25) (by decide) (by decide)
  obtain ⟨b7, g7⟩ : ∃ z, z = h6.size := ⟨_, rfl⟩
  rw [← g7] at A7 D7 st7
  have ne_b2_b7 : b2 ≠ b7 := Nat.ne_of_lt (Nat.lt_of_lt_of_le V_b2_q6.lt (Nat.le_of_eq g7.symm))
  have g_b7 : n0 ≤ b7 := Nat.le_trans Z6 (Nat.le_of_eq g7.symm)
  have sz_b7 : h0.size ≤ b7 := Nat.le_trans K6.1 (Nat.le_of_eq g7.symm)
  have O2_q7 := O2_q6.ext E7
  have V_b2_q7 := V_b2_q6.ext E7
  have Z7 : n0 ≤ h7.size := Nat.le_trans Z6 E7.1
  have K7 : Keep h0 h7 [] := K6.ext E7
  refine Go.step st7 ?_
  have F_coder_b7 : Fld Z h7 b7 "java/lang/String" "coder" "B" (.int (0 : Int32)) := D7 (Or.inr (hw _ (List.mem_of_getElem? (i := 31) rfl))) (ty := .byte) (by decide)
  have F_value_b7 : Fld Z h7 b7 "java/lang/String" "value" "[B" .null := D7 (Or.inr (hw _ (List.mem_of_getElem? (i := 33) rfl))) (ty := (.array .byte)) (by decide)
  show Go p e below T7 (mkF m 28 #[.val (.int p0), .val (.ref b2)] [(.ref b7)]) _
  refine Go.step (fun _ => XS.dup X7.here hx rfl (hb hby d1_28) rfl rfl) ?_
  show Go p e below T7 (mkF m 29 #[.val (.int p0), .val (.ref b2)] [(.ref b7), (.ref b7)]) _
  refine Go.step (fun _ => XS.aloadN X7.here hx rfl (hb hby d1_29) rfl rfl ) ?_
  show Go p e below T7 (mkF m 30 #[.val (.int p0), .val (.ref b2)] [(.ref b2), (.ref b7), (.ref b7)]) _
  obtain ⟨_, _, ⟨T8, L8, k8, n8⟩, -, X8, ⟨Lc8, hQ8, l8, y8, z8⟩, st8⟩ := X7.specialBack hx (y := (⟨"java/lang/String", "<init>", "([C)V"⟩ : MethodName)) rfl hown (mvT hZ (hw _ (List.mem_of_getElem? (i := 8) rfl))) (mvT hZ (hw _ (List.mem_of_getElem? (i := 9) rfl))) (mvT hZ (hw _ (List.mem_of_getElem? (i := 10) rfl))) (by decide) (StrChars.Road.backV (W := 1) hZ hws (kI := 4) (hw _ (List.mem_of_getElem? (i := 6) rfl)) (cs := [(nar .char ((p0 &&& (255 : Int32)).toUInt32.toUInt16.toUInt32.toInt32)), (nar .char ((((p0.toUInt32 >>> ((8 : Int32) &&& 31).toUInt32).toInt32) &&& (255 : Int32)).toUInt32.toUInt16.toUInt32.toInt32))]) (bs := [((nar .char ((p0 &&& (255 : Int32)).toUInt32.toUInt16.toUInt32.toInt32))).toInt8.toInt32, ((nar .char ((((p0.toUInt32 >>> ((8 : Int32) &&& 31).toUInt32).toInt32) &&& (255 : Int32)).toUInt32.toUInt16.toUInt32.toInt32))).toInt8.toInt32]) (n := 2) g_b7 Z7 A7 F_value_b7 F_coder_b7 V_b2_q7 O2_q7 P3 rfl rfl (by decide) (by decide) (own_lat2 _ _) rfl (by decide) (by decide)) (g := (mkF m 30 #[.val (.int p0), .val (.ref b2)] [(.ref b2), (.ref b7), (.ref b7)])) rfl (by rw [hml]; rfl) (Steps.refl _) (a := b7) (argsL := [(.ref b2)]) (rest := [(.ref b7)]) (lenOf pd_0 rfl) rfl (by show 2 * 0 + _ ≤ _; exact Nat.le_of_eq rfl) (hb hby d1_30) (fun _ _ => ⟨rfl, e7, (by decide : 0 + 1 + 1 + 1 ≤ _), (by decide : 0 + 2 + 4 + 2 ≤ _)⟩)
  dsimp only [Pt.U, Pt.locs, Pt.cells, Pt.slots] at X8 l8 y8 z8 st8 hQ8
  subst l8 y8 z8
  obtain ⟨rfl, Nq8, K8, Es8, Cs8, t8, kb8, gt8, st'8, nt8, Fv8, Va8⟩ := hQ8
  have N8 := Fr.app N6 Nq8
  refine Go.call st8 ?_
  have O2_q8 := own_staKeep O2_q7 K8 (allS (own_plainE A7) all0)
  have V_b2_q8 := V_b2_q7.keep K8 (ninS ne_b2_b7 nin0)
  have A7_q8 := A7.keep K8
  have Z8 : n0 ≤ T8.heap.size := Nat.le_trans Z7 K8.1
  have K8 : Keep h0 T8.heap [] := K7.trans K8 (allS (Or.inr sz_b7) all0)
  show Go p e below T8 (mkF m 33 #[.val (.int p0), .val (.ref b2)] [(.ref b7)]) _
  refine Go.retA X8 hx hret rfl rfl hlk (hb hby d1_33) ?_ (by decide) (by decide)
  exact ⟨_, rfl, N8, K8⟩
theorem d8_0 : decode prog_76_method_1_code 0 = .ok (.aload_n 0, 1) := by decide +kernel
theorem d8_1 : decode prog_76_method_1_code 1 = .ok (.invokespecial 1, 3) := by decide +kernel
theorem d8_4 : decode prog_76_method_1_code 4 = .ok (.aload_n 0, 1) := by decide +kernel
theorem d8_5 : decode prog_76_method_1_code 5 = .ok (.aload_n 1, 1) := by decide +kernel
theorem d8_6 : decode prog_76_method_1_code 6 = .ok (.putfield 7, 3) := by decide +kernel
theorem d8_9 : decode prog_76_method_1_code 9 = .ok (.aload_n 0, 1) := by decide +kernel
theorem d8_10 : decode prog_76_method_1_code 10 = .ok (.iload_n 2, 1) := by decide +kernel
theorem d8_11 : decode prog_76_method_1_code 11 = .ok (.putfield 13, 3) := by decide +kernel
theorem d8_14 : decode prog_76_method_1_code 14 = .ok (.aload_n 0, 1) := by decide +kernel
theorem d8_15 : decode prog_76_method_1_code 15 = .ok (.iload_n 3, 1) := by decide +kernel
theorem d8_16 : decode prog_76_method_1_code 16 = .ok (.putfield 17, 3) := by decide +kernel
theorem d8_19 : decode prog_76_method_1_code 19 = .ok (.aload_n 0, 1) := by decide +kernel
theorem d8_20 : decode prog_76_method_1_code 20 = .ok (.aload 4, 2) := by decide +kernel
theorem d8_22 : decode prog_76_method_1_code 22 = .ok (.putfield 20, 3) := by decide +kernel
theorem d8_25 : decode prog_76_method_1_code 25 = .ok (.aload_n 0, 1) := by decide +kernel
theorem d8_26 : decode prog_76_method_1_code 26 = .ok (.aload 5, 2) := by decide +kernel
theorem d8_28 : decode prog_76_method_1_code 28 = .ok (.putfield 23, 3) := by decide +kernel
theorem d8_31 : decode prog_76_method_1_code 31 = .ok (.aload_n 0, 1) := by decide +kernel
theorem d8_32 : decode prog_76_method_1_code 32 = .ok (.iload 6, 2) := by decide +kernel
theorem d8_34 : decode prog_76_method_1_code 34 = .ok (.putfield 27, 3) := by decide +kernel
theorem d8_37 : decode prog_76_method_1_code 37 = .ok (.aload_n 0, 1) := by decide +kernel
theorem d8_38 : decode prog_76_method_1_code 38 = .ok (.aload 7, 2) := by decide +kernel
theorem d8_40 : decode prog_76_method_1_code 40 = .ok (.putfield 30, 3) := by decide +kernel
theorem d8_43 : decode prog_76_method_1_code 43 = .ok (.aload_n 0, 1) := by decide +kernel
theorem d8_44 : decode prog_76_method_1_code 44 = .ok (.iload 8, 2) := by decide +kernel
theorem d8_46 : decode prog_76_method_1_code 46 = .ok (.putfield 33, 3) := by decide +kernel
theorem d8_49 : decode prog_76_method_1_code 49 = .ok (.aload_n 0, 1) := by decide +kernel
theorem d8_50 : decode prog_76_method_1_code 50 = .ok (.aload 9, 2) := by decide +kernel
theorem d8_52 : decode prog_76_method_1_code 52 = .ok (.putfield 36, 3) := by decide +kernel
theorem d8_55 : decode prog_76_method_1_code 55 = .ok (.aload_n 0, 1) := by decide +kernel
theorem d8_56 : decode prog_76_method_1_code 56 = .ok (.aload 10, 2) := by decide +kernel
theorem d8_58 : decode prog_76_method_1_code 58 = .ok (.putfield 39, 3) := by decide +kernel
theorem d8_61 : decode prog_76_method_1_code 61 = .ok (.aload_n 0, 1) := by decide +kernel
theorem d8_62 : decode prog_76_method_1_code 62 = .ok (.aload 11, 2) := by decide +kernel
theorem d8_64 : decode prog_76_method_1_code 64 = .ok (.putfield 42, 3) := by decide +kernel
theorem d8_67 : decode prog_76_method_1_code 67 = .ok (.aload_n 0, 1) := by decide +kernel
theorem d8_68 : decode prog_76_method_1_code 68 = .ok (.aload 12, 2) := by decide +kernel
theorem d8_70 : decode prog_76_method_1_code 70 = .ok (.putfield 46, 3) := by decide +kernel
theorem d8_73 : decode prog_76_method_1_code 73 = .ok (.aload_n 0, 1) := by decide +kernel
theorem d8_74 : decode prog_76_method_1_code 74 = .ok (.iload 13, 2) := by decide +kernel
theorem d8_76 : decode prog_76_method_1_code 76 = .ok (.putfield 49, 3) := by decide +kernel
theorem d8_79 : decode prog_76_method_1_code 79 = .ok (.return_, 1) := by decide +kernel
theorem pn_2 : plainName "org/linkweave/core/TermDefinition" = true := by first | (simp [plainName, overriddenIn]; done) | decide +kernel
theorem pd_1 : parseMethodDescriptor "()V" = some ⟨[], none⟩ := by decide +kernel
theorem ef_rmCt (m : MethodId) (x0 : Addr) (x1 : Addr) (x2 : Int32) (x3 : Int32) (x4 : Addr) (x6 : Int32) (x7 : Value) (x8 : Int32) (x9 : Value) (x10 : Addr) (x12 : Addr) (x13 : Int32) (hx7 : x7.isRef = true) (hx9 : x9.isRef = true) : entryFrame m #[(.ref x0), (.ref x1), (.int x2), (.int x3), (.ref x4), .null, (.int x6), x7, (.int x8), x9, (.ref x10), .null, (.ref x12), (.int x13)] 14 = mkF m 0 #[.val (.ref x0), .val (.ref x1), .val (.int x2), .val (.int x3), .val (.ref x4), .val .null, .val (.int x6), .val x7, .val (.int x8), .val x9, .val (.ref x10), .val .null, .val (.ref x12), .val (.int x13)] [] := by rcases ref_cases hx7 with rfl | ⟨yx7, rfl⟩ <;> rcases ref_cases hx9 with rfl | ⟨yx9, rfl⟩ <;> first | (simp [entryFrame, mkF, argsToLocals, Value.category]; done) | rfl
def QCt (Z : State) (a0_ o1 : Addr) (i2 i3 : Int32) (o4 : Addr) (i6 : Int32) (v7 : Value) (i8 : Int32) (v9 : Value) (o10 o12 : Addr) (i13 : Int32) (h0 : Heap) (n0 : Nat) (v : Option Value) (h : Heap) (L : List Loc) : Prop := v = none ∧ Fr n0 L ∧ Keep h0 h [a0_] ∧ Exa Z h a0_ "org/linkweave/core/TermDefinition" ∧ Fld Z h a0_ "org/linkweave/core/TermDefinition" "hasLanguage" "Z" (.int (nar .boolean i6)) ∧ Fld Z h a0_ "org/linkweave/core/TermDefinition" "language" "Ljava/lang/String;" v7
set_option maxRecDepth 65536 in
set_option maxHeartbeats 40000000 in
theorem rmCt (l : Launch) (Z : State) (a0 : Array Value) (hw : ∀ d ∈ tables_1, d.before a0 Z = true) (ws : List Jvm.Cond) (a0_ o1 : Addr) (i2 i3 : Int32) (o4 : Addr) (i6 : Int32) (v7 : Value) (i8 : Int32) (v9 : Value) (o10 o12 : Addr) (i13 : Int32) (h0 : Heap) (n0 : Nat) (Z0 : n0 ≤ h0.size) (E1 : Exa Z h0 a0_ "org/linkweave/core/TermDefinition") (F_iri : Fld Z h0 a0_ "org/linkweave/core/TermDefinition" "iri" "Ljava/lang/String;" .null) (F_prefix : Fld Z h0 a0_ "org/linkweave/core/TermDefinition" "prefix" "Z" (.int (0 : Int32))) (F_reverse : Fld Z h0 a0_ "org/linkweave/core/TermDefinition" "reverse" "Z" (.int (0 : Int32))) (F_typeMapping : Fld Z h0 a0_ "org/linkweave/core/TermDefinition" "typeMapping" "Ljava/lang/String;" .null) (F_container : Fld Z h0 a0_ "org/linkweave/core/TermDefinition" "container" "Ljava/util/Set;" .null) (F_hasLanguage : Fld Z h0 a0_ "org/linkweave/core/TermDefinition" "hasLanguage" "Z" (.int (0 : Int32))) (F_language : Fld Z h0 a0_ "org/linkweave/core/TermDefinition" "language" "Ljava/lang/String;" .null) (F_hasDirection : Fld Z h0 a0_ "org/linkweave/core/TermDefinition" "hasDirection" "Z" (.int (0 : Int32))) (F_direction : Fld Z h0 a0_ "org/linkweave/core/TermDefinition" "direction" "Ljava/lang/String;" .null) (F_index : Fld Z h0 a0_ "org/linkweave/core/TermDefinition" "index" "Ljava/lang/String;" .null) (F_scopedContext : Fld Z h0 a0_ "org/linkweave/core/TermDefinition" "scopedContext" "Lorg/linkweave/core/TermDefinition$ScopedContext;" .null) (F_nest : Fld Z h0 a0_ "org/linkweave/core/TermDefinition" "nest" "Ljava/lang/String;" .null) (F_protectedTerm : Fld Z h0 a0_ "org/linkweave/core/TermDefinition" "protectedTerm" "Z" (.int (0 : Int32))) (g1 : n0 ≤ a0_) (hv7 : v7.isRef = true) (hv9 : v9.isRef = true) :
    MetFree l (⟨"org/linkweave/core/TermDefinition", "<init>", "(Ljava/lang/String;ZZLjava/lang/String;Ljava/util/Set;ZLjava/lang/String;ZLjava/lang/String;Ljava/lang/String;Lorg/linkweave/core/TermDefinition$ScopedContext;Ljava/lang/String;Z)V"⟩ : MethodName) (head1 (Jvm.Cond.code (⟨"org/linkweave/core/TermDefinition", "<init>", "(Ljava/lang/String;ZZLjava/lang/String;Ljava/util/Set;ZLjava/lang/String;ZLjava/lang/String;Ljava/lang/String;Lorg/linkweave/core/TermDefinition$ScopedContext;Ljava/lang/String;Z)V"⟩ : MethodName) prog_76_method_1_code 14 none :: ws) ({ frames := 2, cells := 0, slots := 0, locals := 24 } : Room)) (fun a U => a = #[(.ref a0_), (.ref o1), (.int i2), (.int i3), (.ref o4), .null, (.int i6), v7, (.int i8), v9, (.ref o10), .null, (.ref o12), (.int i13)] ∧ Z.Warmed39 U.vm ∧ U.heap = h0) (fun _ _ _ _ _ => True) (fun _ U o U' => ∃ v L, o = .returned v ∧ QCt Z a0_ o1 i2 i3 o4 i6 v7 i8 v9 o10 o12 i13 h0 n0 v U'.heap L ∧ FrameEnd U o U' L ({ frames := 2, cells := 0, slots := 0, locals := 24 } : Room).cells ({ frames := 2, cells := 0, slots := 0, locals := 24 } : Room).slots) := by
  refine MetFree.of_bodySF (plainFor_of_name pn_2) hisR ?_
  intro p e s m args below meth c s₁ Bd hml0 hP hK
  obtain ⟨rfl, hZ, hh⟩ := hP
  have hx := Bd.exec
  have hby := Bd.bytes
  have hml : c.maxLocals = 14 := hml0
  have hown : s.vm.findClass "org/linkweave/core/TermDefinition" = some m.cls := findClass_of_methodNamed Bd.named
  have hnm := (name_of_methodNamed Bd.named Bd.method).1
  have hlk : meth.locks = false := Bd.notSynchronized
  have hret := Bd.returns
  have X0 : Stand p l e ({ frames := 2, cells := 0, slots := 0, locals := 24 } : Room) s m #[(.ref a0_), (.ref o1), (.int i2), (.int i3), (.ref o4), .null, (.int i6), v7, (.int i8), v9, (.ref o10), .null, (.ref o12), (.int i13)] below meth c s₁ [] 0 0 := Stand.of_body Bd
  have e0 : s₁.heap = h0 := by rw [← hh, Bd.state]; rfl
  have N0 := Fr.nil n0
  show Go p e below s₁ (entryFrame m #[(.ref a0_), (.ref o1), (.int i2), (.int i3), (.ref o4), .null, (.int i6), v7, (.int i8), v9, (.ref o10), .null, (.ref o12), (.int i13)] 14) (Fin s (QCt Z a0_ o1 i2 i3 o4 i6 v7 i8 v9 o10 o12 i13 h0 n0) ({ frames := 2, cells := 0, slots := 0, locals := 24 } : Room).cells ({ frames := 2, cells := 0, slots := 0, locals := 24 } : Room).slots)
  rw [ef_rmCt _ _ _ _ _ _ _ _ _ _ _ _ _ hv7 hv9]
  show Go p e below s₁ (mkF m 0 #[.val (.ref a0_), .val (.ref o1), .val (.int i2), .val (.int i3), .val (.ref o4), .val .null, .val (.int i6), .val v7, .val (.int i8), .val v9, .val (.ref o10), .val .null, .val (.ref o12), .val (.int i13)] []) _
  refine Go.step (fun _ => XS.aloadN X0.here hx rfl (hb hby d8_0) rfl rfl ) ?_
  show Go p e below s₁ (mkF m 1 #[.val (.ref a0_), .val (.ref o1), .val (.int i2), .val (.int i3), .val (.ref o4), .val .null, .val (.int i6), .val v7, .val (.int i8), .val v9, .val (.ref o10), .val .null, .val (.ref o12), .val (.int i13)] [(.ref a0_)]) _
  obtain ⟨_, _, ⟨T9, L9, k9, n9⟩, -, X9, ⟨Lc9, hQ9, l9, y9, z9⟩, st9⟩ := X0.specialBack hx (y := (⟨"java/lang/Record", "<init>", "()V"⟩ : MethodName)) rfl hown (mvT hZ (hw _ (List.mem_of_getElem? (i := 40) rfl))) (mvT hZ (hw _ (List.mem_of_getElem? (i := 41) rfl))) (mvT hZ (hw _ (List.mem_of_getElem? (i := 44) rfl))) (by decide) (backOf (W := 0) (rmRec l Z a0 hw [] a0_ h0 n0 Z0) hZ (hw _ (List.mem_of_getElem? (i := 44) rfl)) (hw _ (List.mem_of_getElem? (i := 43) rfl)) (by decide) (by decide)) (g := (mkF m 1 #[.val (.ref a0_), .val (.ref o1), .val (.int i2), .val (.int i3), .val (.ref o4), .val .null, .val (.int i6), .val v7, .val (.int i8), .val v9, .val (.ref o10), .val .null, .val (.ref o12), .val (.int i13)] [(.ref a0_)])) rfl (by rw [hml]; rfl) (Steps.refl _) (a := a0_) (argsL := []) (rest := []) (lenOf pd_1 rfl) rfl (by show 2 * 0 + _ ≤ _; exact Nat.le_of_eq rfl) (hb hby d8_1) (fun _ _ => ⟨rfl, e0, (by decide : 0 + 0 ≤ _), (by decide : 0 + 0 ≤ _)⟩)
  dsimp only [Pt.U, Pt.locs, Pt.cells, Pt.slots] at X9 l9 y9 z9 st9 hQ9
  subst l9 y9 z9
  obtain ⟨rfl, Nq9, eh9⟩ := hQ9
  have N9 := Fr.app N0 Nq9
  refine Go.call st9 ?_
  show Go p e below T9 (mkF m 4 #[.val (.ref a0_), .val (.ref o1), .val (.int i2), .val (.int i3), .val (.ref o4), .val .null, .val (.int i6), .val v7, .val (.int i8), .val v9, .val (.ref o10), .val .null, .val (.ref o12), .val (.int i13)] []) _
  refine Go.step (fun _ => XS.aloadN X9.here hx rfl (hb hby d8_4) rfl rfl ) ?_
  show Go p e below T9 (mkF m 5 #[.val (.ref a0_), .val (.ref o1), .val (.int i2), .val (.int i3), .val (.ref o4), .val .null, .val (.int i6), .val v7, .val (.int i8), .val v9, .val (.ref o10), .val .null, .val (.ref o12), .val (.int i13)] [(.ref a0_)]) _
  refine Go.step (fun _ => XS.aloadN X9.here hx rfl (hb hby d8_5) rfl rfl ) ?_
  show Go p e below T9 (mkF m 6 #[.val (.ref a0_), .val (.ref o1), .val (.int i2), .val (.int i3), .val (.ref o4), .val .null, .val (.int i6), .val v7, .val (.int i8), .val v9, .val (.ref o10), .val .null, .val (.ref o12), .val (.int i13)] [(.ref o1), (.ref a0_)]) _
  obtain ⟨T10, h10, X10, e10, W10, st10⟩ := putF X9 hx hZ hown (host := "") (Or.inl (hw _ (List.mem_of_getElem? (i := 46) rfl))) Via.refl eh9 F_iri E1 (Or.inr ⟨(hw _ (List.mem_of_getElem? (i := 47) rfl)), rfl, hnm⟩) (hw _ (List.mem_of_getElem? (i := 35) rfl)) (ty := (.object "java/lang/String")) (by decide) rfl rfl (g := (mkF m 6 #[.val (.ref a0_), .val (.ref o1), .val (.int i2), .val (.int i3), .val (.ref o4), .val .null, .val (.int i6), .val v7, .val (.int i8), .val v9, .val (.ref o10), .val .null, .val (.ref o12), .val (.int i13)] [(.ref o1), (.ref a0_)])) rfl rfl (hb hby d8_6)
  refine Go.step st10 ?_
  have N10 := Fr.snoc X10 N9 g1
  have F_iri_a0__q10 := F_iri.same W10
  have E1_q10 := E1.wr W10
  have F_prefix_q10 := F_prefix.other W10 (Or.inr (slot_ne (Or.inr (hw _ (List.mem_of_getElem? (i := 49) rfl))) (Or.inr (hw _ (List.mem_of_getElem? (i := 47) rfl))) (by decide) (t := .boolean) (t' := (.object "java/lang/String")) (by decide) (by decide)))
  have F_reverse_q10 := F_reverse.other W10 (Or.inr (slot_ne (Or.inr (hw _ (List.mem_of_getElem? (i := 51) rfl))) (Or.inr (hw _ (List.mem_of_getElem? (i := 47) rfl))) (by decide) (t := .boolean) (t' := (.object "java/lang/String")) (by decide) (by decide)))
  have F_typeMapping_q10 := F_typeMapping.other W10 (Or.inr (slot_ne (Or.inr (hw _ (List.mem_of_getElem? (i := 53) rfl))) (Or.inr (hw _ (List.mem_of_getElem? (i := 47) rfl))) (by decide) (t := (.object "java/lang/String")) (t' := (.object "java/lang/String")) (by decide) (by decide)))
  have F_container_q10 := F_container.other W10 (Or.inr (slot_ne (Or.inr (hw _ (List.mem_of_getElem? (i := 55) rfl))) (Or.inr (hw _ (List.mem_of_getElem? (i := 47) rfl))) (by decide) (t := (.object "java/util/Set")) (t' := (.object "java/lang/String")) (by decide) (by decide)))
  have F_hasLanguage_q10 := F_hasLanguage.other W10 (Or.inr (slot_ne (Or.inr (hw _ (List.mem_of_getElem? (i := 57) rfl))) (Or.inr (hw _ (List.mem_of_getElem? (i := 47) rfl))) (by decide) (t := .boolean) (t' := (.object "java/lang/String")) (by decide) (by decide)))
  have F_language_q10 := F_language.other W10 (Or.inr (slot_ne (Or.inr (hw _ (List.mem_of_getElem? (i := 59) rfl))) (Or.inr (hw _ (List.mem_of_getElem? (i := 47) rfl))) (by decide) (t := (.object "java/lang/String")) (t' := (.object "java/lang/String")) (by decide) (by decide)))
  have F_hasDirection_q10 := F_hasDirection.other W10 (Or.inr (slot_ne (Or.inr (hw _ (List.mem_of_getElem? (i := 61) rfl))) (Or.inr (hw _ (List.mem_of_getElem? (i := 47) rfl))) (by decide) (t := .boolean) (t' := (.object "java/lang/String")) (by decide) (by decide)))
  have F_direction_q10 := F_direction.other W10 (Or.inr (slot_ne (Or.inr (hw _ (List.mem_of_getElem? (i := 63) rfl))) (Or.inr (hw _ (List.mem_of_getElem? (i := 47) rfl))) (by decide) (t := (.object "java/lang/String")) (t' := (.object "java/lang/String")) (by decide) (by decide)))
  have F_index_q10 := F_index.other W10 (Or.inr (slot_ne (Or.inr (hw _ (List.mem_of_getElem? (i := 65) rfl))) (Or.inr (hw _ (List.mem_of_getElem? (i := 47) rfl))) (by decide) (t := (.object "java/lang/String")) (t' := (.object "java/lang/String")) (by decide) (by decide)))
  have F_scopedContext_q10 := F_scopedContext.other W10 (Or.inr (slot_ne (Or.inr (hw _ (List.mem_of_getElem? (i := 67) rfl))) (Or.inr (hw _ (List.mem_of_getElem? (i := 47) rfl))) (by decide) (t := (.object "org/linkweave/core/TermDefinition$ScopedContext")) (t' := (.object "java/lang/String")) (by decide) (by decide)))
  have F_nest_q10 := F_nest.other W10 (Or.inr (slot_ne (Or.inr (hw _ (List.mem_of_getElem? (i := 69) rfl))) (Or.inr (hw _ (List.mem_of_getElem? (i := 47) rfl))) (by decide) (t := (.object "java/lang/String")) (t' := (.object "java/lang/String")) (by decide) (by decide)))
  have F_protectedTerm_q10 := F_protectedTerm.other W10 (Or.inr (slot_ne (Or.inr (hw _ (List.mem_of_getElem? (i := 71) rfl))) (Or.inr (hw _ (List.mem_of_getElem? (i := 47) rfl))) (by decide) (t := .boolean) (t' := (.object "java/lang/String")) (by decide) (by decide)))
  have Z10 : n0 ≤ h10.size := by rw [W10.size]; exact Z0
  have K10 : Keep h0 h10 [a0_] := (Keep.refl h0 [a0_]).wr W10 (Or.inl (List.mem_of_getElem? (i := 0) rfl))
  show Go p e below T10 (mkF m 9 #[.val (.ref a0_), .val (.ref o1), .val (.int i2), .val (.int i3), .val (.ref o4), .val .null, .val (.int i6), .val v7, .val (.int i8), .val v9, .val (.ref o10), .val .null, .val (.ref o12), .val (.int i13)] []) _
  refine Go.step (fun _ => XS.aloadN X10.here hx rfl (hb hby d8_9) rfl rfl ) ?_
  show Go p e below T10 (mkF m 10 #[.val (.ref a0_), .val (.ref o1), .val (.int i2), .val (.int i3), .val (.ref o4), .val .null, .val (.int i6), .val v7, .val (.int i8), .val v9, .val (.ref o10), .val .null, .val (.ref o12), .val (.int i13)] [(.ref a0_)]) _
  refine Go.step (fun _ => XS.iloadN X10.here hx rfl (hb hby d8_10) rfl ) ?_
  show Go p e below T10 (mkF m 11 #[.val (.ref a0_), .val (.ref o1), .val (.int i2), .val (.int i3), .val (.ref o4), .val .null, .val (.int i6), .val v7, .val (.int i8), .val v9, .val (.ref o10), .val .null, .val (.ref o12), .val (.int i13)] [(.int i2), (.ref a0_)]) _
  obtain ⟨T11, h11, X11, e11, W11, st11⟩ := putFN X10 hx hZ hown (hw _ (List.mem_of_getElem? (i := 48) rfl)) Via.refl e10 F_prefix_q10 E1_q10 (Or.inr ⟨(hw _ (List.mem_of_getElem? (i := 49) rfl)), rfl, hnm⟩) (hw _ (List.mem_of_getElem? (i := 35) rfl)) (ty := .boolean) (v' := .int (nar .boolean i2)) (by decide) rfl (fits_nar_bool _) (g := (mkF m 11 #[.val (.ref a0_), .val (.ref o1), .val (.int i2), .val (.int i3), .val (.ref o4), .val .null, .val (.int i6), .val v7, .val (.int i8), .val v9, .val (.ref o10), .val .null, .val (.ref o12), .val (.int i13)] [(.int i2), (.ref a0_)])) rfl rfl (hb hby d8_11)
  refine Go.step st11 ?_
  have N11 := Fr.snoc X11 N10 g1
  have F_prefix_a0__q11 := F_prefix_q10.same W11
  have E1_q11 := E1_q10.wr W11
  have F_reverse_q11 := F_reverse_q10.other W11 (Or.inr (slot_ne (Or.inr (hw _ (List.mem_of_getElem? (i := 51) rfl))) (Or.inr (hw _ (List.mem_of_getElem? (i := 49) rfl))) (by decide) (t := .boolean) (t' := .boolean) (by decide) (by decide)))
  have F_typeMapping_q11 := F_typeMapping_q10.other W11 (Or.inr (slot_ne (Or.inr (hw _ (List.mem_of_getElem? (i := 53) rfl))) (Or.inr (hw _ (List.mem_of_getElem? (i := 49) rfl))) (by decide) (t := (.object "java/lang/String")) (t' := .boolean) (by decide) (by decide)))
  have F_container_q11 := F_container_q10.other W11 (Or.inr (slot_ne (Or.inr (hw _ (List.mem_of_getElem? (i := 55) rfl))) (Or.inr (hw _ (List.mem_of_getElem? (i := 49) rfl))) (by decide) (t := (.object "java/util/Set")) (t' := .boolean) (by decide) (by decide)))
  have F_hasLanguage_q11 := F_hasLanguage_q10.other W11 (Or.inr (slot_ne (Or.inr (hw _ (List.mem_of_getElem? (i := 57) rfl))) (Or.inr (hw _ (List.mem_of_getElem? (i := 49) rfl))) (by decide) (t := .boolean) (t' := .boolean) (by decide) (by decide)))
  have F_language_q11 := F_language_q10.other W11 (Or.inr (slot_ne (Or.inr (hw _ (List.mem_of_getElem? (i := 59) rfl))) (Or.inr (hw _ (List.mem_of_getElem? (i := 49) rfl))) (by decide) (t := (.object "java/lang/String")) (t' := .boolean) (by decide) (by decide)))
  have F_hasDirection_q11 := F_hasDirection_q10.other W11 (Or.inr (slot_ne (Or.inr (hw _ (List.mem_of_getElem? (i := 61) rfl))) (Or.inr (hw _ (List.mem_of_getElem? (i := 49) rfl))) (by decide) (t := .boolean) (t' := .boolean) (by decide) (by decide)))
  have F_direction_q11 := F_direction_q10.other W11 (Or.inr (slot_ne (Or.inr (hw _ (List.mem_of_getElem? (i := 63) rfl))) (Or.inr (hw _ (List.mem_of_getElem? (i := 49) rfl))) (by decide) (t := (.object "java/lang/String")) (t' := .boolean) (by decide) (by decide)))
  have F_index_q11 := F_index_q10.other W11 (Or.inr (slot_ne (Or.inr (hw _ (List.mem_of_getElem? (i := 65) rfl))) (Or.inr (hw _ (List.mem_of_getElem? (i := 49) rfl))) (by decide) (t := (.object "java/lang/String")) (t' := .boolean) (by decide) (by decide)))
  have F_scopedContext_q11 := F_scopedContext_q10.other W11 (Or.inr (slot_ne (Or.inr (hw _ (List.mem_of_getElem? (i := 67) rfl))) (Or.inr (hw _ (List.mem_of_getElem? (i := 49) rfl))) (by decide) (t := (.object "org/linkweave/core/TermDefinition$ScopedContext")) (t' := .boolean) (by decide) (by decide)))
  have F_nest_q11 := F_nest_q10.other W11 (Or.inr (slot_ne (Or.inr (hw _ (List.mem_of_getElem? (i := 69) rfl))) (Or.inr (hw _ (List.mem_of_getElem? (i := 49) rfl))) (by decide) (t := (.object "java/lang/String")) (t' := .boolean) (by decide) (by decide)))
  have F_protectedTerm_q11 := F_protectedTerm_q10.other W11 (Or.inr (slot_ne (Or.inr (hw _ (List.mem_of_getElem? (i := 71) rfl))) (Or.inr (hw _ (List.mem_of_getElem? (i := 49) rfl))) (by decide) (t := .boolean) (t' := .boolean) (by decide) (by decide)))
  have F_iri_a0__q11 := F_iri_a0__q10.other W11 (Or.inr (slot_ne (Or.inr (hw _ (List.mem_of_getElem? (i := 47) rfl))) (Or.inr (hw _ (List.mem_of_getElem? (i := 49) rfl))) (by decide) (t := (.object "java/lang/String")) (t' := .boolean) (by decide) (by decide)))
  have Z11 : n0 ≤ h11.size := by rw [W11.size]; exact Z10
  have K11 : Keep h0 h11 [a0_] := K10.wr W11 (Or.inl (List.mem_of_getElem? (i := 0) rfl))
  show Go p e below T11 (mkF m 14 #[.val (.ref a0_), .val (.ref o1), .val (.int i2), .val (.int i3), .val (.ref o4), .val .null, .val (.int i6), .val v7, .val (.int i8), .val v9, .val (.ref o10), .val .null, .val (.ref o12), .val (.int i13)] []) _
  refine Go.step (fun _ => XS.aloadN X11.here hx rfl (hb hby d8_14) rfl rfl ) ?_
  show Go p e below T11 (mkF m 15 #[.val (.ref a0_), .val (.ref o1), .val (.int i2), .val (.int i3), .val (.ref o4), .val .null, .val (.int i6), .val v7, .val (.int i8), .val v9, .val (.ref o10), .val .null, .val (.ref o12), .val (.int i13)] [(.ref a0_)]) _
  refine Go.step (fun _ => XS.iloadN X11.here hx rfl (hb hby d8_15) rfl ) ?_
  show Go p e below T11 (mkF m 16 #[.val (.ref a0_), .val (.ref o1), .val (.int i2), .val (.int i3), .val (.ref o4), .val .null, .val (.int i6), .val v7, .val (.int i8), .val v9, .val (.ref o10), .val .null, .val (.ref o12), .val (.int i13)] [(.int i3), (.ref a0_)]) _
  obtain ⟨T12, h12, X12, e12, W12, st12⟩ := putFN X11 hx hZ hown (hw _ (List.mem_of_getElem? (i := 50) rfl)) Via.refl e11 F_reverse_q11 E1_q11 (Or.inr ⟨(hw _ (List.mem_of_getElem? (i := 51) rfl)), rfl, hnm⟩) (hw _ (List.mem_of_getElem? (i := 35) rfl)) (ty := .boolean) (v' := .int (nar .boolean i3)) (by decide) rfl (fits_nar_bool _) (g := (mkF m 16 #[.val (.ref a0_), .val (.ref o1), .val (.int i2), .val (.int i3), .val (.ref o4), .val .null, .val (.int i6), .val v7, .val (.int i8), .val v9, .val (.ref o10), .val .null, .val (.ref o12), .val (.int i13)] [(.int i3), (.ref a0_)])) rfl rfl (hb hby d8_16)
  refine Go.step st12 ?_
  have N12 := Fr.snoc X12 N11 g1
  have F_reverse_a0__q12 := F_reverse_q11.same W12
  have E1_q12 := E1_q11.wr W12
  have F_typeMapping_q12 := F_typeMapping_q11.other W12 (Or.inr (slot_ne (Or.inr (hw _ (List.mem_of_getElem? (i := 53) rfl))) (Or.inr (hw _ (List.mem_of_getElem? (i := 51) rfl))) (by decide) (t := (.object "java/lang/String")) (t' := .boolean) (by decide) (by decide)))
  have F_container_q12 := F_container_q11.other W12 (Or.inr (slot_ne (Or.inr (hw _ (List.mem_of_getElem? (i := 55) rfl))) (Or.inr (hw _ (List.mem_of_getElem? (i := 51) rfl))) (by decide) (t := (.object "java/util/Set")) (t' := .boolean) (by decide) (by decide)))
  have F_hasLanguage_q12 := F_hasLanguage_q11.other W12 (Or.inr (slot_ne (Or.inr (hw _ (List.mem_of_getElem? (i := 57) rfl))) (Or.inr (hw _ (List.mem_of_getElem? (i := 51) rfl))) (by decide) (t := .boolean) (t' := .boolean) (by decide) (by decide)))
  have F_language_q12 := F_language_q11.other W12 (Or.inr (slot_ne (Or.inr (hw _ (List.mem_of_getElem? (i := 59) rfl))) (Or.inr (hw _ (List.mem_of_getElem? (i := 51) rfl))) (by decide) (t := (.object "java/lang/String")) (t' := .boolean) (by decide) (by decide)))
  have F_hasDirection_q12 := F_hasDirection_q11.other W12 (Or.inr (slot_ne (Or.inr (hw _ (List.mem_of_getElem? (i := 61) rfl))) (Or.inr (hw _ (List.mem_of_getElem? (i := 51) rfl))) (by decide) (t := .boolean) (t' := .boolean) (by decide) (by decide)))
  have F_direction_q12 := F_direction_q11.other W12 (Or.inr (slot_ne (Or.inr (hw _ (List.mem_of_getElem? (i := 63) rfl))) (Or.inr (hw _ (List.mem_of_getElem? (i := 51) rfl))) (by decide) (t := (.object "java/lang/String")) (t' := .boolean) (by decide) (by decide)))
  have F_index_q12 := F_index_q11.other W12 (Or.inr (slot_ne (Or.inr (hw _ (List.mem_of_getElem? (i := 65) rfl))) (Or.inr (hw _ (List.mem_of_getElem? (i := 51) rfl))) (by decide) (t := (.object "java/lang/String")) (t' := .boolean) (by decide) (by decide)))
  have F_scopedContext_q12 := F_scopedContext_q11.other W12 (Or.inr (slot_ne (Or.inr (hw _ (List.mem_of_getElem? (i := 67) rfl))) (Or.inr (hw _ (List.mem_of_getElem? (i := 51) rfl))) (by decide) (t := (.object "org/linkweave/core/TermDefinition$ScopedContext")) (t' := .boolean) (by decide) (by decide)))
  have F_nest_q12 := F_nest_q11.other W12 (Or.inr (slot_ne (Or.inr (hw _ (List.mem_of_getElem? (i := 69) rfl))) (Or.inr (hw _ (List.mem_of_getElem? (i := 51) rfl))) (by decide) (t := (.object "java/lang/String")) (t' := .boolean) (by decide) (by decide)))
  have F_protectedTerm_q12 := F_protectedTerm_q11.other W12 (Or.inr (slot_ne (Or.inr (hw _ (List.mem_of_getElem? (i := 71) rfl))) (Or.inr (hw _ (List.mem_of_getElem? (i := 51) rfl))) (by decide) (t := .boolean) (t' := .boolean) (by decide) (by decide)))
  have F_iri_a0__q12 := F_iri_a0__q11.other W12 (Or.inr (slot_ne (Or.inr (hw _ (List.mem_of_getElem? (i := 47) rfl))) (Or.inr (hw _ (List.mem_of_getElem? (i := 51) rfl))) (by decide) (t := (.object "java/lang/String")) (t' := .boolean) (by decide) (by decide)))
  have F_prefix_a0__q12 := F_prefix_a0__q11.other W12 (Or.inr (slot_ne (Or.inr (hw _ (List.mem_of_getElem? (i := 49) rfl))) (Or.inr (hw _ (List.mem_of_getElem? (i := 51) rfl))) (by decide) (t := .boolean) (t' := .boolean) (by decide) (by decide)))
  have Z12 : n0 ≤ h12.size := by rw [W12.size]; exact Z11
  have K12 : Keep h0 h12 [a0_] := K11.wr W12 (Or.inl (List.mem_of_getElem? (i := 0) rfl))
  show Go p e below T12 (mkF m 19 #[.val (.ref a0_), .val (.ref o1), .val (.int i2), .val (.int i3), .val (.ref o4), .val .null, .val (.int i6), .val v7, .val (.int i8), .val v9, .val (.ref o10), .val .null, .val (.ref o12), .val (.int i13)] []) _
  refine Go.step (fun _ => XS.aloadN X12.here hx rfl (hb hby d8_19) rfl rfl ) ?_
  show Go p e below T12 (mkF m 20 #[.val (.ref a0_), .val (.ref o1), .val (.int i2), .val (.int i3), .val (.ref o4), .val .null, .val (.int i6), .val v7, .val (.int i8), .val v9, .val (.ref o10), .val .null, .val (.ref o12), .val (.int i13)] [(.ref a0_)]) _
  refine Go.step (fun _ => XS.aload X12.here hx rfl (hb hby d8_20) rfl rfl ) ?_
  show Go p e below T12 (mkF m 22 #[.val (.ref a0_), .val (.ref o1), .val (.int i2), .val (.int i3), .val (.ref o4), .val .null, .val (.int i6), .val v7, .val (.int i8), .val v9, .val (.ref o10), .val .null, .val (.ref o12), .val (.int i13)] [(.ref o4), (.ref a0_)]) _
  obtain ⟨T13, h13, X13, e13, W13, st13⟩ := putF X12 hx hZ hown (host := "") (Or.inl (hw _ (List.mem_of_getElem? (i := 52) rfl))) Via.refl e12 F_typeMapping_q12 E1_q12 (Or.inr ⟨(hw _ (List.mem_of_getElem? (i := 53) rfl)), rfl, hnm⟩) (hw _ (List.mem_of_getElem? (i := 35) rfl)) (ty := (.object "java/lang/String")) (by decide) rfl rfl (g := (mkF m 22 #[.val (.ref a0_), .val (.ref o1), .val (.int i2), .val (.int i3), .val (.ref o4), .val .null, .val (.int i6), .val v7, .val (.int i8), .val v9, .val (.ref o10), .val .null, .val (.ref o12), .val (.int i13)] [(.ref o4), (.ref a0_)])) rfl rfl (hb hby d8_22)
  refine Go.step st13 ?_
  have N13 := Fr.snoc X13 N12 g1
  have F_typeMapping_a0__q13 := F_typeMapping_q12.same W13
  have E1_q13 := E1_q12.wr W13
  have F_container_q13 := F_container_q12.other W13 (Or.inr (slot_ne (Or.inr (hw _ (List.mem_of_getElem? (i := 55) rfl))) (Or.inr (hw _ (List.mem_of_getElem? (i := 53) rfl))) (by decide) (t := (.object "java/util/Set")) (t' := (.object "java/lang/String")) (by decide) (by decide)))
  have F_hasLanguage_q13 := F_hasLanguage_q12.other W13 (Or.inr (slot_ne (Or.inr (hw _ (List.mem_of_getElem? (i := 57) rfl))) (Or.inr (hw _ (List.mem_of_getElem? (i := 53) rfl))) (by decide) (t := .boolean) (t' := (.object "java/lang/String")) (by decide) (by decide)))
  have F_language_q13 := F_language_q12.other W13 (Or.inr (slot_ne (Or.inr (hw _ (List.mem_of_getElem? (i := 59) rfl))) (Or.inr (hw _ (List.mem_of_getElem? (i := 53) rfl))) (by decide) (t := (.object "java/lang/String")) (t' := (.object "java/lang/String")) (by decide) (by decide)))
  have F_hasDirection_q13 := F_hasDirection_q12.other W13 (Or.inr (slot_ne (Or.inr (hw _ (List.mem_of_getElem? (i := 61) rfl))) (Or.inr (hw _ (List.mem_of_getElem? (i := 53) rfl))) (by decide) (t := .boolean) (t' := (.object "java/lang/String")) (by decide) (by decide)))
  have F_direction_q13 := F_direction_q12.other W13 (Or.inr (slot_ne (Or.inr (hw _ (List.mem_of_getElem? (i := 63) rfl))) (Or.inr (hw _ (List.mem_of_getElem? (i := 53) rfl))) (by decide) (t := (.object "java/lang/String")) (t' := (.object "java/lang/String")) (by decide) (by decide)))
  have F_index_q13 := F_index_q12.other W13 (Or.inr (slot_ne (Or.inr (hw _ (List.mem_of_getElem? (i := 65) rfl))) (Or.inr (hw _ (List.mem_of_getElem? (i := 53) rfl))) (by decide) (t := (.object "java/lang/String")) (t' := (.object "java/lang/String")) (by decide) (by decide)))
  have F_scopedContext_q13 := F_scopedContext_q12.other W13 (Or.inr (slot_ne (Or.inr (hw _ (List.mem_of_getElem? (i := 67) rfl))) (Or.inr (hw _ (List.mem_of_getElem? (i := 53) rfl))) (by decide) (t := (.object "org/linkweave/core/TermDefinition$ScopedContext")) (t' := (.object "java/lang/String")) (by decide) (by decide)))
  have F_nest_q13 := F_nest_q12.other W13 (Or.inr (slot_ne (Or.inr (hw _ (List.mem_of_getElem? (i := 69) rfl))) (Or.inr (hw _ (List.mem_of_getElem? (i := 53) rfl))) (by decide) (t := (.object "java/lang/String")) (t' := (.object "java/lang/String")) (by decide) (by decide)))
  have F_protectedTerm_q13 := F_protectedTerm_q12.other W13 (Or.inr (slot_ne (Or.inr (hw _ (List.mem_of_getElem? (i := 71) rfl))) (Or.inr (hw _ (List.mem_of_getElem? (i := 53) rfl))) (by decide) (t := .boolean) (t' := (.object "java/lang/String")) (by decide) (by decide)))
  have F_iri_a0__q13 := F_iri_a0__q12.other W13 (Or.inr (slot_ne (Or.inr (hw _ (List.mem_of_getElem? (i := 47) rfl))) (Or.inr (hw _ (List.mem_of_getElem? (i := 53) rfl))) (by decide) (t := (.object "java/lang/String")) (t' := (.object "java/lang/String")) (by decide) (by decide)))
  have F_prefix_a0__q13 := F_prefix_a0__q12.other W13 (Or.inr (slot_ne (Or.inr (hw _ (List.mem_of_getElem? (i := 49) rfl))) (Or.inr (hw _ (List.mem_of_getElem? (i := 53) rfl))) (by decide) (t := .boolean) (t' := (.object "java/lang/String")) (by decide) (by decide)))
  have F_reverse_a0__q13 := F_reverse_a0__q12.other W13 (Or.inr (slot_ne (Or.inr (hw _ (List.mem_of_getElem? (i := 51) rfl))) (Or.inr (hw _ (List.mem_of_getElem? (i := 53) rfl))) (by decide) (t := .boolean) (t' := (.object "java/lang/String")) (by decide) (by decide)))
  have Z13 : n0 ≤ h13.size := by rw [W13.size]; exact Z12
  have K13 : Keep h0 h13 [a0_] := K12.wr W13 (Or.inl (List.mem_of_getElem? (i := 0) rfl))
  show Go p e below T13 (mkF m 25 #[.val (.ref a0_), .val (.ref o1), .val (.int i2), .val (.int i3), .val (.ref o4), .val .null, .val (.int i6), .val v7, .val (.int i8), .val v9, .val (.ref o10), .val .null, .val (.ref o12), .val (.int i13)] []) _
  refine Go.step (fun _ => XS.aloadN X13.here hx rfl (hb hby d8_25) rfl rfl ) ?_
  show Go p e below T13 (mkF m 26 #[.val (.ref a0_), .val (.ref o1), .val (.int i2), .val (.int i3), .val (.ref o4), .val .null, .val (.int i6), .val v7, .val (.int i8), .val v9, .val (.ref o10), .val .null, .val (.ref o12), .val (.int i13)] [(.ref a0_)]) _
  refine Go.step (fun _ => XS.aload X13.here hx rfl (hb hby d8_26) rfl rfl ) ?_
  show Go p e below T13 (mkF m 28 #[.val (.ref a0_), .val (.ref o1), .val (.int i2), .val (.int i3), .val (.ref o4), .val .null, .val (.int i6), .val v7, .val (.int i8), .val v9, .val (.ref o10), .val .null, .val (.ref o12), .val (.int i13)] [.null, (.ref a0_)]) _
  obtain ⟨T14, h14, X14, e14, W14, st14⟩ := putF X13 hx hZ hown (host := "") (Or.inl (hw _ (List.mem_of_getElem? (i := 54) rfl))) Via.refl e13 F_container_q13 E1_q13 (Or.inr ⟨(hw _ (List.mem_of_getElem? (i := 55) rfl)), rfl, hnm⟩) (hw _ (List.mem_of_getElem? (i := 35) rfl)) (ty := (.object "java/util/Set")) (by decide) rfl rfl (g := (mkF m 28 #[.val (.ref a0_), .val (.ref o1), .val (.int i2), .val (.int i3), .val (.ref o4), .val .null, .val (.int i6), .val v7, .val (.int i8), .val v9, .val (.ref o10), .val .null, .val (.ref o12), .val (.int i13)] [.null, (.ref a0_)])) rfl rfl (hb hby d8_28)
  refine Go.step st14 ?_
  have N14 := Fr.snoc X14 N13 g1
  have F_container_a0__q14 := F_container_q13.same W14
  have E1_q14 := E1_q13.wr W14
  have F_hasLanguage_q14 := F_hasLanguage_q13.other W14 (Or.inr (slot_ne (Or.inr (hw _ (List.mem_of_getElem? (i := 57) rfl))) (Or.inr (hw _ (List.mem_of_getElem? (i := 55) rfl))) (by decide) (t := .boolean) (t' := (.object "java/util/Set")) (by decide) (by decide)))
  have F_language_q14 := F_language_q13.other W14 (Or.inr (slot_ne (Or.inr (hw _ (List.mem_of_getElem? (i := 59) rfl))) (Or.inr (hw _ (List.mem_of_getElem? (i := 55) rfl))) (by decide) (t := (.object "java/lang/String")) (t' := (.object "java/util/Set")) (by decide) (by decide)))
  have F_hasDirection_q14 := F_hasDirection_q13.other W14 (Or.inr (slot_ne (Or.inr (hw _ (List.mem_of_getElem? (i := 61) rfl))) (Or.inr (hw _ (List.mem_of_getElem? (i := 55) rfl))) (by decide) (t := .boolean) (t' := (.object "java/util/Set")) (by decide) (by decide)))
  have F_direction_q14 := F_direction_q13.other W14 (Or.inr (slot_ne (Or.inr (hw _ (List.mem_of_getElem? (i := 63) rfl))) (Or.inr (hw _ (List.mem_of_getElem? (i := 55) rfl))) (by decide) (t := (.object "java/lang/String")) (t' := (.object "java/util/Set")) (by decide) (by decide)))
  have F_index_q14 := F_index_q13.other W14 (Or.inr (slot_ne (Or.inr (hw _ (List.mem_of_getElem? (i := 65) rfl))) (Or.inr (hw _ (List.mem_of_getElem? (i := 55) rfl))) (by decide) (t := (.object "java/lang/String")) (t' := (.object "java/util/Set")) (by decide) (by decide)))
  have F_scopedContext_q14 := F_scopedContext_q13.other W14 (Or.inr (slot_ne (Or.inr (hw _ (List.mem_of_getElem? (i := 67) rfl))) (Or.inr (hw _ (List.mem_of_getElem? (i := 55) rfl))) (by decide) (t := (.object "org/linkweave/core/TermDefinition$ScopedContext")) (t' := (.object "java/util/Set")) (by decide) (by decide)))
  have F_nest_q14 := F_nest_q13.other W14 (Or.inr (slot_ne (Or.inr (hw _ (List.mem_of_getElem? (i := 69) rfl))) (Or.inr (hw _ (List.mem_of_getElem? (i := 55) rfl))) (by decide) (t := (.object "java/lang/String")) (t' := (.object "java/util/Set")) (by decide) (by decide)))
  have F_protectedTerm_q14 := F_protectedTerm_q13.other W14 (Or.inr (slot_ne (Or.inr (hw _ (List.mem_of_getElem? (i := 71) rfl))) (Or.inr (hw _ (List.mem_of_getElem? (i := 55) rfl))) (by decide) (t := .boolean) (t' := (.object "java/util/Set")) (by decide) (by decide)))
  have F_iri_a0__q14 := F_iri_a0__q13.other W14 (Or.inr (slot_ne (Or.inr (hw _ (List.mem_of_getElem? (i := 47) rfl))) (Or.inr (hw _ (List.mem_of_getElem? (i := 55) rfl))) (by decide) (t := (.object "java/lang/String")) (t' := (.object "java/util/Set")) (by decide) (by decide)))
  have F_prefix_a0__q14 := F_prefix_a0__q13.other W14 (Or.inr (slot_ne (Or.inr (hw _ (List.mem_of_getElem? (i := 49) rfl))) (Or.inr (hw _ (List.mem_of_getElem? (i := 55) rfl))) (by decide) (t := .boolean) (t' := (.object "java/util/Set")) (by decide) (by decide)))
  have F_reverse_a0__q14 := F_reverse_a0__q13.other W14 (Or.inr (slot_ne (Or.inr (hw _ (List.mem_of_getElem? (i := 51) rfl))) (Or.inr (hw _ (List.mem_of_getElem? (i := 55) rfl))) (by decide) (t := .boolean) (t' := (.object "java/util/Set")) (by decide) (by decide)))
  have F_typeMapping_a0__q14 := F_typeMapping_a0__q13.other W14 (Or.inr (slot_ne (Or.inr (hw _ (List.mem_of_getElem? (i := 53) rfl))) (Or.inr (hw _ (List.mem_of_getElem? (i := 55) rfl))) (by decide) (t := (.object "java/lang/String")) (t' := (.object "java/util/Set")) (by decide) (by decide)))
  have Z14 : n0 ≤ h14.size := by rw [W14.size]; exact Z13
  have K14 : Keep h0 h14 [a0_] := K13.wr W14 (Or.inl (List.mem_of_getElem? (i := 0) rfl))
  show Go p e below T14 (mkF m 31 #[.val (.ref a0_), .val (.ref o1), .val (.int i2), .val (.int i3), .val (.ref o4), .val .null, .val (.int i6), .val v7, .val (.int i8), .val v9, .val (.ref o10), .val .null, .val (.ref o12), .val (.int i13)] []) _
  refine Go.step (fun _ => XS.aloadN X14.here hx rfl (hb hby d8_31) rfl rfl ) ?_
  show Go p e below T14 (mkF m 32 #[.val (.ref a0_), .val (.ref o1), .val (.int i2), .val (.int i3), .val (.ref o4), .val .null, .val (.int i6), .val v7, .val (.int i8), .val v9, .val (.ref o10), .val .null, .val (.ref o12), .val (.int i13)] [(.ref a0_)]) _
  refine Go.step (fun _ => XS.iload X14.here hx rfl (hb hby d8_32) rfl ) ?_
  show Go p e below T14 (mkF m 34 #[.val (.ref a0_), .val (.ref o1), .val (.int i2), .val (.int i3), .val (.ref o4), .val .null, .val (.int i6), .val v7, .val (.int i8), .val v9, .val (.ref o10), .val .null, .val (.ref o12), .val (.int i13)] [(.int i6), (.ref a0_)]) _
  obtain ⟨T15, h15, X15, e15, W15, st15⟩ := putFN X14 hx hZ hown (hw _ (List.mem_of_getElem? (i := 56) rfl)) Via.refl e14 F_hasLanguage_q14 E1_q14 (Or.inr ⟨(hw _ (List.mem_of_getElem? (i := 57) rfl)), rfl, hnm⟩) (hw _ (List.mem_of_getElem? (i := 35) rfl)) (ty := .boolean) (v' := .int (nar .boolean i6)) (by decide) rfl (fits_nar_bool _) (g := (mkF m 34 #[.val (.ref a0_), .val (.ref o1), .val (.int i2), .val (.int i3), .val (.ref o4), .val .null, .val (.int i6), .val v7, .val (.int i8), .val v9, .val (.ref o10), .val .null, .val (.ref o12), .val (.int i13)] [(.int i6), (.ref a0_)])) rfl rfl (hb hby d8_34)
  refine Go.step st15 ?_
  have N15 := Fr.snoc X15 N14 g1
  have F_hasLanguage_a0__q15 := F_hasLanguage_q14.same W15
  have E1_q15 := E1_q14.wr W15
  have F_language_q15 := F_language_q14.other W15 (Or.inr (slot_ne (Or.inr (hw _ (List.mem_of_getElem? (i := 59) rfl))) (Or.inr (hw _ (List.mem_of_getElem? (i := 57) rfl))) (by decide) (t := (.object "java/lang/String")) (t' := .boolean) (by decide) (by decide)))
  have F_hasDirection_q15 := F_hasDirection_q14.other W15 (Or.inr (slot_ne (Or.inr (hw _ (List.mem_of_getElem? (i := 61) rfl))) (Or.inr (hw _ (List.mem_of_getElem? (i := 57) rfl))) (by decide) (t := .boolean) (t' := .boolean) (by decide) (by decide)))
  have F_direction_q15 := F_direction_q14.other W15 (Or.inr (slot_ne (Or.inr (hw _ (List.mem_of_getElem? (i := 63) rfl))) (Or.inr (hw _ (List.mem_of_getElem? (i := 57) rfl))) (by decide) (t := (.object "java/lang/String")) (t' := .boolean) (by decide) (by decide)))
  have F_index_q15 := F_index_q14.other W15 (Or.inr (slot_ne (Or.inr (hw _ (List.mem_of_getElem? (i := 65) rfl))) (Or.inr (hw _ (List.mem_of_getElem? (i := 57) rfl))) (by decide) (t := (.object "java/lang/String")) (t' := .boolean) (by decide) (by decide)))
  have F_scopedContext_q15 := F_scopedContext_q14.other W15 (Or.inr (slot_ne (Or.inr (hw _ (List.mem_of_getElem? (i := 67) rfl))) (Or.inr (hw _ (List.mem_of_getElem? (i := 57) rfl))) (by decide) (t := (.object "org/linkweave/core/TermDefinition$ScopedContext")) (t' := .boolean) (by decide) (by decide)))
  have F_nest_q15 := F_nest_q14.other W15 (Or.inr (slot_ne (Or.inr (hw _ (List.mem_of_getElem? (i := 69) rfl))) (Or.inr (hw _ (List.mem_of_getElem? (i := 57) rfl))) (by decide) (t := (.object "java/lang/String")) (t' := .boolean) (by decide) (by decide)))
  have F_protectedTerm_q15 := F_protectedTerm_q14.other W15 (Or.inr (slot_ne (Or.inr (hw _ (List.mem_of_getElem? (i := 71) rfl))) (Or.inr (hw _ (List.mem_of_getElem? (i := 57) rfl))) (by decide) (t := .boolean) (t' := .boolean) (by decide) (by decide)))
  have F_iri_a0__q15 := F_iri_a0__q14.other W15 (Or.inr (slot_ne (Or.inr (hw _ (List.mem_of_getElem? (i := 47) rfl))) (Or.inr (hw _ (List.mem_of_getElem? (i := 57) rfl))) (by decide) (t := (.object "java/lang/String")) (t' := .boolean) (by decide) (by decide)))
  have F_prefix_a0__q15 := F_prefix_a0__q14.other W15 (Or.inr (slot_ne (Or.inr (hw _ (List.mem_of_getElem? (i := 49) rfl))) (Or.inr (hw _ (List.mem_of_getElem? (i := 57) rfl))) (by decide) (t := .boolean) (t' := .boolean) (by decide) (by decide)))
  have F_reverse_a0__q15 := F_reverse_a0__q14.other W15 (Or.inr (slot_ne (Or.inr (hw _ (List.mem_of_getElem? (i := 51) rfl))) (Or.inr (hw _ (List.mem_of_getElem? (i := 57) rfl))) (by decide) (t := .boolean) (t' := .boolean) (by decide) (by decide)))
  have F_typeMapping_a0__q15 := F_typeMapping_a0__q14.other W15 (Or.inr (slot_ne (Or.inr (hw _ (List.mem_of_getElem? (i := 53) rfl))) (Or.inr (hw _ (List.mem_of_getElem? (i := 57) rfl))) (by decide) (t := (.object "java/lang/String")) (t' := .boolean) (by decide) (by decide)))
  have F_container_a0__q15 := F_container_a0__q14.other W15 (Or.inr (slot_ne (Or.inr (hw _ (List.mem_of_getElem? (i := 55) rfl))) (Or.inr (hw _ (List.mem_of_getElem? (i := 57) rfl))) (by decide) (t := (.object "java/util/Set")) (t' := .boolean) (by decide) (by decide)))
  have Z15 : n0 ≤ h15.size := by rw [W15.size]; exact Z14
  have K15 : Keep h0 h15 [a0_] := K14.wr W15 (Or.inl (List.mem_of_getElem? (i := 0) rfl))
  show Go p e below T15 (mkF m 37 #[.val (.ref a0_), .val (.ref o1), .val (.int i2), .val (.int i3), .val (.ref o4), .val .null, .val (.int i6), .val v7, .val (.int i8), .val v9, .val (.ref o10), .val .null, .val (.ref o12), .val (.int i13)] []) _
  refine Go.step (fun _ => XS.aloadN X15.here hx rfl (hb hby d8_37) rfl rfl ) ?_
  show Go p e below T15 (mkF m 38 #[.val (.ref a0_), .val (.ref o1), .val (.int i2), .val (.int i3), .val (.ref o4), .val .null, .val (.int i6), .val v7, .val (.int i8), .val v9, .val (.ref o10), .val .null, .val (.ref o12), .val (.int i13)] [(.ref a0_)]) _
  refine Go.step (fun _ => XS.aload X15.here hx rfl (hb hby d8_38) rfl hv7 ) ?_
  show Go p e below T15 (mkF m 40 #[.val (.ref a0_), .val (.ref o1), .val (.int i2), .val (.int i3), .val (.ref o4), .val .null, .val (.int i6), .val v7, .val (.int i8), .val v9, .val (.ref o10), .val .null, .val (.ref o12), .val (.int i13)] [v7, (.ref a0_)]) _
  obtain ⟨T16, h16, X16, e16, W16, st16⟩ := putF X15 hx hZ hown (host := "") (Or.inl (hw _ (List.mem_of_getElem? (i := 58) rfl))) Via.refl e15 F_language_q15 E1_q15 (Or.inr ⟨(hw _ (List.mem_of_getElem? (i := 59) rfl)), rfl, hnm⟩) (hw _ (List.mem_of_getElem? (i := 35) rfl)) (ty := (.object "java/lang/String")) (by decide) (own_narrowRef rfl hv7) (own_fitsRef rfl hv7) (g := (mkF m 40 #[.val (.ref a0_), .val (.ref o1), .val (.int i2), .val (.int i3), .val (.ref o4), .val .null, .val (.int i6), .val v7, .val (.int i8), .val v9, .val (.ref o10), .val .null, .val (.ref o12), .val (.int i13)] [v7, (.ref a0_)])) rfl rfl (hb hby d8_40)
  refine Go.step st16 ?_
  have N16 := Fr.snoc X16 N15 g1
  have F_language_a0__q16 := F_language_q15.same W16
  have E1_q16 := E1_q15.wr W16
  have F_hasDirection_q16 := F_hasDirection_q15.other W16 (Or.inr (slot_ne (Or.inr (hw _ (List.mem_of_getElem? (i := 61) rfl))) (Or.inr (hw _ (List.mem_of_getElem? (i := 59) rfl))) (by decide) (t := .boolean) (t' := (.object "java/lang/String")) (by decide) (by decide)))
  have F_direction_q16 := F_direction_q15.other W16 (Or.inr (slot_ne (Or.inr (hw _ (List.mem_of_getElem? (i := 63) rfl))) (Or.inr (hw _ (List.mem_of_getElem? (i := 59) rfl))) (by decide) (t := (.object "java/lang/String")) (t' := (.object "java/lang/String")) (by decide) (by decide)))
  have F_index_q16 := F_index_q15.other W16 (Or.inr (slot_ne (Or.inr (hw _ (List.mem_of_getElem? (i := 65) rfl))) (Or.inr (hw _ (List.mem_of_getElem? (i := 59) rfl))) (by decide) (t := (.object "java/lang/String")) (t' := (.object "java/lang/String")) (by decide) (by decide)))
  have F_scopedContext_q16 := F_scopedContext_q15.other W16 (Or.inr (slot_ne (Or.inr (hw _ (List.mem_of_getElem? (i := 67) rfl))) (Or.inr (hw _ (List.mem_of_getElem? (i := 59) rfl))) (by decide) (t := (.object "org/linkweave/core/TermDefinition$ScopedContext")) (t' := (.object "java/lang/String")) (by decide) (by decide)))
  have F_nest_q16 := F_nest_q15.other W16 (Or.inr (slot_ne (Or.inr (hw _ (List.mem_of_getElem? (i := 69) rfl))) (Or.inr (hw _ (List.mem_of_getElem? (i := 59) rfl))) (by decide) (t := (.object "java/lang/String")) (t' := (.object "java/lang/String")) (by decide) (by decide)))
  have F_protectedTerm_q16 := F_protectedTerm_q15.other W16 (Or.inr (slot_ne (Or.inr (hw _ (List.mem_of_getElem? (i := 71) rfl))) (Or.inr (hw _ (List.mem_of_getElem? (i := 59) rfl))) (by decide) (t := .boolean) (t' := (.object "java/lang/String")) (by decide) (by decide)))
  have F_iri_a0__q16 := F_iri_a0__q15.other W16 (Or.inr (slot_ne (Or.inr (hw _ (List.mem_of_getElem? (i := 47) rfl))) (Or.inr (hw _ (List.mem_of_getElem? (i := 59) rfl))) (by decide) (t := (.object "java/lang/String")) (t' := (.object "java/lang/String")) (by decide) (by decide)))
  have F_prefix_a0__q16 := F_prefix_a0__q15.other W16 (Or.inr (slot_ne (Or.inr (hw _ (List.mem_of_getElem? (i := 49) rfl))) (Or.inr (hw _ (List.mem_of_getElem? (i := 59) rfl))) (by decide) (t := .boolean) (t' := (.object "java/lang/String")) (by decide) (by decide)))
  have F_reverse_a0__q16 := F_reverse_a0__q15.other W16 (Or.inr (slot_ne (Or.inr (hw _ (List.mem_of_getElem? (i := 51) rfl))) (Or.inr (hw _ (List.mem_of_getElem? (i := 59) rfl))) (by decide) (t := .boolean) (t' := (.object "java/lang/String")) (by decide) (by decide)))
  have F_typeMapping_a0__q16 := F_typeMapping_a0__q15.other W16 (Or.inr (slot_ne (Or.inr (hw _ (List.mem_of_getElem? (i := 53) rfl))) (Or.inr (hw _ (List.mem_of_getElem? (i := 59) rfl))) (by decide) (t := (.object "java/lang/String")) (t' := (.object "java/lang/String")) (by decide) (by decide)))
  have F_container_a0__q16 := F_container_a0__q15.other W16 (Or.inr (slot_ne (Or.inr (hw _ (List.mem_of_getElem? (i := 55) rfl))) (Or.inr (hw _ (List.mem_of_getElem? (i := 59) rfl))) (by decide) (t := (.object "java/util/Set")) (t' := (.object "java/lang/String")) (by decide) (by decide)))
  have F_hasLanguage_a0__q16 := F_hasLanguage_a0__q15.other W16 (Or.inr (slot_ne (Or.inr (hw _ (List.mem_of_getElem? (i := 57) rfl))) (Or.inr (hw _ (List.mem_of_getElem? (i := 59) rfl))) (by decide) (t := .boolean) (t' := (.object "java/lang/String")) (by decide) (by decide)))
  have Z16 : n0 ≤ h16.size := by rw [W16.size]; exact Z15
  have K16 : Keep h0 h16 [a0_] := K15.wr W16 (Or.inl (List.mem_of_getElem? (i := 0) rfl))
  show Go p e below T16 (mkF m 43 #[.val (.ref a0_), .val (.ref o1), .val (.int i2), .val (.int i3), .val (.ref o4), .val .null, .val (.int i6), .val v7, .val (.int i8), .val v9, .val (.ref o10), .val .null, .val (.ref o12), .val (.int i13)] []) _
  refine Go.step (fun _ => XS.aloadN X16.here hx rfl (hb hby d8_43) rfl rfl ) ?_
  show Go p e below T16 (mkF m 44 #[.val (.ref a0_), .val (.ref o1), .val (.int i2), .val (.int i3), .val (.ref o4), .val .null, .val (.int i6), .val v7, .val (.int i8), .val v9, .val (.ref o10), .val .null, .val (.ref o12), .val (.int i13)] [(.ref a0_)]) _
  refine Go.step (fun _ => XS.iload X16.here hx rfl (hb hby d8_44) rfl ) ?_
  show Go p e below T16 (mkF m 46 #[.val (.ref a0_), .val (.ref o1), .val (.int i2), .val (.int i3), .val (.ref o4), .val .null, .val (.int i6), .val v7, .val (.int i8), .val v9, .val (.ref o10), .val .null, .val (.ref o12), .val (.int i13)] [(.int i8), (.ref a0_)]) _
  obtain ⟨T17, h17, X17, e17, W17, st17⟩ := putFN X16 hx hZ hown (hw _ (List.mem_of_getElem? (i := 60) rfl)) Via.refl e16 F_hasDirection_q16 E1_q16 (Or.inr ⟨(hw _ (List.mem_of_getElem? (i := 61) rfl)), rfl, hnm⟩) (hw _ (List.mem_of_getElem? (i := 35) rfl)) (ty := .boolean) (v' := .int (nar .boolean i8)) (by decide) rfl (fits_nar_bool _) (g := (mkF m 46 #[.val (.ref a0_), .val (.ref o1), .val (.int i2), .val (.int i3), .val (.ref o4), .val .null, .val (.int i6), .val v7, .val (.int i8), .val v9, .val (.ref o10), .val .null, .val (.ref o12), .val (.int i13)] [(.int i8), (.ref a0_)])) rfl rfl (hb hby d8_46)
  refine Go.step st17 ?_
  have N17 := Fr.snoc X17 N16 g1
  have F_hasDirection_a0__q17 := F_hasDirection_q16.same W17
  have E1_q17 := E1_q16.wr W17
  have F_direction_q17 := F_direction_q16.other W17 (Or.inr (slot_ne (Or.inr (hw _ (List.mem_of_getElem? (i := 63) rfl))) (Or.inr (hw _ (List.mem_of_getElem? (i := 61) rfl))) (by decide) (t := (.object "java/lang/String")) (t' := .boolean) (by decide) (by decide)))
  have F_index_q17 := F_index_q16.other W17 (Or.inr (slot_ne (Or.inr (hw _ (List.mem_of_getElem? (i := 65) rfl))) (Or.inr (hw _ (List.mem_of_getElem? (i := 61) rfl))) (by decide) (t := (.object "java/lang/String")) (t' := .boolean) (by decide) (by decide)))
  have F_scopedContext_q17 := F_scopedContext_q16.other W17 (Or.inr (slot_ne (Or.inr (hw _ (List.mem_of_getElem? (i := 67) rfl))) (Or.inr (hw _ (List.mem_of_getElem? (i := 61) rfl))) (by decide) (t := (.object "org/linkweave/core/TermDefinition$ScopedContext")) (t' := .boolean) (by decide) (by decide)))
  have F_nest_q17 := F_nest_q16.other W17 (Or.inr (slot_ne (Or.inr (hw _ (List.mem_of_getElem? (i := 69) rfl))) (Or.inr (hw _ (List.mem_of_getElem? (i := 61) rfl))) (by decide) (t := (.object "java/lang/String")) (t' := .boolean) (by decide) (by decide)))
  have F_protectedTerm_q17 := F_protectedTerm_q16.other W17 (Or.inr (slot_ne (Or.inr (hw _ (List.mem_of_getElem? (i := 71) rfl))) (Or.inr (hw _ (List.mem_of_getElem? (i := 61) rfl))) (by decide) (t := .boolean) (t' := .boolean) (by decide) (by decide)))
  have F_iri_a0__q17 := F_iri_a0__q16.other W17 (Or.inr (slot_ne (Or.inr (hw _ (List.mem_of_getElem? (i := 47) rfl))) (Or.inr (hw _ (List.mem_of_getElem? (i := 61) rfl))) (by decide) (t := (.object "java/lang/String")) (t' := .boolean) (by decide) (by decide)))
  have F_prefix_a0__q17 := F_prefix_a0__q16.other W17 (Or.inr (slot_ne (Or.inr (hw _ (List.mem_of_getElem? (i := 49) rfl))) (Or.inr (hw _ (List.mem_of_getElem? (i := 61) rfl))) (by decide) (t := .boolean) (t' := .boolean) (by decide) (by decide)))
  have F_reverse_a0__q17 := F_reverse_a0__q16.other W17 (Or.inr (slot_ne (Or.inr (hw _ (List.mem_of_getElem? (i := 51) rfl))) (Or.inr (hw _ (List.mem_of_getElem? (i := 61) rfl))) (by decide) (t := .boolean) (t' := .boolean) (by decide) (by decide)))
  have F_typeMapping_a0__q17 := F_typeMapping_a0__q16.other W17 (Or.inr (slot_ne (Or.inr (hw _ (List.mem_of_getElem? (i := 53) rfl))) (Or.inr (hw _ (List.mem_of_getElem? (i := 61) rfl))) (by decide) (t := (.object "java/lang/String")) (t' := .boolean) (by decide) (by decide)))
  have F_container_a0__q17 := F_container_a0__q16.other W17 (Or.inr (slot_ne (Or.inr (hw _ (List.mem_of_getElem? (i := 55) rfl))) (Or.inr (hw _ (List.mem_of_getElem? (i := 61) rfl))) (by decide) (t := (.object "java/util/Set")) (t' := .boolean) (by decide) (by decide)))
  have F_hasLanguage_a0__q17 := F_hasLanguage_a0__q16.other W17 (Or.inr (slot_ne (Or.inr (hw _ (List.mem_of_getElem? (i := 57) rfl))) (Or.inr (hw _ (List.mem_of_getElem? (i := 61) rfl))) (by decide) (t := .boolean) (t' := .boolean) (by decide) (by decide)))
  have F_language_a0__q17 := F_language_a0__q16.other W17 (Or.inr (slot_ne (Or.inr (hw _ (List.mem_of_getElem? (i := 59) rfl))) (Or.inr (hw _ (List.mem_of_getElem? (i := 61) rfl))) (by decide) (t := (.object "java/lang/String")) (t' := .boolean) (by decide) (by decide)))
  have Z17 : n0 ≤ h17.size := by rw [W17.size]; exact Z16
  have K17 : Keep h0 h17 [a0_] := K16.wr W17 (Or.inl (List.mem_of_getElem? (i := 0) rfl))
  show Go p e below T17 (mkF m 49 #[.val (.ref a0_), .val (.ref o1), .val (.int i2), .val (.int i3), .val (.ref o4), .val .null, .val (.int i6), .val v7, .val (.int i8), .val v9, .val (.ref o10), .val .null, .val (.ref o12), .val (.int i13)] []) _
  refine Go.step (fun _ => XS.aloadN X17.here hx rfl (hb hby d8_49) rfl rfl ) ?_
  show Go p e below T17 (mkF m 50 #[.val (.ref a0_), .val (.ref o1), .val (.int i2), .val (.int i3), .val (.ref o4), .val .null, .val (.int i6), .val v7, .val (.int i8), .val v9, .val (.ref o10), .val .null, .val (.ref o12), .val (.int i13)] [(.ref a0_)]) _
  refine Go.step (fun _ => XS.aload X17.here hx rfl (hb hby d8_50) rfl hv9 ) ?_
  show Go p e below T17 (mkF m 52 #[.val (.ref a0_), .val (.ref o1), .val (.int i2), .val (.int i3), .val (.ref o4), .val .null, .val (.int i6), .val v7, .val (.int i8), .val v9, .val (.ref o10), .val .null, .val (.ref o12), .val (.int i13)] [v9, (.ref a0_)]) _
  obtain ⟨T18, h18, X18, e18, W18, st18⟩ := putF X17 hx hZ hown (host := "") (Or.inl (hw _ (List.mem_of_getElem? (i := 62) rfl))) Via.refl e17 F_direction_q17 E1_q17 (Or.inr ⟨(hw _ (List.mem_of_getElem? (i := 63) rfl)), rfl, hnm⟩) (hw _ (List.mem_of_getElem? (i := 35) rfl)) (ty := (.object "java/lang/String")) (by decide) (own_narrowRef rfl hv9) (own_fitsRef rfl hv9) (g := (mkF m 52 #[.val (.ref a0_), .val (.ref o1), .val (.int i2), .val (.int i3), .val (.ref o4), .val .null, .val (.int i6), .val v7, .val (.int i8), .val v9, .val (.ref o10), .val .null, .val (.ref o12), .val (.int i13)] [v9, (.ref a0_)])) rfl rfl (hb hby d8_52)
  refine Go.step st18 ?_
  have N18 := Fr.snoc X18 N17 g1
  have F_direction_a0__q18 := F_direction_q17.same W18
  have E1_q18 := E1_q17.wr W18
  have F_index_q18 := F_index_q17.other W18 (Or.inr (slot_ne (Or.inr (hw _ (List.mem_of_getElem? (i := 65) rfl))) (Or.inr (hw _ (List.mem_of_getElem? (i := 63) rfl))) (by decide) (t := (.object "java/lang/String")) (t' := (.object "java/lang/String")) (by decide) (by decide)))
  have F_scopedContext_q18 := F_scopedContext_q17.other W18 (Or.inr (slot_ne (Or.inr (hw _ (List.mem_of_getElem? (i := 67) rfl))) (Or.inr (hw _ (List.mem_of_getElem? (i := 63) rfl))) (by decide) (t := (.object "org/linkweave/core/TermDefinition$ScopedContext")) (t' := (.object "java/lang/String")) (by decide) (by decide)))
  have F_nest_q18 := F_nest_q17.other W18 (Or.inr (slot_ne (Or.inr (hw _ (List.mem_of_getElem? (i := 69) rfl))) (Or.inr (hw _ (List.mem_of_getElem? (i := 63) rfl))) (by decide) (t := (.object "java/lang/String")) (t' := (.object "java/lang/String")) (by decide) (by decide)))
  have F_protectedTerm_q18 := F_protectedTerm_q17.other W18 (Or.inr (slot_ne (Or.inr (hw _ (List.mem_of_getElem? (i := 71) rfl))) (Or.inr (hw _ (List.mem_of_getElem? (i := 63) rfl))) (by decide) (t := .boolean) (t' := (.object "java/lang/String")) (by decide) (by decide)))
  have F_iri_a0__q18 := F_iri_a0__q17.other W18 (Or.inr (slot_ne (Or.inr (hw _ (List.mem_of_getElem? (i := 47) rfl))) (Or.inr (hw _ (List.mem_of_getElem? (i := 63) rfl))) (by decide) (t := (.object "java/lang/String")) (t' := (.object "java/lang/String")) (by decide) (by decide)))
  have F_prefix_a0__q18 := F_prefix_a0__q17.other W18 (Or.inr (slot_ne (Or.inr (hw _ (List.mem_of_getElem? (i := 49) rfl))) (Or.inr (hw _ (List.mem_of_getElem? (i := 63) rfl))) (by decide) (t := .boolean) (t' := (.object "java/lang/String")) (by decide) (by decide)))
  have F_reverse_a0__q18 := F_reverse_a0__q17.other W18 (Or.inr (slot_ne (Or.inr (hw _ (List.mem_of_getElem? (i := 51) rfl))) (Or.inr (hw _ (List.mem_of_getElem? (i := 63) rfl))) (by decide) (t := .boolean) (t' := (.object "java/lang/String")) (by decide) (by decide)))
  have F_typeMapping_a0__q18 := F_typeMapping_a0__q17.other W18 (Or.inr (slot_ne (Or.inr (hw _ (List.mem_of_getElem? (i := 53) rfl))) (Or.inr (hw _ (List.mem_of_getElem? (i := 63) rfl))) (by decide) (t := (.object "java/lang/String")) (t' := (.object "java/lang/String")) (by decide) (by decide)))
  have F_container_a0__q18 := F_container_a0__q17.other W18 (Or.inr (slot_ne (Or.inr (hw _ (List.mem_of_getElem? (i := 55) rfl))) (Or.inr (hw _ (List.mem_of_getElem? (i := 63) rfl))) (by decide) (t := (.object "java/util/Set")) (t' := (.object "java/lang/String")) (by decide) (by decide)))
  have F_hasLanguage_a0__q18 := F_hasLanguage_a0__q17.other W18 (Or.inr (slot_ne (Or.inr (hw _ (List.mem_of_getElem? (i := 57) rfl))) (Or.inr (hw _ (List.mem_of_getElem? (i := 63) rfl))) (by decide) (t := .boolean) (t' := (.object "java/lang/String")) (by decide) (by decide)))
  have F_language_a0__q18 := F_language_a0__q17.other W18 (Or.inr (slot_ne (Or.inr (hw _ (List.mem_of_getElem? (i := 59) rfl))) (Or.inr (hw _ (List.mem_of_getElem? (i := 63) rfl))) (by decide) (t := (.object "java/lang/String")) (t' := (.object "java/lang/String")) (by decide) (by decide)))
  have F_hasDirection_a0__q18 := F_hasDirection_a0__q17.other W18 (Or.inr (slot_ne (Or.inr (hw _ (List.mem_of_getElem? (i := 61) rfl))) (Or.inr (hw _ (List.mem_of_getElem? (i := 63) rfl))) (by decide) (t := .boolean) (t' := (.object "java/lang/String")) (by decide) (by decide)))
  have Z18 : n0 ≤ h18.size := by rw [W18.size]; exact Z17
  have K18 : Keep h0 h18 [a0_] := K17.wr W18 (Or.inl (List.mem_of_getElem? (i := 0) rfl))
  show Go p e below T18 (mkF m 55 #[.val (.ref a0_), .val (.ref o1), .val (.int i2), .val (.int i3), .val (.ref o4), .val .null, .val (.int i6), .val v7, .val (.int i8), .val v9, .val (.ref o10), .val .null, .val (.ref o12), .val (.int i13)] []) _
  refine Go.step (fun _ => XS.aloadN X18.here hx rfl (hb hby d8_55) rfl rfl ) ?_
  show Go p e below T18 (mkF m 56 #[.val (.ref a0_), .val (.ref o1), .val (.int i2), .val (.int i3), .val (.ref o4), .val .null, .val (.int i6), .val v7, .val (.int i8), .val v9, .val (.ref o10), .val .null, .val (.ref o12), .val (.int i13)] [(.ref a0_)]) _
  refine Go.step (fun _ => XS.aload X18.here hx rfl (hb hby d8_56) rfl rfl ) ?_
  show Go p e below T18 (mkF m 58 #[.val (.ref a0_), .val (.ref o1), .val (.int i2), .val (.int i3), .val (.ref o4), .val .null, .val (.int i6), .val v7, .val (.int i8), .val v9, .val (.ref o10), .val .null, .val (.ref o12), .val (.int i13)] [(.ref o10), (.ref a0_)]) _
  obtain ⟨T19, h19, X19, e19, W19, st19⟩ := putF X18 hx hZ hown (host := "") (Or.inl (hw _ (List.mem_of_getElem? (i := 64) rfl))) Via.refl e18 F_index_q18 E1_q18 (Or.inr ⟨(hw _ (List.mem_of_getElem? (i := 65) rfl)), rfl, hnm⟩) (hw _ (List.mem_of_getElem? (i := 35) rfl)) (ty := (.object "java/lang/String")) (by decide) rfl rfl (g := (mkF m 58 #[.val (.ref a0_), .val (.ref o1), .val (.int i2), .val (.int i3), .val (.ref o4), .val .null, .val (.int i6), .val v7, .val (.int i8), .val v9, .val (.ref o10), .val .null, .val (.ref o12), .val (.int i13)] [(.ref o10), (.ref a0_)])) rfl rfl (hb hby d8_58)
  refine Go.step st19 ?_
  have N19 := Fr.snoc X19 N18 g1
  have F_index_a0__q19 := F_index_q18.same W19
  have E1_q19 := E1_q18.wr W19
  have F_scopedContext_q19 := F_scopedContext_q18.other W19 (Or.inr (slot_ne (Or.inr (hw _ (List.mem_of_getElem? (i := 67) rfl))) (Or.inr (hw _ (List.mem_of_getElem? (i := 65) rfl))) (by decide) (t := (.object "org/linkweave/core/TermDefinition$ScopedContext")) (t' := (.object "java/lang/String")) (by decide) (by decide)))
  have F_nest_q19 := F_nest_q18.other W19 (Or.inr (slot_ne (Or.inr (hw _ (List.mem_of_getElem? (i := 69) rfl))) (Or.inr (hw _ (List.mem_of_getElem? (i := 65) rfl))) (by decide) (t := (.object "java/lang/String")) (t' := (.object "java/lang/String")) (by decide) (by decide)))
  have F_protectedTerm_q19 := F_protectedTerm_q18.other W19 (Or.inr (slot_ne (Or.inr (hw _ (List.mem_of_getElem? (i := 71) rfl))) (Or.inr (hw _ (List.mem_of_getElem? (i := 65) rfl))) (by decide) (t := .boolean) (t' := (.object "java/lang/String")) (by decide) (by decide)))
  have F_iri_a0__q19 := F_iri_a0__q18.other W19 (Or.inr (slot_ne (Or.inr (hw _ (List.mem_of_getElem? (i := 47) rfl))) (Or.inr (hw _ (List.mem_of_getElem? (i := 65) rfl))) (by decide) (t := (.object "java/lang/String")) (t' := (.object "java/lang/String")) (by decide) (by decide)))
  have F_prefix_a0__q19 := F_prefix_a0__q18.other W19 (Or.inr (slot_ne (Or.inr (hw _ (List.mem_of_getElem? (i := 49) rfl))) (Or.inr (hw _ (List.mem_of_getElem? (i := 65) rfl))) (by decide) (t := .boolean) (t' := (.object "java/lang/String")) (by decide) (by decide)))
  have F_reverse_a0__q19 := F_reverse_a0__q18.other W19 (Or.inr (slot_ne (Or.inr (hw _ (List.mem_of_getElem? (i := 51) rfl))) (Or.inr (hw _ (List.mem_of_getElem? (i := 65) rfl))) (by decide) (t := .boolean) (t' := (.object "java/lang/String")) (by decide) (by decide)))
  have F_typeMapping_a0__q19 := F_typeMapping_a0__q18.other W19 (Or.inr (slot_ne (Or.inr (hw _ (List.mem_of_getElem? (i := 53) rfl))) (Or.inr (hw _ (List.mem_of_getElem? (i := 65) rfl))) (by decide) (t := (.object "java/lang/String")) (t' := (.object "java/lang/String")) (by decide) (by decide)))
  have F_container_a0__q19 := F_container_a0__q18.other W19 (Or.inr (slot_ne (Or.inr (hw _ (List.mem_of_getElem? (i := 55) rfl))) (Or.inr (hw _ (List.mem_of_getElem? (i := 65) rfl))) (by decide) (t := (.object "java/util/Set")) (t' := (.object "java/lang/String")) (by decide) (by decide)))
  have F_hasLanguage_a0__q19 := F_hasLanguage_a0__q18.other W19 (Or.inr (slot_ne (Or.inr (hw _ (List.mem_of_getElem? (i := 57) rfl))) (Or.inr (hw _ (List.mem_of_getElem? (i := 65) rfl))) (by decide) (t := .boolean) (t' := (.object "java/lang/String")) (by decide) (by decide)))
  have F_language_a0__q19 := F_language_a0__q18.other W19 (Or.inr (slot_ne (Or.inr (hw _ (List.mem_of_getElem? (i := 59) rfl))) (Or.inr (hw _ (List.mem_of_getElem? (i := 65) rfl))) (by decide) (t := (.object "java/lang/String")) (t' := (.object "java/lang/String")) (by decide) (by decide)))
  have F_hasDirection_a0__q19 := F_hasDirection_a0__q18.other W19 (Or.inr (slot_ne (Or.inr (hw _ (List.mem_of_getElem? (i := 61) rfl))) (Or.inr (hw _ (List.mem_of_getElem? (i := 65) rfl))) (by decide) (t := .boolean) (t' := (.object "java/lang/String")) (by decide) (by decide)))
  have F_direction_a0__q19 := F_direction_a0__q18.other W19 (Or.inr (slot_ne (Or.inr (hw _ (List.mem_of_getElem? (i := 63) rfl))) (Or.inr (hw _ (List.mem_of_getElem? (i := 65) rfl))) (by decide) (t := (.object "java/lang/String")) (t' := (.object "java/lang/String")) (by decide) (by decide)))
  have Z19 : n0 ≤ h19.size := by rw [W19.size]; exact Z18
  have K19 : Keep h0 h19 [a0_] := K18.wr W19 (Or.inl (List.mem_of_getElem? (i := 0) rfl))
  show Go p e below T19 (mkF m 61 #[.val (.ref a0_), .val (.ref o1), .val (.int i2), .val (.int i3), .val (.ref o4), .val .null, .val (.int i6), .val v7, .val (.int i8), .val v9, .val (.ref o10), .val .null, .val (.ref o12), .val (.int i13)] []) _
  refine Go.step (fun _ => XS.aloadN X19.here hx rfl (hb hby d8_61) rfl rfl ) ?_
  show Go p e below T19 (mkF m 62 #[.val (.ref a0_), .val (.ref o1), .val (.int i2), .val (.int i3), .val (.ref o4), .val .null, .val (.int i6), .val v7, .val (.int i8), .val v9, .val (.ref o10), .val .null, .val (.ref o12), .val (.int i13)] [(.ref a0_)]) _
  refine Go.step (fun _ => XS.aload X19.here hx rfl (hb hby d8_62) rfl rfl ) ?_
  show Go p e below T19 (mkF m 64 #[.val (.ref a0_), .val (.ref o1), .val (.int i2), .val (.int i3), .val (.ref o4), .val .null, .val (.int i6), .val v7, .val (.int i8), .val v9, .val (.ref o10), .val .null, .val (.ref o12), .val (.int i13)] [.null, (.ref a0_)]) _
  obtain ⟨T20, h20, X20, e20, W20, st20⟩ := putF X19 hx hZ hown (host := "") (Or.inl (hw _ (List.mem_of_getElem? (i := 66) rfl))) Via.refl e19 F_scopedContext_q19 E1_q19 (Or.inr ⟨(hw _ (List.mem_of_getElem? (i := 67) rfl)), rfl, hnm⟩) (hw _ (List.mem_of_getElem? (i := 35) rfl)) (ty := (.object "org/linkweave/core/TermDefinition$ScopedContext")) (by decide) rfl rfl (g := (mkF m 64 #[.val (.ref a0_), .val (.ref o1), .val (.int i2), .val (.int i3), .val (.ref o4), .val .null, .val (.int i6), .val v7, .val (.int i8), .val v9, .val (.ref o10), .val .null, .val (.ref o12), .val (.int i13)] [.null, (.ref a0_)])) rfl rfl (hb hby d8_64)
  refine Go.step st20 ?_
  have N20 := Fr.snoc X20 N19 g1
  have F_scopedContext_a0__q20 := F_scopedContext_q19.same W20
  have E1_q20 := E1_q19.wr W20
  have F_nest_q20 := F_nest_q19.other W20 (Or.inr (slot_ne (Or.inr (hw _ (List.mem_of_getElem? (i := 69) rfl))) (Or.inr (hw _ (List.mem_of_getElem? (i := 67) rfl))) (by decide) (t := (.object "java/lang/String")) (t' := (.object "org/linkweave/core/TermDefinition$ScopedContext")) (by decide) (by decide)))
  have F_protectedTerm_q20 := F_protectedTerm_q19.other W20 (Or.inr (slot_ne (Or.inr (hw _ (List.mem_of_getElem? (i := 71) rfl))) (Or.inr (hw _ (List.mem_of_getElem? (i := 67) rfl))) (by decide) (t := .boolean) (t' := (.object "org/linkweave/core/TermDefinition$ScopedContext")) (by decide) (by decide)))
  have F_iri_a0__q20 := F_iri_a0__q19.other W20 (Or.inr (slot_ne (Or.inr (hw _ (List.mem_of_getElem? (i := 47) rfl))) (Or.inr (hw _ (List.mem_of_getElem? (i := 67) rfl))) (by decide) (t := (.object "java/lang/String")) (t' := (.object "org/linkweave/core/TermDefinition$ScopedContext")) (by decide) (by decide)))
  have F_prefix_a0__q20 := F_prefix_a0__q19.other W20 (Or.inr (slot_ne (Or.inr (hw _ (List.mem_of_getElem? (i := 49) rfl))) (Or.inr (hw _ (List.mem_of_getElem? (i := 67) rfl))) (by decide) (t := .boolean) (t' := (.object "org/linkweave/core/TermDefinition$ScopedContext")) (by decide) (by decide)))
  have F_reverse_a0__q20 := F_reverse_a0__q19.other W20 (Or.inr (slot_ne (Or.inr (hw _ (List.mem_of_getElem? (i := 51) rfl))) (Or.inr (hw _ (List.mem_of_getElem? (i := 67) rfl))) (by decide) (t := .boolean) (t' := (.object "org/linkweave/core/TermDefinition$ScopedContext")) (by decide) (by decide)))
  have F_typeMapping_a0__q20 := F_typeMapping_a0__q19.other W20 (Or.inr (slot_ne (Or.inr (hw _ (List.mem_of_getElem? (i := 53) rfl))) (Or.inr (hw _ (List.mem_of_getElem? (i := 67) rfl))) (by decide) (t := (.object "java/lang/String")) (t' := (.object "org/linkweave/core/TermDefinition$ScopedContext")) (by decide) (by decide)))
  have F_container_a0__q20 := F_container_a0__q19.other W20 (Or.inr (slot_ne (Or.inr (hw _ (List.mem_of_getElem? (i := 55) rfl))) (Or.inr (hw _ (List.mem_of_getElem? (i := 67) rfl))) (by decide) (t := (.object "java/util/Set")) (t' := (.object "org/linkweave/core/TermDefinition$ScopedContext")) (by decide) (by decide)))
  have F_hasLanguage_a0__q20 := F_hasLanguage_a0__q19.other W20 (Or.inr (slot_ne (Or.inr (hw _ (List.mem_of_getElem? (i := 57) rfl))) (Or.inr (hw _ (List.mem_of_getElem? (i := 67) rfl))) (by decide) (t := .boolean) (t' := (.object "org/linkweave/core/TermDefinition$ScopedContext")) (by decide) (by decide)))
  have F_language_a0__q20 := F_language_a0__q19.other W20 (Or.inr (slot_ne (Or.inr (hw _ (List.mem_of_getElem? (i := 59) rfl))) (Or.inr (hw _ (List.mem_of_getElem? (i := 67) rfl))) (by decide) (t := (.object "java/lang/String")) (t' := (.object "org/linkweave/core/TermDefinition$ScopedContext")) (by decide) (by decide)))
  have F_hasDirection_a0__q20 := F_hasDirection_a0__q19.other W20 (Or.inr (slot_ne (Or.inr (hw _ (List.mem_of_getElem? (i := 61) rfl))) (Or.inr (hw _ (List.mem_of_getElem? (i := 67) rfl))) (by decide) (t := .boolean) (t' := (.object "org/linkweave/core/TermDefinition$ScopedContext")) (by decide) (by decide)))
  have F_direction_a0__q20 := F_direction_a0__q19.other W20 (Or.inr (slot_ne (Or.inr (hw _ (List.mem_of_getElem? (i := 63) rfl))) (Or.inr (hw _ (List.mem_of_getElem? (i := 67) rfl))) (by decide) (t := (.object "java/lang/String")) (t' := (.object "org/linkweave/core/TermDefinition$ScopedContext")) (by decide) (by decide)))
  have F_index_a0__q20 := F_index_a0__q19.other W20 (Or.inr (slot_ne (Or.inr (hw _ (List.mem_of_getElem? (i := 65) rfl))) (Or.inr (hw _ (List.mem_of_getElem? (i := 67) rfl))) (by decide) (t := (.object "java/lang/String")) (t' := (.object "org/linkweave/core/TermDefinition$ScopedContext")) (by decide) (by decide)))
  have Z20 : n0 ≤ h20.size := by rw [W20.size]; exact Z19
  have K20 : Keep h0 h20 [a0_] := K19.wr W20 (Or.inl (List.mem_of_getElem? (i := 0) rfl))
  show Go p e below T20 (mkF m 67 #[.val (.ref a0_), .val (.ref o1), .val (.int i2), .val (.int i3), .val (.ref o4), .val .null, .val (.int i6), .val v7, .val (.int i8), .val v9, .val (.ref o10), .val .null, .val (.ref o12), .val (.int i13)] []) _
  refine Go.step (fun _ => XS.aloadN X20.here hx rfl (hb hby d8_67) rfl rfl ) ?_
  show Go p e below T20 (mkF m 68 #[.val (.ref a0_), .val (.ref o1), .val (.int i2), .val (.int i3), .val (.ref o4), .val .null, .val (.int i6), .val v7, .val (.int i8), .val v9, .val (.ref o10), .val .null, .val (.ref o12), .val (.int i13)] [(.ref a0_)]) _
  refine Go.step (fun _ => XS.aload X20.here hx rfl (hb hby d8_68) rfl rfl ) ?_
  show Go p e below T20 (mkF m 70 #[.val (.ref a0_), .val (.ref o1), .val (.int i2), .val (.int i3), .val (.ref o4), .val .null, .val (.int i6), .val v7, .val (.int i8), .val v9, .val (.ref o10), .val .null, .val (.ref o12), .val (.int i13)] [(.ref o12), (.ref a0_)]) _
  obtain ⟨T21, h21, X21, e21, W21, st21⟩ := putF X20 hx hZ hown (host := "") (Or.inl (hw _ (List.mem_of_getElem? (i := 68) rfl))) Via.refl e20 F_nest_q20 E1_q20 (Or.inr ⟨(hw _ (List.mem_of_getElem? (i := 69) rfl)), rfl, hnm⟩) (hw _ (List.mem_of_getElem? (i := 35) rfl)) (ty := (.object "java/lang/String")) (by decide) rfl rfl (g := (mkF m 70 #[.val (.ref a0_), .val (.ref o1), .val (.int i2), .val (.int i3), .val (.ref o4), .val .null, .val (.int i6), .val v7, .val (.int i8), .val v9, .val (.ref o10), .val .null, .val (.ref o12), .val (.int i13)] [(.ref o12), (.ref a0_)])) rfl rfl (hb hby d8_70)
  refine Go.step st21 ?_
  have N21 := Fr.snoc X21 N20 g1
  have F_nest_a0__q21 := F_nest_q20.same W21
  have E1_q21 := E1_q20.wr W21
  have F_protectedTerm_q21 := F_protectedTerm_q20.other W21 (Or.inr (slot_ne (Or.inr (hw _ (List.mem_of_getElem? (i := 71) rfl))) (Or.inr (hw _ (List.mem_of_getElem? (i := 69) rfl))) (by decide) (t := .boolean) (t' := (.object "java/lang/String")) (by decide) (by decide)))
  have F_iri_a0__q21 := F_iri_a0__q20.other W21 (Or.inr (slot_ne (Or.inr (hw _ (List.mem_of_getElem? (i := 47) rfl))) (Or.inr (hw _ (List.mem_of_getElem? (i := 69) rfl))) (by decide) (t := (.object "java/lang/String")) (t' := (.object "java/lang/String")) (by decide) (by decide)))
  have F_prefix_a0__q21 := F_prefix_a0__q20.other W21 (Or.inr (slot_ne (Or.inr (hw _ (List.mem_of_getElem? (i := 49) rfl))) (Or.inr (hw _ (List.mem_of_getElem? (i := 69) rfl))) (by decide) (t := .boolean) (t' := (.object "java/lang/String")) (by decide) (by decide)))
  have F_reverse_a0__q21 := F_reverse_a0__q20.other W21 (Or.inr (slot_ne (Or.inr (hw _ (List.mem_of_getElem? (i := 51) rfl))) (Or.inr (hw _ (List.mem_of_getElem? (i := 69) rfl))) (by decide) (t := .boolean) (t' := (.object "java/lang/String")) (by decide) (by decide)))
  have F_typeMapping_a0__q21 := F_typeMapping_a0__q20.other W21 (Or.inr (slot_ne (Or.inr (hw _ (List.mem_of_getElem? (i := 53) rfl))) (Or.inr (hw _ (List.mem_of_getElem? (i := 69) rfl))) (by decide) (t := (.object "java/lang/String")) (t' := (.object "java/lang/String")) (by decide) (by decide)))
  have F_container_a0__q21 := F_container_a0__q20.other W21 (Or.inr (slot_ne (Or.inr (hw _ (List.mem_of_getElem? (i := 55) rfl))) (Or.inr (hw _ (List.mem_of_getElem? (i := 69) rfl))) (by decide) (t := (.object "java/util/Set")) (t' := (.object "java/lang/String")) (by decide) (by decide)))
  have F_hasLanguage_a0__q21 := F_hasLanguage_a0__q20.other W21 (Or.inr (slot_ne (Or.inr (hw _ (List.mem_of_getElem? (i := 57) rfl))) (Or.inr (hw _ (List.mem_of_getElem? (i := 69) rfl))) (by decide) (t := .boolean) (t' := (.object "java/lang/String")) (by decide) (by decide)))
  have F_language_a0__q21 := F_language_a0__q20.other W21 (Or.inr (slot_ne (Or.inr (hw _ (List.mem_of_getElem? (i := 59) rfl))) (Or.inr (hw _ (List.mem_of_getElem? (i := 69) rfl))) (by decide) (t := (.object "java/lang/String")) (t' := (.object "java/lang/String")) (by decide) (by decide)))
  have F_hasDirection_a0__q21 := F_hasDirection_a0__q20.other W21 (Or.inr (slot_ne (Or.inr (hw _ (List.mem_of_getElem? (i := 61) rfl))) (Or.inr (hw _ (List.mem_of_getElem? (i := 69) rfl))) (by decide) (t := .boolean) (t' := (.object "java/lang/String")) (by decide) (by decide)))
  have F_direction_a0__q21 := F_direction_a0__q20.other W21 (Or.inr (slot_ne (Or.inr (hw _ (List.mem_of_getElem? (i := 63) rfl))) (Or.inr (hw _ (List.mem_of_getElem? (i := 69) rfl))) (by decide) (t := (.object "java/lang/String")) (t' := (.object "java/lang/String")) (by decide) (by decide)))
  have F_index_a0__q21 := F_index_a0__q20.other W21 (Or.inr (slot_ne (Or.inr (hw _ (List.mem_of_getElem? (i := 65) rfl))) (Or.inr (hw _ (List.mem_of_getElem? (i := 69) rfl))) (by decide) (t := (.object "java/lang/String")) (t' := (.object "java/lang/String")) (by decide) (by decide)))
  have F_scopedContext_a0__q21 := F_scopedContext_a0__q20.other W21 (Or.inr (slot_ne (Or.inr (hw _ (List.mem_of_getElem? (i := 67) rfl))) (Or.inr (hw _ (List.mem_of_getElem? (i := 69) rfl))) (by decide) (t := (.object "org/linkweave/core/TermDefinition$ScopedContext")) (t' := (.object "java/lang/String")) (by decide) (by decide)))
  have Z21 : n0 ≤ h21.size := by rw [W21.size]; exact Z20
  have K21 : Keep h0 h21 [a0_] := K20.wr W21 (Or.inl (List.mem_of_getElem? (i := 0) rfl))
  show Go p e below T21 (mkF m 73 #[.val (.ref a0_), .val (.ref o1), .val (.int i2), .val (.int i3), .val (.ref o4), .val .null, .val (.int i6), .val v7, .val (.int i8), .val v9, .val (.ref o10), .val .null, .val (.ref o12), .val (.int i13)] []) _
  refine Go.step (fun _ => XS.aloadN X21.here hx rfl (hb hby d8_73) rfl rfl ) ?_
  show Go p e below T21 (mkF m 74 #[.val (.ref a0_), .val (.ref o1), .val (.int i2), .val (.int i3), .val (.ref o4), .val .null, .val (.int i6), .val v7, .val (.int i8), .val v9, .val (.ref o10), .val .null, .val (.ref o12), .val (.int i13)] [(.ref a0_)]) _
  refine Go.step (fun _ => XS.iload X21.here hx rfl (hb hby d8_74) rfl ) ?_
  show Go p e below T21 (mkF m 76 #[.val (.ref a0_), .val (.ref o1), .val (.int i2), .val (.int i3), .val (.ref o4), .val .null, .val (.int i6), .val v7, .val (.int i8), .val v9, .val (.ref o10), .val .null, .val (.ref o12), .val (.int i13)] [(.int i13), (.ref a0_)]) _
  obtain ⟨T22, h22, X22, e22, W22, st22⟩ := putFN X21 hx hZ hown (hw _ (List.mem_of_getElem? (i := 70) rfl)) Via.refl e21 F_protectedTerm_q21 E1_q21 (Or.inr ⟨(hw _ (List.mem_of_getElem? (i := 71) rfl)), rfl, hnm⟩) (hw _ (List.mem_of_getElem? (i := 35) rfl)) (ty := .boolean) (v' := .int (nar .boolean i13)) (by decide) rfl (fits_nar_bool _) (g := (mkF m 76 #[.val (.ref a0_), .val (.ref o1), .val (.int i2), .val (.int i3), .val (.ref o4), .val .null, .val (.int i6), .val v7, .val (.int i8), .val v9, .val (.ref o10), .val .null, .val (.ref o12), .val (.int i13)] [(.int i13), (.ref a0_)])) rfl rfl (hb hby d8_76)
  refine Go.step st22 ?_
  have N22 := Fr.snoc X22 N21 g1
  have F_protectedTerm_a0__q22 := F_protectedTerm_q21.same W22
  have E1_q22 := E1_q21.wr W22
  have F_iri_a0__q22 := F_iri_a0__q21.other W22 (Or.inr (slot_ne (Or.inr (hw _ (List.mem_of_getElem? (i := 47) rfl))) (Or.inr (hw _ (List.mem_of_getElem? (i := 71) rfl))) (by decide) (t := (.object "java/lang/String")) (t' := .boolean) (by decide) (by decide)))
  have F_prefix_a0__q22 := F_prefix_a0__q21.other W22 (Or.inr (slot_ne (Or.inr (hw _ (List.mem_of_getElem? (i := 49) rfl))) (Or.inr (hw _ (List.mem_of_getElem? (i := 71) rfl))) (by decide) (t := .boolean) (t' := .boolean) (by decide) (by decide)))
  have F_reverse_a0__q22 := F_reverse_a0__q21.other W22 (Or.inr (slot_ne (Or.inr (hw _ (List.mem_of_getElem? (i := 51) rfl))) (Or.inr (hw _ (List.mem_of_getElem? (i := 71) rfl))) (by decide) (t := .boolean) (t' := .boolean) (by decide) (by decide)))
  have F_typeMapping_a0__q22 := F_typeMapping_a0__q21.other W22 (Or.inr (slot_ne (Or.inr (hw _ (List.mem_of_getElem? (i := 53) rfl))) (Or.inr (hw _ (List.mem_of_getElem? (i := 71) rfl))) (by decide) (t := (.object "java/lang/String")) (t' := .boolean) (by decide) (by decide)))
  have F_container_a0__q22 := F_container_a0__q21.other W22 (Or.inr (slot_ne (Or.inr (hw _ (List.mem_of_getElem? (i := 55) rfl))) (Or.inr (hw _ (List.mem_of_getElem? (i := 71) rfl))) (by decide) (t := (.object "java/util/Set")) (t' := .boolean) (by decide) (by decide)))
  have F_hasLanguage_a0__q22 := F_hasLanguage_a0__q21.other W22 (Or.inr (slot_ne (Or.inr (hw _ (List.mem_of_getElem? (i := 57) rfl))) (Or.inr (hw _ (List.mem_of_getElem? (i := 71) rfl))) (by decide) (t := .boolean) (t' := .boolean) (by decide) (by decide)))
  have F_language_a0__q22 := F_language_a0__q21.other W22 (Or.inr (slot_ne (Or.inr (hw _ (List.mem_of_getElem? (i := 59) rfl))) (Or.inr (hw _ (List.mem_of_getElem? (i := 71) rfl))) (by decide) (t := (.object "java/lang/String")) (t' := .boolean) (by decide) (by decide)))
  have F_hasDirection_a0__q22 := F_hasDirection_a0__q21.other W22 (Or.inr (slot_ne (Or.inr (hw _ (List.mem_of_getElem? (i := 61) rfl))) (Or.inr (hw _ (List.mem_of_getElem? (i := 71) rfl))) (by decide) (t := .boolean) (t' := .boolean) (by decide) (by decide)))
  have F_direction_a0__q22 := F_direction_a0__q21.other W22 (Or.inr (slot_ne (Or.inr (hw _ (List.mem_of_getElem? (i := 63) rfl))) (Or.inr (hw _ (List.mem_of_getElem? (i := 71) rfl))) (by decide) (t := (.object "java/lang/String")) (t' := .boolean) (by decide) (by decide)))
  have F_index_a0__q22 := F_index_a0__q21.other W22 (Or.inr (slot_ne (Or.inr (hw _ (List.mem_of_getElem? (i := 65) rfl))) (Or.inr (hw _ (List.mem_of_getElem? (i := 71) rfl))) (by decide) (t := (.object "java/lang/String")) (t' := .boolean) (by decide) (by decide)))
  have F_scopedContext_a0__q22 := F_scopedContext_a0__q21.other W22 (Or.inr (slot_ne (Or.inr (hw _ (List.mem_of_getElem? (i := 67) rfl))) (Or.inr (hw _ (List.mem_of_getElem? (i := 71) rfl))) (by decide) (t := (.object "org/linkweave/core/TermDefinition$ScopedContext")) (t' := .boolean) (by decide) (by decide)))
  have F_nest_a0__q22 := F_nest_a0__q21.other W22 (Or.inr (slot_ne (Or.inr (hw _ (List.mem_of_getElem? (i := 69) rfl))) (Or.inr (hw _ (List.mem_of_getElem? (i := 71) rfl))) (by decide) (t := (.object "java/lang/String")) (t' := .boolean) (by decide) (by decide)))
  have Z22 : n0 ≤ h22.size := by rw [W22.size]; exact Z21
  have K22 : Keep h0 h22 [a0_] := K21.wr W22 (Or.inl (List.mem_of_getElem? (i := 0) rfl))
  show Go p e below T22 (mkF m 79 #[.val (.ref a0_), .val (.ref o1), .val (.int i2), .val (.int i3), .val (.ref o4), .val .null, .val (.int i6), .val v7, .val (.int i8), .val v9, .val (.ref o10), .val .null, .val (.ref o12), .val (.int i13)] []) _
  refine Go.ret0 X22 hx hret hlk (hb hby d8_79) ?_ (by decide) (by decide)
  rw [e22]
  exact ⟨rfl, N22, K22, E1_q22, F_hasLanguage_a0__q22, F_language_a0__q22⟩
theorem d10_0 : decode prog_76_method_3_code 0 = .ok (.aload_n 0, 1) := by decide +kernel
theorem d10_1 : decode prog_76_method_3_code 1 = .ok (.getfield 27, 3) := by decide +kernel
theorem d10_4 : decode prog_76_method_3_code 4 = .ok (.ifCond .eq 10, 3) := by decide +kernel
theorem d10_7 : decode prog_76_method_3_code 7 = .ok (.aload_n 0, 1) := by decide +kernel
theorem d10_8 : decode prog_76_method_3_code 8 = .ok (.getfield 30, 3) := by decide +kernel
theorem d10_11 : decode prog_76_method_3_code 11 = .ok (.goto 4, 3) := by decide +kernel
theorem d10_14 : decode prog_76_method_3_code 14 = .ok (.aload_n 1, 1) := by decide +kernel
theorem d10_15 : decode prog_76_method_3_code 15 = .ok (.areturn, 1) := by decide +kernel
theorem ef_rmLa (m : MethodId) (x0 : Addr) (x1 : Value) (hx1 : x1.isRef = true) : entryFrame m #[(.ref x0), x1] 2 = mkF m 0 #[.val (.ref x0), .val x1] [] := by rcases ref_cases hx1 with rfl | ⟨yx1, rfl⟩ <;> first | (simp [entryFrame, mkF, argsToLocals, Value.category]; done) | rfl
def QLa (Z : State) (a1 : Addr) (vd : Value) (b : Int32) (vl r : Value) (h0 : Heap) (n0 : Nat) (v : Option Value) (h : Heap) (L : List Loc) : Prop := v = some r ∧ Fr n0 L ∧ h = h0
set_option maxRecDepth 65536 in
set_option maxHeartbeats 40000000 in
theorem rmLa (l : Launch) (Z : State) (a0 : Array Value) (hw : ∀ d ∈ tables_1, d.before a0 Z = true) (ws : List Jvm.Cond) (a1 : Addr) (vd : Value) (b : Int32) (vl r : Value) (h0 : Heap) (n0 : Nat) (Z0 : n0 ≤ h0.size) (FB : Fld Z h0 a1 "org/linkweave/core/TermDefinition" "hasLanguage" "Z" (.int b)) (FL : Fld Z h0 a1 "org/linkweave/core/TermDefinition" "language" "Ljava/lang/String;" vl) (hvd : vd.isRef = true) (hvl : vl.isRef = true) (hr : r = if b = 0 then vd else vl) :
    MetFree l (⟨"org/linkweave/core/TermDefinition", "language", "(Ljava/lang/String;)Ljava/lang/String;"⟩ : MethodName) (head1 (Jvm.Cond.code (⟨"org/linkweave/core/TermDefinition", "language", "(Ljava/lang/String;)Ljava/lang/String;"⟩ : MethodName) prog_76_method_3_code 2 (some (.object "java/lang/String")) :: ws) ({ frames := 0, cells := 0, slots := 0, locals := 0 } : Room)) (fun a U => a = #[(.ref a1), vd] ∧ Z.Warmed39 U.vm ∧ U.heap = h0) (fun _ _ _ _ _ => True) (fun _ U o U' => ∃ v L, o = .returned v ∧ QLa Z a1 vd b vl r h0 n0 v U'.heap L ∧ FrameEnd U o U' L ({ frames := 0, cells := 0, slots := 0, locals := 0 } : Room).cells ({ frames := 0, cells := 0, slots := 0, locals := 0 } : Room).slots) := by
  refine MetFree.of_bodySF (plainFor_of_name pn_2) hisR ?_
  intro p e s m args below meth c s₁ Bd hml0 hP hK
  obtain ⟨rfl, hZ, hh⟩ := hP
  have hx := Bd.exec
  have hby := Bd.bytes
  have hml : c.maxLocals = 2 := hml0
  have hown : s.vm.findClass "org/linkweave/core/TermDefinition" = some m.cls := findClass_of_methodNamed Bd.named
  have hnm := (name_of_methodNamed Bd.named Bd.method).1
  have hlk : meth.locks = false := Bd.notSynchronized
  have hret := Bd.returns
  have X0 : Stand p l e ({ frames := 0, cells := 0, slots := 0, locals := 0 } : Room) s m #[(.ref a1), vd] below meth c s₁ [] 0 0 := Stand.of_body Bd
  have e0 : s₁.heap = h0 := by rw [← hh, Bd.state]; rfl
  have N0 := Fr.nil n0
  show Go p e below s₁ (entryFrame m #[(.ref a1), vd] 2) (Fin s (QLa Z a1 vd b vl r h0 n0) ({ frames := 0, cells := 0, slots := 0, locals := 0 } : Room).cells ({ frames := 0, cells := 0, slots := 0, locals := 0 } : Room).slots)
  rw [ef_rmLa _ _ _ hvd]
  show Go p e below s₁ (mkF m 0 #[.val (.ref a1), .val vd] []) _
  refine Go.step (fun _ => XS.aloadN X0.here hx rfl (hb hby d10_0) rfl rfl ) ?_
  show Go p e below s₁ (mkF m 1 #[.val (.ref a1), .val vd] [(.ref a1)]) _
  obtain ⟨T23, X23, e23, st23⟩ := getF X0 hx hZ hown (host := "") (Or.inl (hw _ (List.mem_of_getElem? (i := 56) rfl))) Via.refl e0 FB (g := (mkF m 1 #[.val (.ref a1), .val vd] [(.ref a1)])) rfl rfl (hb hby d10_1)
  refine Go.step st23 ?_
  show Go p e below T23 (mkF m 4 #[.val (.ref a1), .val vd] [(.int b)]) _
  by_cases hc4 : b = (0 : Int32)
  · skip
    refine Go.step (fun _ => XS.ifYes X23.here hx rfl (pc0 := 4) (pc' := 14) rfl (hb hby d10_4) rfl ((if0 _ _).trans (teq hc4).1) (by decide) (by decide)) ?_
    show Go p e below T23 (mkF m 14 #[.val (.ref a1), .val vd] []) _
    refine Go.step (fun _ => XS.aloadN X23.here hx rfl (hb hby d10_14) rfl hvd ) ?_
    show Go p e below T23 (mkF m 15 #[.val (.ref a1), .val vd] [vd]) _
    refine Go.retA X23 hx hret rfl hvd hlk (hb hby d10_15) ?_ (by decide) (by decide)
    exact ⟨by rw [hr, if_pos hc4], N0, e23⟩
  · skip
    refine Go.step (fun _ => XS.ifNo X23.here hx rfl (hb hby d10_4) rfl ((if0 _ _).trans (feq hc4).1)) ?_
    show Go p e below T23 (mkF m 7 #[.val (.ref a1), .val vd] []) _
    refine Go.step (fun _ => XS.aloadN X23.here hx rfl (hb hby d10_7) rfl rfl ) ?_
    show Go p e below T23 (mkF m 8 #[.val (.ref a1), .val vd] [(.ref a1)]) _
    obtain ⟨T24, X24, e24, st24⟩ := getF X23 hx hZ hown (host := "") (Or.inl (hw _ (List.mem_of_getElem? (i := 58) rfl))) Via.refl e23 FL (g := (mkF m 8 #[.val (.ref a1), .val vd] [(.ref a1)])) rfl rfl (hb hby d10_8)
    refine Go.step st24 ?_
    show Go p e below T24 (mkF m 11 #[.val (.ref a1), .val vd] [vl]) _
    refine Go.step (fun _ => XS.goto X24.here hx rfl (pc0 := 11) (pc' := 15) rfl (hb hby d10_11) (by decide) (by decide)) ?_
    show Go p e below T24 (mkF m 15 #[.val (.ref a1), .val vd] [vl]) _
    refine Go.retA X24 hx hret rfl hvl hlk (hb hby d10_15) ?_ (by decide) (by decide)
    exact ⟨by rw [hr, if_neg hc4], N0, e24⟩
theorem pd_2 : parseMethodDescriptor "(I)Ljava/lang/String;" = some ⟨[.int], some (.object "java/lang/String")⟩ := by decide +kernel
theorem pd_3 : parseMethodDescriptor "(Ljava/lang/String;ZZLjava/lang/String;Ljava/util/Set;ZLjava/lang/String;ZLjava/lang/String;Ljava/lang/String;Lorg/linkweave/core/TermDefinition$ScopedContext;Ljava/lang/String;Z)V" = some ⟨[(.object "java/lang/String"), .boolean, .boolean, (.object "java/lang/String"), (.object "java/util/Set"), .boolean, (.object "java/lang/String"), .boolean, (.object "java/lang/String"), (.object "java/lang/String"), (.object "org/linkweave/core/TermDefinition$ScopedContext"), (.object "java/lang/String"), .boolean], none⟩ := by decide +kernel
theorem pd_4 : parseMethodDescriptor "(Ljava/lang/String;)Ljava/lang/String;" = some ⟨[(.object "java/lang/String")], some (.object "java/lang/String")⟩ := by decide +kernel
theorem ef_rm0 (m : MethodId) (x0 : Int32) (x1 : Int32) (x2 : Int32) (x3 : Int32) : entryFrame m #[(.int x0), (.int x1), (.int x2), (.int x3)] maxLocals = mkF m 0 #[.val (.int x0), .val (.int x1), .val (.int x2), .val (.int x3), .unset, .unset, .unset, .unset, .unset, .unset, .unset, .unset, .unset, .unset, .unset] [] := by first | (simp [entryFrame, mkF, argsToLocals, Value.category, maxLocals]; done) | rfl
def Q0 (Z : State) (p0 p1 p2 p3 : Int32) (G : Int32) (h0 : Heap) (n0 : Nat) (v : Option Value) (h : Heap) (L : List Loc) : Prop := v = some (.int 1) ∧ Fr n0 L
set_option maxRecDepth 65536 in
set_option maxHeartbeats 40000000 in
theorem rm0 (l : Launch) (Z : State) (a0 : Array Value) (hw : ∀ d ∈ tables_1, d.before a0 Z = true) (ws : List Jvm.Cond) (p0 p1 p2 p3 : Int32) (G : Int32) (h0 : Heap) (n0 : Nat) (Z0 : n0 ≤ h0.size) (P3 : ¬ G = (0 : Int32)) (O2 : Sta Z h0 "java/lang/String" "COMPACT_STRINGS" "Z" (.int G)) :
    MetFree l x (head1 (Jvm.Cond.code x code maxLocals ret :: ws) room_1) (fun a U => a = #[(.int p0), (.int p1), (.int p2), (.int p3)] ∧ Z.Warmed39 U.vm ∧ U.heap = h0) (fun _ _ _ _ _ => True) (fun _ U o U' => ∃ v L, o = .returned v ∧ Q0 Z p0 p1 p2 p3 G h0 n0 v U'.heap L ∧ FrameEnd U o U' L 40 192) := by
  refine MetFree.of_bodySF (plainFor_of_name pn_1) hisR ?_
  intro p e s m args below meth c s₁ Bd hml0 hP hK
  obtain ⟨rfl, hZ, hh⟩ := hP
  have hx := Bd.exec
  have hby := Bd.bytes
  have hml : c.maxLocals = 15 := hml0
  have hown : s.vm.findClass "org/linkweave/core/TermDefinitionLanguagePinLaw" = some m.cls := findClass_of_methodNamed Bd.named
  have hnm := (name_of_methodNamed Bd.named Bd.method).1
  have hlk : meth.locks = false := Bd.notSynchronized
  have hret := Bd.returns
  have X0 : Stand p l e room_1 s m #[(.int p0), (.int p1), (.int p2), (.int p3)] below meth c s₁ [] 0 0 := Stand.of_body Bd
  have e0 : s₁.heap = h0 := by rw [← hh, Bd.state]; rfl
  have N0 := Fr.nil n0
  show Go p e below s₁ (entryFrame m #[(.int p0), (.int p1), (.int p2), (.int p3)] maxLocals) (Fin s (Q0 Z p0 p1 p2 p3 G h0 n0) 40 192)
  rw [ef_rm0]
  show Go p e below s₁ (mkF m 0 #[.val (.int p0), .val (.int p1), .val (.int p2), .val (.int p3), .unset, .unset, .unset, .unset, .unset, .unset, .unset, .unset, .unset, .unset, .unset] []) _
  refine Go.step (fun _ => XS.iloadN X0.here hx rfl (hb hby at_0) rfl ) ?_
  have J11 : ∀ (b4 : Int32) (hb4 : b4 = 0 ∨ b4 = 1), Go p e below s₁ (mkF m 11 #[.val (.int p0), .val (.int p1), .val (.int p2), .val (.int p3), .unset, .unset, .unset, .unset, .unset, .unset, .unset, .unset, .unset, .unset, .unset] [(.int b4)]) (Fin s (Q0 Z p0 p1 p2 p3 G h0 n0) 40 192) := by
    intro b4 hb4
    show Go p e below s₁ (mkF m 11 #[.val (.int p0), .val (.int p1), .val (.int p2), .val (.int p3), .unset, .unset, .unset, .unset, .unset, .unset, .unset, .unset, .unset, .unset, .unset] [(.int b4)]) _
    refine Go.step (fun _ => XS.istore X0.here hx rfl (hb hby at_11) rfl (l' := #[.val (.int p0), .val (.int p1), .val (.int p2), .val (.int p3), .val (.int b4), .unset, .unset, .unset, .unset, .unset, .unset, .unset, .unset, .unset, .unset]) rfl) ?_
    show Go p e below s₁ (mkF m 13 #[.val (.int p0), .val (.int p1), .val (.int p2), .val (.int p3), .val (.int b4), .unset, .unset, .unset, .unset, .unset, .unset, .unset, .unset, .unset, .unset] []) _
    refine Go.step (fun _ => XS.iloadN X0.here hx rfl (hb hby at_13) rfl ) ?_
    have J24 : ∀ (b5 : Int32) (hb5 : b5 = 0 ∨ b5 = 1), Go p e below s₁ (mkF m 24 #[.val (.int p0), .val (.int p1), .val (.int p2), .val (.int p3), .val (.int b4), .unset, .unset, .unset, .unset, .unset, .unset, .unset, .unset, .unset, .unset] [(.int b5)]) (Fin s (Q0 Z p0 p1 p2 p3 G h0 n0) 40 192) := by
      intro b5 hb5
      show Go p e below s₁ (mkF m 24 #[.val (.int p0), .val (.int p1), .val (.int p2), .val (.int p3), .val (.int b4), .unset, .unset, .unset, .unset, .unset, .unset, .unset, .unset, .unset, .unset] [(.int b5)]) _
      refine Go.step (fun _ => XS.istore X0.here hx rfl (hb hby at_24) rfl (l' := #[.val (.int p0), .val (.int p1), .val (.int p2), .val (.int p3), .val (.int b4), .val (.int b5), .unset, .unset, .unset, .unset, .unset, .unset, .unset, .unset, .unset]) rfl) ?_
      show Go p e below s₁ (mkF m 26 #[.val (.int p0), .val (.int p1), .val (.int p2), .val (.int p3), .val (.int b4), .val (.int b5), .unset, .unset, .unset, .unset, .unset, .unset, .unset, .unset, .unset] []) _
      refine Go.step (fun _ => XS.iloadN X0.here hx rfl (hb hby at_26) rfl ) ?_
      have J37 : ∀ (b6 : Int32) (hb6 : b6 = 0 ∨ b6 = 1), Go p e below s₁ (mkF m 37 #[.val (.int p0), .val (.int p1), .val (.int p2), .val (.int p3), .val (.int b4), .val (.int b5), .unset, .unset, .unset, .unset, .unset, .unset, .unset, .unset, .unset] [(.int b6)]) (Fin s (Q0 Z p0 p1 p2 p3 G h0 n0) 40 192) := by
        intro b6 hb6
        show Go p e below s₁ (mkF m 37 #[.val (.int p0), .val (.int p1), .val (.int p2), .val (.int p3), .val (.int b4), .val (.int b5), .unset, .unset, .unset, .unset, .unset, .unset, .unset, .unset, .unset] [(.int b6)]) _
        refine Go.step (fun _ => XS.istore X0.here hx rfl (hb hby at_37) rfl (l' := #[.val (.int p0), .val (.int p1), .val (.int p2), .val (.int p3), .val (.int b4), .val (.int b5), .val (.int b6), .unset, .unset, .unset, .unset, .unset, .unset, .unset, .unset]) rfl) ?_
        show Go p e below s₁ (mkF m 39 #[.val (.int p0), .val (.int p1), .val (.int p2), .val (.int p3), .val (.int b4), .val (.int b5), .val (.int b6), .unset, .unset, .unset, .unset, .unset, .unset, .unset, .unset] []) _
        refine Go.step (fun _ => XS.iloadN X0.here hx rfl (hb hby at_39) rfl ) ?_
        have J51 : ∀ (b7 : Int32) (hb7 : b7 = 0 ∨ b7 = 1), Go p e below s₁ (mkF m 51 #[.val (.int p0), .val (.int p1), .val (.int p2), .val (.int p3), .val (.int b4), .val (.int b5), .val (.int b6), .unset, .unset, .unset, .unset, .unset, .unset, .unset, .unset] [(.int b7)]) (Fin s (Q0 Z p0 p1 p2 p3 G h0 n0) 40 192) := by
          intro b7 hb7
          show Go p e below s₁ (mkF m 51 #[.val (.int p0), .val (.int p1), .val (.int p2), .val (.int p3), .val (.int b4), .val (.int b5), .val (.int b6), .unset, .unset, .unset, .unset, .unset, .unset, .unset, .unset] [(.int b7)]) _
          refine Go.step (fun _ => XS.istore X0.here hx rfl (hb hby at_51) rfl (l' := #[.val (.int p0), .val (.int p1), .val (.int p2), .val (.int p3), .val (.int b4), .val (.int b5), .val (.int b6), .val (.int b7), .unset, .unset, .unset, .unset, .unset, .unset, .unset]) rfl) ?_
          show Go p e below s₁ (mkF m 53 #[.val (.int p0), .val (.int p1), .val (.int p2), .val (.int p3), .val (.int b4), .val (.int b5), .val (.int b6), .val (.int b7), .unset, .unset, .unset, .unset, .unset, .unset, .unset] []) _
          refine Go.step (fun _ => XS.iloadN X0.here hx rfl (hb hby at_53) rfl ) ?_
          have J65 : ∀ (b8 : Int32) (hb8 : b8 = 0 ∨ b8 = 1), Go p e below s₁ (mkF m 65 #[.val (.int p0), .val (.int p1), .val (.int p2), .val (.int p3), .val (.int b4), .val (.int b5), .val (.int b6), .val (.int b7), .unset, .unset, .unset, .unset, .unset, .unset, .unset] [(.int b8)]) (Fin s (Q0 Z p0 p1 p2 p3 G h0 n0) 40 192) := by
            intro b8 hb8
            show Go p e below s₁ (mkF m 65 #[.val (.int p0), .val (.int p1), .val (.int p2), .val (.int p3), .val (.int b4), .val (.int b5), .val (.int b6), .val (.int b7), .unset, .unset, .unset, .unset, .unset, .unset, .unset] [(.int b8)]) _
            refine Go.step (fun _ => XS.istore X0.here hx rfl (hb hby at_65) rfl (l' := #[.val (.int p0), .val (.int p1), .val (.int p2), .val (.int p3), .val (.int b4), .val (.int b5), .val (.int b6), .val (.int b7), .val (.int b8), .unset, .unset, .unset, .unset, .unset, .unset]) rfl) ?_
            show Go p e below s₁ (mkF m 67 #[.val (.int p0), .val (.int p1), .val (.int p2), .val (.int p3), .val (.int b4), .val (.int b5), .val (.int b6), .val (.int b7), .val (.int b8), .unset, .unset, .unset, .unset, .unset, .unset] []) _
            refine Go.step (fun _ => XS.iloadN X0.here hx rfl (hb hby at_67) rfl ) ?_
            show Go p e below s₁ (mkF m 68 #[.val (.int p0), .val (.int p1), .val (.int p2), .val (.int p3), .val (.int b4), .val (.int b5), .val (.int b6), .val (.int b7), .val (.int b8), .unset, .unset, .unset, .unset, .unset, .unset] [(.int p0)]) _
            refine Go.step (fun _ => XS.bipush X0.here hx rfl (hb hby at_68)) ?_
            show Go p e below s₁ (mkF m 70 #[.val (.int p0), .val (.int p1), .val (.int p2), .val (.int p3), .val (.int b4), .val (.int b5), .val (.int b6), .val (.int b7), .val (.int b8), .unset, .unset, .unset, .unset, .unset, .unset] [(.int (32 : Int32)), (.int p0)]) _
            refine Go.step (fun _ => XS.iand X0.here hx rfl (hb hby at_70) rfl) ?_
            show Go p e below s₁ (mkF m 71 #[.val (.int p0), .val (.int p1), .val (.int p2), .val (.int p3), .val (.int b4), .val (.int b5), .val (.int b6), .val (.int b7), .val (.int b8), .unset, .unset, .unset, .unset, .unset, .unset] [(.int (p0 &&& (32 : Int32)))]) _
            by_cases hc71 : (p0 &&& (32 : Int32)) = (0 : Int32)
            · skip
              refine Go.step (fun _ => XS.ifYes X0.here hx rfl (pc0 := 71) (pc' := 78) rfl (hb hby at_71) rfl ((if0 _ _).trans (teq hc71).1) (by decide) (by decide)) ?_
              show Go p e below s₁ (mkF m 78 #[.val (.int p0), .val (.int p1), .val (.int p2), .val (.int p3), .val (.int b4), .val (.int b5), .val (.int b6), .val (.int b7), .val (.int b8), .unset, .unset, .unset, .unset, .unset, .unset] []) _
              refine Go.step (fun _ => XS.iloadN X0.here hx rfl (hb hby at_78) rfl ) ?_
              show Go p e below s₁ (mkF m 79 #[.val (.int p0), .val (.int p1), .val (.int p2), .val (.int p3), .val (.int b4), .val (.int b5), .val (.int b6), .val (.int b7), .val (.int b8), .unset, .unset, .unset, .unset, .unset, .unset] [(.int p1)]) _
              obtain ⟨_, _, ⟨T25, L25, k25, n25⟩, -, X25, ⟨Lc25, hQ25, l25, y25, z25⟩, st25⟩ := Jvm.LawKit.callS X0 hx (y := (⟨"org/linkweave/core/TermDefinitionLanguagePinLaw", "str", "(I)Ljava/lang/String;"⟩ : MethodName)) hown (mvT hZ (hw _ (List.mem_of_getElem? (i := 0) rfl))) (mvT hZ (hw _ (List.mem_of_getElem? (i := 1) rfl))) (mvT hZ (hw _ (List.mem_of_getElem? (i := 2) rfl))) (mvT hZ (hw _ (List.mem_of_getElem? (i := 3) rfl))) (by decide) (backOf (W := 0) (rm1 l Z a0 hw [] p1 G h0 n0 Z0 P3 O2) hZ (hw _ (List.mem_of_getElem? (i := 3) rfl)) (hw _ (List.mem_of_getElem? (i := 2) rfl)) (by decide) (by decide)) (g := (mkF m 79 #[.val (.int p0), .val (.int p1), .val (.int p2), .val (.int p3), .val (.int b4), .val (.int b5), .val (.int b6), .val (.int b7), .val (.int b8), .unset, .unset, .unset, .unset, .unset, .unset] [(.int p1)])) rfl (by rw [hml]; rfl) (argsL := [(.int p1)]) (rest := []) (lenOf pd_2 rfl) rfl (by show 2 * 0 + _ ≤ _; exact Nat.le_of_eq rfl) (hb hby at_79) (fun _ _ => ⟨rfl, e0, (by decide : 0 + 3 ≤ _), (by decide : 0 + 8 ≤ _)⟩)
              dsimp only [Pt.U, Pt.locs, Pt.cells, Pt.slots] at X25 l25 y25 z25 st25 hQ25
              subst l25 y25 z25
              obtain ⟨x25, rfl, Nq25, K25⟩ := hQ25
              have N25 := Fr.app N0 Nq25
              refine Go.step st25 ?_
              have O2_q25 := own_staKeep O2 K25 all0
              have Z25 : n0 ≤ T25.heap.size := Nat.le_trans Z0 K25.1
              show Go p e below T25 (mkF m 82 #[.val (.int p0), .val (.int p1), .val (.int p2), .val (.int p3), .val (.int b4), .val (.int b5), .val (.int b6), .val (.int b7), .val (.int b8), .unset, .unset, .unset, .unset, .unset, .unset] [(.ref x25)]) _
              refine Go.step (fun _ => XS.astore X25.here hx rfl (hb hby at_82) rfl rfl (l' := #[.val (.int p0), .val (.int p1), .val (.int p2), .val (.int p3), .val (.int b4), .val (.int b5), .val (.int b6), .val (.int b7), .val (.int b8), .val (.ref x25), .unset, .unset, .unset, .unset, .unset]) rfl) ?_
              show Go p e below T25 (mkF m 84 #[.val (.int p0), .val (.int p1), .val (.int p2), .val (.int p3), .val (.int b4), .val (.int b5), .val (.int b6), .val (.int b7), .val (.int b8), .val (.ref x25), .unset, .unset, .unset, .unset, .unset] []) _
              refine Go.step (fun _ => XS.iloadN X25.here hx rfl (hb hby at_84) rfl ) ?_
              show Go p e below T25 (mkF m 85 #[.val (.int p0), .val (.int p1), .val (.int p2), .val (.int p3), .val (.int b4), .val (.int b5), .val (.int b6), .val (.int b7), .val (.int b8), .val (.ref x25), .unset, .unset, .unset, .unset, .unset] [(.int p0)]) _
              refine Go.step (fun _ => XS.bipush X25.here hx rfl (hb hby at_85)) ?_
              show Go p e below T25 (mkF m 87 #[.val (.int p0), .val (.int p1), .val (.int p2), .val (.int p3), .val (.int b4), .val (.int b5), .val (.int b6), .val (.int b7), .val (.int b8), .val (.ref x25), .unset, .unset, .unset, .unset, .unset] [(.int (64 : Int32)), (.int p0)]) _
              refine Go.step (fun _ => XS.iand X25.here hx rfl (hb hby at_87) rfl) ?_
              show Go p e below T25 (mkF m 88 #[.val (.int p0), .val (.int p1), .val (.int p2), .val (.int p3), .val (.int b4), .val (.int b5), .val (.int b6), .val (.int b7), .val (.int b8), .val (.ref x25), .unset, .unset, .unset, .unset, .unset] [(.int (p0 &&& (64 : Int32)))]) _
              by_cases hc88 : (p0 &&& (64 : Int32)) = (0 : Int32)
              · skip
                refine Go.step (fun _ => XS.ifYes X25.here hx rfl (pc0 := 88) (pc' := 95) rfl (hb hby at_88) rfl ((if0 _ _).trans (teq hc88).1) (by decide) (by decide)) ?_
                show Go p e below T25 (mkF m 95 #[.val (.int p0), .val (.int p1), .val (.int p2), .val (.int p3), .val (.int b4), .val (.int b5), .val (.int b6), .val (.int b7), .val (.int b8), .val (.ref x25), .unset, .unset, .unset, .unset, .unset] []) _
                refine Go.step (fun _ => XS.iloadN X25.here hx rfl (hb hby at_95) rfl ) ?_
                show Go p e below T25 (mkF m 96 #[.val (.int p0), .val (.int p1), .val (.int p2), .val (.int p3), .val (.int b4), .val (.int b5), .val (.int b6), .val (.int b7), .val (.int b8), .val (.ref x25), .unset, .unset, .unset, .unset, .unset] [(.int p2)]) _
                obtain ⟨_, _, ⟨T26, L26, k26, n26⟩, -, X26, ⟨Lc26, hQ26, l26, y26, z26⟩, st26⟩ := Jvm.LawKit.callS X25 hx (y := (⟨"org/linkweave/core/TermDefinitionLanguagePinLaw", "str", "(I)Ljava/lang/String;"⟩ : MethodName)) hown (mvT hZ (hw _ (List.mem_of_getElem? (i := 0) rfl))) (mvT hZ (hw _ (List.mem_of_getElem? (i := 1) rfl))) (mvT hZ (hw _ (List.mem_of_getElem? (i := 2) rfl))) (mvT hZ (hw _ (List.mem_of_getElem? (i := 3) rfl))) (by decide) (backOf (W := 0) (rm1 l Z a0 hw [] p2 G T25.heap n0 Z25 P3 O2_q25) hZ (hw _ (List.mem_of_getElem? (i := 3) rfl)) (hw _ (List.mem_of_getElem? (i := 2) rfl)) (by decide) (by decide)) (g := (mkF m 96 #[.val (.int p0), .val (.int p1), .val (.int p2), .val (.int p3), .val (.int b4), .val (.int b5), .val (.int b6), .val (.int b7), .val (.int b8), .val (.ref x25), .unset, .unset, .unset, .unset, .unset] [(.int p2)])) rfl (by rw [hml]; rfl) (argsL := [(.int p2)]) (rest := []) (lenOf pd_2 rfl) rfl (by show 2 * 0 + _ ≤ _; exact Nat.le_of_eq rfl) (hb hby at_96) (fun _ _ => ⟨rfl, rfl, (by decide : 0 + 3 + 3 ≤ _), (by decide : 0 + 8 + 8 ≤ _)⟩)
                dsimp only [Pt.U, Pt.locs, Pt.cells, Pt.slots] at X26 l26 y26 z26 st26 hQ26
                subst l26 y26 z26
                obtain ⟨x26, rfl, Nq26, K26⟩ := hQ26
                have N26 := Fr.app N25 Nq26
                refine Go.step st26 ?_
                have O2_q26 := own_staKeep O2_q25 K26 all0
                have Z26 : n0 ≤ T26.heap.size := Nat.le_trans Z25 K26.1
                show Go p e below T26 (mkF m 99 #[.val (.int p0), .val (.int p1), .val (.int p2), .val (.int p3), .val (.int b4), .val (.int b5), .val (.int b6), .val (.int b7), .val (.int b8), .val (.ref x25), .unset, .unset, .unset, .unset, .unset] [(.ref x26)]) _
                refine Go.step (fun _ => XS.astore X26.here hx rfl (hb hby at_99) rfl rfl (l' := #[.val (.int p0), .val (.int p1), .val (.int p2), .val (.int p3), .val (.int b4), .val (.int b5), .val (.int b6), .val (.int b7), .val (.int b8), .val (.ref x25), .val (.ref x26), .unset, .unset, .unset, .unset]) rfl) ?_
                show Go p e below T26 (mkF m 101 #[.val (.int p0), .val (.int p1), .val (.int p2), .val (.int p3), .val (.int b4), .val (.int b5), .val (.int b6), .val (.int b7), .val (.int b8), .val (.ref x25), .val (.ref x26), .unset, .unset, .unset, .unset] []) _
                refine Go.step (fun _ => XS.iloadN X26.here hx rfl (hb hby at_101) rfl ) ?_
                show Go p e below T26 (mkF m 102 #[.val (.int p0), .val (.int p1), .val (.int p2), .val (.int p3), .val (.int b4), .val (.int b5), .val (.int b6), .val (.int b7), .val (.int b8), .val (.ref x25), .val (.ref x26), .unset, .unset, .unset, .unset] [(.int p3)]) _
                obtain ⟨_, _, ⟨T27, L27, k27, n27⟩, -, X27, ⟨Lc27, hQ27, l27, y27, z27⟩, st27⟩ := Jvm.LawKit.callS X26 hx (y := (⟨"org/linkweave/core/TermDefinitionLanguagePinLaw", "str", "(I)Ljava/lang/String;"⟩ : MethodName)) hown (mvT hZ (hw _ (List.mem_of_getElem? (i := 0) rfl))) (mvT hZ (hw _ (List.mem_of_getElem? (i := 1) rfl))) (mvT hZ (hw _ (List.mem_of_getElem? (i := 2) rfl))) (mvT hZ (hw _ (List.mem_of_getElem? (i := 3) rfl))) (by decide) (backOf (W := 0) (rm1 l Z a0 hw [] p3 G T26.heap n0 Z26 P3 O2_q26) hZ (hw _ (List.mem_of_getElem? (i := 3) rfl)) (hw _ (List.mem_of_getElem? (i := 2) rfl)) (by decide) (by decide)) (g := (mkF m 102 #[.val (.int p0), .val (.int p1), .val (.int p2), .val (.int p3), .val (.int b4), .val (.int b5), .val (.int b6), .val (.int b7), .val (.int b8), .val (.ref x25), .val (.ref x26), .unset, .unset, .unset, .unset] [(.int p3)])) rfl (by rw [hml]; rfl) (argsL := [(.int p3)]) (rest := []) (lenOf pd_2 rfl) rfl (by show 2 * 0 + _ ≤ _; exact Nat.le_of_eq rfl) (hb hby at_102) (fun _ _ => ⟨rfl, rfl, (by decide : 0 + 3 + 3 + 3 ≤ _), (by decide : 0 + 8 + 8 + 8 ≤ _)⟩)
                dsimp only [Pt.U, Pt.locs, Pt.cells, Pt.slots] at X27 l27 y27 z27 st27 hQ27
                subst l27 y27 z27
                obtain ⟨x27, rfl, Nq27, K27⟩ := hQ27
                have N27 := Fr.app N26 Nq27
                refine Go.step st27 ?_
                have O2_q27 := own_staKeep O2_q26 K27 all0
                have Z27 : n0 ≤ T27.heap.size := Nat.le_trans Z26 K27.1
                show Go p e below T27 (mkF m 105 #[.val (.int p0), .val (.int p1), .val (.int p2), .val (.int p3), .val (.int b4), .val (.int b5), .val (.int b6), .val (.int b7), .val (.int b8), .val (.ref x25), .val (.ref x26), .unset, .unset, .unset, .unset] [(.ref x27)]) _
                refine Go.step (fun _ => XS.astore X27.here hx rfl (hb hby at_105) rfl rfl (l' := #[.val (.int p0), .val (.int p1), .val (.int p2), .val (.int p3), .val (.int b4), .val (.int b5), .val (.int b6), .val (.int b7), .val (.int b8), .val (.ref x25), .val (.ref x26), .val (.ref x27), .unset, .unset, .unset]) rfl) ?_
                show Go p e below T27 (mkF m 107 #[.val (.int p0), .val (.int p1), .val (.int p2), .val (.int p3), .val (.int b4), .val (.int b5), .val (.int b6), .val (.int b7), .val (.int b8), .val (.ref x25), .val (.ref x26), .val (.ref x27), .unset, .unset, .unset] []) _
                refine Go.step (fun _ => XS.iloadN X27.here hx rfl (hb hby at_107) rfl ) ?_
                show Go p e below T27 (mkF m 108 #[.val (.int p0), .val (.int p1), .val (.int p2), .val (.int p3), .val (.int b4), .val (.int b5), .val (.int b6), .val (.int b7), .val (.int b8), .val (.ref x25), .val (.ref x26), .val (.ref x27), .unset, .unset, .unset] [(.int p0)]) _
                refine Go.step (fun _ => XS.sipush X27.here hx rfl (hb hby at_108)) ?_
                show Go p e below T27 (mkF m 111 #[.val (.int p0), .val (.int p1), .val (.int p2), .val (.int p3), .val (.int b4), .val (.int b5), .val (.int b6), .val (.int b7), .val (.int b8), .val (.ref x25), .val (.ref x26), .val (.ref x27), .unset, .unset, .unset] [(.int (128 : Int32)), (.int p0)]) _
                refine Go.step (fun _ => XS.iand X27.here hx rfl (hb hby at_111) rfl) ?_
                show Go p e below T27 (mkF m 112 #[.val (.int p0), .val (.int p1), .val (.int p2), .val (.int p3), .val (.int b4), .val (.int b5), .val (.int b6), .val (.int b7), .val (.int b8), .val (.ref x25), .val (.ref x26), .val (.ref x27), .unset, .unset, .unset] [(.int (p0 &&& (128 : Int32)))]) _
                by_cases hc112 : (p0 &&& (128 : Int32)) = (0 : Int32)
                · skip
                  refine Go.step (fun _ => XS.ifYes X27.here hx rfl (pc0 := 112) (pc' := 119) rfl (hb hby at_112) rfl ((if0 _ _).trans (teq hc112).1) (by decide) (by decide)) ?_
                  show Go p e below T27 (mkF m 119 #[.val (.int p0), .val (.int p1), .val (.int p2), .val (.int p3), .val (.int b4), .val (.int b5), .val (.int b6), .val (.int b7), .val (.int b8), .val (.ref x25), .val (.ref x26), .val (.ref x27), .unset, .unset, .unset] []) _
                  refine Go.step (fun _ => XS.iloadN X27.here hx rfl (hb hby at_119) rfl ) ?_
                  show Go p e below T27 (mkF m 120 #[.val (.int p0), .val (.int p1), .val (.int p2), .val (.int p3), .val (.int b4), .val (.int b5), .val (.int b6), .val (.int b7), .val (.int b8), .val (.ref x25), .val (.ref x26), .val (.ref x27), .unset, .unset, .unset] [(.int p3)]) _
                  refine Go.step (fun _ => XS.bipush X27.here hx rfl (hb hby at_120)) ?_
                  show Go p e below T27 (mkF m 122 #[.val (.int p0), .val (.int p1), .val (.int p2), .val (.int p3), .val (.int b4), .val (.int b5), .val (.int b6), .val (.int b7), .val (.int b8), .val (.ref x25), .val (.ref x26), .val (.ref x27), .unset, .unset, .unset] [(.int (16 : Int32)), (.int p3)]) _
                  refine Go.step (fun _ => XS.iushr X27.here hx rfl (hb hby at_122) rfl) ?_
                  show Go p e below T27 (mkF m 123 #[.val (.int p0), .val (.int p1), .val (.int p2), .val (.int p3), .val (.int b4), .val (.int b5), .val (.int b6), .val (.int b7), .val (.int b8), .val (.ref x25), .val (.ref x26), .val (.ref x27), .unset, .unset, .unset] [(.int ((p3.toUInt32 >>> ((16 : Int32) &&& 31).toUInt32).toInt32))]) _
                  obtain ⟨_, _, ⟨T28, L28, k28, n28⟩, -, X28, ⟨Lc28, hQ28, l28, y28, z28⟩, st28⟩ := Jvm.LawKit.callS X27 hx (y := (⟨"org/linkweave/core/TermDefinitionLanguagePinLaw", "str", "(I)Ljava/lang/String;"⟩ : MethodName)) hown (mvT hZ (hw _ (List.mem_of_getElem? (i := 0) rfl))) (mvT hZ (hw _ (List.mem_of_getElem? (i := 1) rfl))) (mvT hZ (hw _ (List.mem_of_getElem? (i := 2) rfl))) (mvT hZ (hw _ (List.mem_of_getElem? (i := 3) rfl))) (by decide) (backOf (W := 0) (rm1 l Z a0 hw [] ((p3.toUInt32 >>> ((16 : Int32) &&& 31).toUInt32).toInt32) G T27.heap n0 Z27 P3 O2_q27) hZ (hw _ (List.mem_of_getElem? (i := 3) rfl)) (hw _ (List.mem_of_getElem? (i := 2) rfl)) (by decide) (by decide)) (g := (mkF m 123 #[.val (.int p0), .val (.int p1), .val (.int p2), .val (.int p3), .val (.int b4), .val (.int b5), .val (.int b6), .val (.int b7), .val (.int b8), .val (.ref x25), .val (.ref x26), .val (.ref x27), .unset, .unset, .unset] [(.int ((p3.toUInt32 >>> ((16 : Int32) &&& 31).toUInt32).toInt32))])) rfl (by rw [hml]; rfl) (argsL := [(.int ((p3.toUInt32 >>> ((16 : Int32) &&& 31).toUInt32).toInt32))]) (rest := []) (lenOf pd_2 rfl) rfl (by show 2 * 0 + _ ≤ _; exact Nat.le_of_eq rfl) (hb hby at_123) (fun _ _ => ⟨rfl, rfl, (by decide : 0 + 3 + 3 + 3 + 3 ≤ _), (by decide : 0 + 8 + 8 + 8 + 8 ≤ _)⟩)
                  dsimp only [Pt.U, Pt.locs, Pt.cells, Pt.slots] at X28 l28 y28 z28 st28 hQ28
                  subst l28 y28 z28
                  obtain ⟨x28, rfl, Nq28, K28⟩ := hQ28
                  have N28 := Fr.app N27 Nq28
                  refine Go.step st28 ?_
                  have O2_q28 := own_staKeep O2_q27 K28 all0
                  have Z28 : n0 ≤ T28.heap.size := Nat.le_trans Z27 K28.1
                  show Go p e below T28 (mkF m 126 #[.val (.int p0), .val (.int p1), .val (.int p2), .val (.int p3), .val (.int b4), .val (.int b5), .val (.int b6), .val (.int b7), .val (.int b8), .val (.ref x25), .val (.ref x26), .val (.ref x27), .unset, .unset, .unset] [(.ref x28)]) _
                  refine Go.step (fun _ => XS.astore X28.here hx rfl (hb hby at_126) rfl rfl (l' := #[.val (.int p0), .val (.int p1), .val (.int p2), .val (.int p3), .val (.int b4), .val (.int b5), .val (.int b6), .val (.int b7), .val (.int b8), .val (.ref x25), .val (.ref x26), .val (.ref x27), .val (.ref x28), .unset, .unset]) rfl) ?_
                  show Go p e below T28 (mkF m 128 #[.val (.int p0), .val (.int p1), .val (.int p2), .val (.int p3), .val (.int b4), .val (.int b5), .val (.int b6), .val (.int b7), .val (.int b8), .val (.ref x25), .val (.ref x26), .val (.ref x27), .val (.ref x28), .unset, .unset] []) _
                  obtain ⟨T29, h29, X29, e29, E29, A29, D29, -, st29⟩ := newO X28 hx hZ hown (hw _ (List.mem_of_getElem? (i := 34) rfl)) (hw _ (List.mem_of_getElem? (i := 35) rfl)) (hw _ (List.mem_of_getElem? (i := 36) rfl)) rfl (g := (mkF m 128 #[.val (.int p0), .val (.int p1), .val (.int p2), .val (.int p3), .val (.int b4), .val (.int b5), .val (.int b6), .val (.int b7), .val (.int b8), .val (.ref x25), .val (.ref x26), .val (.ref x27), .val (.ref x28), .unset, .unset] [])) rfl (hb hby at_128) (by decide) (by decide)
                  obtain ⟨b29, g29⟩ : ∃ z, z = T28.heap.size := ⟨_, rfl⟩
                  rw [← g29] at A29 D29 st29
                  have g_b29 : n0 ≤ b29 := Nat.le_trans Z28 (Nat.le_of_eq g29.symm)
                  have O2_q29 := O2_q28.ext E29
                  have Z29 : n0 ≤ h29.size := Nat.le_trans Z28 E29.1
                  refine Go.step st29 ?_
                  have F_iri_b29 : Fld Z h29 b29 "org/linkweave/core/TermDefinition" "iri" "Ljava/lang/String;" .null := D29 (Or.inr (hw _ (List.mem_of_getElem? (i := 47) rfl))) (ty := (.object "java/lang/String")) (by decide)
                  have F_prefix_b29 : Fld Z h29 b29 "org/linkweave/core/TermDefinition" "prefix" "Z" (.int (0 : Int32)) := D29 (Or.inr (hw _ (List.mem_of_getElem? (i := 49) rfl))) (ty := .boolean) (by decide)
                  have F_reverse_b29 : Fld Z h29 b29 "org/linkweave/core/TermDefinition" "reverse" "Z" (.int (0 : Int32)) := D29 (Or.inr (hw _ (List.mem_of_getElem? (i := 51) rfl))) (ty := .boolean) (by decide)
                  have F_typeMapping_b29 : Fld Z h29 b29 "org/linkweave/core/TermDefinition" "typeMapping" "Ljava/lang/String;" .null := D29 (Or.inr (hw _ (List.mem_of_getElem? (i := 53) rfl))) (ty := (.object "java/lang/String")) (by decide)
                  have F_container_b29 : Fld Z h29 b29 "org/linkweave/core/TermDefinition" "container" "Ljava/util/Set;" .null := D29 (Or.inr (hw _ (List.mem_of_getElem? (i := 55) rfl))) (ty := (.object "java/util/Set")) (by decide)
                  have F_hasLanguage_b29 : Fld Z h29 b29 "org/linkweave/core/TermDefinition" "hasLanguage" "Z" (.int (0 : Int32)) := D29 (Or.inr (hw _ (List.mem_of_getElem? (i := 57) rfl))) (ty := .boolean) (by decide)
                  have F_language_b29 : Fld Z h29 b29 "org/linkweave/core/TermDefinition" "language" "Ljava/lang/String;" .null := D29 (Or.inr (hw _ (List.mem_of_getElem? (i := 59) rfl))) (ty := (.object "java/lang/String")) (by decide)
                  have F_hasDirection_b29 : Fld Z h29 b29 "org/linkweave/core/TermDefinition" "hasDirection" "Z" (.int (0 : Int32)) := D29 (Or.inr (hw _ (List.mem_of_getElem? (i := 61) rfl))) (ty := .boolean) (by decide)
                  have F_direction_b29 : Fld Z h29 b29 "org/linkweave/core/TermDefinition" "direction" "Ljava/lang/String;" .null := D29 (Or.inr (hw _ (List.mem_of_getElem? (i := 63) rfl))) (ty := (.object "java/lang/String")) (by decide)
                  have F_index_b29 : Fld Z h29 b29 "org/linkweave/core/TermDefinition" "index" "Ljava/lang/String;" .null := D29 (Or.inr (hw _ (List.mem_of_getElem? (i := 65) rfl))) (ty := (.object "java/lang/String")) (by decide)
                  have F_scopedContext_b29 : Fld Z h29 b29 "org/linkweave/core/TermDefinition" "scopedContext" "Lorg/linkweave/core/TermDefinition$ScopedContext;" .null := D29 (Or.inr (hw _ (List.mem_of_getElem? (i := 67) rfl))) (ty := (.object "org/linkweave/core/TermDefinition$ScopedContext")) (by decide)
                  have F_nest_b29 : Fld Z h29 b29 "org/linkweave/core/TermDefinition" "nest" "Ljava/lang/String;" .null := D29 (Or.inr (hw _ (List.mem_of_getElem? (i := 69) rfl))) (ty := (.object "java/lang/String")) (by decide)
                  have F_protectedTerm_b29 : Fld Z h29 b29 "org/linkweave/core/TermDefinition" "protectedTerm" "Z" (.int (0 : Int32)) := D29 (Or.inr (hw _ (List.mem_of_getElem? (i := 71) rfl))) (ty := .boolean) (by decide)
                  show Go p e below T29 (mkF m 131 #[.val (.int p0), .val (.int p1), .val (.int p2), .val (.int p3), .val (.int b4), .val (.int b5), .val (.int b6), .val (.int b7), .val (.int b8), .val (.ref x25), .val (.ref x26), .val (.ref x27), .val (.ref x28), .unset, .unset] [(.ref b29)]) _
                  refine Go.step (fun _ => XS.dup X29.here hx rfl (hb hby at_131) rfl rfl) ?_
                  show Go p e below T29 (mkF m 132 #[.val (.int p0), .val (.int p1), .val (.int p2), .val (.int p3), .val (.int b4), .val (.int b5), .val (.int b6), .val (.int b7), .val (.int b8), .val (.ref x25), .val (.ref x26), .val (.ref x27), .val (.ref x28), .unset, .unset] [(.ref b29), (.ref b29)]) _
                  refine Go.step (fun _ => XS.aload X29.here hx rfl (hb hby at_132) rfl rfl ) ?_
                  show Go p e below T29 (mkF m 134 #[.val (.int p0), .val (.int p1), .val (.int p2), .val (.int p3), .val (.int b4), .val (.int b5), .val (.int b6), .val (.int b7), .val (.int b8), .val (.ref x25), .val (.ref x26), .val (.ref x27), .val (.ref x28), .unset, .unset] [(.ref x27), (.ref b29), (.ref b29)]) _
                  refine Go.step (fun _ => XS.iload X29.here hx rfl (hb hby at_134) rfl ) ?_
                  show Go p e below T29 (mkF m 136 #[.val (.int p0), .val (.int p1), .val (.int p2), .val (.int p3), .val (.int b4), .val (.int b5), .val (.int b6), .val (.int b7), .val (.int b8), .val (.ref x25), .val (.ref x26), .val (.ref x27), .val (.ref x28), .unset, .unset] [(.int b6), (.ref x27), (.ref b29), (.ref b29)]) _
                  refine Go.step (fun _ => XS.iload X29.here hx rfl (hb hby at_136) rfl ) ?_
                  show Go p e below T29 (mkF m 138 #[.val (.int p0), .val (.int p1), .val (.int p2), .val (.int p3), .val (.int b4), .val (.int b5), .val (.int b6), .val (.int b7), .val (.int b8), .val (.ref x25), .val (.ref x26), .val (.ref x27), .val (.ref x28), .unset, .unset] [(.int b7), (.int b6), (.ref x27), (.ref b29), (.ref b29)]) _
                  refine Go.step (fun _ => XS.aload X29.here hx rfl (hb hby at_138) rfl rfl ) ?_
                  show Go p e below T29 (mkF m 140 #[.val (.int p0), .val (.int p1), .val (.int p2), .val (.int p3), .val (.int b4), .val (.int b5), .val (.int b6), .val (.int b7), .val (.int b8), .val (.ref x25), .val (.ref x26), .val (.ref x27), .val (.ref x28), .unset, .unset] [(.ref x27), (.int b7), (.int b6), (.ref x27), (.ref b29), (.ref b29)]) _
                  refine Go.step (fun _ => XS.aconstNull X29.here hx rfl (hb hby at_140)) ?_
                  show Go p e below T29 (mkF m 141 #[.val (.int p0), .val (.int p1), .val (.int p2), .val (.int p3), .val (.int b4), .val (.int b5), .val (.int b6), .val (.int b7), .val (.int b8), .val (.ref x25), .val (.ref x26), .val (.ref x27), .val (.ref x28), .unset, .unset] [.null, (.ref x27), (.int b7), (.int b6), (.ref x27), (.ref b29), (.ref b29)]) _
                  refine Go.step (fun _ => XS.iload X29.here hx rfl (hb hby at_141) rfl ) ?_
                  show Go p e below T29 (mkF m 143 #[.val (.int p0), .val (.int p1), .val (.int p2), .val (.int p3), .val (.int b4), .val (.int b5), .val (.int b6), .val (.int b7), .val (.int b8), .val (.ref x25), .val (.ref x26), .val (.ref x27), .val (.ref x28), .unset, .unset] [(.int b4), .null, (.ref x27), (.int b7), (.int b6), (.ref x27), (.ref b29), (.ref b29)]) _
                  refine Go.step (fun _ => XS.aload X29.here hx rfl (hb hby at_143) rfl rfl ) ?_
                  show Go p e below T29 (mkF m 145 #[.val (.int p0), .val (.int p1), .val (.int p2), .val (.int p3), .val (.int b4), .val (.int b5), .val (.int b6), .val (.int b7), .val (.int b8), .val (.ref x25), .val (.ref x26), .val (.ref x27), .val (.ref x28), .unset, .unset] [(.ref x25), (.int b4), .null, (.ref x27), (.int b7), (.int b6), (.ref x27), (.ref b29), (.ref b29)]) _
                  refine Go.step (fun _ => XS.iload X29.here hx rfl (hb hby at_145) rfl ) ?_
                  show Go p e below T29 (mkF m 147 #[.val (.int p0), .val (.int p1), .val (.int p2), .val (.int p3), .val (.int b4), .val (.int b5), .val (.int b6), .val (.int b7), .val (.int b8), .val (.ref x25), .val (.ref x26), .val (.ref x27), .val (.ref x28), .unset, .unset] [(.int b5), (.ref x25), (.int b4), .null, (.ref x27), (.int b7), (.int b6), (.ref x27), (.ref b29), (.ref b29)]) _
                  refine Go.step (fun _ => XS.aload X29.here hx rfl (hb hby at_147) rfl rfl ) ?_
                  show Go p e below T29 (mkF m 149 #[.val (.int p0), .val (.int p1), .val (.int p2), .val (.int p3), .val (.int b4), .val (.int b5), .val (.int b6), .val (.int b7), .val (.int b8), .val (.ref x25), .val (.ref x26), .val (.ref x27), .val (.ref x28), .unset, .unset] [(.ref x28), (.int b5), (.ref x25), (.int b4), .null, (.ref x27), (.int b7), (.int b6), (.ref x27), (.ref b29), (.ref b29)]) _
                  refine Go.step (fun _ => XS.aload X29.here hx rfl (hb hby at_149) rfl rfl ) ?_
                  show Go p e below T29 (mkF m 151 #[.val (.int p0), .val (.int p1), .val (.int p2), .val (.int p3), .val (.int b4), .val (.int b5), .val (.int b6), .val (.int b7), .val (.int b8), .val (.ref x25), .val (.ref x26), .val (.ref x27), .val (.ref x28), .unset, .unset] [(.ref x27), (.ref x28), (.int b5), (.ref x25), (.int b4), .null, (.ref x27), (.int b7), (.int b6), (.ref x27), (.ref b29), (.ref b29)]) _
                  refine Go.step (fun _ => XS.aconstNull X29.here hx rfl (hb hby at_151)) ?_
                  show Go p e below T29 (mkF m 152 #[.val (.int p0), .val (.int p1), .val (.int p2), .val (.int p3), .val (.int b4), .val (.int b5), .val (.int b6), .val (.int b7), .val (.int b8), .val (.ref x25), .val (.ref x26), .val (.ref x27), .val (.ref x28), .unset, .unset] [.null, (.ref x27), (.ref x28), (.int b5), (.ref x25), (.int b4), .null, (.ref x27), (.int b7), (.int b6), (.ref x27), (.ref b29), (.ref b29)]) _
                  refine Go.step (fun _ => XS.aload X29.here hx rfl (hb hby at_152) rfl rfl ) ?_
                  show Go p e below T29 (mkF m 154 #[.val (.int p0), .val (.int p1), .val (.int p2), .val (.int p3), .val (.int b4), .val (.int b5), .val (.int b6), .val (.int b7), .val (.int b8), .val (.ref x25), .val (.ref x26), .val (.ref x27), .val (.ref x28), .unset, .unset] [(.ref x27), .null, (.ref x27), (.ref x28), (.int b5), (.ref x25), (.int b4), .null, (.ref x27), (.int b7), (.int b6), (.ref x27), (.ref b29), (.ref b29)]) _
                  refine Go.step (fun _ => XS.iload X29.here hx rfl (hb hby at_154) rfl ) ?_
                  show Go p e below T29 (mkF m 156 #[.val (.int p0), .val (.int p1), .val (.int p2), .val (.int p3), .val (.int b4), .val (.int b5), .val (.int b6), .val (.int b7), .val (.int b8), .val (.ref x25), .val (.ref x26), .val (.ref x27), .val (.ref x28), .unset, .unset] [(.int b8), (.ref x27), .null, (.ref x27), (.ref x28), (.int b5), (.ref x25), (.int b4), .null, (.ref x27), (.int b7), (.int b6), (.ref x27), (.ref b29), (.ref b29)]) _
                  obtain ⟨_, _, ⟨T30, L30, k30, n30⟩, -, X30, ⟨Lc30, hQ30, l30, y30, z30⟩, st30⟩ := X29.specialBack hx (y := (⟨"org/linkweave/core/TermDefinition", "<init>", "(Ljava/lang/String;ZZLjava/lang/String;Ljava/util/Set;ZLjava/lang/String;ZLjava/lang/String;Ljava/lang/String;Lorg/linkweave/core/TermDefinition$ScopedContext;Ljava/lang/String;Z)V"⟩ : MethodName)) rfl hown (mvT hZ (hw _ (List.mem_of_getElem? (i := 37) rfl))) (mvT hZ (hw _ (List.mem_of_getElem? (i := 38) rfl))) (mvT hZ (hw _ (List.mem_of_getElem? (i := 39) rfl))) (by decide) (backOf (W := 1) (rmCt l Z a0 hw [] b29 x27 b6 b7 x27 b4 (.ref x25) b5 (.ref x28) x27 x27 b8 h29 n0 Z29 A29 F_iri_b29 F_prefix_b29 F_reverse_b29 F_typeMapping_b29 F_container_b29 F_hasLanguage_b29 F_language_b29 F_hasDirection_b29 F_direction_b29 F_index_b29 F_scopedContext_b29 F_nest_b29 F_protectedTerm_b29 g_b29 rfl rfl) hZ (hw _ (List.mem_of_getElem? (i := 39) rfl)) (hw _ (List.mem_of_getElem? (i := 36) rfl)) (by decide) (by decide)) (g := (mkF m 156 #[.val (.int p0), .val (.int p1), .val (.int p2), .val (.int p3), .val (.int b4), .val (.int b5), .val (.int b6), .val (.int b7), .val (.int b8), .val (.ref x25), .val (.ref x26), .val (.ref x27), .val (.ref x28), .unset, .unset] [(.int b8), (.ref x27), .null, (.ref x27), (.ref x28), (.int b5), (.ref x25), (.int b4), .null, (.ref x27), (.int b7), (.int b6), (.ref x27), (.ref b29), (.ref b29)])) rfl (by rw [hml]; rfl) (Steps.refl _) (a := b29) (argsL := [(.ref x27), (.int b6), (.int b7), (.ref x27), .null, (.int b4), (.ref x25), (.int b5), (.ref x28), (.ref x27), .null, (.ref x27), (.int b8)]) (rest := [(.ref b29)]) (lenOf pd_3 rfl) rfl (by show 2 * 0 + _ ≤ _; exact Nat.le_of_eq rfl) (hb hby at_156) (fun _ _ => ⟨rfl, e29, (by decide : 0 + 3 + 3 + 3 + 3 + 1 + 0 ≤ _), (by decide : 0 + 8 + 8 + 8 + 8 + 13 + 0 ≤ _)⟩)
                  dsimp only [Pt.U, Pt.locs, Pt.cells, Pt.slots] at X30 l30 y30 z30 st30 hQ30
                  subst l30 y30 z30
                  obtain ⟨rfl, Nq30, K30, Ex30, FB30, FL30⟩ := hQ30
                  have N30 := Fr.app N28 Nq30
                  refine Go.call st30 ?_
                  have O2_q30 := own_staKeep O2_q29 K30 (allS (own_plainE A29) all0)
                  have A29_q30 := A29.keep K30
                  have Z30 : n0 ≤ T30.heap.size := Nat.le_trans Z29 K30.1
                  show Go p e below T30 (mkF m 159 #[.val (.int p0), .val (.int p1), .val (.int p2), .val (.int p3), .val (.int b4), .val (.int b5), .val (.int b6), .val (.int b7), .val (.int b8), .val (.ref x25), .val (.ref x26), .val (.ref x27), .val (.ref x28), .unset, .unset] [(.ref b29)]) _
                  refine Go.step (fun _ => XS.astore X30.here hx rfl (hb hby at_159) rfl rfl (l' := #[.val (.int p0), .val (.int p1), .val (.int p2), .val (.int p3), .val (.int b4), .val (.int b5), .val (.int b6), .val (.int b7), .val (.int b8), .val (.ref x25), .val (.ref x26), .val (.ref x27), .val (.ref x28), .val (.ref b29), .unset]) rfl) ?_
                  show Go p e below T30 (mkF m 161 #[.val (.int p0), .val (.int p1), .val (.int p2), .val (.int p3), .val (.int b4), .val (.int b5), .val (.int b6), .val (.int b7), .val (.int b8), .val (.ref x25), .val (.ref x26), .val (.ref x27), .val (.ref x28), .val (.ref b29), .unset] []) _
                  refine Go.step (fun _ => XS.aload X30.here hx rfl (hb hby at_161) rfl rfl ) ?_
                  show Go p e below T30 (mkF m 163 #[.val (.int p0), .val (.int p1), .val (.int p2), .val (.int p3), .val (.int b4), .val (.int b5), .val (.int b6), .val (.int b7), .val (.int b8), .val (.ref x25), .val (.ref x26), .val (.ref x27), .val (.ref x28), .val (.ref b29), .unset] [(.ref b29)]) _
                  refine Go.step (fun _ => XS.aload X30.here hx rfl (hb hby at_163) rfl rfl ) ?_
                  show Go p e below T30 (mkF m 165 #[.val (.int p0), .val (.int p1), .val (.int p2), .val (.int p3), .val (.int b4), .val (.int b5), .val (.int b6), .val (.int b7), .val (.int b8), .val (.ref x25), .val (.ref x26), .val (.ref x27), .val (.ref x28), .val (.ref b29), .unset] [(.ref x26), (.ref b29)]) _
                  rcases hb4 with rfl | rfl
                  · skip
                    obtain ⟨cq31, kq31, q31a, q31b, q31c⟩ := isOf hZ rfl A29_q30
                    obtain ⟨_, _, ⟨T31, L31, k31, n31⟩, -, X31, ⟨Lc31, hQ31, l31, y31, z31⟩, st31⟩ := X30.virtualBack hx (y := (⟨"org/linkweave/core/TermDefinition", "language", "(Ljava/lang/String;)Ljava/lang/String;"⟩ : MethodName)) (z := (⟨"org/linkweave/core/TermDefinition", "language", "(Ljava/lang/String;)Ljava/lang/String;"⟩ : MethodName)) hown (mvT hZ (hw _ (List.mem_of_getElem? (i := 72) rfl))) (mvT hZ (hw _ (List.mem_of_getElem? (i := 73) rfl))) (notFace_of_selects (args := #[]) (mvT hZ (hw _ (List.mem_of_getElem? (i := 75) rfl)))) (mvT hZ (hw _ (List.mem_of_getElem? (i := 75) rfl))) (mvT hZ (hw _ (List.mem_of_getElem? (i := 74) rfl))) (by decide) (backOf (W := 0) (rmLa l Z a0 hw [] b29 (.ref x26) (nar .boolean (0 : Int32)) (.ref x25) (.ref x26) T30.heap n0 Z30 FB30 FL30 rfl rfl (by first | rfl | decide)) hZ (hw _ (List.mem_of_getElem? (i := 76) rfl)) (hw _ (List.mem_of_getElem? (i := 36) rfl)) (by decide) (by decide)) q31a q31c (g := (mkF m 165 #[.val (.int p0), .val (.int p1), .val (.int p2), .val (.int p3), .val (.int (0 : Int32)), .val (.int b5), .val (.int b6), .val (.int b7), .val (.int b8), .val (.ref x25), .val (.ref x26), .val (.ref x27), .val (.ref x28), .val (.ref b29), .unset] [(.ref x26), (.ref b29)])) rfl (by rw [hml]; rfl) (Steps.refl _) (argsL := [(.ref x26)]) (rest := []) (lenOf pd_4 rfl) rfl (by show 2 * 0 + _ ≤ _; exact Nat.le_of_eq rfl) (hb hby at_165) (fun _ _ => ⟨rfl, rfl, (by decide : 0 + 3 + 3 + 3 + 3 + 1 + 0 + 0 ≤ _), (by decide : 0 + 8 + 8 + 8 + 8 + 13 + 0 + 0 ≤ _)⟩)
                    dsimp only [Pt.U, Pt.locs, Pt.cells, Pt.slots] at X31 l31 y31 z31 st31 hQ31
                    subst l31 y31 z31
                    obtain ⟨rfl, Nq31, eh31⟩ := hQ31
                    have N31 := Fr.app N30 Nq31
                    refine Go.call st31 ?_
                    show Go p e below T31 (mkF m 168 #[.val (.int p0), .val (.int p1), .val (.int p2), .val (.int p3), .val (.int (0 : Int32)), .val (.int b5), .val (.int b6), .val (.int b7), .val (.int b8), .val (.ref x25), .val (.ref x26), .val (.ref x27), .val (.ref x28), .val (.ref b29), .unset] [(.ref x26)]) _
                    refine Go.step (fun _ => XS.astore X31.here hx rfl (hb hby at_168) rfl rfl (l' := #[.val (.int p0), .val (.int p1), .val (.int p2), .val (.int p3), .val (.int (0 : Int32)), .val (.int b5), .val (.int b6), .val (.int b7), .val (.int b8), .val (.ref x25), .val (.ref x26), .val (.ref x27), .val (.ref x28), .val (.ref b29), .val (.ref x26)]) rfl) ?_
                    show Go p e below T31 (mkF m 170 #[.val (.int p0), .val (.int p1), .val (.int p2), .val (.int p3), .val (.int (0 : Int32)), .val (.int b5), .val (.int b6), .val (.int b7), .val (.int b8), .val (.ref x25), .val (.ref x26), .val (.ref x27), .val (.ref x28), .val (.ref b29), .val (.ref x26)] []) _
                    refine Go.step (fun _ => XS.iload X31.here hx rfl (hb hby at_170) rfl ) ?_
                    show Go p e below T31 (mkF m 172 #[.val (.int p0), .val (.int p1), .val (.int p2), .val (.int p3), .val (.int (0 : Int32)), .val (.int b5), .val (.int b6), .val (.int b7), .val (.int b8), .val (.ref x25), .val (.ref x26), .val (.ref x27), .val (.ref x28), .val (.ref b29), .val (.ref x26)] [(.int (0 : Int32))]) _
                    refine Go.step (fun _ => XS.ifYes X31.here hx rfl (pc0 := 172) (pc' := 188) rfl (hb hby at_172) rfl ((if0 _ _).trans (teq (by decide)).1) (by decide) (by decide)) ?_
                    show Go p e below T31 (mkF m 188 #[.val (.int p0), .val (.int p1), .val (.int p2), .val (.int p3), .val (.int (0 : Int32)), .val (.int b5), .val (.int b6), .val (.int b7), .val (.int b8), .val (.ref x25), .val (.ref x26), .val (.ref x27), .val (.ref x28), .val (.ref b29), .val (.ref x26)] []) _
                    refine Go.step (fun _ => XS.aload X31.here hx rfl (hb hby at_188) rfl rfl ) ?_
                    show Go p e below T31 (mkF m 190 #[.val (.int p0), .val (.int p1), .val (.int p2), .val (.int p3), .val (.int (0 : Int32)), .val (.int b5), .val (.int b6), .val (.int b7), .val (.int b8), .val (.ref x25), .val (.ref x26), .val (.ref x27), .val (.ref x28), .val (.ref b29), .val (.ref x26)] [(.ref x26)]) _
                    refine Go.step (fun _ => XS.aload X31.here hx rfl (hb hby at_190) rfl rfl ) ?_
                    show Go p e below T31 (mkF m 192 #[.val (.int p0), .val (.int p1), .val (.int p2), .val (.int p3), .val (.int (0 : Int32)), .val (.int b5), .val (.int b6), .val (.int b7), .val (.int b8), .val (.ref x25), .val (.ref x26), .val (.ref x27), .val (.ref x28), .val (.ref b29), .val (.ref x26)] [(.ref x26), (.ref x26)]) _
                    refine Go.step (fun _ => Jvm.RoadKit.acmp (g := (mkF m 192 #[.val (.int p0), .val (.int p1), .val (.int p2), .val (.int p3), .val (.int (0 : Int32)), .val (.int b5), .val (.int b6), .val (.int b7), .val (.int b8), .val (.ref x25), .val (.ref x26), .val (.ref x27), .val (.ref x28), .val (.ref b29), .val (.ref x26)] [(.ref x26), (.ref x26)])) X31 hx rfl rfl rfl (pc0 := 192) (pc' := 195) (same := true) rfl (hb hby at_192) rfl (decide_eq_true rfl) (by decide) (by decide)) ?_
                    show Go p e below T31 (mkF m 195 #[.val (.int p0), .val (.int p1), .val (.int p2), .val (.int p3), .val (.int (0 : Int32)), .val (.int b5), .val (.int b6), .val (.int b7), .val (.int b8), .val (.ref x25), .val (.ref x26), .val (.ref x27), .val (.ref x28), .val (.ref b29), .val (.ref x26)] []) _
                    refine Go.step (fun _ => XS.iconst X31.here hx rfl (hb hby at_195)) ?_
                    show Go p e below T31 (mkF m 196 #[.val (.int p0), .val (.int p1), .val (.int p2), .val (.int p3), .val (.int (0 : Int32)), .val (.int b5), .val (.int b6), .val (.int b7), .val (.int b8), .val (.ref x25), .val (.ref x26), .val (.ref x27), .val (.ref x28), .val (.ref b29), .val (.ref x26)] [(.int (1 : Int32))]) _
                    refine Go.step (fun _ => XS.goto X31.here hx rfl (pc0 := 196) (pc' := 200) rfl (hb hby at_196) (by decide) (by decide)) ?_
                    show Go p e below T31 (mkF m 200 #[.val (.int p0), .val (.int p1), .val (.int p2), .val (.int p3), .val (.int (0 : Int32)), .val (.int b5), .val (.int b6), .val (.int b7), .val (.int b8), .val (.ref x25), .val (.ref x26), .val (.ref x27), .val (.ref x28), .val (.ref b29), .val (.ref x26)] [(.int (1 : Int32))]) _
                    refine Go.retN (t := .boolean) (z' := (1 : Int32)) X31 hx hret (by simp) hlk (hb hby at_200) (by decide) ?_ (by decide) (by decide)
                    exact ⟨rfl, N31⟩
                  · skip
                    obtain ⟨cq32, kq32, q32a, q32b, q32c⟩ := isOf hZ rfl A29_q30
                    obtain ⟨_, _, ⟨T32, L32, k32, n32⟩, -, X32, ⟨Lc32, hQ32, l32, y32, z32⟩, st32⟩ := X30.virtualBack hx (y := (⟨"org/linkweave/core/TermDefinition", "language", "(Ljava/lang/String;)Ljava/lang/String;"⟩ : MethodName)) (z := (⟨"org/linkweave/core/TermDefinition", "language", "(Ljava/lang/String;)Ljava/lang/String;"⟩ : MethodName)) hown (mvT hZ (hw _ (List.mem_of_getElem? (i := 72) rfl))) (mvT hZ (hw _ (List.mem_of_getElem? (i := 73) rfl))) (notFace_of_selects (args := #[]) (mvT hZ (hw _ (List.mem_of_getElem? (i := 75) rfl)))) (mvT hZ (hw _ (List.mem_of_getElem? (i := 75) rfl))) (mvT hZ (hw _ (List.mem_of_getElem? (i := 74) rfl))) (by decide) (backOf (W := 0) (rmLa l Z a0 hw [] b29 (.ref x26) (nar .boolean (1 : Int32)) (.ref x25) (.ref x25) T30.heap n0 Z30 FB30 FL30 rfl rfl (by first | rfl | decide)) hZ (hw _ (List.mem_of_getElem? (i := 76) rfl)) (hw _ (List.mem_of_getElem? (i := 36) rfl)) (by decide) (by decide)) q32a q32c (g := (mkF m 165 #[.val (.int p0), .val (.int p1), .val (.int p2), .val (.int p3), .val (.int (1 : Int32)), .val (.int b5), .val (.int b6), .val (.int b7), .val (.int b8), .val (.ref x25), .val (.ref x26), .val (.ref x27), .val (.ref x28), .val (.ref b29), .unset] [(.ref x26), (.ref b29)])) rfl (by rw [hml]; rfl) (Steps.refl _) (argsL := [(.ref x26)]) (rest := []) (lenOf pd_4 rfl) rfl (by show 2 * 0 + _ ≤ _; exact Nat.le_of_eq rfl) (hb hby at_165) (fun _ _ => ⟨rfl, rfl, (by decide : 0 + 3 + 3 + 3 + 3 + 1 + 0 + 0 ≤ _), (by decide : 0 + 8 + 8 + 8 + 8 + 13 + 0 + 0 ≤ _)⟩)
                    dsimp only [Pt.U, Pt.locs, Pt.cells, Pt.slots] at X32 l32 y32 z32 st32 hQ32
                    subst l32 y32 z32
                    obtain ⟨rfl, Nq32, eh32⟩ := hQ32
                    have N32 := Fr.app N30 Nq32
                    refine Go.call st32 ?_
                    show Go p e below T32 (mkF m 168 #[.val (.int p0), .val (.int p1), .val (.int p2), .val (.int p3), .val (.int (1 : Int32)), .val (.int b5), .val (.int b6), .val (.int b7), .val (.int b8), .val (.ref x25), .val (.ref x26), .val (.ref x27), .val (.ref x28), .val (.ref b29), .unset] [(.ref x25)]) _
                    refine Go.step (fun _ => XS.astore X32.here hx rfl (hb hby at_168) rfl rfl (l' := #[.val (.int p0), .val (.int p1), .val (.int p2), .val (.int p3), .val (.int (1 : Int32)), .val (.int b5), .val (.int b6), .val (.int b7), .val (.int b8), .val (.ref x25), .val (.ref x26), .val (.ref x27), .val (.ref x28), .val (.ref b29), .val (.ref x25)]) rfl) ?_
                    show Go p e below T32 (mkF m 170 #[.val (.int p0), .val (.int p1), .val (.int p2), .val (.int p3), .val (.int (1 : Int32)), .val (.int b5), .val (.int b6), .val (.int b7), .val (.int b8), .val (.ref x25), .val (.ref x26), .val (.ref x27), .val (.ref x28), .val (.ref b29), .val (.ref x25)] []) _
                    refine Go.step (fun _ => XS.iload X32.here hx rfl (hb hby at_170) rfl ) ?_
                    show Go p e below T32 (mkF m 172 #[.val (.int p0), .val (.int p1), .val (.int p2), .val (.int p3), .val (.int (1 : Int32)), .val (.int b5), .val (.int b6), .val (.int b7), .val (.int b8), .val (.ref x25), .val (.ref x26), .val (.ref x27), .val (.ref x28), .val (.ref b29), .val (.ref x25)] [(.int (1 : Int32))]) _
                    refine Go.step (fun _ => XS.ifNo X32.here hx rfl (hb hby at_172) rfl ((if0 _ _).trans (feq (by decide)).1)) ?_
                    show Go p e below T32 (mkF m 175 #[.val (.int p0), .val (.int p1), .val (.int p2), .val (.int p3), .val (.int (1 : Int32)), .val (.int b5), .val (.int b6), .val (.int b7), .val (.int b8), .val (.ref x25), .val (.ref x26), .val (.ref x27), .val (.ref x28), .val (.ref b29), .val (.ref x25)] []) _
                    refine Go.step (fun _ => XS.aload X32.here hx rfl (hb hby at_175) rfl rfl ) ?_
                    show Go p e below T32 (mkF m 177 #[.val (.int p0), .val (.int p1), .val (.int p2), .val (.int p3), .val (.int (1 : Int32)), .val (.int b5), .val (.int b6), .val (.int b7), .val (.int b8), .val (.ref x25), .val (.ref x26), .val (.ref x27), .val (.ref x28), .val (.ref b29), .val (.ref x25)] [(.ref x25)]) _
                    refine Go.step (fun _ => XS.aload X32.here hx rfl (hb hby at_177) rfl rfl ) ?_
                    show Go p e below T32 (mkF m 179 #[.val (.int p0), .val (.int p1), .val (.int p2), .val (.int p3), .val (.int (1 : Int32)), .val (.int b5), .val (.int b6), .val (.int b7), .val (.int b8), .val (.ref x25), .val (.ref x26), .val (.ref x27), .val (.ref x28), .val (.ref b29), .val (.ref x25)] [(.ref x25), (.ref x25)]) _
                    refine Go.step (fun _ => Jvm.RoadKit.acmp (g := (mkF m 179 #[.val (.int p0), .val (.int p1), .val (.int p2), .val (.int p3), .val (.int (1 : Int32)), .val (.int b5), .val (.int b6), .val (.int b7), .val (.int b8), .val (.ref x25), .val (.ref x26), .val (.ref x27), .val (.ref x28), .val (.ref b29), .val (.ref x25)] [(.ref x25), (.ref x25)])) X32 hx rfl rfl rfl (pc0 := 179) (pc' := 182) (same := true) rfl (hb hby at_179) rfl (decide_eq_true rfl) (by decide) (by decide)) ?_
                    show Go p e below T32 (mkF m 182 #[.val (.int p0), .val (.int p1), .val (.int p2), .val (.int p3), .val (.int (1 : Int32)), .val (.int b5), .val (.int b6), .val (.int b7), .val (.int b8), .val (.ref x25), .val (.ref x26), .val (.ref x27), .val (.ref x28), .val (.ref b29), .val (.ref x25)] []) _
                    refine Go.step (fun _ => XS.iconst X32.here hx rfl (hb hby at_182)) ?_
                    show Go p e below T32 (mkF m 183 #[.val (.int p0), .val (.int p1), .val (.int p2), .val (.int p3), .val (.int (1 : Int32)), .val (.int b5), .val (.int b6), .val (.int b7), .val (.int b8), .val (.ref x25), .val (.ref x26), .val (.ref x27), .val (.ref x28), .val (.ref b29), .val (.ref x25)] [(.int (1 : Int32))]) _
                    refine Go.step (fun _ => XS.goto X32.here hx rfl (pc0 := 183) (pc' := 187) rfl (hb hby at_183) (by decide) (by decide)) ?_
                    show Go p e below T32 (mkF m 187 #[.val (.int p0), .val (.int p1), .val (.int p2), .val (.int p3), .val (.int (1 : Int32)), .val (.int b5), .val (.int b6), .val (.int b7), .val (.int b8), .val (.ref x25), .val (.ref x26), .val (.ref x27), .val (.ref x28), .val (.ref b29), .val (.ref x25)] [(.int (1 : Int32))]) _
                    refine Go.retN (t := .boolean) (z' := (1 : Int32)) X32 hx hret (by simp) hlk (hb hby at_187) (by decide) ?_ (by decide) (by decide)
                    exact ⟨rfl, N32⟩
                · skip
                  refine Go.step (fun _ => XS.ifNo X27.here hx rfl (hb hby at_112) rfl ((if0 _ _).trans (feq hc112).1)) ?_
                  show Go p e below T27 (mkF m 115 #[.val (.int p0), .val (.int p1), .val (.int p2), .val (.int p3), .val (.int b4), .val (.int b5), .val (.int b6), .val (.int b7), .val (.int b8), .val (.ref x25), .val (.ref x26), .val (.ref x27), .unset, .unset, .unset] []) _
                  refine Go.step (fun _ => XS.aconstNull X27.here hx rfl (hb hby at_115)) ?_
                  show Go p e below T27 (mkF m 116 #[.val (.int p0), .val (.int p1), .val (.int p2), .val (.int p3), .val (.int b4), .val (.int b5), .val (.int b6), .val (.int b7), .val (.int b8), .val (.ref x25), .val (.ref x26), .val (.ref x27), .unset, .unset, .unset] [.null]) _
                  refine Go.step (fun _ => XS.goto X27.here hx rfl (pc0 := 116) (pc' := 126) rfl (hb hby at_116) (by decide) (by decide)) ?_
                  show Go p e below T27 (mkF m 126 #[.val (.int p0), .val (.int p1), .val (.int p2), .val (.int p3), .val (.int b4), .val (.int b5), .val (.int b6), .val (.int b7), .val (.int b8), .val (.ref x25), .val (.ref x26), .val (.ref x27), .unset, .unset, .unset] [.null]) _
                  refine Go.step (fun _ => XS.astore X27.here hx rfl (hb hby at_126) rfl rfl (l' := #[.val (.int p0), .val (.int p1), .val (.int p2), .val (.int p3), .val (.int b4), .val (.int b5), .val (.int b6), .val (.int b7), .val (.int b8), .val (.ref x25), .val (.ref x26), .val (.ref x27), .val .null, .unset, .unset]) rfl) ?_
                  show Go p e below T27 (mkF m 128 #[.val (.int p0), .val (.int p1), .val (.int p2), .val (.int p3), .val (.int b4), .val (.int b5), .val (.int b6), .val (.int b7), .val (.int b8), .val (.ref x25), .val (.ref x26), .val (.ref x27), .val .null, .unset, .unset] []) _
                  obtain ⟨T33, h33, X33, e33, E33, A33, D33, -, st33⟩ := newO X27 hx hZ hown (hw _ (List.mem_of_getElem? (i := 34) rfl)) (hw _ (List.mem_of_getElem? (i := 35) rfl)) (hw _ (List.mem_of_getElem? (i := 36) rfl)) rfl (g := (mkF m 128 #[.val (.int p0), .val (.int p1), .val (.int p2), .val (.int p3), .val (.int b4), .val (.int b5), .val (.int b6), .val (.int b7), .val (.int b8), .val (.ref x25), .val (.ref x26), .val (.ref x27), .val .null, .unset, .unset] [])) rfl (hb hby at_128) (by decide) (by decide)
                  obtain ⟨b33, g33⟩ : ∃ z, z = T27.heap.size := ⟨_, rfl⟩
                  rw [← g33] at A33 D33 st33
                  have g_b33 : n0 ≤ b33 := Nat.le_trans Z27 (Nat.le_of_eq g33.symm)
                  have O2_q33 := O2_q27.ext E33
                  have Z33 : n0 ≤ h33.size := Nat.le_trans Z27 E33.1
                  refine Go.step st33 ?_
                  have F_iri_b33 : Fld Z h33 b33 "org/linkweave/core/TermDefinition" "iri" "Ljava/lang/String;" .null := D33 (Or.inr (hw _ (List.mem_of_getElem? (i := 47) rfl))) (ty := (.object "java/lang/String")) (by decide)
                  have F_prefix_b33 : Fld Z h33 b33 "org/linkweave/core/TermDefinition" "prefix" "Z" (.int (0 : Int32)) := D33 (Or.inr (hw _ (List.mem_of_getElem? (i := 49) rfl))) (ty := .boolean) (by decide)
                  have F_reverse_b33 : Fld Z h33 b33 "org/linkweave/core/TermDefinition" "reverse" "Z" (.int (0 : Int32)) := D33 (Or.inr (hw _ (List.mem_of_getElem? (i := 51) rfl))) (ty := .boolean) (by decide)
                  have F_typeMapping_b33 : Fld Z h33 b33 "org/linkweave/core/TermDefinition" "typeMapping" "Ljava/lang/String;" .null := D33 (Or.inr (hw _ (List.mem_of_getElem? (i := 53) rfl))) (ty := (.object "java/lang/String")) (by decide)
                  have F_container_b33 : Fld Z h33 b33 "org/linkweave/core/TermDefinition" "container" "Ljava/util/Set;" .null := D33 (Or.inr (hw _ (List.mem_of_getElem? (i := 55) rfl))) (ty := (.object "java/util/Set")) (by decide)
                  have F_hasLanguage_b33 : Fld Z h33 b33 "org/linkweave/core/TermDefinition" "hasLanguage" "Z" (.int (0 : Int32)) := D33 (Or.inr (hw _ (List.mem_of_getElem? (i := 57) rfl))) (ty := .boolean) (by decide)
                  have F_language_b33 : Fld Z h33 b33 "org/linkweave/core/TermDefinition" "language" "Ljava/lang/String;" .null := D33 (Or.inr (hw _ (List.mem_of_getElem? (i := 59) rfl))) (ty := (.object "java/lang/String")) (by decide)
                  have F_hasDirection_b33 : Fld Z h33 b33 "org/linkweave/core/TermDefinition" "hasDirection" "Z" (.int (0 : Int32)) := D33 (Or.inr (hw _ (List.mem_of_getElem? (i := 61) rfl))) (ty := .boolean) (by decide)
                  have F_direction_b33 : Fld Z h33 b33 "org/linkweave/core/TermDefinition" "direction" "Ljava/lang/String;" .null := D33 (Or.inr (hw _ (List.mem_of_getElem? (i := 63) rfl))) (ty := (.object "java/lang/String")) (by decide)
                  have F_index_b33 : Fld Z h33 b33 "org/linkweave/core/TermDefinition" "index" "Ljava/lang/String;" .null := D33 (Or.inr (hw _ (List.mem_of_getElem? (i := 65) rfl))) (ty := (.object "java/lang/String")) (by decide)
                  have F_scopedContext_b33 : Fld Z h33 b33 "org/linkweave/core/TermDefinition" "scopedContext" "Lorg/linkweave/core/TermDefinition$ScopedContext;" .null := D33 (Or.inr (hw _ (List.mem_of_getElem? (i := 67) rfl))) (ty := (.object "org/linkweave/core/TermDefinition$ScopedContext")) (by decide)
                  have F_nest_b33 : Fld Z h33 b33 "org/linkweave/core/TermDefinition" "nest" "Ljava/lang/String;" .null := D33 (Or.inr (hw _ (List.mem_of_getElem? (i := 69) rfl))) (ty := (.object "java/lang/String")) (by decide)
                  have F_protectedTerm_b33 : Fld Z h33 b33 "org/linkweave/core/TermDefinition" "protectedTerm" "Z" (.int (0 : Int32)) := D33 (Or.inr (hw _ (List.mem_of_getElem? (i := 71) rfl))) (ty := .boolean) (by decide)
                  show Go p e below T33 (mkF m 131 #[.val (.int p0), .val (.int p1), .val (.int p2), .val (.int p3), .val (.int b4), .val (.int b5), .val (.int b6), .val (.int b7), .val (.int b8), .val (.ref x25), .val (.ref x26), .val (.ref x27), .val .null, .unset, .unset] [(.ref b33)]) _
                  refine Go.step (fun _ => XS.dup X33.here hx rfl (hb hby at_131) rfl rfl) ?_
                  show Go p e below T33 (mkF m 132 #[.val (.int p0), .val (.int p1), .val (.int p2), .val (.int p3), .val (.int b4), .val (.int b5), .val (.int b6), .val (.int b7), .val (.int b8), .val (.ref x25), .val (.ref x26), .val (.ref x27), .val .null, .unset, .unset] [(.ref b33), (.ref b33)]) _
                  refine Go.step (fun _ => XS.aload X33.here hx rfl (hb hby at_132) rfl rfl ) ?_
                  show Go p e below T33 (mkF m 134 #[.val (.int p0), .val (.int p1), .val (.int p2), .val (.int p3), .val (.int b4), .val (.int b5), .val (.int b6), .val (.int b7), .val (.int b8), .val (.ref x25), .val (.ref x26), .val (.ref x27), .val .null, .unset, .unset] [(.ref x27), (.ref b33), (.ref b33)]) _
                  refine Go.step (fun _ => XS.iload X33.here hx rfl (hb hby at_134) rfl ) ?_
                  show Go p e below T33 (mkF m 136 #[.val (.int p0), .val (.int p1), .val (.int p2), .val (.int p3), .val (.int b4), .val (.int b5), .val (.int b6), .val (.int b7), .val (.int b8), .val (.ref x25), .val (.ref x26), .val (.ref x27), .val .null, .unset, .unset] [(.int b6), (.ref x27), (.ref b33), (.ref b33)]) _
                  refine Go.step (fun _ => XS.iload X33.here hx rfl (hb hby at_136) rfl ) ?_
                  show Go p e below T33 (mkF m 138 #[.val (.int p0), .val (.int p1), .val (.int p2), .val (.int p3), .val (.int b4), .val (.int b5), .val (.int b6), .val (.int b7), .val (.int b8), .val (.ref x25), .val (.ref x26), .val (.ref x27), .val .null, .unset, .unset] [(.int b7), (.int b6), (.ref x27), (.ref b33), (.ref b33)]) _
                  refine Go.step (fun _ => XS.aload X33.here hx rfl (hb hby at_138) rfl rfl ) ?_
                  show Go p e below T33 (mkF m 140 #[.val (.int p0), .val (.int p1), .val (.int p2), .val (.int p3), .val (.int b4), .val (.int b5), .val (.int b6), .val (.int b7), .val (.int b8), .val (.ref x25), .val (.ref x26), .val (.ref x27), .val .null, .unset, .unset] [(.ref x27), (.int b7), (.int b6), (.ref x27), (.ref b33), (.ref b33)]) _
                  refine Go.step (fun _ => XS.aconstNull X33.here hx rfl (hb hby at_140)) ?_
                  show Go p e below T33 (mkF m 141 #[.val (.int p0), .val (.int p1), .val (.int p2), .val (.int p3), .val (.int b4), .val (.int b5), .val (.int b6), .val (.int b7), .val (.int b8), .val (.ref x25), .val (.ref x26), .val (.ref x27), .val .null, .unset, .unset] [.null, (.ref x27), (.int b7), (.int b6), (.ref x27), (.ref b33), (.ref b33)]) _
                  refine Go.step (fun _ => XS.iload X33.here hx rfl (hb hby at_141) rfl ) ?_
                  show Go p e below T33 (mkF m 143 #[.val (.int p0), .val (.int p1), .val (.int p2), .val (.int p3), .val (.int b4), .val (.int b5), .val (.int b6), .val (.int b7), .val (.int b8), .val (.ref x25), .val (.ref x26), .val (.ref x27), .val .null, .unset, .unset] [(.int b4), .null, (.ref x27), (.int b7), (.int b6), (.ref x27), (.ref b33), (.ref b33)]) _
                  refine Go.step (fun _ => XS.aload X33.here hx rfl (hb hby at_143) rfl rfl ) ?_
                  show Go p e below T33 (mkF m 145 #[.val (.int p0), .val (.int p1), .val (.int p2), .val (.int p3), .val (.int b4), .val (.int b5), .val (.int b6), .val (.int b7), .val (.int b8), .val (.ref x25), .val (.ref x26), .val (.ref x27), .val .null, .unset, .unset] [(.ref x25), (.int b4), .null, (.ref x27), (.int b7), (.int b6), (.ref x27), (.ref b33), (.ref b33)]) _
                  refine Go.step (fun _ => XS.iload X33.here hx rfl (hb hby at_145) rfl ) ?_
                  show Go p e below T33 (mkF m 147 #[.val (.int p0), .val (.int p1), .val (.int p2), .val (.int p3), .val (.int b4), .val (.int b5), .val (.int b6), .val (.int b7), .val (.int b8), .val (.ref x25), .val (.ref x26), .val (.ref x27), .val .null, .unset, .unset] [(.int b5), (.ref x25), (.int b4), .null, (.ref x27), (.int b7), (.int b6), (.ref x27), (.ref b33), (.ref b33)]) _
                  refine Go.step (fun _ => XS.aload X33.here hx rfl (hb hby at_147) rfl rfl ) ?_
                  show Go p e below T33 (mkF m 149 #[.val (.int p0), .val (.int p1), .val (.int p2), .val (.int p3), .val (.int b4), .val (.int b5), .val (.int b6), .val (.int b7), .val (.int b8), .val (.ref x25), .val (.ref x26), .val (.ref x27), .val .null, .unset, .unset] [.null, (.int b5), (.ref x25), (.int b4), .null, (.ref x27), (.int b7), (.int b6), (.ref x27), (.ref b33), (.ref b33)]) _
                  refine Go.step (fun _ => XS.aload X33.here hx rfl (hb hby at_149) rfl rfl ) ?_
                  show Go p e below T33 (mkF m 151 #[.val (.int p0), .val (.int p1), .val (.int p2), .val (.int p3), .val (.int b4), .val (.int b5), .val (.int b6), .val (.int b7), .val (.int b8), .val (.ref x25), .val (.ref x26), .val (.ref x27), .val .null, .unset, .unset] [(.ref x27), .null, (.int b5), (.ref x25), (.int b4), .null, (.ref x27), (.int b7), (.int b6), (.ref x27), (.ref b33), (.ref b33)]) _
                  refine Go.step (fun _ => XS.aconstNull X33.here hx rfl (hb hby at_151)) ?_
                  show Go p e below T33 (mkF m 152 #[.val (.int p0), .val (.int p1), .val (.int p2), .val (.int p3), .val (.int b4), .val (.int b5), .val (.int b6), .val (.int b7), .val (.int b8), .val (.ref x25), .val (.ref x26), .val (.ref x27), .val .null, .unset, .unset] [.null, (.ref x27), .null, (.int b5), (.ref x25), (.int b4), .null, (.ref x27), (.int b7), (.int b6), (.ref x27), (.ref b33), (.ref b33)]) _
                  refine Go.step (fun _ => XS.aload X33.here hx rfl (hb hby at_152) rfl rfl ) ?_
                  show Go p e below T33 (mkF m 154 #[.val (.int p0), .val (.int p1), .val (.int p2), .val (.int p3), .val (.int b4), .val (.int b5), .val (.int b6), .val (.int b7), .val (.int b8), .val (.ref x25), .val (.ref x26), .val (.ref x27), .val .null, .unset, .unset] [(.ref x27), .null, (.ref x27), .null, (.int b5), (.ref x25), (.int b4), .null, (.ref x27), (.int b7), (.int b6), (.ref x27), (.ref b33), (.ref b33)]) _
                  refine Go.step (fun _ => XS.iload X33.here hx rfl (hb hby at_154) rfl ) ?_
                  show Go p e below T33 (mkF m 156 #[.val (.int p0), .val (.int p1), .val (.int p2), .val (.int p3), .val (.int b4), .val (.int b5), .val (.int b6), .val (.int b7), .val (.int b8), .val (.ref x25), .val (.ref x26), .val (.ref x27), .val .null, .unset, .unset] [(.int b8), (.ref x27), .null, (.ref x27), .null, (.int b5), (.ref x25), (.int b4), .null, (.ref x27), (.int b7), (.int b6), (.ref x27), (.ref b33), (.ref b33)]) _
                  obtain ⟨_, _, ⟨T34, L34, k34, n34⟩, -, X34, ⟨Lc34, hQ34, l34, y34, z34⟩, st34⟩ := X33.specialBack hx (y := (⟨"org/linkweave/core/TermDefinition", "<init>", "(Ljava/lang/String;ZZLjava/lang/String;Ljava/util/Set;ZLjava/lang/String;ZLjava/lang/String;Ljava/lang/String;Lorg/linkweave/core/TermDefinition$ScopedContext;Ljava/lang/String;Z)V"⟩ : MethodName)) rfl hown (mvT hZ (hw _ (List.mem_of_getElem? (i := 37) rfl))) (mvT hZ (hw _ (List.mem_of_getElem? (i := 38) rfl))) (mvT hZ (hw _ (List.mem_of_getElem? (i := 39) rfl))) (by decide) (backOf (W := 1) (rmCt l Z a0 hw [] b33 x27 b6 b7 x27 b4 (.ref x25) b5 .null x27 x27 b8 h33 n0 Z33 A33 F_iri_b33 F_prefix_b33 F_reverse_b33 F_typeMapping_b33 F_container_b33 F_hasLanguage_b33 F_language_b33 F_hasDirection_b33 F_direction_b33 F_index_b33 F_scopedContext_b33 F_nest_b33 F_protectedTerm_b33 g_b33 rfl rfl) hZ (hw _ (List.mem_of_getElem? (i := 39) rfl)) (hw _ (List.mem_of_getElem? (i := 36) rfl)) (by decide) (by decide)) (g := (mkF m 156 #[.val (.int p0), .val (.int p1), .val (.int p2), .val (.int p3), .val (.int b4), .val (.int b5), .val (.int b6), .val (.int b7), .val (.int b8), .val (.ref x25), .val (.ref x26), .val (.ref x27), .val .null, .unset, .unset] [(.int b8), (.ref x27), .null, (.ref x27), .null, (.int b5), (.ref x25), (.int b4), .null, (.ref x27), (.int b7), (.int b6), (.ref x27), (.ref b33), (.ref b33)])) rfl (by rw [hml]; rfl) (Steps.refl _) (a := b33) (argsL := [(.ref x27), (.int b6), (.int b7), (.ref x27), .null, (.int b4), (.ref x25), (.int b5), .null, (.ref x27), .null, (.ref x27), (.int b8)]) (rest := [(.ref b33)]) (lenOf pd_3 rfl) rfl (by show 2 * 0 + _ ≤ _; exact Nat.le_of_eq rfl) (hb hby at_156) (fun _ _ => ⟨rfl, e33, (by decide : 0 + 3 + 3 + 3 + 1 + 0 ≤ _), (by decide : 0 + 8 + 8 + 8 + 13 + 0 ≤ _)⟩)
                  dsimp only [Pt.U, Pt.locs, Pt.cells, Pt.slots] at X34 l34 y34 z34 st34 hQ34
                  subst l34 y34 z34
                  obtain ⟨rfl, Nq34, K34, Ex34, FB34, FL34⟩ := hQ34
                  have N34 := Fr.app N27 Nq34
                  refine Go.call st34 ?_
                  have O2_q34 := own_staKeep O2_q33 K34 (allS (own_plainE A33) all0)
                  have A33_q34 := A33.keep K34
                  have Z34 : n0 ≤ T34.heap.size := Nat.le_trans Z33 K34.1
                  show Go p e below T34 (mkF m 159 #[.val (.int p0), .val (.int p1), .val (.int p2), .val (.int p3), .val (.int b4), .val (.int b5), .val (.int b6), .val (.int b7), .val (.int b8), .val (.ref x25), .val (.ref x26), .val (.ref x27), .val .null, .unset, .unset] [(.ref b33)]) _
                  refine Go.step (fun _ => XS.astore X34.here hx rfl (hb hby at_159) rfl rfl (l' := #[.val (.int p0), .val (.int p1), .val (.int p2), .val (.int p3), .val (.int b4), .val (.int b5), .val (.int b6), .val (.int b7), .val (.int b8), .val (.ref x25), .val (.ref x26), .val (.ref x27), .val .null, .val (.ref b33), .unset]) rfl) ?_
                  show Go p e below T34 (mkF m 161 #[.val (.int p0), .val (.int p1), .val (.int p2), .val (.int p3), .val (.int b4), .val (.int b5), .val (.int b6), .val (.int b7), .val (.int b8), .val (.ref x25), .val (.ref x26), .val (.ref x27), .val .null, .val (.ref b33), .unset] []) _
                  refine Go.step (fun _ => XS.aload X34.here hx rfl (hb hby at_161) rfl rfl ) ?_
                  show Go p e below T34 (mkF m 163 #[.val (.int p0), .val (.int p1), .val (.int p2), .val (.int p3), .val (.int b4), .val (.int b5), .val (.int b6), .val (.int b7), .val (.int b8), .val (.ref x25), .val (.ref x26), .val (.ref x27), .val .null, .val (.ref b33), .unset] [(.ref b33)]) _
                  refine Go.step (fun _ => XS.aload X34.here hx rfl (hb hby at_163) rfl rfl ) ?_
                  show Go p e below T34 (mkF m 165 #[.val (.int p0), .val (.int p1), .val (.int p2), .val (.int p3), .val (.int b4), .val (.int b5), .val (.int b6), .val (.int b7), .val (.int b8), .val (.ref x25), .val (.ref x26), .val (.ref x27), .val .null, .val (.ref b33), .unset] [(.ref x26), (.ref b33)]) _
                  rcases hb4 with rfl | rfl
                  · skip
                    obtain ⟨cq35, kq35, q35a, q35b, q35c⟩ := isOf hZ rfl A33_q34
                    obtain ⟨_, _, ⟨T35, L35, k35, n35⟩, -, X35, ⟨Lc35, hQ35, l35, y35, z35⟩, st35⟩ := X34.virtualBack hx (y := (⟨"org/linkweave/core/TermDefinition", "language", "(Ljava/lang/String;)Ljava/lang/String;"⟩ : MethodName)) (z := (⟨"org/linkweave/core/TermDefinition", "language", "(Ljava/lang/String;)Ljava/lang/String;"⟩ : MethodName)) hown (mvT hZ (hw _ (List.mem_of_getElem? (i := 72) rfl))) (mvT hZ (hw _ (List.mem_of_getElem? (i := 73) rfl))) (notFace_of_selects (args := #[]) (mvT hZ (hw _ (List.mem_of_getElem? (i := 75) rfl)))) (mvT hZ (hw _ (List.mem_of_getElem? (i := 75) rfl))) (mvT hZ (hw _ (List.mem_of_getElem? (i := 74) rfl))) (by decide) (backOf (W := 0) (rmLa l Z a0 hw [] b33 (.ref x26) (nar .boolean (0 : Int32)) (.ref x25) (.ref x26) T34.heap n0 Z34 FB34 FL34 rfl rfl (by first | rfl | decide)) hZ (hw _ (List.mem_of_getElem? (i := 76) rfl)) (hw _ (List.mem_of_getElem? (i := 36) rfl)) (by decide) (by decide)) q35a q35c (g := (mkF m 165 #[.val (.int p0), .val (.int p1), .val (.int p2), .val (.int p3), .val (.int (0 : Int32)), .val (.int b5), .val (.int b6), .val (.int b7), .val (.int b8), .val (.ref x25), .val (.ref x26), .val (.ref x27), .val .null, .val (.ref b33), .unset] [(.ref x26), (.ref b33)])) rfl (by rw [hml]; rfl) (Steps.refl _) (argsL := [(.ref x26)]) (rest := []) (lenOf pd_4 rfl) rfl (by show 2 * 0 + _ ≤ _; exact Nat.le_of_eq rfl) (hb hby at_165) (fun _ _ => ⟨rfl, rfl, (by decide : 0 + 3 + 3 + 3 + 1 + 0 + 0 ≤ _), (by decide : 0 + 8 + 8 + 8 + 13 + 0 + 0 ≤ _)⟩)
                    dsimp only [Pt.U, Pt.locs, Pt.cells, Pt.slots] at X35 l35 y35 z35 st35 hQ35
                    subst l35 y35 z35
                    obtain ⟨rfl, Nq35, eh35⟩ := hQ35
                    have N35 := Fr.app N34 Nq35
                    refine Go.call st35 ?_
                    show Go p e below T35 (mkF m 168 #[.val (.int p0), .val (.int p1), .val (.int p2), .val (.int p3), .val (.int (0 : Int32)), .val (.int b5), .val (.int b6), .val (.int b7), .val (.int b8), .val (.ref x25), .val (.ref x26), .val (.ref x27), .val .null, .val (.ref b33), .unset] [(.ref x26)]) _
                    refine Go.step (fun _ => XS.astore X35.here hx rfl (hb hby at_168) rfl rfl (l' := #[.val (.int p0), .val (.int p1), .val (.int p2), .val (.int p3), .val (.int (0 : Int32)), .val (.int b5), .val (.int b6), .val (.int b7), .val (.int b8), .val (.ref x25), .val (.ref x26), .val (.ref x27), .val .null, .val (.ref b33), .val (.ref x26)]) rfl) ?_
                    show Go p e below T35 (mkF m 170 #[.val (.int p0), .val (.int p1), .val (.int p2), .val (.int p3), .val (.int (0 : Int32)), .val (.int b5), .val (.int b6), .val (.int b7), .val (.int b8), .val (.ref x25), .val (.ref x26), .val (.ref x27), .val .null, .val (.ref b33), .val (.ref x26)] []) _
                    refine Go.step (fun _ => XS.iload X35.here hx rfl (hb hby at_170) rfl ) ?_
                    show Go p e below T35 (mkF m 172 #[.val (.int p0), .val (.int p1), .val (.int p2), .val (.int p3), .val (.int (0 : Int32)), .val (.int b5), .val (.int b6), .val (.int b7), .val (.int b8), .val (.ref x25), .val (.ref x26), .val (.ref x27), .val .null, .val (.ref b33), .val (.ref x26)] [(.int (0 : Int32))]) _
                    refine Go.step (fun _ => XS.ifYes X35.here hx rfl (pc0 := 172) (pc' := 188) rfl (hb hby at_172) rfl ((if0 _ _).trans (teq (by decide)).1) (by decide) (by decide)) ?_
                    show Go p e below T35 (mkF m 188 #[.val (.int p0), .val (.int p1), .val (.int p2), .val (.int p3), .val (.int (0 : Int32)), .val (.int b5), .val (.int b6), .val (.int b7), .val (.int b8), .val (.ref x25), .val (.ref x26), .val (.ref x27), .val .null, .val (.ref b33), .val (.ref x26)] []) _
                    refine Go.step (fun _ => XS.aload X35.here hx rfl (hb hby at_188) rfl rfl ) ?_
                    show Go p e below T35 (mkF m 190 #[.val (.int p0), .val (.int p1), .val (.int p2), .val (.int p3), .val (.int (0 : Int32)), .val (.int b5), .val (.int b6), .val (.int b7), .val (.int b8), .val (.ref x25), .val (.ref x26), .val (.ref x27), .val .null, .val (.ref b33), .val (.ref x26)] [(.ref x26)]) _
                    refine Go.step (fun _ => XS.aload X35.here hx rfl (hb hby at_190) rfl rfl ) ?_
                    show Go p e below T35 (mkF m 192 #[.val (.int p0), .val (.int p1), .val (.int p2), .val (.int p3), .val (.int (0 : Int32)), .val (.int b5), .val (.int b6), .val (.int b7), .val (.int b8), .val (.ref x25), .val (.ref x26), .val (.ref x27), .val .null, .val (.ref b33), .val (.ref x26)] [(.ref x26), (.ref x26)]) _
                    refine Go.step (fun _ => Jvm.RoadKit.acmp (g := (mkF m 192 #[.val (.int p0), .val (.int p1), .val (.int p2), .val (.int p3), .val (.int (0 : Int32)), .val (.int b5), .val (.int b6), .val (.int b7), .val (.int b8), .val (.ref x25), .val (.ref x26), .val (.ref x27), .val .null, .val (.ref b33), .val (.ref x26)] [(.ref x26), (.ref x26)])) X35 hx rfl rfl rfl (pc0 := 192) (pc' := 195) (same := true) rfl (hb hby at_192) rfl (decide_eq_true rfl) (by decide) (by decide)) ?_
                    show Go p e below T35 (mkF m 195 #[.val (.int p0), .val (.int p1), .val (.int p2), .val (.int p3), .val (.int (0 : Int32)), .val (.int b5), .val (.int b6), .val (.int b7), .val (.int b8), .val (.ref x25), .val (.ref x26), .val (.ref x27), .val .null, .val (.ref b33), .val (.ref x26)] []) _
                    refine Go.step (fun _ => XS.iconst X35.here hx rfl (hb hby at_195)) ?_
                    show Go p e below T35 (mkF m 196 #[.val (.int p0), .val (.int p1), .val (.int p2), .val (.int p3), .val (.int (0 : Int32)), .val (.int b5), .val (.int b6), .val (.int b7), .val (.int b8), .val (.ref x25), .val (.ref x26), .val (.ref x27), .val .null, .val (.ref b33), .val (.ref x26)] [(.int (1 : Int32))]) _
                    refine Go.step (fun _ => XS.goto X35.here hx rfl (pc0 := 196) (pc' := 200) rfl (hb hby at_196) (by decide) (by decide)) ?_
                    show Go p e below T35 (mkF m 200 #[.val (.int p0), .val (.int p1), .val (.int p2), .val (.int p3), .val (.int (0 : Int32)), .val (.int b5), .val (.int b6), .val (.int b7), .val (.int b8), .val (.ref x25), .val (.ref x26), .val (.ref x27), .val .null, .val (.ref b33), .val (.ref x26)] [(.int (1 : Int32))]) _
                    refine Go.retN (t := .boolean) (z' := (1 : Int32)) X35 hx hret (by simp) hlk (hb hby at_200) (by decide) ?_ (by decide) (by decide)
                    exact ⟨rfl, N35⟩
                  · skip
                    obtain ⟨cq36, kq36, q36a, q36b, q36c⟩ := isOf hZ rfl A33_q34
                    obtain ⟨_, _, ⟨T36, L36, k36, n36⟩, -, X36, ⟨Lc36, hQ36, l36, y36, z36⟩, st36⟩ := X34.virtualBack hx (y := (⟨"org/linkweave/core/TermDefinition", "language", "(Ljava/lang/String;)Ljava/lang/String;"⟩ : MethodName)) (z := (⟨"org/linkweave/core/TermDefinition", "language", "(Ljava/lang/String;)Ljava/lang/String;"⟩ : MethodName)) hown (mvT hZ (hw _ (List.mem_of_getElem? (i := 72) rfl))) (mvT hZ (hw _ (List.mem_of_getElem? (i := 73) rfl))) (notFace_of_selects (args := #[]) (mvT hZ (hw _ (List.mem_of_getElem? (i := 75) rfl)))) (mvT hZ (hw _ (List.mem_of_getElem? (i := 75) rfl))) (mvT hZ (hw _ (List.mem_of_getElem? (i := 74) rfl))) (by decide) (backOf (W := 0) (rmLa l Z a0 hw [] b33 (.ref x26) (nar .boolean (1 : Int32)) (.ref x25) (.ref x25) T34.heap n0 Z34 FB34 FL34 rfl rfl (by first | rfl | decide)) hZ (hw _ (List.mem_of_getElem? (i := 76) rfl)) (hw _ (List.mem_of_getElem? (i := 36) rfl)) (by decide) (by decide)) q36a q36c (g := (mkF m 165 #[.val (.int p0), .val (.int p1), .val (.int p2), .val (.int p3), .val (.int (1 : Int32)), .val (.int b5), .val (.int b6), .val (.int b7), .val (.int b8), .val (.ref x25), .val (.ref x26), .val (.ref x27), .val .null, .val (.ref b33), .unset] [(.ref x26), (.ref b33)])) rfl (by rw [hml]; rfl) (Steps.refl _) (argsL := [(.ref x26)]) (rest := []) (lenOf pd_4 rfl) rfl (by show 2 * 0 + _ ≤ _; exact Nat.le_of_eq rfl) (hb hby at_165) (fun _ _ => ⟨rfl, rfl, (by decide : 0 + 3 + 3 + 3 + 1 + 0 + 0 ≤ _), (by decide : 0 + 8 + 8 + 8 + 13 + 0 + 0 ≤ _)⟩)
                    dsimp only [Pt.U, Pt.locs, Pt.cells, Pt.slots] at X36 l36 y36 z36 st36 hQ36
                    subst l36 y36 z36
                    obtain ⟨rfl, Nq36, eh36⟩ := hQ36
                    have N36 := Fr.app N34 Nq36
                    refine Go.call st36 ?_
                    show Go p e below T36 (mkF m 168 #[.val (.int p0), .val (.int p1), .val (.int p2), .val (.int p3), .val (.int (1 : Int32)), .val (.int b5), .val (.int b6), .val (.int b7), .val (.int b8), .val (.ref x25), .val (.ref x26), .val (.ref x27), .val .null, .val (.ref b33), .unset] [(.ref x25)]) _
                    refine Go.step (fun _ => XS.astore X36.here hx rfl (hb hby at_168) rfl rfl (l' := #[.val (.int p0), .val (.int p1), .val (.int p2), .val (.int p3), .val (.int (1 : Int32)), .val (.int b5), .val (.int b6), .val (.int b7), .val (.int b8), .val (.ref x25), .val (.ref x26), .val (.ref x27), .val .null, .val (.ref b33), .val (.ref x25)]) rfl) ?_
                    show Go p e below T36 (mkF m 170 #[.val (.int p0), .val (.int p1), .val (.int p2), .val (.int p3), .val (.int (1 : Int32)), .val (.int b5), .val (.int b6), .val (.int b7), .val (.int b8), .val (.ref x25), .val (.ref x26), .val (.ref x27), .val .null, .val (.ref b33), .val (.ref x25)] []) _
                    refine Go.step (fun _ => XS.iload X36.here hx rfl (hb hby at_170) rfl ) ?_
                    show Go p e below T36 (mkF m 172 #[.val (.int p0), .val (.int p1), .val (.int p2), .val (.int p3), .val (.int (1 : Int32)), .val (.int b5), .val (.int b6), .val (.int b7), .val (.int b8), .val (.ref x25), .val (.ref x26), .val (.ref x27), .val .null, .val (.ref b33), .val (.ref x25)] [(.int (1 : Int32))]) _
                    refine Go.step (fun _ => XS.ifNo X36.here hx rfl (hb hby at_172) rfl ((if0 _ _).trans (feq (by decide)).1)) ?_
                    show Go p e below T36 (mkF m 175 #[.val (.int p0), .val (.int p1), .val (.int p2), .val (.int p3), .val (.int (1 : Int32)), .val (.int b5), .val (.int b6), .val (.int b7), .val (.int b8), .val (.ref x25), .val (.ref x26), .val (.ref x27), .val .null, .val (.ref b33), .val (.ref x25)] []) _
                    refine Go.step (fun _ => XS.aload X36.here hx rfl (hb hby at_175) rfl rfl ) ?_
                    show Go p e below T36 (mkF m 177 #[.val (.int p0), .val (.int p1), .val (.int p2), .val (.int p3), .val (.int (1 : Int32)), .val (.int b5), .val (.int b6), .val (.int b7), .val (.int b8), .val (.ref x25), .val (.ref x26), .val (.ref x27), .val .null, .val (.ref b33), .val (.ref x25)] [(.ref x25)]) _
                    refine Go.step (fun _ => XS.aload X36.here hx rfl (hb hby at_177) rfl rfl ) ?_
                    show Go p e below T36 (mkF m 179 #[.val (.int p0), .val (.int p1), .val (.int p2), .val (.int p3), .val (.int (1 : Int32)), .val (.int b5), .val (.int b6), .val (.int b7), .val (.int b8), .val (.ref x25), .val (.ref x26), .val (.ref x27), .val .null, .val (.ref b33), .val (.ref x25)] [(.ref x25), (.ref x25)]) _
                    refine Go.step (fun _ => Jvm.RoadKit.acmp (g := (mkF m 179 #[.val (.int p0), .val (.int p1), .val (.int p2), .val (.int p3), .val (.int (1 : Int32)), .val (.int b5), .val (.int b6), .val (.int b7), .val (.int b8), .val (.ref x25), .val (.ref x26), .val (.ref x27), .val .null, .val (.ref b33), .val (.ref x25)] [(.ref x25), (.ref x25)])) X36 hx rfl rfl rfl (pc0 := 179) (pc' := 182) (same := true) rfl (hb hby at_179) rfl (decide_eq_true rfl) (by decide) (by decide)) ?_
                    show Go p e below T36 (mkF m 182 #[.val (.int p0), .val (.int p1), .val (.int p2), .val (.int p3), .val (.int (1 : Int32)), .val (.int b5), .val (.int b6), .val (.int b7), .val (.int b8), .val (.ref x25), .val (.ref x26), .val (.ref x27), .val .null, .val (.ref b33), .val (.ref x25)] []) _
                    refine Go.step (fun _ => XS.iconst X36.here hx rfl (hb hby at_182)) ?_
                    show Go p e below T36 (mkF m 183 #[.val (.int p0), .val (.int p1), .val (.int p2), .val (.int p3), .val (.int (1 : Int32)), .val (.int b5), .val (.int b6), .val (.int b7), .val (.int b8), .val (.ref x25), .val (.ref x26), .val (.ref x27), .val .null, .val (.ref b33), .val (.ref x25)] [(.int (1 : Int32))]) _
                    refine Go.step (fun _ => XS.goto X36.here hx rfl (pc0 := 183) (pc' := 187) rfl (hb hby at_183) (by decide) (by decide)) ?_
                    show Go p e below T36 (mkF m 187 #[.val (.int p0), .val (.int p1), .val (.int p2), .val (.int p3), .val (.int (1 : Int32)), .val (.int b5), .val (.int b6), .val (.int b7), .val (.int b8), .val (.ref x25), .val (.ref x26), .val (.ref x27), .val .null, .val (.ref b33), .val (.ref x25)] [(.int (1 : Int32))]) _
                    refine Go.retN (t := .boolean) (z' := (1 : Int32)) X36 hx hret (by simp) hlk (hb hby at_187) (by decide) ?_ (by decide) (by decide)
                    exact ⟨rfl, N36⟩
              · skip
                refine Go.step (fun _ => XS.ifNo X25.here hx rfl (hb hby at_88) rfl ((if0 _ _).trans (feq hc88).1)) ?_
                show Go p e below T25 (mkF m 91 #[.val (.int p0), .val (.int p1), .val (.int p2), .val (.int p3), .val (.int b4), .val (.int b5), .val (.int b6), .val (.int b7), .val (.int b8), .val (.ref x25), .unset, .unset, .unset, .unset, .unset] []) _
                refine Go.step (fun _ => XS.aconstNull X25.here hx rfl (hb hby at_91)) ?_
                show Go p e below T25 (mkF m 92 #[.val (.int p0), .val (.int p1), .val (.int p2), .val (.int p3), .val (.int b4), .val (.int b5), .val (.int b6), .val (.int b7), .val (.int b8), .val (.ref x25), .unset, .unset, .unset, .unset, .unset] [.null]) _
                refine Go.step (fun _ => XS.goto X25.here hx rfl (pc0 := 92) (pc' := 99) rfl (hb hby at_92) (by decide) (by decide)) ?_
                show Go p e below T25 (mkF m 99 #[.val (.int p0), .val (.int p1), .val (.int p2), .val (.int p3), .val (.int b4), .val (.int b5), .val (.int b6), .val (.int b7), .val (.int b8), .val (.ref x25), .unset, .unset, .unset, .unset, .unset] [.null]) _
                refine Go.step (fun _ => XS.astore X25.here hx rfl (hb hby at_99) rfl rfl (l' := #[.val (.int p0), .val (.int p1), .val (.int p2), .val (.int p3), .val (.int b4), .val (.int b5), .val (.int b6), .val (.int b7), .val (.int b8), .val (.ref x25), .val .null, .unset, .unset, .unset, .unset]) rfl) ?_
                show Go p e below T25 (mkF m 101 #[.val (.int p0), .val (.int p1), .val (.int p2), .val (.int p3), .val (.int b4), .val (.int b5), .val (.int b6), .val (.int b7), .val (.int b8), .val (.ref x25), .val .null, .unset, .unset, .unset, .unset] []) _
                refine Go.step (fun _ => XS.iloadN X25.here hx rfl (hb hby at_101) rfl ) ?_
                show Go p e below T25 (mkF m 102 #[.val (.int p0), .val (.int p1), .val (.int p2), .val (.int p3), .val (.int b4), .val (.int b5), .val (.int b6), .val (.int b7), .val (.int b8), .val (.ref x25), .val .null, .unset, .unset, .unset, .unset] [(.int p3)]) _
                obtain ⟨_, _, ⟨T37, L37, k37, n37⟩, -, X37, ⟨Lc37, hQ37, l37, y37, z37⟩, st37⟩ := Jvm.LawKit.callS X25 hx (y := (⟨"org/linkweave/core/TermDefinitionLanguagePinLaw", "str", "(I)Ljava/lang/String;"⟩ : MethodName)) hown (mvT hZ (hw _ (List.mem_of_getElem? (i := 0) rfl))) (mvT hZ (hw _ (List.mem_of_getElem? (i := 1) rfl))) (mvT hZ (hw _ (List.mem_of_getElem? (i := 2) rfl))) (mvT hZ (hw _ (List.mem_of_getElem? (i := 3) rfl))) (by decide) (backOf (W := 0) (rm1 l Z a0 hw [] p3 G T25.heap n0 Z25 P3 O2_q25) hZ (hw _ (List.mem_of_getElem? (i := 3) rfl)) (hw _ (List.mem_of_getElem? (i := 2) rfl)) (by decide) (by decide)) (g := (mkF m 102 #[.val (.int p0), .val (.int p1), .val (.int p2), .val (.int p3), .val (.int b4), .val (.int b5), .val (.int b6), .val (.int b7), .val (.int b8), .val (.ref x25), .val .null, .unset, .unset, .unset, .unset] [(.int p3)])) rfl (by rw [hml]; rfl) (argsL := [(.int p3)]) (rest := []) (lenOf pd_2 rfl) rfl (by show 2 * 0 + _ ≤ _; exact Nat.le_of_eq rfl) (hb hby at_102) (fun _ _ => ⟨rfl, rfl, (by decide : 0 + 3 + 3 ≤ _), (by decide : 0 + 8 + 8 ≤ _)⟩)
                dsimp only [Pt.U, Pt.locs, Pt.cells, Pt.slots] at X37 l37 y37 z37 st37 hQ37
                subst l37 y37 z37
                obtain ⟨x37, rfl, Nq37, K37⟩ := hQ37
                have N37 := Fr.app N25 Nq37
                refine Go.step st37 ?_
                have O2_q37 := own_staKeep O2_q25 K37 all0
                have Z37 : n0 ≤ T37.heap.size := Nat.le_trans Z25 K37.1
                show Go p e below T37 (mkF m 105 #[.val (.int p0), .val (.int p1), .val (.int p2), .val (.int p3), .val (.int b4), .val (.int b5), .val (.int b6), .val (.int b7), .val (.int b8), .val (.ref x25), .val .null, .unset, .unset, .unset, .unset] [(.ref x37)]) _
                refine Go.step (fun _ => XS.astore X37.here hx rfl (hb hby at_105) rfl rfl (l' := #[.val (.int p0), .val (.int p1), .val (.int p2), .val (.int p3), .val (.int b4), .val (.int b5), .val (.int b6), .val (.int b7), .val (.int b8), .val (.ref x25), .val .null, .val (.ref x37), .unset, .unset, .unset]) rfl) ?_
                show Go p e below T37 (mkF m 107 #[.val (.int p0), .val (.int p1), .val (.int p2), .val (.int p3), .val (.int b4), .val (.int b5), .val (.int b6), .val (.int b7), .val (.int b8), .val (.ref x25), .val .null, .val (.ref x37), .unset, .unset, .unset] []) _
                refine Go.step (fun _ => XS.iloadN X37.here hx rfl (hb hby at_107) rfl ) ?_
                show Go p e below T37 (mkF m 108 #[.val (.int p0), .val (.int p1), .val (.int p2), .val (.int p3), .val (.int b4), .val (.int b5), .val (.int b6), .val (.int b7), .val (.int b8), .val (.ref x25), .val .null, .val (.ref x37), .unset, .unset, .unset] [(.int p0)]) _
                refine Go.step (fun _ => XS.sipush X37.here hx rfl (hb hby at_108)) ?_
                show Go p e below T37 (mkF m 111 #[.val (.int p0), .val (.int p1), .val (.int p2), .val (.int p3), .val (.int b4), .val (.int b5), .val (.int b6), .val (.int b7), .val (.int b8), .val (.ref x25), .val .null, .val (.ref x37), .unset, .unset, .unset] [(.int (128 : Int32)), (.int p0)]) _
                refine Go.step (fun _ => XS.iand X37.here hx rfl (hb hby at_111) rfl) ?_
                show Go p e below T37 (mkF m 112 #[.val (.int p0), .val (.int p1), .val (.int p2), .val (.int p3), .val (.int b4), .val (.int b5), .val (.int b6), .val (.int b7), .val (.int b8), .val (.ref x25), .val .null, .val (.ref x37), .unset, .unset, .unset] [(.int (p0 &&& (128 : Int32)))]) _
                by_cases hc112 : (p0 &&& (128 : Int32)) = (0 : Int32)
                · skip
                  refine Go.step (fun _ => XS.ifYes X37.here hx rfl (pc0 := 112) (pc' := 119) rfl (hb hby at_112) rfl ((if0 _ _).trans (teq hc112).1) (by decide) (by decide)) ?_
                  show Go p e below T37 (mkF m 119 #[.val (.int p0), .val (.int p1), .val (.int p2), .val (.int p3), .val (.int b4), .val (.int b5), .val (.int b6), .val (.int b7), .val (.int b8), .val (.ref x25), .val .null, .val (.ref x37), .unset, .unset, .unset] []) _
                  refine Go.step (fun _ => XS.iloadN X37.here hx rfl (hb hby at_119) rfl ) ?_
                  show Go p e below T37 (mkF m 120 #[.val (.int p0), .val (.int p1), .val (.int p2), .val (.int p3), .val (.int b4), .val (.int b5), .val (.int b6), .val (.int b7), .val (.int b8), .val (.ref x25), .val .null, .val (.ref x37), .unset, .unset, .unset] [(.int p3)]) _
                  refine Go.step (fun _ => XS.bipush X37.here hx rfl (hb hby at_120)) ?_
                  show Go p e below T37 (mkF m 122 #[.val (.int p0), .val (.int p1), .val (.int p2), .val (.int p3), .val (.int b4), .val (.int b5), .val (.int b6), .val (.int b7), .val (.int b8), .val (.ref x25), .val .null, .val (.ref x37), .unset, .unset, .unset] [(.int (16 : Int32)), (.int p3)]) _
                  refine Go.step (fun _ => XS.iushr X37.here hx rfl (hb hby at_122) rfl) ?_
                  show Go p e below T37 (mkF m 123 #[.val (.int p0), .val (.int p1), .val (.int p2), .val (.int p3), .val (.int b4), .val (.int b5), .val (.int b6), .val (.int b7), .val (.int b8), .val (.ref x25), .val .null, .val (.ref x37), .unset, .unset, .unset] [(.int ((p3.toUInt32 >>> ((16 : Int32) &&& 31).toUInt32).toInt32))]) _
                  obtain ⟨_, _, ⟨T38, L38, k38, n38⟩, -, X38, ⟨Lc38, hQ38, l38, y38, z38⟩, st38⟩ := Jvm.LawKit.callS X37 hx (y := (⟨"org/linkweave/core/TermDefinitionLanguagePinLaw", "str", "(I)Ljava/lang/String;"⟩ : MethodName)) hown (mvT hZ (hw _ (List.mem_of_getElem? (i := 0) rfl))) (mvT hZ (hw _ (List.mem_of_getElem? (i := 1) rfl))) (mvT hZ (hw _ (List.mem_of_getElem? (i := 2) rfl))) (mvT hZ (hw _ (List.mem_of_getElem? (i := 3) rfl))) (by decide) (backOf (W := 0) (rm1 l Z a0 hw [] ((p3.toUInt32 >>> ((16 : Int32) &&& 31).toUInt32).toInt32) G T37.heap n0 Z37 P3 O2_q37) hZ (hw _ (List.mem_of_getElem? (i := 3) rfl)) (hw _ (List.mem_of_getElem? (i := 2) rfl)) (by decide) (by decide)) (g := (mkF m 123 #[.val (.int p0), .val (.int p1), .val (.int p2), .val (.int p3), .val (.int b4), .val (.int b5), .val (.int b6), .val (.int b7), .val (.int b8), .val (.ref x25), .val .null, .val (.ref x37), .unset, .unset, .unset] [(.int ((p3.toUInt32 >>> ((16 : Int32) &&& 31).toUInt32).toInt32))])) rfl (by rw [hml]; rfl) (argsL := [(.int ((p3.toUInt32 >>> ((16 : Int32) &&& 31).toUInt32).toInt32))]) (rest := []) (lenOf pd_2 rfl) rfl (by show 2 * 0 + _ ≤ _; exact Nat.le_of_eq rfl) (hb hby at_123) (fun _ _ => ⟨rfl, rfl, (by decide : 0 + 3 + 3 + 3 ≤ _), (by decide : 0 + 8 + 8 + 8 ≤ _)⟩)
                  dsimp only [Pt.U, Pt.locs, Pt.cells, Pt.slots] at X38 l38 y38 z38 st38 hQ38
                  subst l38 y38 z38
                  obtain ⟨x38, rfl, Nq38, K38⟩ := hQ38
                  have N38 := Fr.app N37 Nq38
                  refine Go.step st38 ?_
                  have O2_q38 := own_staKeep O2_q37 K38 all0
                  have Z38 : n0 ≤ T38.heap.size := Nat.le_trans Z37 K38.1
                  show Go p e below T38 (mkF m 126 #[.val (.int p0), .val (.int p1), .val (.int p2), .val (.int p3), .val (.int b4), .val (.int b5), .val (.int b6), .val (.int b7), .val (.int b8), .val (.ref x25), .val .null, .val (.ref x37), .unset, .unset, .unset] [(.ref x38)]) _
                  refine Go.step (fun _ => XS.astore X38.here hx rfl (hb hby at_126) rfl rfl (l' := #[.val (.int p0), .val (.int p1), .val (.int p2), .val (.int p3), .val (.int b4), .val (.int b5), .val (.int b6), .val (.int b7), .val (.int b8), .val (.ref x25), .val .null, .val (.ref x37), .val (.ref x38), .unset, .unset]) rfl) ?_
                  show Go p e below T38 (mkF m 128 #[.val (.int p0), .val (.int p1), .val (.int p2), .val (.int p3), .val (.int b4), .val (.int b5), .val (.int b6), .val (.int b7), .val (.int b8), .val (.ref x25), .val .null, .val (.ref x37), .val (.ref x38), .unset, .unset] []) _
                  obtain ⟨T39, h39, X39, e39, E39, A39, D39, -, st39⟩ := newO X38 hx hZ hown (hw _ (List.mem_of_getElem? (i := 34) rfl)) (hw _ (List.mem_of_getElem? (i := 35) rfl)) (hw _ (List.mem_of_getElem? (i := 36) rfl)) rfl (g := (mkF m 128 #[.val (.int p0), .val (.int p1), .val (.int p2), .val (.int p3), .val (.int b4), .val (.int b5), .val (.int b6), .val (.int b7), .val (.int b8), .val (.ref x25), .val .null, .val (.ref x37), .val (.ref x38), .unset, .unset] [])) rfl (hb hby at_128) (by decide) (by decide)
                  obtain ⟨b39, g39⟩ : ∃ z, z = T38.heap.size := ⟨_, rfl⟩
                  rw [← g39] at A39 D39 st39
                  have g_b39 : n0 ≤ b39 := Nat.le_trans Z38 (Nat.le_of_eq g39.symm)
                  have O2_q39 := O2_q38.ext E39
                  have Z39 : n0 ≤ h39.size := Nat.le_trans Z38 E39.1
                  refine Go.step st39 ?_
                  have F_iri_b39 : Fld Z h39 b39 "org/linkweave/core/TermDefinition" "iri" "Ljava/lang/String;" .null := D39 (Or.inr (hw _ (List.mem_of_getElem? (i := 47) rfl))) (ty := (.object "java/lang/String")) (by decide)
                  have F_prefix_b39 : Fld Z h39 b39 "org/linkweave/core/TermDefinition" "prefix" "Z" (.int (0 : Int32)) := D39 (Or.inr (hw _ (List.mem_of_getElem? (i := 49) rfl))) (ty := .boolean) (by decide)
                  have F_reverse_b39 : Fld Z h39 b39 "org/linkweave/core/TermDefinition" "reverse" "Z" (.int (0 : Int32)) := D39 (Or.inr (hw _ (List.mem_of_getElem? (i := 51) rfl))) (ty := .boolean) (by decide)
                  have F_typeMapping_b39 : Fld Z h39 b39 "org/linkweave/core/TermDefinition" "typeMapping" "Ljava/lang/String;" .null := D39 (Or.inr (hw _ (List.mem_of_getElem? (i := 53) rfl))) (ty := (.object "java/lang/String")) (by decide)
                  have F_container_b39 : Fld Z h39 b39 "org/linkweave/core/TermDefinition" "container" "Ljava/util/Set;" .null := D39 (Or.inr (hw _ (List.mem_of_getElem? (i := 55) rfl))) (ty := (.object "java/util/Set")) (by decide)
                  have F_hasLanguage_b39 : Fld Z h39 b39 "org/linkweave/core/TermDefinition" "hasLanguage" "Z" (.int (0 : Int32)) := D39 (Or.inr (hw _ (List.mem_of_getElem? (i := 57) rfl))) (ty := .boolean) (by decide)
                  have F_language_b39 : Fld Z h39 b39 "org/linkweave/core/TermDefinition" "language" "Ljava/lang/String;" .null := D39 (Or.inr (hw _ (List.mem_of_getElem? (i := 59) rfl))) (ty := (.object "java/lang/String")) (by decide)
                  have F_hasDirection_b39 : Fld Z h39 b39 "org/linkweave/core/TermDefinition" "hasDirection" "Z" (.int (0 : Int32)) := D39 (Or.inr (hw _ (List.mem_of_getElem? (i := 61) rfl))) (ty := .boolean) (by decide)
                  have F_direction_b39 : Fld Z h39 b39 "org/linkweave/core/TermDefinition" "direction" "Ljava/lang/String;" .null := D39 (Or.inr (hw _ (List.mem_of_getElem? (i := 63) rfl))) (ty := (.object "java/lang/String")) (by decide)
                  have F_index_b39 : Fld Z h39 b39 "org/linkweave/core/TermDefinition" "index" "Ljava/lang/String;" .null := D39 (Or.inr (hw _ (List.mem_of_getElem? (i := 65) rfl))) (ty := (.object "java/lang/String")) (by decide)
                  have F_scopedContext_b39 : Fld Z h39 b39 "org/linkweave/core/TermDefinition" "scopedContext" "Lorg/linkweave/core/TermDefinition$ScopedContext;" .null := D39 (Or.inr (hw _ (List.mem_of_getElem? (i := 67) rfl))) (ty := (.object "org/linkweave/core/TermDefinition$ScopedContext")) (by decide)
                  have F_nest_b39 : Fld Z h39 b39 "org/linkweave/core/TermDefinition" "nest" "Ljava/lang/String;" .null := D39 (Or.inr (hw _ (List.mem_of_getElem? (i := 69) rfl))) (ty := (.object "java/lang/String")) (by decide)
                  have F_protectedTerm_b39 : Fld Z h39 b39 "org/linkweave/core/TermDefinition" "protectedTerm" "Z" (.int (0 : Int32)) := D39 (Or.inr (hw _ (List.mem_of_getElem? (i := 71) rfl))) (ty := .boolean) (by decide)
                  show Go p e below T39 (mkF m 131 #[.val (.int p0), .val (.int p1), .val (.int p2), .val (.int p3), .val (.int b4), .val (.int b5), .val (.int b6), .val (.int b7), .val (.int b8), .val (.ref x25), .val .null, .val (.ref x37), .val (.ref x38), .unset, .unset] [(.ref b39)]) _
                  refine Go.step (fun _ => XS.dup X39.here hx rfl (hb hby at_131) rfl rfl) ?_
                  show Go p e below T39 (mkF m 132 #[.val (.int p0), .val (.int p1), .val (.int p2), .val (.int p3), .val (.int b4), .val (.int b5), .val (.int b6), .val (.int b7), .val (.int b8), .val (.ref x25), .val .null, .val (.ref x37), .val (.ref x38), .unset, .unset] [(.ref b39), (.ref b39)]) _
                  refine Go.step (fun _ => XS.aload X39.here hx rfl (hb hby at_132) rfl rfl ) ?_
                  show Go p e below T39 (mkF m 134 #[.val (.int p0), .val (.int p1), .val (.int p2), .val (.int p3), .val (.int b4), .val (.int b5), .val (.int b6), .val (.int b7), .val (.int b8), .val (.ref x25), .val .null, .val (.ref x37), .val (.ref x38), .unset, .unset] [(.ref x37), (.ref b39), (.ref b39)]) _
                  refine Go.step (fun _ => XS.iload X39.here hx rfl (hb hby at_134) rfl ) ?_
                  show Go p e below T39 (mkF m 136 #[.val (.int p0), .val (.int p1), .val (.int p2), .val (.int p3), .val (.int b4), .val (.int b5), .val (.int b6), .val (.int b7), .val (.int b8), .val (.ref x25), .val .null, .val (.ref x37), .val (.ref x38), .unset, .unset] [(.int b6), (.ref x37), (.ref b39), (.ref b39)]) _
                  refine Go.step (fun _ => XS.iload X39.here hx rfl (hb hby at_136) rfl ) ?_
                  show Go p e below T39 (mkF m 138 #[.val (.int p0), .val (.int p1), .val (.int p2), .val (.int p3), .val (.int b4), .val (.int b5), .val (.int b6), .val (.int b7), .val (.int b8), .val (.ref x25), .val .null, .val (.ref x37), .val (.ref x38), .unset, .unset] [(.int b7), (.int b6), (.ref x37), (.ref b39), (.ref b39)]) _
                  refine Go.step (fun _ => XS.aload X39.here hx rfl (hb hby at_138) rfl rfl ) ?_
                  show Go p e below T39 (mkF m 140 #[.val (.int p0), .val (.int p1), .val (.int p2), .val (.int p3), .val (.int b4), .val (.int b5), .val (.int b6), .val (.int b7), .val (.int b8), .val (.ref x25), .val .null, .val (.ref x37), .val (.ref x38), .unset, .unset] [(.ref x37), (.int b7), (.int b6), (.ref x37), (.ref b39), (.ref b39)]) _
                  refine Go.step (fun _ => XS.aconstNull X39.here hx rfl (hb hby at_140)) ?_
                  show Go p e below T39 (mkF m 141 #[.val (.int p0), .val (.int p1), .val (.int p2), .val (.int p3), .val (.int b4), .val (.int b5), .val (.int b6), .val (.int b7), .val (.int b8), .val (.ref x25), .val .null, .val (.ref x37), .val (.ref x38), .unset, .unset] [.null, (.ref x37), (.int b7), (.int b6), (.ref x37), (.ref b39), (.ref b39)]) _
                  refine Go.step (fun _ => XS.iload X39.here hx rfl (hb hby at_141) rfl ) ?_
                  show Go p e below T39 (mkF m 143 #[.val (.int p0), .val (.int p1), .val (.int p2), .val (.int p3), .val (.int b4), .val (.int b5), .val (.int b6), .val (.int b7), .val (.int b8), .val (.ref x25), .val .null, .val (.ref x37), .val (.ref x38), .unset, .unset] [(.int b4), .null, (.ref x37), (.int b7), (.int b6), (.ref x37), (.ref b39), (.ref b39)]) _
                  refine Go.step (fun _ => XS.aload X39.here hx rfl (hb hby at_143) rfl rfl ) ?_
                  show Go p e below T39 (mkF m 145 #[.val (.int p0), .val (.int p1), .val (.int p2), .val (.int p3), .val (.int b4), .val (.int b5), .val (.int b6), .val (.int b7), .val (.int b8), .val (.ref x25), .val .null, .val (.ref x37), .val (.ref x38), .unset, .unset] [(.ref x25), (.int b4), .null, (.ref x37), (.int b7), (.int b6), (.ref x37), (.ref b39), (.ref b39)]) _
                  refine Go.step (fun _ => XS.iload X39.here hx rfl (hb hby at_145) rfl ) ?_
                  show Go p e below T39 (mkF m 147 #[.val (.int p0), .val (.int p1), .val (.int p2), .val (.int p3), .val (.int b4), .val (.int b5), .val (.int b6), .val (.int b7), .val (.int b8), .val (.ref x25), .val .null, .val (.ref x37), .val (.ref x38), .unset, .unset] [(.int b5), (.ref x25), (.int b4), .null, (.ref x37), (.int b7), (.int b6), (.ref x37), (.ref b39), (.ref b39)]) _
                  refine Go.step (fun _ => XS.aload X39.here hx rfl (hb hby at_147) rfl rfl ) ?_
                  show Go p e below T39 (mkF m 149 #[.val (.int p0), .val (.int p1), .val (.int p2), .val (.int p3), .val (.int b4), .val (.int b5), .val (.int b6), .val (.int b7), .val (.int b8), .val (.ref x25), .val .null, .val (.ref x37), .val (.ref x38), .unset, .unset] [(.ref x38), (.int b5), (.ref x25), (.int b4), .null, (.ref x37), (.int b7), (.int b6), (.ref x37), (.ref b39), (.ref b39)]) _
                  refine Go.step (fun _ => XS.aload X39.here hx rfl (hb hby at_149) rfl rfl ) ?_
                  show Go p e below T39 (mkF m 151 #[.val (.int p0), .val (.int p1), .val (.int p2), .val (.int p3), .val (.int b4), .val (.int b5), .val (.int b6), .val (.int b7), .val (.int b8), .val (.ref x25), .val .null, .val (.ref x37), .val (.ref x38), .unset, .unset] [(.ref x37), (.ref x38), (.int b5), (.ref x25), (.int b4), .null, (.ref x37), (.int b7), (.int b6), (.ref x37), (.ref b39), (.ref b39)]) _
                  refine Go.step (fun _ => XS.aconstNull X39.here hx rfl (hb hby at_151)) ?_
                  show Go p e below T39 (mkF m 152 #[.val (.int p0), .val (.int p1), .val (.int p2), .val (.int p3), .val (.int b4), .val (.int b5), .val (.int b6), .val (.int b7), .val (.int b8), .val (.ref x25), .val .null, .val (.ref x37), .val (.ref x38), .unset, .unset] [.null, (.ref x37), (.ref x38), (.int b5), (.ref x25), (.int b4), .null, (.ref x37), (.int b7), (.int b6), (.ref x37), (.ref b39), (.ref b39)]) _
                  refine Go.step (fun _ => XS.aload X39.here hx rfl (hb hby at_152) rfl rfl ) ?_
                  show Go p e below T39 (mkF m 154 #[.val (.int p0), .val (.int p1), .val (.int p2), .val (.int p3), .val (.int b4), .val (.int b5), .val (.int b6), .val (.int b7), .val (.int b8), .val (.ref x25), .val .null, .val (.ref x37), .val (.ref x38), .unset, .unset] [(.ref x37), .null, (.ref x37), (.ref x38), (.int b5), (.ref x25), (.int b4), .null, (.ref x37), (.int b7), (.int b6), (.ref x37), (.ref b39), (.ref b39)]) _
                  refine Go.step (fun _ => XS.iload X39.here hx rfl (hb hby at_154) rfl ) ?_
                  show Go p e below T39 (mkF m 156 #[.val (.int p0), .val (.int p1), .val (.int p2), .val (.int p3), .val (.int b4), .val (.int b5), .val (.int b6), .val (.int b7), .val (.int b8), .val (.ref x25), .val .null, .val (.ref x37), .val (.ref x38), .unset, .unset] [(.int b8), (.ref x37), .null, (.ref x37), (.ref x38), (.int b5), (.ref x25), (.int b4), .null, (.ref x37), (.int b7), (.int b6), (.ref x37), (.ref b39), (.ref b39)]) _
                  obtain ⟨_, _, ⟨T40, L40, k40, n40⟩, -, X40, ⟨Lc40, hQ40, l40, y40, z40⟩, st40⟩ := X39.specialBack hx (y := (⟨"org/linkweave/core/TermDefinition", "<init>", "(Ljava/lang/String;ZZLjava/lang/String;Ljava/util/Set;ZLjava/lang/String;ZLjava/lang/String;Ljava/lang/String;Lorg/linkweave/core/TermDefinition$ScopedContext;Ljava/lang/String;Z)V"⟩ : MethodName)) rfl hown (mvT hZ (hw _ (List.mem_of_getElem? (i := 37) rfl))) (mvT hZ (hw _ (List.mem_of_getElem? (i := 38) rfl))) (mvT hZ (hw _ (List.mem_of_getElem? (i := 39) rfl))) (by decide) (backOf (W := 1) (rmCt l Z a0 hw [] b39 x37 b6 b7 x37 b4 (.ref x25) b5 (.ref x38) x37 x37 b8 h39 n0 Z39 A39 F_iri_b39 F_prefix_b39 F_reverse_b39 F_typeMapping_b39 F_container_b39 F_hasLanguage_b39 F_language_b39 F_hasDirection_b39 F_direction_b39 F_index_b39 F_scopedContext_b39 F_nest_b39 F_protectedTerm_b39 g_b39 rfl rfl) hZ (hw _ (List.mem_of_getElem? (i := 39) rfl)) (hw _ (List.mem_of_getElem? (i := 36) rfl)) (by decide) (by decide)) (g := (mkF m 156 #[.val (.int p0), .val (.int p1), .val (.int p2), .val (.int p3), .val (.int b4), .val (.int b5), .val (.int b6), .val (.int b7), .val (.int b8), .val (.ref x25), .val .null, .val (.ref x37), .val (.ref x38), .unset, .unset] [(.int b8), (.ref x37), .null, (.ref x37), (.ref x38), (.int b5), (.ref x25), (.int b4), .null, (.ref x37), (.int b7), (.int b6), (.ref x37), (.ref b39), (.ref b39)])) rfl (by rw [hml]; rfl) (Steps.refl _) (a := b39) (argsL := [(.ref x37), (.int b6), (.int b7), (.ref x37), .null, (.int b4), (.ref x25), (.int b5), (.ref x38), (.ref x37), .null, (.ref x37), (.int b8)]) (rest := [(.ref b39)]) (lenOf pd_3 rfl) rfl (by show 2 * 0 + _ ≤ _; exact Nat.le_of_eq rfl) (hb hby at_156) (fun _ _ => ⟨rfl, e39, (by decide : 0 + 3 + 3 + 3 + 1 + 0 ≤ _), (by decide : 0 + 8 + 8 + 8 + 13 + 0 ≤ _)⟩)
                  dsimp only [Pt.U, Pt.locs, Pt.cells, Pt.slots] at X40 l40 y40 z40 st40 hQ40
                  subst l40 y40 z40
                  obtain ⟨rfl, Nq40, K40, Ex40, FB40, FL40⟩ := hQ40
                  have N40 := Fr.app N38 Nq40
                  refine Go.call st40 ?_
                  have O2_q40 := own_staKeep O2_q39 K40 (allS (own_plainE A39) all0)
                  have A39_q40 := A39.keep K40
                  have Z40 : n0 ≤ T40.heap.size := Nat.le_trans Z39 K40.1
                  show Go p e below T40 (mkF m 159 #[.val (.int p0), .val (.int p1), .val (.int p2), .val (.int p3), .val (.int b4), .val (.int b5), .val (.int b6), .val (.int b7), .val (.int b8), .val (.ref x25), .val .null, .val (.ref x37), .val (.ref x38), .unset, .unset] [(.ref b39)]) _
                  refine Go.step (fun _ => XS.astore X40.here hx rfl (hb hby at_159) rfl rfl (l' := #[.val (.int p0), .val (.int p1), .val (.int p2), .val (.int p3), .val (.int b4), .val (.int b5), .val (.int b6), .val (.int b7), .val (.int b8), .val (.ref x25), .val .null, .val (.ref x37), .val (.ref x38), .val (.ref b39), .unset]) rfl) ?_
                  show Go p e below T40 (mkF m 161 #[.val (.int p0), .val (.int p1), .val (.int p2), .val (.int p3), .val (.int b4), .val (.int b5), .val (.int b6), .val (.int b7), .val (.int b8), .val (.ref x25), .val .null, .val (.ref x37), .val (.ref x38), .val (.ref b39), .unset] []) _
                  refine Go.step (fun _ => XS.aload X40.here hx rfl (hb hby at_161) rfl rfl ) ?_
                  show Go p e below T40 (mkF m 163 #[.val (.int p0), .val (.int p1), .val (.int p2), .val (.int p3), .val (.int b4), .val (.int b5), .val (.int b6), .val (.int b7), .val (.int b8), .val (.ref x25), .val .null, .val (.ref x37), .val (.ref x38), .val (.ref b39), .unset] [(.ref b39)]) _
                  refine Go.step (fun _ => XS.aload X40.here hx rfl (hb hby at_163) rfl rfl ) ?_
                  show Go p e below T40 (mkF m 165 #[.val (.int p0), .val (.int p1), .val (.int p2), .val (.int p3), .val (.int b4), .val (.int b5), .val (.int b6), .val (.int b7), .val (.int b8), .val (.ref x25), .val .null, .val (.ref x37), .val (.ref x38), .val (.ref b39), .unset] [.null, (.ref b39)]) _
                  rcases hb4 with rfl | rfl
                  · skip
                    obtain ⟨cq41, kq41, q41a, q41b, q41c⟩ := isOf hZ rfl A39_q40
                    obtain ⟨_, _, ⟨T41, L41, k41, n41⟩, -, X41, ⟨Lc41, hQ41, l41, y41, z41⟩, st41⟩ := X40.virtualBack hx (y := (⟨"org/linkweave/core/TermDefinition", "language", "(Ljava/lang/String;)Ljava/lang/String;"⟩ : MethodName)) (z := (⟨"org/linkweave/core/TermDefinition", "language", "(Ljava/lang/String;)Ljava/lang/String;"⟩ : MethodName)) hown (mvT hZ (hw _ (List.mem_of_getElem? (i := 72) rfl))) (mvT hZ (hw _ (List.mem_of_getElem? (i := 73) rfl))) (notFace_of_selects (args := #[]) (mvT hZ (hw _ (List.mem_of_getElem? (i := 75) rfl)))) (mvT hZ (hw _ (List.mem_of_getElem? (i := 75) rfl))) (mvT hZ (hw _ (List.mem_of_getElem? (i := 74) rfl))) (by decide) (backOf (W := 0) (rmLa l Z a0 hw [] b39 .null (nar .boolean (0 : Int32)) (.ref x25) .null T40.heap n0 Z40 FB40 FL40 rfl rfl (by first | rfl | decide)) hZ (hw _ (List.mem_of_getElem? (i := 76) rfl)) (hw _ (List.mem_of_getElem? (i := 36) rfl)) (by decide) (by decide)) q41a q41c (g := (mkF m 165 #[.val (.int p0), .val (.int p1), .val (.int p2), .val (.int p3), .val (.int (0 : Int32)), .val (.int b5), .val (.int b6), .val (.int b7), .val (.int b8), .val (.ref x25), .val .null, .val (.ref x37), .val (.ref x38), .val (.ref b39), .unset] [.null, (.ref b39)])) rfl (by rw [hml]; rfl) (Steps.refl _) (argsL := [.null]) (rest := []) (lenOf pd_4 rfl) rfl (by show 2 * 0 + _ ≤ _; exact Nat.le_of_eq rfl) (hb hby at_165) (fun _ _ => ⟨rfl, rfl, (by decide : 0 + 3 + 3 + 3 + 1 + 0 + 0 ≤ _), (by decide : 0 + 8 + 8 + 8 + 13 + 0 + 0 ≤ _)⟩)
                    dsimp only [Pt.U, Pt.locs, Pt.cells, Pt.slots] at X41 l41 y41 z41 st41 hQ41
                    subst l41 y41 z41
                    obtain ⟨rfl, Nq41, eh41⟩ := hQ41
                    have N41 := Fr.app N40 Nq41
                    refine Go.call st41 ?_
                    show Go p e below T41 (mkF m 168 #[.val (.int p0), .val (.int p1), .val (.int p2), .val (.int p3), .val (.int (0 : Int32)), .val (.int b5), .val (.int b6), .val (.int b7), .val (.int b8), .val (.ref x25), .val .null, .val (.ref x37), .val (.ref x38), .val (.ref b39), .unset] [.null]) _
                    refine Go.step (fun _ => XS.astore X41.here hx rfl (hb hby at_168) rfl rfl (l' := #[.val (.int p0), .val (.int p1), .val (.int p2), .val (.int p3), .val (.int (0 : Int32)), .val (.int b5), .val (.int b6), .val (.int b7), .val (.int b8), .val (.ref x25), .val .null, .val (.ref x37), .val (.ref x38), .val (.ref b39), .val .null]) rfl) ?_
                    show Go p e below T41 (mkF m 170 #[.val (.int p0), .val (.int p1), .val (.int p2), .val (.int p3), .val (.int (0 : Int32)), .val (.int b5), .val (.int b6), .val (.int b7), .val (.int b8), .val (.ref x25), .val .null, .val (.ref x37), .val (.ref x38), .val (.ref b39), .val .null] []) _
                    refine Go.step (fun _ => XS.iload X41.here hx rfl (hb hby at_170) rfl ) ?_
                    show Go p e below T41 (mkF m 172 #[.val (.int p0), .val (.int p1), .val (.int p2), .val (.int p3), .val (.int (0 : Int32)), .val (.int b5), .val (.int b6), .val (.int b7), .val (.int b8), .val (.ref x25), .val .null, .val (.ref x37), .val (.ref x38), .val (.ref b39), .val .null] [(.int (0 : Int32))]) _
                    refine Go.step (fun _ => XS.ifYes X41.here hx rfl (pc0 := 172) (pc' := 188) rfl (hb hby at_172) rfl ((if0 _ _).trans (teq (by decide)).1) (by decide) (by decide)) ?_
                    show Go p e below T41 (mkF m 188 #[.val (.int p0), .val (.int p1), .val (.int p2), .val (.int p3), .val (.int (0 : Int32)), .val (.int b5), .val (.int b6), .val (.int b7), .val (.int b8), .val (.ref x25), .val .null, .val (.ref x37), .val (.ref x38), .val (.ref b39), .val .null] []) _
                    refine Go.step (fun _ => XS.aload X41.here hx rfl (hb hby at_188) rfl rfl ) ?_
                    show Go p e below T41 (mkF m 190 #[.val (.int p0), .val (.int p1), .val (.int p2), .val (.int p3), .val (.int (0 : Int32)), .val (.int b5), .val (.int b6), .val (.int b7), .val (.int b8), .val (.ref x25), .val .null, .val (.ref x37), .val (.ref x38), .val (.ref b39), .val .null] [.null]) _
                    refine Go.step (fun _ => XS.aload X41.here hx rfl (hb hby at_190) rfl rfl ) ?_
                    show Go p e below T41 (mkF m 192 #[.val (.int p0), .val (.int p1), .val (.int p2), .val (.int p3), .val (.int (0 : Int32)), .val (.int b5), .val (.int b6), .val (.int b7), .val (.int b8), .val (.ref x25), .val .null, .val (.ref x37), .val (.ref x38), .val (.ref b39), .val .null] [.null, .null]) _
                    refine Go.step (fun _ => Jvm.RoadKit.acmp (g := (mkF m 192 #[.val (.int p0), .val (.int p1), .val (.int p2), .val (.int p3), .val (.int (0 : Int32)), .val (.int b5), .val (.int b6), .val (.int b7), .val (.int b8), .val (.ref x25), .val .null, .val (.ref x37), .val (.ref x38), .val (.ref b39), .val .null] [.null, .null])) X41 hx rfl rfl rfl (pc0 := 192) (pc' := 195) (same := true) rfl (hb hby at_192) rfl (decide_eq_true rfl) (by decide) (by decide)) ?_
                    show Go p e below T41 (mkF m 195 #[.val (.int p0), .val (.int p1), .val (.int p2), .val (.int p3), .val (.int (0 : Int32)), .val (.int b5), .val (.int b6), .val (.int b7), .val (.int b8), .val (.ref x25), .val .null, .val (.ref x37), .val (.ref x38), .val (.ref b39), .val .null] []) _
                    refine Go.step (fun _ => XS.iconst X41.here hx rfl (hb hby at_195)) ?_
                    show Go p e below T41 (mkF m 196 #[.val (.int p0), .val (.int p1), .val (.int p2), .val (.int p3), .val (.int (0 : Int32)), .val (.int b5), .val (.int b6), .val (.int b7), .val (.int b8), .val (.ref x25), .val .null, .val (.ref x37), .val (.ref x38), .val (.ref b39), .val .null] [(.int (1 : Int32))]) _
                    refine Go.step (fun _ => XS.goto X41.here hx rfl (pc0 := 196) (pc' := 200) rfl (hb hby at_196) (by decide) (by decide)) ?_
                    show Go p e below T41 (mkF m 200 #[.val (.int p0), .val (.int p1), .val (.int p2), .val (.int p3), .val (.int (0 : Int32)), .val (.int b5), .val (.int b6), .val (.int b7), .val (.int b8), .val (.ref x25), .val .null, .val (.ref x37), .val (.ref x38), .val (.ref b39), .val .null] [(.int (1 : Int32))]) _
                    refine Go.retN (t := .boolean) (z' := (1 : Int32)) X41 hx hret (by simp) hlk (hb hby at_200) (by decide) ?_ (by decide) (by decide)
                    exact ⟨rfl, N41⟩
                  · skip
                    obtain ⟨cq42, kq42, q42a, q42b, q42c⟩ := isOf hZ rfl A39_q40
                    obtain ⟨_, _, ⟨T42, L42, k42, n42⟩, -, X42, ⟨Lc42, hQ42, l42, y42, z42⟩, st42⟩ := X40.virtualBack hx (y := (⟨"org/linkweave/core/TermDefinition", "language", "(Ljava/lang/String;)Ljava/lang/String;"⟩ : MethodName)) (z := (⟨"org/linkweave/core/TermDefinition", "language", "(Ljava/lang/String;)Ljava/lang/String;"⟩ : MethodName)) hown (mvT hZ (hw _ (List.mem_of_getElem? (i := 72) rfl))) (mvT hZ (hw _ (List.mem_of_getElem? (i := 73) rfl))) (notFace_of_selects (args := #[]) (mvT hZ (hw _ (List.mem_of_getElem? (i := 75) rfl)))) (mvT hZ (hw _ (List.mem_of_getElem? (i := 75) rfl))) (mvT hZ (hw _ (List.mem_of_getElem? (i := 74) rfl))) (by decide) (backOf (W := 0) (rmLa l Z a0 hw [] b39 .null (nar .boolean (1 : Int32)) (.ref x25) (.ref x25) T40.heap n0 Z40 FB40 FL40 rfl rfl (by first | rfl | decide)) hZ (hw _ (List.mem_of_getElem? (i := 76) rfl)) (hw _ (List.mem_of_getElem? (i := 36) rfl)) (by decide) (by decide)) q42a q42c (g := (mkF m 165 #[.val (.int p0), .val (.int p1), .val (.int p2), .val (.int p3), .val (.int (1 : Int32)), .val (.int b5), .val (.int b6), .val (.int b7), .val (.int b8), .val (.ref x25), .val .null, .val (.ref x37), .val (.ref x38), .val (.ref b39), .unset] [.null, (.ref b39)])) rfl (by rw [hml]; rfl) (Steps.refl _) (argsL := [.null]) (rest := []) (lenOf pd_4 rfl) rfl (by show 2 * 0 + _ ≤ _; exact Nat.le_of_eq rfl) (hb hby at_165) (fun _ _ => ⟨rfl, rfl, (by decide : 0 + 3 + 3 + 3 + 1 + 0 + 0 ≤ _), (by decide : 0 + 8 + 8 + 8 + 13 + 0 + 0 ≤ _)⟩)
                    dsimp only [Pt.U, Pt.locs, Pt.cells, Pt.slots] at X42 l42 y42 z42 st42 hQ42
                    subst l42 y42 z42
                    obtain ⟨rfl, Nq42, eh42⟩ := hQ42
                    have N42 := Fr.app N40 Nq42
                    refine Go.call st42 ?_
                    show Go p e below T42 (mkF m 168 #[.val (.int p0), .val (.int p1), .val (.int p2), .val (.int p3), .val (.int (1 : Int32)), .val (.int b5), .val (.int b6), .val (.int b7), .val (.int b8), .val (.ref x25), .val .null, .val (.ref x37), .val (.ref x38), .val (.ref b39), .unset] [(.ref x25)]) _
                    refine Go.step (fun _ => XS.astore X42.here hx rfl (hb hby at_168) rfl rfl (l' := #[.val (.int p0), .val (.int p1), .val (.int p2), .val (.int p3), .val (.int (1 : Int32)), .val (.int b5), .val (.int b6), .val (.int b7), .val (.int b8), .val (.ref x25), .val .null, .val (.ref x37), .val (.ref x38), .val (.ref b39), .val (.ref x25)]) rfl) ?_
                    show Go p e below T42 (mkF m 170 #[.val (.int p0), .val (.int p1), .val (.int p2), .val (.int p3), .val (.int (1 : Int32)), .val (.int b5), .val (.int b6), .val (.int b7), .val (.int b8), .val (.ref x25), .val .null, .val (.ref x37), .val (.ref x38), .val (.ref b39), .val (.ref x25)] []) _
                    refine Go.step (fun _ => XS.iload X42.here hx rfl (hb hby at_170) rfl ) ?_
                    show Go p e below T42 (mkF m 172 #[.val (.int p0), .val (.int p1), .val (.int p2), .val (.int p3), .val (.int (1 : Int32)), .val (.int b5), .val (.int b6), .val (.int b7), .val (.int b8), .val (.ref x25), .val .null, .val (.ref x37), .val (.ref x38), .val (.ref b39), .val (.ref x25)] [(.int (1 : Int32))]) _
                    refine Go.step (fun _ => XS.ifNo X42.here hx rfl (hb hby at_172) rfl ((if0 _ _).trans (feq (by decide)).1)) ?_
                    show Go p e below T42 (mkF m 175 #[.val (.int p0), .val (.int p1), .val (.int p2), .val (.int p3), .val (.int (1 : Int32)), .val (.int b5), .val (.int b6), .val (.int b7), .val (.int b8), .val (.ref x25), .val .null, .val (.ref x37), .val (.ref x38), .val (.ref b39), .val (.ref x25)] []) _
                    refine Go.step (fun _ => XS.aload X42.here hx rfl (hb hby at_175) rfl rfl ) ?_
                    show Go p e below T42 (mkF m 177 #[.val (.int p0), .val (.int p1), .val (.int p2), .val (.int p3), .val (.int (1 : Int32)), .val (.int b5), .val (.int b6), .val (.int b7), .val (.int b8), .val (.ref x25), .val .null, .val (.ref x37), .val (.ref x38), .val (.ref b39), .val (.ref x25)] [(.ref x25)]) _
                    refine Go.step (fun _ => XS.aload X42.here hx rfl (hb hby at_177) rfl rfl ) ?_
                    show Go p e below T42 (mkF m 179 #[.val (.int p0), .val (.int p1), .val (.int p2), .val (.int p3), .val (.int (1 : Int32)), .val (.int b5), .val (.int b6), .val (.int b7), .val (.int b8), .val (.ref x25), .val .null, .val (.ref x37), .val (.ref x38), .val (.ref b39), .val (.ref x25)] [(.ref x25), (.ref x25)]) _
                    refine Go.step (fun _ => Jvm.RoadKit.acmp (g := (mkF m 179 #[.val (.int p0), .val (.int p1), .val (.int p2), .val (.int p3), .val (.int (1 : Int32)), .val (.int b5), .val (.int b6), .val (.int b7), .val (.int b8), .val (.ref x25), .val .null, .val (.ref x37), .val (.ref x38), .val (.ref b39), .val (.ref x25)] [(.ref x25), (.ref x25)])) X42 hx rfl rfl rfl (pc0 := 179) (pc' := 182) (same := true) rfl (hb hby at_179) rfl (decide_eq_true rfl) (by decide) (by decide)) ?_
                    show Go p e below T42 (mkF m 182 #[.val (.int p0), .val (.int p1), .val (.int p2), .val (.int p3), .val (.int (1 : Int32)), .val (.int b5), .val (.int b6), .val (.int b7), .val (.int b8), .val (.ref x25), .val .null, .val (.ref x37), .val (.ref x38), .val (.ref b39), .val (.ref x25)] []) _
                    refine Go.step (fun _ => XS.iconst X42.here hx rfl (hb hby at_182)) ?_
                    show Go p e below T42 (mkF m 183 #[.val (.int p0), .val (.int p1), .val (.int p2), .val (.int p3), .val (.int (1 : Int32)), .val (.int b5), .val (.int b6), .val (.int b7), .val (.int b8), .val (.ref x25), .val .null, .val (.ref x37), .val (.ref x38), .val (.ref b39), .val (.ref x25)] [(.int (1 : Int32))]) _
                    refine Go.step (fun _ => XS.goto X42.here hx rfl (pc0 := 183) (pc' := 187) rfl (hb hby at_183) (by decide) (by decide)) ?_
                    show Go p e below T42 (mkF m 187 #[.val (.int p0), .val (.int p1), .val (.int p2), .val (.int p3), .val (.int (1 : Int32)), .val (.int b5), .val (.int b6), .val (.int b7), .val (.int b8), .val (.ref x25), .val .null, .val (.ref x37), .val (.ref x38), .val (.ref b39), .val (.ref x25)] [(.int (1 : Int32))]) _
                    refine Go.retN (t := .boolean) (z' := (1 : Int32)) X42 hx hret (by simp) hlk (hb hby at_187) (by decide) ?_ (by decide) (by decide)
                    exact ⟨rfl, N42⟩
                · skip
                  refine Go.step (fun _ => XS.ifNo X37.here hx rfl (hb hby at_112) rfl ((if0 _ _).trans (feq hc112).1)) ?_
                  show Go p e below T37 (mkF m 115 #[.val (.int p0), .val (.int p1), .val (.int p2), .val (.int p3), .val (.int b4), .val (.int b5), .val (.int b6), .val (.int b7), .val (.int b8), .val (.ref x25), .val .null, .val (.ref x37), .unset, .unset, .unset] []) _
                  refine Go.step (fun _ => XS.aconstNull X37.here hx rfl (hb hby at_115)) ?_
                  show Go p e below T37 (mkF m 116 #[.val (.int p0), .val (.int p1), .val (.int p2), .val (.int p3), .val (.int b4), .val (.int b5), .val (.int b6), .val (.int b7), .val (.int b8), .val (.ref x25), .val .null, .val (.ref x37), .unset, .unset, .unset] [.null]) _
                  refine Go.step (fun _ => XS.goto X37.here hx rfl (pc0 := 116) (pc' := 126) rfl (hb hby at_116) (by decide) (by decide)) ?_
                  show Go p e below T37 (mkF m 126 #[.val (.int p0), .val (.int p1), .val (.int p2), .val (.int p3), .val (.int b4), .val (.int b5), .val (.int b6), .val (.int b7), .val (.int b8), .val (.ref x25), .val .null, .val (.ref x37), .unset, .unset, .unset] [.null]) _
                  refine Go.step (fun _ => XS.astore X37.here hx rfl (hb hby at_126) rfl rfl (l' := #[.val (.int p0), .val (.int p1), .val (.int p2), .val (.int p3), .val (.int b4), .val (.int b5), .val (.int b6), .val (.int b7), .val (.int b8), .val (.ref x25), .val .null, .val (.ref x37), .val .null, .unset, .unset]) rfl) ?_
                  show Go p e below T37 (mkF m 128 #[.val (.int p0), .val (.int p1), .val (.int p2), .val (.int p3), .val (.int b4), .val (.int b5), .val (.int b6), .val (.int b7), .val (.int b8), .val (.ref x25), .val .null, .val (.ref x37), .val .null, .unset, .unset] []) _
                  obtain ⟨T43, h43, X43, e43, E43, A43, D43, -, st43⟩ := newO X37 hx hZ hown (hw _ (List.mem_of_getElem? (i := 34) rfl)) (hw _ (List.mem_of_getElem? (i := 35) rfl)) (hw _ (List.mem_of_getElem? (i := 36) rfl)) rfl (g := (mkF m 128 #[.val (.int p0), .val (.int p1), .val (.int p2), .val (.int p3), .val (.int b4), .val (.int b5), .val (.int b6), .val (.int b7), .val (.int b8), .val (.ref x25), .val .null, .val (.ref x37), .val .null, .unset, .unset] [])) rfl (hb hby at_128) (by decide) (by decide)
                  obtain ⟨b43, g43⟩ : ∃ z, z = T37.heap.size := ⟨_, rfl⟩
                  rw [← g43] at A43 D43 st43
                  have g_b43 : n0 ≤ b43 := Nat.le_trans Z37 (Nat.le_of_eq g43.symm)
                  have O2_q43 := O2_q37.ext E43
                  have Z43 : n0 ≤ h43.size := Nat.le_trans Z37 E43.1
                  refine Go.step st43 ?_
                  have F_iri_b43 : Fld Z h43 b43 "org/linkweave/core/TermDefinition" "iri" "Ljava/lang/String;" .null := D43 (Or.inr (hw _ (List.mem_of_getElem? (i := 47) rfl))) (ty := (.object "java/lang/String")) (by decide)
                  have F_prefix_b43 : Fld Z h43 b43 "org/linkweave/core/TermDefinition" "prefix" "Z" (.int (0 : Int32)) := D43 (Or.inr (hw _ (List.mem_of_getElem? (i := 49) rfl))) (ty := .boolean) (by decide)
                  have F_reverse_b43 : Fld Z h43 b43 "org/linkweave/core/TermDefinition" "reverse" "Z" (.int (0 : Int32)) := D43 (Or.inr (hw _ (List.mem_of_getElem? (i := 51) rfl))) (ty := .boolean) (by decide)
                  have F_typeMapping_b43 : Fld Z h43 b43 "org/linkweave/core/TermDefinition" "typeMapping" "Ljava/lang/String;" .null := D43 (Or.inr (hw _ (List.mem_of_getElem? (i := 53) rfl))) (ty := (.object "java/lang/String")) (by decide)
                  have F_container_b43 : Fld Z h43 b43 "org/linkweave/core/TermDefinition" "container" "Ljava/util/Set;" .null := D43 (Or.inr (hw _ (List.mem_of_getElem? (i := 55) rfl))) (ty := (.object "java/util/Set")) (by decide)
                  have F_hasLanguage_b43 : Fld Z h43 b43 "org/linkweave/core/TermDefinition" "hasLanguage" "Z" (.int (0 : Int32)) := D43 (Or.inr (hw _ (List.mem_of_getElem? (i := 57) rfl))) (ty := .boolean) (by decide)
                  have F_language_b43 : Fld Z h43 b43 "org/linkweave/core/TermDefinition" "language" "Ljava/lang/String;" .null := D43 (Or.inr (hw _ (List.mem_of_getElem? (i := 59) rfl))) (ty := (.object "java/lang/String")) (by decide)
                  have F_hasDirection_b43 : Fld Z h43 b43 "org/linkweave/core/TermDefinition" "hasDirection" "Z" (.int (0 : Int32)) := D43 (Or.inr (hw _ (List.mem_of_getElem? (i := 61) rfl))) (ty := .boolean) (by decide)
                  have F_direction_b43 : Fld Z h43 b43 "org/linkweave/core/TermDefinition" "direction" "Ljava/lang/String;" .null := D43 (Or.inr (hw _ (List.mem_of_getElem? (i := 63) rfl))) (ty := (.object "java/lang/String")) (by decide)
                  have F_index_b43 : Fld Z h43 b43 "org/linkweave/core/TermDefinition" "index" "Ljava/lang/String;" .null := D43 (Or.inr (hw _ (List.mem_of_getElem? (i := 65) rfl))) (ty := (.object "java/lang/String")) (by decide)
                  have F_scopedContext_b43 : Fld Z h43 b43 "org/linkweave/core/TermDefinition" "scopedContext" "Lorg/linkweave/core/TermDefinition$ScopedContext;" .null := D43 (Or.inr (hw _ (List.mem_of_getElem? (i := 67) rfl))) (ty := (.object "org/linkweave/core/TermDefinition$ScopedContext")) (by decide)
                  have F_nest_b43 : Fld Z h43 b43 "org/linkweave/core/TermDefinition" "nest" "Ljava/lang/String;" .null := D43 (Or.inr (hw _ (List.mem_of_getElem? (i := 69) rfl))) (ty := (.object "java/lang/String")) (by decide)
                  have F_protectedTerm_b43 : Fld Z h43 b43 "org/linkweave/core/TermDefinition" "protectedTerm" "Z" (.int (0 : Int32)) := D43 (Or.inr (hw _ (List.mem_of_getElem? (i := 71) rfl))) (ty := .boolean) (by decide)
                  show Go p e below T43 (mkF m 131 #[.val (.int p0), .val (.int p1), .val (.int p2), .val (.int p3), .val (.int b4), .val (.int b5), .val (.int b6), .val (.int b7), .val (.int b8), .val (.ref x25), .val .null, .val (.ref x37), .val .null, .unset, .unset] [(.ref b43)]) _
                  refine Go.step (fun _ => XS.dup X43.here hx rfl (hb hby at_131) rfl rfl) ?_
                  show Go p e below T43 (mkF m 132 #[.val (.int p0), .val (.int p1), .val (.int p2), .val (.int p3), .val (.int b4), .val (.int b5), .val (.int b6), .val (.int b7), .val (.int b8), .val (.ref x25), .val .null, .val (.ref x37), .val .null, .unset, .unset] [(.ref b43), (.ref b43)]) _
                  refine Go.step (fun _ => XS.aload X43.here hx rfl (hb hby at_132) rfl rfl ) ?_
                  show Go p e below T43 (mkF m 134 #[.val (.int p0), .val (.int p1), .val (.int p2), .val (.int p3), .val (.int b4), .val (.int b5), .val (.int b6), .val (.int b7), .val (.int b8), .val (.ref x25), .val .null, .val (.ref x37), .val .null, .unset, .unset] [(.ref x37), (.ref b43), (.ref b43)]) _
                  refine Go.step (fun _ => XS.iload X43.here hx rfl (hb hby at_134) rfl ) ?_
                  show Go p e below T43 (mkF m 136 #[.val (.int p0), .val (.int p1), .val (.int p2), .val (.int p3), .val (.int b4), .val (.int b5), .val (.int b6), .val (.int b7), .val (.int b8), .val (.ref x25), .val .null, .val (.ref x37), .val .null, .unset, .unset] [(.int b6), (.ref x37), (.ref b43), (.ref b43)]) _
                  refine Go.step (fun _ => XS.iload X43.here hx rfl (hb hby at_136) rfl ) ?_
                  show Go p e below T43 (mkF m 138 #[.val (.int p0), .val (.int p1), .val (.int p2), .val (.int p3), .val (.int b4), .val (.int b5), .val (.int b6), .val (.int b7), .val (.int b8), .val (.ref x25), .val .null, .val (.ref x37), .val .null, .unset, .unset] [(.int b7), (.int b6), (.ref x37), (.ref b43), (.ref b43)]) _
                  refine Go.step (fun _ => XS.aload X43.here hx rfl (hb hby at_138) rfl rfl ) ?_
                  show Go p e below T43 (mkF m 140 #[.val (.int p0), .val (.int p1), .val (.int p2), .val (.int p3), .val (.int b4), .val (.int b5), .val (.int b6), .val (.int b7), .val (.int b8), .val (.ref x25), .val .null, .val (.ref x37), .val .null, .unset, .unset] [(.ref x37), (.int b7), (.int b6), (.ref x37), (.ref b43), (.ref b43)]) _
                  refine Go.step (fun _ => XS.aconstNull X43.here hx rfl (hb hby at_140)) ?_
                  show Go p e below T43 (mkF m 141 #[.val (.int p0), .val (.int p1), .val (.int p2), .val (.int p3), .val (.int b4), .val (.int b5), .val (.int b6), .val (.int b7), .val (.int b8), .val (.ref x25), .val .null, .val (.ref x37), .val .null, .unset, .unset] [.null, (.ref x37), (.int b7), (.int b6), (.ref x37), (.ref b43), (.ref b43)]) _
                  refine Go.step (fun _ => XS.iload X43.here hx rfl (hb hby at_141) rfl ) ?_
                  show Go p e below T43 (mkF m 143 #[.val (.int p0), .val (.int p1), .val (.int p2), .val (.int p3), .val (.int b4), .val (.int b5), .val (.int b6), .val (.int b7), .val (.int b8), .val (.ref x25), .val .null, .val (.ref x37), .val .null, .unset, .unset] [(.int b4), .null, (.ref x37), (.int b7), (.int b6), (.ref x37), (.ref b43), (.ref b43)]) _
                  refine Go.step (fun _ => XS.aload X43.here hx rfl (hb hby at_143) rfl rfl ) ?_
                  show Go p e below T43 (mkF m 145 #[.val (.int p0), .val (.int p1), .val (.int p2), .val (.int p3), .val (.int b4), .val (.int b5), .val (.int b6), .val (.int b7), .val (.int b8), .val (.ref x25), .val .null, .val (.ref x37), .val .null, .unset, .unset] [(.ref x25), (.int b4), .null, (.ref x37), (.int b7), (.int b6), (.ref x37), (.ref b43), (.ref b43)]) _
                  refine Go.step (fun _ => XS.iload X43.here hx rfl (hb hby at_145) rfl ) ?_
                  show Go p e below T43 (mkF m 147 #[.val (.int p0), .val (.int p1), .val (.int p2), .val (.int p3), .val (.int b4), .val (.int b5), .val (.int b6), .val (.int b7), .val (.int b8), .val (.ref x25), .val .null, .val (.ref x37), .val .null, .unset, .unset] [(.int b5), (.ref x25), (.int b4), .null, (.ref x37), (.int b7), (.int b6), (.ref x37), (.ref b43), (.ref b43)]) _
                  refine Go.step (fun _ => XS.aload X43.here hx rfl (hb hby at_147) rfl rfl ) ?_
                  show Go p e below T43 (mkF m 149 #[.val (.int p0), .val (.int p1), .val (.int p2), .val (.int p3), .val (.int b4), .val (.int b5), .val (.int b6), .val (.int b7), .val (.int b8), .val (.ref x25), .val .null, .val (.ref x37), .val .null, .unset, .unset] [.null, (.int b5), (.ref x25), (.int b4), .null, (.ref x37), (.int b7), (.int b6), (.ref x37), (.ref b43), (.ref b43)]) _
                  refine Go.step (fun _ => XS.aload X43.here hx rfl (hb hby at_149) rfl rfl ) ?_
                  show Go p e below T43 (mkF m 151 #[.val (.int p0), .val (.int p1), .val (.int p2), .val (.int p3), .val (.int b4), .val (.int b5), .val (.int b6), .val (.int b7), .val (.int b8), .val (.ref x25), .val .null, .val (.ref x37), .val .null, .unset, .unset] [(.ref x37), .null, (.int b5), (.ref x25), (.int b4), .null, (.ref x37), (.int b7), (.int b6), (.ref x37), (.ref b43), (.ref b43)]) _
                  refine Go.step (fun _ => XS.aconstNull X43.here hx rfl (hb hby at_151)) ?_
                  show Go p e below T43 (mkF m 152 #[.val (.int p0), .val (.int p1), .val (.int p2), .val (.int p3), .val (.int b4), .val (.int b5), .val (.int b6), .val (.int b7), .val (.int b8), .val (.ref x25), .val .null, .val (.ref x37), .val .null, .unset, .unset] [.null, (.ref x37), .null, (.int b5), (.ref x25), (.int b4), .null, (.ref x37), (.int b7), (.int b6), (.ref x37), (.ref b43), (.ref b43)]) _
                  refine Go.step (fun _ => XS.aload X43.here hx rfl (hb hby at_152) rfl rfl ) ?_
                  show Go p e below T43 (mkF m 154 #[.val (.int p0), .val (.int p1), .val (.int p2), .val (.int p3), .val (.int b4), .val (.int b5), .val (.int b6), .val (.int b7), .val (.int b8), .val (.ref x25), .val .null, .val (.ref x37), .val .null, .unset, .unset] [(.ref x37), .null, (.ref x37), .null, (.int b5), (.ref x25), (.int b4), .null, (.ref x37), (.int b7), (.int b6), (.ref x37), (.ref b43), (.ref b43)]) _
                  refine Go.step (fun _ => XS.iload X43.here hx rfl (hb hby at_154) rfl ) ?_
                  show Go p e below T43 (mkF m 156 #[.val (.int p0), .val (.int p1), .val (.int p2), .val (.int p3), .val (.int b4), .val (.int b5), .val (.int b6), .val (.int b7), .val (.int b8), .val (.ref x25), .val .null, .val (.ref x37), .val .null, .unset, .unset] [(.int b8), (.ref x37), .null, (.ref x37), .null, (.int b5), (.ref x25), (.int b4), .null, (.ref x37), (.int b7), (.int b6), (.ref x37), (.ref b43), (.ref b43)]) _
                  obtain ⟨_, _, ⟨T44, L44, k44, n44⟩, -, X44, ⟨Lc44, hQ44, l44, y44, z44⟩, st44⟩ := X43.specialBack hx (y := (⟨"org/linkweave/core/TermDefinition", "<init>", "(Ljava/lang/String;ZZLjava/lang/String;Ljava/util/Set;ZLjava/lang/String;ZLjava/lang/String;Ljava/lang/String;Lorg/linkweave/core/TermDefinition$ScopedContext;Ljava/lang/String;Z)V"⟩ : MethodName)) rfl hown (mvT hZ (hw _ (List.mem_of_getElem? (i := 37) rfl))) (mvT hZ (hw _ (List.mem_of_getElem? (i := 38) rfl))) (mvT hZ (hw _ (List.mem_of_getElem? (i := 39) rfl))) (by decide) (backOf (W := 1) (rmCt l Z a0 hw [] b43 x37 b6 b7 x37 b4 (.ref x25) b5 .null x37 x37 b8 h43 n0 Z43 A43 F_iri_b43 F_prefix_b43 F_reverse_b43 F_typeMapping_b43 F_container_b43 F_hasLanguage_b43 F_language_b43 F_hasDirection_b43 F_direction_b43 F_index_b43 F_scopedContext_b43 F_nest_b43 F_protectedTerm_b43 g_b43 rfl rfl) hZ (hw _ (List.mem_of_getElem? (i := 39) rfl)) (hw _ (List.mem_of_getElem? (i := 36) rfl)) (by decide) (by decide)) (g := (mkF m 156 #[.val (.int p0), .val (.int p1), .val (.int p2), .val (.int p3), .val (.int b4), .val (.int b5), .val (.int b6), .val (.int b7), .val (.int b8), .val (.ref x25), .val .null, .val (.ref x37), .val .null, .unset, .unset] [(.int b8), (.ref x37), .null, (.ref x37), .null, (.int b5), (.ref x25), (.int b4), .null, (.ref x37), (.int b7), (.int b6), (.ref x37), (.ref b43), (.ref b43)])) rfl (by rw [hml]; rfl) (Steps.refl _) (a := b43) (argsL := [(.ref x37), (.int b6), (.int b7), (.ref x37), .null, (.int b4), (.ref x25), (.int b5), .null, (.ref x37), .null, (.ref x37), (.int b8)]) (rest := [(.ref b43)]) (lenOf pd_3 rfl) rfl (by show 2 * 0 + _ ≤ _; exact Nat.le_of_eq rfl) (hb hby at_156) (fun _ _ => ⟨rfl, e43, (by decide : 0 + 3 + 3 + 1 + 0 ≤ _), (by decide : 0 + 8 + 8 + 13 + 0 ≤ _)⟩)
                  dsimp only [Pt.U, Pt.locs, Pt.cells, Pt.slots] at X44 l44 y44 z44 st44 hQ44
                  subst l44 y44 z44
                  obtain ⟨rfl, Nq44, K44, Ex44, FB44, FL44⟩ := hQ44
                  have N44 := Fr.app N37 Nq44
                  refine Go.call st44 ?_
                  have O2_q44 := own_staKeep O2_q43 K44 (allS (own_plainE A43) all0)
                  have A43_q44 := A43.keep K44
                  have Z44 : n0 ≤ T44.heap.size := Nat.le_trans Z43 K44.1
                  show Go p e below T44 (mkF m 159 #[.val (.int p0), .val (.int p1), .val (.int p2), .val (.int p3), .val (.int b4), .val (.int b5), .val (.int b6), .val (.int b7), .val (.int b8), .val (.ref x25), .val .null, .val (.ref x37), .val .null, .unset, .unset] [(.ref b43)]) _
                  refine Go.step (fun _ => XS.astore X44.here hx rfl (hb hby at_159) rfl rfl (l' := #[.val (.int p0), .val (.int p1), .val (.int p2), .val (.int p3), .val (.int b4), .val (.int b5), .val (.int b6), .val (.int b7), .val (.int b8), .val (.ref x25), .val .null, .val (.ref x37), .val .null, .val (.ref b43), .unset]) rfl) ?_
                  show Go p e below T44 (mkF m 161 #[.val (.int p0), .val (.int p1), .val (.int p2), .val (.int p3), .val (.int b4), .val (.int b5), .val (.int b6), .val (.int b7), .val (.int b8), .val (.ref x25), .val .null, .val (.ref x37), .val .null, .val (.ref b43), .unset] []) _
                  refine Go.step (fun _ => XS.aload X44.here hx rfl (hb hby at_161) rfl rfl ) ?_
                  show Go p e below T44 (mkF m 163 #[.val (.int p0), .val (.int p1), .val (.int p2), .val (.int p3), .val (.int b4), .val (.int b5), .val (.int b6), .val (.int b7), .val (.int b8), .val (.ref x25), .val .null, .val (.ref x37), .val .null, .val (.ref b43), .unset] [(.ref b43)]) _
                  refine Go.step (fun _ => XS.aload X44.here hx rfl (hb hby at_163) rfl rfl ) ?_
                  show Go p e below T44 (mkF m 165 #[.val (.int p0), .val (.int p1), .val (.int p2), .val (.int p3), .val (.int b4), .val (.int b5), .val (.int b6), .val (.int b7), .val (.int b8), .val (.ref x25), .val .null, .val (.ref x37), .val .null, .val (.ref b43), .unset] [.null, (.ref b43)]) _
                  rcases hb4 with rfl | rfl
                  · skip
                    obtain ⟨cq45, kq45, q45a, q45b, q45c⟩ := isOf hZ rfl A43_q44
                    obtain ⟨_, _, ⟨T45, L45, k45, n45⟩, -, X45, ⟨Lc45, hQ45, l45, y45, z45⟩, st45⟩ := X44.virtualBack hx (y := (⟨"org/linkweave/core/TermDefinition", "language", "(Ljava/lang/String;)Ljava/lang/String;"⟩ : MethodName)) (z := (⟨"org/linkweave/core/TermDefinition", "language", "(Ljava/lang/String;)Ljava/lang/String;"⟩ : MethodName)) hown (mvT hZ (hw _ (List.mem_of_getElem? (i := 72) rfl))) (mvT hZ (hw _ (List.mem_of_getElem? (i := 73) rfl))) (notFace_of_selects (args := #[]) (mvT hZ (hw _ (List.mem_of_getElem? (i := 75) rfl)))) (mvT hZ (hw _ (List.mem_of_getElem? (i := 75) rfl))) (mvT hZ (hw _ (List.mem_of_getElem? (i := 74) rfl))) (by decide) (backOf (W := 0) (rmLa l Z a0 hw [] b43 .null (nar .boolean (0 : Int32)) (.ref x25) .null T44.heap n0 Z44 FB44 FL44 rfl rfl (by first | rfl | decide)) hZ (hw _ (List.mem_of_getElem? (i := 76) rfl)) (hw _ (List.mem_of_getElem? (i := 36) rfl)) (by decide) (by decide)) q45a q45c (g := (mkF m 165 #[.val (.int p0), .val (.int p1), .val (.int p2), .val (.int p3), .val (.int (0 : Int32)), .val (.int b5), .val (.int b6), .val (.int b7), .val (.int b8), .val (.ref x25), .val .null, .val (.ref x37), .val .null, .val (.ref b43), .unset] [.null, (.ref b43)])) rfl (by rw [hml]; rfl) (Steps.refl _) (argsL := [.null]) (rest := []) (lenOf pd_4 rfl) rfl (by show 2 * 0 + _ ≤ _; exact Nat.le_of_eq rfl) (hb hby at_165) (fun _ _ => ⟨rfl, rfl, (by decide : 0 + 3 + 3 + 1 + 0 + 0 ≤ _), (by decide : 0 + 8 + 8 + 13 + 0 + 0 ≤ _)⟩)
                    dsimp only [Pt.U, Pt.locs, Pt.cells, Pt.slots] at X45 l45 y45 z45 st45 hQ45
                    subst l45 y45 z45
                    obtain ⟨rfl, Nq45, eh45⟩ := hQ45
                    have N45 := Fr.app N44 Nq45
                    refine Go.call st45 ?_
                    show Go p e below T45 (mkF m 168 #[.val (.int p0), .val (.int p1), .val (.int p2), .val (.int p3), .val (.int (0 : Int32)), .val (.int b5), .val (.int b6), .val (.int b7), .val (.int b8), .val (.ref x25), .val .null, .val (.ref x37), .val .null, .val (.ref b43), .unset] [.null]) _
                    refine Go.step (fun _ => XS.astore X45.here hx rfl (hb hby at_168) rfl rfl (l' := #[.val (.int p0), .val (.int p1), .val (.int p2), .val (.int p3), .val (.int (0 : Int32)), .val (.int b5), .val (.int b6), .val (.int b7), .val (.int b8), .val (.ref x25), .val .null, .val (.ref x37), .val .null, .val (.ref b43), .val .null]) rfl) ?_
                    show Go p e below T45 (mkF m 170 #[.val (.int p0), .val (.int p1), .val (.int p2), .val (.int p3), .val (.int (0 : Int32)), .val (.int b5), .val (.int b6), .val (.int b7), .val (.int b8), .val (.ref x25), .val .null, .val (.ref x37), .val .null, .val (.ref b43), .val .null] []) _
                    refine Go.step (fun _ => XS.iload X45.here hx rfl (hb hby at_170) rfl ) ?_
                    show Go p e below T45 (mkF m 172 #[.val (.int p0), .val (.int p1), .val (.int p2), .val (.int p3), .val (.int (0 : Int32)), .val (.int b5), .val (.int b6), .val (.int b7), .val (.int b8), .val (.ref x25), .val .null, .val (.ref x37), .val .null, .val (.ref b43), .val .null] [(.int (0 : Int32))]) _
                    refine Go.step (fun _ => XS.ifYes X45.here hx rfl (pc0 := 172) (pc' := 188) rfl (hb hby at_172) rfl ((if0 _ _).trans (teq (by decide)).1) (by decide) (by decide)) ?_
                    show Go p e below T45 (mkF m 188 #[.val (.int p0), .val (.int p1), .val (.int p2), .val (.int p3), .val (.int (0 : Int32)), .val (.int b5), .val (.int b6), .val (.int b7), .val (.int b8), .val (.ref x25), .val .null, .val (.ref x37), .val .null, .val (.ref b43), .val .null] []) _
                    refine Go.step (fun _ => XS.aload X45.here hx rfl (hb hby at_188) rfl rfl ) ?_
                    show Go p e below T45 (mkF m 190 #[.val (.int p0), .val (.int p1), .val (.int p2), .val (.int p3), .val (.int (0 : Int32)), .val (.int b5), .val (.int b6), .val (.int b7), .val (.int b8), .val (.ref x25), .val .null, .val (.ref x37), .val .null, .val (.ref b43), .val .null] [.null]) _
                    refine Go.step (fun _ => XS.aload X45.here hx rfl (hb hby at_190) rfl rfl ) ?_
                    show Go p e below T45 (mkF m 192 #[.val (.int p0), .val (.int p1), .val (.int p2), .val (.int p3), .val (.int (0 : Int32)), .val (.int b5), .val (.int b6), .val (.int b7), .val (.int b8), .val (.ref x25), .val .null, .val (.ref x37), .val .null, .val (.ref b43), .val .null] [.null, .null]) _
                    refine Go.step (fun _ => Jvm.RoadKit.acmp (g := (mkF m 192 #[.val (.int p0), .val (.int p1), .val (.int p2), .val (.int p3), .val (.int (0 : Int32)), .val (.int b5), .val (.int b6), .val (.int b7), .val (.int b8), .val (.ref x25), .val .null, .val (.ref x37), .val .null, .val (.ref b43), .val .null] [.null, .null])) X45 hx rfl rfl rfl (pc0 := 192) (pc' := 195) (same := true) rfl (hb hby at_192) rfl (decide_eq_true rfl) (by decide) (by decide)) ?_
                    show Go p e below T45 (mkF m 195 #[.val (.int p0), .val (.int p1), .val (.int p2), .val (.int p3), .val (.int (0 : Int32)), .val (.int b5), .val (.int b6), .val (.int b7), .val (.int b8), .val (.ref x25), .val .null, .val (.ref x37), .val .null, .val (.ref b43), .val .null] []) _
                    refine Go.step (fun _ => XS.iconst X45.here hx rfl (hb hby at_195)) ?_
                    show Go p e below T45 (mkF m 196 #[.val (.int p0), .val (.int p1), .val (.int p2), .val (.int p3), .val (.int (0 : Int32)), .val (.int b5), .val (.int b6), .val (.int b7), .val (.int b8), .val (.ref x25), .val .null, .val (.ref x37), .val .null, .val (.ref b43), .val .null] [(.int (1 : Int32))]) _
                    refine Go.step (fun _ => XS.goto X45.here hx rfl (pc0 := 196) (pc' := 200) rfl (hb hby at_196) (by decide) (by decide)) ?_
                    show Go p e below T45 (mkF m 200 #[.val (.int p0), .val (.int p1), .val (.int p2), .val (.int p3), .val (.int (0 : Int32)), .val (.int b5), .val (.int b6), .val (.int b7), .val (.int b8), .val (.ref x25), .val .null, .val (.ref x37), .val .null, .val (.ref b43), .val .null] [(.int (1 : Int32))]) _
                    refine Go.retN (t := .boolean) (z' := (1 : Int32)) X45 hx hret (by simp) hlk (hb hby at_200) (by decide) ?_ (by decide) (by decide)
                    exact ⟨rfl, N45⟩
                  · skip
                    obtain ⟨cq46, kq46, q46a, q46b, q46c⟩ := isOf hZ rfl A43_q44
                    obtain ⟨_, _, ⟨T46, L46, k46, n46⟩, -, X46, ⟨Lc46, hQ46, l46, y46, z46⟩, st46⟩ := X44.virtualBack hx (y := (⟨"org/linkweave/core/TermDefinition", "language", "(Ljava/lang/String;)Ljava/lang/String;"⟩ : MethodName)) (z := (⟨"org/linkweave/core/TermDefinition", "language", "(Ljava/lang/String;)Ljava/lang/String;"⟩ : MethodName)) hown (mvT hZ (hw _ (List.mem_of_getElem? (i := 72) rfl))) (mvT hZ (hw _ (List.mem_of_getElem? (i := 73) rfl))) (notFace_of_selects (args := #[]) (mvT hZ (hw _ (List.mem_of_getElem? (i := 75) rfl)))) (mvT hZ (hw _ (List.mem_of_getElem? (i := 75) rfl))) (mvT hZ (hw _ (List.mem_of_getElem? (i := 74) rfl))) (by decide) (backOf (W := 0) (rmLa l Z a0 hw [] b43 .null (nar .boolean (1 : Int32)) (.ref x25) (.ref x25) T44.heap n0 Z44 FB44 FL44 rfl rfl (by first | rfl | decide)) hZ (hw _ (List.mem_of_getElem? (i := 76) rfl)) (hw _ (List.mem_of_getElem? (i := 36) rfl)) (by decide) (by decide)) q46a q46c (g := (mkF m 165 #[.val (.int p0), .val (.int p1), .val (.int p2), .val (.int p3), .val (.int (1 : Int32)), .val (.int b5), .val (.int b6), .val (.int b7), .val (.int b8), .val (.ref x25), .val .null, .val (.ref x37), .val .null, .val (.ref b43), .unset] [.null, (.ref b43)])) rfl (by rw [hml]; rfl) (Steps.refl _) (argsL := [.null]) (rest := []) (lenOf pd_4 rfl) rfl (by show 2 * 0 + _ ≤ _; exact Nat.le_of_eq rfl) (hb hby at_165) (fun _ _ => ⟨rfl, rfl, (by decide : 0 + 3 + 3 + 1 + 0 + 0 ≤ _), (by decide : 0 + 8 + 8 + 13 + 0 + 0 ≤ _)⟩)
                    dsimp only [Pt.U, Pt.locs, Pt.cells, Pt.slots] at X46 l46 y46 z46 st46 hQ46
                    subst l46 y46 z46
                    obtain ⟨rfl, Nq46, eh46⟩ := hQ46
                    have N46 := Fr.app N44 Nq46
                    refine Go.call st46 ?_
                    show Go p e below T46 (mkF m 168 #[.val (.int p0), .val (.int p1), .val (.int p2), .val (.int p3), .val (.int (1 : Int32)), .val (.int b5), .val (.int b6), .val (.int b7), .val (.int b8), .val (.ref x25), .val .null, .val (.ref x37), .val .null, .val (.ref b43), .unset] [(.ref x25)]) _
                    refine Go.step (fun _ => XS.astore X46.here hx rfl (hb hby at_168) rfl rfl (l' := #[.val (.int p0), .val (.int p1), .val (.int p2), .val (.int p3), .val (.int (1 : Int32)), .val (.int b5), .val (.int b6), .val (.int b7), .val (.int b8), .val (.ref x25), .val .null, .val (.ref x37), .val .null, .val (.ref b43), .val (.ref x25)]) rfl) ?_
                    show Go p e below T46 (mkF m 170 #[.val (.int p0), .val (.int p1), .val (.int p2), .val (.int p3), .val (.int (1 : Int32)), .val (.int b5), .val (.int b6), .val (.int b7), .val (.int b8), .val (.ref x25), .val .null, .val (.ref x37), .val .null, .val (.ref b43), .val (.ref x25)] []) _
                    refine Go.step (fun _ => XS.iload X46.here hx rfl (hb hby at_170) rfl ) ?_
                    show Go p e below T46 (mkF m 172 #[.val (.int p0), .val (.int p1), .val (.int p2), .val (.int p3), .val (.int (1 : Int32)), .val (.int b5), .val (.int b6), .val (.int b7), .val (.int b8), .val (.ref x25), .val .null, .val (.ref x37), .val .null, .val (.ref b43), .val (.ref x25)] [(.int (1 : Int32))]) _
                    refine Go.step (fun _ => XS.ifNo X46.here hx rfl (hb hby at_172) rfl ((if0 _ _).trans (feq (by decide)).1)) ?_
                    show Go p e below T46 (mkF m 175 #[.val (.int p0), .val (.int p1), .val (.int p2), .val (.int p3), .val (.int (1 : Int32)), .val (.int b5), .val (.int b6), .val (.int b7), .val (.int b8), .val (.ref x25), .val .null, .val (.ref x37), .val .null, .val (.ref b43), .val (.ref x25)] []) _
                    refine Go.step (fun _ => XS.aload X46.here hx rfl (hb hby at_175) rfl rfl ) ?_
                    show Go p e below T46 (mkF m 177 #[.val (.int p0), .val (.int p1), .val (.int p2), .val (.int p3), .val (.int (1 : Int32)), .val (.int b5), .val (.int b6), .val (.int b7), .val (.int b8), .val (.ref x25), .val .null, .val (.ref x37), .val .null, .val (.ref b43), .val (.ref x25)] [(.ref x25)]) _
                    refine Go.step (fun _ => XS.aload X46.here hx rfl (hb hby at_177) rfl rfl ) ?_
                    show Go p e below T46 (mkF m 179 #[.val (.int p0), .val (.int p1), .val (.int p2), .val (.int p3), .val (.int (1 : Int32)), .val (.int b5), .val (.int b6), .val (.int b7), .val (.int b8), .val (.ref x25), .val .null, .val (.ref x37), .val .null, .val (.ref b43), .val (.ref x25)] [(.ref x25), (.ref x25)]) _
                    refine Go.step (fun _ => Jvm.RoadKit.acmp (g := (mkF m 179 #[.val (.int p0), .val (.int p1), .val (.int p2), .val (.int p3), .val (.int (1 : Int32)), .val (.int b5), .val (.int b6), .val (.int b7), .val (.int b8), .val (.ref x25), .val .null, .val (.ref x37), .val .null, .val (.ref b43), .val (.ref x25)] [(.ref x25), (.ref x25)])) X46 hx rfl rfl rfl (pc0 := 179) (pc' := 182) (same := true) rfl (hb hby at_179) rfl (decide_eq_true rfl) (by decide) (by decide)) ?_
                    show Go p e below T46 (mkF m 182 #[.val (.int p0), .val (.int p1), .val (.int p2), .val (.int p3), .val (.int (1 : Int32)), .val (.int b5), .val (.int b6), .val (.int b7), .val (.int b8), .val (.ref x25), .val .null, .val (.ref x37), .val .null, .val (.ref b43), .val (.ref x25)] []) _
                    refine Go.step (fun _ => XS.iconst X46.here hx rfl (hb hby at_182)) ?_
                    show Go p e below T46 (mkF m 183 #[.val (.int p0), .val (.int p1), .val (.int p2), .val (.int p3), .val (.int (1 : Int32)), .val (.int b5), .val (.int b6), .val (.int b7), .val (.int b8), .val (.ref x25), .val .null, .val (.ref x37), .val .null, .val (.ref b43), .val (.ref x25)] [(.int (1 : Int32))]) _
                    refine Go.step (fun _ => XS.goto X46.here hx rfl (pc0 := 183) (pc' := 187) rfl (hb hby at_183) (by decide) (by decide)) ?_
                    show Go p e below T46 (mkF m 187 #[.val (.int p0), .val (.int p1), .val (.int p2), .val (.int p3), .val (.int (1 : Int32)), .val (.int b5), .val (.int b6), .val (.int b7), .val (.int b8), .val (.ref x25), .val .null, .val (.ref x37), .val .null, .val (.ref b43), .val (.ref x25)] [(.int (1 : Int32))]) _
                    refine Go.retN (t := .boolean) (z' := (1 : Int32)) X46 hx hret (by simp) hlk (hb hby at_187) (by decide) ?_ (by decide) (by decide)
                    exact ⟨rfl, N46⟩
            · skip
              refine Go.step (fun _ => XS.ifNo X0.here hx rfl (hb hby at_71) rfl ((if0 _ _).trans (feq hc71).1)) ?_
              show Go p e below s₁ (mkF m 74 #[.val (.int p0), .val (.int p1), .val (.int p2), .val (.int p3), .val (.int b4), .val (.int b5), .val (.int b6), .val (.int b7), .val (.int b8), .unset, .unset, .unset, .unset, .unset, .unset] []) _
              refine Go.step (fun _ => XS.aconstNull X0.here hx rfl (hb hby at_74)) ?_
              show Go p e below s₁ (mkF m 75 #[.val (.int p0), .val (.int p1), .val (.int p2), .val (.int p3), .val (.int b4), .val (.int b5), .val (.int b6), .val (.int b7), .val (.int b8), .unset, .unset, .unset, .unset, .unset, .unset] [.null]) _
              refine Go.step (fun _ => XS.goto X0.here hx rfl (pc0 := 75) (pc' := 82) rfl (hb hby at_75) (by decide) (by decide)) ?_
              show Go p e below s₁ (mkF m 82 #[.val (.int p0), .val (.int p1), .val (.int p2), .val (.int p3), .val (.int b4), .val (.int b5), .val (.int b6), .val (.int b7), .val (.int b8), .unset, .unset, .unset, .unset, .unset, .unset] [.null]) _
              refine Go.step (fun _ => XS.astore X0.here hx rfl (hb hby at_82) rfl rfl (l' := #[.val (.int p0), .val (.int p1), .val (.int p2), .val (.int p3), .val (.int b4), .val (.int b5), .val (.int b6), .val (.int b7), .val (.int b8), .val .null, .unset, .unset, .unset, .unset, .unset]) rfl) ?_
              show Go p e below s₁ (mkF m 84 #[.val (.int p0), .val (.int p1), .val (.int p2), .val (.int p3), .val (.int b4), .val (.int b5), .val (.int b6), .val (.int b7), .val (.int b8), .val .null, .unset, .unset, .unset, .unset, .unset] []) _
              refine Go.step (fun _ => XS.iloadN X0.here hx rfl (hb hby at_84) rfl ) ?_
              show Go p e below s₁ (mkF m 85 #[.val (.int p0), .val (.int p1), .val (.int p2), .val (.int p3), .val (.int b4), .val (.int b5), .val (.int b6), .val (.int b7), .val (.int b8), .val .null, .unset, .unset, .unset, .unset, .unset] [(.int p0)]) _
              refine Go.step (fun _ => XS.bipush X0.here hx rfl (hb hby at_85)) ?_
              show Go p e below s₁ (mkF m 87 #[.val (.int p0), .val (.int p1), .val (.int p2), .val (.int p3), .val (.int b4), .val (.int b5), .val (.int b6), .val (.int b7), .val (.int b8), .val .null, .unset, .unset, .unset, .unset, .unset] [(.int (64 : Int32)), (.int p0)]) _
              refine Go.step (fun _ => XS.iand X0.here hx rfl (hb hby at_87) rfl) ?_
              show Go p e below s₁ (mkF m 88 #[.val (.int p0), .val (.int p1), .val (.int p2), .val (.int p3), .val (.int b4), .val (.int b5), .val (.int b6), .val (.int b7), .val (.int b8), .val .null, .unset, .unset, .unset, .unset, .unset] [(.int (p0 &&& (64 : Int32)))]) _
              by_cases hc88 : (p0 &&& (64 : Int32)) = (0 : Int32)
              · skip
                refine Go.step (fun _ => XS.ifYes X0.here hx rfl (pc0 := 88) (pc' := 95) rfl (hb hby at_88) rfl ((if0 _ _).trans (teq hc88).1) (by decide) (by decide)) ?_
                show Go p e below s₁ (mkF m 95 #[.val (.int p0), .val (.int p1), .val (.int p2), .val (.int p3), .val (.int b4), .val (.int b5), .val (.int b6), .val (.int b7), .val (.int b8), .val .null, .unset, .unset, .unset, .unset, .unset] []) _
                refine Go.step (fun _ => XS.iloadN X0.here hx rfl (hb hby at_95) rfl ) ?_
                show Go p e below s₁ (mkF m 96 #[.val (.int p0), .val (.int p1), .val (.int p2), .val (.int p3), .val (.int b4), .val (.int b5), .val (.int b6), .val (.int b7), .val (.int b8), .val .null, .unset, .unset, .unset, .unset, .unset] [(.int p2)]) _
                obtain ⟨_, _, ⟨T47, L47, k47, n47⟩, -, X47, ⟨Lc47, hQ47, l47, y47, z47⟩, st47⟩ := Jvm.LawKit.callS X0 hx (y := (⟨"org/linkweave/core/TermDefinitionLanguagePinLaw", "str", "(I)Ljava/lang/String;"⟩ : MethodName)) hown (mvT hZ (hw _ (List.mem_of_getElem? (i := 0) rfl))) (mvT hZ (hw _ (List.mem_of_getElem? (i := 1) rfl))) (mvT hZ (hw _ (List.mem_of_getElem? (i := 2) rfl))) (mvT hZ (hw _ (List.mem_of_getElem? (i := 3) rfl))) (by decide) (backOf (W := 0) (rm1 l Z a0 hw [] p2 G h0 n0 Z0 P3 O2) hZ (hw _ (List.mem_of_getElem? (i := 3) rfl)) (hw _ (List.mem_of_getElem? (i := 2) rfl)) (by decide) (by decide)) (g := (mkF m 96 #[.val (.int p0), .val (.int p1), .val (.int p2), .val (.int p3), .val (.int b4), .val (.int b5), .val (.int b6), .val (.int b7), .val (.int b8), .val .null, .unset, .unset, .unset, .unset, .unset] [(.int p2)])) rfl (by rw [hml]; rfl) (argsL := [(.int p2)]) (rest := []) (lenOf pd_2 rfl) rfl (by show 2 * 0 + _ ≤ _; exact Nat.le_of_eq rfl) (hb hby at_96) (fun _ _ => ⟨rfl, e0, (by decide : 0 + 3 ≤ _), (by decide : 0 + 8 ≤ _)⟩)
                dsimp only [Pt.U, Pt.locs, Pt.cells, Pt.slots] at X47 l47 y47 z47 st47 hQ47
                subst l47 y47 z47
                obtain ⟨x47, rfl, Nq47, K47⟩ := hQ47
                have N47 := Fr.app N0 Nq47
                refine Go.step st47 ?_
                have O2_q47 := own_staKeep O2 K47 all0
                have Z47 : n0 ≤ T47.heap.size := Nat.le_trans Z0 K47.1
                show Go p e below T47 (mkF m 99 #[.val (.int p0), .val (.int p1), .val (.int p2), .val (.int p3), .val (.int b4), .val (.int b5), .val (.int b6), .val (.int b7), .val (.int b8), .val .null, .unset, .unset, .unset, .unset, .unset] [(.ref x47)]) _
                refine Go.step (fun _ => XS.astore X47.here hx rfl (hb hby at_99) rfl rfl (l' := #[.val (.int p0), .val (.int p1), .val (.int p2), .val (.int p3), .val (.int b4), .val (.int b5), .val (.int b6), .val (.int b7), .val (.int b8), .val .null, .val (.ref x47), .unset, .unset, .unset, .unset]) rfl) ?_
                show Go p e below T47 (mkF m 101 #[.val (.int p0), .val (.int p1), .val (.int p2), .val (.int p3), .val (.int b4), .val (.int b5), .val (.int b6), .val (.int b7), .val (.int b8), .val .null, .val (.ref x47), .unset, .unset, .unset, .unset] []) _
                refine Go.step (fun _ => XS.iloadN X47.here hx rfl (hb hby at_101) rfl ) ?_
                show Go p e below T47 (mkF m 102 #[.val (.int p0), .val (.int p1), .val (.int p2), .val (.int p3), .val (.int b4), .val (.int b5), .val (.int b6), .val (.int b7), .val (.int b8), .val .null, .val (.ref x47), .unset, .unset, .unset, .unset] [(.int p3)]) _
                obtain ⟨_, _, ⟨T48, L48, k48, n48⟩, -, X48, ⟨Lc48, hQ48, l48, y48, z48⟩, st48⟩ := Jvm.LawKit.callS X47 hx (y := (⟨"org/linkweave/core/TermDefinitionLanguagePinLaw", "str", "(I)Ljava/lang/String;"⟩ : MethodName)) hown (mvT hZ (hw _ (List.mem_of_getElem? (i := 0) rfl))) (mvT hZ (hw _ (List.mem_of_getElem? (i := 1) rfl))) (mvT hZ (hw _ (List.mem_of_getElem? (i := 2) rfl))) (mvT hZ (hw _ (List.mem_of_getElem? (i := 3) rfl))) (by decide) (backOf (W := 0) (rm1 l Z a0 hw [] p3 G T47.heap n0 Z47 P3 O2_q47) hZ (hw _ (List.mem_of_getElem? (i := 3) rfl)) (hw _ (List.mem_of_getElem? (i := 2) rfl)) (by decide) (by decide)) (g := (mkF m 102 #[.val (.int p0), .val (.int p1), .val (.int p2), .val (.int p3), .val (.int b4), .val (.int b5), .val (.int b6), .val (.int b7), .val (.int b8), .val .null, .val (.ref x47), .unset, .unset, .unset, .unset] [(.int p3)])) rfl (by rw [hml]; rfl) (argsL := [(.int p3)]) (rest := []) (lenOf pd_2 rfl) rfl (by show 2 * 0 + _ ≤ _; exact Nat.le_of_eq rfl) (hb hby at_102) (fun _ _ => ⟨rfl, rfl, (by decide : 0 + 3 + 3 ≤ _), (by decide : 0 + 8 + 8 ≤ _)⟩)
                dsimp only [Pt.U, Pt.locs, Pt.cells, Pt.slots] at X48 l48 y48 z48 st48 hQ48
                subst l48 y48 z48
                obtain ⟨x48, rfl, Nq48, K48⟩ := hQ48
                have N48 := Fr.app N47 Nq48
                refine Go.step st48 ?_
                have O2_q48 := own_staKeep O2_q47 K48 all0
                have Z48 : n0 ≤ T48.heap.size := Nat.le_trans Z47 K48.1
                show Go p e below T48 (mkF m 105 #[.val (.int p0), .val (.int p1), .val (.int p2), .val (.int p3), .val (.int b4), .val (.int b5), .val (.int b6), .val (.int b7), .val (.int b8), .val .null, .val (.ref x47), .unset, .unset, .unset, .unset] [(.ref x48)]) _
                refine Go.step (fun _ => XS.astore X48.here hx rfl (hb hby at_105) rfl rfl (l' := #[.val (.int p0), .val (.int p1), .val (.int p2), .val (.int p3), .val (.int b4), .val (.int b5), .val (.int b6), .val (.int b7), .val (.int b8), .val .null, .val (.ref x47), .val (.ref x48), .unset, .unset, .unset]) rfl) ?_
                show Go p e below T48 (mkF m 107 #[.val (.int p0), .val (.int p1), .val (.int p2), .val (.int p3), .val (.int b4), .val (.int b5), .val (.int b6), .val (.int b7), .val (.int b8), .val .null, .val (.ref x47), .val (.ref x48), .unset, .unset, .unset] []) _
                refine Go.step (fun _ => XS.iloadN X48.here hx rfl (hb hby at_107) rfl ) ?_
                show Go p e below T48 (mkF m 108 #[.val (.int p0), .val (.int p1), .val (.int p2), .val (.int p3), .val (.int b4), .val (.int b5), .val (.int b6), .val (.int b7), .val (.int b8), .val .null, .val (.ref x47), .val (.ref x48), .unset, .unset, .unset] [(.int p0)]) _
                refine Go.step (fun _ => XS.sipush X48.here hx rfl (hb hby at_108)) ?_
                show Go p e below T48 (mkF m 111 #[.val (.int p0), .val (.int p1), .val (.int p2), .val (.int p3), .val (.int b4), .val (.int b5), .val (.int b6), .val (.int b7), .val (.int b8), .val .null, .val (.ref x47), .val (.ref x48), .unset, .unset, .unset] [(.int (128 : Int32)), (.int p0)]) _
                refine Go.step (fun _ => XS.iand X48.here hx rfl (hb hby at_111) rfl) ?_
                show Go p e below T48 (mkF m 112 #[.val (.int p0), .val (.int p1), .val (.int p2), .val (.int p3), .val (.int b4), .val (.int b5), .val (.int b6), .val (.int b7), .val (.int b8), .val .null, .val (.ref x47), .val (.ref x48), .unset, .unset, .unset] [(.int (p0 &&& (128 : Int32)))]) _
                by_cases hc112 : (p0 &&& (128 : Int32)) = (0 : Int32)
                · skip
                  refine Go.step (fun _ => XS.ifYes X48.here hx rfl (pc0 := 112) (pc' := 119) rfl (hb hby at_112) rfl ((if0 _ _).trans (teq hc112).1) (by decide) (by decide)) ?_
                  show Go p e below T48 (mkF m 119 #[.val (.int p0), .val (.int p1), .val (.int p2), .val (.int p3), .val (.int b4), .val (.int b5), .val (.int b6), .val (.int b7), .val (.int b8), .val .null, .val (.ref x47), .val (.ref x48), .unset, .unset, .unset] []) _
                  refine Go.step (fun _ => XS.iloadN X48.here hx rfl (hb hby at_119) rfl ) ?_
                  show Go p e below T48 (mkF m 120 #[.val (.int p0), .val (.int p1), .val (.int p2), .val (.int p3), .val (.int b4), .val (.int b5), .val (.int b6), .val (.int b7), .val (.int b8), .val .null, .val (.ref x47), .val (.ref x48), .unset, .unset, .unset] [(.int p3)]) _
                  refine Go.step (fun _ => XS.bipush X48.here hx rfl (hb hby at_120)) ?_
                  show Go p e below T48 (mkF m 122 #[.val (.int p0), .val (.int p1), .val (.int p2), .val (.int p3), .val (.int b4), .val (.int b5), .val (.int b6), .val (.int b7), .val (.int b8), .val .null, .val (.ref x47), .val (.ref x48), .unset, .unset, .unset] [(.int (16 : Int32)), (.int p3)]) _
                  refine Go.step (fun _ => XS.iushr X48.here hx rfl (hb hby at_122) rfl) ?_
                  show Go p e below T48 (mkF m 123 #[.val (.int p0), .val (.int p1), .val (.int p2), .val (.int p3), .val (.int b4), .val (.int b5), .val (.int b6), .val (.int b7), .val (.int b8), .val .null, .val (.ref x47), .val (.ref x48), .unset, .unset, .unset] [(.int ((p3.toUInt32 >>> ((16 : Int32) &&& 31).toUInt32).toInt32))]) _
                  obtain ⟨_, _, ⟨T49, L49, k49, n49⟩, -, X49, ⟨Lc49, hQ49, l49, y49, z49⟩, st49⟩ := Jvm.LawKit.callS X48 hx (y := (⟨"org/linkweave/core/TermDefinitionLanguagePinLaw", "str", "(I)Ljava/lang/String;"⟩ : MethodName)) hown (mvT hZ (hw _ (List.mem_of_getElem? (i := 0) rfl))) (mvT hZ (hw _ (List.mem_of_getElem? (i := 1) rfl))) (mvT hZ (hw _ (List.mem_of_getElem? (i := 2) rfl))) (mvT hZ (hw _ (List.mem_of_getElem? (i := 3) rfl))) (by decide) (backOf (W := 0) (rm1 l Z a0 hw [] ((p3.toUInt32 >>> ((16 : Int32) &&& 31).toUInt32).toInt32) G T48.heap n0 Z48 P3 O2_q48) hZ (hw _ (List.mem_of_getElem? (i := 3) rfl)) (hw _ (List.mem_of_getElem? (i := 2) rfl)) (by decide) (by decide)) (g := (mkF m 123 #[.val (.int p0), .val (.int p1), .val (.int p2), .val (.int p3), .val (.int b4), .val (.int b5), .val (.int b6), .val (.int b7), .val (.int b8), .val .null, .val (.ref x47), .val (.ref x48), .unset, .unset, .unset] [(.int ((p3.toUInt32 >>> ((16 : Int32) &&& 31).toUInt32).toInt32))])) rfl (by rw [hml]; rfl) (argsL := [(.int ((p3.toUInt32 >>> ((16 : Int32) &&& 31).toUInt32).toInt32))]) (rest := []) (lenOf pd_2 rfl) rfl (by show 2 * 0 + _ ≤ _; exact Nat.le_of_eq rfl) (hb hby at_123) (fun _ _ => ⟨rfl, rfl, (by decide : 0 + 3 + 3 + 3 ≤ _), (by decide : 0 + 8 + 8 + 8 ≤ _)⟩)
                  dsimp only [Pt.U, Pt.locs, Pt.cells, Pt.slots] at X49 l49 y49 z49 st49 hQ49
                  subst l49 y49 z49
                  obtain ⟨x49, rfl, Nq49, K49⟩ := hQ49
                  have N49 := Fr.app N48 Nq49
                  refine Go.step st49 ?_
                  have O2_q49 := own_staKeep O2_q48 K49 all0
                  have Z49 : n0 ≤ T49.heap.size := Nat.le_trans Z48 K49.1
                  show Go p e below T49 (mkF m 126 #[.val (.int p0), .val (.int p1), .val (.int p2), .val (.int p3), .val (.int b4), .val (.int b5), .val (.int b6), .val (.int b7), .val (.int b8), .val .null, .val (.ref x47), .val (.ref x48), .unset, .unset, .unset] [(.ref x49)]) _
                  refine Go.step (fun _ => XS.astore X49.here hx rfl (hb hby at_126) rfl rfl (l' := #[.val (.int p0), .val (.int p1), .val (.int p2), .val (.int p3), .val (.int b4), .val (.int b5), .val (.int b6), .val (.int b7), .val (.int b8), .val .null, .val (.ref x47), .val (.ref x48), .val (.ref x49), .unset, .unset]) rfl) ?_
                  show Go p e below T49 (mkF m 128 #[.val (.int p0), .val (.int p1), .val (.int p2), .val (.int p3), .val (.int b4), .val (.int b5), .val (.int b6), .val (.int b7), .val (.int b8), .val .null, .val (.ref x47), .val (.ref x48), .val (.ref x49), .unset, .unset] []) _
                  obtain ⟨T50, h50, X50, e50, E50, A50, D50, -, st50⟩ := newO X49 hx hZ hown (hw _ (List.mem_of_getElem? (i := 34) rfl)) (hw _ (List.mem_of_getElem? (i := 35) rfl)) (hw _ (List.mem_of_getElem? (i := 36) rfl)) rfl (g := (mkF m 128 #[.val (.int p0), .val (.int p1), .val (.int p2), .val (.int p3), .val (.int b4), .val (.int b5), .val (.int b6), .val (.int b7), .val (.int b8), .val .null, .val (.ref x47), .val (.ref x48), .val (.ref x49), .unset, .unset] [])) rfl (hb hby at_128) (by decide) (by decide)
                  obtain ⟨b50, g50⟩ : ∃ z, z = T49.heap.size := ⟨_, rfl⟩
                  rw [← g50] at A50 D50 st50
                  have g_b50 : n0 ≤ b50 := Nat.le_trans Z49 (Nat.le_of_eq g50.symm)
                  have O2_q50 := O2_q49.ext E50
                  have Z50 : n0 ≤ h50.size := Nat.le_trans Z49 E50.1
                  refine Go.step st50 ?_
                  have F_iri_b50 : Fld Z h50 b50 "org/linkweave/core/TermDefinition" "iri" "Ljava/lang/String;" .null := D50 (Or.inr (hw _ (List.mem_of_getElem? (i := 47) rfl))) (ty := (.object "java/lang/String")) (by decide)
                  have F_prefix_b50 : Fld Z h50 b50 "org/linkweave/core/TermDefinition" "prefix" "Z" (.int (0 : Int32)) := D50 (Or.inr (hw _ (List.mem_of_getElem? (i := 49) rfl))) (ty := .boolean) (by decide)
                  have F_reverse_b50 : Fld Z h50 b50 "org/linkweave/core/TermDefinition" "reverse" "Z" (.int (0 : Int32)) := D50 (Or.inr (hw _ (List.mem_of_getElem? (i := 51) rfl))) (ty := .boolean) (by decide)
                  have F_typeMapping_b50 : Fld Z h50 b50 "org/linkweave/core/TermDefinition" "typeMapping" "Ljava/lang/String;" .null := D50 (Or.inr (hw _ (List.mem_of_getElem? (i := 53) rfl))) (ty := (.object "java/lang/String")) (by decide)
                  have F_container_b50 : Fld Z h50 b50 "org/linkweave/core/TermDefinition" "container" "Ljava/util/Set;" .null := D50 (Or.inr (hw _ (List.mem_of_getElem? (i := 55) rfl))) (ty := (.object "java/util/Set")) (by decide)
                  have F_hasLanguage_b50 : Fld Z h50 b50 "org/linkweave/core/TermDefinition" "hasLanguage" "Z" (.int (0 : Int32)) := D50 (Or.inr (hw _ (List.mem_of_getElem? (i := 57) rfl))) (ty := .boolean) (by decide)
                  have F_language_b50 : Fld Z h50 b50 "org/linkweave/core/TermDefinition" "language" "Ljava/lang/String;" .null := D50 (Or.inr (hw _ (List.mem_of_getElem? (i := 59) rfl))) (ty := (.object "java/lang/String")) (by decide)
                  have F_hasDirection_b50 : Fld Z h50 b50 "org/linkweave/core/TermDefinition" "hasDirection" "Z" (.int (0 : Int32)) := D50 (Or.inr (hw _ (List.mem_of_getElem? (i := 61) rfl))) (ty := .boolean) (by decide)
                  have F_direction_b50 : Fld Z h50 b50 "org/linkweave/core/TermDefinition" "direction" "Ljava/lang/String;" .null := D50 (Or.inr (hw _ (List.mem_of_getElem? (i := 63) rfl))) (ty := (.object "java/lang/String")) (by decide)
                  have F_index_b50 : Fld Z h50 b50 "org/linkweave/core/TermDefinition" "index" "Ljava/lang/String;" .null := D50 (Or.inr (hw _ (List.mem_of_getElem? (i := 65) rfl))) (ty := (.object "java/lang/String")) (by decide)
                  have F_scopedContext_b50 : Fld Z h50 b50 "org/linkweave/core/TermDefinition" "scopedContext" "Lorg/linkweave/core/TermDefinition$ScopedContext;" .null := D50 (Or.inr (hw _ (List.mem_of_getElem? (i := 67) rfl))) (ty := (.object "org/linkweave/core/TermDefinition$ScopedContext")) (by decide)
                  have F_nest_b50 : Fld Z h50 b50 "org/linkweave/core/TermDefinition" "nest" "Ljava/lang/String;" .null := D50 (Or.inr (hw _ (List.mem_of_getElem? (i := 69) rfl))) (ty := (.object "java/lang/String")) (by decide)
                  have F_protectedTerm_b50 : Fld Z h50 b50 "org/linkweave/core/TermDefinition" "protectedTerm" "Z" (.int (0 : Int32)) := D50 (Or.inr (hw _ (List.mem_of_getElem? (i := 71) rfl))) (ty := .boolean) (by decide)
                  show Go p e below T50 (mkF m 131 #[.val (.int p0), .val (.int p1), .val (.int p2), .val (.int p3), .val (.int b4), .val (.int b5), .val (.int b6), .val (.int b7), .val (.int b8), .val .null, .val (.ref x47), .val (.ref x48), .val (.ref x49), .unset, .unset] [(.ref b50)]) _
                  refine Go.step (fun _ => XS.dup X50.here hx rfl (hb hby at_131) rfl rfl) ?_
                  show Go p e below T50 (mkF m 132 #[.val (.int p0), .val (.int p1), .val (.int p2), .val (.int p3), .val (.int b4), .val (.int b5), .val (.int b6), .val (.int b7), .val (.int b8), .val .null, .val (.ref x47), .val (.ref x48), .val (.ref x49), .unset, .unset] [(.ref b50), (.ref b50)]) _
                  refine Go.step (fun _ => XS.aload X50.here hx rfl (hb hby at_132) rfl rfl ) ?_
                  show Go p e below T50 (mkF m 134 #[.val (.int p0), .val (.int p1), .val (.int p2), .val (.int p3), .val (.int b4), .val (.int b5), .val (.int b6), .val (.int b7), .val (.int b8), .val .null, .val (.ref x47), .val (.ref x48), .val (.ref x49), .unset, .unset] [(.ref x48), (.ref b50), (.ref b50)]) _
                  refine Go.step (fun _ => XS.iload X50.here hx rfl (hb hby at_134) rfl ) ?_
                  show Go p e below T50 (mkF m 136 #[.val (.int p0), .val (.int p1), .val (.int p2), .val (.int p3), .val (.int b4), .val (.int b5), .val (.int b6), .val (.int b7), .val (.int b8), .val .null, .val (.ref x47), .val (.ref x48), .val (.ref x49), .unset, .unset] [(.int b6), (.ref x48), (.ref b50), (.ref b50)]) _
                  refine Go.step (fun _ => XS.iload X50.here hx rfl (hb hby at_136) rfl ) ?_
                  show Go p e below T50 (mkF m 138 #[.val (.int p0), .val (.int p1), .val (.int p2), .val (.int p3), .val (.int b4), .val (.int b5), .val (.int b6), .val (.int b7), .val (.int b8), .val .null, .val (.ref x47), .val (.ref x48), .val (.ref x49), .unset, .unset] [(.int b7), (.int b6), (.ref x48), (.ref b50), (.ref b50)]) _
                  refine Go.step (fun _ => XS.aload X50.here hx rfl (hb hby at_138) rfl rfl ) ?_
                  show Go p e below T50 (mkF m 140 #[.val (.int p0), .val (.int p1), .val (.int p2), .val (.int p3), .val (.int b4), .val (.int b5), .val (.int b6), .val (.int b7), .val (.int b8), .val .null, .val (.ref x47), .val (.ref x48), .val (.ref x49), .unset, .unset] [(.ref x48), (.int b7), (.int b6), (.ref x48), (.ref b50), (.ref b50)]) _
                  refine Go.step (fun _ => XS.aconstNull X50.here hx rfl (hb hby at_140)) ?_
                  show Go p e below T50 (mkF m 141 #[.val (.int p0), .val (.int p1), .val (.int p2), .val (.int p3), .val (.int b4), .val (.int b5), .val (.int b6), .val (.int b7), .val (.int b8), .val .null, .val (.ref x47), .val (.ref x48), .val (.ref x49), .unset, .unset] [.null, (.ref x48), (.int b7), (.int b6), (.ref x48), (.ref b50), (.ref b50)]) _
                  refine Go.step (fun _ => XS.iload X50.here hx rfl (hb hby at_141) rfl ) ?_
                  show Go p e below T50 (mkF m 143 #[.val (.int p0), .val (.int p1), .val (.int p2), .val (.int p3), .val (.int b4), .val (.int b5), .val (.int b6), .val (.int b7), .val (.int b8), .val .null, .val (.ref x47), .val (.ref x48), .val (.ref x49), .unset, .unset] [(.int b4), .null, (.ref x48), (.int b7), (.int b6), (.ref x48), (.ref b50), (.ref b50)]) _
                  refine Go.step (fun _ => XS.aload X50.here hx rfl (hb hby at_143) rfl rfl ) ?_
                  show Go p e below T50 (mkF m 145 #[.val (.int p0), .val (.int p1), .val (.int p2), .val (.int p3), .val (.int b4), .val (.int b5), .val (.int b6), .val (.int b7), .val (.int b8), .val .null, .val (.ref x47), .val (.ref x48), .val (.ref x49), .unset, .unset] [.null, (.int b4), .null, (.ref x48), (.int b7), (.int b6), (.ref x48), (.ref b50), (.ref b50)]) _
                  refine Go.step (fun _ => XS.iload X50.here hx rfl (hb hby at_145) rfl ) ?_
                  show Go p e below T50 (mkF m 147 #[.val (.int p0), .val (.int p1), .val (.int p2), .val (.int p3), .val (.int b4), .val (.int b5), .val (.int b6), .val (.int b7), .val (.int b8), .val .null, .val (.ref x47), .val (.ref x48), .val (.ref x49), .unset, .unset] [(.int b5), .null, (.int b4), .null, (.ref x48), (.int b7), (.int b6), (.ref x48), (.ref b50), (.ref b50)]) _
                  refine Go.step (fun _ => XS.aload X50.here hx rfl (hb hby at_147) rfl rfl ) ?_
                  show Go p e below T50 (mkF m 149 #[.val (.int p0), .val (.int p1), .val (.int p2), .val (.int p3), .val (.int b4), .val (.int b5), .val (.int b6), .val (.int b7), .val (.int b8), .val .null, .val (.ref x47), .val (.ref x48), .val (.ref x49), .unset, .unset] [(.ref x49), (.int b5), .null, (.int b4), .null, (.ref x48), (.int b7), (.int b6), (.ref x48), (.ref b50), (.ref b50)]) _
                  refine Go.step (fun _ => XS.aload X50.here hx rfl (hb hby at_149) rfl rfl ) ?_
                  show Go p e below T50 (mkF m 151 #[.val (.int p0), .val (.int p1), .val (.int p2), .val (.int p3), .val (.int b4), .val (.int b5), .val (.int b6), .val (.int b7), .val (.int b8), .val .null, .val (.ref x47), .val (.ref x48), .val (.ref x49), .unset, .unset] [(.ref x48), (.ref x49), (.int b5), .null, (.int b4), .null, (.ref x48), (.int b7), (.int b6), (.ref x48), (.ref b50), (.ref b50)]) _
                  refine Go.step (fun _ => XS.aconstNull X50.here hx rfl (hb hby at_151)) ?_
                  show Go p e below T50 (mkF m 152 #[.val (.int p0), .val (.int p1), .val (.int p2), .val (.int p3), .val (.int b4), .val (.int b5), .val (.int b6), .val (.int b7), .val (.int b8), .val .null, .val (.ref x47), .val (.ref x48), .val (.ref x49), .unset, .unset] [.null, (.ref x48), (.ref x49), (.int b5), .null, (.int b4), .null, (.ref x48), (.int b7), (.int b6), (.ref x48), (.ref b50), (.ref b50)]) _
                  refine Go.step (fun _ => XS.aload X50.here hx rfl (hb hby at_152) rfl rfl ) ?_
                  show Go p e below T50 (mkF m 154 #[.val (.int p0), .val (.int p1), .val (.int p2), .val (.int p3), .val (.int b4), .val (.int b5), .val (.int b6), .val (.int b7), .val (.int b8), .val .null, .val (.ref x47), .val (.ref x48), .val (.ref x49), .unset, .unset] [(.ref x48), .null, (.ref x48), (.ref x49), (.int b5), .null, (.int b4), .null, (.ref x48), (.int b7), (.int b6), (.ref x48), (.ref b50), (.ref b50)]) _
                  refine Go.step (fun _ => XS.iload X50.here hx rfl (hb hby at_154) rfl ) ?_
                  show Go p e below T50 (mkF m 156 #[.val (.int p0), .val (.int p1), .val (.int p2), .val (.int p3), .val (.int b4), .val (.int b5), .val (.int b6), .val (.int b7), .val (.int b8), .val .null, .val (.ref x47), .val (.ref x48), .val (.ref x49), .unset, .unset] [(.int b8), (.ref x48), .null, (.ref x48), (.ref x49), (.int b5), .null, (.int b4), .null, (.ref x48), (.int b7), (.int b6), (.ref x48), (.ref b50), (.ref b50)]) _
                  obtain ⟨_, _, ⟨T51, L51, k51, n51⟩, -, X51, ⟨Lc51, hQ51, l51, y51, z51⟩, st51⟩ := X50.specialBack hx (y := (⟨"org/linkweave/core/TermDefinition", "<init>", "(Ljava/lang/String;ZZLjava/lang/String;Ljava/util/Set;ZLjava/lang/String;ZLjava/lang/String;Ljava/lang/String;Lorg/linkweave/core/TermDefinition$ScopedContext;Ljava/lang/String;Z)V"⟩ : MethodName)) rfl hown (mvT hZ (hw _ (List.mem_of_getElem? (i := 37) rfl))) (mvT hZ (hw _ (List.mem_of_getElem? (i := 38) rfl))) (mvT hZ (hw _ (List.mem_of_getElem? (i := 39) rfl))) (by decide) (backOf (W := 1) (rmCt l Z a0 hw [] b50 x48 b6 b7 x48 b4 .null b5 (.ref x49) x48 x48 b8 h50 n0 Z50 A50 F_iri_b50 F_prefix_b50 F_reverse_b50 F_typeMapping_b50 F_container_b50 F_hasLanguage_b50 F_language_b50 F_hasDirection_b50 F_direction_b50 F_index_b50 F_scopedContext_b50 F_nest_b50 F_protectedTerm_b50 g_b50 rfl rfl) hZ (hw _ (List.mem_of_getElem? (i := 39) rfl)) (hw _ (List.mem_of_getElem? (i := 36) rfl)) (by decide) (by decide)) (g := (mkF m 156 #[.val (.int p0), .val (.int p1), .val (.int p2), .val (.int p3), .val (.int b4), .val (.int b5), .val (.int b6), .val (.int b7), .val (.int b8), .val .null, .val (.ref x47), .val (.ref x48), .val (.ref x49), .unset, .unset] [(.int b8), (.ref x48), .null, (.ref x48), (.ref x49), (.int b5), .null, (.int b4), .null, (.ref x48), (.int b7), (.int b6), (.ref x48), (.ref b50), (.ref b50)])) rfl (by rw [hml]; rfl) (Steps.refl _) (a := b50) (argsL := [(.ref x48), (.int b6), (.int b7), (.ref x48), .null, (.int b4), .null, (.int b5), (.ref x49), (.ref x48), .null, (.ref x48), (.int b8)]) (rest := [(.ref b50)]) (lenOf pd_3 rfl) rfl (by show 2 * 0 + _ ≤ _; exact Nat.le_of_eq rfl) (hb hby at_156) (fun _ _ => ⟨rfl, e50, (by decide : 0 + 3 + 3 + 3 + 1 + 0 ≤ _), (by decide : 0 + 8 + 8 + 8 + 13 + 0 ≤ _)⟩)
                  dsimp only [Pt.U, Pt.locs, Pt.cells, Pt.slots] at X51 l51 y51 z51 st51 hQ51
                  subst l51 y51 z51
                  obtain ⟨rfl, Nq51, K51, Ex51, FB51, FL51⟩ := hQ51
                  have N51 := Fr.app N49 Nq51
                  refine Go.call st51 ?_
                  have O2_q51 := own_staKeep O2_q50 K51 (allS (own_plainE A50) all0)
                  have A50_q51 := A50.keep K51
                  have Z51 : n0 ≤ T51.heap.size := Nat.le_trans Z50 K51.1
                  show Go p e below T51 (mkF m 159 #[.val (.int p0), .val (.int p1), .val (.int p2), .val (.int p3), .val (.int b4), .val (.int b5), .val (.int b6), .val (.int b7), .val (.int b8), .val .null, .val (.ref x47), .val (.ref x48), .val (.ref x49), .unset, .unset] [(.ref b50)]) _
                  refine Go.step (fun _ => XS.astore X51.here hx rfl (hb hby at_159) rfl rfl (l' := #[.val (.int p0), .val (.int p1), .val (.int p2), .val (.int p3), .val (.int b4), .val (.int b5), .val (.int b6), .val (.int b7), .val (.int b8), .val .null, .val (.ref x47), .val (.ref x48), .val (.ref x49), .val (.ref b50), .unset]) rfl) ?_
                  show Go p e below T51 (mkF m 161 #[.val (.int p0), .val (.int p1), .val (.int p2), .val (.int p3), .val (.int b4), .val (.int b5), .val (.int b6), .val (.int b7), .val (.int b8), .val .null, .val (.ref x47), .val (.ref x48), .val (.ref x49), .val (.ref b50), .unset] []) _
                  refine Go.step (fun _ => XS.aload X51.here hx rfl (hb hby at_161) rfl rfl ) ?_
                  show Go p e below T51 (mkF m 163 #[.val (.int p0), .val (.int p1), .val (.int p2), .val (.int p3), .val (.int b4), .val (.int b5), .val (.int b6), .val (.int b7), .val (.int b8), .val .null, .val (.ref x47), .val (.ref x48), .val (.ref x49), .val (.ref b50), .unset] [(.ref b50)]) _
                  refine Go.step (fun _ => XS.aload X51.here hx rfl (hb hby at_163) rfl rfl ) ?_
                  show Go p e below T51 (mkF m 165 #[.val (.int p0), .val (.int p1), .val (.int p2), .val (.int p3), .val (.int b4), .val (.int b5), .val (.int b6), .val (.int b7), .val (.int b8), .val .null, .val (.ref x47), .val (.ref x48), .val (.ref x49), .val (.ref b50), .unset] [(.ref x47), (.ref b50)]) _
                  rcases hb4 with rfl | rfl
                  · skip
                    obtain ⟨cq52, kq52, q52a, q52b, q52c⟩ := isOf hZ rfl A50_q51
                    obtain ⟨_, _, ⟨T52, L52, k52, n52⟩, -, X52, ⟨Lc52, hQ52, l52, y52, z52⟩, st52⟩ := X51.virtualBack hx (y := (⟨"org/linkweave/core/TermDefinition", "language", "(Ljava/lang/String;)Ljava/lang/String;"⟩ : MethodName)) (z := (⟨"org/linkweave/core/TermDefinition", "language", "(Ljava/lang/String;)Ljava/lang/String;"⟩ : MethodName)) hown (mvT hZ (hw _ (List.mem_of_getElem? (i := 72) rfl))) (mvT hZ (hw _ (List.mem_of_getElem? (i := 73) rfl))) (notFace_of_selects (args := #[]) (mvT hZ (hw _ (List.mem_of_getElem? (i := 75) rfl)))) (mvT hZ (hw _ (List.mem_of_getElem? (i := 75) rfl))) (mvT hZ (hw _ (List.mem_of_getElem? (i := 74) rfl))) (by decide) (backOf (W := 0) (rmLa l Z a0 hw [] b50 (.ref x47) (nar .boolean (0 : Int32)) .null (.ref x47) T51.heap n0 Z51 FB51 FL51 rfl rfl (by first | rfl | decide)) hZ (hw _ (List.mem_of_getElem? (i := 76) rfl)) (hw _ (List.mem_of_getElem? (i := 36) rfl)) (by decide) (by decide)) q52a q52c (g := (mkF m 165 #[.val (.int p0), .val (.int p1), .val (.int p2), .val (.int p3), .val (.int (0 : Int32)), .val (.int b5), .val (.int b6), .val (.int b7), .val (.int b8), .val .null, .val (.ref x47), .val (.ref x48), .val (.ref x49), .val (.ref b50), .unset] [(.ref x47), (.ref b50)])) rfl (by rw [hml]; rfl) (Steps.refl _) (argsL := [(.ref x47)]) (rest := []) (lenOf pd_4 rfl) rfl (by show 2 * 0 + _ ≤ _; exact Nat.le_of_eq rfl) (hb hby at_165) (fun _ _ => ⟨rfl, rfl, (by decide : 0 + 3 + 3 + 3 + 1 + 0 + 0 ≤ _), (by decide : 0 + 8 + 8 + 8 + 13 + 0 + 0 ≤ _)⟩)
                    dsimp only [Pt.U, Pt.locs, Pt.cells, Pt.slots] at X52 l52 y52 z52 st52 hQ52
                    subst l52 y52 z52
                    obtain ⟨rfl, Nq52, eh52⟩ := hQ52
                    have N52 := Fr.app N51 Nq52
                    refine Go.call st52 ?_
                    show Go p e below T52 (mkF m 168 #[.val (.int p0), .val (.int p1), .val (.int p2), .val (.int p3), .val (.int (0 : Int32)), .val (.int b5), .val (.int b6), .val (.int b7), .val (.int b8), .val .null, .val (.ref x47), .val (.ref x48), .val (.ref x49), .val (.ref b50), .unset] [(.ref x47)]) _
                    refine Go.step (fun _ => XS.astore X52.here hx rfl (hb hby at_168) rfl rfl (l' := #[.val (.int p0), .val (.int p1), .val (.int p2), .val (.int p3), .val (.int (0 : Int32)), .val (.int b5), .val (.int b6), .val (.int b7), .val (.int b8), .val .null, .val (.ref x47), .val (.ref x48), .val (.ref x49), .val (.ref b50), .val (.ref x47)]) rfl) ?_
                    show Go p e below T52 (mkF m 170 #[.val (.int p0), .val (.int p1), .val (.int p2), .val (.int p3), .val (.int (0 : Int32)), .val (.int b5), .val (.int b6), .val (.int b7), .val (.int b8), .val .null, .val (.ref x47), .val (.ref x48), .val (.ref x49), .val (.ref b50), .val (.ref x47)] []) _
                    refine Go.step (fun _ => XS.iload X52.here hx rfl (hb hby at_170) rfl ) ?_
                    show Go p e below T52 (mkF m 172 #[.val (.int p0), .val (.int p1), .val (.int p2), .val (.int p3), .val (.int (0 : Int32)), .val (.int b5), .val (.int b6), .val (.int b7), .val (.int b8), .val .null, .val (.ref x47), .val (.ref x48), .val (.ref x49), .val (.ref b50), .val (.ref x47)] [(.int (0 : Int32))]) _
                    refine Go.step (fun _ => XS.ifYes X52.here hx rfl (pc0 := 172) (pc' := 188) rfl (hb hby at_172) rfl ((if0 _ _).trans (teq (by decide)).1) (by decide) (by decide)) ?_
                    show Go p e below T52 (mkF m 188 #[.val (.int p0), .val (.int p1), .val (.int p2), .val (.int p3), .val (.int (0 : Int32)), .val (.int b5), .val (.int b6), .val (.int b7), .val (.int b8), .val .null, .val (.ref x47), .val (.ref x48), .val (.ref x49), .val (.ref b50), .val (.ref x47)] []) _
                    refine Go.step (fun _ => XS.aload X52.here hx rfl (hb hby at_188) rfl rfl ) ?_
                    show Go p e below T52 (mkF m 190 #[.val (.int p0), .val (.int p1), .val (.int p2), .val (.int p3), .val (.int (0 : Int32)), .val (.int b5), .val (.int b6), .val (.int b7), .val (.int b8), .val .null, .val (.ref x47), .val (.ref x48), .val (.ref x49), .val (.ref b50), .val (.ref x47)] [(.ref x47)]) _
                    refine Go.step (fun _ => XS.aload X52.here hx rfl (hb hby at_190) rfl rfl ) ?_
                    show Go p e below T52 (mkF m 192 #[.val (.int p0), .val (.int p1), .val (.int p2), .val (.int p3), .val (.int (0 : Int32)), .val (.int b5), .val (.int b6), .val (.int b7), .val (.int b8), .val .null, .val (.ref x47), .val (.ref x48), .val (.ref x49), .val (.ref b50), .val (.ref x47)] [(.ref x47), (.ref x47)]) _
                    refine Go.step (fun _ => Jvm.RoadKit.acmp (g := (mkF m 192 #[.val (.int p0), .val (.int p1), .val (.int p2), .val (.int p3), .val (.int (0 : Int32)), .val (.int b5), .val (.int b6), .val (.int b7), .val (.int b8), .val .null, .val (.ref x47), .val (.ref x48), .val (.ref x49), .val (.ref b50), .val (.ref x47)] [(.ref x47), (.ref x47)])) X52 hx rfl rfl rfl (pc0 := 192) (pc' := 195) (same := true) rfl (hb hby at_192) rfl (decide_eq_true rfl) (by decide) (by decide)) ?_
                    show Go p e below T52 (mkF m 195 #[.val (.int p0), .val (.int p1), .val (.int p2), .val (.int p3), .val (.int (0 : Int32)), .val (.int b5), .val (.int b6), .val (.int b7), .val (.int b8), .val .null, .val (.ref x47), .val (.ref x48), .val (.ref x49), .val (.ref b50), .val (.ref x47)] []) _
                    refine Go.step (fun _ => XS.iconst X52.here hx rfl (hb hby at_195)) ?_
                    show Go p e below T52 (mkF m 196 #[.val (.int p0), .val (.int p1), .val (.int p2), .val (.int p3), .val (.int (0 : Int32)), .val (.int b5), .val (.int b6), .val (.int b7), .val (.int b8), .val .null, .val (.ref x47), .val (.ref x48), .val (.ref x49), .val (.ref b50), .val (.ref x47)] [(.int (1 : Int32))]) _
                    refine Go.step (fun _ => XS.goto X52.here hx rfl (pc0 := 196) (pc' := 200) rfl (hb hby at_196) (by decide) (by decide)) ?_
                    show Go p e below T52 (mkF m 200 #[.val (.int p0), .val (.int p1), .val (.int p2), .val (.int p3), .val (.int (0 : Int32)), .val (.int b5), .val (.int b6), .val (.int b7), .val (.int b8), .val .null, .val (.ref x47), .val (.ref x48), .val (.ref x49), .val (.ref b50), .val (.ref x47)] [(.int (1 : Int32))]) _
                    refine Go.retN (t := .boolean) (z' := (1 : Int32)) X52 hx hret (by simp) hlk (hb hby at_200) (by decide) ?_ (by decide) (by decide)
                    exact ⟨rfl, N52⟩
                  · skip
                    obtain ⟨cq53, kq53, q53a, q53b, q53c⟩ := isOf hZ rfl A50_q51
                    obtain ⟨_, _, ⟨T53, L53, k53, n53⟩, -, X53, ⟨Lc53, hQ53, l53, y53, z53⟩, st53⟩ := X51.virtualBack hx (y := (⟨"org/linkweave/core/TermDefinition", "language", "(Ljava/lang/String;)Ljava/lang/String;"⟩ : MethodName)) (z := (⟨"org/linkweave/core/TermDefinition", "language", "(Ljava/lang/String;)Ljava/lang/String;"⟩ : MethodName)) hown (mvT hZ (hw _ (List.mem_of_getElem? (i := 72) rfl))) (mvT hZ (hw _ (List.mem_of_getElem? (i := 73) rfl))) (notFace_of_selects (args := #[]) (mvT hZ (hw _ (List.mem_of_getElem? (i := 75) rfl)))) (mvT hZ (hw _ (List.mem_of_getElem? (i := 75) rfl))) (mvT hZ (hw _ (List.mem_of_getElem? (i := 74) rfl))) (by decide) (backOf (W := 0) (rmLa l Z a0 hw [] b50 (.ref x47) (nar .boolean (1 : Int32)) .null .null T51.heap n0 Z51 FB51 FL51 rfl rfl (by first | rfl | decide)) hZ (hw _ (List.mem_of_getElem? (i := 76) rfl)) (hw _ (List.mem_of_getElem? (i := 36) rfl)) (by decide) (by decide)) q53a q53c (g := (mkF m 165 #[.val (.int p0), .val (.int p1), .val (.int p2), .val (.int p3), .val (.int (1 : Int32)), .val (.int b5), .val (.int b6), .val (.int b7), .val (.int b8), .val .null, .val (.ref x47), .val (.ref x48), .val (.ref x49), .val (.ref b50), .unset] [(.ref x47), (.ref b50)])) rfl (by rw [hml]; rfl) (Steps.refl _) (argsL := [(.ref x47)]) (rest := []) (lenOf pd_4 rfl) rfl (by show 2 * 0 + _ ≤ _; exact Nat.le_of_eq rfl) (hb hby at_165) (fun _ _ => ⟨rfl, rfl, (by decide : 0 + 3 + 3 + 3 + 1 + 0 + 0 ≤ _), (by decide : 0 + 8 + 8 + 8 + 13 + 0 + 0 ≤ _)⟩)
                    dsimp only [Pt.U, Pt.locs, Pt.cells, Pt.slots] at X53 l53 y53 z53 st53 hQ53
                    subst l53 y53 z53
                    obtain ⟨rfl, Nq53, eh53⟩ := hQ53
                    have N53 := Fr.app N51 Nq53
                    refine Go.call st53 ?_
                    show Go p e below T53 (mkF m 168 #[.val (.int p0), .val (.int p1), .val (.int p2), .val (.int p3), .val (.int (1 : Int32)), .val (.int b5), .val (.int b6), .val (.int b7), .val (.int b8), .val .null, .val (.ref x47), .val (.ref x48), .val (.ref x49), .val (.ref b50), .unset] [.null]) _
                    refine Go.step (fun _ => XS.astore X53.here hx rfl (hb hby at_168) rfl rfl (l' := #[.val (.int p0), .val (.int p1), .val (.int p2), .val (.int p3), .val (.int (1 : Int32)), .val (.int b5), .val (.int b6), .val (.int b7), .val (.int b8), .val .null, .val (.ref x47), .val (.ref x48), .val (.ref x49), .val (.ref b50), .val .null]) rfl) ?_
                    show Go p e below T53 (mkF m 170 #[.val (.int p0), .val (.int p1), .val (.int p2), .val (.int p3), .val (.int (1 : Int32)), .val (.int b5), .val (.int b6), .val (.int b7), .val (.int b8), .val .null, .val (.ref x47), .val (.ref x48), .val (.ref x49), .val (.ref b50), .val .null] []) _
                    refine Go.step (fun _ => XS.iload X53.here hx rfl (hb hby at_170) rfl ) ?_
                    show Go p e below T53 (mkF m 172 #[.val (.int p0), .val (.int p1), .val (.int p2), .val (.int p3), .val (.int (1 : Int32)), .val (.int b5), .val (.int b6), .val (.int b7), .val (.int b8), .val .null, .val (.ref x47), .val (.ref x48), .val (.ref x49), .val (.ref b50), .val .null] [(.int (1 : Int32))]) _
                    refine Go.step (fun _ => XS.ifNo X53.here hx rfl (hb hby at_172) rfl ((if0 _ _).trans (feq (by decide)).1)) ?_
                    show Go p e below T53 (mkF m 175 #[.val (.int p0), .val (.int p1), .val (.int p2), .val (.int p3), .val (.int (1 : Int32)), .val (.int b5), .val (.int b6), .val (.int b7), .val (.int b8), .val .null, .val (.ref x47), .val (.ref x48), .val (.ref x49), .val (.ref b50), .val .null] []) _
                    refine Go.step (fun _ => XS.aload X53.here hx rfl (hb hby at_175) rfl rfl ) ?_
                    show Go p e below T53 (mkF m 177 #[.val (.int p0), .val (.int p1), .val (.int p2), .val (.int p3), .val (.int (1 : Int32)), .val (.int b5), .val (.int b6), .val (.int b7), .val (.int b8), .val .null, .val (.ref x47), .val (.ref x48), .val (.ref x49), .val (.ref b50), .val .null] [.null]) _
                    refine Go.step (fun _ => XS.aload X53.here hx rfl (hb hby at_177) rfl rfl ) ?_
                    show Go p e below T53 (mkF m 179 #[.val (.int p0), .val (.int p1), .val (.int p2), .val (.int p3), .val (.int (1 : Int32)), .val (.int b5), .val (.int b6), .val (.int b7), .val (.int b8), .val .null, .val (.ref x47), .val (.ref x48), .val (.ref x49), .val (.ref b50), .val .null] [.null, .null]) _
                    refine Go.step (fun _ => Jvm.RoadKit.acmp (g := (mkF m 179 #[.val (.int p0), .val (.int p1), .val (.int p2), .val (.int p3), .val (.int (1 : Int32)), .val (.int b5), .val (.int b6), .val (.int b7), .val (.int b8), .val .null, .val (.ref x47), .val (.ref x48), .val (.ref x49), .val (.ref b50), .val .null] [.null, .null])) X53 hx rfl rfl rfl (pc0 := 179) (pc' := 182) (same := true) rfl (hb hby at_179) rfl (decide_eq_true rfl) (by decide) (by decide)) ?_
                    show Go p e below T53 (mkF m 182 #[.val (.int p0), .val (.int p1), .val (.int p2), .val (.int p3), .val (.int (1 : Int32)), .val (.int b5), .val (.int b6), .val (.int b7), .val (.int b8), .val .null, .val (.ref x47), .val (.ref x48), .val (.ref x49), .val (.ref b50), .val .null] []) _
                    refine Go.step (fun _ => XS.iconst X53.here hx rfl (hb hby at_182)) ?_
                    show Go p e below T53 (mkF m 183 #[.val (.int p0), .val (.int p1), .val (.int p2), .val (.int p3), .val (.int (1 : Int32)), .val (.int b5), .val (.int b6), .val (.int b7), .val (.int b8), .val .null, .val (.ref x47), .val (.ref x48), .val (.ref x49), .val (.ref b50), .val .null] [(.int (1 : Int32))]) _
                    refine Go.step (fun _ => XS.goto X53.here hx rfl (pc0 := 183) (pc' := 187) rfl (hb hby at_183) (by decide) (by decide)) ?_
                    show Go p e below T53 (mkF m 187 #[.val (.int p0), .val (.int p1), .val (.int p2), .val (.int p3), .val (.int (1 : Int32)), .val (.int b5), .val (.int b6), .val (.int b7), .val (.int b8), .val .null, .val (.ref x47), .val (.ref x48), .val (.ref x49), .val (.ref b50), .val .null] [(.int (1 : Int32))]) _
                    refine Go.retN (t := .boolean) (z' := (1 : Int32)) X53 hx hret (by simp) hlk (hb hby at_187) (by decide) ?_ (by decide) (by decide)
                    exact ⟨rfl, N53⟩
                · skip
                  refine Go.step (fun _ => XS.ifNo X48.here hx rfl (hb hby at_112) rfl ((if0 _ _).trans (feq hc112).1)) ?_
                  show Go p e below T48 (mkF m 115 #[.val (.int p0), .val (.int p1), .val (.int p2), .val (.int p3), .val (.int b4), .val (.int b5), .val (.int b6), .val (.int b7), .val (.int b8), .val .null, .val (.ref x47), .val (.ref x48), .unset, .unset, .unset] []) _
                  refine Go.step (fun _ => XS.aconstNull X48.here hx rfl (hb hby at_115)) ?_
                  show Go p e below T48 (mkF m 116 #[.val (.int p0), .val (.int p1), .val (.int p2), .val (.int p3), .val (.int b4), .val (.int b5), .val (.int b6), .val (.int b7), .val (.int b8), .val .null, .val (.ref x47), .val (.ref x48), .unset, .unset, .unset] [.null]) _
                  refine Go.step (fun _ => XS.goto X48.here hx rfl (pc0 := 116) (pc' := 126) rfl (hb hby at_116) (by decide) (by decide)) ?_
                  show Go p e below T48 (mkF m 126 #[.val (.int p0), .val (.int p1), .val (.int p2), .val (.int p3), .val (.int b4), .val (.int b5), .val (.int b6), .val (.int b7), .val (.int b8), .val .null, .val (.ref x47), .val (.ref x48), .unset, .unset, .unset] [.null]) _
                  refine Go.step (fun _ => XS.astore X48.here hx rfl (hb hby at_126) rfl rfl (l' := #[.val (.int p0), .val (.int p1), .val (.int p2), .val (.int p3), .val (.int b4), .val (.int b5), .val (.int b6), .val (.int b7), .val (.int b8), .val .null, .val (.ref x47), .val (.ref x48), .val .null, .unset, .unset]) rfl) ?_
                  show Go p e below T48 (mkF m 128 #[.val (.int p0), .val (.int p1), .val (.int p2), .val (.int p3), .val (.int b4), .val (.int b5), .val (.int b6), .val (.int b7), .val (.int b8), .val .null, .val (.ref x47), .val (.ref x48), .val .null, .unset, .unset] []) _
                  obtain ⟨T54, h54, X54, e54, E54, A54, D54, -, st54⟩ := newO X48 hx hZ hown (hw _ (List.mem_of_getElem? (i := 34) rfl)) (hw _ (List.mem_of_getElem? (i := 35) rfl)) (hw _ (List.mem_of_getElem? (i := 36) rfl)) rfl (g := (mkF m 128 #[.val (.int p0), .val (.int p1), .val (.int p2), .val (.int p3), .val (.int b4), .val (.int b5), .val (.int b6), .val (.int b7), .val (.int b8), .val .null, .val (.ref x47), .val (.ref x48), .val .null, .unset, .unset] [])) rfl (hb hby at_128) (by decide) (by decide)
                  obtain ⟨b54, g54⟩ : ∃ z, z = T48.heap.size := ⟨_, rfl⟩
                  rw [← g54] at A54 D54 st54
                  have g_b54 : n0 ≤ b54 := Nat.le_trans Z48 (Nat.le_of_eq g54.symm)
                  have O2_q54 := O2_q48.ext E54
                  have Z54 : n0 ≤ h54.size := Nat.le_trans Z48 E54.1
                  refine Go.step st54 ?_
                  have F_iri_b54 : Fld Z h54 b54 "org/linkweave/core/TermDefinition" "iri" "Ljava/lang/String;" .null := D54 (Or.inr (hw _ (List.mem_of_getElem? (i := 47) rfl))) (ty := (.object "java/lang/String")) (by decide)
                  have F_prefix_b54 : Fld Z h54 b54 "org/linkweave/core/TermDefinition" "prefix" "Z" (.int (0 : Int32)) := D54 (Or.inr (hw _ (List.mem_of_getElem? (i := 49) rfl))) (ty := .boolean) (by decide)
                  have F_reverse_b54 : Fld Z h54 b54 "org/linkweave/core/TermDefinition" "reverse" "Z" (.int (0 : Int32)) := D54 (Or.inr (hw _ (List.mem_of_getElem? (i := 51) rfl))) (ty := .boolean) (by decide)
                  have F_typeMapping_b54 : Fld Z h54 b54 "org/linkweave/core/TermDefinition" "typeMapping" "Ljava/lang/String;" .null := D54 (Or.inr (hw _ (List.mem_of_getElem? (i := 53) rfl))) (ty := (.object "java/lang/String")) (by decide)
                  have F_container_b54 : Fld Z h54 b54 "org/linkweave/core/TermDefinition" "container" "Ljava/util/Set;" .null := D54 (Or.inr (hw _ (List.mem_of_getElem? (i := 55) rfl))) (ty := (.object "java/util/Set")) (by decide)
                  have F_hasLanguage_b54 : Fld Z h54 b54 "org/linkweave/core/TermDefinition" "hasLanguage" "Z" (.int (0 : Int32)) := D54 (Or.inr (hw _ (List.mem_of_getElem? (i := 57) rfl))) (ty := .boolean) (by decide)
                  have F_language_b54 : Fld Z h54 b54 "org/linkweave/core/TermDefinition" "language" "Ljava/lang/String;" .null := D54 (Or.inr (hw _ (List.mem_of_getElem? (i := 59) rfl))) (ty := (.object "java/lang/String")) (by decide)
                  have F_hasDirection_b54 : Fld Z h54 b54 "org/linkweave/core/TermDefinition" "hasDirection" "Z" (.int (0 : Int32)) := D54 (Or.inr (hw _ (List.mem_of_getElem? (i := 61) rfl))) (ty := .boolean) (by decide)
                  have F_direction_b54 : Fld Z h54 b54 "org/linkweave/core/TermDefinition" "direction" "Ljava/lang/String;" .null := D54 (Or.inr (hw _ (List.mem_of_getElem? (i := 63) rfl))) (ty := (.object "java/lang/String")) (by decide)
                  have F_index_b54 : Fld Z h54 b54 "org/linkweave/core/TermDefinition" "index" "Ljava/lang/String;" .null := D54 (Or.inr (hw _ (List.mem_of_getElem? (i := 65) rfl))) (ty := (.object "java/lang/String")) (by decide)
                  have F_scopedContext_b54 : Fld Z h54 b54 "org/linkweave/core/TermDefinition" "scopedContext" "Lorg/linkweave/core/TermDefinition$ScopedContext;" .null := D54 (Or.inr (hw _ (List.mem_of_getElem? (i := 67) rfl))) (ty := (.object "org/linkweave/core/TermDefinition$ScopedContext")) (by decide)
                  have F_nest_b54 : Fld Z h54 b54 "org/linkweave/core/TermDefinition" "nest" "Ljava/lang/String;" .null := D54 (Or.inr (hw _ (List.mem_of_getElem? (i := 69) rfl))) (ty := (.object "java/lang/String")) (by decide)
                  have F_protectedTerm_b54 : Fld Z h54 b54 "org/linkweave/core/TermDefinition" "protectedTerm" "Z" (.int (0 : Int32)) := D54 (Or.inr (hw _ (List.mem_of_getElem? (i := 71) rfl))) (ty := .boolean) (by decide)
                  show Go p e below T54 (mkF m 131 #[.val (.int p0), .val (.int p1), .val (.int p2), .val (.int p3), .val (.int b4), .val (.int b5), .val (.int b6), .val (.int b7), .val (.int b8), .val .null, .val (.ref x47), .val (.ref x48), .val .null, .unset, .unset] [(.ref b54)]) _
                  refine Go.step (fun _ => XS.dup X54.here hx rfl (hb hby at_131) rfl rfl) ?_
                  show Go p e below T54 (mkF m 132 #[.val (.int p0), .val (.int p1), .val (.int p2), .val (.int p3), .val (.int b4), .val (.int b5), .val (.int b6), .val (.int b7), .val (.int b8), .val .null, .val (.ref x47), .val (.ref x48), .val .null, .unset, .unset] [(.ref b54), (.ref b54)]) _
                  refine Go.step (fun _ => XS.aload X54.here hx rfl (hb hby at_132) rfl rfl ) ?_
                  show Go p e below T54 (mkF m 134 #[.val (.int p0), .val (.int p1), .val (.int p2), .val (.int p3), .val (.int b4), .val (.int b5), .val (.int b6), .val (.int b7), .val (.int b8), .val .null, .val (.ref x47), .val (.ref x48), .val .null, .unset, .unset] [(.ref x48), (.ref b54), (.ref b54)]) _
                  refine Go.step (fun _ => XS.iload X54.here hx rfl (hb hby at_134) rfl ) ?_
                  show Go p e below T54 (mkF m 136 #[.val (.int p0), .val (.int p1), .val (.int p2), .val (.int p3), .val (.int b4), .val (.int b5), .val (.int b6), .val (.int b7), .val (.int b8), .val .null, .val (.ref x47), .val (.ref x48), .val .null, .unset, .unset] [(.int b6), (.ref x48), (.ref b54), (.ref b54)]) _
                  refine Go.step (fun _ => XS.iload X54.here hx rfl (hb hby at_136) rfl ) ?_
                  show Go p e below T54 (mkF m 138 #[.val (.int p0), .val (.int p1), .val (.int p2), .val (.int p3), .val (.int b4), .val (.int b5), .val (.int b6), .val (.int b7), .val (.int b8), .val .null, .val (.ref x47), .val (.ref x48), .val .null, .unset, .unset] [(.int b7), (.int b6), (.ref x48), (.ref b54), (.ref b54)]) _
                  refine Go.step (fun _ => XS.aload X54.here hx rfl (hb hby at_138) rfl rfl ) ?_
                  show Go p e below T54 (mkF m 140 #[.val (.int p0), .val (.int p1), .val (.int p2), .val (.int p3), .val (.int b4), .val (.int b5), .val (.int b6), .val (.int b7), .val (.int b8), .val .null, .val (.ref x47), .val (.ref x48), .val .null, .unset, .unset] [(.ref x48), (.int b7), (.int b6), (.ref x48), (.ref b54), (.ref b54)]) _
                  refine Go.step (fun _ => XS.aconstNull X54.here hx rfl (hb hby at_140)) ?_
                  show Go p e below T54 (mkF m 141 #[.val (.int p0), .val (.int p1), .val (.int p2), .val (.int p3), .val (.int b4), .val (.int b5), .val (.int b6), .val (.int b7), .val (.int b8), .val .null, .val (.ref x47), .val (.ref x48), .val .null, .unset, .unset] [.null, (.ref x48), (.int b7), (.int b6), (.ref x48), (.ref b54), (.ref b54)]) _
                  refine Go.step (fun _ => XS.iload X54.here hx rfl (hb hby at_141) rfl ) ?_
                  show Go p e below T54 (mkF m 143 #[.val (.int p0), .val (.int p1), .val (.int p2), .val (.int p3), .val (.int b4), .val (.int b5), .val (.int b6), .val (.int b7), .val (.int b8), .val .null, .val (.ref x47), .val (.ref x48), .val .null, .unset, .unset] [(.int b4), .null, (.ref x48), (.int b7), (.int b6), (.ref x48), (.ref b54), (.ref b54)]) _
                  refine Go.step (fun _ => XS.aload X54.here hx rfl (hb hby at_143) rfl rfl ) ?_
                  show Go p e below T54 (mkF m 145 #[.val (.int p0), .val (.int p1), .val (.int p2), .val (.int p3), .val (.int b4), .val (.int b5), .val (.int b6), .val (.int b7), .val (.int b8), .val .null, .val (.ref x47), .val (.ref x48), .val .null, .unset, .unset] [.null, (.int b4), .null, (.ref x48), (.int b7), (.int b6), (.ref x48), (.ref b54), (.ref b54)]) _
                  refine Go.step (fun _ => XS.iload X54.here hx rfl (hb hby at_145) rfl ) ?_
                  show Go p e below T54 (mkF m 147 #[.val (.int p0), .val (.int p1), .val (.int p2), .val (.int p3), .val (.int b4), .val (.int b5), .val (.int b6), .val (.int b7), .val (.int b8), .val .null, .val (.ref x47), .val (.ref x48), .val .null, .unset, .unset] [(.int b5), .null, (.int b4), .null, (.ref x48), (.int b7), (.int b6), (.ref x48), (.ref b54), (.ref b54)]) _
                  refine Go.step (fun _ => XS.aload X54.here hx rfl (hb hby at_147) rfl rfl ) ?_
                  show Go p e below T54 (mkF m 149 #[.val (.int p0), .val (.int p1), .val (.int p2), .val (.int p3), .val (.int b4), .val (.int b5), .val (.int b6), .val (.int b7), .val (.int b8), .val .null, .val (.ref x47), .val (.ref x48), .val .null, .unset, .unset] [.null, (.int b5), .null, (.int b4), .null, (.ref x48), (.int b7), (.int b6), (.ref x48), (.ref b54), (.ref b54)]) _
                  refine Go.step (fun _ => XS.aload X54.here hx rfl (hb hby at_149) rfl rfl ) ?_
                  show Go p e below T54 (mkF m 151 #[.val (.int p0), .val (.int p1), .val (.int p2), .val (.int p3), .val (.int b4), .val (.int b5), .val (.int b6), .val (.int b7), .val (.int b8), .val .null, .val (.ref x47), .val (.ref x48), .val .null, .unset, .unset] [(.ref x48), .null, (.int b5), .null, (.int b4), .null, (.ref x48), (.int b7), (.int b6), (.ref x48), (.ref b54), (.ref b54)]) _
                  refine Go.step (fun _ => XS.aconstNull X54.here hx rfl (hb hby at_151)) ?_
                  show Go p e below T54 (mkF m 152 #[.val (.int p0), .val (.int p1), .val (.int p2), .val (.int p3), .val (.int b4), .val (.int b5), .val (.int b6), .val (.int b7), .val (.int b8), .val .null, .val (.ref x47), .val (.ref x48), .val .null, .unset, .unset] [.null, (.ref x48), .null, (.int b5), .null, (.int b4), .null, (.ref x48), (.int b7), (.int b6), (.ref x48), (.ref b54), (.ref b54)]) _
                  refine Go.step (fun _ => XS.aload X54.here hx rfl (hb hby at_152) rfl rfl ) ?_
                  show Go p e below T54 (mkF m 154 #[.val (.int p0), .val (.int p1), .val (.int p2), .val (.int p3), .val (.int b4), .val (.int b5), .val (.int b6), .val (.int b7), .val (.int b8), .val .null, .val (.ref x47), .val (.ref x48), .val .null, .unset, .unset] [(.ref x48), .null, (.ref x48), .null, (.int b5), .null, (.int b4), .null, (.ref x48), (.int b7), (.int b6), (.ref x48), (.ref b54), (.ref b54)]) _
                  refine Go.step (fun _ => XS.iload X54.here hx rfl (hb hby at_154) rfl ) ?_
                  show Go p e below T54 (mkF m 156 #[.val (.int p0), .val (.int p1), .val (.int p2), .val (.int p3), .val (.int b4), .val (.int b5), .val (.int b6), .val (.int b7), .val (.int b8), .val .null, .val (.ref x47), .val (.ref x48), .val .null, .unset, .unset] [(.int b8), (.ref x48), .null, (.ref x48), .null, (.int b5), .null, (.int b4), .null, (.ref x48), (.int b7), (.int b6), (.ref x48), (.ref b54), (.ref b54)]) _
                  obtain ⟨_, _, ⟨T55, L55, k55, n55⟩, -, X55, ⟨Lc55, hQ55, l55, y55, z55⟩, st55⟩ := X54.specialBack hx (y := (⟨"org/linkweave/core/TermDefinition", "<init>", "(Ljava/lang/String;ZZLjava/lang/String;Ljava/util/Set;ZLjava/lang/String;ZLjava/lang/String;Ljava/lang/String;Lorg/linkweave/core/TermDefinition$ScopedContext;Ljava/lang/String;Z)V"⟩ : MethodName)) rfl hown (mvT hZ (hw _ (List.mem_of_getElem? (i := 37) rfl))) (mvT hZ (hw _ (List.mem_of_getElem? (i := 38) rfl))) (mvT hZ (hw _ (List.mem_of_getElem? (i := 39) rfl))) (by decide) (backOf (W := 1) (rmCt l Z a0 hw [] b54 x48 b6 b7 x48 b4 .null b5 .null x48 x48 b8 h54 n0 Z54 A54 F_iri_b54 F_prefix_b54 F_reverse_b54 F_typeMapping_b54 F_container_b54 F_hasLanguage_b54 F_language_b54 F_hasDirection_b54 F_direction_b54 F_index_b54 F_scopedContext_b54 F_nest_b54 F_protectedTerm_b54 g_b54 rfl rfl) hZ (hw _ (List.mem_of_getElem? (i := 39) rfl)) (hw _ (List.mem_of_getElem? (i := 36) rfl)) (by decide) (by decide)) (g := (mkF m 156 #[.val (.int p0), .val (.int p1), .val (.int p2), .val (.int p3), .val (.int b4), .val (.int b5), .val (.int b6), .val (.int b7), .val (.int b8), .val .null, .val (.ref x47), .val (.ref x48), .val .null, .unset, .unset] [(.int b8), (.ref x48), .null, (.ref x48), .null, (.int b5), .null, (.int b4), .null, (.ref x48), (.int b7), (.int b6), (.ref x48), (.ref b54), (.ref b54)])) rfl (by rw [hml]; rfl) (Steps.refl _) (a := b54) (argsL := [(.ref x48), (.int b6), (.int b7), (.ref x48), .null, (.int b4), .null, (.int b5), .null, (.ref x48), .null, (.ref x48), (.int b8)]) (rest := [(.ref b54)]) (lenOf pd_3 rfl) rfl (by show 2 * 0 + _ ≤ _; exact Nat.le_of_eq rfl) (hb hby at_156) (fun _ _ => ⟨rfl, e54, (by decide : 0 + 3 + 3 + 1 + 0 ≤ _), (by decide : 0 + 8 + 8 + 13 + 0 ≤ _)⟩)
                  dsimp only [Pt.U, Pt.locs, Pt.cells, Pt.slots] at X55 l55 y55 z55 st55 hQ55
                  subst l55 y55 z55
                  obtain ⟨rfl, Nq55, K55, Ex55, FB55, FL55⟩ := hQ55
                  have N55 := Fr.app N48 Nq55
                  refine Go.call st55 ?_
                  have O2_q55 := own_staKeep O2_q54 K55 (allS (own_plainE A54) all0)
                  have A54_q55 := A54.keep K55
                  have Z55 : n0 ≤ T55.heap.size := Nat.le_trans Z54 K55.1
                  show Go p e below T55 (mkF m 159 #[.val (.int p0), .val (.int p1), .val (.int p2), .val (.int p3), .val (.int b4), .val (.int b5), .val (.int b6), .val (.int b7), .val (.int b8), .val .null, .val (.ref x47), .val (.ref x48), .val .null, .unset, .unset] [(.ref b54)]) _
                  refine Go.step (fun _ => XS.astore X55.here hx rfl (hb hby at_159) rfl rfl (l' := #[.val (.int p0), .val (.int p1), .val (.int p2), .val (.int p3), .val (.int b4), .val (.int b5), .val (.int b6), .val (.int b7), .val (.int b8), .val .null, .val (.ref x47), .val (.ref x48), .val .null, .val (.ref b54), .unset]) rfl) ?_
                  show Go p e below T55 (mkF m 161 #[.val (.int p0), .val (.int p1), .val (.int p2), .val (.int p3), .val (.int b4), .val (.int b5), .val (.int b6), .val (.int b7), .val (.int b8), .val .null, .val (.ref x47), .val (.ref x48), .val .null, .val (.ref b54), .unset] []) _
                  refine Go.step (fun _ => XS.aload X55.here hx rfl (hb hby at_161) rfl rfl ) ?_
                  show Go p e below T55 (mkF m 163 #[.val (.int p0), .val (.int p1), .val (.int p2), .val (.int p3), .val (.int b4), .val (.int b5), .val (.int b6), .val (.int b7), .val (.int b8), .val .null, .val (.ref x47), .val (.ref x48), .val .null, .val (.ref b54), .unset] [(.ref b54)]) _
                  refine Go.step (fun _ => XS.aload X55.here hx rfl (hb hby at_163) rfl rfl ) ?_
                  show Go p e below T55 (mkF m 165 #[.val (.int p0), .val (.int p1), .val (.int p2), .val (.int p3), .val (.int b4), .val (.int b5), .val (.int b6), .val (.int b7), .val (.int b8), .val .null, .val (.ref x47), .val (.ref x48), .val .null, .val (.ref b54), .unset] [(.ref x47), (.ref b54)]) _
                  rcases hb4 with rfl | rfl
                  · skip
                    obtain ⟨cq56, kq56, q56a, q56b, q56c⟩ := isOf hZ rfl A54_q55
                    obtain ⟨_, _, ⟨T56, L56, k56, n56⟩, -, X56, ⟨Lc56, hQ56, l56, y56, z56⟩, st56⟩ := X55.virtualBack hx (y := (⟨"org/linkweave/core/TermDefinition", "language", "(Ljava/lang/String;)Ljava/lang/String;"⟩ : MethodName)) (z := (⟨"org/linkweave/core/TermDefinition", "language", "(Ljava/lang/String;)Ljava/lang/String;"⟩ : MethodName)) hown (mvT hZ (hw _ (List.mem_of_getElem? (i := 72) rfl))) (mvT hZ (hw _ (List.mem_of_getElem? (i := 73) rfl))) (notFace_of_selects (args := #[]) (mvT hZ (hw _ (List.mem_of_getElem? (i := 75) rfl)))) (mvT hZ (hw _ (List.mem_of_getElem? (i := 75) rfl))) (mvT hZ (hw _ (List.mem_of_getElem? (i := 74) rfl))) (by decide) (backOf (W := 0) (rmLa l Z a0 hw [] b54 (.ref x47) (nar .boolean (0 : Int32)) .null (.ref x47) T55.heap n0 Z55 FB55 FL55 rfl rfl (by first | rfl | decide)) hZ (hw _ (List.mem_of_getElem? (i := 76) rfl)) (hw _ (List.mem_of_getElem? (i := 36) rfl)) (by decide) (by decide)) q56a q56c (g := (mkF m 165 #[.val (.int p0), .val (.int p1), .val (.int p2), .val (.int p3), .val (.int (0 : Int32)), .val (.int b5), .val (.int b6), .val (.int b7), .val (.int b8), .val .null, .val (.ref x47), .val (.ref x48), .val .null, .val (.ref b54), .unset] [(.ref x47), (.ref b54)])) rfl (by rw [hml]; rfl) (Steps.refl _) (argsL := [(.ref x47)]) (rest := []) (lenOf pd_4 rfl) rfl (by show 2 * 0 + _ ≤ _; exact Nat.le_of_eq rfl) (hb hby at_165) (fun _ _ => ⟨rfl, rfl, (by decide : 0 + 3 + 3 + 1 + 0 + 0 ≤ _), (by decide : 0 + 8 + 8 + 13 + 0 + 0 ≤ _)⟩)
                    dsimp only [Pt.U, Pt.locs, Pt.cells, Pt.slots] at X56 l56 y56 z56 st56 hQ56
                    subst l56 y56 z56
                    obtain ⟨rfl, Nq56, eh56⟩ := hQ56
                    have N56 := Fr.app N55 Nq56
                    refine Go.call st56 ?_
                    show Go p e below T56 (mkF m 168 #[.val (.int p0), .val (.int p1), .val (.int p2), .val (.int p3), .val (.int (0 : Int32)), .val (.int b5), .val (.int b6), .val (.int b7), .val (.int b8), .val .null, .val (.ref x47), .val (.ref x48), .val .null, .val (.ref b54), .unset] [(.ref x47)]) _
                    refine Go.step (fun _ => XS.astore X56.here hx rfl (hb hby at_168) rfl rfl (l' := #[.val (.int p0), .val (.int p1), .val (.int p2), .val (.int p3), .val (.int (0 : Int32)), .val (.int b5), .val (.int b6), .val (.int b7), .val (.int b8), .val .null, .val (.ref x47), .val (.ref x48), .val .null, .val (.ref b54), .val (.ref x47)]) rfl) ?_
                    show Go p e below T56 (mkF m 170 #[.val (.int p0), .val (.int p1), .val (.int p2), .val (.int p3), .val (.int (0 : Int32)), .val (.int b5), .val (.int b6), .val (.int b7), .val (.int b8), .val .null, .val (.ref x47), .val (.ref x48), .val .null, .val (.ref b54), .val (.ref x47)] []) _
                    refine Go.step (fun _ => XS.iload X56.here hx rfl (hb hby at_170) rfl ) ?_
                    show Go p e below T56 (mkF m 172 #[.val (.int p0), .val (.int p1), .val (.int p2), .val (.int p3), .val (.int (0 : Int32)), .val (.int b5), .val (.int b6), .val (.int b7), .val (.int b8), .val .null, .val (.ref x47), .val (.ref x48), .val .null, .val (.ref b54), .val (.ref x47)] [(.int (0 : Int32))]) _
                    refine Go.step (fun _ => XS.ifYes X56.here hx rfl (pc0 := 172) (pc' := 188) rfl (hb hby at_172) rfl ((if0 _ _).trans (teq (by decide)).1) (by decide) (by decide)) ?_
                    show Go p e below T56 (mkF m 188 #[.val (.int p0), .val (.int p1), .val (.int p2), .val (.int p3), .val (.int (0 : Int32)), .val (.int b5), .val (.int b6), .val (.int b7), .val (.int b8), .val .null, .val (.ref x47), .val (.ref x48), .val .null, .val (.ref b54), .val (.ref x47)] []) _
                    refine Go.step (fun _ => XS.aload X56.here hx rfl (hb hby at_188) rfl rfl ) ?_
                    show Go p e below T56 (mkF m 190 #[.val (.int p0), .val (.int p1), .val (.int p2), .val (.int p3), .val (.int (0 : Int32)), .val (.int b5), .val (.int b6), .val (.int b7), .val (.int b8), .val .null, .val (.ref x47), .val (.ref x48), .val .null, .val (.ref b54), .val (.ref x47)] [(.ref x47)]) _
                    refine Go.step (fun _ => XS.aload X56.here hx rfl (hb hby at_190) rfl rfl ) ?_
                    show Go p e below T56 (mkF m 192 #[.val (.int p0), .val (.int p1), .val (.int p2), .val (.int p3), .val (.int (0 : Int32)), .val (.int b5), .val (.int b6), .val (.int b7), .val (.int b8), .val .null, .val (.ref x47), .val (.ref x48), .val .null, .val (.ref b54), .val (.ref x47)] [(.ref x47), (.ref x47)]) _
                    refine Go.step (fun _ => Jvm.RoadKit.acmp (g := (mkF m 192 #[.val (.int p0), .val (.int p1), .val (.int p2), .val (.int p3), .val (.int (0 : Int32)), .val (.int b5), .val (.int b6), .val (.int b7), .val (.int b8), .val .null, .val (.ref x47), .val (.ref x48), .val .null, .val (.ref b54), .val (.ref x47)] [(.ref x47), (.ref x47)])) X56 hx rfl rfl rfl (pc0 := 192) (pc' := 195) (same := true) rfl (hb hby at_192) rfl (decide_eq_true rfl) (by decide) (by decide)) ?_
                    show Go p e below T56 (mkF m 195 #[.val (.int p0), .val (.int p1), .val (.int p2), .val (.int p3), .val (.int (0 : Int32)), .val (.int b5), .val (.int b6), .val (.int b7), .val (.int b8), .val .null, .val (.ref x47), .val (.ref x48), .val .null, .val (.ref b54), .val (.ref x47)] []) _
                    refine Go.step (fun _ => XS.iconst X56.here hx rfl (hb hby at_195)) ?_
                    show Go p e below T56 (mkF m 196 #[.val (.int p0), .val (.int p1), .val (.int p2), .val (.int p3), .val (.int (0 : Int32)), .val (.int b5), .val (.int b6), .val (.int b7), .val (.int b8), .val .null, .val (.ref x47), .val (.ref x48), .val .null, .val (.ref b54), .val (.ref x47)] [(.int (1 : Int32))]) _
                    refine Go.step (fun _ => XS.goto X56.here hx rfl (pc0 := 196) (pc' := 200) rfl (hb hby at_196) (by decide) (by decide)) ?_
                    show Go p e below T56 (mkF m 200 #[.val (.int p0), .val (.int p1), .val (.int p2), .val (.int p3), .val (.int (0 : Int32)), .val (.int b5), .val (.int b6), .val (.int b7), .val (.int b8), .val .null, .val (.ref x47), .val (.ref x48), .val .null, .val (.ref b54), .val (.ref x47)] [(.int (1 : Int32))]) _
                    refine Go.retN (t := .boolean) (z' := (1 : Int32)) X56 hx hret (by simp) hlk (hb hby at_200) (by decide) ?_ (by decide) (by decide)
                    exact ⟨rfl, N56⟩
                  · skip
                    obtain ⟨cq57, kq57, q57a, q57b, q57c⟩ := isOf hZ rfl A54_q55
                    obtain ⟨_, _, ⟨T57, L57, k57, n57⟩, -, X57, ⟨Lc57, hQ57, l57, y57, z57⟩, st57⟩ := X55.virtualBack hx (y := (⟨"org/linkweave/core/TermDefinition", "language", "(Ljava/lang/String;)Ljava/lang/String;"⟩ : MethodName)) (z := (⟨"org/linkweave/core/TermDefinition", "language", "(Ljava/lang/String;)Ljava/lang/String;"⟩ : MethodName)) hown (mvT hZ (hw _ (List.mem_of_getElem? (i := 72) rfl))) (mvT hZ (hw _ (List.mem_of_getElem? (i := 73) rfl))) (notFace_of_selects (args := #[]) (mvT hZ (hw _ (List.mem_of_getElem? (i := 75) rfl)))) (mvT hZ (hw _ (List.mem_of_getElem? (i := 75) rfl))) (mvT hZ (hw _ (List.mem_of_getElem? (i := 74) rfl))) (by decide) (backOf (W := 0) (rmLa l Z a0 hw [] b54 (.ref x47) (nar .boolean (1 : Int32)) .null .null T55.heap n0 Z55 FB55 FL55 rfl rfl (by first | rfl | decide)) hZ (hw _ (List.mem_of_getElem? (i := 76) rfl)) (hw _ (List.mem_of_getElem? (i := 36) rfl)) (by decide) (by decide)) q57a q57c (g := (mkF m 165 #[.val (.int p0), .val (.int p1), .val (.int p2), .val (.int p3), .val (.int (1 : Int32)), .val (.int b5), .val (.int b6), .val (.int b7), .val (.int b8), .val .null, .val (.ref x47), .val (.ref x48), .val .null, .val (.ref b54), .unset] [(.ref x47), (.ref b54)])) rfl (by rw [hml]; rfl) (Steps.refl _) (argsL := [(.ref x47)]) (rest := []) (lenOf pd_4 rfl) rfl (by show 2 * 0 + _ ≤ _; exact Nat.le_of_eq rfl) (hb hby at_165) (fun _ _ => ⟨rfl, rfl, (by decide : 0 + 3 + 3 + 1 + 0 + 0 ≤ _), (by decide : 0 + 8 + 8 + 13 + 0 + 0 ≤ _)⟩)
                    dsimp only [Pt.U, Pt.locs, Pt.cells, Pt.slots] at X57 l57 y57 z57 st57 hQ57
                    subst l57 y57 z57
                    obtain ⟨rfl, Nq57, eh57⟩ := hQ57
                    have N57 := Fr.app N55 Nq57
                    refine Go.call st57 ?_
                    show Go p e below T57 (mkF m 168 #[.val (.int p0), .val (.int p1), .val (.int p2), .val (.int p3), .val (.int (1 : Int32)), .val (.int b5), .val (.int b6), .val (.int b7), .val (.int b8), .val .null, .val (.ref x47), .val (.ref x48), .val .null, .val (.ref b54), .unset] [.null]) _
                    refine Go.step (fun _ => XS.astore X57.here hx rfl (hb hby at_168) rfl rfl (l' := #[.val (.int p0), .val (.int p1), .val (.int p2), .val (.int p3), .val (.int (1 : Int32)), .val (.int b5), .val (.int b6), .val (.int b7), .val (.int b8), .val .null, .val (.ref x47), .val (.ref x48), .val .null, .val (.ref b54), .val .null]) rfl) ?_
                    show Go p e below T57 (mkF m 170 #[.val (.int p0), .val (.int p1), .val (.int p2), .val (.int p3), .val (.int (1 : Int32)), .val (.int b5), .val (.int b6), .val (.int b7), .val (.int b8), .val .null, .val (.ref x47), .val (.ref x48), .val .null, .val (.ref b54), .val .null] []) _
                    refine Go.step (fun _ => XS.iload X57.here hx rfl (hb hby at_170) rfl ) ?_
                    show Go p e below T57 (mkF m 172 #[.val (.int p0), .val (.int p1), .val (.int p2), .val (.int p3), .val (.int (1 : Int32)), .val (.int b5), .val (.int b6), .val (.int b7), .val (.int b8), .val .null, .val (.ref x47), .val (.ref x48), .val .null, .val (.ref b54), .val .null] [(.int (1 : Int32))]) _
                    refine Go.step (fun _ => XS.ifNo X57.here hx rfl (hb hby at_172) rfl ((if0 _ _).trans (feq (by decide)).1)) ?_
                    show Go p e below T57 (mkF m 175 #[.val (.int p0), .val (.int p1), .val (.int p2), .val (.int p3), .val (.int (1 : Int32)), .val (.int b5), .val (.int b6), .val (.int b7), .val (.int b8), .val .null, .val (.ref x47), .val (.ref x48), .val .null, .val (.ref b54), .val .null] []) _
                    refine Go.step (fun _ => XS.aload X57.here hx rfl (hb hby at_175) rfl rfl ) ?_
                    show Go p e below T57 (mkF m 177 #[.val (.int p0), .val (.int p1), .val (.int p2), .val (.int p3), .val (.int (1 : Int32)), .val (.int b5), .val (.int b6), .val (.int b7), .val (.int b8), .val .null, .val (.ref x47), .val (.ref x48), .val .null, .val (.ref b54), .val .null] [.null]) _
                    refine Go.step (fun _ => XS.aload X57.here hx rfl (hb hby at_177) rfl rfl ) ?_
                    show Go p e below T57 (mkF m 179 #[.val (.int p0), .val (.int p1), .val (.int p2), .val (.int p3), .val (.int (1 : Int32)), .val (.int b5), .val (.int b6), .val (.int b7), .val (.int b8), .val .null, .val (.ref x47), .val (.ref x48), .val .null, .val (.ref b54), .val .null] [.null, .null]) _
                    refine Go.step (fun _ => Jvm.RoadKit.acmp (g := (mkF m 179 #[.val (.int p0), .val (.int p1), .val (.int p2), .val (.int p3), .val (.int (1 : Int32)), .val (.int b5), .val (.int b6), .val (.int b7), .val (.int b8), .val .null, .val (.ref x47), .val (.ref x48), .val .null, .val (.ref b54), .val .null] [.null, .null])) X57 hx rfl rfl rfl (pc0 := 179) (pc' := 182) (same := true) rfl (hb hby at_179) rfl (decide_eq_true rfl) (by decide) (by decide)) ?_
                    show Go p e below T57 (mkF m 182 #[.val (.int p0), .val (.int p1), .val (.int p2), .val (.int p3), .val (.int (1 : Int32)), .val (.int b5), .val (.int b6), .val (.int b7), .val (.int b8), .val .null, .val (.ref x47), .val (.ref x48), .val .null, .val (.ref b54), .val .null] []) _
                    refine Go.step (fun _ => XS.iconst X57.here hx rfl (hb hby at_182)) ?_
                    show Go p e below T57 (mkF m 183 #[.val (.int p0), .val (.int p1), .val (.int p2), .val (.int p3), .val (.int (1 : Int32)), .val (.int b5), .val (.int b6), .val (.int b7), .val (.int b8), .val .null, .val (.ref x47), .val (.ref x48), .val .null, .val (.ref b54), .val .null] [(.int (1 : Int32))]) _
                    refine Go.step (fun _ => XS.goto X57.here hx rfl (pc0 := 183) (pc' := 187) rfl (hb hby at_183) (by decide) (by decide)) ?_
                    show Go p e below T57 (mkF m 187 #[.val (.int p0), .val (.int p1), .val (.int p2), .val (.int p3), .val (.int (1 : Int32)), .val (.int b5), .val (.int b6), .val (.int b7), .val (.int b8), .val .null, .val (.ref x47), .val (.ref x48), .val .null, .val (.ref b54), .val .null] [(.int (1 : Int32))]) _
                    refine Go.retN (t := .boolean) (z' := (1 : Int32)) X57 hx hret (by simp) hlk (hb hby at_187) (by decide) ?_ (by decide) (by decide)
                    exact ⟨rfl, N57⟩
              · skip
                refine Go.step (fun _ => XS.ifNo X0.here hx rfl (hb hby at_88) rfl ((if0 _ _).trans (feq hc88).1)) ?_
                show Go p e below s₁ (mkF m 91 #[.val (.int p0), .val (.int p1), .val (.int p2), .val (.int p3), .val (.int b4), .val (.int b5), .val (.int b6), .val (.int b7), .val (.int b8), .val .null, .unset, .unset, .unset, .unset, .unset] []) _
                refine Go.step (fun _ => XS.aconstNull X0.here hx rfl (hb hby at_91)) ?_
                show Go p e below s₁ (mkF m 92 #[.val (.int p0), .val (.int p1), .val (.int p2), .val (.int p3), .val (.int b4), .val (.int b5), .val (.int b6), .val (.int b7), .val (.int b8), .val .null, .unset, .unset, .unset, .unset, .unset] [.null]) _
                refine Go.step (fun _ => XS.goto X0.here hx rfl (pc0 := 92) (pc' := 99) rfl (hb hby at_92) (by decide) (by decide)) ?_
                show Go p e below s₁ (mkF m 99 #[.val (.int p0), .val (.int p1), .val (.int p2), .val (.int p3), .val (.int b4), .val (.int b5), .val (.int b6), .val (.int b7), .val (.int b8), .val .null, .unset, .unset, .unset, .unset, .unset] [.null]) _
                refine Go.step (fun _ => XS.astore X0.here hx rfl (hb hby at_99) rfl rfl (l' := #[.val (.int p0), .val (.int p1), .val (.int p2), .val (.int p3), .val (.int b4), .val (.int b5), .val (.int b6), .val (.int b7), .val (.int b8), .val .null, .val .null, .unset, .unset, .unset, .unset]) rfl) ?_
                show Go p e below s₁ (mkF m 101 #[.val (.int p0), .val (.int p1), .val (.int p2), .val (.int p3), .val (.int b4), .val (.int b5), .val (.int b6), .val (.int b7), .val (.int b8), .val .null, .val .null, .unset, .unset, .unset, .unset] []) _
                refine Go.step (fun _ => XS.iloadN X0.here hx rfl (hb hby at_101) rfl ) ?_
                show Go p e below s₁ (mkF m 102 #[.val (.int p0), .val (.int p1), .val (.int p2), .val (.int p3), .val (.int b4), .val (.int b5), .val (.int b6), .val (.int b7), .val (.int b8), .val .null, .val .null, .unset, .unset, .unset, .unset] [(.int p3)]) _
                obtain ⟨_, _, ⟨T58, L58, k58, n58⟩, -, X58, ⟨Lc58, hQ58, l58, y58, z58⟩, st58⟩ := Jvm.LawKit.callS X0 hx (y := (⟨"org/linkweave/core/TermDefinitionLanguagePinLaw", "str", "(I)Ljava/lang/String;"⟩ : MethodName)) hown (mvT hZ (hw _ (List.mem_of_getElem? (i := 0) rfl))) (mvT hZ (hw _ (List.mem_of_getElem? (i := 1) rfl))) (mvT hZ (hw _ (List.mem_of_getElem? (i := 2) rfl))) (mvT hZ (hw _ (List.mem_of_getElem? (i := 3) rfl))) (by decide) (backOf (W := 0) (rm1 l Z a0 hw [] p3 G h0 n0 Z0 P3 O2) hZ (hw _ (List.mem_of_getElem? (i := 3) rfl)) (hw _ (List.mem_of_getElem? (i := 2) rfl)) (by decide) (by decide)) (g := (mkF m 102 #[.val (.int p0), .val (.int p1), .val (.int p2), .val (.int p3), .val (.int b4), .val (.int b5), .val (.int b6), .val (.int b7), .val (.int b8), .val .null, .val .null, .unset, .unset, .unset, .unset] [(.int p3)])) rfl (by rw [hml]; rfl) (argsL := [(.int p3)]) (rest := []) (lenOf pd_2 rfl) rfl (by show 2 * 0 + _ ≤ _; exact Nat.le_of_eq rfl) (hb hby at_102) (fun _ _ => ⟨rfl, e0, (by decide : 0 + 3 ≤ _), (by decide : 0 + 8 ≤ _)⟩)
                dsimp only [Pt.U, Pt.locs, Pt.cells, Pt.slots] at X58 l58 y58 z58 st58 hQ58
                subst l58 y58 z58
                obtain ⟨x58, rfl, Nq58, K58⟩ := hQ58
                have N58 := Fr.app N0 Nq58
                refine Go.step st58 ?_
                have O2_q58 := own_staKeep O2 K58 all0
                have Z58 : n0 ≤ T58.heap.size := Nat.le_trans Z0 K58.1
                show Go p e below T58 (mkF m 105 #[.val (.int p0), .val (.int p1), .val (.int p2), .val (.int p3), .val (.int b4), .val (.int b5), .val (.int b6), .val (.int b7), .val (.int b8), .val .null, .val .null, .unset, .unset, .unset, .unset] [(.ref x58)]) _
                refine Go.step (fun _ => XS.astore X58.here hx rfl (hb hby at_105) rfl rfl (l' := #[.val (.int p0), .val (.int p1), .val (.int p2), .val (.int p3), .val (.int b4), .val (.int b5), .val (.int b6), .val (.int b7), .val (.int b8), .val .null, .val .null, .val (.ref x58), .unset, .unset, .unset]) rfl) ?_
                show Go p e below T58 (mkF m 107 #[.val (.int p0), .val (.int p1), .val (.int p2), .val (.int p3), .val (.int b4), .val (.int b5), .val (.int b6), .val (.int b7), .val (.int b8), .val .null, .val .null, .val (.ref x58), .unset, .unset, .unset] []) _
                refine Go.step (fun _ => XS.iloadN X58.here hx rfl (hb hby at_107) rfl ) ?_
                show Go p e below T58 (mkF m 108 #[.val (.int p0), .val (.int p1), .val (.int p2), .val (.int p3), .val (.int b4), .val (.int b5), .val (.int b6), .val (.int b7), .val (.int b8), .val .null, .val .null, .val (.ref x58), .unset, .unset, .unset] [(.int p0)]) _
                refine Go.step (fun _ => XS.sipush X58.here hx rfl (hb hby at_108)) ?_
                show Go p e below T58 (mkF m 111 #[.val (.int p0), .val (.int p1), .val (.int p2), .val (.int p3), .val (.int b4), .val (.int b5), .val (.int b6), .val (.int b7), .val (.int b8), .val .null, .val .null, .val (.ref x58), .unset, .unset, .unset] [(.int (128 : Int32)), (.int p0)]) _
                refine Go.step (fun _ => XS.iand X58.here hx rfl (hb hby at_111) rfl) ?_
                show Go p e below T58 (mkF m 112 #[.val (.int p0), .val (.int p1), .val (.int p2), .val (.int p3), .val (.int b4), .val (.int b5), .val (.int b6), .val (.int b7), .val (.int b8), .val .null, .val .null, .val (.ref x58), .unset, .unset, .unset] [(.int (p0 &&& (128 : Int32)))]) _
                by_cases hc112 : (p0 &&& (128 : Int32)) = (0 : Int32)
                · skip
                  refine Go.step (fun _ => XS.ifYes X58.here hx rfl (pc0 := 112) (pc' := 119) rfl (hb hby at_112) rfl ((if0 _ _).trans (teq hc112).1) (by decide) (by decide)) ?_
                  show Go p e below T58 (mkF m 119 #[.val (.int p0), .val (.int p1), .val (.int p2), .val (.int p3), .val (.int b4), .val (.int b5), .val (.int b6), .val (.int b7), .val (.int b8), .val .null, .val .null, .val (.ref x58), .unset, .unset, .unset] []) _
                  refine Go.step (fun _ => XS.iloadN X58.here hx rfl (hb hby at_119) rfl ) ?_
                  show Go p e below T58 (mkF m 120 #[.val (.int p0), .val (.int p1), .val (.int p2), .val (.int p3), .val (.int b4), .val (.int b5), .val (.int b6), .val (.int b7), .val (.int b8), .val .null, .val .null, .val (.ref x58), .unset, .unset, .unset] [(.int p3)]) _
                  refine Go.step (fun _ => XS.bipush X58.here hx rfl (hb hby at_120)) ?_
                  show Go p e below T58 (mkF m 122 #[.val (.int p0), .val (.int p1), .val (.int p2), .val (.int p3), .val (.int b4), .val (.int b5), .val (.int b6), .val (.int b7), .val (.int b8), .val .null, .val .null, .val (.ref x58), .unset, .unset, .unset] [(.int (16 : Int32)), (.int p3)]) _
                  refine Go.step (fun _ => XS.iushr X58.here hx rfl (hb hby at_122) rfl) ?_
                  show Go p e below T58 (mkF m 123 #[.val (.int p0), .val (.int p1), .val (.int p2), .val (.int p3), .val (.int b4), .val (.int b5), .val (.int b6), .val (.int b7), .val (.int b8), .val .null, .val .null, .val (.ref x58), .unset, .unset, .unset] [(.int ((p3.toUInt32 >>> ((16 : Int32) &&& 31).toUInt32).toInt32))]) _
                  obtain ⟨_, _, ⟨T59, L59, k59, n59⟩, -, X59, ⟨Lc59, hQ59, l59, y59, z59⟩, st59⟩ := Jvm.LawKit.callS X58 hx (y := (⟨"org/linkweave/core/TermDefinitionLanguagePinLaw", "str", "(I)Ljava/lang/String;"⟩ : MethodName)) hown (mvT hZ (hw _ (List.mem_of_getElem? (i := 0) rfl))) (mvT hZ (hw _ (List.mem_of_getElem? (i := 1) rfl))) (mvT hZ (hw _ (List.mem_of_getElem? (i := 2) rfl))) (mvT hZ (hw _ (List.mem_of_getElem? (i := 3) rfl))) (by decide) (backOf (W := 0) (rm1 l Z a0 hw [] ((p3.toUInt32 >>> ((16 : Int32) &&& 31).toUInt32).toInt32) G T58.heap n0 Z58 P3 O2_q58) hZ (hw _ (List.mem_of_getElem? (i := 3) rfl)) (hw _ (List.mem_of_getElem? (i := 2) rfl)) (by decide) (by decide)) (g := (mkF m 123 #[.val (.int p0), .val (.int p1), .val (.int p2), .val (.int p3), .val (.int b4), .val (.int b5), .val (.int b6), .val (.int b7), .val (.int b8), .val .null, .val .null, .val (.ref x58), .unset, .unset, .unset] [(.int ((p3.toUInt32 >>> ((16 : Int32) &&& 31).toUInt32).toInt32))])) rfl (by rw [hml]; rfl) (argsL := [(.int ((p3.toUInt32 >>> ((16 : Int32) &&& 31).toUInt32).toInt32))]) (rest := []) (lenOf pd_2 rfl) rfl (by show 2 * 0 + _ ≤ _; exact Nat.le_of_eq rfl) (hb hby at_123) (fun _ _ => ⟨rfl, rfl, (by decide : 0 + 3 + 3 ≤ _), (by decide : 0 + 8 + 8 ≤ _)⟩)
                  dsimp only [Pt.U, Pt.locs, Pt.cells, Pt.slots] at X59 l59 y59 z59 st59 hQ59
                  subst l59 y59 z59
                  obtain ⟨x59, rfl, Nq59, K59⟩ := hQ59
                  have N59 := Fr.app N58 Nq59
                  refine Go.step st59 ?_
                  have O2_q59 := own_staKeep O2_q58 K59 all0
                  have Z59 : n0 ≤ T59.heap.size := Nat.le_trans Z58 K59.1
                  show Go p e below T59 (mkF m 126 #[.val (.int p0), .val (.int p1), .val (.int p2), .val (.int p3), .val (.int b4), .val (.int b5), .val (.int b6), .val (.int b7), .val (.int b8), .val .null, .val .null, .val (.ref x58), .unset, .unset, .unset] [(.ref x59)]) _
                  refine Go.step (fun _ => XS.astore X59.here hx rfl (hb hby at_126) rfl rfl (l' := #[.val (.int p0), .val (.int p1), .val (.int p2), .val (.int p3), .val (.int b4), .val (.int b5), .val (.int b6), .val (.int b7), .val (.int b8), .val .null, .val .null, .val (.ref x58), .val (.ref x59), .unset, .unset]) rfl) ?_
                  show Go p e below T59 (mkF m 128 #[.val (.int p0), .val (.int p1), .val (.int p2), .val (.int p3), .val (.int b4), .val (.int b5), .val (.int b6), .val (.int b7), .val (.int b8), .val .null, .val .null, .val (.ref x58), .val (.ref x59), .unset, .unset] []) _
                  obtain ⟨T60, h60, X60, e60, E60, A60, D60, -, st60⟩ := newO X59 hx hZ hown (hw _ (List.mem_of_getElem? (i := 34) rfl)) (hw _ (List.mem_of_getElem? (i := 35) rfl)) (hw _ (List.mem_of_getElem? (i := 36) rfl)) rfl (g := (mkF m 128 #[.val (.int p0), .val (.int p1), .val (.int p2), .val (.int p3), .val (.int b4), .val (.int b5), .val (.int b6), .val (.int b7), .val (.int b8), .val .null, .val .null, .val (.ref x58), .val (.ref x59), .unset, .unset] [])) rfl (hb hby at_128) (by decide) (by decide)
                  obtain ⟨b60, g60⟩ : ∃ z, z = T59.heap.size := ⟨_, rfl⟩
                  rw [← g60] at A60 D60 st60
                  have g_b60 : n0 ≤ b60 := Nat.le_trans Z59 (Nat.le_of_eq g60.symm)
                  have O2_q60 := O2_q59.ext E60
                  have Z60 : n0 ≤ h60.size := Nat.le_trans Z59 E60.1
                  refine Go.step st60 ?_
                  have F_iri_b60 : Fld Z h60 b60 "org/linkweave/core/TermDefinition" "iri" "Ljava/lang/String;" .null := D60 (Or.inr (hw _ (List.mem_of_getElem? (i := 47) rfl))) (ty := (.object "java/lang/String")) (by decide)
                  have F_prefix_b60 : Fld Z h60 b60 "org/linkweave/core/TermDefinition" "prefix" "Z" (.int (0 : Int32)) := D60 (Or.inr (hw _ (List.mem_of_getElem? (i := 49) rfl))) (ty := .boolean) (by decide)
                  have F_reverse_b60 : Fld Z h60 b60 "org/linkweave/core/TermDefinition" "reverse" "Z" (.int (0 : Int32)) := D60 (Or.inr (hw _ (List.mem_of_getElem? (i := 51) rfl))) (ty := .boolean) (by decide)
                  have F_typeMapping_b60 : Fld Z h60 b60 "org/linkweave/core/TermDefinition" "typeMapping" "Ljava/lang/String;" .null := D60 (Or.inr (hw _ (List.mem_of_getElem? (i := 53) rfl))) (ty := (.object "java/lang/String")) (by decide)
                  have F_container_b60 : Fld Z h60 b60 "org/linkweave/core/TermDefinition" "container" "Ljava/util/Set;" .null := D60 (Or.inr (hw _ (List.mem_of_getElem? (i := 55) rfl))) (ty := (.object "java/util/Set")) (by decide)
                  have F_hasLanguage_b60 : Fld Z h60 b60 "org/linkweave/core/TermDefinition" "hasLanguage" "Z" (.int (0 : Int32)) := D60 (Or.inr (hw _ (List.mem_of_getElem? (i := 57) rfl))) (ty := .boolean) (by decide)
                  have F_language_b60 : Fld Z h60 b60 "org/linkweave/core/TermDefinition" "language" "Ljava/lang/String;" .null := D60 (Or.inr (hw _ (List.mem_of_getElem? (i := 59) rfl))) (ty := (.object "java/lang/String")) (by decide)
                  have F_hasDirection_b60 : Fld Z h60 b60 "org/linkweave/core/TermDefinition" "hasDirection" "Z" (.int (0 : Int32)) := D60 (Or.inr (hw _ (List.mem_of_getElem? (i := 61) rfl))) (ty := .boolean) (by decide)
                  have F_direction_b60 : Fld Z h60 b60 "org/linkweave/core/TermDefinition" "direction" "Ljava/lang/String;" .null := D60 (Or.inr (hw _ (List.mem_of_getElem? (i := 63) rfl))) (ty := (.object "java/lang/String")) (by decide)
                  have F_index_b60 : Fld Z h60 b60 "org/linkweave/core/TermDefinition" "index" "Ljava/lang/String;" .null := D60 (Or.inr (hw _ (List.mem_of_getElem? (i := 65) rfl))) (ty := (.object "java/lang/String")) (by decide)
                  have F_scopedContext_b60 : Fld Z h60 b60 "org/linkweave/core/TermDefinition" "scopedContext" "Lorg/linkweave/core/TermDefinition$ScopedContext;" .null := D60 (Or.inr (hw _ (List.mem_of_getElem? (i := 67) rfl))) (ty := (.object "org/linkweave/core/TermDefinition$ScopedContext")) (by decide)
                  have F_nest_b60 : Fld Z h60 b60 "org/linkweave/core/TermDefinition" "nest" "Ljava/lang/String;" .null := D60 (Or.inr (hw _ (List.mem_of_getElem? (i := 69) rfl))) (ty := (.object "java/lang/String")) (by decide)
                  have F_protectedTerm_b60 : Fld Z h60 b60 "org/linkweave/core/TermDefinition" "protectedTerm" "Z" (.int (0 : Int32)) := D60 (Or.inr (hw _ (List.mem_of_getElem? (i := 71) rfl))) (ty := .boolean) (by decide)
                  show Go p e below T60 (mkF m 131 #[.val (.int p0), .val (.int p1), .val (.int p2), .val (.int p3), .val (.int b4), .val (.int b5), .val (.int b6), .val (.int b7), .val (.int b8), .val .null, .val .null, .val (.ref x58), .val (.ref x59), .unset, .unset] [(.ref b60)]) _
                  refine Go.step (fun _ => XS.dup X60.here hx rfl (hb hby at_131) rfl rfl) ?_
                  show Go p e below T60 (mkF m 132 #[.val (.int p0), .val (.int p1), .val (.int p2), .val (.int p3), .val (.int b4), .val (.int b5), .val (.int b6), .val (.int b7), .val (.int b8), .val .null, .val .null, .val (.ref x58), .val (.ref x59), .unset, .unset] [(.ref b60), (.ref b60)]) _
                  refine Go.step (fun _ => XS.aload X60.here hx rfl (hb hby at_132) rfl rfl ) ?_
                  show Go p e below T60 (mkF m 134 #[.val (.int p0), .val (.int p1), .val (.int p2), .val (.int p3), .val (.int b4), .val (.int b5), .val (.int b6), .val (.int b7), .val (.int b8), .val .null, .val .null, .val (.ref x58), .val (.ref x59), .unset, .unset] [(.ref x58), (.ref b60), (.ref b60)]) _
                  refine Go.step (fun _ => XS.iload X60.here hx rfl (hb hby at_134) rfl ) ?_
                  show Go p e below T60 (mkF m 136 #[.val (.int p0), .val (.int p1), .val (.int p2), .val (.int p3), .val (.int b4), .val (.int b5), .val (.int b6), .val (.int b7), .val (.int b8), .val .null, .val .null, .val (.ref x58), .val (.ref x59), .unset, .unset] [(.int b6), (.ref x58), (.ref b60), (.ref b60)]) _
                  refine Go.step (fun _ => XS.iload X60.here hx rfl (hb hby at_136) rfl ) ?_
                  show Go p e below T60 (mkF m 138 #[.val (.int p0), .val (.int p1), .val (.int p2), .val (.int p3), .val (.int b4), .val (.int b5), .val (.int b6), .val (.int b7), .val (.int b8), .val .null, .val .null, .val (.ref x58), .val (.ref x59), .unset, .unset] [(.int b7), (.int b6), (.ref x58), (.ref b60), (.ref b60)]) _
                  refine Go.step (fun _ => XS.aload X60.here hx rfl (hb hby at_138) rfl rfl ) ?_
                  show Go p e below T60 (mkF m 140 #[.val (.int p0), .val (.int p1), .val (.int p2), .val (.int p3), .val (.int b4), .val (.int b5), .val (.int b6), .val (.int b7), .val (.int b8), .val .null, .val .null, .val (.ref x58), .val (.ref x59), .unset, .unset] [(.ref x58), (.int b7), (.int b6), (.ref x58), (.ref b60), (.ref b60)]) _
                  refine Go.step (fun _ => XS.aconstNull X60.here hx rfl (hb hby at_140)) ?_
                  show Go p e below T60 (mkF m 141 #[.val (.int p0), .val (.int p1), .val (.int p2), .val (.int p3), .val (.int b4), .val (.int b5), .val (.int b6), .val (.int b7), .val (.int b8), .val .null, .val .null, .val (.ref x58), .val (.ref x59), .unset, .unset] [.null, (.ref x58), (.int b7), (.int b6), (.ref x58), (.ref b60), (.ref b60)]) _
                  refine Go.step (fun _ => XS.iload X60.here hx rfl (hb hby at_141) rfl ) ?_
                  show Go p e below T60 (mkF m 143 #[.val (.int p0), .val (.int p1), .val (.int p2), .val (.int p3), .val (.int b4), .val (.int b5), .val (.int b6), .val (.int b7), .val (.int b8), .val .null, .val .null, .val (.ref x58), .val (.ref x59), .unset, .unset] [(.int b4), .null, (.ref x58), (.int b7), (.int b6), (.ref x58), (.ref b60), (.ref b60)]) _
                  refine Go.step (fun _ => XS.aload X60.here hx rfl (hb hby at_143) rfl rfl ) ?_
                  show Go p e below T60 (mkF m 145 #[.val (.int p0), .val (.int p1), .val (.int p2), .val (.int p3), .val (.int b4), .val (.int b5), .val (.int b6), .val (.int b7), .val (.int b8), .val .null, .val .null, .val (.ref x58), .val (.ref x59), .unset, .unset] [.null, (.int b4), .null, (.ref x58), (.int b7), (.int b6), (.ref x58), (.ref b60), (.ref b60)]) _
                  refine Go.step (fun _ => XS.iload X60.here hx rfl (hb hby at_145) rfl ) ?_
                  show Go p e below T60 (mkF m 147 #[.val (.int p0), .val (.int p1), .val (.int p2), .val (.int p3), .val (.int b4), .val (.int b5), .val (.int b6), .val (.int b7), .val (.int b8), .val .null, .val .null, .val (.ref x58), .val (.ref x59), .unset, .unset] [(.int b5), .null, (.int b4), .null, (.ref x58), (.int b7), (.int b6), (.ref x58), (.ref b60), (.ref b60)]) _
                  refine Go.step (fun _ => XS.aload X60.here hx rfl (hb hby at_147) rfl rfl ) ?_
                  show Go p e below T60 (mkF m 149 #[.val (.int p0), .val (.int p1), .val (.int p2), .val (.int p3), .val (.int b4), .val (.int b5), .val (.int b6), .val (.int b7), .val (.int b8), .val .null, .val .null, .val (.ref x58), .val (.ref x59), .unset, .unset] [(.ref x59), (.int b5), .null, (.int b4), .null, (.ref x58), (.int b7), (.int b6), (.ref x58), (.ref b60), (.ref b60)]) _
                  refine Go.step (fun _ => XS.aload X60.here hx rfl (hb hby at_149) rfl rfl ) ?_
                  show Go p e below T60 (mkF m 151 #[.val (.int p0), .val (.int p1), .val (.int p2), .val (.int p3), .val (.int b4), .val (.int b5), .val (.int b6), .val (.int b7), .val (.int b8), .val .null, .val .null, .val (.ref x58), .val (.ref x59), .unset, .unset] [(.ref x58), (.ref x59), (.int b5), .null, (.int b4), .null, (.ref x58), (.int b7), (.int b6), (.ref x58), (.ref b60), (.ref b60)]) _
                  refine Go.step (fun _ => XS.aconstNull X60.here hx rfl (hb hby at_151)) ?_
                  show Go p e below T60 (mkF m 152 #[.val (.int p0), .val (.int p1), .val (.int p2), .val (.int p3), .val (.int b4), .val (.int b5), .val (.int b6), .val (.int b7), .val (.int b8), .val .null, .val .null, .val (.ref x58), .val (.ref x59), .unset, .unset] [.null, (.ref x58), (.ref x59), (.int b5), .null, (.int b4), .null, (.ref x58), (.int b7), (.int b6), (.ref x58), (.ref b60), (.ref b60)]) _
                  refine Go.step (fun _ => XS.aload X60.here hx rfl (hb hby at_152) rfl rfl ) ?_
                  show Go p e below T60 (mkF m 154 #[.val (.int p0), .val (.int p1), .val (.int p2), .val (.int p3), .val (.int b4), .val (.int b5), .val (.int b6), .val (.int b7), .val (.int b8), .val .null, .val .null, .val (.ref x58), .val (.ref x59), .unset, .unset] [(.ref x58), .null, (.ref x58), (.ref x59), (.int b5), .null, (.int b4), .null, (.ref x58), (.int b7), (.int b6), (.ref x58), (.ref b60), (.ref b60)]) _
                  refine Go.step (fun _ => XS.iload X60.here hx rfl (hb hby at_154) rfl ) ?_
                  show Go p e below T60 (mkF m 156 #[.val (.int p0), .val (.int p1), .val (.int p2), .val (.int p3), .val (.int b4), .val (.int b5), .val (.int b6), .val (.int b7), .val (.int b8), .val .null, .val .null, .val (.ref x58), .val (.ref x59), .unset, .unset] [(.int b8), (.ref x58), .null, (.ref x58), (.ref x59), (.int b5), .null, (.int b4), .null, (.ref x58), (.int b7), (.int b6), (.ref x58), (.ref b60), (.ref b60)]) _
                  obtain ⟨_, _, ⟨T61, L61, k61, n61⟩, -, X61, ⟨Lc61, hQ61, l61, y61, z61⟩, st61⟩ := X60.specialBack hx (y := (⟨"org/linkweave/core/TermDefinition", "<init>", "(Ljava/lang/String;ZZLjava/lang/String;Ljava/util/Set;ZLjava/lang/String;ZLjava/lang/String;Ljava/lang/String;Lorg/linkweave/core/TermDefinition$ScopedContext;Ljava/lang/String;Z)V"⟩ : MethodName)) rfl hown (mvT hZ (hw _ (List.mem_of_getElem? (i := 37) rfl))) (mvT hZ (hw _ (List.mem_of_getElem? (i := 38) rfl))) (mvT hZ (hw _ (List.mem_of_getElem? (i := 39) rfl))) (by decide) (backOf (W := 1) (rmCt l Z a0 hw [] b60 x58 b6 b7 x58 b4 .null b5 (.ref x59) x58 x58 b8 h60 n0 Z60 A60 F_iri_b60 F_prefix_b60 F_reverse_b60 F_typeMapping_b60 F_container_b60 F_hasLanguage_b60 F_language_b60 F_hasDirection_b60 F_direction_b60 F_index_b60 F_scopedContext_b60 F_nest_b60 F_protectedTerm_b60 g_b60 rfl rfl) hZ (hw _ (List.mem_of_getElem? (i := 39) rfl)) (hw _ (List.mem_of_getElem? (i := 36) rfl)) (by decide) (by decide)) (g := (mkF m 156 #[.val (.int p0), .val (.int p1), .val (.int p2), .val (.int p3), .val (.int b4), .val (.int b5), .val (.int b6), .val (.int b7), .val (.int b8), .val .null, .val .null, .val (.ref x58), .val (.ref x59), .unset, .unset] [(.int b8), (.ref x58), .null, (.ref x58), (.ref x59), (.int b5), .null, (.int b4), .null, (.ref x58), (.int b7), (.int b6), (.ref x58), (.ref b60), (.ref b60)])) rfl (by rw [hml]; rfl) (Steps.refl _) (a := b60) (argsL := [(.ref x58), (.int b6), (.int b7), (.ref x58), .null, (.int b4), .null, (.int b5), (.ref x59), (.ref x58), .null, (.ref x58), (.int b8)]) (rest := [(.ref b60)]) (lenOf pd_3 rfl) rfl (by show 2 * 0 + _ ≤ _; exact Nat.le_of_eq rfl) (hb hby at_156) (fun _ _ => ⟨rfl, e60, (by decide : 0 + 3 + 3 + 1 + 0 ≤ _), (by decide : 0 + 8 + 8 + 13 + 0 ≤ _)⟩)
                  dsimp only [Pt.U, Pt.locs, Pt.cells, Pt.slots] at X61 l61 y61 z61 st61 hQ61
                  subst l61 y61 z61
                  obtain ⟨rfl, Nq61, K61, Ex61, FB61, FL61⟩ := hQ61
                  have N61 := Fr.app N59 Nq61
                  refine Go.call st61 ?_
                  have O2_q61 := own_staKeep O2_q60 K61 (allS (own_plainE A60) all0)
                  have A60_q61 := A60.keep K61
                  have Z61 : n0 ≤ T61.heap.size := Nat.le_trans Z60 K61.1
                  show Go p e below T61 (mkF m 159 #[.val (.int p0), .val (.int p1), .val (.int p2), .val (.int p3), .val (.int b4), .val (.int b5), .val (.int b6), .val (.int b7), .val (.int b8), .val .null, .val .null, .val (.ref x58), .val (.ref x59), .unset, .unset] [(.ref b60)]) _
                  refine Go.step (fun _ => XS.astore X61.here hx rfl (hb hby at_159) rfl rfl (l' := #[.val (.int p0), .val (.int p1), .val (.int p2), .val (.int p3), .val (.int b4), .val (.int b5), .val (.int b6), .val (.int b7), .val (.int b8), .val .null, .val .null, .val (.ref x58), .val (.ref x59), .val (.ref b60), .unset]) rfl) ?_
                  show Go p e below T61 (mkF m 161 #[.val (.int p0), .val (.int p1), .val (.int p2), .val (.int p3), .val (.int b4), .val (.int b5), .val (.int b6), .val (.int b7), .val (.int b8), .val .null, .val .null, .val (.ref x58), .val (.ref x59), .val (.ref b60), .unset] []) _
                  refine Go.step (fun _ => XS.aload X61.here hx rfl (hb hby at_161) rfl rfl ) ?_
                  show Go p e below T61 (mkF m 163 #[.val (.int p0), .val (.int p1), .val (.int p2), .val (.int p3), .val (.int b4), .val (.int b5), .val (.int b6), .val (.int b7), .val (.int b8), .val .null, .val .null, .val (.ref x58), .val (.ref x59), .val (.ref b60), .unset] [(.ref b60)]) _
                  refine Go.step (fun _ => XS.aload X61.here hx rfl (hb hby at_163) rfl rfl ) ?_
                  show Go p e below T61 (mkF m 165 #[.val (.int p0), .val (.int p1), .val (.int p2), .val (.int p3), .val (.int b4), .val (.int b5), .val (.int b6), .val (.int b7), .val (.int b8), .val .null, .val .null, .val (.ref x58), .val (.ref x59), .val (.ref b60), .unset] [.null, (.ref b60)]) _
                  rcases hb4 with rfl | rfl
                  · skip
                    obtain ⟨cq62, kq62, q62a, q62b, q62c⟩ := isOf hZ rfl A60_q61
                    obtain ⟨_, _, ⟨T62, L62, k62, n62⟩, -, X62, ⟨Lc62, hQ62, l62, y62, z62⟩, st62⟩ := X61.virtualBack hx (y := (⟨"org/linkweave/core/TermDefinition", "language", "(Ljava/lang/String;)Ljava/lang/String;"⟩ : MethodName)) (z := (⟨"org/linkweave/core/TermDefinition", "language", "(Ljava/lang/String;)Ljava/lang/String;"⟩ : MethodName)) hown (mvT hZ (hw _ (List.mem_of_getElem? (i := 72) rfl))) (mvT hZ (hw _ (List.mem_of_getElem? (i := 73) rfl))) (notFace_of_selects (args := #[]) (mvT hZ (hw _ (List.mem_of_getElem? (i := 75) rfl)))) (mvT hZ (hw _ (List.mem_of_getElem? (i := 75) rfl))) (mvT hZ (hw _ (List.mem_of_getElem? (i := 74) rfl))) (by decide) (backOf (W := 0) (rmLa l Z a0 hw [] b60 .null (nar .boolean (0 : Int32)) .null .null T61.heap n0 Z61 FB61 FL61 rfl rfl (by first | rfl | decide)) hZ (hw _ (List.mem_of_getElem? (i := 76) rfl)) (hw _ (List.mem_of_getElem? (i := 36) rfl)) (by decide) (by decide)) q62a q62c (g := (mkF m 165 #[.val (.int p0), .val (.int p1), .val (.int p2), .val (.int p3), .val (.int (0 : Int32)), .val (.int b5), .val (.int b6), .val (.int b7), .val (.int b8), .val .null, .val .null, .val (.ref x58), .val (.ref x59), .val (.ref b60), .unset] [.null, (.ref b60)])) rfl (by rw [hml]; rfl) (Steps.refl _) (argsL := [.null]) (rest := []) (lenOf pd_4 rfl) rfl (by show 2 * 0 + _ ≤ _; exact Nat.le_of_eq rfl) (hb hby at_165) (fun _ _ => ⟨rfl, rfl, (by decide : 0 + 3 + 3 + 1 + 0 + 0 ≤ _), (by decide : 0 + 8 + 8 + 13 + 0 + 0 ≤ _)⟩)
                    dsimp only [Pt.U, Pt.locs, Pt.cells, Pt.slots] at X62 l62 y62 z62 st62 hQ62
                    subst l62 y62 z62
                    obtain ⟨rfl, Nq62, eh62⟩ := hQ62
                    have N62 := Fr.app N61 Nq62
                    refine Go.call st62 ?_
                    show Go p e below T62 (mkF m 168 #[.val (.int p0), .val (.int p1), .val (.int p2), .val (.int p3), .val (.int (0 : Int32)), .val (.int b5), .val (.int b6), .val (.int b7), .val (.int b8), .val .null, .val .null, .val (.ref x58), .val (.ref x59), .val (.ref b60), .unset] [.null]) _
                    refine Go.step (fun _ => XS.astore X62.here hx rfl (hb hby at_168) rfl rfl (l' := #[.val (.int p0), .val (.int p1), .val (.int p2), .val (.int p3), .val (.int (0 : Int32)), .val (.int b5), .val (.int b6), .val (.int b7), .val (.int b8), .val .null, .val .null, .val (.ref x58), .val (.ref x59), .val (.ref b60), .val .null]) rfl) ?_
                    show Go p e below T62 (mkF m 170 #[.val (.int p0), .val (.int p1), .val (.int p2), .val (.int p3), .val (.int (0 : Int32)), .val (.int b5), .val (.int b6), .val (.int b7), .val (.int b8), .val .null, .val .null, .val (.ref x58), .val (.ref x59), .val (.ref b60), .val .null] []) _
                    refine Go.step (fun _ => XS.iload X62.here hx rfl (hb hby at_170) rfl ) ?_
                    show Go p e below T62 (mkF m 172 #[.val (.int p0), .val (.int p1), .val (.int p2), .val (.int p3), .val (.int (0 : Int32)), .val (.int b5), .val (.int b6), .val (.int b7), .val (.int b8), .val .null, .val .null, .val (.ref x58), .val (.ref x59), .val (.ref b60), .val .null] [(.int (0 : Int32))]) _
                    refine Go.step (fun _ => XS.ifYes X62.here hx rfl (pc0 := 172) (pc' := 188) rfl (hb hby at_172) rfl ((if0 _ _).trans (teq (by decide)).1) (by decide) (by decide)) ?_
                    show Go p e below T62 (mkF m 188 #[.val (.int p0), .val (.int p1), .val (.int p2), .val (.int p3), .val (.int (0 : Int32)), .val (.int b5), .val (.int b6), .val (.int b7), .val (.int b8), .val .null, .val .null, .val (.ref x58), .val (.ref x59), .val (.ref b60), .val .null] []) _
                    refine Go.step (fun _ => XS.aload X62.here hx rfl (hb hby at_188) rfl rfl ) ?_
                    show Go p e below T62 (mkF m 190 #[.val (.int p0), .val (.int p1), .val (.int p2), .val (.int p3), .val (.int (0 : Int32)), .val (.int b5), .val (.int b6), .val (.int b7), .val (.int b8), .val .null, .val .null, .val (.ref x58), .val (.ref x59), .val (.ref b60), .val .null] [.null]) _
                    refine Go.step (fun _ => XS.aload X62.here hx rfl (hb hby at_190) rfl rfl ) ?_
                    show Go p e below T62 (mkF m 192 #[.val (.int p0), .val (.int p1), .val (.int p2), .val (.int p3), .val (.int (0 : Int32)), .val (.int b5), .val (.int b6), .val (.int b7), .val (.int b8), .val .null, .val .null, .val (.ref x58), .val (.ref x59), .val (.ref b60), .val .null] [.null, .null]) _
                    refine Go.step (fun _ => Jvm.RoadKit.acmp (g := (mkF m 192 #[.val (.int p0), .val (.int p1), .val (.int p2), .val (.int p3), .val (.int (0 : Int32)), .val (.int b5), .val (.int b6), .val (.int b7), .val (.int b8), .val .null, .val .null, .val (.ref x58), .val (.ref x59), .val (.ref b60), .val .null] [.null, .null])) X62 hx rfl rfl rfl (pc0 := 192) (pc' := 195) (same := true) rfl (hb hby at_192) rfl (decide_eq_true rfl) (by decide) (by decide)) ?_
                    show Go p e below T62 (mkF m 195 #[.val (.int p0), .val (.int p1), .val (.int p2), .val (.int p3), .val (.int (0 : Int32)), .val (.int b5), .val (.int b6), .val (.int b7), .val (.int b8), .val .null, .val .null, .val (.ref x58), .val (.ref x59), .val (.ref b60), .val .null] []) _
                    refine Go.step (fun _ => XS.iconst X62.here hx rfl (hb hby at_195)) ?_
                    show Go p e below T62 (mkF m 196 #[.val (.int p0), .val (.int p1), .val (.int p2), .val (.int p3), .val (.int (0 : Int32)), .val (.int b5), .val (.int b6), .val (.int b7), .val (.int b8), .val .null, .val .null, .val (.ref x58), .val (.ref x59), .val (.ref b60), .val .null] [(.int (1 : Int32))]) _
                    refine Go.step (fun _ => XS.goto X62.here hx rfl (pc0 := 196) (pc' := 200) rfl (hb hby at_196) (by decide) (by decide)) ?_
                    show Go p e below T62 (mkF m 200 #[.val (.int p0), .val (.int p1), .val (.int p2), .val (.int p3), .val (.int (0 : Int32)), .val (.int b5), .val (.int b6), .val (.int b7), .val (.int b8), .val .null, .val .null, .val (.ref x58), .val (.ref x59), .val (.ref b60), .val .null] [(.int (1 : Int32))]) _
                    refine Go.retN (t := .boolean) (z' := (1 : Int32)) X62 hx hret (by simp) hlk (hb hby at_200) (by decide) ?_ (by decide) (by decide)
                    exact ⟨rfl, N62⟩
                  · skip
                    obtain ⟨cq63, kq63, q63a, q63b, q63c⟩ := isOf hZ rfl A60_q61
                    obtain ⟨_, _, ⟨T63, L63, k63, n63⟩, -, X63, ⟨Lc63, hQ63, l63, y63, z63⟩, st63⟩ := X61.virtualBack hx (y := (⟨"org/linkweave/core/TermDefinition", "language", "(Ljava/lang/String;)Ljava/lang/String;"⟩ : MethodName)) (z := (⟨"org/linkweave/core/TermDefinition", "language", "(Ljava/lang/String;)Ljava/lang/String;"⟩ : MethodName)) hown (mvT hZ (hw _ (List.mem_of_getElem? (i := 72) rfl))) (mvT hZ (hw _ (List.mem_of_getElem? (i := 73) rfl))) (notFace_of_selects (args := #[]) (mvT hZ (hw _ (List.mem_of_getElem? (i := 75) rfl)))) (mvT hZ (hw _ (List.mem_of_getElem? (i := 75) rfl))) (mvT hZ (hw _ (List.mem_of_getElem? (i := 74) rfl))) (by decide) (backOf (W := 0) (rmLa l Z a0 hw [] b60 .null (nar .boolean (1 : Int32)) .null .null T61.heap n0 Z61 FB61 FL61 rfl rfl (by first | rfl | decide)) hZ (hw _ (List.mem_of_getElem? (i := 76) rfl)) (hw _ (List.mem_of_getElem? (i := 36) rfl)) (by decide) (by decide)) q63a q63c (g := (mkF m 165 #[.val (.int p0), .val (.int p1), .val (.int p2), .val (.int p3), .val (.int (1 : Int32)), .val (.int b5), .val (.int b6), .val (.int b7), .val (.int b8), .val .null, .val .null, .val (.ref x58), .val (.ref x59), .val (.ref b60), .unset] [.null, (.ref b60)])) rfl (by rw [hml]; rfl) (Steps.refl _) (argsL := [.null]) (rest := []) (lenOf pd_4 rfl) rfl (by show 2 * 0 + _ ≤ _; exact Nat.le_of_eq rfl) (hb hby at_165) (fun _ _ => ⟨rfl, rfl, (by decide : 0 + 3 + 3 + 1 + 0 + 0 ≤ _), (by decide : 0 + 8 + 8 + 13 + 0 + 0 ≤ _)⟩)
                    dsimp only [Pt.U, Pt.locs, Pt.cells, Pt.slots] at X63 l63 y63 z63 st63 hQ63
                    subst l63 y63 z63
                    obtain ⟨rfl, Nq63, eh63⟩ := hQ63
                    have N63 := Fr.app N61 Nq63
                    refine Go.call st63 ?_
                    show Go p e below T63 (mkF m 168 #[.val (.int p0), .val (.int p1), .val (.int p2), .val (.int p3), .val (.int (1 : Int32)), .val (.int b5), .val (.int b6), .val (.int b7), .val (.int b8), .val .null, .val .null, .val (.ref x58), .val (.ref x59), .val (.ref b60), .unset] [.null]) _
                    refine Go.step (fun _ => XS.astore X63.here hx rfl (hb hby at_168) rfl rfl (l' := #[.val (.int p0), .val (.int p1), .val (.int p2), .val (.int p3), .val (.int (1 : Int32)), .val (.int b5), .val (.int b6), .val (.int b7), .val (.int b8), .val .null, .val .null, .val (.ref x58), .val (.ref x59), .val (.ref b60), .val .null]) rfl) ?_
                    show Go p e below T63 (mkF m 170 #[.val (.int p0), .val (.int p1), .val (.int p2), .val (.int p3), .val (.int (1 : Int32)), .val (.int b5), .val (.int b6), .val (.int b7), .val (.int b8), .val .null, .val .null, .val (.ref x58), .val (.ref x59), .val (.ref b60), .val .null] []) _
                    refine Go.step (fun _ => XS.iload X63.here hx rfl (hb hby at_170) rfl ) ?_
                    show Go p e below T63 (mkF m 172 #[.val (.int p0), .val (.int p1), .val (.int p2), .val (.int p3), .val (.int (1 : Int32)), .val (.int b5), .val (.int b6), .val (.int b7), .val (.int b8), .val .null, .val .null, .val (.ref x58), .val (.ref x59), .val (.ref b60), .val .null] [(.int (1 : Int32))]) _
                    refine Go.step (fun _ => XS.ifNo X63.here hx rfl (hb hby at_172) rfl ((if0 _ _).trans (feq (by decide)).1)) ?_
                    show Go p e below T63 (mkF m 175 #[.val (.int p0), .val (.int p1), .val (.int p2), .val (.int p3), .val (.int (1 : Int32)), .val (.int b5), .val (.int b6), .val (.int b7), .val (.int b8), .val .null, .val .null, .val (.ref x58), .val (.ref x59), .val (.ref b60), .val .null] []) _
                    refine Go.step (fun _ => XS.aload X63.here hx rfl (hb hby at_175) rfl rfl ) ?_
                    show Go p e below T63 (mkF m 177 #[.val (.int p0), .val (.int p1), .val (.int p2), .val (.int p3), .val (.int (1 : Int32)), .val (.int b5), .val (.int b6), .val (.int b7), .val (.int b8), .val .null, .val .null, .val (.ref x58), .val (.ref x59), .val (.ref b60), .val .null] [.null]) _
                    refine Go.step (fun _ => XS.aload X63.here hx rfl (hb hby at_177) rfl rfl ) ?_
                    show Go p e below T63 (mkF m 179 #[.val (.int p0), .val (.int p1), .val (.int p2), .val (.int p3), .val (.int (1 : Int32)), .val (.int b5), .val (.int b6), .val (.int b7), .val (.int b8), .val .null, .val .null, .val (.ref x58), .val (.ref x59), .val (.ref b60), .val .null] [.null, .null]) _
                    refine Go.step (fun _ => Jvm.RoadKit.acmp (g := (mkF m 179 #[.val (.int p0), .val (.int p1), .val (.int p2), .val (.int p3), .val (.int (1 : Int32)), .val (.int b5), .val (.int b6), .val (.int b7), .val (.int b8), .val .null, .val .null, .val (.ref x58), .val (.ref x59), .val (.ref b60), .val .null] [.null, .null])) X63 hx rfl rfl rfl (pc0 := 179) (pc' := 182) (same := true) rfl (hb hby at_179) rfl (decide_eq_true rfl) (by decide) (by decide)) ?_
                    show Go p e below T63 (mkF m 182 #[.val (.int p0), .val (.int p1), .val (.int p2), .val (.int p3), .val (.int (1 : Int32)), .val (.int b5), .val (.int b6), .val (.int b7), .val (.int b8), .val .null, .val .null, .val (.ref x58), .val (.ref x59), .val (.ref b60), .val .null] []) _
                    refine Go.step (fun _ => XS.iconst X63.here hx rfl (hb hby at_182)) ?_
                    show Go p e below T63 (mkF m 183 #[.val (.int p0), .val (.int p1), .val (.int p2), .val (.int p3), .val (.int (1 : Int32)), .val (.int b5), .val (.int b6), .val (.int b7), .val (.int b8), .val .null, .val .null, .val (.ref x58), .val (.ref x59), .val (.ref b60), .val .null] [(.int (1 : Int32))]) _
                    refine Go.step (fun _ => XS.goto X63.here hx rfl (pc0 := 183) (pc' := 187) rfl (hb hby at_183) (by decide) (by decide)) ?_
                    show Go p e below T63 (mkF m 187 #[.val (.int p0), .val (.int p1), .val (.int p2), .val (.int p3), .val (.int (1 : Int32)), .val (.int b5), .val (.int b6), .val (.int b7), .val (.int b8), .val .null, .val .null, .val (.ref x58), .val (.ref x59), .val (.ref b60), .val .null] [(.int (1 : Int32))]) _
                    refine Go.retN (t := .boolean) (z' := (1 : Int32)) X63 hx hret (by simp) hlk (hb hby at_187) (by decide) ?_ (by decide) (by decide)
                    exact ⟨rfl, N63⟩
                · skip
                  refine Go.step (fun _ => XS.ifNo X58.here hx rfl (hb hby at_112) rfl ((if0 _ _).trans (feq hc112).1)) ?_
                  show Go p e below T58 (mkF m 115 #[.val (.int p0), .val (.int p1), .val (.int p2), .val (.int p3), .val (.int b4), .val (.int b5), .val (.int b6), .val (.int b7), .val (.int b8), .val .null, .val .null, .val (.ref x58), .unset, .unset, .unset] []) _
                  refine Go.step (fun _ => XS.aconstNull X58.here hx rfl (hb hby at_115)) ?_
                  show Go p e below T58 (mkF m 116 #[.val (.int p0), .val (.int p1), .val (.int p2), .val (.int p3), .val (.int b4), .val (.int b5), .val (.int b6), .val (.int b7), .val (.int b8), .val .null, .val .null, .val (.ref x58), .unset, .unset, .unset] [.null]) _
                  refine Go.step (fun _ => XS.goto X58.here hx rfl (pc0 := 116) (pc' := 126) rfl (hb hby at_116) (by decide) (by decide)) ?_
                  show Go p e below T58 (mkF m 126 #[.val (.int p0), .val (.int p1), .val (.int p2), .val (.int p3), .val (.int b4), .val (.int b5), .val (.int b6), .val (.int b7), .val (.int b8), .val .null, .val .null, .val (.ref x58), .unset, .unset, .unset] [.null]) _
                  refine Go.step (fun _ => XS.astore X58.here hx rfl (hb hby at_126) rfl rfl (l' := #[.val (.int p0), .val (.int p1), .val (.int p2), .val (.int p3), .val (.int b4), .val (.int b5), .val (.int b6), .val (.int b7), .val (.int b8), .val .null, .val .null, .val (.ref x58), .val .null, .unset, .unset]) rfl) ?_
                  show Go p e below T58 (mkF m 128 #[.val (.int p0), .val (.int p1), .val (.int p2), .val (.int p3), .val (.int b4), .val (.int b5), .val (.int b6), .val (.int b7), .val (.int b8), .val .null, .val .null, .val (.ref x58), .val .null, .unset, .unset] []) _
                  obtain ⟨T64, h64, X64, e64, E64, A64, D64, -, st64⟩ := newO X58 hx hZ hown (hw _ (List.mem_of_getElem? (i := 34) rfl)) (hw _ (List.mem_of_getElem? (i := 35) rfl)) (hw _ (List.mem_of_getElem? (i := 36) rfl)) rfl (g := (mkF m 128 #[.val (.int p0), .val (.int p1), .val (.int p2), .val (.int p3), .val (.int b4), .val (.int b5), .val (.int b6), .val (.int b7), .val (.int b8), .val .null, .val .null, .val (.ref x58), .val .null, .unset, .unset] [])) rfl (hb hby at_128) (by decide) (by decide)
                  obtain ⟨b64, g64⟩ : ∃ z, z = T58.heap.size := ⟨_, rfl⟩
                  rw [← g64] at A64 D64 st64
                  have g_b64 : n0 ≤ b64 := Nat.le_trans Z58 (Nat.le_of_eq g64.symm)
                  have O2_q64 := O2_q58.ext E64
                  have Z64 : n0 ≤ h64.size := Nat.le_trans Z58 E64.1
                  refine Go.step st64 ?_
                  have F_iri_b64 : Fld Z h64 b64 "org/linkweave/core/TermDefinition" "iri" "Ljava/lang/String;" .null := D64 (Or.inr (hw _ (List.mem_of_getElem? (i := 47) rfl))) (ty := (.object "java/lang/String")) (by decide)
                  have F_prefix_b64 : Fld Z h64 b64 "org/linkweave/core/TermDefinition" "prefix" "Z" (.int (0 : Int32)) := D64 (Or.inr (hw _ (List.mem_of_getElem? (i := 49) rfl))) (ty := .boolean) (by decide)
                  have F_reverse_b64 : Fld Z h64 b64 "org/linkweave/core/TermDefinition" "reverse" "Z" (.int (0 : Int32)) := D64 (Or.inr (hw _ (List.mem_of_getElem? (i := 51) rfl))) (ty := .boolean) (by decide)
                  have F_typeMapping_b64 : Fld Z h64 b64 "org/linkweave/core/TermDefinition" "typeMapping" "Ljava/lang/String;" .null := D64 (Or.inr (hw _ (List.mem_of_getElem? (i := 53) rfl))) (ty := (.object "java/lang/String")) (by decide)
                  have F_container_b64 : Fld Z h64 b64 "org/linkweave/core/TermDefinition" "container" "Ljava/util/Set;" .null := D64 (Or.inr (hw _ (List.mem_of_getElem? (i := 55) rfl))) (ty := (.object "java/util/Set")) (by decide)
                  have F_hasLanguage_b64 : Fld Z h64 b64 "org/linkweave/core/TermDefinition" "hasLanguage" "Z" (.int (0 : Int32)) := D64 (Or.inr (hw _ (List.mem_of_getElem? (i := 57) rfl))) (ty := .boolean) (by decide)
                  have F_language_b64 : Fld Z h64 b64 "org/linkweave/core/TermDefinition" "language" "Ljava/lang/String;" .null := D64 (Or.inr (hw _ (List.mem_of_getElem? (i := 59) rfl))) (ty := (.object "java/lang/String")) (by decide)
                  have F_hasDirection_b64 : Fld Z h64 b64 "org/linkweave/core/TermDefinition" "hasDirection" "Z" (.int (0 : Int32)) := D64 (Or.inr (hw _ (List.mem_of_getElem? (i := 61) rfl))) (ty := .boolean) (by decide)
                  have F_direction_b64 : Fld Z h64 b64 "org/linkweave/core/TermDefinition" "direction" "Ljava/lang/String;" .null := D64 (Or.inr (hw _ (List.mem_of_getElem? (i := 63) rfl))) (ty := (.object "java/lang/String")) (by decide)
                  have F_index_b64 : Fld Z h64 b64 "org/linkweave/core/TermDefinition" "index" "Ljava/lang/String;" .null := D64 (Or.inr (hw _ (List.mem_of_getElem? (i := 65) rfl))) (ty := (.object "java/lang/String")) (by decide)
                  have F_scopedContext_b64 : Fld Z h64 b64 "org/linkweave/core/TermDefinition" "scopedContext" "Lorg/linkweave/core/TermDefinition$ScopedContext;" .null := D64 (Or.inr (hw _ (List.mem_of_getElem? (i := 67) rfl))) (ty := (.object "org/linkweave/core/TermDefinition$ScopedContext")) (by decide)
                  have F_nest_b64 : Fld Z h64 b64 "org/linkweave/core/TermDefinition" "nest" "Ljava/lang/String;" .null := D64 (Or.inr (hw _ (List.mem_of_getElem? (i := 69) rfl))) (ty := (.object "java/lang/String")) (by decide)
                  have F_protectedTerm_b64 : Fld Z h64 b64 "org/linkweave/core/TermDefinition" "protectedTerm" "Z" (.int (0 : Int32)) := D64 (Or.inr (hw _ (List.mem_of_getElem? (i := 71) rfl))) (ty := .boolean) (by decide)
                  show Go p e below T64 (mkF m 131 #[.val (.int p0), .val (.int p1), .val (.int p2), .val (.int p3), .val (.int b4), .val (.int b5), .val (.int b6), .val (.int b7), .val (.int b8), .val .null, .val .null, .val (.ref x58), .val .null, .unset, .unset] [(.ref b64)]) _
                  refine Go.step (fun _ => XS.dup X64.here hx rfl (hb hby at_131) rfl rfl) ?_
                  show Go p e below T64 (mkF m 132 #[.val (.int p0), .val (.int p1), .val (.int p2), .val (.int p3), .val (.int b4), .val (.int b5), .val (.int b6), .val (.int b7), .val (.int b8), .val .null, .val .null, .val (.ref x58), .val .null, .unset, .unset] [(.ref b64), (.ref b64)]) _
                  refine Go.step (fun _ => XS.aload X64.here hx rfl (hb hby at_132) rfl rfl ) ?_
                  show Go p e below T64 (mkF m 134 #[.val (.int p0), .val (.int p1), .val (.int p2), .val (.int p3), .val (.int b4), .val (.int b5), .val (.int b6), .val (.int b7), .val (.int b8), .val .null, .val .null, .val (.ref x58), .val .null, .unset, .unset] [(.ref x58), (.ref b64), (.ref b64)]) _
                  refine Go.step (fun _ => XS.iload X64.here hx rfl (hb hby at_134) rfl ) ?_
                  show Go p e below T64 (mkF m 136 #[.val (.int p0), .val (.int p1), .val (.int p2), .val (.int p3), .val (.int b4), .val (.int b5), .val (.int b6), .val (.int b7), .val (.int b8), .val .null, .val .null, .val (.ref x58), .val .null, .unset, .unset] [(.int b6), (.ref x58), (.ref b64), (.ref b64)]) _
                  refine Go.step (fun _ => XS.iload X64.here hx rfl (hb hby at_136) rfl ) ?_
                  show Go p e below T64 (mkF m 138 #[.val (.int p0), .val (.int p1), .val (.int p2), .val (.int p3), .val (.int b4), .val (.int b5), .val (.int b6), .val (.int b7), .val (.int b8), .val .null, .val .null, .val (.ref x58), .val .null, .unset, .unset] [(.int b7), (.int b6), (.ref x58), (.ref b64), (.ref b64)]) _
                  refine Go.step (fun _ => XS.aload X64.here hx rfl (hb hby at_138) rfl rfl ) ?_
                  show Go p e below T64 (mkF m 140 #[.val (.int p0), .val (.int p1), .val (.int p2), .val (.int p3), .val (.int b4), .val (.int b5), .val (.int b6), .val (.int b7), .val (.int b8), .val .null, .val .null, .val (.ref x58), .val .null, .unset, .unset] [(.ref x58), (.int b7), (.int b6), (.ref x58), (.ref b64), (.ref b64)]) _
                  refine Go.step (fun _ => XS.aconstNull X64.here hx rfl (hb hby at_140)) ?_
                  show Go p e below T64 (mkF m 141 #[.val (.int p0), .val (.int p1), .val (.int p2), .val (.int p3), .val (.int b4), .val (.int b5), .val (.int b6), .val (.int b7), .val (.int b8), .val .null, .val .null, .val (.ref x58), .val .null, .unset, .unset] [.null, (.ref x58), (.int b7), (.int b6), (.ref x58), (.ref b64), (.ref b64)]) _
                  refine Go.step (fun _ => XS.iload X64.here hx rfl (hb hby at_141) rfl ) ?_
                  show Go p e below T64 (mkF m 143 #[.val (.int p0), .val (.int p1), .val (.int p2), .val (.int p3), .val (.int b4), .val (.int b5), .val (.int b6), .val (.int b7), .val (.int b8), .val .null, .val .null, .val (.ref x58), .val .null, .unset, .unset] [(.int b4), .null, (.ref x58), (.int b7), (.int b6), (.ref x58), (.ref b64), (.ref b64)]) _
                  refine Go.step (fun _ => XS.aload X64.here hx rfl (hb hby at_143) rfl rfl ) ?_
                  show Go p e below T64 (mkF m 145 #[.val (.int p0), .val (.int p1), .val (.int p2), .val (.int p3), .val (.int b4), .val (.int b5), .val (.int b6), .val (.int b7), .val (.int b8), .val .null, .val .null, .val (.ref x58), .val .null, .unset, .unset] [.null, (.int b4), .null, (.ref x58), (.int b7), (.int b6), (.ref x58), (.ref b64), (.ref b64)]) _
                  refine Go.step (fun _ => XS.iload X64.here hx rfl (hb hby at_145) rfl ) ?_
                  show Go p e below T64 (mkF m 147 #[.val (.int p0), .val (.int p1), .val (.int p2), .val (.int p3), .val (.int b4), .val (.int b5), .val (.int b6), .val (.int b7), .val (.int b8), .val .null, .val .null, .val (.ref x58), .val .null, .unset, .unset] [(.int b5), .null, (.int b4), .null, (.ref x58), (.int b7), (.int b6), (.ref x58), (.ref b64), (.ref b64)]) _
                  refine Go.step (fun _ => XS.aload X64.here hx rfl (hb hby at_147) rfl rfl ) ?_
                  show Go p e below T64 (mkF m 149 #[.val (.int p0), .val (.int p1), .val (.int p2), .val (.int p3), .val (.int b4), .val (.int b5), .val (.int b6), .val (.int b7), .val (.int b8), .val .null, .val .null, .val (.ref x58), .val .null, .unset, .unset] [.null, (.int b5), .null, (.int b4), .null, (.ref x58), (.int b7), (.int b6), (.ref x58), (.ref b64), (.ref b64)]) _
                  refine Go.step (fun _ => XS.aload X64.here hx rfl (hb hby at_149) rfl rfl ) ?_
                  show Go p e below T64 (mkF m 151 #[.val (.int p0), .val (.int p1), .val (.int p2), .val (.int p3), .val (.int b4), .val (.int b5), .val (.int b6), .val (.int b7), .val (.int b8), .val .null, .val .null, .val (.ref x58), .val .null, .unset, .unset] [(.ref x58), .null, (.int b5), .null, (.int b4), .null, (.ref x58), (.int b7), (.int b6), (.ref x58), (.ref b64), (.ref b64)]) _
                  refine Go.step (fun _ => XS.aconstNull X64.here hx rfl (hb hby at_151)) ?_
                  show Go p e below T64 (mkF m 152 #[.val (.int p0), .val (.int p1), .val (.int p2), .val (.int p3), .val (.int b4), .val (.int b5), .val (.int b6), .val (.int b7), .val (.int b8), .val .null, .val .null, .val (.ref x58), .val .null, .unset, .unset] [.null, (.ref x58), .null, (.int b5), .null, (.int b4), .null, (.ref x58), (.int b7), (.int b6), (.ref x58), (.ref b64), (.ref b64)]) _
                  refine Go.step (fun _ => XS.aload X64.here hx rfl (hb hby at_152) rfl rfl ) ?_
                  show Go p e below T64 (mkF m 154 #[.val (.int p0), .val (.int p1), .val (.int p2), .val (.int p3), .val (.int b4), .val (.int b5), .val (.int b6), .val (.int b7), .val (.int b8), .val .null, .val .null, .val (.ref x58), .val .null, .unset, .unset] [(.ref x58), .null, (.ref x58), .null, (.int b5), .null, (.int b4), .null, (.ref x58), (.int b7), (.int b6), (.ref x58), (.ref b64), (.ref b64)]) _
                  refine Go.step (fun _ => XS.iload X64.here hx rfl (hb hby at_154) rfl ) ?_
                  show Go p e below T64 (mkF m 156 #[.val (.int p0), .val (.int p1), .val (.int p2), .val (.int p3), .val (.int b4), .val (.int b5), .val (.int b6), .val (.int b7), .val (.int b8), .val .null, .val .null, .val (.ref x58), .val .null, .unset, .unset] [(.int b8), (.ref x58), .null, (.ref x58), .null, (.int b5), .null, (.int b4), .null, (.ref x58), (.int b7), (.int b6), (.ref x58), (.ref b64), (.ref b64)]) _
                  obtain ⟨_, _, ⟨T65, L65, k65, n65⟩, -, X65, ⟨Lc65, hQ65, l65, y65, z65⟩, st65⟩ := X64.specialBack hx (y := (⟨"org/linkweave/core/TermDefinition", "<init>", "(Ljava/lang/String;ZZLjava/lang/String;Ljava/util/Set;ZLjava/lang/String;ZLjava/lang/String;Ljava/lang/String;Lorg/linkweave/core/TermDefinition$ScopedContext;Ljava/lang/String;Z)V"⟩ : MethodName)) rfl hown (mvT hZ (hw _ (List.mem_of_getElem? (i := 37) rfl))) (mvT hZ (hw _ (List.mem_of_getElem? (i := 38) rfl))) (mvT hZ (hw _ (List.mem_of_getElem? (i := 39) rfl))) (by decide) (backOf (W := 1) (rmCt l Z a0 hw [] b64 x58 b6 b7 x58 b4 .null b5 .null x58 x58 b8 h64 n0 Z64 A64 F_iri_b64 F_prefix_b64 F_reverse_b64 F_typeMapping_b64 F_container_b64 F_hasLanguage_b64 F_language_b64 F_hasDirection_b64 F_direction_b64 F_index_b64 F_scopedContext_b64 F_nest_b64 F_protectedTerm_b64 g_b64 rfl rfl) hZ (hw _ (List.mem_of_getElem? (i := 39) rfl)) (hw _ (List.mem_of_getElem? (i := 36) rfl)) (by decide) (by decide)) (g := (mkF m 156 #[.val (.int p0), .val (.int p1), .val (.int p2), .val (.int p3), .val (.int b4), .val (.int b5), .val (.int b6), .val (.int b7), .val (.int b8), .val .null, .val .null, .val (.ref x58), .val .null, .unset, .unset] [(.int b8), (.ref x58), .null, (.ref x58), .null, (.int b5), .null, (.int b4), .null, (.ref x58), (.int b7), (.int b6), (.ref x58), (.ref b64), (.ref b64)])) rfl (by rw [hml]; rfl) (Steps.refl _) (a := b64) (argsL := [(.ref x58), (.int b6), (.int b7), (.ref x58), .null, (.int b4), .null, (.int b5), .null, (.ref x58), .null, (.ref x58), (.int b8)]) (rest := [(.ref b64)]) (lenOf pd_3 rfl) rfl (by show 2 * 0 + _ ≤ _; exact Nat.le_of_eq rfl) (hb hby at_156) (fun _ _ => ⟨rfl, e64, (by decide : 0 + 3 + 1 + 0 ≤ _), (by decide : 0 + 8 + 13 + 0 ≤ _)⟩)
                  dsimp only [Pt.U, Pt.locs, Pt.cells, Pt.slots] at X65 l65 y65 z65 st65 hQ65
                  subst l65 y65 z65
                  obtain ⟨rfl, Nq65, K65, Ex65, FB65, FL65⟩ := hQ65
                  have N65 := Fr.app N58 Nq65
                  refine Go.call st65 ?_
                  have O2_q65 := own_staKeep O2_q64 K65 (allS (own_plainE A64) all0)
                  have A64_q65 := A64.keep K65
                  have Z65 : n0 ≤ T65.heap.size := Nat.le_trans Z64 K65.1
                  show Go p e below T65 (mkF m 159 #[.val (.int p0), .val (.int p1), .val (.int p2), .val (.int p3), .val (.int b4), .val (.int b5), .val (.int b6), .val (.int b7), .val (.int b8), .val .null, .val .null, .val (.ref x58), .val .null, .unset, .unset] [(.ref b64)]) _
                  refine Go.step (fun _ => XS.astore X65.here hx rfl (hb hby at_159) rfl rfl (l' := #[.val (.int p0), .val (.int p1), .val (.int p2), .val (.int p3), .val (.int b4), .val (.int b5), .val (.int b6), .val (.int b7), .val (.int b8), .val .null, .val .null, .val (.ref x58), .val .null, .val (.ref b64), .unset]) rfl) ?_
                  show Go p e below T65 (mkF m 161 #[.val (.int p0), .val (.int p1), .val (.int p2), .val (.int p3), .val (.int b4), .val (.int b5), .val (.int b6), .val (.int b7), .val (.int b8), .val .null, .val .null, .val (.ref x58), .val .null, .val (.ref b64), .unset] []) _
                  refine Go.step (fun _ => XS.aload X65.here hx rfl (hb hby at_161) rfl rfl ) ?_
                  show Go p e below T65 (mkF m 163 #[.val (.int p0), .val (.int p1), .val (.int p2), .val (.int p3), .val (.int b4), .val (.int b5), .val (.int b6), .val (.int b7), .val (.int b8), .val .null, .val .null, .val (.ref x58), .val .null, .val (.ref b64), .unset] [(.ref b64)]) _
                  refine Go.step (fun _ => XS.aload X65.here hx rfl (hb hby at_163) rfl rfl ) ?_
                  show Go p e below T65 (mkF m 165 #[.val (.int p0), .val (.int p1), .val (.int p2), .val (.int p3), .val (.int b4), .val (.int b5), .val (.int b6), .val (.int b7), .val (.int b8), .val .null, .val .null, .val (.ref x58), .val .null, .val (.ref b64), .unset] [.null, (.ref b64)]) _
                  rcases hb4 with rfl | rfl
                  · skip
                    obtain ⟨cq66, kq66, q66a, q66b, q66c⟩ := isOf hZ rfl A64_q65
                    obtain ⟨_, _, ⟨T66, L66, k66, n66⟩, -, X66, ⟨Lc66, hQ66, l66, y66, z66⟩, st66⟩ := X65.virtualBack hx (y := (⟨"org/linkweave/core/TermDefinition", "language", "(Ljava/lang/String;)Ljava/lang/String;"⟩ : MethodName)) (z := (⟨"org/linkweave/core/TermDefinition", "language", "(Ljava/lang/String;)Ljava/lang/String;"⟩ : MethodName)) hown (mvT hZ (hw _ (List.mem_of_getElem? (i := 72) rfl))) (mvT hZ (hw _ (List.mem_of_getElem? (i := 73) rfl))) (notFace_of_selects (args := #[]) (mvT hZ (hw _ (List.mem_of_getElem? (i := 75) rfl)))) (mvT hZ (hw _ (List.mem_of_getElem? (i := 75) rfl))) (mvT hZ (hw _ (List.mem_of_getElem? (i := 74) rfl))) (by decide) (backOf (W := 0) (rmLa l Z a0 hw [] b64 .null (nar .boolean (0 : Int32)) .null .null T65.heap n0 Z65 FB65 FL65 rfl rfl (by first | rfl | decide)) hZ (hw _ (List.mem_of_getElem? (i := 76) rfl)) (hw _ (List.mem_of_getElem? (i := 36) rfl)) (by decide) (by decide)) q66a q66c (g := (mkF m 165 #[.val (.int p0), .val (.int p1), .val (.int p2), .val (.int p3), .val (.int (0 : Int32)), .val (.int b5), .val (.int b6), .val (.int b7), .val (.int b8), .val .null, .val .null, .val (.ref x58), .val .null, .val (.ref b64), .unset] [.null, (.ref b64)])) rfl (by rw [hml]; rfl) (Steps.refl _) (argsL := [.null]) (rest := []) (lenOf pd_4 rfl) rfl (by show 2 * 0 + _ ≤ _; exact Nat.le_of_eq rfl) (hb hby at_165) (fun _ _ => ⟨rfl, rfl, (by decide : 0 + 3 + 1 + 0 + 0 ≤ _), (by decide : 0 + 8 + 13 + 0 + 0 ≤ _)⟩)
                    dsimp only [Pt.U, Pt.locs, Pt.cells, Pt.slots] at X66 l66 y66 z66 st66 hQ66
                    subst l66 y66 z66
                    obtain ⟨rfl, Nq66, eh66⟩ := hQ66
                    have N66 := Fr.app N65 Nq66
                    refine Go.call st66 ?_
                    show Go p e below T66 (mkF m 168 #[.val (.int p0), .val (.int p1), .val (.int p2), .val (.int p3), .val (.int (0 : Int32)), .val (.int b5), .val (.int b6), .val (.int b7), .val (.int b8), .val .null, .val .null, .val (.ref x58), .val .null, .val (.ref b64), .unset] [.null]) _
                    refine Go.step (fun _ => XS.astore X66.here hx rfl (hb hby at_168) rfl rfl (l' := #[.val (.int p0), .val (.int p1), .val (.int p2), .val (.int p3), .val (.int (0 : Int32)), .val (.int b5), .val (.int b6), .val (.int b7), .val (.int b8), .val .null, .val .null, .val (.ref x58), .val .null, .val (.ref b64), .val .null]) rfl) ?_
                    show Go p e below T66 (mkF m 170 #[.val (.int p0), .val (.int p1), .val (.int p2), .val (.int p3), .val (.int (0 : Int32)), .val (.int b5), .val (.int b6), .val (.int b7), .val (.int b8), .val .null, .val .null, .val (.ref x58), .val .null, .val (.ref b64), .val .null] []) _
                    refine Go.step (fun _ => XS.iload X66.here hx rfl (hb hby at_170) rfl ) ?_
                    show Go p e below T66 (mkF m 172 #[.val (.int p0), .val (.int p1), .val (.int p2), .val (.int p3), .val (.int (0 : Int32)), .val (.int b5), .val (.int b6), .val (.int b7), .val (.int b8), .val .null, .val .null, .val (.ref x58), .val .null, .val (.ref b64), .val .null] [(.int (0 : Int32))]) _
                    refine Go.step (fun _ => XS.ifYes X66.here hx rfl (pc0 := 172) (pc' := 188) rfl (hb hby at_172) rfl ((if0 _ _).trans (teq (by decide)).1) (by decide) (by decide)) ?_
                    show Go p e below T66 (mkF m 188 #[.val (.int p0), .val (.int p1), .val (.int p2), .val (.int p3), .val (.int (0 : Int32)), .val (.int b5), .val (.int b6), .val (.int b7), .val (.int b8), .val .null, .val .null, .val (.ref x58), .val .null, .val (.ref b64), .val .null] []) _
                    refine Go.step (fun _ => XS.aload X66.here hx rfl (hb hby at_188) rfl rfl ) ?_
                    show Go p e below T66 (mkF m 190 #[.val (.int p0), .val (.int p1), .val (.int p2), .val (.int p3), .val (.int (0 : Int32)), .val (.int b5), .val (.int b6), .val (.int b7), .val (.int b8), .val .null, .val .null, .val (.ref x58), .val .null, .val (.ref b64), .val .null] [.null]) _
                    refine Go.step (fun _ => XS.aload X66.here hx rfl (hb hby at_190) rfl rfl ) ?_
                    show Go p e below T66 (mkF m 192 #[.val (.int p0), .val (.int p1), .val (.int p2), .val (.int p3), .val (.int (0 : Int32)), .val (.int b5), .val (.int b6), .val (.int b7), .val (.int b8), .val .null, .val .null, .val (.ref x58), .val .null, .val (.ref b64), .val .null] [.null, .null]) _
                    refine Go.step (fun _ => Jvm.RoadKit.acmp (g := (mkF m 192 #[.val (.int p0), .val (.int p1), .val (.int p2), .val (.int p3), .val (.int (0 : Int32)), .val (.int b5), .val (.int b6), .val (.int b7), .val (.int b8), .val .null, .val .null, .val (.ref x58), .val .null, .val (.ref b64), .val .null] [.null, .null])) X66 hx rfl rfl rfl (pc0 := 192) (pc' := 195) (same := true) rfl (hb hby at_192) rfl (decide_eq_true rfl) (by decide) (by decide)) ?_
                    show Go p e below T66 (mkF m 195 #[.val (.int p0), .val (.int p1), .val (.int p2), .val (.int p3), .val (.int (0 : Int32)), .val (.int b5), .val (.int b6), .val (.int b7), .val (.int b8), .val .null, .val .null, .val (.ref x58), .val .null, .val (.ref b64), .val .null] []) _
                    refine Go.step (fun _ => XS.iconst X66.here hx rfl (hb hby at_195)) ?_
                    show Go p e below T66 (mkF m 196 #[.val (.int p0), .val (.int p1), .val (.int p2), .val (.int p3), .val (.int (0 : Int32)), .val (.int b5), .val (.int b6), .val (.int b7), .val (.int b8), .val .null, .val .null, .val (.ref x58), .val .null, .val (.ref b64), .val .null] [(.int (1 : Int32))]) _
                    refine Go.step (fun _ => XS.goto X66.here hx rfl (pc0 := 196) (pc' := 200) rfl (hb hby at_196) (by decide) (by decide)) ?_
                    show Go p e below T66 (mkF m 200 #[.val (.int p0), .val (.int p1), .val (.int p2), .val (.int p3), .val (.int (0 : Int32)), .val (.int b5), .val (.int b6), .val (.int b7), .val (.int b8), .val .null, .val .null, .val (.ref x58), .val .null, .val (.ref b64), .val .null] [(.int (1 : Int32))]) _
                    refine Go.retN (t := .boolean) (z' := (1 : Int32)) X66 hx hret (by simp) hlk (hb hby at_200) (by decide) ?_ (by decide) (by decide)
                    exact ⟨rfl, N66⟩
                  · skip
                    obtain ⟨cq67, kq67, q67a, q67b, q67c⟩ := isOf hZ rfl A64_q65
                    obtain ⟨_, _, ⟨T67, L67, k67, n67⟩, -, X67, ⟨Lc67, hQ67, l67, y67, z67⟩, st67⟩ := X65.virtualBack hx (y := (⟨"org/linkweave/core/TermDefinition", "language", "(Ljava/lang/String;)Ljava/lang/String;"⟩ : MethodName)) (z := (⟨"org/linkweave/core/TermDefinition", "language", "(Ljava/lang/String;)Ljava/lang/String;"⟩ : MethodName)) hown (mvT hZ (hw _ (List.mem_of_getElem? (i := 72) rfl))) (mvT hZ (hw _ (List.mem_of_getElem? (i := 73) rfl))) (notFace_of_selects (args := #[]) (mvT hZ (hw _ (List.mem_of_getElem? (i := 75) rfl)))) (mvT hZ (hw _ (List.mem_of_getElem? (i := 75) rfl))) (mvT hZ (hw _ (List.mem_of_getElem? (i := 74) rfl))) (by decide) (backOf (W := 0) (rmLa l Z a0 hw [] b64 .null (nar .boolean (1 : Int32)) .null .null T65.heap n0 Z65 FB65 FL65 rfl rfl (by first | rfl | decide)) hZ (hw _ (List.mem_of_getElem? (i := 76) rfl)) (hw _ (List.mem_of_getElem? (i := 36) rfl)) (by decide) (by decide)) q67a q67c (g := (mkF m 165 #[.val (.int p0), .val (.int p1), .val (.int p2), .val (.int p3), .val (.int (1 : Int32)), .val (.int b5), .val (.int b6), .val (.int b7), .val (.int b8), .val .null, .val .null, .val (.ref x58), .val .null, .val (.ref b64), .unset] [.null, (.ref b64)])) rfl (by rw [hml]; rfl) (Steps.refl _) (argsL := [.null]) (rest := []) (lenOf pd_4 rfl) rfl (by show 2 * 0 + _ ≤ _; exact Nat.le_of_eq rfl) (hb hby at_165) (fun _ _ => ⟨rfl, rfl, (by decide : 0 + 3 + 1 + 0 + 0 ≤ _), (by decide : 0 + 8 + 13 + 0 + 0 ≤ _)⟩)
                    dsimp only [Pt.U, Pt.locs, Pt.cells, Pt.slots] at X67 l67 y67 z67 st67 hQ67
                    subst l67 y67 z67
                    obtain ⟨rfl, Nq67, eh67⟩ := hQ67
                    have N67 := Fr.app N65 Nq67
                    refine Go.call st67 ?_
                    show Go p e below T67 (mkF m 168 #[.val (.int p0), .val (.int p1), .val (.int p2), .val (.int p3), .val (.int (1 : Int32)), .val (.int b5), .val (.int b6), .val (.int b7), .val (.int b8), .val .null, .val .null, .val (.ref x58), .val .null, .val (.ref b64), .unset] [.null]) _
                    refine Go.step (fun _ => XS.astore X67.here hx rfl (hb hby at_168) rfl rfl (l' := #[.val (.int p0), .val (.int p1), .val (.int p2), .val (.int p3), .val (.int (1 : Int32)), .val (.int b5), .val (.int b6), .val (.int b7), .val (.int b8), .val .null, .val .null, .val (.ref x58), .val .null, .val (.ref b64), .val .null]) rfl) ?_
                    show Go p e below T67 (mkF m 170 #[.val (.int p0), .val (.int p1), .val (.int p2), .val (.int p3), .val (.int (1 : Int32)), .val (.int b5), .val (.int b6), .val (.int b7), .val (.int b8), .val .null, .val .null, .val (.ref x58), .val .null, .val (.ref b64), .val .null] []) _
                    refine Go.step (fun _ => XS.iload X67.here hx rfl (hb hby at_170) rfl ) ?_
                    show Go p e below T67 (mkF m 172 #[.val (.int p0), .val (.int p1), .val (.int p2), .val (.int p3), .val (.int (1 : Int32)), .val (.int b5), .val (.int b6), .val (.int b7), .val (.int b8), .val .null, .val .null, .val (.ref x58), .val .null, .val (.ref b64), .val .null] [(.int (1 : Int32))]) _
                    refine Go.step (fun _ => XS.ifNo X67.here hx rfl (hb hby at_172) rfl ((if0 _ _).trans (feq (by decide)).1)) ?_
                    show Go p e below T67 (mkF m 175 #[.val (.int p0), .val (.int p1), .val (.int p2), .val (.int p3), .val (.int (1 : Int32)), .val (.int b5), .val (.int b6), .val (.int b7), .val (.int b8), .val .null, .val .null, .val (.ref x58), .val .null, .val (.ref b64), .val .null] []) _
                    refine Go.step (fun _ => XS.aload X67.here hx rfl (hb hby at_175) rfl rfl ) ?_
                    show Go p e below T67 (mkF m 177 #[.val (.int p0), .val (.int p1), .val (.int p2), .val (.int p3), .val (.int (1 : Int32)), .val (.int b5), .val (.int b6), .val (.int b7), .val (.int b8), .val .null, .val .null, .val (.ref x58), .val .null, .val (.ref b64), .val .null] [.null]) _
                    refine Go.step (fun _ => XS.aload X67.here hx rfl (hb hby at_177) rfl rfl ) ?_
                    show Go p e below T67 (mkF m 179 #[.val (.int p0), .val (.int p1), .val (.int p2), .val (.int p3), .val (.int (1 : Int32)), .val (.int b5), .val (.int b6), .val (.int b7), .val (.int b8), .val .null, .val .null, .val (.ref x58), .val .null, .val (.ref b64), .val .null] [.null, .null]) _
                    refine Go.step (fun _ => Jvm.RoadKit.acmp (g := (mkF m 179 #[.val (.int p0), .val (.int p1), .val (.int p2), .val (.int p3), .val (.int (1 : Int32)), .val (.int b5), .val (.int b6), .val (.int b7), .val (.int b8), .val .null, .val .null, .val (.ref x58), .val .null, .val (.ref b64), .val .null] [.null, .null])) X67 hx rfl rfl rfl (pc0 := 179) (pc' := 182) (same := true) rfl (hb hby at_179) rfl (decide_eq_true rfl) (by decide) (by decide)) ?_
                    show Go p e below T67 (mkF m 182 #[.val (.int p0), .val (.int p1), .val (.int p2), .val (.int p3), .val (.int (1 : Int32)), .val (.int b5), .val (.int b6), .val (.int b7), .val (.int b8), .val .null, .val .null, .val (.ref x58), .val .null, .val (.ref b64), .val .null] []) _
                    refine Go.step (fun _ => XS.iconst X67.here hx rfl (hb hby at_182)) ?_
                    show Go p e below T67 (mkF m 183 #[.val (.int p0), .val (.int p1), .val (.int p2), .val (.int p3), .val (.int (1 : Int32)), .val (.int b5), .val (.int b6), .val (.int b7), .val (.int b8), .val .null, .val .null, .val (.ref x58), .val .null, .val (.ref b64), .val .null] [(.int (1 : Int32))]) _
                    refine Go.step (fun _ => XS.goto X67.here hx rfl (pc0 := 183) (pc' := 187) rfl (hb hby at_183) (by decide) (by decide)) ?_
                    show Go p e below T67 (mkF m 187 #[.val (.int p0), .val (.int p1), .val (.int p2), .val (.int p3), .val (.int (1 : Int32)), .val (.int b5), .val (.int b6), .val (.int b7), .val (.int b8), .val .null, .val .null, .val (.ref x58), .val .null, .val (.ref b64), .val .null] [(.int (1 : Int32))]) _
                    refine Go.retN (t := .boolean) (z' := (1 : Int32)) X67 hx hret (by simp) hlk (hb hby at_187) (by decide) ?_ (by decide) (by decide)
                    exact ⟨rfl, N67⟩
          show Go p e below s₁ (mkF m 54 #[.val (.int p0), .val (.int p1), .val (.int p2), .val (.int p3), .val (.int b4), .val (.int b5), .val (.int b6), .val (.int b7), .unset, .unset, .unset, .unset, .unset, .unset, .unset] [(.int p0)]) _
          refine Go.step (fun _ => XS.bipush X0.here hx rfl (hb hby at_54)) ?_
          show Go p e below s₁ (mkF m 56 #[.val (.int p0), .val (.int p1), .val (.int p2), .val (.int p3), .val (.int b4), .val (.int b5), .val (.int b6), .val (.int b7), .unset, .unset, .unset, .unset, .unset, .unset, .unset] [(.int (16 : Int32)), (.int p0)]) _
          refine Go.step (fun _ => XS.iand X0.here hx rfl (hb hby at_56) rfl) ?_
          show Go p e below s₁ (mkF m 57 #[.val (.int p0), .val (.int p1), .val (.int p2), .val (.int p3), .val (.int b4), .val (.int b5), .val (.int b6), .val (.int b7), .unset, .unset, .unset, .unset, .unset, .unset, .unset] [(.int (p0 &&& (16 : Int32)))]) _
          by_cases hc57 : (p0 &&& (16 : Int32)) = (0 : Int32)
          · skip
            refine Go.step (fun _ => XS.ifYes X0.here hx rfl (pc0 := 57) (pc' := 64) rfl (hb hby at_57) rfl ((if0 _ _).trans (teq hc57).1) (by decide) (by decide)) ?_
            show Go p e below s₁ (mkF m 64 #[.val (.int p0), .val (.int p1), .val (.int p2), .val (.int p3), .val (.int b4), .val (.int b5), .val (.int b6), .val (.int b7), .unset, .unset, .unset, .unset, .unset, .unset, .unset] []) _
            refine Go.step (fun _ => XS.iconst X0.here hx rfl (hb hby at_64)) ?_
            show Go p e below s₁ (mkF m 65 #[.val (.int p0), .val (.int p1), .val (.int p2), .val (.int p3), .val (.int b4), .val (.int b5), .val (.int b6), .val (.int b7), .unset, .unset, .unset, .unset, .unset, .unset, .unset] [(.int (0 : Int32))]) _
            exact J65 _ (Or.inl rfl)
          · skip
            refine Go.step (fun _ => XS.ifNo X0.here hx rfl (hb hby at_57) rfl ((if0 _ _).trans (feq hc57).1)) ?_
            show Go p e below s₁ (mkF m 60 #[.val (.int p0), .val (.int p1), .val (.int p2), .val (.int p3), .val (.int b4), .val (.int b5), .val (.int b6), .val (.int b7), .unset, .unset, .unset, .unset, .unset, .unset, .unset] []) _
            refine Go.step (fun _ => XS.iconst X0.here hx rfl (hb hby at_60)) ?_
            show Go p e below s₁ (mkF m 61 #[.val (.int p0), .val (.int p1), .val (.int p2), .val (.int p3), .val (.int b4), .val (.int b5), .val (.int b6), .val (.int b7), .unset, .unset, .unset, .unset, .unset, .unset, .unset] [(.int (1 : Int32))]) _
            refine Go.step (fun _ => XS.goto X0.here hx rfl (pc0 := 61) (pc' := 65) rfl (hb hby at_61) (by decide) (by decide)) ?_
            show Go p e below s₁ (mkF m 65 #[.val (.int p0), .val (.int p1), .val (.int p2), .val (.int p3), .val (.int b4), .val (.int b5), .val (.int b6), .val (.int b7), .unset, .unset, .unset, .unset, .unset, .unset, .unset] [(.int (1 : Int32))]) _
            exact J65 _ (Or.inr rfl)
        show Go p e below s₁ (mkF m 40 #[.val (.int p0), .val (.int p1), .val (.int p2), .val (.int p3), .val (.int b4), .val (.int b5), .val (.int b6), .unset, .unset, .unset, .unset, .unset, .unset, .unset, .unset] [(.int p0)]) _
        refine Go.step (fun _ => XS.bipush X0.here hx rfl (hb hby at_40)) ?_
        show Go p e below s₁ (mkF m 42 #[.val (.int p0), .val (.int p1), .val (.int p2), .val (.int p3), .val (.int b4), .val (.int b5), .val (.int b6), .unset, .unset, .unset, .unset, .unset, .unset, .unset, .unset] [(.int (8 : Int32)), (.int p0)]) _
        refine Go.step (fun _ => XS.iand X0.here hx rfl (hb hby at_42) rfl) ?_
        show Go p e below s₁ (mkF m 43 #[.val (.int p0), .val (.int p1), .val (.int p2), .val (.int p3), .val (.int b4), .val (.int b5), .val (.int b6), .unset, .unset, .unset, .unset, .unset, .unset, .unset, .unset] [(.int (p0 &&& (8 : Int32)))]) _
        by_cases hc43 : (p0 &&& (8 : Int32)) = (0 : Int32)
        · skip
          refine Go.step (fun _ => XS.ifYes X0.here hx rfl (pc0 := 43) (pc' := 50) rfl (hb hby at_43) rfl ((if0 _ _).trans (teq hc43).1) (by decide) (by decide)) ?_
          show Go p e below s₁ (mkF m 50 #[.val (.int p0), .val (.int p1), .val (.int p2), .val (.int p3), .val (.int b4), .val (.int b5), .val (.int b6), .unset, .unset, .unset, .unset, .unset, .unset, .unset, .unset] []) _
          refine Go.step (fun _ => XS.iconst X0.here hx rfl (hb hby at_50)) ?_
          show Go p e below s₁ (mkF m 51 #[.val (.int p0), .val (.int p1), .val (.int p2), .val (.int p3), .val (.int b4), .val (.int b5), .val (.int b6), .unset, .unset, .unset, .unset, .unset, .unset, .unset, .unset] [(.int (0 : Int32))]) _
          exact J51 _ (Or.inl rfl)
        · skip
          refine Go.step (fun _ => XS.ifNo X0.here hx rfl (hb hby at_43) rfl ((if0 _ _).trans (feq hc43).1)) ?_
          show Go p e below s₁ (mkF m 46 #[.val (.int p0), .val (.int p1), .val (.int p2), .val (.int p3), .val (.int b4), .val (.int b5), .val (.int b6), .unset, .unset, .unset, .unset, .unset, .unset, .unset, .unset] []) _
          refine Go.step (fun _ => XS.iconst X0.here hx rfl (hb hby at_46)) ?_
          show Go p e below s₁ (mkF m 47 #[.val (.int p0), .val (.int p1), .val (.int p2), .val (.int p3), .val (.int b4), .val (.int b5), .val (.int b6), .unset, .unset, .unset, .unset, .unset, .unset, .unset, .unset] [(.int (1 : Int32))]) _
          refine Go.step (fun _ => XS.goto X0.here hx rfl (pc0 := 47) (pc' := 51) rfl (hb hby at_47) (by decide) (by decide)) ?_
          show Go p e below s₁ (mkF m 51 #[.val (.int p0), .val (.int p1), .val (.int p2), .val (.int p3), .val (.int b4), .val (.int b5), .val (.int b6), .unset, .unset, .unset, .unset, .unset, .unset, .unset, .unset] [(.int (1 : Int32))]) _
          exact J51 _ (Or.inr rfl)
      show Go p e below s₁ (mkF m 27 #[.val (.int p0), .val (.int p1), .val (.int p2), .val (.int p3), .val (.int b4), .val (.int b5), .unset, .unset, .unset, .unset, .unset, .unset, .unset, .unset, .unset] [(.int p0)]) _
      refine Go.step (fun _ => XS.iconst X0.here hx rfl (hb hby at_27)) ?_
      show Go p e below s₁ (mkF m 28 #[.val (.int p0), .val (.int p1), .val (.int p2), .val (.int p3), .val (.int b4), .val (.int b5), .unset, .unset, .unset, .unset, .unset, .unset, .unset, .unset, .unset] [(.int (4 : Int32)), (.int p0)]) _
      refine Go.step (fun _ => XS.iand X0.here hx rfl (hb hby at_28) rfl) ?_
      show Go p e below s₁ (mkF m 29 #[.val (.int p0), .val (.int p1), .val (.int p2), .val (.int p3), .val (.int b4), .val (.int b5), .unset, .unset, .unset, .unset, .unset, .unset, .unset, .unset, .unset] [(.int (p0 &&& (4 : Int32)))]) _
      by_cases hc29 : (p0 &&& (4 : Int32)) = (0 : Int32)
      · skip
        refine Go.step (fun _ => XS.ifYes X0.here hx rfl (pc0 := 29) (pc' := 36) rfl (hb hby at_29) rfl ((if0 _ _).trans (teq hc29).1) (by decide) (by decide)) ?_
        show Go p e below s₁ (mkF m 36 #[.val (.int p0), .val (.int p1), .val (.int p2), .val (.int p3), .val (.int b4), .val (.int b5), .unset, .unset, .unset, .unset, .unset, .unset, .unset, .unset, .unset] []) _
        refine Go.step (fun _ => XS.iconst X0.here hx rfl (hb hby at_36)) ?_
        show Go p e below s₁ (mkF m 37 #[.val (.int p0), .val (.int p1), .val (.int p2), .val (.int p3), .val (.int b4), .val (.int b5), .unset, .unset, .unset, .unset, .unset, .unset, .unset, .unset, .unset] [(.int (0 : Int32))]) _
        exact J37 _ (Or.inl rfl)
      · skip
        refine Go.step (fun _ => XS.ifNo X0.here hx rfl (hb hby at_29) rfl ((if0 _ _).trans (feq hc29).1)) ?_
        show Go p e below s₁ (mkF m 32 #[.val (.int p0), .val (.int p1), .val (.int p2), .val (.int p3), .val (.int b4), .val (.int b5), .unset, .unset, .unset, .unset, .unset, .unset, .unset, .unset, .unset] []) _
        refine Go.step (fun _ => XS.iconst X0.here hx rfl (hb hby at_32)) ?_
        show Go p e below s₁ (mkF m 33 #[.val (.int p0), .val (.int p1), .val (.int p2), .val (.int p3), .val (.int b4), .val (.int b5), .unset, .unset, .unset, .unset, .unset, .unset, .unset, .unset, .unset] [(.int (1 : Int32))]) _
        refine Go.step (fun _ => XS.goto X0.here hx rfl (pc0 := 33) (pc' := 37) rfl (hb hby at_33) (by decide) (by decide)) ?_
        show Go p e below s₁ (mkF m 37 #[.val (.int p0), .val (.int p1), .val (.int p2), .val (.int p3), .val (.int b4), .val (.int b5), .unset, .unset, .unset, .unset, .unset, .unset, .unset, .unset, .unset] [(.int (1 : Int32))]) _
        exact J37 _ (Or.inr rfl)
    show Go p e below s₁ (mkF m 14 #[.val (.int p0), .val (.int p1), .val (.int p2), .val (.int p3), .val (.int b4), .unset, .unset, .unset, .unset, .unset, .unset, .unset, .unset, .unset, .unset] [(.int p0)]) _
    refine Go.step (fun _ => XS.iconst X0.here hx rfl (hb hby at_14)) ?_
    show Go p e below s₁ (mkF m 15 #[.val (.int p0), .val (.int p1), .val (.int p2), .val (.int p3), .val (.int b4), .unset, .unset, .unset, .unset, .unset, .unset, .unset, .unset, .unset, .unset] [(.int (2 : Int32)), (.int p0)]) _
    refine Go.step (fun _ => XS.iand X0.here hx rfl (hb hby at_15) rfl) ?_
    show Go p e below s₁ (mkF m 16 #[.val (.int p0), .val (.int p1), .val (.int p2), .val (.int p3), .val (.int b4), .unset, .unset, .unset, .unset, .unset, .unset, .unset, .unset, .unset, .unset] [(.int (p0 &&& (2 : Int32)))]) _
    by_cases hc16 : (p0 &&& (2 : Int32)) = (0 : Int32)
    · skip
      refine Go.step (fun _ => XS.ifYes X0.here hx rfl (pc0 := 16) (pc' := 23) rfl (hb hby at_16) rfl ((if0 _ _).trans (teq hc16).1) (by decide) (by decide)) ?_
      show Go p e below s₁ (mkF m 23 #[.val (.int p0), .val (.int p1), .val (.int p2), .val (.int p3), .val (.int b4), .unset, .unset, .unset, .unset, .unset, .unset, .unset, .unset, .unset, .unset] []) _
      refine Go.step (fun _ => XS.iconst X0.here hx rfl (hb hby at_23)) ?_
      show Go p e below s₁ (mkF m 24 #[.val (.int p0), .val (.int p1), .val (.int p2), .val (.int p3), .val (.int b4), .unset, .unset, .unset, .unset, .unset, .unset, .unset, .unset, .unset, .unset] [(.int (0 : Int32))]) _
      exact J24 _ (Or.inl rfl)
    · skip
      refine Go.step (fun _ => XS.ifNo X0.here hx rfl (hb hby at_16) rfl ((if0 _ _).trans (feq hc16).1)) ?_
      show Go p e below s₁ (mkF m 19 #[.val (.int p0), .val (.int p1), .val (.int p2), .val (.int p3), .val (.int b4), .unset, .unset, .unset, .unset, .unset, .unset, .unset, .unset, .unset, .unset] []) _
      refine Go.step (fun _ => XS.iconst X0.here hx rfl (hb hby at_19)) ?_
      show Go p e below s₁ (mkF m 20 #[.val (.int p0), .val (.int p1), .val (.int p2), .val (.int p3), .val (.int b4), .unset, .unset, .unset, .unset, .unset, .unset, .unset, .unset, .unset, .unset] [(.int (1 : Int32))]) _
      refine Go.step (fun _ => XS.goto X0.here hx rfl (pc0 := 20) (pc' := 24) rfl (hb hby at_20) (by decide) (by decide)) ?_
      show Go p e below s₁ (mkF m 24 #[.val (.int p0), .val (.int p1), .val (.int p2), .val (.int p3), .val (.int b4), .unset, .unset, .unset, .unset, .unset, .unset, .unset, .unset, .unset, .unset] [(.int (1 : Int32))]) _
      exact J24 _ (Or.inr rfl)
  show Go p e below s₁ (mkF m 1 #[.val (.int p0), .val (.int p1), .val (.int p2), .val (.int p3), .unset, .unset, .unset, .unset, .unset, .unset, .unset, .unset, .unset, .unset, .unset] [(.int p0)]) _
  refine Go.step (fun _ => XS.iconst X0.here hx rfl (hb hby at_1)) ?_
  show Go p e below s₁ (mkF m 2 #[.val (.int p0), .val (.int p1), .val (.int p2), .val (.int p3), .unset, .unset, .unset, .unset, .unset, .unset, .unset, .unset, .unset, .unset, .unset] [(.int (1 : Int32)), (.int p0)]) _
  refine Go.step (fun _ => XS.iand X0.here hx rfl (hb hby at_2) rfl) ?_
  show Go p e below s₁ (mkF m 3 #[.val (.int p0), .val (.int p1), .val (.int p2), .val (.int p3), .unset, .unset, .unset, .unset, .unset, .unset, .unset, .unset, .unset, .unset, .unset] [(.int (p0 &&& (1 : Int32)))]) _
  by_cases hc3 : (p0 &&& (1 : Int32)) = (0 : Int32)
  · skip
    refine Go.step (fun _ => XS.ifYes X0.here hx rfl (pc0 := 3) (pc' := 10) rfl (hb hby at_3) rfl ((if0 _ _).trans (teq hc3).1) (by decide) (by decide)) ?_
    show Go p e below s₁ (mkF m 10 #[.val (.int p0), .val (.int p1), .val (.int p2), .val (.int p3), .unset, .unset, .unset, .unset, .unset, .unset, .unset, .unset, .unset, .unset, .unset] []) _
    refine Go.step (fun _ => XS.iconst X0.here hx rfl (hb hby at_10)) ?_
    show Go p e below s₁ (mkF m 11 #[.val (.int p0), .val (.int p1), .val (.int p2), .val (.int p3), .unset, .unset, .unset, .unset, .unset, .unset, .unset, .unset, .unset, .unset, .unset] [(.int (0 : Int32))]) _
    exact J11 _ (Or.inl rfl)
  · skip
    refine Go.step (fun _ => XS.ifNo X0.here hx rfl (hb hby at_3) rfl ((if0 _ _).trans (feq hc3).1)) ?_
    show Go p e below s₁ (mkF m 6 #[.val (.int p0), .val (.int p1), .val (.int p2), .val (.int p3), .unset, .unset, .unset, .unset, .unset, .unset, .unset, .unset, .unset, .unset, .unset] []) _
    refine Go.step (fun _ => XS.iconst X0.here hx rfl (hb hby at_6)) ?_
    show Go p e below s₁ (mkF m 7 #[.val (.int p0), .val (.int p1), .val (.int p2), .val (.int p3), .unset, .unset, .unset, .unset, .unset, .unset, .unset, .unset, .unset, .unset, .unset] [(.int (1 : Int32))]) _
    refine Go.step (fun _ => XS.goto X0.here hx rfl (pc0 := 7) (pc' := 11) rfl (hb hby at_7) (by decide) (by decide)) ?_
    show Go p e below s₁ (mkF m 11 #[.val (.int p0), .val (.int p1), .val (.int p2), .val (.int p3), .unset, .unset, .unset, .unset, .unset, .unset, .unset, .unset, .unset, .unset, .unset] [(.int (1 : Int32))]) _
    exact J11 _ (Or.inr rfl)
set_option maxRecDepth 65536 in
set_option maxHeartbeats 40000000 in
theorem comes_1 {Post : Tables → Env → Array Value → State → Outcome → State → Prop} (hpost : ∀ tb e args s v u, (limb_1_1.after args s (.returned v) u = true ∧ limb_1_2.after args s (.returned v) u = true ∧ True) → FrameEnd s (.returned v) u (Jvm.fieldLocs frame_1_writes args s ++ Jvm.arrayLocs frame_1_arrays args s ++ Jvm.staticLocs frame_1_statics s) 40 192 → Post tb e args s (.returned v) u) :
    ArmFor flags0 classFile x code maxLocals ret World_1 tables_1 room_1 Calls_1 rest_1 Pre_1 Post := by
  intro l hfl _ _ p e ha hc hk s m args below hf hA hF happ hP
  obtain ⟨hcalls, hrest, hpre⟩ := hP
  obtain ⟨-, -, -, hnamed, -, -, -, hat⟩ := (Spec.applies_iff hf).mp happ
  obtain ⟨hg, hn⟩ := and_e (Cond.before_iff.mp (show (Jvm.Cond.and given_1 narrow_1).before args s = true from hpre))
  obtain ⟨g1, g2⟩ := and_e hg
  obtain ⟨g3, g4⟩ := and_e g2
  obtain ⟨g5, g6⟩ := and_e g4
  obtain ⟨g7, g8⟩ := and_e g6
  obtain ⟨w0, w1, w2, w3, rfl⟩ : ∃ w0 w1 w2 w3 : Value, args = #[w0, w1, w2, w3] := by
    have hs : args.size = 4 := by simpa [Cond.value, given_1] using g1
    obtain ⟨L⟩ := args
    match L, hs with
    | [w0, w1, w2, w3], _ => exact ⟨w0, w1, w2, w3, rfl⟩
  have hw := fun d (hd : d ∈ tables_1) => atoms_spec (ws := Jvm.Cond.code x code maxLocals ret :: tables_1) hat d (List.mem_cons_of_mem _ hd)
  have hfit : Fit s := fun {y c} hc i hi => by
    obtain ⟨ha, rfl⟩ := Array.getElem?_eq_some_iff.mp hc
    have q := List.all_eq_true.mp ((Array.all_eq_true_iff_forall_mem.mp hF) _ (Array.getElem_mem ha)) i (List.mem_range.mpr hi)
    simpa [Array.getElem?_eq_getElem hi] using q
  obtain ⟨hsets, hown0⟩ := atoms_of _ (rest_1_c_eq ▸ (show rest_1_c.before _ s = true from hrest))
  have hr0 := Cond.before_iff.mp hown0
  obtain ⟨i0, ei0⟩ := is_v g3
  obtain rfl : w0 = (.int i0) := Option.some.inj ei0
  obtain ⟨i1, ei1⟩ := is_v g5
  obtain rfl : w1 = (.int i1) := Option.some.inj ei1
  obtain ⟨i2, ei2⟩ := is_v g7
  obtain rfl : w2 = (.int i2) := Option.some.inj ei2
  obtain ⟨i3, ei3⟩ := is_v g8
  obtain rfl : w3 = (.int i3) := Option.some.inj ei3
  obtain ⟨G, evG⟩ := is_v (Cond.before_iff.mp (hsets _ (List.mem_of_getElem? (i := 1) rfl)))
  have P3 : ¬ G = (0 : Int32) := gotF (Cond.eq_ints evG (Term.int_eval (0))) (not_v (Cond.before_iff.mp (hsets _ (List.mem_of_getElem? (i := 2) rfl))))
  have O2 := Sta.start evG (Or.inl (hsets _ (List.mem_of_getElem? (i := 0) rfl)))
  obtain ⟨n, o, h1, h2, h3, _, L, rfl, ⟨rfl, N⟩, hq⟩ := rm0 l s _ hw tables_1 i0 i1 i2 i3 G s.heap s.heap.size (Nat.le_refl _) P3 O2 p e ha hc hk s m _ below hf ((Spec.applies_iff_loose hf).mp happ).1 ⟨rfl, State.Warmed39.refl s, rfl⟩ trivial
  exact ⟨n, _, h1, h2, h3, hpost _ _ _ _ _ _ ⟨Cond.after_iff.mpr rfl, Cond.after_iff.mpr (eq_i res_at (Term.int_eval (1)) rfl), trivial⟩ ⟨hq.1, hq.2.1, (hq.2.2.sift fun y hy => Or.inr (N y hy)).mono (by decide) (by decide)⟩⟩
theorem main_1_1 : Claimed_1_1 := comes_1 fun _ _ _ _ _ _ h hF => ⟨h.1, hF⟩
theorem main_1_2 : Claimed_1_2 := comes_1 fun _ _ _ _ _ _ h hF => ⟨h.2.1, hF⟩
end Jvm.Pilot.@@N@@
namespace Jvm.Pilot.@@N@@
open Jvm Jvm.ClassFile Sem Op Lib Jvm.Free Jvm.Stand Jvm.Pilot.@@N@@.Jvm.D
/-! MADE BY PROGRAM (witnessworld.py) out of the Statement's table words and the real class files: 21 classes; the members and pool entries that the words name. The judged class is class 1, her method 1. -/
namespace start1
open Jvm.ClassFile
def u (s : String) : CpInfo := .utf8 (stringToUtf16 s)
/-- a pool by its gaps: so many unusable entries, then the entry; so many at the end -/
def gap : Nat → List CpInfo → List CpInfo
  | 0, r => r
  | n + 1, r => .unusable :: gap n r
def poolList (es : List (Nat × CpInfo)) (last : Nat) : List CpInfo := es.foldr (fun e r => gap e.1 (e.2 :: r)) (gap last [])
def pool (es : List (Nat × CpInfo)) (last : Nat) : Array CpInfo := ⟨poolList es last⟩
def fileOf (pool : Array CpInfo) (this : Nat) (attrs : Array Attribute := #[]) (ms : Array MethodInfo := #[]) (fl : Nat := 33) (sup : Nat := 0) (ifs : Array Nat := #[]) (fds : Array FieldInfo := #[]) : ClassFile where
  minorVersion := 0
  majorVersion := 65
  constantPool := pool
  accessFlags := fl
  thisClass := this
  superClass := sup
  interfaces := ifs
  fields := fds
  methods := ms
  attributes := attrs
def plain (name : String) (sup : Option ClassId) : Class where
  name := name
  kind := .ordinary
  loader := none
  accessFlags := 33
  super := sup
  interfaces := #[]
  cf := none
  fields := #[]
  methods := #[]
  instanceTypes := #[]
  staticTypes := #[]
  resolved := #[]
  callSites := []
  init := .initialized
  statics := none
  mirror := none

def pool0 : Array CpInfo := pool [(5, u "<init>"), (0, u "()V"), (1, .class_ 10), (1, u "java/lang/Object")] 113

def k0c0 : Code := { maxStack := 0, maxLocals := 1, code := object_method_1_code, exceptionTable := #[], attributes := #[] }
def k0m0 : Method := { name := "<init>", desc := "()V", sig := { parameters := [], returnType := none }, accessFlags := 1, code := some k0c0 }
/-- java/lang/Object -/
def k0 : Class := { plain "java/lang/Object" none with
  accessFlags := 33
  interfaces := #[]
  cf := some (fileOf pool0 8 #[] #[{ accessFlags := 1, nameIndex := 5, descriptorIndex := 6, attributes := #[] }] 33 0 #[] #[])
  fields := #[]
  methods := #[k0m0]
  instanceTypes := #[]
  staticTypes := #[]
  resolved := Array.replicate 124 none
  statics := none }

def pool1 : Array CpInfo := pool [(2, .class_ 4), (1, u "java/lang/Object"), (0, u "<init>"), (0, u "()V"), (0, .methodref 8 9), (0, .class_ 10), (0, .nameAndType 11 12), (0, u "org/linkweave/core/TermDefinitionLanguagePinLaw"), (0, u "str"), (0, u "(I)Ljava/lang/String;"), (0, .class_ 14), (0, u "org/linkweave/core/TermDefinition"), (0, .methodref 13 16), (0, .nameAndType 5 17), (0, u "(Ljava/lang/String;ZZLjava/lang/String;Ljava/util/Set;ZLjava/lang/String;ZLjava/lang/String;Ljava/lang/String;Lorg/linkweave/core/TermDefinition$ScopedContext;Ljava/lang/String;Z)V"), (0, .methodref 13 19), (0, .nameAndType 20 21), (0, u "language"), (0, u "(Ljava/lang/String;)Ljava/lang/String;"), (0, .class_ 23), (0, u "java/lang/String"), (0, .methodref 22 25), (0, .nameAndType 5 26), (0, u "([C)V"), (2, u "law"), (0, u "(IIII)Z")] 7

def k1m0 : Method := { name := "<init>", desc := "()V", sig := { parameters := [], returnType := none }, accessFlags := 1, code := none }
def k1c1 : Code := { maxStack := 15, maxLocals := 15, code := code, exceptionTable := #[], attributes := #[] }
def k1m1 : Method := { name := "law", desc := "(IIII)Z", sig := { parameters := [.int, .int, .int, .int], returnType := some .boolean }, accessFlags := 9, code := some k1c1 }
def k1c2 : Code := { maxStack := 4, maxLocals := 2, code := method_3_code, exceptionTable := #[], attributes := #[] }
def k1m2 : Method := { name := "str", desc := "(I)Ljava/lang/String;", sig := { parameters := [.int], returnType := some (.object "java/lang/String") }, accessFlags := 10, code := some k1c2 }
/-- org/linkweave/core/TermDefinitionLanguagePinLaw -/
def k1 : Class := { plain "org/linkweave/core/TermDefinitionLanguagePinLaw" (some 0) with
  accessFlags := 49
  interfaces := #[]
  cf := some (fileOf pool1 8 #[] #[{ accessFlags := 1, nameIndex := 5, descriptorIndex := 6, attributes := #[] }, { accessFlags := 9, nameIndex := 29, descriptorIndex := 30, attributes := #[] }, { accessFlags := 10, nameIndex := 11, descriptorIndex := 12, attributes := #[] }] 49 2 #[] #[])
  fields := #[]
  methods := #[k1m0, k1m1, k1m2]
  instanceTypes := #[]
  staticTypes := #[]
  resolved := Array.replicate 38 none
  statics := none }

def pool2 : Array CpInfo := pool [(1, .class_ 2), (0, u "java/io/Serializable"), (0, .class_ 4), (0, u "java/lang/Object")] 2

/-- java/io/Serializable -/
def k2 : Class := { plain "java/io/Serializable" (some 0) with
  accessFlags := 1537
  interfaces := #[]
  cf := some (fileOf pool2 1 #[] #[] 1537 3 #[] #[])
  fields := #[]
  methods := #[]
  instanceTypes := #[]
  staticTypes := #[]
  resolved := Array.replicate 7 none
  statics := none }

def pool3 : Array CpInfo := pool [(1, .class_ 2), (0, u "java/lang/Comparable"), (0, .class_ 4), (0, u "java/lang/Object")] 7

/-- java/lang/Comparable -/
def k3 : Class := { plain "java/lang/Comparable" (some 0) with
  accessFlags := 1537
  interfaces := #[]
  cf := some (fileOf pool3 1 #[] #[] 1537 3 #[] #[])
  fields := #[]
  methods := #[]
  instanceTypes := #[]
  staticTypes := #[]
  resolved := Array.replicate 12 none
  statics := none }

def pool4 : Array CpInfo := pool [(2, .class_ 4), (1, u "java/lang/CharSequence"), (42, .class_ 48), (0, u "java/lang/CharSequence$1CodePointIterator"), (10, .class_ 60), (0, u "java/lang/CharSequence$1CharIterator"), (5, .class_ 67), (0, u "java/lang/Object")] 63

/-- java/lang/CharSequence -/
def k4 : Class := { plain "java/lang/CharSequence" (some 0) with
  accessFlags := 1537
  interfaces := #[]
  cf := some (fileOf pool4 2 #[.nestMembers #[47, 59]] #[] 1537 66 #[] #[])
  fields := #[]
  methods := #[]
  instanceTypes := #[]
  staticTypes := #[]
  resolved := Array.replicate 131 none
  statics := none }

def pool5 : Array CpInfo := pool [(1, .class_ 2), (0, u "java/lang/constant/Constable"), (0, .class_ 4), (0, u "java/lang/Object")] 6

/-- java/lang/constant/Constable -/
def k5 : Class := { plain "java/lang/constant/Constable" (some 0) with
  accessFlags := 1537
  interfaces := #[]
  cf := some (fileOf pool5 1 #[] #[] 1537 3 #[] #[])
  fields := #[]
  methods := #[]
  instanceTypes := #[]
  staticTypes := #[]
  resolved := Array.replicate 11 none
  statics := none }

def pool6 : Array CpInfo := pool [(1, .class_ 2), (0, u "java/lang/constant/ConstantDesc"), (0, .class_ 4), (0, u "java/lang/Object")] 32

/-- java/lang/constant/ConstantDesc -/
def k6 : Class := { plain "java/lang/constant/ConstantDesc" (some 0) with
  accessFlags := 1537
  interfaces := #[]
  cf := some (fileOf pool6 1 #[] #[] 1537 3 #[] #[])
  fields := #[]
  methods := #[]
  instanceTypes := #[]
  staticTypes := #[]
  resolved := Array.replicate 37 none
  statics := none }

def pool7 : Array CpInfo := pool [(1, .methodref 2 3), (0, .class_ 4), (0, .nameAndType 5 6), (0, u "java/lang/Object"), (0, u "<init>"), (0, u "()V"), (2, .fieldref 10 11), (0, .class_ 12), (0, .nameAndType 13 14), (0, u "java/lang/String"), (0, u "value"), (0, u "[B"), (0, .fieldref 10 16), (0, .nameAndType 17 18), (0, u "coder"), (0, u "B"), (2, u "hash"), (0, u "I"), (2, u "hashIsZero"), (0, u "Z"), (0, .methodref 10 28), (0, .nameAndType 5 29), (0, u "([CIILjava/lang/Void;)V"), (8, .fieldref 10 39), (0, .nameAndType 40 26), (0, u "COMPACT_STRINGS"), (1, .class_ 44), (1, u "java/lang/StringUTF16"), (0, u "compress"), (1, .methodref 42 48), (0, .nameAndType 49 50), (0, u "coderFromArrayLen"), (0, u "([BI)B"), (126, .methodref 42 178), (0, .nameAndType 45 179), (0, u "([CII)[B"), (395, .class_ 576), (0, u "java/lang/CharSequence"), (22, u "CASE_INSENSITIVE_ORDER"), (0, u "Ljava/util/Comparator;"), (409, u "([C)V"), (90, u "serialPersistentFields"), (0, u "[Ljava/io/ObjectStreamField;"), (0, .class_ 1104), (0, u "java/lang/String$CaseInsensitiveComparator"), (1, .class_ 1107), (0, u "java/io/Serializable"), (0, .class_ 1109), (0, u "java/lang/Comparable"), (0, .class_ 1111), (0, u "java/lang/constant/Constable"), (0, .class_ 1113), (0, u "java/lang/constant/ConstantDesc"), (2, u "serialVersionUID"), (0, u "J"), (3, u "REPL"), (0, u "C"), (2, u "LATIN1"), (1, u "UTF16")] 323

def k7m0 : Method := { name := "<init>", desc := "()V", sig := { parameters := [], returnType := none }, accessFlags := 1, code := none }
def k7c1 : Code := { maxStack := 5, maxLocals := 2, code := jdk_42_method_3_code, exceptionTable := #[], attributes := #[] }
def k7m1 : Method := { name := "<init>", desc := "([C)V", sig := { parameters := [(.array .char)], returnType := none }, accessFlags := 1, code := some k7c1 }
def k7c2 : Code := { maxStack := 4, maxLocals := 6, code := jdk_42_method_149_code, exceptionTable := #[], attributes := #[] }
def k7m2 : Method := { name := "<init>", desc := "([CIILjava/lang/Void;)V", sig := { parameters := [(.array .char), .int, .int, (.object "java/lang/Void")], returnType := none }, accessFlags := 2, code := some k7c2 }
/-- java/lang/String -/
def k7 : Class := { plain "java/lang/String" (some 0) with
  accessFlags := 49
  interfaces := #[2, 3, 4, 5, 6]
  cf := some (fileOf pool7 10 #[.nestMembers #[1103]] #[{ accessFlags := 1, nameIndex := 5, descriptorIndex := 6, attributes := #[] }, { accessFlags := 1, nameIndex := 5, descriptorIndex := 1010, attributes := #[] }, { accessFlags := 2, nameIndex := 5, descriptorIndex := 29, attributes := #[] }] 49 2 #[1106, 1108, 575, 1110, 1112] #[{ accessFlags := 18, nameIndex := 13, descriptorIndex := 14, attributes := #[] }, { accessFlags := 18, nameIndex := 17, descriptorIndex := 18, attributes := #[] }, { accessFlags := 2, nameIndex := 21, descriptorIndex := 22, attributes := #[] }, { accessFlags := 2, nameIndex := 25, descriptorIndex := 26, attributes := #[] }, { accessFlags := 26, nameIndex := 1116, descriptorIndex := 1117, attributes := #[] }, { accessFlags := 24, nameIndex := 40, descriptorIndex := 26, attributes := #[] }, { accessFlags := 26, nameIndex := 1101, descriptorIndex := 1102, attributes := #[] }, { accessFlags := 26, nameIndex := 1121, descriptorIndex := 1122, attributes := #[] }, { accessFlags := 25, nameIndex := 599, descriptorIndex := 600, attributes := #[] }, { accessFlags := 24, nameIndex := 1125, descriptorIndex := 18, attributes := #[] }, { accessFlags := 24, nameIndex := 1127, descriptorIndex := 18, attributes := #[] }])
  fields := #[{ name := "value", type := (.array .byte), accessFlags := 18, slot := 0, constantValue := 0 }, { name := "coder", type := .byte, accessFlags := 18, slot := 1, constantValue := 0 }, { name := "hash", type := .int, accessFlags := 2, slot := 2, constantValue := 0 }, { name := "hashIsZero", type := .boolean, accessFlags := 2, slot := 3, constantValue := 0 }, { name := "serialVersionUID", type := .long, accessFlags := 26, slot := 0, constantValue := 0 }, { name := "COMPACT_STRINGS", type := .boolean, accessFlags := 24, slot := 1, constantValue := 0 }, { name := "serialPersistentFields", type := (.array (.object "java/io/ObjectStreamField")), accessFlags := 26, slot := 2, constantValue := 0 }, { name := "REPL", type := .char, accessFlags := 26, slot := 3, constantValue := 0 }, { name := "CASE_INSENSITIVE_ORDER", type := (.object "java/util/Comparator"), accessFlags := 25, slot := 4, constantValue := 0 }, { name := "LATIN1", type := .byte, accessFlags := 24, slot := 5, constantValue := 0 }, { name := "UTF16", type := .byte, accessFlags := 24, slot := 6, constantValue := 0 }]
  methods := #[k7m0, k7m1, k7m2]
  instanceTypes := #[(.array .byte), .byte, .int, .boolean]
  staticTypes := #[.long, .boolean, (.array (.object "java/io/ObjectStreamField")), .char, (.object "java/util/Comparator"), .byte, .byte]
  resolved := Array.replicate 1451 none
  statics := some 0 }

def pool8 : Array CpInfo := pool [(6, .class_ 8), (1, u "java/lang/Object"), (0, u "<init>"), (0, u "()V"), (1, .class_ 14), (1, u "java/lang/StringUTF16"), (31, u "$assertionsDisabled"), (0, u "Z"), (13, u "HI_BYTE_SHIFT"), (0, u "I"), (2, u "LO_BYTE_SHIFT"), (49, .methodref 12 116), (0, .nameAndType 117 118), (0, u "compress"), (0, u "([CI[BII)I"), (3, u "([CII)[B"), (138, u "coderFromArrayLen"), (0, u "([BI)B"), (106, .class_ 371), (1, u "java/lang/StringUTF16$LinesSpliterator"), (58, u "MAX_LENGTH"), (196, .class_ 628), (0, u "java/lang/StringUTF16$CodePointsSpliterator"), (0, .class_ 630), (0, u "java/lang/StringUTF16$CharsSpliterator")] 4

def k8m0 : Method := { name := "<init>", desc := "()V", sig := { parameters := [], returnType := none }, accessFlags := 0, code := none }
def k8c1 : Code := { maxStack := 2, maxLocals := 2, code := jdk_52_method_15_code, exceptionTable := #[], attributes := #[] }
def k8m1 : Method := { name := "coderFromArrayLen", desc := "([BI)B", sig := { parameters := [(.array .byte), .int], returnType := some .byte }, accessFlags := 8, code := some k8c1 }
def k8c2 : Code := { maxStack := 5, maxLocals := 6, code := jdk_52_method_16_code, exceptionTable := #[], attributes := #[] }
def k8m2 : Method := { name := "compress", desc := "([CII)[B", sig := { parameters := [(.array .char), .int, .int], returnType := some (.array .byte) }, accessFlags := 9, code := some k8c2 }
def k8c3 : Code := { maxStack := 3, maxLocals := 7, code := jdk_52_method_21_code, exceptionTable := #[], attributes := #[] }
def k8m3 : Method := { name := "compress", desc := "([CI[BII)I", sig := { parameters := [(.array .char), .int, (.array .byte), .int, .int], returnType := some .int }, accessFlags := 9, code := some k8c3 }
/-- java/lang/StringUTF16 -/
def k8 : Class := { plain "java/lang/StringUTF16" (some 0) with
  accessFlags := 48
  interfaces := #[]
  cf := some (fileOf pool8 12 #[.nestMembers #[627, 629, 369]] #[{ accessFlags := 0, nameIndex := 9, descriptorIndex := 10, attributes := #[] }, { accessFlags := 8, nameIndex := 261, descriptorIndex := 262, attributes := #[] }, { accessFlags := 9, nameIndex := 117, descriptorIndex := 122, attributes := #[] }, { accessFlags := 9, nameIndex := 117, descriptorIndex := 118, attributes := #[] }] 48 6 #[] #[{ accessFlags := 26, nameIndex := 61, descriptorIndex := 62, attributes := #[] }, { accessFlags := 26, nameIndex := 65, descriptorIndex := 62, attributes := #[] }, { accessFlags := 24, nameIndex := 430, descriptorIndex := 62, attributes := #[] }, { accessFlags := 4120, nameIndex := 46, descriptorIndex := 47, attributes := #[] }])
  fields := #[{ name := "HI_BYTE_SHIFT", type := .int, accessFlags := 26, slot := 0, constantValue := 0 }, { name := "LO_BYTE_SHIFT", type := .int, accessFlags := 26, slot := 1, constantValue := 0 }, { name := "MAX_LENGTH", type := .int, accessFlags := 24, slot := 2, constantValue := 0 }, { name := "$assertionsDisabled", type := .boolean, accessFlags := 4120, slot := 3, constantValue := 0 }]
  methods := #[k8m0, k8m1, k8m2, k8m3]
  instanceTypes := #[]
  staticTypes := #[.int, .int, .int, .boolean]
  resolved := Array.replicate 635 none
  statics := none }

def pool9 : Array CpInfo := pool [(1, .methodref 2 3), (0, .class_ 4), (0, .nameAndType 5 6), (0, u "java/lang/Object"), (0, u "<init>"), (0, u "()V"), (0, .class_ 8), (0, u "java/lang/Record")] 13

def k9c0 : Code := { maxStack := 1, maxLocals := 1, code := jdk_30_method_1_code, exceptionTable := #[], attributes := #[] }
def k9m0 : Method := { name := "<init>", desc := "()V", sig := { parameters := [], returnType := none }, accessFlags := 4, code := some k9c0 }
/-- java/lang/Record -/
def k9 : Class := { plain "java/lang/Record" (some 0) with
  accessFlags := 1057
  interfaces := #[]
  cf := some (fileOf pool9 7 #[] #[{ accessFlags := 4, nameIndex := 5, descriptorIndex := 6, attributes := #[] }] 1057 2 #[] #[])
  fields := #[]
  methods := #[k9m0]
  instanceTypes := #[]
  staticTypes := #[]
  resolved := Array.replicate 22 none
  statics := none }

def pool10 : Array CpInfo := pool [(1, .methodref 2 3), (0, .class_ 4), (0, .nameAndType 5 6), (0, u "java/lang/Record"), (0, u "<init>"), (0, u "()V"), (0, .fieldref 8 9), (0, .class_ 10), (0, .nameAndType 11 12), (0, u "org/linkweave/core/TermDefinition"), (0, u "iri"), (0, u "Ljava/lang/String;"), (0, .fieldref 8 14), (0, .nameAndType 15 16), (0, u "prefix"), (0, u "Z"), (0, .fieldref 8 18), (0, .nameAndType 19 16), (0, u "reverse"), (0, .fieldref 8 21), (0, .nameAndType 22 12), (0, u "typeMapping"), (0, .fieldref 8 24), (0, .nameAndType 25 26), (0, u "container"), (0, u "Ljava/util/Set;"), (0, .fieldref 8 28), (0, .nameAndType 29 16), (0, u "hasLanguage"), (0, .fieldref 8 31), (0, .nameAndType 32 12), (0, u "language"), (0, .fieldref 8 34), (0, .nameAndType 35 16), (0, u "hasDirection"), (0, .fieldref 8 37), (0, .nameAndType 38 12), (0, u "direction"), (0, .fieldref 8 40), (0, .nameAndType 41 12), (0, u "index"), (0, .fieldref 8 43), (0, .nameAndType 44 45), (0, u "scopedContext"), (0, u "Lorg/linkweave/core/TermDefinition$ScopedContext;"), (0, .fieldref 8 47), (0, .nameAndType 48 12), (0, u "nest"), (0, .fieldref 8 50), (0, .nameAndType 51 16), (0, u "protectedTerm"), (8, u "(Ljava/lang/String;ZZLjava/lang/String;Ljava/util/Set;ZLjava/lang/String;ZLjava/lang/String;Ljava/lang/String;Lorg/linkweave/core/TermDefinition$ScopedContext;Ljava/lang/String;Z)V"), (22, u "(Ljava/lang/String;)Ljava/lang/String;"), (14, .class_ 99), (0, u "org/linkweave/core/TermDefinition$ScopedContext")] 31

def k10c0 : Code := { maxStack := 2, maxLocals := 14, code := prog_76_method_1_code, exceptionTable := #[], attributes := #[] }
def k10m0 : Method := { name := "<init>", desc := "(Ljava/lang/String;ZZLjava/lang/String;Ljava/util/Set;ZLjava/lang/String;ZLjava/lang/String;Ljava/lang/String;Lorg/linkweave/core/TermDefinition$ScopedContext;Ljava/lang/String;Z)V", sig := { parameters := [(.object "java/lang/String"), .boolean, .boolean, (.object "java/lang/String"), (.object "java/util/Set"), .boolean, (.object "java/lang/String"), .boolean, (.object "java/lang/String"), (.object "java/lang/String"), (.object "org/linkweave/core/TermDefinition$ScopedContext"), (.object "java/lang/String"), .boolean], returnType := none }, accessFlags := 0, code := some k10c0 }
def k10c1 : Code := { maxStack := 1, maxLocals := 2, code := prog_76_method_3_code, exceptionTable := #[], attributes := #[] }
def k10m1 : Method := { name := "language", desc := "(Ljava/lang/String;)Ljava/lang/String;", sig := { parameters := [(.object "java/lang/String")], returnType := some (.object "java/lang/String") }, accessFlags := 0, code := some k10c1 }
/-- org/linkweave/core/TermDefinition -/
def k10 : Class := { plain "org/linkweave/core/TermDefinition" (some 9) with
  accessFlags := 48
  interfaces := #[]
  cf := some (fileOf pool10 8 #[.nestMembers #[98]] #[{ accessFlags := 0, nameIndex := 5, descriptorIndex := 60, attributes := #[] }, { accessFlags := 0, nameIndex := 32, descriptorIndex := 83, attributes := #[] }] 48 2 #[] #[{ accessFlags := 18, nameIndex := 11, descriptorIndex := 12, attributes := #[] }, { accessFlags := 18, nameIndex := 15, descriptorIndex := 16, attributes := #[] }, { accessFlags := 18, nameIndex := 19, descriptorIndex := 16, attributes := #[] }, { accessFlags := 18, nameIndex := 22, descriptorIndex := 12, attributes := #[] }, { accessFlags := 18, nameIndex := 25, descriptorIndex := 26, attributes := #[] }, { accessFlags := 18, nameIndex := 29, descriptorIndex := 16, attributes := #[] }, { accessFlags := 18, nameIndex := 32, descriptorIndex := 12, attributes := #[] }, { accessFlags := 18, nameIndex := 35, descriptorIndex := 16, attributes := #[] }, { accessFlags := 18, nameIndex := 38, descriptorIndex := 12, attributes := #[] }, { accessFlags := 18, nameIndex := 41, descriptorIndex := 12, attributes := #[] }, { accessFlags := 18, nameIndex := 44, descriptorIndex := 45, attributes := #[] }, { accessFlags := 18, nameIndex := 48, descriptorIndex := 12, attributes := #[] }, { accessFlags := 18, nameIndex := 51, descriptorIndex := 16, attributes := #[] }])
  fields := #[{ name := "iri", type := (.object "java/lang/String"), accessFlags := 18, slot := 0, constantValue := 0 }, { name := "prefix", type := .boolean, accessFlags := 18, slot := 1, constantValue := 0 }, { name := "reverse", type := .boolean, accessFlags := 18, slot := 2, constantValue := 0 }, { name := "typeMapping", type := (.object "java/lang/String"), accessFlags := 18, slot := 3, constantValue := 0 }, { name := "container", type := (.object "java/util/Set"), accessFlags := 18, slot := 4, constantValue := 0 }, { name := "hasLanguage", type := .boolean, accessFlags := 18, slot := 5, constantValue := 0 }, { name := "language", type := (.object "java/lang/String"), accessFlags := 18, slot := 6, constantValue := 0 }, { name := "hasDirection", type := .boolean, accessFlags := 18, slot := 7, constantValue := 0 }, { name := "direction", type := (.object "java/lang/String"), accessFlags := 18, slot := 8, constantValue := 0 }, { name := "index", type := (.object "java/lang/String"), accessFlags := 18, slot := 9, constantValue := 0 }, { name := "scopedContext", type := (.object "org/linkweave/core/TermDefinition$ScopedContext"), accessFlags := 18, slot := 10, constantValue := 0 }, { name := "nest", type := (.object "java/lang/String"), accessFlags := 18, slot := 11, constantValue := 0 }, { name := "protectedTerm", type := .boolean, accessFlags := 18, slot := 12, constantValue := 0 }]
  methods := #[k10m0, k10m1]
  instanceTypes := #[(.object "java/lang/String"), .boolean, .boolean, (.object "java/lang/String"), (.object "java/util/Set"), .boolean, (.object "java/lang/String"), .boolean, (.object "java/lang/String"), (.object "java/lang/String"), (.object "org/linkweave/core/TermDefinition$ScopedContext"), (.object "java/lang/String"), .boolean]
  staticTypes := #[]
  resolved := Array.replicate 131 none
  statics := none }

def pool11 : Array CpInfo := pool [(4, .class_ 6), (1, u "java/lang/Object"), (0, u "<init>"), (0, u "()V"), (5, .class_ 16), (1, u "java/lang/StringLatin1"), (104, u "$assertionsDisabled"), (0, u "Z"), (98, .class_ 223), (1, u "java/lang/StringLatin1$LinesSpliterator"), (166, .class_ 391), (0, u "java/lang/StringLatin1$CharsSpliterator")] 3

def k11m0 : Method := { name := "<init>", desc := "()V", sig := { parameters := [], returnType := none }, accessFlags := 0, code := none }
/-- java/lang/StringLatin1 -/
def k11 : Class := { plain "java/lang/StringLatin1" (some 0) with
  accessFlags := 48
  interfaces := #[]
  cf := some (fileOf pool11 14 #[.nestMembers #[390, 221]] #[{ accessFlags := 0, nameIndex := 7, descriptorIndex := 8, attributes := #[] }] 48 4 #[] #[{ accessFlags := 4120, nameIndex := 121, descriptorIndex := 122, attributes := #[] }])
  fields := #[{ name := "$assertionsDisabled", type := .boolean, accessFlags := 4120, slot := 0, constantValue := 0 }]
  methods := #[k11m0]
  instanceTypes := #[]
  staticTypes := #[.boolean]
  resolved := Array.replicate 395 none
  statics := none }

def pool12 : Array CpInfo := pool [(2, .class_ 4), (1, u "java/lang/Object"), (0, u "<init>"), (0, u "()V"), (17, .class_ 26), (1, u "jdk/internal/util/Preconditions"), (28, .class_ 56), (0, u "jdk/internal/util/Preconditions$4"), (57, .class_ 115), (0, u "jdk/internal/util/Preconditions$1"), (7, u "SIOOBE_FORMATTER"), (0, u "Ljava/util/function/BiFunction;"), (0, .class_ 126), (0, u "jdk/internal/util/Preconditions$2"), (3, u "AIOOBE_FORMATTER"), (0, .class_ 132), (0, u "jdk/internal/util/Preconditions$3"), (3, u "IOOBE_FORMATTER")] 57

def k12m0 : Method := { name := "<init>", desc := "()V", sig := { parameters := [], returnType := none }, accessFlags := 1, code := none }
/-- jdk/internal/util/Preconditions -/
def k12 : Class := { plain "jdk/internal/util/Preconditions" (some 0) with
  accessFlags := 33
  interfaces := #[]
  cf := some (fileOf pool12 24 #[.nestMembers #[55, 131, 125, 114]] #[{ accessFlags := 1, nameIndex := 5, descriptorIndex := 6, attributes := #[] }] 33 2 #[] #[{ accessFlags := 25, nameIndex := 123, descriptorIndex := 124, attributes := #[] }, { accessFlags := 25, nameIndex := 130, descriptorIndex := 124, attributes := #[] }, { accessFlags := 25, nameIndex := 136, descriptorIndex := 124, attributes := #[] }])
  fields := #[{ name := "SIOOBE_FORMATTER", type := (.object "java/util/function/BiFunction"), accessFlags := 25, slot := 0, constantValue := 0 }, { name := "AIOOBE_FORMATTER", type := (.object "java/util/function/BiFunction"), accessFlags := 25, slot := 1, constantValue := 0 }, { name := "IOOBE_FORMATTER", type := (.object "java/util/function/BiFunction"), accessFlags := 25, slot := 2, constantValue := 0 }]
  methods := #[k12m0]
  instanceTypes := #[]
  staticTypes := #[(.object "java/util/function/BiFunction"), (.object "java/util/function/BiFunction"), (.object "java/util/function/BiFunction")]
  resolved := Array.replicate 194 none
  statics := some 1 }

def pool13 : Array CpInfo := pool [(9, u "<init>"), (6, .class_ 18), (1, u "java/lang/Object"), (0, u "()V"), (1, .class_ 23), (1, u "jdk/internal/util/ArraysSupport"), (0, u "LOG2_ARRAY_LONG_INDEX_SCALE"), (0, u "I"), (2, u "U"), (0, u "Ljdk/internal/misc/Unsafe;"), (8, u "BIG_ENDIAN"), (0, u "Z"), (8, u "LOG2_BYTE_BIT_SIZE"), (4, u "LOG2_ARRAY_INT_INDEX_SCALE"), (54, u "JLA"), (0, u "Ljdk/internal/access/JavaLangAccess;"), (11, u "LOG2_ARRAY_BOOLEAN_INDEX_SCALE"), (9, u "LOG2_ARRAY_BYTE_INDEX_SCALE"), (5, u "LOG2_ARRAY_CHAR_INDEX_SCALE"), (5, u "LOG2_ARRAY_SHORT_INDEX_SCALE"), (18, u "LOG2_ARRAY_FLOAT_INDEX_SCALE"), (24, u "LOG2_ARRAY_DOUBLE_INDEX_SCALE"), (89, u "T_BOOLEAN"), (2, u "T_CHAR"), (1, u "T_FLOAT"), (1, u "T_DOUBLE"), (1, u "T_BYTE"), (1, u "T_SHORT"), (1, u "T_INT"), (1, u "T_LONG"), (1, u "SOFT_MAX_ARRAY_LENGTH")] 83

def k13m0 : Method := { name := "<init>", desc := "()V", sig := { parameters := [], returnType := none }, accessFlags := 2, code := none }
/-- jdk/internal/util/ArraysSupport -/
def k13 : Class := { plain "jdk/internal/util/ArraysSupport" (some 0) with
  accessFlags := 33
  interfaces := #[]
  cf := some (fileOf pool13 21 #[] #[{ accessFlags := 2, nameIndex := 9, descriptorIndex := 19, attributes := #[] }] 33 16 #[] #[{ accessFlags := 24, nameIndex := 28, descriptorIndex := 29, attributes := #[] }, { accessFlags := 26, nameIndex := 38, descriptorIndex := 39, attributes := #[] }, { accessFlags := 25, nameIndex := 121, descriptorIndex := 25, attributes := #[] }, { accessFlags := 25, nameIndex := 131, descriptorIndex := 25, attributes := #[] }, { accessFlags := 25, nameIndex := 137, descriptorIndex := 25, attributes := #[] }, { accessFlags := 25, nameIndex := 143, descriptorIndex := 25, attributes := #[] }, { accessFlags := 25, nameIndex := 53, descriptorIndex := 25, attributes := #[] }, { accessFlags := 25, nameIndex := 24, descriptorIndex := 25, attributes := #[] }, { accessFlags := 25, nameIndex := 162, descriptorIndex := 25, attributes := #[] }, { accessFlags := 25, nameIndex := 187, descriptorIndex := 25, attributes := #[] }, { accessFlags := 26, nameIndex := 48, descriptorIndex := 25, attributes := #[] }, { accessFlags := 25, nameIndex := 277, descriptorIndex := 25, attributes := #[] }, { accessFlags := 25, nameIndex := 280, descriptorIndex := 25, attributes := #[] }, { accessFlags := 25, nameIndex := 282, descriptorIndex := 25, attributes := #[] }, { accessFlags := 25, nameIndex := 284, descriptorIndex := 25, attributes := #[] }, { accessFlags := 25, nameIndex := 286, descriptorIndex := 25, attributes := #[] }, { accessFlags := 25, nameIndex := 288, descriptorIndex := 25, attributes := #[] }, { accessFlags := 25, nameIndex := 290, descriptorIndex := 25, attributes := #[] }, { accessFlags := 25, nameIndex := 292, descriptorIndex := 25, attributes := #[] }, { accessFlags := 26, nameIndex := 108, descriptorIndex := 109, attributes := #[] }, { accessFlags := 25, nameIndex := 294, descriptorIndex := 25, attributes := #[] }])
  fields := #[{ name := "U", type := (.object "jdk/internal/misc/Unsafe"), accessFlags := 24, slot := 0, constantValue := 0 }, { name := "BIG_ENDIAN", type := .boolean, accessFlags := 26, slot := 1, constantValue := 0 }, { name := "LOG2_ARRAY_BOOLEAN_INDEX_SCALE", type := .int, accessFlags := 25, slot := 2, constantValue := 0 }, { name := "LOG2_ARRAY_BYTE_INDEX_SCALE", type := .int, accessFlags := 25, slot := 3, constantValue := 0 }, { name := "LOG2_ARRAY_CHAR_INDEX_SCALE", type := .int, accessFlags := 25, slot := 4, constantValue := 0 }, { name := "LOG2_ARRAY_SHORT_INDEX_SCALE", type := .int, accessFlags := 25, slot := 5, constantValue := 0 }, { name := "LOG2_ARRAY_INT_INDEX_SCALE", type := .int, accessFlags := 25, slot := 6, constantValue := 0 }, { name := "LOG2_ARRAY_LONG_INDEX_SCALE", type := .int, accessFlags := 25, slot := 7, constantValue := 0 }, { name := "LOG2_ARRAY_FLOAT_INDEX_SCALE", type := .int, accessFlags := 25, slot := 8, constantValue := 0 }, { name := "LOG2_ARRAY_DOUBLE_INDEX_SCALE", type := .int, accessFlags := 25, slot := 9, constantValue := 0 }, { name := "LOG2_BYTE_BIT_SIZE", type := .int, accessFlags := 26, slot := 10, constantValue := 0 }, { name := "T_BOOLEAN", type := .int, accessFlags := 25, slot := 11, constantValue := 0 }, { name := "T_CHAR", type := .int, accessFlags := 25, slot := 12, constantValue := 0 }, { name := "T_FLOAT", type := .int, accessFlags := 25, slot := 13, constantValue := 0 }, { name := "T_DOUBLE", type := .int, accessFlags := 25, slot := 14, constantValue := 0 }, { name := "T_BYTE", type := .int, accessFlags := 25, slot := 15, constantValue := 0 }, { name := "T_SHORT", type := .int, accessFlags := 25, slot := 16, constantValue := 0 }, { name := "T_INT", type := .int, accessFlags := 25, slot := 17, constantValue := 0 }, { name := "T_LONG", type := .int, accessFlags := 25, slot := 18, constantValue := 0 }, { name := "JLA", type := (.object "jdk/internal/access/JavaLangAccess"), accessFlags := 26, slot := 19, constantValue := 0 }, { name := "SOFT_MAX_ARRAY_LENGTH", type := .int, accessFlags := 25, slot := 20, constantValue := 0 }]
  methods := #[k13m0]
  instanceTypes := #[]
  staticTypes := #[(.object "jdk/internal/misc/Unsafe"), .boolean, .int, .int, .int, .int, .int, .int, .int, .int, .int, .int, .int, .int, .int, .int, .int, .int, .int, (.object "jdk/internal/access/JavaLangAccess"), .int]
  resolved := Array.replicate 378 none
  statics := none }

def pool14 : Array CpInfo := pool [(1, u "java/lang/Cloneable"), (0, .class_ 1), (0, u "java/lang/Object"), (0, .class_ 3)] 3

/-- java/lang/Cloneable -/
def k14 : Class := { plain "java/lang/Cloneable" (some 0) with
  accessFlags := 1537
  interfaces := #[]
  cf := some (fileOf pool14 2 #[] #[] 1537 4 #[] #[])
  fields := #[]
  methods := #[]
  instanceTypes := #[]
  staticTypes := #[]
  resolved := Array.replicate 8 none
  statics := none }

/-- the primitive byte -/
def k15 : Class := { plain "byte" none with kind := .primitive 'B', accessFlags := 0x411 }
/-- [B -/
def k16 : Class := { plain "[B" (some 0) with kind := .array 15 .byte, interfaces := #[14, 2], accessFlags := 1041 }

/-- the primitive char -/
def k17 : Class := { plain "char" none with kind := .primitive 'C', accessFlags := 0x411 }
/-- [C -/
def k18 : Class := { plain "[C" (some 0) with kind := .array 17 .char, interfaces := #[14, 2], accessFlags := 1041 }

/-- the primitive int -/
def k19 : Class := { plain "int" none with kind := .primitive 'I', accessFlags := 0x411 }
/-- [I -/
def k20 : Class := { plain "[I" (some 0) with kind := .array 19 .int, interfaces := #[14, 2], accessFlags := 1041 }

def heap : Heap := #[{ cls := 7, slots := #[.long 0, .int 1, .null, .int 0, .null, .int 0, .int 0], vm := .statics 7 },
  { cls := 12, slots := #[.null, .null, .null], vm := .statics 12 }]
def classes : Array Class := #[k0, k1, k2, k3, k4, k5, k6, k7, k8, k9, k10, k11, k12, k13, k14, k15, k16, k17, k18, k19, k20]
def interned : List (Array UInt16 × Addr) := []
def slotsUsed : Nat := 10
def theMethod : MethodId := ⟨1, 1⟩
def args0 : Array Value := #[.int 5, .int 3, .int 3, .int 3]
def aboutOver (below : List Frame) : State where
  vm := { classes := classes, interned := interned.toArray }
  heap := heap
  slotsUsed := slotsUsed
  threads := #[{ frames := .invoking theMethod args0 :: below }]
def below0 : List Frame := [.native { method := ⟨0, 0⟩, args := #[] }]
def about1 : State := aboutOver below0
def p0 : Program := .bare "" "" ""
def e0 : Env := launch0.env 0 0 0
theorem w_frames : about1.frames = Frame.invoking theMethod args0 :: below0 := rfl
set_option maxRecDepth 65536 in
theorem w_args : argsFit about1.vm theMethod args0 = true := by decide +kernel
set_option maxRecDepth 65536 in
theorem w_heap : heapFits about1 = true := by decide +kernel
set_option maxRecDepth 65536 in
theorem w_runnable : about1.curStatus? = some .runnable := by decide +kernel
set_option maxRecDepth 65536 in
theorem w_alone : about1.alone = true := by decide +kernel
set_option maxRecDepth 65536 in
theorem w_named : about1.methodNamed? x = some theMethod := by decide +kernel
set_option maxRecDepth 65536 in
theorem w_hears : about1.hears theMethod below0 = true := by decide +kernel
set_option maxRecDepth 65536 in
theorem w_ripe : about1.ripe theMethod args0 below0 = true := by decide +kernel
theorem w_running : about1.status = .running := rfl
set_option maxRecDepth 65536 in
theorem w_room : about1.hasRoom e0.platform room_1 = true :=
  launch0.hasRoom_least _ room_1 (by decide +kernel) (by decide +kernel) (by decide +kernel) (by decide +kernel) (by decide +kernel) (by decide +kernel)
theorem allAtoms_all (ts : List Jvm.Cond) (a : Array Jvm.Value) (st : Jvm.State) : (allAtoms ts).before a st = ts.all (fun c => c.before a st) := by
  induction ts with
  | nil => rfl
  | cons c t ih =>
    show (Jvm.Cond.and c (allAtoms t)).before a st = _
    rw [Jvm.Cond.before_and, ih, List.all_cons]
def words1 : List Jvm.Cond := Jvm.Cond.code x code maxLocals ret :: tables_1
/-- a 'code' word, met by the world's own term for the bytes: nothing is compared byte by byte -/
theorem code_word {y : MethodName} {bytes : ByteArray} {mx : Nat} {rt : Option FieldType} {a : Array Value} {s : State} {m : MethodId} {meth : Method} {c : Code} (h1 : s.methodNamed? y = some m) (h2 : s.vm.method? m = some meth) (h3 : meth.code = some c) (h4 : c.code = bytes)
    (h5 : (c.maxLocals == mx && c.exceptionTable.isEmpty && decide (c.maxStack ≤ mostOperands) && decide (meth.sig.returnType = rt) && !meth.locks && decide (parseMethodDescriptor y.desc = some meth.sig)) = true) : (Jvm.Cond.code y bytes mx rt).before a s = true := by
  simp only [Bool.and_eq_true, beq_iff_eq, Bool.not_eq_true', decide_eq_true_eq] at h5
  obtain ⟨⟨⟨⟨⟨g1, g2⟩, g3⟩, g4⟩, g5⟩, g6⟩ := h5
  simp [Cond.before, Cond.holds, Cond.value, h1, h2, h3, h4, g1, g2, g3, g4, g5, g6]
def isCode : Jvm.Cond → Bool
  | .code _ _ _ _ => true
  | _ => false
theorem all_split {L : List Jvm.Cond} {P : Jvm.Cond → Bool} (h1 : L.all (fun c => isCode c || P c) = true) (h2 : ∀ c ∈ L.filter isCode, P c = true) : L.all P = true := by
  refine List.all_eq_true.mpr fun c hc => ?_
  have h := List.all_eq_true.mp h1 c hc
  rcases Bool.eq_false_or_eq_true (isCode c) with hi | hi
  · exact h2 c (List.mem_filter.mpr ⟨hc, hi⟩)
  · simpa [hi] using h
set_option maxRecDepth 65536 in
theorem w_c0 : (Jvm.Cond.code x code maxLocals ret).before args0 about1 = true := code_word (m := ⟨1, 1⟩) (meth := k1m1) (c := k1c1) (by decide +kernel) rfl rfl rfl (by decide +kernel)
set_option maxRecDepth 65536 in
theorem w_c1 : (Jvm.Cond.code ({ cls := "org/linkweave/core/TermDefinitionLanguagePinLaw", name := "str", desc := "(I)Ljava/lang/String;" } : Jvm.MethodName) method_3_code (2 : Nat) (Option.some (Jvm.ClassFile.FieldType.object "java/lang/String"))).before args0 about1 = true := code_word (m := ⟨1, 2⟩) (meth := k1m2) (c := k1c2) (by decide +kernel) rfl rfl rfl (by decide +kernel)
set_option maxRecDepth 65536 in
theorem w_c2 : (Jvm.Cond.code ({ cls := "java/lang/String", name := "<init>", desc := "([C)V" } : Jvm.MethodName) jdk_42_method_3_code (2 : Nat) (Option.none : Option Jvm.ClassFile.FieldType)).before args0 about1 = true := code_word (m := ⟨7, 1⟩) (meth := k7m1) (c := k7c1) (by decide +kernel) rfl rfl rfl (by decide +kernel)
set_option maxRecDepth 65536 in
theorem w_c3 : (Jvm.Cond.code ({ cls := "java/lang/String", name := "<init>", desc := "([CIILjava/lang/Void;)V" } : Jvm.MethodName) jdk_42_method_149_code (6 : Nat) (Option.none : Option Jvm.ClassFile.FieldType)).before args0 about1 = true := code_word (m := ⟨7, 2⟩) (meth := k7m2) (c := k7c2) (by decide +kernel) rfl rfl rfl (by decide +kernel)
set_option maxRecDepth 65536 in
theorem w_c4 : (Jvm.Cond.code ({ cls := "java/lang/Object", name := "<init>", desc := "()V" } : Jvm.MethodName) object_method_1_code (1 : Nat) (Option.none : Option Jvm.ClassFile.FieldType)).before args0 about1 = true := code_word (m := ⟨0, 0⟩) (meth := k0m0) (c := k0c0) (by decide +kernel) rfl rfl rfl (by decide +kernel)
set_option maxRecDepth 65536 in
theorem w_c5 : (Jvm.Cond.code ({ cls := "java/lang/StringUTF16", name := "compress", desc := "([CII)[B" } : Jvm.MethodName) jdk_52_method_16_code (6 : Nat) (Option.some (Jvm.ClassFile.FieldType.array Jvm.ClassFile.FieldType.byte))).before args0 about1 = true := code_word (m := ⟨8, 2⟩) (meth := k8m2) (c := k8c2) (by decide +kernel) rfl rfl rfl (by decide +kernel)
set_option maxRecDepth 65536 in
theorem w_c6 : (Jvm.Cond.code ({ cls := "java/lang/StringUTF16", name := "compress", desc := "([CI[BII)I" } : Jvm.MethodName) jdk_52_method_21_code (7 : Nat) (Option.some Jvm.ClassFile.FieldType.int)).before args0 about1 = true := code_word (m := ⟨8, 3⟩) (meth := k8m3) (c := k8c3) (by decide +kernel) rfl rfl rfl (by decide +kernel)
set_option maxRecDepth 65536 in
theorem w_c7 : (Jvm.Cond.code ({ cls := "java/lang/StringUTF16", name := "coderFromArrayLen", desc := "([BI)B" } : Jvm.MethodName) jdk_52_method_15_code (2 : Nat) (Option.some Jvm.ClassFile.FieldType.byte)).before args0 about1 = true := code_word (m := ⟨8, 1⟩) (meth := k8m1) (c := k8c1) (by decide +kernel) rfl rfl rfl (by decide +kernel)
set_option maxRecDepth 65536 in
theorem w_c8 : (Jvm.Cond.code ({ cls := "org/linkweave/core/TermDefinition", name := "<init>", desc := "(Ljava/lang/String;ZZLjava/lang/String;Ljava/util/Set;ZLjava/lang/String;ZLjava/lang/String;Ljava/lang/String;Lorg/linkweave/core/TermDefinition$ScopedContext;Ljava/lang/String;Z)V" } : Jvm.MethodName) prog_76_method_1_code (14 : Nat) (Option.none : Option Jvm.ClassFile.FieldType)).before args0 about1 = true := code_word (m := ⟨10, 0⟩) (meth := k10m0) (c := k10c0) (by decide +kernel) rfl rfl rfl (by decide +kernel)
set_option maxRecDepth 65536 in
theorem w_c9 : (Jvm.Cond.code ({ cls := "java/lang/Record", name := "<init>", desc := "()V" } : Jvm.MethodName) jdk_30_method_1_code (1 : Nat) (Option.none : Option Jvm.ClassFile.FieldType)).before args0 about1 = true := code_word (m := ⟨9, 0⟩) (meth := k9m0) (c := k9c0) (by decide +kernel) rfl rfl rfl (by decide +kernel)
set_option maxRecDepth 65536 in
theorem w_c10 : (Jvm.Cond.code ({ cls := "org/linkweave/core/TermDefinition", name := "language", desc := "(Ljava/lang/String;)Ljava/lang/String;" } : Jvm.MethodName) prog_76_method_3_code (2 : Nat) (Option.some (Jvm.ClassFile.FieldType.object "java/lang/String"))).before args0 about1 = true := code_word (m := ⟨10, 1⟩) (meth := k10m1) (c := k10c1) (by decide +kernel) rfl rfl rfl (by decide +kernel)
def codes1 : List Jvm.Cond := [Jvm.Cond.code x code maxLocals ret, Jvm.Cond.code ({ cls := "org/linkweave/core/TermDefinitionLanguagePinLaw", name := "str", desc := "(I)Ljava/lang/String;" } : Jvm.MethodName) method_3_code (2 : Nat) (Option.some (Jvm.ClassFile.FieldType.object "java/lang/String")), Jvm.Cond.code ({ cls := "java/lang/String", name := "<init>", desc := "([C)V" } : Jvm.MethodName) jdk_42_method_3_code (2 : Nat) (Option.none : Option Jvm.ClassFile.FieldType), Jvm.Cond.code ({ cls := "java/lang/String", name := "<init>", desc := "([CIILjava/lang/Void;)V" } : Jvm.MethodName) jdk_42_method_149_code (6 : Nat) (Option.none : Option Jvm.ClassFile.FieldType), Jvm.Cond.code ({ cls := "java/lang/Object", name := "<init>", desc := "()V" } : Jvm.MethodName) object_method_1_code (1 : Nat) (Option.none : Option Jvm.ClassFile.FieldType), Jvm.Cond.code ({ cls := "java/lang/StringUTF16", name := "compress", desc := "([CII)[B" } : Jvm.MethodName) jdk_52_method_16_code (6 : Nat) (Option.some (Jvm.ClassFile.FieldType.array Jvm.ClassFile.FieldType.byte)), Jvm.Cond.code ({ cls := "java/lang/StringUTF16", name := "compress", desc := "([CI[BII)I" } : Jvm.MethodName) jdk_52_method_21_code (7 : Nat) (Option.some Jvm.ClassFile.FieldType.int), Jvm.Cond.code ({ cls := "java/lang/StringUTF16", name := "coderFromArrayLen", desc := "([BI)B" } : Jvm.MethodName) jdk_52_method_15_code (2 : Nat) (Option.some Jvm.ClassFile.FieldType.byte), Jvm.Cond.code ({ cls := "org/linkweave/core/TermDefinition", name := "<init>", desc := "(Ljava/lang/String;ZZLjava/lang/String;Ljava/util/Set;ZLjava/lang/String;ZLjava/lang/String;Ljava/lang/String;Lorg/linkweave/core/TermDefinition$ScopedContext;Ljava/lang/String;Z)V" } : Jvm.MethodName) prog_76_method_1_code (14 : Nat) (Option.none : Option Jvm.ClassFile.FieldType), Jvm.Cond.code ({ cls := "java/lang/Record", name := "<init>", desc := "()V" } : Jvm.MethodName) jdk_30_method_1_code (1 : Nat) (Option.none : Option Jvm.ClassFile.FieldType), Jvm.Cond.code ({ cls := "org/linkweave/core/TermDefinition", name := "language", desc := "(Ljava/lang/String;)Ljava/lang/String;" } : Jvm.MethodName) prog_76_method_3_code (2 : Nat) (Option.some (Jvm.ClassFile.FieldType.object "java/lang/String"))]
set_option maxRecDepth 65536 in
theorem codes_eq : words1.filter isCode = codes1 := rfl
theorem w_codes : ∀ c ∈ words1.filter isCode, c.before args0 about1 = true := by
  rw [codes_eq]
  intro c hc
  simp only [codes1, List.mem_cons, List.not_mem_nil, or_false] at hc
  rcases hc with rfl | rfl | rfl | rfl | rfl | rfl | rfl | rfl | rfl | rfl | rfl
  · exact w_c0
  · exact w_c1
  · exact w_c2
  · exact w_c3
  · exact w_c4
  · exact w_c5
  · exact w_c6
  · exact w_c7
  · exact w_c8
  · exact w_c9
  · exact w_c10
set_option maxRecDepth 65536 in
theorem w_t1 : (words1.take 24).all (fun c => isCode c || c.before args0 about1) = true := by decide +kernel
set_option maxRecDepth 65536 in
theorem w_t2 : ((words1.drop 24).take 24).all (fun c => isCode c || c.before args0 about1) = true := by decide +kernel
set_option maxRecDepth 65536 in
theorem w_t3 : (((words1.drop 24).drop 24).take 24).all (fun c => isCode c || c.before args0 about1) = true := by decide +kernel
set_option maxRecDepth 65536 in
theorem w_t4 : (((words1.drop 24).drop 24).drop 24).all (fun c => isCode c || c.before args0 about1) = true := by decide +kernel
theorem w_tables : (allAtoms (Jvm.Cond.code x code maxLocals ret :: tables_1)).before args0 about1 = true := by
  rw [allAtoms_all]
  show words1.all (fun c => c.before args0 about1) = true
  refine all_split ?_ w_codes
  rw [← List.take_append_drop 24 words1, List.all_append, w_t1, ← List.take_append_drop 24 (words1.drop 24), List.all_append, w_t2, ← List.take_append_drop 24 ((words1.drop 24).drop 24), List.all_append, w_t3, w_t4]
  rfl
set_option maxRecDepth 65536 in
theorem w_rest : rest_1_c.before args0 about1 = true := by decide +kernel
set_option maxRecDepth 65536 in
theorem w_case : (Jvm.Cond.and given_1 narrow_1).before args0 about1 = true := by decide +kernel
theorem w_applies : (headSpec (Jvm.Cond.code x code maxLocals ret :: tables_1) room_1).applies x e0.platform about1 = true :=
  (Spec.applies_iff w_frames).mpr ⟨w_running, w_runnable, w_alone, w_named, w_hears, w_ripe, w_room, w_tables⟩
theorem atStart : AtStart classFile x code maxLocals ret World_1 tables_1 room_1 Calls_1 rest_1 Pre_1 launch0 p0 e0 about1 theMethod args0 below0 :=
  ⟨lists_1, trivial, launch0.admits_env _ _ _, launch0.least_env, fairChoices_fair.cas, fairChoices_fair.clock, w_frames, w_args, w_heap, w_applies, trivial, w_rest, w_case⟩
end start1
theorem witness_1 : WitnessClaimed_1 := ⟨start1.p0, start1.e0, start1.about1, start1.theMethod, start1.args0, start1.below0, start1.atStart⟩
end Jvm.Pilot.@@N@@
