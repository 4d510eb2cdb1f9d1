import JvmDerived
import JvmDerived.Pilot.@@N@@Statement
import JvmDerived.Pilot.@@N@@Code
set_option linter.unusedVariables false
set_option linter.unusedSimpArgs false
namespace Jvm.OwnKit
open Sem ClassFile Op Lib Jvm.Stand Jvm.Free Jvm.LawKit Jvm.RoadKit
section New
variable {p : Program} {l : Launch} {e : Env} {R : Room} {s : State} {m : MethodId} {args : Array Value} {below : List Frame} {meth : Method} {c : Code} {T T' : State} {locs : List Loc} {cells slots : Nat} {g g' : JFrame} {F : Outcome → State → Prop}
/-- from here the body runs to its end, and F says what is there -/
def Go (p : Program) (e : Env) (below : List Frame) (T : State) (g : JFrame) (F : Outcome → State → Prop) : Prop :=
  ∃ s₂ o, Steps p.tables e below (T.setTop g) s₂ ∧ s₂.status = .running ∧ Ended s₂ below o ∧ F o s₂
theorem Go.step (st : ∀ t, Steps p.tables e below (T'.setTop g') t → Steps p.tables e below (T.setTop g) t) (k : Go p e below T' g' F) : Go p e below T g F := by
  obtain ⟨a, o, h1, h2⟩ := k
  exact ⟨a, o, st _ h1, h2⟩
theorem Go.call (st : Steps p.tables e below (T.setTop g) (T'.setTop g')) (k : Go p e below T' g' F) : Go p e below T g F := by
  obtain ⟨a, o, h1, h2⟩ := k
  exact ⟨a, o, st.trans h1, h2⟩
abbrev Fin (s : State) (Q : Option Value → Heap → List Loc → Prop) (C S : Nat) : Outcome → State → Prop := fun o U' => ∃ v L, o = .returned v ∧ Q v U'.heap L ∧ FrameEnd s o U' L C S
variable {Q : Option Value → Heap → List Loc → Prop} {C S : Nat}
theorem Go.ret0 (X : Stand p l e R s m args below meth c T locs cells slots) (hx : p.tables.exec = Jvm.exec) {pc : Nat} {Ls : Array Slot} (hret : meth.sig.returnType = none) (hlk : meth.locks = false) (hd : decode c.code pc = .ok (.return_, 1))
    (hQ : Q none T.heap locs) (h1 : cells ≤ C) (h2 : slots ≤ S) : Go p e below T (mkF m pc Ls []) (Fin s Q C S) := by
  obtain ⟨fs, hr, hrun, hended, hW, hsame⟩ := X.leave (v := none) (fun _ => rfl) hlk
  exact ⟨_, _, X.returnOut hx hret hd hr, hrun, hended, _, _, rfl, hQ, ⟨_, rfl⟩, hW, hsame.mono h1 h2⟩
theorem Go.retI (X : Stand p l e R s m args below meth c T locs cells slots) (hx : p.tables.exec = Jvm.exec) {pc : Nat} {Ls : Array Slot} {z : Int32} {rest : List Value} (hret : meth.sig.returnType = some .int) (hlk : meth.locks = false) (hd : decode c.code pc = .ok (.ireturn, 1))
    (hQ : Q (some (.int z)) T.heap locs) (h1 : cells ≤ C) (h2 : slots ≤ S) : Go p e below T (mkF m pc Ls (.int z :: rest)) (Fin s Q C S) := by
  obtain ⟨fs, hr, hrun, hended, hW, hsame⟩ := X.leave (v := some (.int z)) (fun h => by rw [hret] at h; cases h) hlk
  exact ⟨_, _, retOut X hx hret rfl (Or.inl ⟨rfl, Or.inl rfl, _, rfl⟩) hd hr, hrun, hended, _, _, rfl, hQ, ⟨_, rfl⟩, hW, hsame.mono h1 h2⟩
theorem Go.retL (X : Stand p l e R s m args below meth c T locs cells slots) (hx : p.tables.exec = Jvm.exec) {pc : Nat} {Ls : Array Slot} {z : Int64} {rest : List Value} (hret : meth.sig.returnType = some .long) (hlk : meth.locks = false) (hd : decode c.code pc = .ok (.lreturn, 1))
    (hQ : Q (some (.long z)) T.heap locs) (h1 : cells ≤ C) (h2 : slots ≤ S) : Go p e below T (mkF m pc Ls (.long z :: rest)) (Fin s Q C S) := by
  obtain ⟨fs, hr, hrun, hended, hW, hsame⟩ := X.leave (v := some (.long z)) (fun h => by rw [hret] at h; cases h) hlk
  exact ⟨_, _, retOut X hx hret rfl (Or.inr (Or.inl ⟨rfl, rfl, _, rfl⟩)) hd hr, hrun, hended, _, _, rfl, hQ, ⟨_, rfl⟩, hW, hsame.mono h1 h2⟩
theorem Go.retA (X : Stand p l e R s m args below meth c T locs cells slots) (hx : p.tables.exec = Jvm.exec) {pc : Nat} {Ls : Array Slot} {w : Value} {t : FieldType} {rest : List Value} (hret : meth.sig.returnType = some t) (ht : t.isReference = true) (hv : w.isRef = true) (hlk : meth.locks = false) (hd : decode c.code pc = .ok (.areturn, 1))
    (hQ : Q (some w) T.heap locs) (h1 : cells ≤ C) (h2 : slots ≤ S) : Go p e below T (mkF m pc Ls (w :: rest)) (Fin s Q C S) := by
  obtain ⟨fs, hr, hrun, hended, hW, hsame⟩ := X.leave (v := some w) (fun h => by rw [hret] at h; cases h) hlk
  have hn : narrow t w = w := by cases w <;> cases t <;> simp_all [narrow, Value.isRef, FieldType.isReference]
  exact ⟨_, _, retOut X hx hret hn (Or.inr (Or.inr (Or.inr (Or.inr ⟨rfl, ht, hv⟩)))) hd hr, hrun, hended, _, _, rfl, hQ, ⟨_, rfl⟩, hW, hsame.mono h1 h2⟩
theorem Go.retN {t : FieldType} (X : Stand p l e R s m args below meth c T locs cells slots) (hx : p.tables.exec = Jvm.exec) {pc : Nat} {Ls : Array Slot} {z z' : Int32} {rest : List Value} (hret : meth.sig.returnType = some t) (ht : t = .boolean ∨ t = .byte ∨ t = .char ∨ t = .short) (hlk : meth.locks = false) (hd : decode c.code pc = .ok (.ireturn, 1))
    (hz : nar t z = z') (hQ : Q (some (.int z')) T.heap locs) (h1 : cells ≤ C) (h2 : slots ≤ S) : Go p e below T (mkF m pc Ls (.int z :: rest)) (Fin s Q C S) := by
  subst hz
  obtain ⟨fs, hr, hrun, hended, hW, hsame⟩ := X.leave (v := some (.int (nar t z))) (fun h => by rw [hret] at h; cases h) hlk
  exact ⟨_, _, Jvm.RoadKit.retN X hx hret ht hd hr, hrun, hended, _, _, rfl, hQ, ⟨_, rfl⟩, hW, hsame.mono h1 h2⟩
theorem own_fitsRef {t : FieldType} {v : Value} (ht : t.isReference = true) (h : v.isRef = true) : fits t v = true := by cases t <;> cases v <;> simp_all [fits, Value.isRef, FieldType.isReference]
theorem own_narrowRef {t : FieldType} {v : Value} (ht : t.isReference = true) (h : v.isRef = true) : narrow t v = v := by cases v <;> cases t <;> simp_all [narrow, Value.isRef, FieldType.isReference]
theorem own_staKeep {Z : State} {h h' : Heap} {C n d : String} {v : Value} {ws : List Addr} (F : Sta Z h C n d v) (K : Keep h h' ws) (q : ∀ x ∈ ws, ∀ cell : Cell, h[x]? = some cell → cell.vm.isStatics = false) : Sta Z h' C n d v := by
  obtain ⟨cf, i, k, f, st, cell, h1, h2, h3, h4, h5, h6, h7⟩ := F
  exact ⟨cf, i, k, f, st, cell, h1, h2, h3, h4, K.2.1 st cell h5 (fun m => by rw [q st m cell h5] at h6; cases h6), h6, h7⟩
theorem own_arrKeep {Z : State} {h h' : Heap} {a : Addr} {cl : Cell} {ty : FieldType} {ws : List Addr} (F : Arr Z h a cl ty) (K : Keep h h' ws) (q : a ∉ ws) : Arr Z h' a cl ty := ⟨K.2.1 a cl F.1 q, F.2⟩
theorem own_plainE {Z : State} {h : Heap} {a : Addr} {C : String} (E : Exa Z h a C) : ∀ cell : Cell, h[a]? = some cell → cell.vm.isStatics = false := fun cell hc => by
  obtain ⟨c2, k, h1, -, -, h4, -⟩ := E
  cases hc.symm.trans h1
  exact h4
theorem own_plainV {Z : State} {h : Heap} {a : Addr} {k : ClassId} {ty : FieldType} {z : Int32} {vs : List Value} {dv : Value} (V : Arv Z h a k ty z vs dv) : ∀ cell : Cell, h[a]? = some cell → cell.vm.isStatics = false := fun cell hc => by
  obtain ⟨c2, A, -⟩ := V
  cases hc.symm.trans A.1
  exact A.plain
end New
end Jvm.OwnKit

namespace Jvm.OwnKit
open Sem ClassFile Op Lib Jvm.Stand Jvm.Free Jvm.LawKit Jvm.RoadKit
theorem own_fldI {args : Array Value} {Z : State} {t : Term} {a : Addr} {C n d : String} {k : Int32} (ev : t.eval args Z none [] Z = some (.ref a)) (h : (Cond.eq (Term.field t C n d) (Term.int k)).value args Z none Z [] = some true) : Fld Z Z.heap a C n d (.int k) := by
  obtain ⟨x, y, e1, e2, k1, k2⟩ := cmp_v (Or.inl h)
  rw [Term.int_eval] at e2
  cases e2
  obtain ⟨z, rfl⟩ := k2
  have e3 := e1
  rw [fld_at ev] at e3
  have q : z = k := by simpa [Cond.value, e1, Term.int_eval] using h
  subst q
  exact Fld.start e3

theorem own_len {args : Array Value} {Z : State} {t : Term} {a : Addr} {cl : Cell} {ty : FieldType} {k : Int32} (ev : t.eval args Z none [] Z = some (.ref a)) (A : Arr Z Z.heap a cl ty) (h : (Cond.eq (Term.length t) (Term.int k)).value args Z none Z [] = some true) : cl.slots.size < 2 ^ 31 ∧ cl.slots.size.toInt32 = k := by
  obtain ⟨x, y, e1, e2, k1, k2⟩ := cmp_v (Or.inl h)
  rw [Term.int_eval] at e2
  cases e2
  obtain ⟨z, rfl⟩ := k2
  have q : z = k := by simpa [Cond.value, e1, Term.int_eval] using h
  subst q
  have ha : Z.arrayAt? a = some cl := IntBox.arrayAt_of A.1 A.2.1 A.2.2
  have hl : cl.slots.size < 2 ^ 31 := by
    by_cases q : cl.slots.size < 2147483648
    · exact q
    · simp [Term.eval, ev, ha, q] at e1
  refine ⟨hl, ?_⟩
  have e3 := len_f ev ha hl
  rw [e3] at e1
  simpa using e1
theorem own_size {n : Nat} {k : Int32} (h : n < 2 ^ 31) (e : n.toInt32 = k) : n = k.toNatClampNeg := by
  subst e
  have h1 := len_toInt h
  have : n.toInt32.toNatClampNeg = n := by
    show n.toInt32.toInt.toNat = n
    omega
  exact this.symm
theorem own_elemI {args : Array Value} {Z : State} {t : Term} {a : Addr} {cl : Cell} {ty : FieldType} {i k : Int32} (ev : t.eval args Z none [] Z = some (.ref a)) (A : Arr Z Z.heap a cl ty) (h : (Cond.eq (Term.elem t (Term.int i)) (Term.int k)).value args Z none Z [] = some true) : cl.slots[i.toNatClampNeg]? = some (.int k) := by
  obtain ⟨x, y, e1, e2, k1, k2⟩ := cmp_v (Or.inl h)
  rw [Term.int_eval] at e2
  cases e2
  obtain ⟨z, rfl⟩ := k2
  have q : z = k := by simpa [Cond.value, e1, Term.int_eval] using h
  subst q
  exact (elem_in e1 ev (Term.int_eval _) A.1).2
theorem own_elemR {args : Array Value} {Z : State} {t u : Term} {a w : Addr} {cl : Cell} {ty : FieldType} {i : Int32} (ev : t.eval args Z none [] Z = some (.ref a)) (A : Arr Z Z.heap a cl ty) (eu : u.eval args Z none [] Z = some (.ref w)) (h : (Cond.eq (Term.elem t (Term.int i)) u).value args Z none Z [] = some true) : cl.slots[i.toNatClampNeg]? = some (.ref w) := by
  obtain ⟨x, y, e1, e2, k1, k2⟩ := cmp_v (Or.inl h)
  cases eu.symm.trans e2
  have q : x = .ref w := gotT (eq_R e1 eu k2.2 rfl) h
  subst q
  exact (elem_in e1 ev (Term.int_eval _) A.1).2

end Jvm.OwnKit

namespace Jvm.OwnKit
open Jvm.RoadKit Jvm.Free
def own_F : List Int32 := [0, 1, 1, 2, 3, 5, 8, 13, 21, 34, 55, 89, 144, 233, 377, 610, 987, 1597, 2584, 4181, 6765, 10946, 17711, 28657, 46368, 75025, 121393, 196418, 317811, 514229, 832040, 1346269, 2178309, 3524578, 5702887, 9227465, 14930352, 24157817, 39088169, 63245986, 102334155, 165580141, 267914296, 433494437, 701408733, 1134903170, 1836311903]
def own_f (i : Nat) : Int32 := own_F.getD i 0
def own_V : List Value := [.long (0 : Int64), .long (1 : Int64), .long (1 : Int64), .long (2 : Int64), .long (3 : Int64), .long (5 : Int64), .long (8 : Int64), .long (13 : Int64), .long (21 : Int64), .long (34 : Int64), .long (55 : Int64), .long (89 : Int64), .long (144 : Int64), .long (233 : Int64), .long (377 : Int64), .long (610 : Int64), .long (987 : Int64), .long (1597 : Int64), .long (2584 : Int64), .long (4181 : Int64), .long (6765 : Int64), .long (10946 : Int64), .long (17711 : Int64), .long (28657 : Int64), .long (46368 : Int64), .long (75025 : Int64), .long (121393 : Int64), .long (196418 : Int64), .long (317811 : Int64), .long (514229 : Int64), .long (832040 : Int64), .long (1346269 : Int64), .long (2178309 : Int64), .long (3524578 : Int64), .long (5702887 : Int64), .long (9227465 : Int64), .long (14930352 : Int64), .long (24157817 : Int64), .long (39088169 : Int64), .long (63245986 : Int64), .long (102334155 : Int64), .long (165580141 : Int64), .long (267914296 : Int64), .long (433494437 : Int64), .long (701408733 : Int64), .long (1134903170 : Int64), .long (1836311903 : Int64)]
theorem own_all {P : Nat → Prop} (h0 : P 0) (h1 : P 1) (h2 : P 2) (h3 : P 3) (h4 : P 4) (h5 : P 5) (h6 : P 6) (h7 : P 7) (h8 : P 8) (h9 : P 9) (h10 : P 10) (h11 : P 11) (h12 : P 12) (h13 : P 13) (h14 : P 14) (h15 : P 15) (h16 : P 16) (h17 : P 17) (h18 : P 18) (h19 : P 19) (h20 : P 20) (h21 : P 21) (h22 : P 22) (h23 : P 23) (h24 : P 24) (h25 : P 25) (h26 : P 26) (h27 : P 27) (h28 : P 28) (h29 : P 29) (h30 : P 30) (h31 : P 31) (h32 : P 32) (h33 : P 33) (h34 : P 34) (h35 : P 35) (h36 : P 36) (h37 : P 37) (h38 : P 38) (h39 : P 39) (h40 : P 40) (h41 : P 41) (h42 : P 42) (h43 : P 43) (h44 : P 44) (h45 : P 45) (h46 : P 46) : ∀ i, i < 47 → P i := fun i hi => match i, hi with
  | 0, _ => h0
  | 1, _ => h1
  | 2, _ => h2
  | 3, _ => h3
  | 4, _ => h4
  | 5, _ => h5
  | 6, _ => h6
  | 7, _ => h7
  | 8, _ => h8
  | 9, _ => h9
  | 10, _ => h10
  | 11, _ => h11
  | 12, _ => h12
  | 13, _ => h13
  | 14, _ => h14
  | 15, _ => h15
  | 16, _ => h16
  | 17, _ => h17
  | 18, _ => h18
  | 19, _ => h19
  | 20, _ => h20
  | 21, _ => h21
  | 22, _ => h22
  | 23, _ => h23
  | 24, _ => h24
  | 25, _ => h25
  | 26, _ => h26
  | 27, _ => h27
  | 28, _ => h28
  | 29, _ => h29
  | 30, _ => h30
  | 31, _ => h31
  | 32, _ => h32
  | 33, _ => h33
  | 34, _ => h34
  | 35, _ => h35
  | 36, _ => h36
  | 37, _ => h37
  | 38, _ => h38
  | 39, _ => h39
  | 40, _ => h40
  | 41, _ => h41
  | 42, _ => h42
  | 43, _ => h43
  | 44, _ => h44
  | 45, _ => h45
  | 46, _ => h46
  | n + 47, h => absurd h (by omega)
theorem own_vals : ∀ i, i < 47 → own_V.getD i (.long 0) = .long (own_f i).toInt64 := own_all rfl rfl rfl rfl rfl rfl rfl rfl rfl rfl rfl rfl rfl rfl rfl rfl rfl rfl rfl rfl rfl rfl rfl rfl rfl rfl rfl rfl rfl rfl rfl rfl rfl rfl rfl rfl rfl rfl rfl rfl rfl rfl rfl rfl rfl rfl rfl
theorem own_rec : ∀ i, i < 45 → (own_f (i + 2)).toInt64.toInt = (own_f (i + 1)).toInt64.toInt + (own_f i).toInt64.toInt := by decide +kernel
theorem own_pos : ∀ i, i < 46 → 0 < (own_f (i + 1)).toInt64.toInt ∧ (own_f (i + 1)).toInt64.toInt ≤ 1836311903 := by decide +kernel
theorem own_up1 : ∀ i, i < 44 → (own_f (i + 2)).toInt64.toInt < (own_f (i + 3)).toInt64.toInt := by decide +kernel
theorem own_mono : ∀ d j, 2 ≤ j → j + d < 47 → (own_f j).toInt64.toInt ≤ (own_f (j + d)).toInt64.toInt := by
  intro d
  induction d with
  | zero => intro j _ _; exact Int.le_refl _
  | succ d ih =>
    intro j h1 h2
    have a := ih j h1 (by omega)
    have b := own_up1 (j + d - 2) (by omega)
    rw [show j + d - 2 + 2 = j + d from by omega, show j + d - 2 + 3 = j + (d + 1) from by omega] at b
    omega
def own_R (f : Nat → Int32) (q r : Int64) : Prop := (∃ n, 3 ≤ n ∧ n < 47 ∧ r = (f n).toInt64 ∧ ¬ (f n).toInt64 < q ∧ ∀ j, 3 ≤ j → j < n → (f j).toInt64 < q) ∨ (r = -1 ∧ ∀ j, 3 ≤ j → j < 47 → (f j).toInt64 < q)
theorem own_R_at {f : Nat → Int32} {q r : Int64} {i : Nat} (h : own_R f q r) (h1 : 3 ≤ i) (h2 : i < 47) (h3 : ∀ j, 3 ≤ j → j < i → (f j).toInt64 < q) (h4 : ¬ (f i).toInt64 < q) : (f i).toInt64 = r := by
  rcases h with ⟨n, a1, a2, rfl, a4, a5⟩ | ⟨-, a5⟩
  · rcases Nat.lt_trichotomy i n with b | b | b
    · exact absurd (a5 i h1 b) h4
    · rw [b]
    · exact absurd (h3 n a1 b) a4
  · exact absurd (a5 i h1 h2) h4
theorem own_R_end {f : Nat → Int32} {q r : Int64} (h : own_R f q r) (h3 : ∀ j, 3 ≤ j → j < 47 → (f j).toInt64 < q) : (-1 : Int64) = r := by
  rcases h with ⟨n, a1, a2, rfl, a4, a5⟩ | ⟨a, -⟩
  · exact absurd (h3 n a1 a2) a4
  · exact a.symm
theorem own_clamp {i : Nat} (h : i < 2 ^ 31) : (Int32.ofNat i).toNatClampNeg = i := by
  have h1 : (Int32.ofNat i).toInt = i := len_toInt h
  show (Int32.ofNat i).toInt.toNat = i
  omega
theorem own_lt {i n : Nat} (h : i < n) (hn : n < 2 ^ 31) : Int32.ofNat i < Int32.ofNat n := by
  rw [Int32.lt_iff_toInt_lt]
  have h1 : (Int32.ofNat i).toInt = i := len_toInt (by omega)
  have h2 : (Int32.ofNat n).toInt = n := len_toInt hn
  omega
theorem own_mod45 (x : Int32) : ∃ k : Nat, k < 45 ∧ (x &&& (2147483647 : Int32)) % (45 : Int32) = Int32.ofNat k := by
  have h1 := c_and x 2147483647 (by decide)
  have h2 := (c_irem (x &&& 2147483647) 45 45 (by decide)).1 h1.1
  refine ⟨((x &&& 2147483647) % 45).toInt.toNat, by omega, ?_⟩
  apply Int32.toInt_inj.mp
  have h3 : (Int32.ofNat ((x &&& 2147483647) % 45).toInt.toNat).toInt = (((x &&& 2147483647) % 45).toInt.toNat : Nat) := len_toInt (by omega)
  rw [h3]
  omega
theorem own_add (k c : Nat) : Int32.ofNat k + Int32.ofNat c = Int32.ofNat (k + c) := (Int32.ofNat_add k c).symm
theorem own_sub (k c : Nat) : Int32.ofNat (k + c) - Int32.ofNat c = Int32.ofNat k := by rw [Int32.ofNat_add, Int32.add_sub_cancel]
/-- the least length: 2 -/
theorem own_low (a r : Int64) (hr : r = if (0 : Int32) < lcmpW a 2 then 2 else a) : own_R own_f r 2 := by
  refine Or.inl ⟨3, by decide, by decide, by decide, ?_, fun j h1 h2 => by omega⟩
  have h3 : (own_f 3).toInt64 = 2 := by decide
  rw [h3, Int64.lt_iff_toInt_lt]
  have h4 : (2 : Int64).toInt = 2 := by decide
  by_cases h : (0 : Int32) < lcmpW a 2
  · rw [hr, if_pos h]; omega
  · rw [hr, if_neg h]
    rw [lw_gt, Int64.lt_iff_toInt_lt] at h
    exact h
theorem own_high (a r : Int64) (hr : r = if lcmpW a 1836311904 < (0 : Int32) then 1836311904 else a) : own_R own_f r (-1) := by
  refine Or.inr ⟨rfl, fun j h1 h2 => ?_⟩
  have h3 := own_pos (j - 1) (by omega)
  rw [show j - 1 + 1 = j from by omega] at h3
  rw [Int64.lt_iff_toInt_lt]
  have h4 : (1836311904 : Int64).toInt = 1836311904 := by decide
  by_cases h : lcmpW a 1836311904 < (0 : Int32)
  · rw [hr, if_pos h]; omega
  · rw [hr, if_neg h]
    rw [lw_lt, Int64.lt_iff_toInt_lt] at h
    omega
theorem own_mid (b : Int64) (k : Nat) (h1 : 1 ≤ k) (h2 : k < 44) : own_R own_f ((own_f (k + 3)).toInt64 - ((b &&& (9223372036854775807 : Int64)) - ((b &&& (9223372036854775807 : Int64)) / (own_f (k + 1)).toInt64) * (own_f (k + 1)).toInt64)) (own_f (k + 3)).toInt64 := by
  have m1 := c_maskL b 9223372036854775807 63 (by decide) (by decide)
  have m0 : 0 ≤ (b &&& (9223372036854775807 : Int64)).toInt := by rw [m1]; omega
  have m2 := (c_lrem (b &&& (9223372036854775807 : Int64)) (own_f (k + 1)).toInt64 _ rfl).1 m0
  generalize (b &&& (9223372036854775807 : Int64)) - ((b &&& (9223372036854775807 : Int64)) / (own_f (k + 1)).toInt64) * (own_f (k + 1)).toInt64 = r at m2 ⊢
  have p1 := own_pos k (by omega)
  have p3 := own_pos (k + 2) (by omega)
  have q1 := Int.emod_nonneg (b &&& (9223372036854775807 : Int64)).toInt (show (own_f (k + 1)).toInt64.toInt ≠ 0 by omega)
  have q2 := Int.emod_lt_of_pos (b &&& (9223372036854775807 : Int64)).toInt p1.1
  have s := c_lsub (own_f (k + 3)).toInt64 r
  have t := rng64 ((own_f (k + 3)).toInt64 - r)
  have u := own_rec (k + 1) (by omega)
  refine Or.inl ⟨k + 3, by omega, by omega, rfl, ?_, fun j j1 j2 => ?_⟩
  · rw [Int64.lt_iff_toInt_lt]
    rw [show k + 2 + 1 = k + 3 from rfl] at p3
    omega
  · rw [Int64.lt_iff_toInt_lt]
    have v := own_mono (k + 2 - j) j (by omega) (by omega)
    rw [show j + (k + 2 - j) = k + 2 from by omega] at v
    rw [show k + 2 + 1 = k + 3 from rfl] at p3
    rw [show k + 1 + 2 = k + 3 from rfl, show k + 1 + 1 = k + 2 from rfl] at u
    omega
end Jvm.OwnKit
namespace Jvm.Pilot.@@N@@
open Jvm Jvm.ClassFile Sem Op Lib Jvm.Free Jvm.Stand Jvm.LawKit Jvm.RoadKit Jvm.OwnKit Bundle Jvm.Pilot.@@N@@.Jvm.D
theorem d1_0 : decode method_2_code 0 = .ok (.bipush 47, 2) := by decide +kernel
theorem d1_2 : decode method_2_code 2 = .ok (.newarray .long, 2) := by decide +kernel
theorem d1_4 : decode method_2_code 4 = .ok (.dup, 1) := by decide +kernel
theorem d1_5 : decode method_2_code 5 = .ok (.iconst 0, 1) := by decide +kernel
theorem d1_6 : decode method_2_code 6 = .ok (.lconst 0, 1) := by decide +kernel
theorem d1_7 : decode method_2_code 7 = .ok (.lastore, 1) := by decide +kernel
theorem d1_8 : decode method_2_code 8 = .ok (.dup, 1) := by decide +kernel
theorem d1_9 : decode method_2_code 9 = .ok (.iconst 1, 1) := by decide +kernel
theorem d1_10 : decode method_2_code 10 = .ok (.lconst 1, 1) := by decide +kernel
theorem d1_11 : decode method_2_code 11 = .ok (.lastore, 1) := by decide +kernel
theorem d1_12 : decode method_2_code 12 = .ok (.dup, 1) := by decide +kernel
theorem d1_13 : decode method_2_code 13 = .ok (.iconst 2, 1) := by decide +kernel
theorem d1_14 : decode method_2_code 14 = .ok (.lconst 1, 1) := by decide +kernel
theorem d1_15 : decode method_2_code 15 = .ok (.lastore, 1) := by decide +kernel
theorem d1_16 : decode method_2_code 16 = .ok (.dup, 1) := by decide +kernel
theorem d1_17 : decode method_2_code 17 = .ok (.iconst 3, 1) := by decide +kernel
theorem d1_18 : decode method_2_code 18 = .ok (.ldc2_w 7, 3) := by decide +kernel
theorem d1_21 : decode method_2_code 21 = .ok (.lastore, 1) := by decide +kernel
theorem d1_22 : decode method_2_code 22 = .ok (.dup, 1) := by decide +kernel
theorem d1_23 : decode method_2_code 23 = .ok (.iconst 4, 1) := by decide +kernel
theorem d1_24 : decode method_2_code 24 = .ok (.ldc2_w 9, 3) := by decide +kernel
theorem d1_27 : decode method_2_code 27 = .ok (.lastore, 1) := by decide +kernel
theorem d1_28 : decode method_2_code 28 = .ok (.dup, 1) := by decide +kernel
theorem d1_29 : decode method_2_code 29 = .ok (.iconst 5, 1) := by decide +kernel
theorem d1_30 : decode method_2_code 30 = .ok (.ldc2_w 11, 3) := by decide +kernel
theorem d1_33 : decode method_2_code 33 = .ok (.lastore, 1) := by decide +kernel
theorem d1_34 : decode method_2_code 34 = .ok (.dup, 1) := by decide +kernel
theorem d1_35 : decode method_2_code 35 = .ok (.bipush 6, 2) := by decide +kernel
theorem d1_37 : decode method_2_code 37 = .ok (.ldc2_w 13, 3) := by decide +kernel
theorem d1_40 : decode method_2_code 40 = .ok (.lastore, 1) := by decide +kernel
theorem d1_41 : decode method_2_code 41 = .ok (.dup, 1) := by decide +kernel
theorem d1_42 : decode method_2_code 42 = .ok (.bipush 7, 2) := by decide +kernel
theorem d1_44 : decode method_2_code 44 = .ok (.ldc2_w 15, 3) := by decide +kernel
theorem d1_47 : decode method_2_code 47 = .ok (.lastore, 1) := by decide +kernel
theorem d1_48 : decode method_2_code 48 = .ok (.dup, 1) := by decide +kernel
theorem d1_49 : decode method_2_code 49 = .ok (.bipush 8, 2) := by decide +kernel
theorem d1_51 : decode method_2_code 51 = .ok (.ldc2_w 17, 3) := by decide +kernel
theorem d1_54 : decode method_2_code 54 = .ok (.lastore, 1) := by decide +kernel
theorem d1_55 : decode method_2_code 55 = .ok (.dup, 1) := by decide +kernel
theorem d1_56 : decode method_2_code 56 = .ok (.bipush 9, 2) := by decide +kernel
theorem d1_58 : decode method_2_code 58 = .ok (.ldc2_w 19, 3) := by decide +kernel
theorem d1_61 : decode method_2_code 61 = .ok (.lastore, 1) := by decide +kernel
theorem d1_62 : decode method_2_code 62 = .ok (.dup, 1) := by decide +kernel
theorem d1_63 : decode method_2_code 63 = .ok (.bipush 10, 2) := by decide +kernel
theorem d1_65 : decode method_2_code 65 = .ok (.ldc2_w 21, 3) := by decide +kernel
theorem d1_68 : decode method_2_code 68 = .ok (.lastore, 1) := by decide +kernel
theorem d1_69 : decode method_2_code 69 = .ok (.dup, 1) := by decide +kernel
theorem d1_70 : decode method_2_code 70 = .ok (.bipush 11, 2) := by decide +kernel
theorem d1_72 : decode method_2_code 72 = .ok (.ldc2_w 23, 3) := by decide +kernel
theorem d1_75 : decode method_2_code 75 = .ok (.lastore, 1) := by decide +kernel
theorem d1_76 : decode method_2_code 76 = .ok (.dup, 1) := by decide +kernel
theorem d1_77 : decode method_2_code 77 = .ok (.bipush 12, 2) := by decide +kernel
theorem d1_79 : decode method_2_code 79 = .ok (.ldc2_w 25, 3) := by decide +kernel
theorem d1_82 : decode method_2_code 82 = .ok (.lastore, 1) := by decide +kernel
theorem d1_83 : decode method_2_code 83 = .ok (.dup, 1) := by decide +kernel
theorem d1_84 : decode method_2_code 84 = .ok (.bipush 13, 2) := by decide +kernel
theorem d1_86 : decode method_2_code 86 = .ok (.ldc2_w 27, 3) := by decide +kernel
theorem d1_89 : decode method_2_code 89 = .ok (.lastore, 1) := by decide +kernel
theorem d1_90 : decode method_2_code 90 = .ok (.dup, 1) := by decide +kernel
theorem d1_91 : decode method_2_code 91 = .ok (.bipush 14, 2) := by decide +kernel
theorem d1_93 : decode method_2_code 93 = .ok (.ldc2_w 29, 3) := by decide +kernel
theorem d1_96 : decode method_2_code 96 = .ok (.lastore, 1) := by decide +kernel
theorem d1_97 : decode method_2_code 97 = .ok (.dup, 1) := by decide +kernel
theorem d1_98 : decode method_2_code 98 = .ok (.bipush 15, 2) := by decide +kernel
theorem d1_100 : decode method_2_code 100 = .ok (.ldc2_w 31, 3) := by decide +kernel
theorem d1_103 : decode method_2_code 103 = .ok (.lastore, 1) := by decide +kernel
theorem d1_104 : decode method_2_code 104 = .ok (.dup, 1) := by decide +kernel
theorem d1_105 : decode method_2_code 105 = .ok (.bipush 16, 2) := by decide +kernel
theorem d1_107 : decode method_2_code 107 = .ok (.ldc2_w 33, 3) := by decide +kernel
theorem d1_110 : decode method_2_code 110 = .ok (.lastore, 1) := by decide +kernel
theorem d1_111 : decode method_2_code 111 = .ok (.dup, 1) := by decide +kernel
theorem d1_112 : decode method_2_code 112 = .ok (.bipush 17, 2) := by decide +kernel
theorem d1_114 : decode method_2_code 114 = .ok (.ldc2_w 35, 3) := by decide +kernel
theorem d1_117 : decode method_2_code 117 = .ok (.lastore, 1) := by decide +kernel
theorem d1_118 : decode method_2_code 118 = .ok (.dup, 1) := by decide +kernel
theorem d1_119 : decode method_2_code 119 = .ok (.bipush 18, 2) := by decide +kernel
theorem d1_121 : decode method_2_code 121 = .ok (.ldc2_w 37, 3) := by decide +kernel
theorem d1_124 : decode method_2_code 124 = .ok (.lastore, 1) := by decide +kernel
theorem d1_125 : decode method_2_code 125 = .ok (.dup, 1) := by decide +kernel
theorem d1_126 : decode method_2_code 126 = .ok (.bipush 19, 2) := by decide +kernel
theorem d1_128 : decode method_2_code 128 = .ok (.ldc2_w 39, 3) := by decide +kernel
theorem d1_131 : decode method_2_code 131 = .ok (.lastore, 1) := by decide +kernel
theorem d1_132 : decode method_2_code 132 = .ok (.dup, 1) := by decide +kernel
theorem d1_133 : decode method_2_code 133 = .ok (.bipush 20, 2) := by decide +kernel
theorem d1_135 : decode method_2_code 135 = .ok (.ldc2_w 41, 3) := by decide +kernel
theorem d1_138 : decode method_2_code 138 = .ok (.lastore, 1) := by decide +kernel
theorem d1_139 : decode method_2_code 139 = .ok (.dup, 1) := by decide +kernel
theorem d1_140 : decode method_2_code 140 = .ok (.bipush 21, 2) := by decide +kernel
theorem d1_142 : decode method_2_code 142 = .ok (.ldc2_w 43, 3) := by decide +kernel
theorem d1_145 : decode method_2_code 145 = .ok (.lastore, 1) := by decide +kernel
theorem d1_146 : decode method_2_code 146 = .ok (.dup, 1) := by decide +kernel
theorem d1_147 : decode method_2_code 147 = .ok (.bipush 22, 2) := by decide +kernel
theorem d1_149 : decode method_2_code 149 = .ok (.ldc2_w 45, 3) := by decide +kernel
theorem d1_152 : decode method_2_code 152 = .ok (.lastore, 1) := by decide +kernel
theorem d1_153 : decode method_2_code 153 = .ok (.dup, 1) := by decide +kernel
theorem d1_154 : decode method_2_code 154 = .ok (.bipush 23, 2) := by decide +kernel
theorem d1_156 : decode method_2_code 156 = .ok (.ldc2_w 47, 3) := by decide +kernel
theorem d1_159 : decode method_2_code 159 = .ok (.lastore, 1) := by decide +kernel
theorem d1_160 : decode method_2_code 160 = .ok (.dup, 1) := by decide +kernel
theorem d1_161 : decode method_2_code 161 = .ok (.bipush 24, 2) := by decide +kernel
theorem d1_163 : decode method_2_code 163 = .ok (.ldc2_w 49, 3) := by decide +kernel
theorem d1_166 : decode method_2_code 166 = .ok (.lastore, 1) := by decide +kernel
theorem d1_167 : decode method_2_code 167 = .ok (.dup, 1) := by decide +kernel
theorem d1_168 : decode method_2_code 168 = .ok (.bipush 25, 2) := by decide +kernel
theorem d1_170 : decode method_2_code 170 = .ok (.ldc2_w 51, 3) := by decide +kernel
theorem d1_173 : decode method_2_code 173 = .ok (.lastore, 1) := by decide +kernel
theorem d1_174 : decode method_2_code 174 = .ok (.dup, 1) := by decide +kernel
theorem d1_175 : decode method_2_code 175 = .ok (.bipush 26, 2) := by decide +kernel
theorem d1_177 : decode method_2_code 177 = .ok (.ldc2_w 53, 3) := by decide +kernel
theorem d1_180 : decode method_2_code 180 = .ok (.lastore, 1) := by decide +kernel
theorem d1_181 : decode method_2_code 181 = .ok (.dup, 1) := by decide +kernel
theorem d1_182 : decode method_2_code 182 = .ok (.bipush 27, 2) := by decide +kernel
theorem d1_184 : decode method_2_code 184 = .ok (.ldc2_w 55, 3) := by decide +kernel
theorem d1_187 : decode method_2_code 187 = .ok (.lastore, 1) := by decide +kernel
theorem d1_188 : decode method_2_code 188 = .ok (.dup, 1) := by decide +kernel
theorem d1_189 : decode method_2_code 189 = .ok (.bipush 28, 2) := by decide +kernel
theorem d1_191 : decode method_2_code 191 = .ok (.ldc2_w 57, 3) := by decide +kernel
theorem d1_194 : decode method_2_code 194 = .ok (.lastore, 1) := by decide +kernel
theorem d1_195 : decode method_2_code 195 = .ok (.dup, 1) := by decide +kernel
theorem d1_196 : decode method_2_code 196 = .ok (.bipush 29, 2) := by decide +kernel
theorem d1_198 : decode method_2_code 198 = .ok (.ldc2_w 59, 3) := by decide +kernel
theorem d1_201 : decode method_2_code 201 = .ok (.lastore, 1) := by decide +kernel
theorem d1_202 : decode method_2_code 202 = .ok (.dup, 1) := by decide +kernel
theorem d1_203 : decode method_2_code 203 = .ok (.bipush 30, 2) := by decide +kernel
theorem d1_205 : decode method_2_code 205 = .ok (.ldc2_w 61, 3) := by decide +kernel
theorem d1_208 : decode method_2_code 208 = .ok (.lastore, 1) := by decide +kernel
theorem d1_209 : decode method_2_code 209 = .ok (.dup, 1) := by decide +kernel
theorem d1_210 : decode method_2_code 210 = .ok (.bipush 31, 2) := by decide +kernel
theorem d1_212 : decode method_2_code 212 = .ok (.ldc2_w 63, 3) := by decide +kernel
theorem d1_215 : decode method_2_code 215 = .ok (.lastore, 1) := by decide +kernel
theorem d1_216 : decode method_2_code 216 = .ok (.dup, 1) := by decide +kernel
theorem d1_217 : decode method_2_code 217 = .ok (.bipush 32, 2) := by decide +kernel
theorem d1_219 : decode method_2_code 219 = .ok (.ldc2_w 65, 3) := by decide +kernel
theorem d1_222 : decode method_2_code 222 = .ok (.lastore, 1) := by decide +kernel
theorem d1_223 : decode method_2_code 223 = .ok (.dup, 1) := by decide +kernel
theorem d1_224 : decode method_2_code 224 = .ok (.bipush 33, 2) := by decide +kernel
theorem d1_226 : decode method_2_code 226 = .ok (.ldc2_w 67, 3) := by decide +kernel
theorem d1_229 : decode method_2_code 229 = .ok (.lastore, 1) := by decide +kernel
theorem d1_230 : decode method_2_code 230 = .ok (.dup, 1) := by decide +kernel
theorem d1_231 : decode method_2_code 231 = .ok (.bipush 34, 2) := by decide +kernel
theorem d1_233 : decode method_2_code 233 = .ok (.ldc2_w 69, 3) := by decide +kernel
theorem d1_236 : decode method_2_code 236 = .ok (.lastore, 1) := by decide +kernel
theorem d1_237 : decode method_2_code 237 = .ok (.dup, 1) := by decide +kernel
theorem d1_238 : decode method_2_code 238 = .ok (.bipush 35, 2) := by decide +kernel
theorem d1_240 : decode method_2_code 240 = .ok (.ldc2_w 71, 3) := by decide +kernel
theorem d1_243 : decode method_2_code 243 = .ok (.lastore, 1) := by decide +kernel
theorem d1_244 : decode method_2_code 244 = .ok (.dup, 1) := by decide +kernel
theorem d1_245 : decode method_2_code 245 = .ok (.bipush 36, 2) := by decide +kernel
theorem d1_247 : decode method_2_code 247 = .ok (.ldc2_w 73, 3) := by decide +kernel
theorem d1_250 : decode method_2_code 250 = .ok (.lastore, 1) := by decide +kernel
theorem d1_251 : decode method_2_code 251 = .ok (.dup, 1) := by decide +kernel
theorem d1_252 : decode method_2_code 252 = .ok (.bipush 37, 2) := by decide +kernel
theorem d1_254 : decode method_2_code 254 = .ok (.ldc2_w 75, 3) := by decide +kernel
theorem d1_257 : decode method_2_code 257 = .ok (.lastore, 1) := by decide +kernel
theorem d1_258 : decode method_2_code 258 = .ok (.dup, 1) := by decide +kernel
theorem d1_259 : decode method_2_code 259 = .ok (.bipush 38, 2) := by decide +kernel
theorem d1_261 : decode method_2_code 261 = .ok (.ldc2_w 77, 3) := by decide +kernel
theorem d1_264 : decode method_2_code 264 = .ok (.lastore, 1) := by decide +kernel
theorem d1_265 : decode method_2_code 265 = .ok (.dup, 1) := by decide +kernel
theorem d1_266 : decode method_2_code 266 = .ok (.bipush 39, 2) := by decide +kernel
theorem d1_268 : decode method_2_code 268 = .ok (.ldc2_w 79, 3) := by decide +kernel
theorem d1_271 : decode method_2_code 271 = .ok (.lastore, 1) := by decide +kernel
theorem d1_272 : decode method_2_code 272 = .ok (.dup, 1) := by decide +kernel
theorem d1_273 : decode method_2_code 273 = .ok (.bipush 40, 2) := by decide +kernel
theorem d1_275 : decode method_2_code 275 = .ok (.ldc2_w 81, 3) := by decide +kernel
theorem d1_278 : decode method_2_code 278 = .ok (.lastore, 1) := by decide +kernel
theorem d1_279 : decode method_2_code 279 = .ok (.dup, 1) := by decide +kernel
theorem d1_280 : decode method_2_code 280 = .ok (.bipush 41, 2) := by decide +kernel
theorem d1_282 : decode method_2_code 282 = .ok (.ldc2_w 83, 3) := by decide +kernel
theorem d1_285 : decode method_2_code 285 = .ok (.lastore, 1) := by decide +kernel
theorem d1_286 : decode method_2_code 286 = .ok (.dup, 1) := by decide +kernel
theorem d1_287 : decode method_2_code 287 = .ok (.bipush 42, 2) := by decide +kernel
theorem d1_289 : decode method_2_code 289 = .ok (.ldc2_w 85, 3) := by decide +kernel
theorem d1_292 : decode method_2_code 292 = .ok (.lastore, 1) := by decide +kernel
theorem d1_293 : decode method_2_code 293 = .ok (.dup, 1) := by decide +kernel
theorem d1_294 : decode method_2_code 294 = .ok (.bipush 43, 2) := by decide +kernel
theorem d1_296 : decode method_2_code 296 = .ok (.ldc2_w 87, 3) := by decide +kernel
theorem d1_299 : decode method_2_code 299 = .ok (.lastore, 1) := by decide +kernel
theorem d1_300 : decode method_2_code 300 = .ok (.dup, 1) := by decide +kernel
theorem d1_301 : decode method_2_code 301 = .ok (.bipush 44, 2) := by decide +kernel
theorem d1_303 : decode method_2_code 303 = .ok (.ldc2_w 89, 3) := by decide +kernel
theorem d1_306 : decode method_2_code 306 = .ok (.lastore, 1) := by decide +kernel
theorem d1_307 : decode method_2_code 307 = .ok (.dup, 1) := by decide +kernel
theorem d1_308 : decode method_2_code 308 = .ok (.bipush 45, 2) := by decide +kernel
theorem d1_310 : decode method_2_code 310 = .ok (.ldc2_w 91, 3) := by decide +kernel
theorem d1_313 : decode method_2_code 313 = .ok (.lastore, 1) := by decide +kernel
theorem d1_314 : decode method_2_code 314 = .ok (.dup, 1) := by decide +kernel
theorem d1_315 : decode method_2_code 315 = .ok (.bipush 46, 2) := by decide +kernel
theorem d1_317 : decode method_2_code 317 = .ok (.ldc2_w 93, 3) := by decide +kernel
theorem d1_320 : decode method_2_code 320 = .ok (.lastore, 1) := by decide +kernel
theorem d1_321 : decode method_2_code 321 = .ok (.areturn, 1) := by decide +kernel
theorem pn_0 : plainName "com/example/evenspace/evenspace/GoldenRatioCycleLengthAtLeastPinLaw" = true := by first | (simp [plainName, overriddenIn]; done) | decide +kernel
theorem ef_rm1 (m : MethodId)  : entryFrame m #[] 0 = mkF m 0 #[] [] := by first | (simp [entryFrame, mkF, argsToLocals, Value.category]; done) | rfl
def Q1 (Z : State)  (h0 : Heap) (n0 : Nat) (v : Option Value) (h : Heap) (L : List Loc) : Prop := v = some (.ref h0.size) ∧ Fr n0 L ∧ Keep h0 h [] ∧ ∃ k, Arv Z h h0.size k .long 47 own_V (.long 0)
set_option maxRecDepth 65536 in
set_option maxHeartbeats 40000000 in
theorem rm1 (l : Launch) (Z : State) (a0 : Array Value) (hw : ∀ d ∈ tables_1, d.before a0 Z = true) (ws : List Jvm.Cond)  (h0 : Heap) (n0 : Nat) (Z0 : n0 ≤ h0.size)  :
    MetFree l (⟨"com/example/evenspace/evenspace/GoldenRatioCycleLengthAtLeastPinLaw", "fib", "()[J"⟩ : MethodName) (head1 (Jvm.Cond.code (⟨"com/example/evenspace/evenspace/GoldenRatioCycleLengthAtLeastPinLaw", "fib", "()[J"⟩ : MethodName) method_2_code 0 (some (.array .long)) :: ws) ({ frames := 0, cells := 1, slots := 47, locals := 0 } : Room)) (fun a U => a = #[] ∧ Z.Warmed39 U.vm ∧ U.heap = h0) (fun _ _ _ _ _ => True) (fun _ U o U' => ∃ v L, o = .returned v ∧ Q1 Z  h0 n0 v U'.heap L ∧ FrameEnd U o U' L ({ frames := 0, cells := 1, slots := 47, locals := 0 } : Room).cells ({ frames := 0, cells := 1, slots := 47, locals := 0 } : Room).slots) := by
  refine MetFree.of_bodySF (plainFor_of_name pn_0) hisR ?_
  intro p e s m args below meth c s₁ Bd hml0 hP hK
  obtain ⟨rfl, hZ, hh⟩ := hP
  have hx := Bd.exec
  have hby := Bd.bytes
  have hml : c.maxLocals = 0 := hml0
  have hown : s.vm.findClass "com/example/evenspace/evenspace/GoldenRatioCycleLengthAtLeastPinLaw" = some m.cls := findClass_of_methodNamed Bd.named
  have hnm := (name_of_methodNamed Bd.named Bd.method).1
  have hlk : meth.locks = false := Bd.notSynchronized
  have hret := Bd.returns
  have X0 : Stand p l e ({ frames := 0, cells := 1, slots := 47, locals := 0 } : Room) s m #[] below meth c s₁ [] 0 0 := Stand.of_body Bd
  have e0 : s₁.heap = h0 := by rw [← hh, Bd.state]; rfl
  have N0 := Fr.nil n0
  show Go p e below s₁ (entryFrame m #[] 0) (Fin s (Q1 Z  h0 n0) ({ frames := 0, cells := 1, slots := 47, locals := 0 } : Room).cells ({ frames := 0, cells := 1, slots := 47, locals := 0 } : Room).slots)
  rw [ef_rm1]
  show Go p e below s₁ (mkF m 0 #[] []) _
  refine Go.step (fun _ => XS.bipush X0.here hx rfl (hb hby d1_0)) ?_
  show Go p e below s₁ (mkF m 2 #[] [(.int (47 : Int32))]) _
  obtain ⟨T1, h1, k1, X1, e1, E1, A1, st1⟩ := newP X0 hx hZ (hw _ (List.mem_of_getElem? (i := 4) rfl)) e0 (g := (mkF m 2 #[] [(.int (47 : Int32))])) rfl (hb hby d1_2) rfl (by decide) (cap := 47) (by decide) (by decide) (by decide) (by decide)
  obtain ⟨b1, g1⟩ : ∃ z, z = h0.size := ⟨_, rfl⟩
  rw [← g1] at A1 st1
  have g_b1 : n0 ≤ b1 := Nat.le_trans Z0 (Nat.le_of_eq g1.symm)
  have sz_b1 : h0.size ≤ b1 := Nat.le_trans (Keep.refl h0 []).1 (Nat.le_of_eq g1.symm)
  have Z1 : n0 ≤ h1.size := Nat.le_trans Z0 E1.1
  have K1 : Keep h0 h1 [] := (Keep.refl h0 []).ext E1
  refine Go.step st1 ?_
  have V_b1 := Arv.new A1 (by decide)
  have V_b1 : Arv Z h1 b1 k1 .long (47 : Int32) [(.long (0 : Int64)), (.long (0 : Int64)), (.long (0 : Int64)), (.long (0 : Int64)), (.long (0 : Int64)), (.long (0 : Int64)), (.long (0 : Int64)), (.long (0 : Int64)), (.long (0 : Int64)), (.long (0 : Int64)), (.long (0 : Int64)), (.long (0 : Int64)), (.long (0 : Int64)), (.long (0 : Int64)), (.long (0 : Int64)), (.long (0 : Int64)), (.long (0 : Int64)), (.long (0 : Int64)), (.long (0 : Int64)), (.long (0 : Int64)), (.long (0 : Int64)), (.long (0 : Int64)), (.long (0 : Int64)), (.long (0 : Int64)), (.long (0 : Int64)), (.long (0 : Int64)), (.long (0 : Int64)), (.long (0 : Int64)), (.long (0 : Int64)), (.long (0 : Int64)), (.long (0 : Int64)), (.long (0 : Int64)), (.long (0 : Int64)), (.long (0 : Int64)), (.long (0 : Int64)), (.long (0 : Int64)), (.long (0 : Int64)), (.long (0 : Int64)), (.long (0 : Int64)), (.long (0 : Int64)), (.long (0 : Int64)), (.long (0 : Int64)), (.long (0 : Int64)), (.long (0 : Int64)), (.long (0 : Int64)), (.long (0 : Int64)), (.long (0 : Int64))] (.long (0 : Int64)) := V_b1.pad (pad_rep [] (.long (0 : Int64)) 47)
  show Go p e below T1 (mkF m 4 #[] [(.ref b1)]) _
  refine Go.step (fun _ => XS.dup X1.here hx rfl (hb hby d1_4) rfl rfl) ?_
  show Go p e below T1 (mkF m 5 #[] [(.ref b1), (.ref b1)]) _
  refine Go.step (fun _ => XS.iconst X1.here hx rfl (hb hby d1_5)) ?_
  show Go p e below T1 (mkF m 6 #[] [(.int (0 : Int32)), (.ref b1), (.ref b1)]) _
  refine Go.step (fun _ => XS.lconst X1.here hx rfl (hb hby d1_6)) ?_
  show Go p e below T1 (mkF m 7 #[] [(.long (0 : Int64)), (.int (0 : Int32)), (.ref b1), (.ref b1)]) _
  obtain ⟨cl2, Ar2, qa2, Sz2, Nz2, Ha2, Ga2⟩ := V_b1
  have hin2 : ¬ ((0 : Int32) < 0 ∨ cl2.slots.size ≤ ((0 : Int32)).toNatClampNeg) := inb_of Sz2 ⟨by decide, by decide⟩
  obtain ⟨T3, h3, X3, e3, W3, st3⟩ := stJ X1 hx hZ e1 Ar2 (j := (0 : Int32)) hin2 (g := (mkF m 7 #[] [(.long (0 : Int64)), (.int (0 : Int32)), (.ref b1), (.ref b1)])) rfl rfl (hb hby d1_7)
  refine Go.step st3 ?_
  have N3 := Fr.snoc X3 N0 g_b1
  have V_b1_q3 := Arv.set Ar2 qa2 Sz2 Nz2 Ha2 Ga2 rfl W3 0 rfl (Nat.le_of_ble_eq_true rfl)
  have V_b1_q3 : Arv Z h3 b1 k1 .long (47 : Int32) [(.long (0 : Int64)), (.long (0 : Int64)), (.long (0 : Int64)), (.long (0 : Int64)), (.long (0 : Int64)), (.long (0 : Int64)), (.long (0 : Int64)), (.long (0 : Int64)), (.long (0 : Int64)), (.long (0 : Int64)), (.long (0 : Int64)), (.long (0 : Int64)), (.long (0 : Int64)), (.long (0 : Int64)), (.long (0 : Int64)), (.long (0 : Int64)), (.long (0 : Int64)), (.long (0 : Int64)), (.long (0 : Int64)), (.long (0 : Int64)), (.long (0 : Int64)), (.long (0 : Int64)), (.long (0 : Int64)), (.long (0 : Int64)), (.long (0 : Int64)), (.long (0 : Int64)), (.long (0 : Int64)), (.long (0 : Int64)), (.long (0 : Int64)), (.long (0 : Int64)), (.long (0 : Int64)), (.long (0 : Int64)), (.long (0 : Int64)), (.long (0 : Int64)), (.long (0 : Int64)), (.long (0 : Int64)), (.long (0 : Int64)), (.long (0 : Int64)), (.long (0 : Int64)), (.long (0 : Int64)), (.long (0 : Int64)), (.long (0 : Int64)), (.long (0 : Int64)), (.long (0 : Int64)), (.long (0 : Int64)), (.long (0 : Int64)), (.long (0 : Int64))] (.long (0 : Int64)) := V_b1_q3
  have Z3 : n0 ≤ h3.size := by rw [W3.size]; exact Z1
  have K3 : Keep h0 h3 [] := K1.wr W3 (Or.inr sz_b1)
  show Go p e below T3 (mkF m 8 #[] [(.ref b1)]) _
  refine Go.step (fun _ => XS.dup X3.here hx rfl (hb hby d1_8) rfl rfl) ?_
  show Go p e below T3 (mkF m 9 #[] [(.ref b1), (.ref b1)]) _
  refine Go.step (fun _ => XS.iconst X3.here hx rfl (hb hby d1_9)) ?_
  show Go p e below T3 (mkF m 10 #[] [(.int (1 : Int32)), (.ref b1), (.ref b1)]) _
  refine Go.step (fun _ => XS.lconst X3.here hx rfl (hb hby d1_10)) ?_
  show Go p e below T3 (mkF m 11 #[] [(.long (1 : Int64)), (.int (1 : Int32)), (.ref b1), (.ref b1)]) _
  obtain ⟨cl4, Ar4, qa4, Sz4, Nz4, Ha4, Ga4⟩ := V_b1_q3
  have hin4 : ¬ ((1 : Int32) < 0 ∨ cl4.slots.size ≤ ((1 : Int32)).toNatClampNeg) := inb_of Sz4 ⟨by decide, by decide⟩
  obtain ⟨T5, h5, X5, e5, W5, st5⟩ := stJ X3 hx hZ e3 Ar4 (j := (1 : Int32)) hin4 (g := (mkF m 11 #[] [(.long (1 : Int64)), (.int (1 : Int32)), (.ref b1), (.ref b1)])) rfl rfl (hb hby d1_11)
  refine Go.step st5 ?_
  have N5 := Fr.snoc X5 N3 g_b1
  have V_b1_q5 := Arv.set Ar4 qa4 Sz4 Nz4 Ha4 Ga4 rfl W5 1 rfl (Nat.le_of_ble_eq_true rfl)
  have V_b1_q5 : Arv Z h5 b1 k1 .long (47 : Int32) [(.long (0 : Int64)), (.long (1 : Int64)), (.long (0 : Int64)), (.long (0 : Int64)), (.long (0 : Int64)), (.long (0 : Int64)), (.long (0 : Int64)), (.long (0 : Int64)), (.long (0 : Int64)), (.long (0 : Int64)), (.long (0 : Int64)), (.long (0 : Int64)), (.long (0 : Int64)), (.long (0 : Int64)), (.long (0 : Int64)), (.long (0 : Int64)), (.long (0 : Int64)), (.long (0 : Int64)), (.long (0 : Int64)), (.long (0 : Int64)), (.long (0 : Int64)), (.long (0 : Int64)), (.long (0 : Int64)), (.long (0 : Int64)), (.long (0 : Int64)), (.long (0 : Int64)), (.long (0 : Int64)), (.long (0 : Int64)), (.long (0 : Int64)), (.long (0 : Int64)), (.long (0 : Int64)), (.long (0 : Int64)), (.long (0 : Int64)), (.long (0 : Int64)), (.long (0 : Int64)), (.long (0 : Int64)), (.long (0 : Int64)), (.long (0 : Int64)), (.long (0 : Int64)), (.long (0 : Int64)), (.long (0 : Int64)), (.long (0 : Int64)), (.long (0 : Int64)), (.long (0 : Int64)), (.long (0 : Int64)), (.long (0 : Int64)), (.long (0 : Int64))] (.long (0 : Int64)) := V_b1_q5
  have Z5 : n0 ≤ h5.size := by rw [W5.size]; exact Z3
  have K5 : Keep h0 h5 [] := K3.wr W5 (Or.inr sz_b1)
  show Go p e below T5 (mkF m 12 #[] [(.ref b1)]) _
  refine Go.step (fun _ => XS.dup X5.here hx rfl (hb hby d1_12) rfl rfl) ?_
  show Go p e below T5 (mkF m 13 #[] [(.ref b1), (.ref b1)]) _
  refine Go.step (fun _ => XS.iconst X5.here hx rfl (hb hby d1_13)) ?_
  show Go p e below T5 (mkF m 14 #[] [(.int (2 : Int32)), (.ref b1), (.ref b1)]) _
  refine Go.step (fun _ => XS.lconst X5.here hx rfl (hb hby d1_14)) ?_
  show Go p e below T5 (mkF m 15 #[] [(.long (1 : Int64)), (.int (2 : Int32)), (.ref b1), (.ref b1)]) _
  obtain ⟨cl6, Ar6, qa6, Sz6, Nz6, Ha6, Ga6⟩ := V_b1_q5
  have hin6 : ¬ ((2 : Int32) < 0 ∨ cl6.slots.size ≤ ((2 : Int32)).toNatClampNeg) := inb_of Sz6 ⟨by decide, by decide⟩
  obtain ⟨T7, h7, X7, e7, W7, st7⟩ := stJ X5 hx hZ e5 Ar6 (j := (2 : Int32)) hin6 (g := (mkF m 15 #[] [(.long (1 : Int64)), (.int (2 : Int32)), (.ref b1), (.ref b1)])) rfl rfl (hb hby d1_15)
  refine Go.step st7 ?_
  have N7 := Fr.snoc X7 N5 g_b1
  have V_b1_q7 := Arv.set Ar6 qa6 Sz6 Nz6 Ha6 Ga6 rfl W7 2 rfl (Nat.le_of_ble_eq_true rfl)
  have V_b1_q7 : Arv Z h7 b1 k1 .long (47 : Int32) [(.long (0 : Int64)), (.long (1 : Int64)), (.long (1 : Int64)), (.long (0 : Int64)), (.long (0 : Int64)), (.long (0 : Int64)), (.long (0 : Int64)), (.long (0 : Int64)), (.long (0 : Int64)), (.long (0 : Int64)), (.long (0 : Int64)), (.long (0 : Int64)), (.long (0 : Int64)), (.long (0 : Int64)), (.long (0 : Int64)), (.long (0 : Int64)), (.long (0 : Int64)), (.long (0 : Int64)), (.long (0 : Int64)), (.long (0 : Int64)), (.long (0 : Int64)), (.long (0 : Int64)), (.long (0 : Int64)), (.long (0 : Int64)), (.long (0 : Int64)), (.long (0 : Int64)), (.long (0 : Int64)), (.long (0 : Int64)), (.long (0 : Int64)), (.long (0 : Int64)), (.long (0 : Int64)), (.long (0 : Int64)), (.long (0 : Int64)), (.long (0 : Int64)), (.long (0 : Int64)), (.long (0 : Int64)), (.long (0 : Int64)), (.long (0 : Int64)), (.long (0 : Int64)), (.long (0 : Int64)), (.long (0 : Int64)), (.long (0 : Int64)), (.long (0 : Int64)), (.long (0 : Int64)), (.long (0 : Int64)), (.long (0 : Int64)), (.long (0 : Int64))] (.long (0 : Int64)) := V_b1_q7
  have Z7 : n0 ≤ h7.size := by rw [W7.size]; exact Z5
  have K7 : Keep h0 h7 [] := K5.wr W7 (Or.inr sz_b1)
  show Go p e below T7 (mkF m 16 #[] [(.ref b1)]) _
  refine Go.step (fun _ => XS.dup X7.here hx rfl (hb hby d1_16) rfl rfl) ?_
  show Go p e below T7 (mkF m 17 #[] [(.ref b1), (.ref b1)]) _
  refine Go.step (fun _ => XS.iconst X7.here hx rfl (hb hby d1_17)) ?_
  show Go p e below T7 (mkF m 18 #[] [(.int (3 : Int32)), (.ref b1), (.ref b1)]) _
  refine Go.step (fun _ => X7.ldc2Long hx hown (mvT hZ (hw _ (List.mem_of_getElem? (i := 5) rfl))) (g := (mkF m 18 #[] [(.int (3 : Int32)), (.ref b1), (.ref b1)])) rfl (hb hby d1_18) _) ?_
  show Go p e below T7 (mkF m 21 #[] [(.long (2 : Int64)), (.int (3 : Int32)), (.ref b1), (.ref b1)]) _
  obtain ⟨cl8, Ar8, qa8, Sz8, Nz8, Ha8, Ga8⟩ := V_b1_q7
  have hin8 : ¬ ((3 : Int32) < 0 ∨ cl8.slots.size ≤ ((3 : Int32)).toNatClampNeg) := inb_of Sz8 ⟨by decide, by decide⟩
  obtain ⟨T9, h9, X9, e9, W9, st9⟩ := stJ X7 hx hZ e7 Ar8 (j := (3 : Int32)) hin8 (g := (mkF m 21 #[] [(.long (2 : Int64)), (.int (3 : Int32)), (.ref b1), (.ref b1)])) rfl rfl (hb hby d1_21)
  refine Go.step st9 ?_
  have N9 := Fr.snoc X9 N7 g_b1
  have V_b1_q9 := Arv.set Ar8 qa8 Sz8 Nz8 Ha8 Ga8 rfl W9 3 rfl (Nat.le_of_ble_eq_true rfl)
  have V_b1_q9 : Arv Z h9 b1 k1 .long (47 : Int32) [(.long (0 : Int64)), (.long (1 : Int64)), (.long (1 : Int64)), (.long (2 : Int64)), (.long (0 : Int64)), (.long (0 : Int64)), (.long (0 : Int64)), (.long (0 : Int64)), (.long (0 : Int64)), (.long (0 : Int64)), (.long (0 : Int64)), (.long (0 : Int64)), (.long (0 : Int64)), (.long (0 : Int64)), (.long (0 : Int64)), (.long (0 : Int64)), (.long (0 : Int64)), (.long (0 : Int64)), (.long (0 : Int64)), (.long (0 : Int64)), (.long (0 : Int64)), (.long (0 : Int64)), (.long (0 : Int64)), (.long (0 : Int64)), (.long (0 : Int64)), (.long (0 : Int64)), (.long (0 : Int64)), (.long (0 : Int64)), (.long (0 : Int64)), (.long (0 : Int64)), (.long (0 : Int64)), (.long (0 : Int64)), (.long (0 : Int64)), (.long (0 : Int64)), (.long (0 : Int64)), (.long (0 : Int64)), (.long (0 : Int64)), (.long (0 : Int64)), (.long (0 : Int64)), (.long (0 : Int64)), (.long (0 : Int64)), (.long (0 : Int64)), (.long (0 : Int64)), (.long (0 : Int64)), (.long (0 : Int64)), (.long (0 : Int64)), (.long (0 : Int64))] (.long (0 : Int64)) := V_b1_q9
  have Z9 : n0 ≤ h9.size := by rw [W9.size]; exact Z7
  have K9 : Keep h0 h9 [] := K7.wr W9 (Or.inr sz_b1)
  show Go p e below T9 (mkF m 22 #[] [(.ref b1)]) _
  refine Go.step (fun _ => XS.dup X9.here hx rfl (hb hby d1_22) rfl rfl) ?_
  show Go p e below T9 (mkF m 23 #[] [(.ref b1), (.ref b1)]) _
  refine Go.step (fun _ => XS.iconst X9.here hx rfl (hb hby d1_23)) ?_
  show Go p e below T9 (mkF m 24 #[] [(.int (4 : Int32)), (.ref b1), (.ref b1)]) _
  refine Go.step (fun _ => X9.ldc2Long hx hown (mvT hZ (hw _ (List.mem_of_getElem? (i := 6) rfl))) (g := (mkF m 24 #[] [(.int (4 : Int32)), (.ref b1), (.ref b1)])) rfl (hb hby d1_24) _) ?_
  show Go p e below T9 (mkF m 27 #[] [(.long (3 : Int64)), (.int (4 : Int32)), (.ref b1), (.ref b1)]) _
  obtain ⟨cl10, Ar10, qa10, Sz10, Nz10, Ha10, Ga10⟩ := V_b1_q9
  have hin10 : ¬ ((4 : Int32) < 0 ∨ cl10.slots.size ≤ ((4 : Int32)).toNatClampNeg) := inb_of Sz10 ⟨by decide, by decide⟩
  obtain ⟨T11, h11, X11, e11, W11, st11⟩ := stJ X9 hx hZ e9 Ar10 (j := (4 : Int32)) hin10 (g := (mkF m 27 #[] [(.long (3 : Int64)), (.int (4 : Int32)), (.ref b1), (.ref b1)])) rfl rfl (hb hby d1_27)
  refine Go.step st11 ?_
  have N11 := Fr.snoc X11 N9 g_b1
  have V_b1_q11 := Arv.set Ar10 qa10 Sz10 Nz10 Ha10 Ga10 rfl W11 4 rfl (Nat.le_of_ble_eq_true rfl)
  have V_b1_q11 : Arv Z h11 b1 k1 .long (47 : Int32) [(.long (0 : Int64)), (.long (1 : Int64)), (.long (1 : Int64)), (.long (2 : Int64)), (.long (3 : Int64)), (.long (0 : Int64)), (.long (0 : Int64)), (.long (0 : Int64)), (.long (0 : Int64)), (.long (0 : Int64)), (.long (0 : Int64)), (.long (0 : Int64)), (.long (0 : Int64)), (.long (0 : Int64)), (.long (0 : Int64)), (.long (0 : Int64)), (.long (0 : Int64)), (.long (0 : Int64)), (.long (0 : Int64)), (.long (0 : Int64)), (.long (0 : Int64)), (.long (0 : Int64)), (.long (0 : Int64)), (.long (0 : Int64)), (.long (0 : Int64)), (.long (0 : Int64)), (.long (0 : Int64)), (.long (0 : Int64)), (.long (0 : Int64)), (.long (0 : Int64)), (.long (0 : Int64)), (.long (0 : Int64)), (.long (0 : Int64)), (.long (0 : Int64)), (.long (0 : Int64)), (.long (0 : Int64)), (.long (0 : Int64)), (.long (0 : Int64)), (.long (0 : Int64)), (.long (0 : Int64)), (.long (0 : Int64)), (.long (0 : Int64)), (.long (0 : Int64)), (.long (0 : Int64)), (.long (0 : Int64)), (.long (0 : Int64)), (.long (0 : Int64))] (.long (0 : Int64)) := V_b1_q11
  have Z11 : n0 ≤ h11.size := by rw [W11.size]; exact Z9
  have K11 : Keep h0 h11 [] := K9.wr W11 (Or.inr sz_b1)
  show Go p e below T11 (mkF m 28 #[] [(.ref b1)]) _
  refine Go.step (fun _ => XS.dup X11.here hx rfl (hb hby d1_28) rfl rfl) ?_
  show Go p e below T11 (mkF m 29 #[] [(.ref b1), (.ref b1)]) _
  refine Go.step (fun _ => XS.iconst X11.here hx rfl (hb hby d1_29)) ?_
  show Go p e below T11 (mkF m 30 #[] [(.int (5 : Int32)), (.ref b1), (.ref b1)]) _
  refine Go.step (fun _ => X11.ldc2Long hx hown (mvT hZ (hw _ (List.mem_of_getElem? (i := 7) rfl))) (g := (mkF m 30 #[] [(.int (5 : Int32)), (.ref b1), (.ref b1)])) rfl (hb hby d1_30) _) ?_
  show Go p e below T11 (mkF m 33 #[] [(.long (5 : Int64)), (.int (5 : Int32)), (.ref b1), (.ref b1)]) _
  obtain ⟨cl12, Ar12, qa12, Sz12, Nz12, Ha12, Ga12⟩ := V_b1_q11
  have hin12 : ¬ ((5 : Int32) < 0 ∨ cl12.slots.size ≤ ((5 : Int32)).toNatClampNeg) := inb_of Sz12 ⟨by decide, by decide⟩
  obtain ⟨T13, h13, X13, e13, W13, st13⟩ := stJ X11 hx hZ e11 Ar12 (j := (5 : Int32)) hin12 (g := (mkF m 33 #[] [(.long (5 : Int64)), (.int (5 : Int32)), (.ref b1), (.ref b1)])) rfl rfl (hb hby d1_33)
  refine Go.step st13 ?_
  have N13 := Fr.snoc X13 N11 g_b1
  have V_b1_q13 := Arv.set Ar12 qa12 Sz12 Nz12 Ha12 Ga12 rfl W13 5 rfl (Nat.le_of_ble_eq_true rfl)
  have V_b1_q13 : Arv Z h13 b1 k1 .long (47 : Int32) [(.long (0 : Int64)), (.long (1 : Int64)), (.long (1 : Int64)), (.long (2 : Int64)), (.long (3 : Int64)), (.long (5 : Int64)), (.long (0 : Int64)), (.long (0 : Int64)), (.long (0 : Int64)), (.long (0 : Int64)), (.long (0 : Int64)), (.long (0 : Int64)), (.long (0 : Int64)), (.long (0 : Int64)), (.long (0 : Int64)), (.long (0 : Int64)), (.long (0 : Int64)), (.long (0 : Int64)), (.long (0 : Int64)), (.long (0 : Int64)), (.long (0 : Int64)), (.long (0 : Int64)), (.long (0 : Int64)), (.long (0 : Int64)), (.long (0 : Int64)), (.long (0 : Int64)), (.long (0 : Int64)), (.long (0 : Int64)), (.long (0 : Int64)), (.long (0 : Int64)), (.long (0 : Int64)), (.long (0 : Int64)), (.long (0 : Int64)), (.long (0 : Int64)), (.long (0 : Int64)), (.long (0 : Int64)), (.long (0 : Int64)), (.long (0 : Int64)), (.long (0 : Int64)), (.long (0 : Int64)), (.long (0 : Int64)), (.long (0 : Int64)), (.long (0 : Int64)), (.long (0 : Int64)), (.long (0 : Int64)), (.long (0 : Int64)), (.long (0 : Int64))] (.long (0 : Int64)) := V_b1_q13
  have Z13 : n0 ≤ h13.size := by rw [W13.size]; exact Z11
  have K13 : Keep h0 h13 [] := K11.wr W13 (Or.inr sz_b1)
  show Go p e below T13 (mkF m 34 #[] [(.ref b1)]) _
  refine Go.step (fun _ => XS.dup X13.here hx rfl (hb hby d1_34) rfl rfl) ?_
  show Go p e below T13 (mkF m 35 #[] [(.ref b1), (.ref b1)]) _
  refine Go.step (fun _ => XS.bipush X13.here hx rfl (hb hby d1_35)) ?_
  show Go p e below T13 (mkF m 37 #[] [(.int (6 : Int32)), (.ref b1), (.ref b1)]) _
  refine Go.step (fun _ => X13.ldc2Long hx hown (mvT hZ (hw _ (List.mem_of_getElem? (i := 8) rfl))) (g := (mkF m 37 #[] [(.int (6 : Int32)), (.ref b1), (.ref b1)])) rfl (hb hby d1_37) _) ?_
  show Go p e below T13 (mkF m 40 #[] [(.long (8 : Int64)), (.int (6 : Int32)), (.ref b1), (.ref b1)]) _
  obtain ⟨cl14, Ar14, qa14, Sz14, Nz14, Ha14, Ga14⟩ := V_b1_q13
  have hin14 : ¬ ((6 : Int32) < 0 ∨ cl14.slots.size ≤ ((6 : Int32)).toNatClampNeg) := inb_of Sz14 ⟨by decide, by decide⟩
  obtain ⟨T15, h15, X15, e15, W15, st15⟩ := stJ X13 hx hZ e13 Ar14 (j := (6 : Int32)) hin14 (g := (mkF m 40 #[] [(.long (8 : Int64)), (.int (6 : Int32)), (.ref b1), (.ref b1)])) rfl rfl (hb hby d1_40)
  refine Go.step st15 ?_
  have N15 := Fr.snoc X15 N13 g_b1
  have V_b1_q15 := Arv.set Ar14 qa14 Sz14 Nz14 Ha14 Ga14 rfl W15 6 rfl (Nat.le_of_ble_eq_true rfl)
  have V_b1_q15 : Arv Z h15 b1 k1 .long (47 : Int32) [(.long (0 : Int64)), (.long (1 : Int64)), (.long (1 : Int64)), (.long (2 : Int64)), (.long (3 : Int64)), (.long (5 : Int64)), (.long (8 : Int64)), (.long (0 : Int64)), (.long (0 : Int64)), (.long (0 : Int64)), (.long (0 : Int64)), (.long (0 : Int64)), (.long (0 : Int64)), (.long (0 : Int64)), (.long (0 : Int64)), (.long (0 : Int64)), (.long (0 : Int64)), (.long (0 : Int64)), (.long (0 : Int64)), (.long (0 : Int64)), (.long (0 : Int64)), (.long (0 : Int64)), (.long (0 : Int64)), (.long (0 : Int64)), (.long (0 : Int64)), (.long (0 : Int64)), (.long (0 : Int64)), (.long (0 : Int64)), (.long (0 : Int64)), (.long (0 : Int64)), (.long (0 : Int64)), (.long (0 : Int64)), (.long (0 : Int64)), (.long (0 : Int64)), (.long (0 : Int64)), (.long (0 : Int64)), (.long (0 : Int64)), (.long (0 : Int64)), (.long (0 : Int64)), (.long (0 : Int64)), (.long (0 : Int64)), (.long (0 : Int64)), (.long (0 : Int64)), (.long (0 : Int64)), (.long (0 : Int64)), (.long (0 : Int64)), (.long (0 : Int64))] (.long (0 : Int64)) := V_b1_q15
  have Z15 : n0 ≤ h15.size := by rw [W15.size]; exact Z13
  have K15 : Keep h0 h15 [] := K13.wr W15 (Or.inr sz_b1)
  show Go p e below T15 (mkF m 41 #[] [(.ref b1)]) _
  refine Go.step (fun _ => XS.dup X15.here hx rfl (hb hby d1_41) rfl rfl) ?_
  show Go p e below T15 (mkF m 42 #[] [(.ref b1), (.ref b1)]) _
  refine Go.step (fun _ => XS.bipush X15.here hx rfl (hb hby d1_42)) ?_
  show Go p e below T15 (mkF m 44 #[] [(.int (7 : Int32)), (.ref b1), (.ref b1)]) _
  refine Go.step (fun _ => X15.ldc2Long hx hown (mvT hZ (hw _ (List.mem_of_getElem? (i := 9) rfl))) (g := (mkF m 44 #[] [(.int (7 : Int32)), (.ref b1), (.ref b1)])) rfl (hb hby d1_44) _) ?_
  show Go p e below T15 (mkF m 47 #[] [(.long (13 : Int64)), (.int (7 : Int32)), (.ref b1), (.ref b1)]) _
  obtain ⟨cl16, Ar16, qa16, Sz16, Nz16, Ha16, Ga16⟩ := V_b1_q15
  have hin16 : ¬ ((7 : Int32) < 0 ∨ cl16.slots.size ≤ ((7 : Int32)).toNatClampNeg) := inb_of Sz16 ⟨by decide, by decide⟩
  obtain ⟨T17, h17, X17, e17, W17, st17⟩ := stJ X15 hx hZ e15 Ar16 (j := (7 : Int32)) hin16 (g := (mkF m 47 #[] [(.long (13 : Int64)), (.int (7 : Int32)), (.ref b1), (.ref b1)])) rfl rfl (hb hby d1_47)
  refine Go.step st17 ?_
  have N17 := Fr.snoc X17 N15 g_b1
  have V_b1_q17 := Arv.set Ar16 qa16 Sz16 Nz16 Ha16 Ga16 rfl W17 7 rfl (Nat.le_of_ble_eq_true rfl)
  have V_b1_q17 : Arv Z h17 b1 k1 .long (47 : Int32) [(.long (0 : Int64)), (.long (1 : Int64)), (.long (1 : Int64)), (.long (2 : Int64)), (.long (3 : Int64)), (.long (5 : Int64)), (.long (8 : Int64)), (.long (13 : Int64)), (.long (0 : Int64)), (.long (0 : Int64)), (.long (0 : Int64)), (.long (0 : Int64)), (.long (0 : Int64)), (.long (0 : Int64)), (.long (0 : Int64)), (.long (0 : Int64)), (.long (0 : Int64)), (.long (0 : Int64)), (.long (0 : Int64)), (.long (0 : Int64)), (.long (0 : Int64)), (.long (0 : Int64)), (.long (0 : Int64)), (.long (0 : Int64)), (.long (0 : Int64)), (.long (0 : Int64)), (.long (0 : Int64)), (.long (0 : Int64)), (.long (0 : Int64)), (.long (0 : Int64)), (.long (0 : Int64)), (.long (0 : Int64)), (.long (0 : Int64)), (.long (0 : Int64)), (.long (0 : Int64)), (.long (0 : Int64)), (.long (0 : Int64)), (.long (0 : Int64)), (.long (0 : Int64)), (.long (0 : Int64)), (.long (0 : Int64)), (.long (0 : Int64)), (.long (0 : Int64)), (.long (0 : Int64)), (.long (0 : Int64)), (.long (0 : Int64)), (.long (0 : Int64))] (.long (0 : Int64)) := V_b1_q17
  have Z17 : n0 ≤ h17.size := by rw [W17.size]; exact Z15
  have K17 : Keep h0 h17 [] := K15.wr W17 (Or.inr sz_b1)
  show Go p e below T17 (mkF m 48 #[] [(.ref b1)]) _
  refine Go.step (fun _ => XS.dup X17.here hx rfl (hb hby d1_48) rfl rfl) ?_
  show Go p e below T17 (mkF m 49 #[] [(.ref b1), (.ref b1)]) _
  refine Go.step (fun _ => XS.bipush X17.here hx rfl (hb hby d1_49)) ?_
  show Go p e below T17 (mkF m 51 #[] [(.int (8 : Int32)), (.ref b1), (.ref b1)]) _
  refine Go.step (fun _ => X17.ldc2Long hx hown (mvT hZ (hw _ (List.mem_of_getElem? (i := 10) rfl))) (g := (mkF m 51 #[] [(.int (8 : Int32)), (.ref b1), (.ref b1)])) rfl (hb hby d1_51) _) ?_
  show Go p e below T17 (mkF m 54 #[] [(.long (21 : Int64)), (.int (8 : Int32)), (.ref b1), (.ref b1)]) _
  obtain ⟨cl18, Ar18, qa18, Sz18, Nz18, Ha18, Ga18⟩ := V_b1_q17
  have hin18 : ¬ ((8 : Int32) < 0 ∨ cl18.slots.size ≤ ((8 : Int32)).toNatClampNeg) := inb_of Sz18 ⟨by decide, by decide⟩
  obtain ⟨T19, h19, X19, e19, W19, st19⟩ := stJ X17 hx hZ e17 Ar18 (j := (8 : Int32)) hin18 (g := (mkF m 54 #[] [(.long (21 : Int64)), (.int (8 : Int32)), (.ref b1), (.ref b1)])) rfl rfl (hb hby d1_54)
  refine Go.step st19 ?_
  have N19 := Fr.snoc X19 N17 g_b1
  have V_b1_q19 := Arv.set Ar18 qa18 Sz18 Nz18 Ha18 Ga18 rfl W19 8 rfl (Nat.le_of_ble_eq_true rfl)
  have V_b1_q19 : Arv Z h19 b1 k1 .long (47 : Int32) [(.long (0 : Int64)), (.long (1 : Int64)), (.long (1 : Int64)), (.long (2 : Int64)), (.long (3 : Int64)), (.long (5 : Int64)), (.long (8 : Int64)), (.long (13 : Int64)), (.long (21 : Int64)), (.long (0 : Int64)), (.long (0 : Int64)), (.long (0 : Int64)), (.long (0 : Int64)), (.long (0 : Int64)), (.long (0 : Int64)), (.long (0 : Int64)), (.long (0 : Int64)), (.long (0 : Int64)), (.long (0 : Int64)), (.long (0 : Int64)), (.long (0 : Int64)), (.long (0 : Int64)), (.long (0 : Int64)), (.long (0 : Int64)), (.long (0 : Int64)), (.long (0 : Int64)), (.long (0 : Int64)), (.long (0 : Int64)), (.long (0 : Int64)), (.long (0 : Int64)), (.long (0 : Int64)), (.long (0 : Int64)), (.long (0 : Int64)), (.long (0 : Int64)), (.long (0 : Int64)), (.long (0 : Int64)), (.long (0 : Int64)), (.long (0 : Int64)), (.long (0 : Int64)), (.long (0 : Int64)), (.long (0 : Int64)), (.long (0 : Int64)), (.long (0 : Int64)), (.long (0 : Int64)), (.long (0 : Int64)), (.long (0 : Int64)), (.long (0 : Int64))] (.long (0 : Int64)) := V_b1_q19
  have Z19 : n0 ≤ h19.size := by rw [W19.size]; exact Z17
  have K19 : Keep h0 h19 [] := K17.wr W19 (Or.inr sz_b1)
  show Go p e below T19 (mkF m 55 #[] [(.ref b1)]) _
  refine Go.step (fun _ => XS.dup X19.here hx rfl (hb hby d1_55) rfl rfl) ?_
  show Go p e below T19 (mkF m 56 #[] [(.ref b1), (.ref b1)]) _
  refine Go.step (fun _ => XS.bipush X19.here hx rfl (hb hby d1_56)) ?_
  show Go p e below T19 (mkF m 58 #[] [(.int (9 : Int32)), (.ref b1), (.ref b1)]) _
  refine Go.step (fun _ => X19.ldc2Long hx hown (mvT hZ (hw _ (List.mem_of_getElem? (i := 11) rfl))) (g := (mkF m 58 #[] [(.int (9 : Int32)), (.ref b1), (.ref b1)])) rfl (hb hby d1_58) _) ?_
  show Go p e below T19 (mkF m 61 #[] [(.long (34 : Int64)), (.int (9 : Int32)), (.ref b1), (.ref b1)]) _
  obtain ⟨cl20, Ar20, qa20, Sz20, Nz20, Ha20, Ga20⟩ := V_b1_q19
  have hin20 : ¬ ((9 : Int32) < 0 ∨ cl20.slots.size ≤ ((9 : Int32)).toNatClampNeg) := inb_of Sz20 ⟨by decide, by decide⟩
  obtain ⟨T21, h21, X21, e21, W21, st21⟩ := stJ X19 hx hZ e19 Ar20 (j := (9 : Int32)) hin20 (g := (mkF m 61 #[] [(.long (34 : Int64)), (.int (9 : Int32)), (.ref b1), (.ref b1)])) rfl rfl (hb hby d1_61)
  refine Go.step st21 ?_
  have N21 := Fr.snoc X21 N19 g_b1
  have V_b1_q21 := Arv.set Ar20 qa20 Sz20 Nz20 Ha20 Ga20 rfl W21 9 rfl (Nat.le_of_ble_eq_true rfl)
  have V_b1_q21 : Arv Z h21 b1 k1 .long (47 : Int32) [(.long (0 : Int64)), (.long (1 : Int64)), (.long (1 : Int64)), (.long (2 : Int64)), (.long (3 : Int64)), (.long (5 : Int64)), (.long (8 : Int64)), (.long (13 : Int64)), (.long (21 : Int64)), (.long (34 : Int64)), (.long (0 : Int64)), (.long (0 : Int64)), (.long (0 : Int64)), (.long (0 : Int64)), (.long (0 : Int64)), (.long (0 : Int64)), (.long (0 : Int64)), (.long (0 : Int64)), (.long (0 : Int64)), (.long (0 : Int64)), (.long (0 : Int64)), (.long (0 : Int64)), (.long (0 : Int64)), (.long (0 : Int64)), (.long (0 : Int64)), (.long (0 : Int64)), (.long (0 : Int64)), (.long (0 : Int64)), (.long (0 : Int64)), (.long (0 : Int64)), (.long (0 : Int64)), (.long (0 : Int64)), (.long (0 : Int64)), (.long (0 : Int64)), (.long (0 : Int64)), (.long (0 : Int64)), (.long (0 : Int64)), (.long (0 : Int64)), (.long (0 : Int64)), (.long (0 : Int64)), (.long (0 : Int64)), (.long (0 : Int64)), (.long (0 : Int64)), (.long (0 : Int64)), (.long (0 : Int64)), (.long (0 : Int64)), (.long (0 : Int64))] (.long (0 : Int64)) := V_b1_q21
  have Z21 : n0 ≤ h21.size := by rw [W21.size]; exact Z19
  have K21 : Keep h0 h21 [] := K19.wr W21 (Or.inr sz_b1)
  show Go p e below T21 (mkF m 62 #[] [(.ref b1)]) _
  refine Go.step (fun _ => XS.dup X21.here hx rfl (hb hby d1_62) rfl rfl) ?_
  show Go p e below T21 (mkF m 63 #[] [(.ref b1), (.ref b1)]) _
  refine Go.step (fun _ => XS.bipush X21.here hx rfl (hb hby d1_63)) ?_
  show Go p e below T21 (mkF m 65 #[] [(.int (10 : Int32)), (.ref b1), (.ref b1)]) _
  refine Go.step (fun _ => X21.ldc2Long hx hown (mvT hZ (hw _ (List.mem_of_getElem? (i := 12) rfl))) (g := (mkF m 65 #[] [(.int (10 : Int32)), (.ref b1), (.ref b1)])) rfl (hb hby d1_65) _) ?_
  show Go p e below T21 (mkF m 68 #[] [(.long (55 : Int64)), (.int (10 : Int32)), (.ref b1), (.ref b1)]) _
  obtain ⟨cl22, Ar22, qa22, Sz22, Nz22, Ha22, Ga22⟩ := V_b1_q21
  have hin22 : ¬ ((10 : Int32) < 0 ∨ cl22.slots.size ≤ ((10 : Int32)).toNatClampNeg) := inb_of Sz22 ⟨by decide, by decide⟩
  obtain ⟨T23, h23, X23, e23, W23, st23⟩ := stJ X21 hx hZ e21 Ar22 (j := (10 : Int32)) hin22 (g := (mkF m 68 #[] [(.long (55 : Int64)), (.int (10 : Int32)), (.ref b1), (.ref b1)])) rfl rfl (hb hby d1_68)
  refine Go.step st23 ?_
  have N23 := Fr.snoc X23 N21 g_b1
  have V_b1_q23 := Arv.set Ar22 qa22 Sz22 Nz22 Ha22 Ga22 rfl W23 10 rfl (Nat.le_of_ble_eq_true rfl)
  have V_b1_q23 : Arv Z h23 b1 k1 .long (47 : Int32) [(.long (0 : Int64)), (.long (1 : Int64)), (.long (1 : Int64)), (.long (2 : Int64)), (.long (3 : Int64)), (.long (5 : Int64)), (.long (8 : Int64)), (.long (13 : Int64)), (.long (21 : Int64)), (.long (34 : Int64)), (.long (55 : Int64)), (.long (0 : Int64)), (.long (0 : Int64)), (.long (0 : Int64)), (.long (0 : Int64)), (.long (0 : Int64)), (.long (0 : Int64)), (.long (0 : Int64)), (.long (0 : Int64)), (.long (0 : Int64)), (.long (0 : Int64)), (.long (0 : Int64)), (.long (0 : Int64)), (.long (0 : Int64)), (.long (0 : Int64)), (.long (0 : Int64)), (.long (0 : Int64)), (.long (0 : Int64)), (.long (0 : Int64)), (.long (0 : Int64)), (.long (0 : Int64)), (.long (0 : Int64)), (.long (0 : Int64)), (.long (0 : Int64)), (.long (0 : Int64)), (.long (0 : Int64)), (.long (0 : Int64)), (.long (0 : Int64)), (.long (0 : Int64)), (.long (0 : Int64)), (.long (0 : Int64)), (.long (0 : Int64)), (.long (0 : Int64)), (.long (0 : Int64)), (.long (0 : Int64)), (.long (0 : Int64)), (.long (0 : Int64))] (.long (0 : Int64)) := V_b1_q23
  have Z23 : n0 ≤ h23.size := by rw [W23.size]; exact Z21
  have K23 : Keep h0 h23 [] := K21.wr W23 (Or.inr sz_b1)
  show Go p e below T23 (mkF m 69 #[] [(.ref b1)]) _
  refine Go.step (fun _ => XS.dup X23.here hx rfl (hb hby d1_69) rfl rfl) ?_
  show Go p e below T23 (mkF m 70 #[] [(.ref b1), (.ref b1)]) _
  refine Go.step (fun _ => XS.bipush X23.here hx rfl (hb hby d1_70)) ?_
  show Go p e below T23 (mkF m 72 #[] [(.int (11 : Int32)), (.ref b1), (.ref b1)]) _
  refine Go.step (fun _ => X23.ldc2Long hx hown (mvT hZ (hw _ (List.mem_of_getElem? (i := 13) rfl))) (g := (mkF m 72 #[] [(.int (11 : Int32)), (.ref b1), (.ref b1)])) rfl (hb hby d1_72) _) ?_
  show Go p e below T23 (mkF m 75 #[] [(.long (89 : Int64)), (.int (11 : Int32)), (.ref b1), (.ref b1)]) _
  obtain ⟨cl24, Ar24, qa24, Sz24, Nz24, Ha24, Ga24⟩ := V_b1_q23
  have hin24 : ¬ ((11 : Int32) < 0 ∨ cl24.slots.size ≤ ((11 : Int32)).toNatClampNeg) := inb_of Sz24 ⟨by decide, by decide⟩
  obtain ⟨T25, h25, X25, e25, W25, st25⟩ := stJ X23 hx hZ e23 Ar24 (j := (11 : Int32)) hin24 (g := (mkF m 75 #[] [(.long (89 : Int64)), (.int (11 : Int32)), (.ref b1), (.ref b1)])) rfl rfl (hb hby d1_75)
  refine Go.step st25 ?_
  have N25 := Fr.snoc X25 N23 g_b1
  have V_b1_q25 := Arv.set Ar24 qa24 Sz24 Nz24 Ha24 Ga24 rfl W25 11 rfl (Nat.le_of_ble_eq_true rfl)
  have V_b1_q25 : Arv Z h25 b1 k1 .long (47 : Int32) [(.long (0 : Int64)), (.long (1 : Int64)), (.long (1 : Int64)), (.long (2 : Int64)), (.long (3 : Int64)), (.long (5 : Int64)), (.long (8 : Int64)), (.long (13 : Int64)), (.long (21 : Int64)), (.long (34 : Int64)), (.long (55 : Int64)), (.long (89 : Int64)), (.long (0 : Int64)), (.long (0 : Int64)), (.long (0 : Int64)), (.long (0 : Int64)), (.long (0 : Int64)), (.long (0 : Int64)), (.long (0 : Int64)), (.long (0 : Int64)), (.long (0 : Int64)), (.long (0 : Int64)), (.long (0 : Int64)), (.long (0 : Int64)), (.long (0 : Int64)), (.long (0 : Int64)), (.long (0 : Int64)), (.long (0 : Int64)), (.long (0 : Int64)), (.long (0 : Int64)), (.long (0 : Int64)), (.long (0 : Int64)), (.long (0 : Int64)), (.long (0 : Int64)), (.long (0 : Int64)), (.long (0 : Int64)), (.long (0 : Int64)), (.long (0 : Int64)), (.long (0 : Int64)), (.long (0 : Int64)), (.long (0 : Int64)), (.long (0 : Int64)), (.long (0 : Int64)), (.long (0 : Int64)), (.long (0 : Int64)), (.long (0 : Int64)), (.long (0 : Int64))] (.long (0 : Int64)) := V_b1_q25
  have Z25 : n0 ≤ h25.size := by rw [W25.size]; exact Z23
  have K25 : Keep h0 h25 [] := K23.wr W25 (Or.inr sz_b1)
  show Go p e below T25 (mkF m 76 #[] [(.ref b1)]) _
  refine Go.step (fun _ => XS.dup X25.here hx rfl (hb hby d1_76) rfl rfl) ?_
  show Go p e below T25 (mkF m 77 #[] [(.ref b1), (.ref b1)]) _
  refine Go.step (fun _ => XS.bipush X25.here hx rfl (hb hby d1_77)) ?_
  show Go p e below T25 (mkF m 79 #[] [(.int (12 : Int32)), (.ref b1), (.ref b1)]) _
  refine Go.step (fun _ => X25.ldc2Long hx hown (mvT hZ (hw _ (List.mem_of_getElem? (i := 14) rfl))) (g := (mkF m 79 #[] [(.int (12 : Int32)), (.ref b1), (.ref b1)])) rfl (hb hby d1_79) _) ?_
  show Go p e below T25 (mkF m 82 #[] [(.long (144 : Int64)), (.int (12 : Int32)), (.ref b1), (.ref b1)]) _
  obtain ⟨cl26, Ar26, qa26, Sz26, Nz26, Ha26, Ga26⟩ := V_b1_q25
  have hin26 : ¬ ((12 : Int32) < 0 ∨ cl26.slots.size ≤ ((12 : Int32)).toNatClampNeg) := inb_of Sz26 ⟨by decide, by decide⟩
  obtain ⟨T27, h27, X27, e27, W27, st27⟩ := stJ X25 hx hZ e25 Ar26 (j := (12 : Int32)) hin26 (g := (mkF m 82 #[] [(.long (144 : Int64)), (.int (12 : Int32)), (.ref b1), (.ref b1)])) rfl rfl (hb hby d1_82)
  refine Go.step st27 ?_
  have N27 := Fr.snoc X27 N25 g_b1
  have V_b1_q27 := Arv.set Ar26 qa26 Sz26 Nz26 Ha26 Ga26 rfl W27 12 rfl (Nat.le_of_ble_eq_true rfl)
  have V_b1_q27 : Arv Z h27 b1 k1 .long (47 : Int32) [(.long (0 : Int64)), (.long (1 : Int64)), (.long (1 : Int64)), (.long (2 : Int64)), (.long (3 : Int64)), (.long (5 : Int64)), (.long (8 : Int64)), (.long (13 : Int64)), (.long (21 : Int64)), (.long (34 : Int64)), (.long (55 : Int64)), (.long (89 : Int64)), (.long (144 : Int64)), (.long (0 : Int64)), (.long (0 : Int64)), (.long (0 : Int64)), (.long (0 : Int64)), (.long (0 : Int64)), (.long (0 : Int64)), (.long (0 : Int64)), (.long (0 : Int64)), (.long (0 : Int64)), (.long (0 : Int64)), (.long (0 : Int64)), (.long (0 : Int64)), (.long (0 : Int64)), (.long (0 : Int64)), (.long (0 : Int64)), (.long (0 : Int64)), (.long (0 : Int64)), (.long (0 : Int64)), (.long (0 : Int64)), (.long (0 : Int64)), (.long (0 : Int64)), (.long (0 : Int64)), (.long (0 : Int64)), (.long (0 : Int64)), (.long (0 : Int64)), (.long (0 : Int64)), (.long (0 : Int64)), (.long (0 : Int64)), (.long (0 : Int64)), (.long (0 : Int64)), (.long (0 : Int64)), (.long (0 : Int64)), (.long (0 : Int64)), (.long (0 : Int64))] (.long (0 : Int64)) := V_b1_q27
  have Z27 : n0 ≤ h27.size := by rw [W27.size]; exact Z25
  have K27 : Keep h0 h27 [] := K25.wr W27 (Or.inr sz_b1)
  show Go p e below T27 (mkF m 83 #[] [(.ref b1)]) _
  refine Go.step (fun _ => XS.dup X27.here hx rfl (hb hby d1_83) rfl rfl) ?_
  show Go p e below T27 (mkF m 84 #[] [(.ref b1), (.ref b1)]) _
  refine Go.step (fun _ => XS.bipush X27.here hx rfl (hb hby d1_84)) ?_
  show Go p e below T27 (mkF m 86 #[] [(.int (13 : Int32)), (.ref b1), (.ref b1)]) _
  refine Go.step (fun _ => X27.ldc2Long hx hown (mvT hZ (hw _ (List.mem_of_getElem? (i := 15) rfl))) (g := (mkF m 86 #[] [(.int (13 : Int32)), (.ref b1), (.ref b1)])) rfl (hb hby d1_86) _) ?_
  show Go p e below T27 (mkF m 89 #[] [(.long (233 : Int64)), (.int (13 : Int32)), (.ref b1), (.ref b1)]) _
  obtain ⟨cl28, Ar28, qa28, Sz28, Nz28, Ha28, Ga28⟩ := V_b1_q27
  have hin28 : ¬ ((13 : Int32) < 0 ∨ cl28.slots.size ≤ ((13 : Int32)).toNatClampNeg) := inb_of Sz28 ⟨by decide, by decide⟩
  obtain ⟨T29, h29, X29, e29, W29, st29⟩ := stJ X27 hx hZ e27 Ar28 (j := (13 : Int32)) hin28 (g := (mkF m 89 #[] [(.long (233 : Int64)), (.int (13 : Int32)), (.ref b1), (.ref b1)])) rfl rfl (hb hby d1_89)
  refine Go.step st29 ?_
  have N29 := Fr.snoc X29 N27 g_b1
  have V_b1_q29 := Arv.set Ar28 qa28 Sz28 Nz28 Ha28 Ga28 rfl W29 13 rfl (Nat.le_of_ble_eq_true rfl)
  have V_b1_q29 : Arv Z h29 b1 k1 .long (47 : Int32) [(.long (0 : Int64)), (.long (1 : Int64)), (.long (1 : Int64)), (.long (2 : Int64)), (.long (3 : Int64)), (.long (5 : Int64)), (.long (8 : Int64)), (.long (13 : Int64)), (.long (21 : Int64)), (.long (34 : Int64)), (.long (55 : Int64)), (.long (89 : Int64)), (.long (144 : Int64)), (.long (233 : Int64)), (.long (0 : Int64)), (.long (0 : Int64)), (.long (0 : Int64)), (.long (0 : Int64)), (.long (0 : Int64)), (.long (0 : Int64)), (.long (0 : Int64)), (.long (0 : Int64)), (.long (0 : Int64)), (.long (0 : Int64)), (.long (0 : Int64)), (.long (0 : Int64)), (.long (0 : Int64)), (.long (0 : Int64)), (.long (0 : Int64)), (.long (0 : Int64)), (.long (0 : Int64)), (.long (0 : Int64)), (.long (0 : Int64)), (.long (0 : Int64)), (.long (0 : Int64)), (.long (0 : Int64)), (.long (0 : Int64)), (.long (0 : Int64)), (.long (0 : Int64)), (.long (0 : Int64)), (.long (0 : Int64)), (.long (0 : Int64)), (.long (0 : Int64)), (.long (0 : Int64)), (.long (0 : Int64)), (.long (0 : Int64)), (.long (0 : Int64))] (.long (0 : Int64)) := V_b1_q29
  have Z29 : n0 ≤ h29.size := by rw [W29.size]; exact Z27
  have K29 : Keep h0 h29 [] := K27.wr W29 (Or.inr sz_b1)
  show Go p e below T29 (mkF m 90 #[] [(.ref b1)]) _
  refine Go.step (fun _ => XS.dup X29.here hx rfl (hb hby d1_90) rfl rfl) ?_
  show Go p e below T29 (mkF m 91 #[] [(.ref b1), (.ref b1)]) _
  refine Go.step (fun _ => XS.bipush X29.here hx rfl (hb hby d1_91)) ?_
  show Go p e below T29 (mkF m 93 #[] [(.int (14 : Int32)), (.ref b1), (.ref b1)]) _
  refine Go.step (fun _ => X29.ldc2Long hx hown (mvT hZ (hw _ (List.mem_of_getElem? (i := 16) rfl))) (g := (mkF m 93 #[] [(.int (14 : Int32)), (.ref b1), (.ref b1)])) rfl (hb hby d1_93) _) ?_
  show Go p e below T29 (mkF m 96 #[] [(.long (377 : Int64)), (.int (14 : Int32)), (.ref b1), (.ref b1)]) _
  obtain ⟨cl30, Ar30, qa30, Sz30, Nz30, Ha30, Ga30⟩ := V_b1_q29
  have hin30 : ¬ ((14 : Int32) < 0 ∨ cl30.slots.size ≤ ((14 : Int32)).toNatClampNeg) := inb_of Sz30 ⟨by decide, by decide⟩
  obtain ⟨T31, h31, X31, e31, W31, st31⟩ := stJ X29 hx hZ e29 Ar30 (j := (14 : Int32)) hin30 (g := (mkF m 96 #[] [(.long (377 : Int64)), (.int (14 : Int32)), (.ref b1), (.ref b1)])) rfl rfl (hb hby d1_96)
  refine Go.step st31 ?_
  have N31 := Fr.snoc X31 N29 g_b1
  have V_b1_q31 := Arv.set Ar30 qa30 Sz30 Nz30 Ha30 Ga30 rfl W31 14 rfl (Nat.le_of_ble_eq_true rfl)
  have V_b1_q31 : Arv Z h31 b1 k1 .long (47 : Int32) [(.long (0 : Int64)), (.long (1 : Int64)), (.long (1 : Int64)), (.long (2 : Int64)), (.long (3 : Int64)), (.long (5 : Int64)), (.long (8 : Int64)), (.long (13 : Int64)), (.long (21 : Int64)), (.long (34 : Int64)), (.long (55 : Int64)), (.long (89 : Int64)), (.long (144 : Int64)), (.long (233 : Int64)), (.long (377 : Int64)), (.long (0 : Int64)), (.long (0 : Int64)), (.long (0 : Int64)), (.long (0 : Int64)), (.long (0 : Int64)), (.long (0 : Int64)), (.long (0 : Int64)), (.long (0 : Int64)), (.long (0 : Int64)), (.long (0 : Int64)), (.long (0 : Int64)), (.long (0 : Int64)), (.long (0 : Int64)), (.long (0 : Int64)), (.long (0 : Int64)), (.long (0 : Int64)), (.long (0 : Int64)), (.long (0 : Int64)), (.long (0 : Int64)), (.long (0 : Int64)), (.long (0 : Int64)), (.long (0 : Int64)), (.long (0 : Int64)), (.long (0 : Int64)), (.long (0 : Int64)), (.long (0 : Int64)), (.long (0 : Int64)), (.long (0 : Int64)), (.long (0 : Int64)), (.long (0 : Int64)), (.long (0 : Int64)), (.long (0 : Int64))] (.long (0 : Int64)) := V_b1_q31
  have Z31 : n0 ≤ h31.size := by rw [W31.size]; exact Z29
  have K31 : Keep h0 h31 [] := K29.wr W31 (Or.inr sz_b1)
  show Go p e below T31 (mkF m 97 #[] [(.ref b1)]) _
  refine Go.step (fun _ => XS.dup X31.here hx rfl (hb hby d1_97) rfl rfl) ?_
  show Go p e below T31 (mkF m 98 #[] [(.ref b1), (.ref b1)]) _
  refine Go.step (fun _ => XS.bipush X31.here hx rfl (hb hby d1_98)) ?_
  show Go p e below T31 (mkF m 100 #[] [(.int (15 : Int32)), (.ref b1), (.ref b1)]) _
  refine Go.step (fun _ => X31.ldc2Long hx hown (mvT hZ (hw _ (List.mem_of_getElem? (i := 17) rfl))) (g := (mkF m 100 #[] [(.int (15 : Int32)), (.ref b1), (.ref b1)])) rfl (hb hby d1_100) _) ?_
  show Go p e below T31 (mkF m 103 #[] [(.long (610 : Int64)), (.int (15 : Int32)), (.ref b1), (.ref b1)]) _
  obtain ⟨cl32, Ar32, qa32, Sz32, Nz32, Ha32, Ga32⟩ := V_b1_q31
  have hin32 : ¬ ((15 : Int32) < 0 ∨ cl32.slots.size ≤ ((15 : Int32)).toNatClampNeg) := inb_of Sz32 ⟨by decide, by decide⟩
  obtain ⟨T33, h33, X33, e33, W33, st33⟩ := stJ X31 hx hZ e31 Ar32 (j := (15 : Int32)) hin32 (g := (mkF m 103 #[] [(.long (610 : Int64)), (.int (15 : Int32)), (.ref b1), (.ref b1)])) rfl rfl (hb hby d1_103)
  refine Go.step st33 ?_
  have N33 := Fr.snoc X33 N31 g_b1
  have V_b1_q33 := Arv.set Ar32 qa32 Sz32 Nz32 Ha32 Ga32 rfl W33 15 rfl (Nat.le_of_ble_eq_true rfl)
  have V_b1_q33 : Arv Z h33 b1 k1 .long (47 : Int32) [(.long (0 : Int64)), (.long (1 : Int64)), (.long (1 : Int64)), (.long (2 : Int64)), (.long (3 : Int64)), (.long (5 : Int64)), (.long (8 : Int64)), (.long (13 : Int64)), (.long (21 : Int64)), (.long (34 : Int64)), (.long (55 : Int64)), (.long (89 : Int64)), (.long (144 : Int64)), (.long (233 : Int64)), (.long (377 : Int64)), (.long (610 : Int64)), (.long (0 : Int64)), (.long (0 : Int64)), (.long (0 : Int64)), (.long (0 : Int64)), (.long (0 : Int64)), (.long (0 : Int64)), (.long (0 : Int64)), (.long (0 : Int64)), (.long (0 : Int64)), (.long (0 : Int64)), (.long (0 : Int64)), (.long (0 : Int64)), (.long (0 : Int64)), (.long (0 : Int64)), (.long (0 : Int64)), (.long (0 : Int64)), (.long (0 : Int64)), (.long (0 : Int64)), (.long (0 : Int64)), (.long (0 : Int64)), (.long (0 : Int64)), (.long (0 : Int64)), (.long (0 : Int64)), (.long (0 : Int64)), (.long (0 : Int64)), (.long (0 : Int64)), (.long (0 : Int64)), (.long (0 : Int64)), (.long (0 : Int64)), (.long (0 : Int64)), (.long (0 : Int64))] (.long (0 : Int64)) := V_b1_q33
  have Z33 : n0 ≤ h33.size := by rw [W33.size]; exact Z31
  have K33 : Keep h0 h33 [] := K31.wr W33 (Or.inr sz_b1)
  show Go p e below T33 (mkF m 104 #[] [(.ref b1)]) _
  refine Go.step (fun _ => XS.dup X33.here hx rfl (hb hby d1_104) rfl rfl) ?_
  show Go p e below T33 (mkF m 105 #[] [(.ref b1), (.ref b1)]) _
  refine Go.step (fun _ => XS.bipush X33.here hx rfl (hb hby d1_105)) ?_
  show Go p e below T33 (mkF m 107 #[] [(.int (16 : Int32)), (.ref b1), (.ref b1)]) _
  refine Go.step (fun _ => X33.ldc2Long hx hown (mvT hZ (hw _ (List.mem_of_getElem? (i := 18) rfl))) (g := (mkF m 107 #[] [(.int (16 : Int32)), (.ref b1), (.ref b1)])) rfl (hb hby d1_107) _) ?_
  show Go p e below T33 (mkF m 110 #[] [(.long (987 : Int64)), (.int (16 : Int32)), (.ref b1), (.ref b1)]) _
  obtain ⟨cl34, Ar34, qa34, Sz34, Nz34, Ha34, Ga34⟩ := V_b1_q33
  have hin34 : ¬ ((16 : Int32) < 0 ∨ cl34.slots.size ≤ ((16 : Int32)).toNatClampNeg) := inb_of Sz34 ⟨by decide, by decide⟩
  obtain ⟨T35, h35, X35, e35, W35, st35⟩ := stJ X33 hx hZ e33 Ar34 (j := (16 : Int32)) hin34 (g := (mkF m 110 #[] [(.long (987 : Int64)), (.int (16 : Int32)), (.ref b1), (.ref b1)])) rfl rfl (hb hby d1_110)
  refine Go.step st35 ?_
  have N35 := Fr.snoc X35 N33 g_b1
  have V_b1_q35 := Arv.set Ar34 qa34 Sz34 Nz34 Ha34 Ga34 rfl W35 16 rfl (Nat.le_of_ble_eq_true rfl)
  have V_b1_q35 : Arv Z h35 b1 k1 .long (47 : Int32) [(.long (0 : Int64)), (.long (1 : Int64)), (.long (1 : Int64)), (.long (2 : Int64)), (.long (3 : Int64)), (.long (5 : Int64)), (.long (8 : Int64)), (.long (13 : Int64)), (.long (21 : Int64)), (.long (34 : Int64)), (.long (55 : Int64)), (.long (89 : Int64)), (.long (144 : Int64)), (.long (233 : Int64)), (.long (377 : Int64)), (.long (610 : Int64)), (.long (987 : Int64)), (.long (0 : Int64)), (.long (0 : Int64)), (.long (0 : Int64)), (.long (0 : Int64)), (.long (0 : Int64)), (.long (0 : Int64)), (.long (0 : Int64)), (.long (0 : Int64)), (.long (0 : Int64)), (.long (0 : Int64)), (.long (0 : Int64)), (.long (0 : Int64)), (.long (0 : Int64)), (.long (0 : Int64)), (.long (0 : Int64)), (.long (0 : Int64)), (.long (0 : Int64)), (.long (0 : Int64)), (.long (0 : Int64)), (.long (0 : Int64)), (.long (0 : Int64)), (.long (0 : Int64)), (.long (0 : Int64)), (.long (0 : Int64)), (.long (0 : Int64)), (.long (0 : Int64)), (.long (0 : Int64)), (.long (0 : Int64)), (.long (0 : Int64)), (.long (0 : Int64))] (.long (0 : Int64)) := V_b1_q35
  have Z35 : n0 ≤ h35.size := by rw [W35.size]; exact Z33
  have K35 : Keep h0 h35 [] := K33.wr W35 (Or.inr sz_b1)
  show Go p e below T35 (mkF m 111 #[] [(.ref b1)]) _
  refine Go.step (fun _ => XS.dup X35.here hx rfl (hb hby d1_111) rfl rfl) ?_
  show Go p e below T35 (mkF m 112 #[] [(.ref b1), (.ref b1)]) _
  refine Go.step (fun _ => XS.bipush X35.here hx rfl (hb hby d1_112)) ?_
  show Go p e below T35 (mkF m 114 #[] [(.int (17 : Int32)), (.ref b1), (.ref b1)]) _
  refine Go.step (fun _ => X35.ldc2Long hx hown (mvT hZ (hw _ (List.mem_of_getElem? (i := 19) rfl))) (g := (mkF m 114 #[] [(.int (17 : Int32)), (.ref b1), (.ref b1)])) rfl (hb hby d1_114) _) ?_
  show Go p e below T35 (mkF m 117 #[] [(.long (1597 : Int64)), (.int (17 : Int32)), (.ref b1), (.ref b1)]) _
  obtain ⟨cl36, Ar36, qa36, Sz36, Nz36, Ha36, Ga36⟩ := V_b1_q35
  have hin36 : ¬ ((17 : Int32) < 0 ∨ cl36.slots.size ≤ ((17 : Int32)).toNatClampNeg) := inb_of Sz36 ⟨by decide, by decide⟩
  obtain ⟨T37, h37, X37, e37, W37, st37⟩ := stJ X35 hx hZ e35 Ar36 (j := (17 : Int32)) hin36 (g := (mkF m 117 #[] [(.long (1597 : Int64)), (.int (17 : Int32)), (.ref b1), (.ref b1)])) rfl rfl (hb hby d1_117)
  refine Go.step st37 ?_
  have N37 := Fr.snoc X37 N35 g_b1
  have V_b1_q37 := Arv.set Ar36 qa36 Sz36 Nz36 Ha36 Ga36 rfl W37 17 rfl (Nat.le_of_ble_eq_true rfl)
  have V_b1_q37 : Arv Z h37 b1 k1 .long (47 : Int32) [(.long (0 : Int64)), (.long (1 : Int64)), (.long (1 : Int64)), (.long (2 : Int64)), (.long (3 : Int64)), (.long (5 : Int64)), (.long (8 : Int64)), (.long (13 : Int64)), (.long (21 : Int64)), (.long (34 : Int64)), (.long (55 : Int64)), (.long (89 : Int64)), (.long (144 : Int64)), (.long (233 : Int64)), (.long (377 : Int64)), (.long (610 : Int64)), (.long (987 : Int64)), (.long (1597 : Int64)), (.long (0 : Int64)), (.long (0 : Int64)), (.long (0 : Int64)), (.long (0 : Int64)), (.long (0 : Int64)), (.long (0 : Int64)), (.long (0 : Int64)), (.long (0 : Int64)), (.long (0 : Int64)), (.long (0 : Int64)), (.long (0 : Int64)), (.long (0 : Int64)), (.long (0 : Int64)), (.long (0 : Int64)), (.long (0 : Int64)), (.long (0 : Int64)), (.long (0 : Int64)), (.long (0 : Int64)), (.long (0 : Int64)), (.long (0 : Int64)), (.long (0 : Int64)), (.long (0 : Int64)), (.long (0 : Int64)), (.long (0 : Int64)), (.long (0 : Int64)), (.long (0 : Int64)), (.long (0 : Int64)), (.long (0 : Int64)), (.long (0 : Int64))] (.long (0 : Int64)) := V_b1_q37
  have Z37 : n0 ≤ h37.size := by rw [W37.size]; exact Z35
  have K37 : Keep h0 h37 [] := K35.wr W37 (Or.inr sz_b1)
  show Go p e below T37 (mkF m 118 #[] [(.ref b1)]) _
  refine Go.step (fun _ => XS.dup X37.here hx rfl (hb hby d1_118) rfl rfl) ?_
  show Go p e below T37 (mkF m 119 #[] [(.ref b1), (.ref b1)]) _
  refine Go.step (fun _ => XS.bipush X37.here hx rfl (hb hby d1_119)) ?_
  show Go p e below T37 (mkF m 121 #[] [(.int (18 : Int32)), (.ref b1), (.ref b1)]) _
  refine Go.step (fun _ => X37.ldc2Long hx hown (mvT hZ (hw _ (List.mem_of_getElem? (i := 20) rfl))) (g := (mkF m 121 #[] [(.int (18 : Int32)), (.ref b1), (.ref b1)])) rfl (hb hby d1_121) _) ?_
  show Go p e below T37 (mkF m 124 #[] [(.long (2584 : Int64)), (.int (18 : Int32)), (.ref b1), (.ref b1)]) _
  obtain ⟨cl38, Ar38, qa38, Sz38, Nz38, Ha38, Ga38⟩ := V_b1_q37
  have hin38 : ¬ ((18 : Int32) < 0 ∨ cl38.slots.size ≤ ((18 : Int32)).toNatClampNeg) := inb_of Sz38 ⟨by decide, by decide⟩
  obtain ⟨T39, h39, X39, e39, W39, st39⟩ := stJ X37 hx hZ e37 Ar38 (j := (18 : Int32)) hin38 (g := (mkF m 124 #[] [(.long (2584 : Int64)), (.int (18 : Int32)), (.ref b1), (.ref b1)])) rfl rfl (hb hby d1_124)
  refine Go.step st39 ?_
  have N39 := Fr.snoc X39 N37 g_b1
  have V_b1_q39 := Arv.set Ar38 qa38 Sz38 Nz38 Ha38 Ga38 rfl W39 18 rfl (Nat.le_of_ble_eq_true rfl)
  have V_b1_q39 : Arv Z h39 b1 k1 .long (47 : Int32) [(.long (0 : Int64)), (.long (1 : Int64)), (.long (1 : Int64)), (.long (2 : Int64)), (.long (3 : Int64)), (.long (5 : Int64)), (.long (8 : Int64)), (.long (13 : Int64)), (.long (21 : Int64)), (.long (34 : Int64)), (.long (55 : Int64)), (.long (89 : Int64)), (.long (144 : Int64)), (.long (233 : Int64)), (.long (377 : Int64)), (.long (610 : Int64)), (.long (987 : Int64)), (.long (1597 : Int64)), (.long (2584 : Int64)), (.long (0 : Int64)), (.long (0 : Int64)), (.long (0 : Int64)), (.long (0 : Int64)), (.long (0 : Int64)), (.long (0 : Int64)), (.long (0 : Int64)), (.long (0 : Int64)), (.long (0 : Int64)), (.long (0 : Int64)), (.long (0 : Int64)), (.long (0 : Int64)), (.long (0 : Int64)), (.long (0 : Int64)), (.long (0 : Int64)), (.long (0 : Int64)), (.long (0 : Int64)), (.long (0 : Int64)), (.long (0 : Int64)), (.long (0 : Int64)), (.long (0 : Int64)), (.long (0 : Int64)), (.long (0 : Int64)), (.long (0 : Int64)), (.long (0 : Int64)), (.long (0 : Int64)), (.long (0 : Int64)), (.long (0 : Int64))] (.long (0 : Int64)) := V_b1_q39
  have Z39 : n0 ≤ h39.size := by rw [W39.size]; exact Z37
  have K39 : Keep h0 h39 [] := K37.wr W39 (Or.inr sz_b1)
  show Go p e below T39 (mkF m 125 #[] [(.ref b1)]) _
  refine Go.step (fun _ => XS.dup X39.here hx rfl (hb hby d1_125) rfl rfl) ?_
  show Go p e below T39 (mkF m 126 #[] [(.ref b1), (.ref b1)]) _
  refine Go.step (fun _ => XS.bipush X39.here hx rfl (hb hby d1_126)) ?_
  show Go p e below T39 (mkF m 128 #[] [(.int (19 : Int32)), (.ref b1), (.ref b1)]) _
  refine Go.step (fun _ => X39.ldc2Long hx hown (mvT hZ (hw _ (List.mem_of_getElem? (i := 21) rfl))) (g := (mkF m 128 #[] [(.int (19 : Int32)), (.ref b1), (.ref b1)])) rfl (hb hby d1_128) _) ?_
  show Go p e below T39 (mkF m 131 #[] [(.long (4181 : Int64)), (.int (19 : Int32)), (.ref b1), (.ref b1)]) _
  obtain ⟨cl40, Ar40, qa40, Sz40, Nz40, Ha40, Ga40⟩ := V_b1_q39
  have hin40 : ¬ ((19 : Int32) < 0 ∨ cl40.slots.size ≤ ((19 : Int32)).toNatClampNeg) := inb_of Sz40 ⟨by decide, by decide⟩
  obtain ⟨T41, h41, X41, e41, W41, st41⟩ := stJ X39 hx hZ e39 Ar40 (j := (19 : Int32)) hin40 (g := (mkF m 131 #[] [(.long (4181 : Int64)), (.int (19 : Int32)), (.ref b1), (.ref b1)])) rfl rfl (hb hby d1_131)
  refine Go.step st41 ?_
  have N41 := Fr.snoc X41 N39 g_b1
  have V_b1_q41 := Arv.set Ar40 qa40 Sz40 Nz40 Ha40 Ga40 rfl W41 19 rfl (Nat.le_of_ble_eq_true rfl)
  have V_b1_q41 : Arv Z h41 b1 k1 .long (47 : Int32) [(.long (0 : Int64)), (.long (1 : Int64)), (.long (1 : Int64)), (.long (2 : Int64)), (.long (3 : Int64)), (.long (5 : Int64)), (.long (8 : Int64)), (.long (13 : Int64)), (.long (21 : Int64)), (.long (34 : Int64)), (.long (55 : Int64)), (.long (89 : Int64)), (.long (144 : Int64)), (.long (233 : Int64)), (.long (377 : Int64)), (.long (610 : Int64)), (.long (987 : Int64)), (.long (1597 : Int64)), (.long (2584 : Int64)), (.long (4181 : Int64)), (.long (0 : Int64)), (.long (0 : Int64)), (.long (0 : Int64)), (.long (0 : Int64)), (.long (0 : Int64)), (.long (0 : Int64)), (.long (0 : Int64)), (.long (0 : Int64)), (.long (0 : Int64)), (.long (0 : Int64)), (.long (0 : Int64)), (.long (0 : Int64)), (.long (0 : Int64)), (.long (0 : Int64)), (.long (0 : Int64)), (.long (0 : Int64)), (.long (0 : Int64)), (.long (0 : Int64)), (.long (0 : Int64)), (.long (0 : Int64)), (.long (0 : Int64)), (.long (0 : Int64)), (.long (0 : Int64)), (.long (0 : Int64)), (.long (0 : Int64)), (.long (0 : Int64)), (.long (0 : Int64))] (.long (0 : Int64)) := V_b1_q41
  have Z41 : n0 ≤ h41.size := by rw [W41.size]; exact Z39
  have K41 : Keep h0 h41 [] := K39.wr W41 (Or.inr sz_b1)
  show Go p e below T41 (mkF m 132 #[] [(.ref b1)]) _
  refine Go.step (fun _ => XS.dup X41.here hx rfl (hb hby d1_132) rfl rfl) ?_
  show Go p e below T41 (mkF m 133 #[] [(.ref b1), (.ref b1)]) _
  refine Go.step (fun _ => XS.bipush X41.here hx rfl (hb hby d1_133)) ?_
  show Go p e below T41 (mkF m 135 #[] [(.int (20 : Int32)), (.ref b1), (.ref b1)]) _
  refine Go.step (fun _ => X41.ldc2Long hx hown (mvT hZ (hw _ (List.mem_of_getElem? (i := 22) rfl))) (g := (mkF m 135 #[] [(.int (20 : Int32)), (.ref b1), (.ref b1)])) rfl (hb hby d1_135) _) ?_
  show Go p e below T41 (mkF m 138 #[] [(.long (6765 : Int64)), (.int (20 : Int32)), (.ref b1), (.ref b1)]) _
  obtain ⟨cl42, Ar42, qa42, Sz42, Nz42, Ha42, Ga42⟩ := V_b1_q41
  have hin42 : ¬ ((20 : Int32) < 0 ∨ cl42.slots.size ≤ ((20 : Int32)).toNatClampNeg) := inb_of Sz42 ⟨by decide, by decide⟩
  obtain ⟨T43, h43, X43, e43, W43, st43⟩ := stJ X41 hx hZ e41 Ar42 (j := (20 : Int32)) hin42 (g := (mkF m 138 #[] [(.long (6765 : Int64)), (.int (20 : Int32)), (.ref b1), (.ref b1)])) rfl rfl (hb hby d1_138)
  refine Go.step st43 ?_
  have N43 := Fr.snoc X43 N41 g_b1
  have V_b1_q43 := Arv.set Ar42 qa42 Sz42 Nz42 Ha42 Ga42 rfl W43 20 rfl (Nat.le_of_ble_eq_true rfl)
  have V_b1_q43 : Arv Z h43 b1 k1 .long (47 : Int32) [(.long (0 : Int64)), (.long (1 : Int64)), (.long (1 : Int64)), (.long (2 : Int64)), (.long (3 : Int64)), (.long (5 : Int64)), (.long (8 : Int64)), (.long (13 : Int64)), (.long (21 : Int64)), (.long (34 : Int64)), (.long (55 : Int64)), (.long (89 : Int64)), (.long (144 : Int64)), (.long (233 : Int64)), (.long (377 : Int64)), (.long (610 : Int64)), (.long (987 : Int64)), (.long (1597 : Int64)), (.long (2584 : Int64)), (.long (4181 : Int64)), (.long (6765 : Int64)), (.long (0 : Int64)), (.long (0 : Int64)), (.long (0 : Int64)), (.long (0 : Int64)), (.long (0 : Int64)), (.long (0 : Int64)), (.long (0 : Int64)), (.long (0 : Int64)), (.long (0 : Int64)), (.long (0 : Int64)), (.long (0 : Int64)), (.long (0 : Int64)), (.long (0 : Int64)), (.long (0 : Int64)), (.long (0 : Int64)), (.long (0 : Int64)), (.long (0 : Int64)), (.long (0 : Int64)), (.long (0 : Int64)), (.long (0 : Int64)), (.long (0 : Int64)), (.long (0 : Int64)), (.long (0 : Int64)), (.long (0 : Int64)), (.long (0 : Int64)), (.long (0 : Int64))] (.long (0 : Int64)) := V_b1_q43
  have Z43 : n0 ≤ h43.size := by rw [W43.size]; exact Z41
  have K43 : Keep h0 h43 [] := K41.wr W43 (Or.inr sz_b1)
  show Go p e below T43 (mkF m 139 #[] [(.ref b1)]) _
  refine Go.step (fun _ => XS.dup X43.here hx rfl (hb hby d1_139) rfl rfl) ?_
  show Go p e below T43 (mkF m 140 #[] [(.ref b1), (.ref b1)]) _
  refine Go.step (fun _ => XS.bipush X43.here hx rfl (hb hby d1_140)) ?_
  show Go p e below T43 (mkF m 142 #[] [(.int (21 : Int32)), (.ref b1), (.ref b1)]) _
  refine Go.step (fun _ => X43.ldc2Long hx hown (mvT hZ (hw _ (List.mem_of_getElem? (i := 23) rfl))) (g := (mkF m 142 #[] [(.int (21 : Int32)), (.ref b1), (.ref b1)])) rfl (hb hby d1_142) _) ?_
  show Go p e below T43 (mkF m 145 #[] [(.long (10946 : Int64)), (.int (21 : Int32)), (.ref b1), (.ref b1)]) _
  obtain ⟨cl44, Ar44, qa44, Sz44, Nz44, Ha44, Ga44⟩ := V_b1_q43
  have hin44 : ¬ ((21 : Int32) < 0 ∨ cl44.slots.size ≤ ((21 : Int32)).toNatClampNeg) := inb_of Sz44 ⟨by decide, by decide⟩
  obtain ⟨T45, h45, X45, e45, W45, st45⟩ := stJ X43 hx hZ e43 Ar44 (j := (21 : Int32)) hin44 (g := (mkF m 145 #[] [(.long (10946 : Int64)), (.int (21 : Int32)), (.ref b1), (.ref b1)])) rfl rfl (hb hby d1_145)
  refine Go.step st45 ?_
  have N45 := Fr.snoc X45 N43 g_b1
  have V_b1_q45 := Arv.set Ar44 qa44 Sz44 Nz44 Ha44 Ga44 rfl W45 21 rfl (Nat.le_of_ble_eq_true rfl)
  have V_b1_q45 : Arv Z h45 b1 k1 .long (47 : Int32) [(.long (0 : Int64)), (.long (1 : Int64)), (.long (1 : Int64)), (.long (2 : Int64)), (.long (3 : Int64)), (.long (5 : Int64)), (.long (8 : Int64)), (.long (13 : Int64)), (.long (21 : Int64)), (.long (34 : Int64)), (.long (55 : Int64)), (.long (89 : Int64)), (.long (144 : Int64)), (.long (233 : Int64)), (.long (377 : Int64)), (.long (610 : Int64)), (.long (987 : Int64)), (.long (1597 : Int64)), (.long (2584 : Int64)), (.long (4181 : Int64)), (.long (6765 : Int64)), (.long (10946 : Int64)), (.long (0 : Int64)), (.long (0 : Int64)), (.long (0 : Int64)), (.long (0 : Int64)), (.long (0 : Int64)), (.long (0 : Int64)), (.long (0 : Int64)), (.long (0 : Int64)), (.long (0 : Int64)), (.long (0 : Int64)), (.long (0 : Int64)), (.long (0 : Int64)), (.long (0 : Int64)), (.long (0 : Int64)), (.long (0 : Int64)), (.long (0 : Int64)), (.long (0 : Int64)), (.long (0 : Int64)), (.long (0 : Int64)), (.long (0 : Int64)), (.long (0 : Int64)), (.long (0 : Int64)), (.long (0 : Int64)), (.long (0 : Int64)), (.long (0 : Int64))] (.long (0 : Int64)) := V_b1_q45
  have Z45 : n0 ≤ h45.size := by rw [W45.size]; exact Z43
  have K45 : Keep h0 h45 [] := K43.wr W45 (Or.inr sz_b1)
  show Go p e below T45 (mkF m 146 #[] [(.ref b1)]) _
  refine Go.step (fun _ => XS.dup X45.here hx rfl (hb hby d1_146) rfl rfl) ?_
  show Go p e below T45 (mkF m 147 #[] [(.ref b1), (.ref b1)]) _
  refine Go.step (fun _ => XS.bipush X45.here hx rfl (hb hby d1_147)) ?_
  show Go p e below T45 (mkF m 149 #[] [(.int (22 : Int32)), (.ref b1), (.ref b1)]) _
  refine Go.step (fun _ => X45.ldc2Long hx hown (mvT hZ (hw _ (List.mem_of_getElem? (i := 24) rfl))) (g := (mkF m 149 #[] [(.int (22 : Int32)), (.ref b1), (.ref b1)])) rfl (hb hby d1_149) _) ?_
  show Go p e below T45 (mkF m 152 #[] [(.long (17711 : Int64)), (.int (22 : Int32)), (.ref b1), (.ref b1)]) _
  obtain ⟨cl46, Ar46, qa46, Sz46, Nz46, Ha46, Ga46⟩ := V_b1_q45
  have hin46 : ¬ ((22 : Int32) < 0 ∨ cl46.slots.size ≤ ((22 : Int32)).toNatClampNeg) := inb_of Sz46 ⟨by decide, by decide⟩
  obtain ⟨T47, h47, X47, e47, W47, st47⟩ := stJ X45 hx hZ e45 Ar46 (j := (22 : Int32)) hin46 (g := (mkF m 152 #[] [(.long (17711 : Int64)), (.int (22 : Int32)), (.ref b1), (.ref b1)])) rfl rfl (hb hby d1_152)
  refine Go.step st47 ?_
  have N47 := Fr.snoc X47 N45 g_b1
  have V_b1_q47 := Arv.set Ar46 qa46 Sz46 Nz46 Ha46 Ga46 rfl W47 22 rfl (Nat.le_of_ble_eq_true rfl)
  have V_b1_q47 : Arv Z h47 b1 k1 .long (47 : Int32) [(.long (0 : Int64)), (.long (1 : Int64)), (.long (1 : Int64)), (.long (2 : Int64)), (.long (3 : Int64)), (.long (5 : Int64)), (.long (8 : Int64)), (.long (13 : Int64)), (.long (21 : Int64)), (.long (34 : Int64)), (.long (55 : Int64)), (.long (89 : Int64)), (.long (144 : Int64)), (.long (233 : Int64)), (.long (377 : Int64)), (.long (610 : Int64)), (.long (987 : Int64)), (.long (1597 : Int64)), (.long (2584 : Int64)), (.long (4181 : Int64)), (.long (6765 : Int64)), (.long (10946 : Int64)), (.long (17711 : Int64)), (.long (0 : Int64)), (.long (0 : Int64)), (.long (0 : Int64)), (.long (0 : Int64)), (.long (0 : Int64)), (.long (0 : Int64)), (.long (0 : Int64)), (.long (0 : Int64)), (.long (0 : Int64)), (.long (0 : Int64)), (.long (0 : Int64)), (.long (0 : Int64)), (.long (0 : Int64)), (.long (0 : Int64)), (.long (0 : Int64)), (.long (0 : Int64)), (.long (0 : Int64)), (.long (0 : Int64)), (.long (0 : Int64)), (.long (0 : Int64)), (.long (0 : Int64)), (.long (0 : Int64)), (.long (0 : Int64)), (.long (0 : Int64))] (.long (0 : Int64)) := V_b1_q47
  have Z47 : n0 ≤ h47.size := by rw [W47.size]; exact Z45
  have K47 : Keep h0 h47 [] := K45.wr W47 (Or.inr sz_b1)
  show Go p e below T47 (mkF m 153 #[] [(.ref b1)]) _
  refine Go.step (fun _ => XS.dup X47.here hx rfl (hb hby d1_153) rfl rfl) ?_
  show Go p e below T47 (mkF m 154 #[] [(.ref b1), (.ref b1)]) _
  refine Go.step (fun _ => XS.bipush X47.here hx rfl (hb hby d1_154)) ?_
  show Go p e below T47 (mkF m 156 #[] [(.int (23 : Int32)), (.ref b1), (.ref b1)]) _
  refine Go.step (fun _ => X47.ldc2Long hx hown (mvT hZ (hw _ (List.mem_of_getElem? (i := 25) rfl))) (g := (mkF m 156 #[] [(.int (23 : Int32)), (.ref b1), (.ref b1)])) rfl (hb hby d1_156) _) ?_
  show Go p e below T47 (mkF m 159 #[] [(.long (28657 : Int64)), (.int (23 : Int32)), (.ref b1), (.ref b1)]) _
  obtain ⟨cl48, Ar48, qa48, Sz48, Nz48, Ha48, Ga48⟩ := V_b1_q47
  have hin48 : ¬ ((23 : Int32) < 0 ∨ cl48.slots.size ≤ ((23 : Int32)).toNatClampNeg) := inb_of Sz48 ⟨by decide, by decide⟩
  obtain ⟨T49, h49, X49, e49, W49, st49⟩ := stJ X47 hx hZ e47 Ar48 (j := (23 : Int32)) hin48 (g := (mkF m 159 #[] [(.long (28657 : Int64)), (.int (23 : Int32)), (.ref b1), (.ref b1)])) rfl rfl (hb hby d1_159)
  refine Go.step st49 ?_
  have N49 := Fr.snoc X49 N47 g_b1
  have V_b1_q49 := Arv.set Ar48 qa48 Sz48 Nz48 Ha48 Ga48 rfl W49 23 rfl (Nat.le_of_ble_eq_true rfl)
  have V_b1_q49 : Arv Z h49 b1 k1 .long (47 : Int32) [(.long (0 : Int64)), (.long (1 : Int64)), (.long (1 : Int64)), (.long (2 : Int64)), (.long (3 : Int64)), (.long (5 : Int64)), (.long (8 : Int64)), (.long (13 : Int64)), (.long (21 : Int64)), (.long (34 : Int64)), (.long (55 : Int64)), (.long (89 : Int64)), (.long (144 : Int64)), (.long (233 : Int64)), (.long (377 : Int64)), (.long (610 : Int64)), (.long (987 : Int64)), (.long (1597 : Int64)), (.long (2584 : Int64)), (.long (4181 : Int64)), (.long (6765 : Int64)), (.long (10946 : Int64)), (.long (17711 : Int64)), (.long (28657 : Int64)), (.long (0 : Int64)), (.long (0 : Int64)), (.long (0 : Int64)), (.long (0 : Int64)), (.long (0 : Int64)), (.long (0 : Int64)), (.long (0 : Int64)), (.long (0 : Int64)), (.long (0 : Int64)), (.long (0 : Int64)), (.long (0 : Int64)), (.long (0 : Int64)), (.long (0 : Int64)), (.long (0 : Int64)), (.long (0 : Int64)), (.long (0 : Int64)), (.long (0 : Int64)), (.long (0 : Int64)), (.long (0 : Int64)), (.long (0 : Int64)), (.long (0 : Int64)), (.long (0 : Int64)), (.long (0 : Int64))] (.long (0 : Int64)) := V_b1_q49
  have Z49 : n0 ≤ h49.size := by rw [W49.size]; exact Z47
  have K49 : Keep h0 h49 [] := K47.wr W49 (Or.inr sz_b1)
  show Go p e below T49 (mkF m 160 #[] [(.ref b1)]) _
  refine Go.step (fun _ => XS.dup X49.here hx rfl (hb hby d1_160) rfl rfl) ?_
  show Go p e below T49 (mkF m 161 #[] [(.ref b1), (.ref b1)]) _
  refine Go.step (fun _ => XS.bipush X49.here hx rfl (hb hby d1_161)) ?_
  show Go p e below T49 (mkF m 163 #[] [(.int (24 : Int32)), (.ref b1), (.ref b1)]) _
  refine Go.step (fun _ => X49.ldc2Long hx hown (mvT hZ (hw _ (List.mem_of_getElem? (i := 26) rfl))) (g := (mkF m 163 #[] [(.int (24 : Int32)), (.ref b1), (.ref b1)])) rfl (hb hby d1_163) _) ?_
  show Go p e below T49 (mkF m 166 #[] [(.long (46368 : Int64)), (.int (24 : Int32)), (.ref b1), (.ref b1)]) _
  obtain ⟨cl50, Ar50, qa50, Sz50, Nz50, Ha50, Ga50⟩ := V_b1_q49
  have hin50 : ¬ ((24 : Int32) < 0 ∨ cl50.slots.size ≤ ((24 : Int32)).toNatClampNeg) := inb_of Sz50 ⟨by decide, by decide⟩
  obtain ⟨T51, h51, X51, e51, W51, st51⟩ := stJ X49 hx hZ e49 Ar50 (j := (24 : Int32)) hin50 (g := (mkF m 166 #[] [(.long (46368 : Int64)), (.int (24 : Int32)), (.ref b1), (.ref b1)])) rfl rfl (hb hby d1_166)
  refine Go.step st51 ?_
  have N51 := Fr.snoc X51 N49 g_b1
  have V_b1_q51 := Arv.set Ar50 qa50 Sz50 Nz50 Ha50 Ga50 rfl W51 24 rfl (Nat.le_of_ble_eq_true rfl)
  have V_b1_q51 : Arv Z h51 b1 k1 .long (47 : Int32) [(.long (0 : Int64)), (.long (1 : Int64)), (.long (1 : Int64)), (.long (2 : Int64)), (.long (3 : Int64)), (.long (5 : Int64)), (.long (8 : Int64)), (.long (13 : Int64)), (.long (21 : Int64)), (.long (34 : Int64)), (.long (55 : Int64)), (.long (89 : Int64)), (.long (144 : Int64)), (.long (233 : Int64)), (.long (377 : Int64)), (.long (610 : Int64)), (.long (987 : Int64)), (.long (1597 : Int64)), (.long (2584 : Int64)), (.long (4181 : Int64)), (.long (6765 : Int64)), (.long (10946 : Int64)), (.long (17711 : Int64)), (.long (28657 : Int64)), (.long (46368 : Int64)), (.long (0 : Int64)), (.long (0 : Int64)), (.long (0 : Int64)), (.long (0 : Int64)), (.long (0 : Int64)), (.long (0 : Int64)), (.long (0 : Int64)), (.long (0 : Int64)), (.long (0 : Int64)), (.long (0 : Int64)), (.long (0 : Int64)), (.long (0 : Int64)), (.long (0 : Int64)), (.long (0 : Int64)), (.long (0 : Int64)), (.long (0 : Int64)), (.long (0 : Int64)), (.long (0 : Int64)), (.long (0 : Int64)), (.long (0 : Int64)), (.long (0 : Int64)), (.long (0 : Int64))] (.long (0 : Int64)) := V_b1_q51
  have Z51 : n0 ≤ h51.size := by rw [W51.size]; exact Z49
  have K51 : Keep h0 h51 [] := K49.wr W51 (Or.inr sz_b1)
  show Go p e below T51 (mkF m 167 #[] [(.ref b1)]) _
  refine Go.step (fun _ => XS.dup X51.here hx rfl (hb hby d1_167) rfl rfl) ?_
  show Go p e below T51 (mkF m 168 #[] [(.ref b1), (.ref b1)]) _
  refine Go.step (fun _ => XS.bipush X51.here hx rfl (hb hby d1_168)) ?_
  show Go p e below T51 (mkF m 170 #[] [(.int (25 : Int32)), (.ref b1), (.ref b1)]) _
  refine Go.step (fun _ => X51.ldc2Long hx hown (mvT hZ (hw _ (List.mem_of_getElem? (i := 27) rfl))) (g := (mkF m 170 #[] [(.int (25 : Int32)), (.ref b1), (.ref b1)])) rfl (hb hby d1_170) _) ?_
  show Go p e below T51 (mkF m 173 #[] [(.long (75025 : Int64)), (.int (25 : Int32)), (.ref b1), (.ref b1)]) _
  obtain ⟨cl52, Ar52, qa52, Sz52, Nz52, Ha52, Ga52⟩ := V_b1_q51
  have hin52 : ¬ ((25 : Int32) < 0 ∨ cl52.slots.size ≤ ((25 : Int32)).toNatClampNeg) := inb_of Sz52 ⟨by decide, by decide⟩
  obtain ⟨T53, h53, X53, e53, W53, st53⟩ := stJ X51 hx hZ e51 Ar52 (j := (25 : Int32)) hin52 (g := (mkF m 173 #[] [(.long (75025 : Int64)), (.int (25 : Int32)), (.ref b1), (.ref b1)])) rfl rfl (hb hby d1_173)
  refine Go.step st53 ?_
  have N53 := Fr.snoc X53 N51 g_b1
  have V_b1_q53 := Arv.set Ar52 qa52 Sz52 Nz52 Ha52 Ga52 rfl W53 25 rfl (Nat.le_of_ble_eq_true rfl)
  have V_b1_q53 : Arv Z h53 b1 k1 .long (47 : Int32) [(.long (0 : Int64)), (.long (1 : Int64)), (.long (1 : Int64)), (.long (2 : Int64)), (.long (3 : Int64)), (.long (5 : Int64)), (.long (8 : Int64)), (.long (13 : Int64)), (.long (21 : Int64)), (.long (34 : Int64)), (.long (55 : Int64)), (.long (89 : Int64)), (.long (144 : Int64)), (.long (233 : Int64)), (.long (377 : Int64)), (.long (610 : Int64)), (.long (987 : Int64)), (.long (1597 : Int64)), (.long (2584 : Int64)), (.long (4181 : Int64)), (.long (6765 : Int64)), (.long (10946 : Int64)), (.long (17711 : Int64)), (.long (28657 : Int64)), (.long (46368 : Int64)), (.long (75025 : Int64)), (.long (0 : Int64)), (.long (0 : Int64)), (.long (0 : Int64)), (.long (0 : Int64)), (.long (0 : Int64)), (.long (0 : Int64)), (.long (0 : Int64)), (.long (0 : Int64)), (.long (0 : Int64)), (.long (0 : Int64)), (.long (0 : Int64)), (.long (0 : Int64)), (.long (0 : Int64)), (.long (0 : Int64)), (.long (0 : Int64)), (.long (0 : Int64)), (.long (0 : Int64)), (.long (0 : Int64)), (.long (0 : Int64)), (.long (0 : Int64)), (.long (0 : Int64))] (.long (0 : Int64)) := V_b1_q53
  have Z53 : n0 ≤ h53.size := by rw [W53.size]; exact Z51
  have K53 : Keep h0 h53 [] := K51.wr W53 (Or.inr sz_b1)
  show Go p e below T53 (mkF m 174 #[] [(.ref b1)]) _
  refine Go.step (fun _ => XS.dup X53.here hx rfl (hb hby d1_174) rfl rfl) ?_
  show Go p e below T53 (mkF m 175 #[] [(.ref b1), (.ref b1)]) _
  refine Go.step (fun _ => XS.bipush X53.here hx rfl (hb hby d1_175)) ?_
  show Go p e below T53 (mkF m 177 #[] [(.int (26 : Int32)), (.ref b1), (.ref b1)]) _
  refine Go.step (fun _ => X53.ldc2Long hx hown (mvT hZ (hw _ (List.mem_of_getElem? (i := 28) rfl))) (g := (mkF m 177 #[] [(.int (26 : Int32)), (.ref b1), (.ref b1)])) rfl (hb hby d1_177) _) ?_
  show Go p e below T53 (mkF m 180 #[] [(.long (121393 : Int64)), (.int (26 : Int32)), (.ref b1), (.ref b1)]) _
  obtain ⟨cl54, Ar54, qa54, Sz54, Nz54, Ha54, Ga54⟩ := V_b1_q53
  have hin54 : ¬ ((26 : Int32) < 0 ∨ cl54.slots.size ≤ ((26 : Int32)).toNatClampNeg) := inb_of Sz54 ⟨by decide, by decide⟩
  obtain ⟨T55, h55, X55, e55, W55, st55⟩ := stJ X53 hx hZ e53 Ar54 (j := (26 : Int32)) hin54 (g := (mkF m 180 #[] [(.long (121393 : Int64)), (.int (26 : Int32)), (.ref b1), (.ref b1)])) rfl rfl (hb hby d1_180)
  refine Go.step st55 ?_
  have N55 := Fr.snoc X55 N53 g_b1
  have V_b1_q55 := Arv.set Ar54 qa54 Sz54 Nz54 Ha54 Ga54 rfl W55 26 rfl (Nat.le_of_ble_eq_true rfl)
  have V_b1_q55 : Arv Z h55 b1 k1 .long (47 : Int32) [(.long (0 : Int64)), (.long (1 : Int64)), (.long (1 : Int64)), (.long (2 : Int64)), (.long (3 : Int64)), (.long (5 : Int64)), (.long (8 : Int64)), (.long (13 : Int64)), (.long (21 : Int64)), (.long (34 : Int64)), (.long (55 : Int64)), (.long (89 : Int64)), (.long (144 : Int64)), (.long (233 : Int64)), (.long (377 : Int64)), (.long (610 : Int64)), (.long (987 : Int64)), (.long (1597 : Int64)), (.long (2584 : Int64)), (.long (4181 : Int64)), (.long (6765 : Int64)), (.long (10946 : Int64)), (.long (17711 : Int64)), (.long (28657 : Int64)), (.long (46368 : Int64)), (.long (75025 : Int64)), (.long (121393 : Int64)), (.long (0 : Int64)), (.long (0 : Int64)), (.long (0 : Int64)), (.long (0 : Int64)), (.long (0 : Int64)), (.long (0 : Int64)), (.long (0 : Int64)), (.long (0 : Int64)), (.long (0 : Int64)), (.long (0 : Int64)), (.long (0 : Int64)), (.long (0 : Int64)), (.long (0 : Int64)), (.long (0 : Int64)), (.long (0 : Int64)), (.long (0 : Int64)), (.long (0 : Int64)), (.long (0 : Int64)), (.long (0 : Int64)), (.long (0 : Int64))] (.long (0 : Int64)) := V_b1_q55
  have Z55 : n0 ≤ h55.size := by rw [W55.size]; exact Z53
  have K55 : Keep h0 h55 [] := K53.wr W55 (Or.inr sz_b1)
  show Go p e below T55 (mkF m 181 #[] [(.ref b1)]) _
  refine Go.step (fun _ => XS.dup X55.here hx rfl (hb hby d1_181) rfl rfl) ?_
  show Go p e below T55 (mkF m 182 #[] [(.ref b1), (.ref b1)]) _
  refine Go.step (fun _ => XS.bipush X55.here hx rfl (hb hby d1_182)) ?_
  show Go p e below T55 (mkF m 184 #[] [(.int (27 : Int32)), (.ref b1), (.ref b1)]) _
  refine Go.step (fun _ => X55.ldc2Long hx hown (mvT hZ (hw _ (List.mem_of_getElem? (i := 29) rfl))) (g := (mkF m 184 #[] [(.int (27 : Int32)), (.ref b1), (.ref b1)])) rfl (hb hby d1_184) _) ?_
  show Go p e below T55 (mkF m 187 #[] [(.long (196418 : Int64)), (.int (27 : Int32)), (.ref b1), (.ref b1)]) _
  obtain ⟨cl56, Ar56, qa56, Sz56, Nz56, Ha56, Ga56⟩ := V_b1_q55
  have hin56 : ¬ ((27 : Int32) < 0 ∨ cl56.slots.size ≤ ((27 : Int32)).toNatClampNeg) := inb_of Sz56 ⟨by decide, by decide⟩
  obtain ⟨T57, h57, X57, e57, W57, st57⟩ := stJ X55 hx hZ e55 Ar56 (j := (27 : Int32)) hin56 (g := (mkF m 187 #[] [(.long (196418 : Int64)), (.int (27 : Int32)), (.ref b1), (.ref b1)])) rfl rfl (hb hby d1_187)
  refine Go.step st57 ?_
  have N57 := Fr.snoc X57 N55 g_b1
  have V_b1_q57 := Arv.set Ar56 qa56 Sz56 Nz56 Ha56 Ga56 rfl W57 27 rfl (Nat.le_of_ble_eq_true rfl)
  have V_b1_q57 : Arv Z h57 b1 k1 .long (47 : Int32) [(.long (0 : Int64)), (.long (1 : Int64)), (.long (1 : Int64)), (.long (2 : Int64)), (.long (3 : Int64)), (.long (5 : Int64)), (.long (8 : Int64)), (.long (13 : Int64)), (.long (21 : Int64)), (.long (34 : Int64)), (.long (55 : Int64)), (.long (89 : Int64)), (.long (144 : Int64)), (.long (233 : Int64)), (.long (377 : Int64)), (.long (610 : Int64)), (.long (987 : Int64)), (.long (1597 : Int64)), (.long (2584 : Int64)), (.long (4181 : Int64)), (.long (6765 : Int64)), (.long (10946 : Int64)), (.long (17711 : Int64)), (.long (28657 : Int64)), (.long (46368 : Int64)), (.long (75025 : Int64)), (.long (121393 : Int64)), (.long (196418 : Int64)), (.long (0 : Int64)), (.long (0 : Int64)), (.long (0 : Int64)), (.long (0 : Int64)), (.long (0 : Int64)), (.long (0 : Int64)), (.long (0 : Int64)), (.long (0 : Int64)), (.long (0 : Int64)), (.long (0 : Int64)), (.long (0 : Int64)), (.long (0 : Int64)), (.long (0 : Int64)), (.long (0 : Int64)), (.long (0 : Int64)), (.long (0 : Int64)), (.long (0 : Int64)), (.long (0 : Int64)), (.long (0 : Int64))] (.long (0 : Int64)) := V_b1_q57
  have Z57 : n0 ≤ h57.size := by rw [W57.size]; exact Z55
  have K57 : Keep h0 h57 [] := K55.wr W57 (Or.inr sz_b1)
  show Go p e below T57 (mkF m 188 #[] [(.ref b1)]) _
  refine Go.step (fun _ => XS.dup X57.here hx rfl (hb hby d1_188) rfl rfl) ?_
  show Go p e below T57 (mkF m 189 #[] [(.ref b1), (.ref b1)]) _
  refine Go.step (fun _ => XS.bipush X57.here hx rfl (hb hby d1_189)) ?_
  show Go p e below T57 (mkF m 191 #[] [(.int (28 : Int32)), (.ref b1), (.ref b1)]) _
  refine Go.step (fun _ => X57.ldc2Long hx hown (mvT hZ (hw _ (List.mem_of_getElem? (i := 30) rfl))) (g := (mkF m 191 #[] [(.int (28 : Int32)), (.ref b1), (.ref b1)])) rfl (hb hby d1_191) _) ?_
  show Go p e below T57 (mkF m 194 #[] [(.long (317811 : Int64)), (.int (28 : Int32)), (.ref b1), (.ref b1)]) _
  obtain ⟨cl58, Ar58, qa58, Sz58, Nz58, Ha58, Ga58⟩ := V_b1_q57
  have hin58 : ¬ ((28 : Int32) < 0 ∨ cl58.slots.size ≤ ((28 : Int32)).toNatClampNeg) := inb_of Sz58 ⟨by decide, by decide⟩
  obtain ⟨T59, h59, X59, e59, W59, st59⟩ := stJ X57 hx hZ e57 Ar58 (j := (28 : Int32)) hin58 (g := (mkF m 194 #[] [(.long (317811 : Int64)), (.int (28 : Int32)), (.ref b1), (.ref b1)])) rfl rfl (hb hby d1_194)
  refine Go.step st59 ?_
  have N59 := Fr.snoc X59 N57 g_b1
  have V_b1_q59 := Arv.set Ar58 qa58 Sz58 Nz58 Ha58 Ga58 rfl W59 28 rfl (Nat.le_of_ble_eq_true rfl)
  have V_b1_q59 : Arv Z h59 b1 k1 .long (47 : Int32) [(.long (0 : Int64)), (.long (1 : Int64)), (.long (1 : Int64)), (.long (2 : Int64)), (.long (3 : Int64)), (.long (5 : Int64)), (.long (8 : Int64)), (.long (13 : Int64)), (.long (21 : Int64)), (.long (34 : Int64)), (.long (55 : Int64)), (.long (89 : Int64)), (.long (144 : Int64)), (.long (233 : Int64)), (.long (377 : Int64)), (.long (610 : Int64)), (.long (987 : Int64)), (.long (1597 : Int64)), (.long (2584 : Int64)), (.long (4181 : Int64)), (.long (6765 : Int64)), (.long (10946 : Int64)), (.long (17711 : Int64)), (.long (28657 : Int64)), (.long (46368 : Int64)), (.long (75025 : Int64)), (.long (121393 : Int64)), (.long (196418 : Int64)), (.long (317811 : Int64)), (.long (0 : Int64)), (.long (0 : Int64)), (.long (0 : Int64)), (.long (0 : Int64)), (.long (0 : Int64)), (.long (0 : Int64)), (.long (0 : Int64)), (.long (0 : Int64)), (.long (0 : Int64)), (.long (0 : Int64)), (.long (0 : Int64)), (.long (0 : Int64)), (.long (0 : Int64)), (.long (0 : Int64)), (.long (0 : Int64)), (.long (0 : Int64)), (.long (0 : Int64)), (.long (0 : Int64))] (.long (0 : Int64)) := V_b1_q59
  have Z59 : n0 ≤ h59.size := by rw [W59.size]; exact Z57
  have K59 : Keep h0 h59 [] := K57.wr W59 (Or.inr sz_b1)
  show Go p e below T59 (mkF m 195 #[] [(.ref b1)]) _
  refine Go.step (fun _ => XS.dup X59.here hx rfl (hb hby d1_195) rfl rfl) ?_
  show Go p e below T59 (mkF m 196 #[] [(.ref b1), (.ref b1)]) _
  refine Go.step (fun _ => XS.bipush X59.here hx rfl (hb hby d1_196)) ?_
  show Go p e below T59 (mkF m 198 #[] [(.int (29 : Int32)), (.ref b1), (.ref b1)]) _
  refine Go.step (fun _ => X59.ldc2Long hx hown (mvT hZ (hw _ (List.mem_of_getElem? (i := 31) rfl))) (g := (mkF m 198 #[] [(.int (29 : Int32)), (.ref b1), (.ref b1)])) rfl (hb hby d1_198) _) ?_
  show Go p e below T59 (mkF m 201 #[] [(.long (514229 : Int64)), (.int (29 : Int32)), (.ref b1), (.ref b1)]) _
  obtain ⟨cl60, Ar60, qa60, Sz60, Nz60, Ha60, Ga60⟩ := V_b1_q59
  have hin60 : ¬ ((29 : Int32) < 0 ∨ cl60.slots.size ≤ ((29 : Int32)).toNatClampNeg) := inb_of Sz60 ⟨by decide, by decide⟩
  obtain ⟨T61, h61, X61, e61, W61, st61⟩ := stJ X59 hx hZ e59 Ar60 (j := (29 : Int32)) hin60 (g := (mkF m 201 #[] [(.long (514229 : Int64)), (.int (29 : Int32)), (.ref b1), (.ref b1)])) rfl rfl (hb hby d1_201)
  refine Go.step st61 ?_
  have N61 := Fr.snoc X61 N59 g_b1
  have V_b1_q61 := Arv.set Ar60 qa60 Sz60 Nz60 Ha60 Ga60 rfl W61 29 rfl (Nat.le_of_ble_eq_true rfl)
  have V_b1_q61 : Arv Z h61 b1 k1 .long (47 : Int32) [(.long (0 : Int64)), (.long (1 : Int64)), (.long (1 : Int64)), (.long (2 : Int64)), (.long (3 : Int64)), (.long (5 : Int64)), (.long (8 : Int64)), (.long (13 : Int64)), (.long (21 : Int64)), (.long (34 : Int64)), (.long (55 : Int64)), (.long (89 : Int64)), (.long (144 : Int64)), (.long (233 : Int64)), (.long (377 : Int64)), (.long (610 : Int64)), (.long (987 : Int64)), (.long (1597 : Int64)), (.long (2584 : Int64)), (.long (4181 : Int64)), (.long (6765 : Int64)), (.long (10946 : Int64)), (.long (17711 : Int64)), (.long (28657 : Int64)), (.long (46368 : Int64)), (.long (75025 : Int64)), (.long (121393 : Int64)), (.long (196418 : Int64)), (.long (317811 : Int64)), (.long (514229 : Int64)), (.long (0 : Int64)), (.long (0 : Int64)), (.long (0 : Int64)), (.long (0 : Int64)), (.long (0 : Int64)), (.long (0 : Int64)), (.long (0 : Int64)), (.long (0 : Int64)), (.long (0 : Int64)), (.long (0 : Int64)), (.long (0 : Int64)), (.long (0 : Int64)), (.long (0 : Int64)), (.long (0 : Int64)), (.long (0 : Int64)), (.long (0 : Int64)), (.long (0 : Int64))] (.long (0 : Int64)) := V_b1_q61
  have Z61 : n0 ≤ h61.size := by rw [W61.size]; exact Z59
  have K61 : Keep h0 h61 [] := K59.wr W61 (Or.inr sz_b1)
  show Go p e below T61 (mkF m 202 #[] [(.ref b1)]) _
  refine Go.step (fun _ => XS.dup X61.here hx rfl (hb hby d1_202) rfl rfl) ?_
  show Go p e below T61 (mkF m 203 #[] [(.ref b1), (.ref b1)]) _
  refine Go.step (fun _ => XS.bipush X61.here hx rfl (hb hby d1_203)) ?_
  show Go p e below T61 (mkF m 205 #[] [(.int (30 : Int32)), (.ref b1), (.ref b1)]) _
  refine Go.step (fun _ => X61.ldc2Long hx hown (mvT hZ (hw _ (List.mem_of_getElem? (i := 32) rfl))) (g := (mkF m 205 #[] [(.int (30 : Int32)), (.ref b1), (.ref b1)])) rfl (hb hby d1_205) _) ?_
  show Go p e below T61 (mkF m 208 #[] [(.long (832040 : Int64)), (.int (30 : Int32)), (.ref b1), (.ref b1)]) _
  obtain ⟨cl62, Ar62, qa62, Sz62, Nz62, Ha62, Ga62⟩ := V_b1_q61
  have hin62 : ¬ ((30 : Int32) < 0 ∨ cl62.slots.size ≤ ((30 : Int32)).toNatClampNeg) := inb_of Sz62 ⟨by decide, by decide⟩
  obtain ⟨T63, h63, X63, e63, W63, st63⟩ := stJ X61 hx hZ e61 Ar62 (j := (30 : Int32)) hin62 (g := (mkF m 208 #[] [(.long (832040 : Int64)), (.int (30 : Int32)), (.ref b1), (.ref b1)])) rfl rfl (hb hby d1_208)
  refine Go.step st63 ?_
  have N63 := Fr.snoc X63 N61 g_b1
  have V_b1_q63 := Arv.set Ar62 qa62 Sz62 Nz62 Ha62 Ga62 rfl W63 30 rfl (Nat.le_of_ble_eq_true rfl)
  have V_b1_q63 : Arv Z h63 b1 k1 .long (47 : Int32) [(.long (0 : Int64)), (.long (1 : Int64)), (.long (1 : Int64)), (.long (2 : Int64)), (.long (3 : Int64)), (.long (5 : Int64)), (.long (8 : Int64)), (.long (13 : Int64)), (.long (21 : Int64)), (.long (34 : Int64)), (.long (55 : Int64)), (.long (89 : Int64)), (.long (144 : Int64)), (.long (233 : Int64)), (.long (377 : Int64)), (.long (610 : Int64)), (.long (987 : Int64)), (.long (1597 : Int64)), (.long (2584 : Int64)), (.long (4181 : Int64)), (.long (6765 : Int64)), (.long (10946 : Int64)), (.long (17711 : Int64)), (.long (28657 : Int64)), (.long (46368 : Int64)), (.long (75025 : Int64)), (.long (121393 : Int64)), (.long (196418 : Int64)), (.long (317811 : Int64)), (.long (514229 : Int64)), (.long (832040 : Int64)), (.long (0 : Int64)), (.long (0 : Int64)), (.long (0 : Int64)), (.long (0 : Int64)), (.long (0 : Int64)), (.long (0 : Int64)), (.long (0 : Int64)), (.long (0 : Int64)), (.long (0 : Int64)), (.long (0 : Int64)), (.long (0 : Int64)), (.long (0 : Int64)), (.long (0 : Int64)), (.long (0 : Int64)), (.long (0 : Int64)), (.long (0 : Int64))] (.long (0 : Int64)) := V_b1_q63
  have Z63 : n0 ≤ h63.size := by rw [W63.size]; exact Z61
  have K63 : Keep h0 h63 [] := K61.wr W63 (Or.inr sz_b1)
  show Go p e below T63 (mkF m 209 #[] [(.ref b1)]) _
  refine Go.step (fun _ => XS.dup X63.here hx rfl (hb hby d1_209) rfl rfl) ?_
  show Go p e below T63 (mkF m 210 #[] [(.ref b1), (.ref b1)]) _
  refine Go.step (fun _ => XS.bipush X63.here hx rfl (hb hby d1_210)) ?_
  show Go p e below T63 (mkF m 212 #[] [(.int (31 : Int32)), (.ref b1), (.ref b1)]) _
  refine Go.step (fun _ => X63.ldc2Long hx hown (mvT hZ (hw _ (List.mem_of_getElem? (i := 33) rfl))) (g := (mkF m 212 #[] [(.int (31 : Int32)), (.ref b1), (.ref b1)])) rfl (hb hby d1_212) _) ?_
  show Go p e below T63 (mkF m 215 #[] [(.long (1346269 : Int64)), (.int (31 : Int32)), (.ref b1), (.ref b1)]) _
  obtain ⟨cl64, Ar64, qa64, Sz64, Nz64, Ha64, Ga64⟩ := V_b1_q63
  have hin64 : ¬ ((31 : Int32) < 0 ∨ cl64.slots.size ≤ ((31 : Int32)).toNatClampNeg) := inb_of Sz64 ⟨by decide, by decide⟩
  obtain ⟨T65, h65, X65, e65, W65, st65⟩ := stJ X63 hx hZ e63 Ar64 (j := (31 : Int32)) hin64 (g := (mkF m 215 #[] [(.long (1346269 : Int64)), (.int (31 : Int32)), (.ref b1), (.ref b1)])) rfl rfl (hb hby d1_215)
  refine Go.step st65 ?_
  have N65 := Fr.snoc X65 N63 g_b1
  have V_b1_q65 := Arv.set Ar64 qa64 Sz64 Nz64 Ha64 Ga64 rfl W65 31 rfl (Nat.le_of_ble_eq_true rfl)
  have V_b1_q65 : Arv Z h65 b1 k1 .long (47 : Int32) [(.long (0 : Int64)), (.long (1 : Int64)), (.long (1 : Int64)), (.long (2 : Int64)), (.long (3 : Int64)), (.long (5 : Int64)), (.long (8 : Int64)), (.long (13 : Int64)), (.long (21 : Int64)), (.long (34 : Int64)), (.long (55 : Int64)), (.long (89 : Int64)), (.long (144 : Int64)), (.long (233 : Int64)), (.long (377 : Int64)), (.long (610 : Int64)), (.long (987 : Int64)), (.long (1597 : Int64)), (.long (2584 : Int64)), (.long (4181 : Int64)), (.long (6765 : Int64)), (.long (10946 : Int64)), (.long (17711 : Int64)), (.long (28657 : Int64)), (.long (46368 : Int64)), (.long (75025 : Int64)), (.long (121393 : Int64)), (.long (196418 : Int64)), (.long (317811 : Int64)), (.long (514229 : Int64)), (.long (832040 : Int64)), (.long (1346269 : Int64)), (.long (0 : Int64)), (.long (0 : Int64)), (.long (0 : Int64)), (.long (0 : Int64)), (.long (0 : Int64)), (.long (0 : Int64)), (.long (0 : Int64)), (.long (0 : Int64)), (.long (0 : Int64)), (.long (0 : Int64)), (.long (0 : Int64)), (.long (0 : Int64)), (.long (0 : Int64)), (.long (0 : Int64)), (.long (0 : Int64))] (.long (0 : Int64)) := V_b1_q65
  have Z65 : n0 ≤ h65.size := by rw [W65.size]; exact Z63
  have K65 : Keep h0 h65 [] := K63.wr W65 (Or.inr sz_b1)
  show Go p e below T65 (mkF m 216 #[] [(.ref b1)]) _
  refine Go.step (fun _ => XS.dup X65.here hx rfl (hb hby d1_216) rfl rfl) ?_
  show Go p e below T65 (mkF m 217 #[] [(.ref b1), (.ref b1)]) _
  refine Go.step (fun _ => XS.bipush X65.here hx rfl (hb hby d1_217)) ?_
  show Go p e below T65 (mkF m 219 #[] [(.int (32 : Int32)), (.ref b1), (.ref b1)]) _
  refine Go.step (fun _ => X65.ldc2Long hx hown (mvT hZ (hw _ (List.mem_of_getElem? (i := 34) rfl))) (g := (mkF m 219 #[] [(.int (32 : Int32)), (.ref b1), (.ref b1)])) rfl (hb hby d1_219) _) ?_
  show Go p e below T65 (mkF m 222 #[] [(.long (2178309 : Int64)), (.int (32 : Int32)), (.ref b1), (.ref b1)]) _
  obtain ⟨cl66, Ar66, qa66, Sz66, Nz66, Ha66, Ga66⟩ := V_b1_q65
  have hin66 : ¬ ((32 : Int32) < 0 ∨ cl66.slots.size ≤ ((32 : Int32)).toNatClampNeg) := inb_of Sz66 ⟨by decide, by decide⟩
  obtain ⟨T67, h67, X67, e67, W67, st67⟩ := stJ X65 hx hZ e65 Ar66 (j := (32 : Int32)) hin66 (g := (mkF m 222 #[] [(.long (2178309 : Int64)), (.int (32 : Int32)), (.ref b1), (.ref b1)])) rfl rfl (hb hby d1_222)
  refine Go.step st67 ?_
  have N67 := Fr.snoc X67 N65 g_b1
  have V_b1_q67 := Arv.set Ar66 qa66 Sz66 Nz66 Ha66 Ga66 rfl W67 32 rfl (Nat.le_of_ble_eq_true rfl)
  have V_b1_q67 : Arv Z h67 b1 k1 .long (47 : Int32) [(.long (0 : Int64)), (.long (1 : Int64)), (.long (1 : Int64)), (.long (2 : Int64)), (.long (3 : Int64)), (.long (5 : Int64)), (.long (8 : Int64)), (.long (13 : Int64)), (.long (21 : Int64)), (.long (34 : Int64)), (.long (55 : Int64)), (.long (89 : Int64)), (.long (144 : Int64)), (.long (233 : Int64)), (.long (377 : Int64)), (.long (610 : Int64)), (.long (987 : Int64)), (.long (1597 : Int64)), (.long (2584 : Int64)), (.long (4181 : Int64)), (.long (6765 : Int64)), (.long (10946 : Int64)), (.long (17711 : Int64)), (.long (28657 : Int64)), (.long (46368 : Int64)), (.long (75025 : Int64)), (.long (121393 : Int64)), (.long (196418 : Int64)), (.long (317811 : Int64)), (.long (514229 : Int64)), (.long (832040 : Int64)), (.long (1346269 : Int64)), (.long (2178309 : Int64)), (.long (0 : Int64)), (.long (0 : Int64)), (.long (0 : Int64)), (.long (0 : Int64)), (.long (0 : Int64)), (.long (0 : Int64)), (.long (0 : Int64)), (.long (0 : Int64)), (.long (0 : Int64)), (.long (0 : Int64)), (.long (0 : Int64)), (.long (0 : Int64)), (.long (0 : Int64)), (.long (0 : Int64))] (.long (0 : Int64)) := V_b1_q67
  have Z67 : n0 ≤ h67.size := by rw [W67.size]; exact Z65
  have K67 : Keep h0 h67 [] := K65.wr W67 (Or.inr sz_b1)
  show Go p e below T67 (mkF m 223 #[] [(.ref b1)]) _
  refine Go.step (fun _ => XS.dup X67.here hx rfl (hb hby d1_223) rfl rfl) ?_
  show Go p e below T67 (mkF m 224 #[] [(.ref b1), (.ref b1)]) _
  refine Go.step (fun _ => XS.bipush X67.here hx rfl (hb hby d1_224)) ?_
  show Go p e below T67 (mkF m 226 #[] [(.int (33 : Int32)), (.ref b1), (.ref b1)]) _
  refine Go.step (fun _ => X67.ldc2Long hx hown (mvT hZ (hw _ (List.mem_of_getElem? (i := 35) rfl))) (g := (mkF m 226 #[] [(.int (33 : Int32)), (.ref b1), (.ref b1)])) rfl (hb hby d1_226) _) ?_
  show Go p e below T67 (mkF m 229 #[] [(.long (3524578 : Int64)), (.int (33 : Int32)), (.ref b1), (.ref b1)]) _
  obtain ⟨cl68, Ar68, qa68, Sz68, Nz68, Ha68, Ga68⟩ := V_b1_q67
  have hin68 : ¬ ((33 : Int32) < 0 ∨ cl68.slots.size ≤ ((33 : Int32)).toNatClampNeg) := inb_of Sz68 ⟨by decide, by decide⟩
  obtain ⟨T69, h69, X69, e69, W69, st69⟩ := stJ X67 hx hZ e67 Ar68 (j := (33 : Int32)) hin68 (g := (mkF m 229 #[] [(.long (3524578 : Int64)), (.int (33 : Int32)), (.ref b1), (.ref b1)])) rfl rfl (hb hby d1_229)
  refine Go.step st69 ?_
  have N69 := Fr.snoc X69 N67 g_b1
  have V_b1_q69 := Arv.set Ar68 qa68 Sz68 Nz68 Ha68 Ga68 rfl W69 33 rfl (Nat.le_of_ble_eq_true rfl)
  have V_b1_q69 : Arv Z h69 b1 k1 .long (47 : Int32) [(.long (0 : Int64)), (.long (1 : Int64)), (.long (1 : Int64)), (.long (2 : Int64)), (.long (3 : Int64)), (.long (5 : Int64)), (.long (8 : Int64)), (.long (13 : Int64)), (.long (21 : Int64)), (.long (34 : Int64)), (.long (55 : Int64)), (.long (89 : Int64)), (.long (144 : Int64)), (.long (233 : Int64)), (.long (377 : Int64)), (.long (610 : Int64)), (.long (987 : Int64)), (.long (1597 : Int64)), (.long (2584 : Int64)), (.long (4181 : Int64)), (.long (6765 : Int64)), (.long (10946 : Int64)), (.long (17711 : Int64)), (.long (28657 : Int64)), (.long (46368 : Int64)), (.long (75025 : Int64)), (.long (121393 : Int64)), (.long (196418 : Int64)), (.long (317811 : Int64)), (.long (514229 : Int64)), (.long (832040 : Int64)), (.long (1346269 : Int64)), (.long (2178309 : Int64)), (.long (3524578 : Int64)), (.long (0 : Int64)), (.long (0 : Int64)), (.long (0 : Int64)), (.long (0 : Int64)), (.long (0 : Int64)), (.long (0 : Int64)), (.long (0 : Int64)), (.long (0 : Int64)), (.long (0 : Int64)), (.long (0 : Int64)), (.long (0 : Int64)), (.long (0 : Int64)), (.long (0 : Int64))] (.long (0 : Int64)) := V_b1_q69
  have Z69 : n0 ≤ h69.size := by rw [W69.size]; exact Z67
  have K69 : Keep h0 h69 [] := K67.wr W69 (Or.inr sz_b1)
  show Go p e below T69 (mkF m 230 #[] [(.ref b1)]) _
  refine Go.step (fun _ => XS.dup X69.here hx rfl (hb hby d1_230) rfl rfl) ?_
  show Go p e below T69 (mkF m 231 #[] [(.ref b1), (.ref b1)]) _
  refine Go.step (fun _ => XS.bipush X69.here hx rfl (hb hby d1_231)) ?_
  show Go p e below T69 (mkF m 233 #[] [(.int (34 : Int32)), (.ref b1), (.ref b1)]) _
  refine Go.step (fun _ => X69.ldc2Long hx hown (mvT hZ (hw _ (List.mem_of_getElem? (i := 36) rfl))) (g := (mkF m 233 #[] [(.int (34 : Int32)), (.ref b1), (.ref b1)])) rfl (hb hby d1_233) _) ?_
  show Go p e below T69 (mkF m 236 #[] [(.long (5702887 : Int64)), (.int (34 : Int32)), (.ref b1), (.ref b1)]) _
  obtain ⟨cl70, Ar70, qa70, Sz70, Nz70, Ha70, Ga70⟩ := V_b1_q69
  have hin70 : ¬ ((34 : Int32) < 0 ∨ cl70.slots.size ≤ ((34 : Int32)).toNatClampNeg) := inb_of Sz70 ⟨by decide, by decide⟩
  obtain ⟨T71, h71, X71, e71, W71, st71⟩ := stJ X69 hx hZ e69 Ar70 (j := (34 : Int32)) hin70 (g := (mkF m 236 #[] [(.long (5702887 : Int64)), (.int (34 : Int32)), (.ref b1), (.ref b1)])) rfl rfl (hb hby d1_236)
  refine Go.step st71 ?_
  have N71 := Fr.snoc X71 N69 g_b1
  have V_b1_q71 := Arv.set Ar70 qa70 Sz70 Nz70 Ha70 Ga70 rfl W71 34 rfl (Nat.le_of_ble_eq_true rfl)
  have V_b1_q71 : Arv Z h71 b1 k1 .long (47 : Int32) [(.long (0 : Int64)), (.long (1 : Int64)), (.long (1 : Int64)), (.long (2 : Int64)), (.long (3 : Int64)), (.long (5 : Int64)), (.long (8 : Int64)), (.long (13 : Int64)), (.long (21 : Int64)), (.long (34 : Int64)), (.long (55 : Int64)), (.long (89 : Int64)), (.long (144 : Int64)), (.long (233 : Int64)), (.long (377 : Int64)), (.long (610 : Int64)), (.long (987 : Int64)), (.long (1597 : Int64)), (.long (2584 : Int64)), (.long (4181 : Int64)), (.long (6765 : Int64)), (.long (10946 : Int64)), (.long (17711 : Int64)), (.long (28657 : Int64)), (.long (46368 : Int64)), (.long (75025 : Int64)), (.long (121393 : Int64)), (.long (196418 : Int64)), (.long (317811 : Int64)), (.long (514229 : Int64)), (.long (832040 : Int64)), (.long (1346269 : Int64)), (.long (2178309 : Int64)), (.long (3524578 : Int64)), (.long (5702887 : Int64)), (.long (0 : Int64)), (.long (0 : Int64)), (.long (0 : Int64)), (.long (0 : Int64)), (.long (0 : Int64)), (.long (0 : Int64)), (.long (0 : Int64)), (.long (0 : Int64)), (.long (0 : Int64)), (.long (0 : Int64)), (.long (0 : Int64)), (.long (0 : Int64))] (.long (0 : Int64)) := V_b1_q71
  have Z71 : n0 ≤ h71.size := by rw [W71.size]; exact Z69
  have K71 : Keep h0 h71 [] := K69.wr W71 (Or.inr sz_b1)
  show Go p e below T71 (mkF m 237 #[] [(.ref b1)]) _
  refine Go.step (fun _ => XS.dup X71.here hx rfl (hb hby d1_237) rfl rfl) ?_
  show Go p e below T71 (mkF m 238 #[] [(.ref b1), (.ref b1)]) _
  refine Go.step (fun _ => XS.bipush X71.here hx rfl (hb hby d1_238)) ?_
  show Go p e below T71 (mkF m 240 #[] [(.int (35 : Int32)), (.ref b1), (.ref b1)]) _
  refine Go.step (fun _ => X71.ldc2Long hx hown (mvT hZ (hw _ (List.mem_of_getElem? (i := 37) rfl))) (g := (mkF m 240 #[] [(.int (35 : Int32)), (.ref b1), (.ref b1)])) rfl (hb hby d1_240) _) ?_
  show Go p e below T71 (mkF m 243 #[] [(.long (9227465 : Int64)), (.int (35 : Int32)), (.ref b1), (.ref b1)]) _
  obtain ⟨cl72, Ar72, qa72, Sz72, Nz72, Ha72, Ga72⟩ := V_b1_q71
  have hin72 : ¬ ((35 : Int32) < 0 ∨ cl72.slots.size ≤ ((35 : Int32)).toNatClampNeg) := inb_of Sz72 ⟨by decide, by decide⟩
  obtain ⟨T73, h73, X73, e73, W73, st73⟩ := stJ X71 hx hZ e71 Ar72 (j := (35 : Int32)) hin72 (g := (mkF m 243 #[] [(.long (9227465 : Int64)), (.int (35 : Int32)), (.ref b1), (.ref b1)])) rfl rfl (hb hby d1_243)
  refine Go.step st73 ?_
  have N73 := Fr.snoc X73 N71 g_b1
  have V_b1_q73 := Arv.set Ar72 qa72 Sz72 Nz72 Ha72 Ga72 rfl W73 35 rfl (Nat.le_of_ble_eq_true rfl)
  have V_b1_q73 : Arv Z h73 b1 k1 .long (47 : Int32) [(.long (0 : Int64)), (.long (1 : Int64)), (.long (1 : Int64)), (.long (2 : Int64)), (.long (3 : Int64)), (.long (5 : Int64)), (.long (8 : Int64)), (.long (13 : Int64)), (.long (21 : Int64)), (.long (34 : Int64)), (.long (55 : Int64)), (.long (89 : Int64)), (.long (144 : Int64)), (.long (233 : Int64)), (.long (377 : Int64)), (.long (610 : Int64)), (.long (987 : Int64)), (.long (1597 : Int64)), (.long (2584 : Int64)), (.long (4181 : Int64)), (.long (6765 : Int64)), (.long (10946 : Int64)), (.long (17711 : Int64)), (.long (28657 : Int64)), (.long (46368 : Int64)), (.long (75025 : Int64)), (.long (121393 : Int64)), (.long (196418 : Int64)), (.long (317811 : Int64)), (.long (514229 : Int64)), (.long (832040 : Int64)), (.long (1346269 : Int64)), (.long (2178309 : Int64)), (.long (3524578 : Int64)), (.long (5702887 : Int64)), (.long (9227465 : Int64)), (.long (0 : Int64)), (.long (0 : Int64)), (.long (0 : Int64)), (.long (0 : Int64)), (.long (0 : Int64)), (.long (0 : Int64)), (.long (0 : Int64)), (.long (0 : Int64)), (.long (0 : Int64)), (.long (0 : Int64)), (.long (0 : Int64))] (.long (0 : Int64)) := V_b1_q73
  have Z73 : n0 ≤ h73.size := by rw [W73.size]; exact Z71
  have K73 : Keep h0 h73 [] := K71.wr W73 (Or.inr sz_b1)
  show Go p e below T73 (mkF m 244 #[] [(.ref b1)]) _
  refine Go.step (fun _ => XS.dup X73.here hx rfl (hb hby d1_244) rfl rfl) ?_
  show Go p e below T73 (mkF m 245 #[] [(.ref b1), (.ref b1)]) _
  refine Go.step (fun _ => XS.bipush X73.here hx rfl (hb hby d1_245)) ?_
  show Go p e below T73 (mkF m 247 #[] [(.int (36 : Int32)), (.ref b1), (.ref b1)]) _
  refine Go.step (fun _ => X73.ldc2Long hx hown (mvT hZ (hw _ (List.mem_of_getElem? (i := 38) rfl))) (g := (mkF m 247 #[] [(.int (36 : Int32)), (.ref b1), (.ref b1)])) rfl (hb hby d1_247) _) ?_
  show Go p e below T73 (mkF m 250 #[] [(.long (14930352 : Int64)), (.int (36 : Int32)), (.ref b1), (.ref b1)]) _
  obtain ⟨cl74, Ar74, qa74, Sz74, Nz74, Ha74, Ga74⟩ := V_b1_q73
  have hin74 : ¬ ((36 : Int32) < 0 ∨ cl74.slots.size ≤ ((36 : Int32)).toNatClampNeg) := inb_of Sz74 ⟨by decide, by decide⟩
  obtain ⟨T75, h75, X75, e75, W75, st75⟩ := stJ X73 hx hZ e73 Ar74 (j := (36 : Int32)) hin74 (g := (mkF m 250 #[] [(.long (14930352 : Int64)), (.int (36 : Int32)), (.ref b1), (.ref b1)])) rfl rfl (hb hby d1_250)
  refine Go.step st75 ?_
  have N75 := Fr.snoc X75 N73 g_b1
  have V_b1_q75 := Arv.set Ar74 qa74 Sz74 Nz74 Ha74 Ga74 rfl W75 36 rfl (Nat.le_of_ble_eq_true rfl)
  have V_b1_q75 : Arv Z h75 b1 k1 .long (47 : Int32) [(.long (0 : Int64)), (.long (1 : Int64)), (.long (1 : Int64)), (.long (2 : Int64)), (.long (3 : Int64)), (.long (5 : Int64)), (.long (8 : Int64)), (.long (13 : Int64)), (.long (21 : Int64)), (.long (34 : Int64)), (.long (55 : Int64)), (.long (89 : Int64)), (.long (144 : Int64)), (.long (233 : Int64)), (.long (377 : Int64)), (.long (610 : Int64)), (.long (987 : Int64)), (.long (1597 : Int64)), (.long (2584 : Int64)), (.long (4181 : Int64)), (.long (6765 : Int64)), (.long (10946 : Int64)), (.long (17711 : Int64)), (.long (28657 : Int64)), (.long (46368 : Int64)), (.long (75025 : Int64)), (.long (121393 : Int64)), (.long (196418 : Int64)), (.long (317811 : Int64)), (.long (514229 : Int64)), (.long (832040 : Int64)), (.long (1346269 : Int64)), (.long (2178309 : Int64)), (.long (3524578 : Int64)), (.long (5702887 : Int64)), (.long (9227465 : Int64)), (.long (14930352 : Int64)), (.long (0 : Int64)), (.long (0 : Int64)), (.long (0 : Int64)), (.long (0 : Int64)), (.long (0 : Int64)), (.long (0 : Int64)), (.long (0 : Int64)), (.long (0 : Int64)), (.long (0 : Int64)), (.long (0 : Int64))] (.long (0 : Int64)) := V_b1_q75
  have Z75 : n0 ≤ h75.size := by rw [W75.size]; exact Z73
  have K75 : Keep h0 h75 [] := K73.wr W75 (Or.inr sz_b1)
  show Go p e below T75 (mkF m 251 #[] [(.ref b1)]) _
  refine Go.step (fun _ => XS.dup X75.here hx rfl (hb hby d1_251) rfl rfl) ?_
  show Go p e below T75 (mkF m 252 #[] [(.ref b1), (.ref b1)]) _
  refine Go.step (fun _ => XS.bipush X75.here hx rfl (hb hby d1_252)) ?_
  show Go p e below T75 (mkF m 254 #[] [(.int (37 : Int32)), (.ref b1), (.ref b1)]) _
  refine Go.step (fun _ => X75.ldc2Long hx hown (mvT hZ (hw _ (List.mem_of_getElem? (i := 39) rfl))) (g := (mkF m 254 #[] [(.int (37 : Int32)), (.ref b1), (.ref b1)])) rfl (hb hby d1_254) _) ?_
  show Go p e below T75 (mkF m 257 #[] [(.long (24157817 : Int64)), (.int (37 : Int32)), (.ref b1), (.ref b1)]) _
  obtain ⟨cl76, Ar76, qa76, Sz76, Nz76, Ha76, Ga76⟩ := V_b1_q75
  have hin76 : ¬ ((37 : Int32) < 0 ∨ cl76.slots.size ≤ ((37 : Int32)).toNatClampNeg) := inb_of Sz76 ⟨by decide, by decide⟩
  obtain ⟨T77, h77, X77, e77, W77, st77⟩ := stJ X75 hx hZ e75 Ar76 (j := (37 : Int32)) hin76 (g := (mkF m 257 #[] [(.long (24157817 : Int64)), (.int (37 : Int32)), (.ref b1), (.ref b1)])) rfl rfl (hb hby d1_257)
  refine Go.step st77 ?_
  have N77 := Fr.snoc X77 N75 g_b1
  have V_b1_q77 := Arv.set Ar76 qa76 Sz76 Nz76 Ha76 Ga76 rfl W77 37 rfl (Nat.le_of_ble_eq_true rfl)
  have V_b1_q77 : Arv Z h77 b1 k1 .long (47 : Int32) [(.long (0 : Int64)), (.long (1 : Int64)), (.long (1 : Int64)), (.long (2 : Int64)), (.long (3 : Int64)), (.long (5 : Int64)), (.long (8 : Int64)), (.long (13 : Int64)), (.long (21 : Int64)), (.long (34 : Int64)), (.long (55 : Int64)), (.long (89 : Int64)), (.long (144 : Int64)), (.long (233 : Int64)), (.long (377 : Int64)), (.long (610 : Int64)), (.long (987 : Int64)), (.long (1597 : Int64)), (.long (2584 : Int64)), (.long (4181 : Int64)), (.long (6765 : Int64)), (.long (10946 : Int64)), (.long (17711 : Int64)), (.long (28657 : Int64)), (.long (46368 : Int64)), (.long (75025 : Int64)), (.long (121393 : Int64)), (.long (196418 : Int64)), (.long (317811 : Int64)), (.long (514229 : Int64)), (.long (832040 : Int64)), (.long (1346269 : Int64)), (.long (2178309 : Int64)), (.long (3524578 : Int64)), (.long (5702887 : Int64)), (.long (9227465 : Int64)), (.long (14930352 : Int64)), (.long (24157817 : Int64)), (.long (0 : Int64)), (.long (0 : Int64)), (.long (0 : Int64)), (.long (0 : Int64)), (.long (0 : Int64)), (.long (0 : Int64)), (.long (0 : Int64)), (.long (0 : Int64)), (.long (0 : Int64))] (.long (0 : Int64)) := V_b1_q77
  have Z77 : n0 ≤ h77.size := by rw [W77.size]; exact Z75
  have K77 : Keep h0 h77 [] := K75.wr W77 (Or.inr sz_b1)
  show Go p e below T77 (mkF m 258 #[] [(.ref b1)]) _
  refine Go.step (fun _ => XS.dup X77.here hx rfl (hb hby d1_258) rfl rfl) ?_
  show Go p e below T77 (mkF m 259 #[] [(.ref b1), (.ref b1)]) _
  refine Go.step (fun _ => XS.bipush X77.here hx rfl (hb hby d1_259)) ?_
  show Go p e below T77 (mkF m 261 #[] [(.int (38 : Int32)), (.ref b1), (.ref b1)]) _
  refine Go.step (fun _ => X77.ldc2Long hx hown (mvT hZ (hw _ (List.mem_of_getElem? (i := 40) rfl))) (g := (mkF m 261 #[] [(.int (38 : Int32)), (.ref b1), (.ref b1)])) rfl (hb hby d1_261) _) ?_
  show Go p e below T77 (mkF m 264 #[] [(.long (39088169 : Int64)), (.int (38 : Int32)), (.ref b1), (.ref b1)]) _
  obtain ⟨cl78, Ar78, qa78, Sz78, Nz78, Ha78, Ga78⟩ := V_b1_q77
  have hin78 : ¬ ((38 : Int32) < 0 ∨ cl78.slots.size ≤ ((38 : Int32)).toNatClampNeg) := inb_of Sz78 ⟨by decide, by decide⟩
  obtain ⟨T79, h79, X79, e79, W79, st79⟩ := stJ X77 hx hZ e77 Ar78 (j := (38 : Int32)) hin78 (g := (mkF m 264 #[] [(.long (39088169 : Int64)), (.int (38 : Int32)), (.ref b1), (.ref b1)])) rfl rfl (hb hby d1_264)
  refine Go.step st79 ?_
  have N79 := Fr.snoc X79 N77 g_b1
  have V_b1_q79 := Arv.set Ar78 qa78 Sz78 Nz78 Ha78 Ga78 rfl W79 38 rfl (Nat.le_of_ble_eq_true rfl)
  have V_b1_q79 : Arv Z h79 b1 k1 .long (47 : Int32) [(.long (0 : Int64)), (.long (1 : Int64)), (.long (1 : Int64)), (.long (2 : Int64)), (.long (3 : Int64)), (.long (5 : Int64)), (.long (8 : Int64)), (.long (13 : Int64)), (.long (21 : Int64)), (.long (34 : Int64)), (.long (55 : Int64)), (.long (89 : Int64)), (.long (144 : Int64)), (.long (233 : Int64)), (.long (377 : Int64)), (.long (610 : Int64)), (.long (987 : Int64)), (.long (1597 : Int64)), (.long (2584 : Int64)), (.long (4181 : Int64)), (.long (6765 : Int64)), (.long (10946 : Int64)), (.long (17711 : Int64)), (.long (28657 : Int64)), (.long (46368 : Int64)), (.long (75025 : Int64)), (.long (121393 : Int64)), (.long (196418 : Int64)), (.long (317811 : Int64)), (.long (514229 : Int64)), (.long (832040 : Int64)), (.long (1346269 : Int64)), (.long (2178309 : Int64)), (.long (3524578 : Int64)), (.long (5702887 : Int64)), (.long (9227465 : Int64)), (.long (14930352 : Int64)), (.long (24157817 : Int64)), (.long (39088169 : Int64)), (.long (0 : Int64)), (.long (0 : Int64)), (.long (0 : Int64)), (.long (0 : Int64)), (.long (0 : Int64)), (.long (0 : Int64)), (.long (0 : Int64)), (.long (0 : Int64))] (.long (0 : Int64)) := V_b1_q79
  have Z79 : n0 ≤ h79.size := by rw [W79.size]; exact Z77
  have K79 : Keep h0 h79 [] := K77.wr W79 (Or.inr sz_b1)
  show Go p e below T79 (mkF m 265 #[] [(.ref b1)]) _
  refine Go.step (fun _ => XS.dup X79.here hx rfl (hb hby d1_265) rfl rfl) ?_
  show Go p e below T79 (mkF m 266 #[] [(.ref b1), (.ref b1)]) _
  refine Go.step (fun _ => XS.bipush X79.here hx rfl (hb hby d1_266)) ?_
  show Go p e below T79 (mkF m 268 #[] [(.int (39 : Int32)), (.ref b1), (.ref b1)]) _
  refine Go.step (fun _ => X79.ldc2Long hx hown (mvT hZ (hw _ (List.mem_of_getElem? (i := 41) rfl))) (g := (mkF m 268 #[] [(.int (39 : Int32)), (.ref b1), (.ref b1)])) rfl (hb hby d1_268) _) ?_
  show Go p e below T79 (mkF m 271 #[] [(.long (63245986 : Int64)), (.int (39 : Int32)), (.ref b1), (.ref b1)]) _
  obtain ⟨cl80, Ar80, qa80, Sz80, Nz80, Ha80, Ga80⟩ := V_b1_q79
  have hin80 : ¬ ((39 : Int32) < 0 ∨ cl80.slots.size ≤ ((39 : Int32)).toNatClampNeg) := inb_of Sz80 ⟨by decide, by decide⟩
  obtain ⟨T81, h81, X81, e81, W81, st81⟩ := stJ X79 hx hZ e79 Ar80 (j := (39 : Int32)) hin80 (g := (mkF m 271 #[] [(.long (63245986 : Int64)), (.int (39 : Int32)), (.ref b1), (.ref b1)])) rfl rfl (hb hby d1_271)
  refine Go.step st81 ?_
  have N81 := Fr.snoc X81 N79 g_b1
  have V_b1_q81 := Arv.set Ar80 qa80 Sz80 Nz80 Ha80 Ga80 rfl W81 39 rfl (Nat.le_of_ble_eq_true rfl)
  have V_b1_q81 : Arv Z h81 b1 k1 .long (47 : Int32) [(.long (0 : Int64)), (.long (1 : Int64)), (.long (1 : Int64)), (.long (2 : Int64)), (.long (3 : Int64)), (.long (5 : Int64)), (.long (8 : Int64)), (.long (13 : Int64)), (.long (21 : Int64)), (.long (34 : Int64)), (.long (55 : Int64)), (.long (89 : Int64)), (.long (144 : Int64)), (.long (233 : Int64)), (.long (377 : Int64)), (.long (610 : Int64)), (.long (987 : Int64)), (.long (1597 : Int64)), (.long (2584 : Int64)), (.long (4181 : Int64)), (.long (6765 : Int64)), (.long (10946 : Int64)), (.long (17711 : Int64)), (.long (28657 : Int64)), (.long (46368 : Int64)), (.long (75025 : Int64)), (.long (121393 : Int64)), (.long (196418 : Int64)), (.long (317811 : Int64)), (.long (514229 : Int64)), (.long (832040 : Int64)), (.long (1346269 : Int64)), (.long (2178309 : Int64)), (.long (3524578 : Int64)), (.long (5702887 : Int64)), (.long (9227465 : Int64)), (.long (14930352 : Int64)), (.long (24157817 : Int64)), (.long (39088169 : Int64)), (.long (63245986 : Int64)), (.long (0 : Int64)), (.long (0 : Int64)), (.long (0 : Int64)), (.long (0 : Int64)), (.long (0 : Int64)), (.long (0 : Int64)), (.long (0 : Int64))] (.long (0 : Int64)) := V_b1_q81
  have Z81 : n0 ≤ h81.size := by rw [W81.size]; exact Z79
  have K81 : Keep h0 h81 [] := K79.wr W81 (Or.inr sz_b1)
  show Go p e below T81 (mkF m 272 #[] [(.ref b1)]) _
  refine Go.step (fun _ => XS.dup X81.here hx rfl (hb hby d1_272) rfl rfl) ?_
  show Go p e below T81 (mkF m 273 #[] [(.ref b1), (.ref b1)]) _
  refine Go.step (fun _ => XS.bipush X81.here hx rfl (hb hby d1_273)) ?_
  show Go p e below T81 (mkF m 275 #[] [(.int (40 : Int32)), (.ref b1), (.ref b1)]) _
  refine Go.step (fun _ => X81.ldc2Long hx hown (mvT hZ (hw _ (List.mem_of_getElem? (i := 42) rfl))) (g := (mkF m 275 #[] [(.int (40 : Int32)), (.ref b1), (.ref b1)])) rfl (hb hby d1_275) _) ?_
  show Go p e below T81 (mkF m 278 #[] [(.long (102334155 : Int64)), (.int (40 : Int32)), (.ref b1), (.ref b1)]) _
  obtain ⟨cl82, Ar82, qa82, Sz82, Nz82, Ha82, Ga82⟩ := V_b1_q81
  have hin82 : ¬ ((40 : Int32) < 0 ∨ cl82.slots.size ≤ ((40 : Int32)).toNatClampNeg) := inb_of Sz82 ⟨by decide, by decide⟩
  obtain ⟨T83, h83, X83, e83, W83, st83⟩ := stJ X81 hx hZ e81 Ar82 (j := (40 : Int32)) hin82 (g := (mkF m 278 #[] [(.long (102334155 : Int64)), (.int (40 : Int32)), (.ref b1), (.ref b1)])) rfl rfl (hb hby d1_278)
  refine Go.step st83 ?_
  have N83 := Fr.snoc X83 N81 g_b1
  have V_b1_q83 := Arv.set Ar82 qa82 Sz82 Nz82 Ha82 Ga82 rfl W83 40 rfl (Nat.le_of_ble_eq_true rfl)
  have V_b1_q83 : Arv Z h83 b1 k1 .long (47 : Int32) [(.long (0 : Int64)), (.long (1 : Int64)), (.long (1 : Int64)), (.long (2 : Int64)), (.long (3 : Int64)), (.long (5 : Int64)), (.long (8 : Int64)), (.long (13 : Int64)), (.long (21 : Int64)), (.long (34 : Int64)), (.long (55 : Int64)), (.long (89 : Int64)), (.long (144 : Int64)), (.long (233 : Int64)), (.long (377 : Int64)), (.long (610 : Int64)), (.long (987 : Int64)), (.long (1597 : Int64)), (.long (2584 : Int64)), (.long (4181 : Int64)), (.long (6765 : Int64)), (.long (10946 : Int64)), (.long (17711 : Int64)), (.long (28657 : Int64)), (.long (46368 : Int64)), (.long (75025 : Int64)), (.long (121393 : Int64)), (.long (196418 : Int64)), (.long (317811 : Int64)), (.long (514229 : Int64)), (.long (832040 : Int64)), (.long (1346269 : Int64)), (.long (2178309 : Int64)), (.long (3524578 : Int64)), (.long (5702887 : Int64)), (.long (9227465 : Int64)), (.long (14930352 : Int64)), (.long (24157817 : Int64)), (.long (39088169 : Int64)), (.long (63245986 : Int64)), (.long (102334155 : Int64)), (.long (0 : Int64)), (.long (0 : Int64)), (.long (0 : Int64)), (.long (0 : Int64)), (.long (0 : Int64)), (.long (0 : Int64))] (.long (0 : Int64)) := V_b1_q83
  have Z83 : n0 ≤ h83.size := by rw [W83.size]; exact Z81
  have K83 : Keep h0 h83 [] := K81.wr W83 (Or.inr sz_b1)
  show Go p e below T83 (mkF m 279 #[] [(.ref b1)]) _
  refine Go.step (fun _ => XS.dup X83.here hx rfl (hb hby d1_279) rfl rfl) ?_
  show Go p e below T83 (mkF m 280 #[] [(.ref b1), (.ref b1)]) _
  refine Go.step (fun _ => XS.bipush X83.here hx rfl (hb hby d1_280)) ?_
  show Go p e below T83 (mkF m 282 #[] [(.int (41 : Int32)), (.ref b1), (.ref b1)]) _
  refine Go.step (fun _ => X83.ldc2Long hx hown (mvT hZ (hw _ (List.mem_of_getElem? (i := 43) rfl))) (g := (mkF m 282 #[] [(.int (41 : Int32)), (.ref b1), (.ref b1)])) rfl (hb hby d1_282) _) ?_
  show Go p e below T83 (mkF m 285 #[] [(.long (165580141 : Int64)), (.int (41 : Int32)), (.ref b1), (.ref b1)]) _
  obtain ⟨cl84, Ar84, qa84, Sz84, Nz84, Ha84, Ga84⟩ := V_b1_q83
  have hin84 : ¬ ((41 : Int32) < 0 ∨ cl84.slots.size ≤ ((41 : Int32)).toNatClampNeg) := inb_of Sz84 ⟨by decide, by decide⟩
  obtain ⟨T85, h85, X85, e85, W85, st85⟩ := stJ X83 hx hZ e83 Ar84 (j := (41 : Int32)) hin84 (g := (mkF m 285 #[] [(.long (165580141 : Int64)), (.int (41 : Int32)), (.ref b1), (.ref b1)])) rfl rfl (hb hby d1_285)
  refine Go.step st85 ?_
  have N85 := Fr.snoc X85 N83 g_b1
  have V_b1_q85 := Arv.set Ar84 qa84 Sz84 Nz84 Ha84 Ga84 rfl W85 41 rfl (Nat.le_of_ble_eq_true rfl)
  have V_b1_q85 : Arv Z h85 b1 k1 .long (47 : Int32) [(.long (0 : Int64)), (.long (1 : Int64)), (.long (1 : Int64)), (.long (2 : Int64)), (.long (3 : Int64)), (.long (5 : Int64)), (.long (8 : Int64)), (.long (13 : Int64)), (.long (21 : Int64)), (.long (34 : Int64)), (.long (55 : Int64)), (.long (89 : Int64)), (.long (144 : Int64)), (.long (233 : Int64)), (.long (377 : Int64)), (.long (610 : Int64)), (.long (987 : Int64)), (.long (1597 : Int64)), (.long (2584 : Int64)), (.long (4181 : Int64)), (.long (6765 : Int64)), (.long (10946 : Int64)), (.long (17711 : Int64)), (.long (28657 : Int64)), (.long (46368 : Int64)), (.long (75025 : Int64)), (.long (121393 : Int64)), (.long (196418 : Int64)), (.long (317811 : Int64)), (.long (514229 : Int64)), (.long (832040 : Int64)), (.long (1346269 : Int64)), (.long (2178309 : Int64)), (.long (3524578 : Int64)), (.long (5702887 : Int64)), (.long (9227465 : Int64)), (.long (14930352 : Int64)), (.long (24157817 : Int64)), (.long (39088169 : Int64)), (.long (63245986 : Int64)), (.long (102334155 : Int64)), (.long (165580141 : Int64)), (.long (0 : Int64)), (.long (0 : Int64)), (.long (0 : Int64)), (.long (0 : Int64)), (.long (0 : Int64))] (.long (0 : Int64)) := V_b1_q85
  have Z85 : n0 ≤ h85.size := by rw [W85.size]; exact Z83
  have K85 : Keep h0 h85 [] := K83.wr W85 (Or.inr sz_b1)
  show Go p e below T85 (mkF m 286 #[] [(.ref b1)]) _
  refine Go.step (fun _ => XS.dup X85.here hx rfl (hb hby d1_286) rfl rfl) ?_
  show Go p e below T85 (mkF m 287 #[] [(.ref b1), (.ref b1)]) _
  refine Go.step (fun _ => XS.bipush X85.here hx rfl (hb hby d1_287)) ?_
  show Go p e below T85 (mkF m 289 #[] [(.int (42 : Int32)), (.ref b1), (.ref b1)]) _
  refine Go.step (fun _ => X85.ldc2Long hx hown (mvT hZ (hw _ (List.mem_of_getElem? (i := 44) rfl))) (g := (mkF m 289 #[] [(.int (42 : Int32)), (.ref b1), (.ref b1)])) rfl (hb hby d1_289) _) ?_
  show Go p e below T85 (mkF m 292 #[] [(.long (267914296 : Int64)), (.int (42 : Int32)), (.ref b1), (.ref b1)]) _
  obtain ⟨cl86, Ar86, qa86, Sz86, Nz86, Ha86, Ga86⟩ := V_b1_q85
  have hin86 : ¬ ((42 : Int32) < 0 ∨ cl86.slots.size ≤ ((42 : Int32)).toNatClampNeg) := inb_of Sz86 ⟨by decide, by decide⟩
  obtain ⟨T87, h87, X87, e87, W87, st87⟩ := stJ X85 hx hZ e85 Ar86 (j := (42 : Int32)) hin86 (g := (mkF m 292 #[] [(.long (267914296 : Int64)), (.int (42 : Int32)), (.ref b1), (.ref b1)])) rfl rfl (hb hby d1_292)
  refine Go.step st87 ?_
  have N87 := Fr.snoc X87 N85 g_b1
  have V_b1_q87 := Arv.set Ar86 qa86 Sz86 Nz86 Ha86 Ga86 rfl W87 42 rfl (Nat.le_of_ble_eq_true rfl)
  have V_b1_q87 : Arv Z h87 b1 k1 .long (47 : Int32) [(.long (0 : Int64)), (.long (1 : Int64)), (.long (1 : Int64)), (.long (2 : Int64)), (.long (3 : Int64)), (.long (5 : Int64)), (.long (8 : Int64)), (.long (13 : Int64)), (.long (21 : Int64)), (.long (34 : Int64)), (.long (55 : Int64)), (.long (89 : Int64)), (.long (144 : Int64)), (.long (233 : Int64)), (.long (377 : Int64)), (.long (610 : Int64)), (.long (987 : Int64)), (.long (1597 : Int64)), (.long (2584 : Int64)), (.long (4181 : Int64)), (.long (6765 : Int64)), (.long (10946 : Int64)), (.long (17711 : Int64)), (.long (28657 : Int64)), (.long (46368 : Int64)), (.long (75025 : Int64)), (.long (121393 : Int64)), (.long (196418 : Int64)), (.long (317811 : Int64)), (.long (514229 : Int64)), (.long (832040 : Int64)), (.long (1346269 : Int64)), (.long (2178309 : Int64)), (.long (3524578 : Int64)), (.long (5702887 : Int64)), (.long (9227465 : Int64)), (.long (14930352 : Int64)), (.long (24157817 : Int64)), (.long (39088169 : Int64)), (.long (63245986 : Int64)), (.long (102334155 : Int64)), (.long (165580141 : Int64)), (.long (267914296 : Int64)), (.long (0 : Int64)), (.long (0 : Int64)), (.long (0 : Int64)), (.long (0 : Int64))] (.long (0 : Int64)) := V_b1_q87
  have Z87 : n0 ≤ h87.size := by rw [W87.size]; exact Z85
  have K87 : Keep h0 h87 [] := K85.wr W87 (Or.inr sz_b1)
  show Go p e below T87 (mkF m 293 #[] [(.ref b1)]) _
  refine Go.step (fun _ => XS.dup X87.here hx rfl (hb hby d1_293) rfl rfl) ?_
  show Go p e below T87 (mkF m 294 #[] [(.ref b1), (.ref b1)]) _
  refine Go.step (fun _ => XS.bipush X87.here hx rfl (hb hby d1_294)) ?_
  show Go p e below T87 (mkF m 296 #[] [(.int (43 : Int32)), (.ref b1), (.ref b1)]) _
  refine Go.step (fun _ => X87.ldc2Long hx hown (mvT hZ (hw _ (List.mem_of_getElem? (i := 45) rfl))) (g := (mkF m 296 #[] [(.int (43 : Int32)), (.ref b1), (.ref b1)])) rfl (hb hby d1_296) _) ?_
  show Go p e below T87 (mkF m 299 #[] [(.long (433494437 : Int64)), (.int (43 : Int32)), (.ref b1), (.ref b1)]) _
  obtain ⟨cl88, Ar88, qa88, Sz88, Nz88, Ha88, Ga88⟩ := V_b1_q87
  have hin88 : ¬ ((43 : Int32) < 0 ∨ cl88.slots.size ≤ ((43 : Int32)).toNatClampNeg) := inb_of Sz88 ⟨by decide, by decide⟩
  obtain ⟨T89, h89, X89, e89, W89, st89⟩ := stJ X87 hx hZ e87 Ar88 (j := (43 : Int32)) hin88 (g := (mkF m 299 #[] [(.long (433494437 : Int64)), (.int (43 : Int32)), (.ref b1), (.ref b1)])) rfl rfl (hb hby d1_299)
  refine Go.step st89 ?_
  have N89 := Fr.snoc X89 N87 g_b1
  have V_b1_q89 := Arv.set Ar88 qa88 Sz88 Nz88 Ha88 Ga88 rfl W89 43 rfl (Nat.le_of_ble_eq_true rfl)
  have V_b1_q89 : Arv Z h89 b1 k1 .long (47 : Int32) [(.long (0 : Int64)), (.long (1 : Int64)), (.long (1 : Int64)), (.long (2 : Int64)), (.long (3 : Int64)), (.long (5 : Int64)), (.long (8 : Int64)), (.long (13 : Int64)), (.long (21 : Int64)), (.long (34 : Int64)), (.long (55 : Int64)), (.long (89 : Int64)), (.long (144 : Int64)), (.long (233 : Int64)), (.long (377 : Int64)), (.long (610 : Int64)), (.long (987 : Int64)), (.long (1597 : Int64)), (.long (2584 : Int64)), (.long (4181 : Int64)), (.long (6765 : Int64)), (.long (10946 : Int64)), (.long (17711 : Int64)), (.long (28657 : Int64)), (.long (46368 : Int64)), (.long (75025 : Int64)), (.long (121393 : Int64)), (.long (196418 : Int64)), (.long (317811 : Int64)), (.long (514229 : Int64)), (.long (832040 : Int64)), (.long (1346269 : Int64)), (.long (2178309 : Int64)), (.long (3524578 : Int64)), (.long (5702887 : Int64)), (.long (9227465 : Int64)), (.long (14930352 : Int64)), (.long (24157817 : Int64)), (.long (39088169 : Int64)), (.long (63245986 : Int64)), (.long (102334155 : Int64)), (.long (165580141 : Int64)), (.long (267914296 : Int64)), (.long (433494437 : Int64)), (.long (0 : Int64)), (.long (0 : Int64)), (.long (0 : Int64))] (.long (0 : Int64)) := V_b1_q89
  have Z89 : n0 ≤ h89.size := by rw [W89.size]; exact Z87
  have K89 : Keep h0 h89 [] := K87.wr W89 (Or.inr sz_b1)
  show Go p e below T89 (mkF m 300 #[] [(.ref b1)]) _
  refine Go.step (fun _ => XS.dup X89.here hx rfl (hb hby d1_300) rfl rfl) ?_
  show Go p e below T89 (mkF m 301 #[] [(.ref b1), (.ref b1)]) _
  refine Go.step (fun _ => XS.bipush X89.here hx rfl (hb hby d1_301)) ?_
  show Go p e below T89 (mkF m 303 #[] [(.int (44 : Int32)), (.ref b1), (.ref b1)]) _
  refine Go.step (fun _ => X89.ldc2Long hx hown (mvT hZ (hw _ (List.mem_of_getElem? (i := 46) rfl))) (g := (mkF m 303 #[] [(.int (44 : Int32)), (.ref b1), (.ref b1)])) rfl (hb hby d1_303) _) ?_
  show Go p e below T89 (mkF m 306 #[] [(.long (701408733 : Int64)), (.int (44 : Int32)), (.ref b1), (.ref b1)]) _
  obtain ⟨cl90, Ar90, qa90, Sz90, Nz90, Ha90, Ga90⟩ := V_b1_q89
  have hin90 : ¬ ((44 : Int32) < 0 ∨ cl90.slots.size ≤ ((44 : Int32)).toNatClampNeg) := inb_of Sz90 ⟨by decide, by decide⟩
  obtain ⟨T91, h91, X91, e91, W91, st91⟩ := stJ X89 hx hZ e89 Ar90 (j := (44 : Int32)) hin90 (g := (mkF m 306 #[] [(.long (701408733 : Int64)), (.int (44 : Int32)), (.ref b1), (.ref b1)])) rfl rfl (hb hby d1_306)
  refine Go.step st91 ?_
  have N91 := Fr.snoc X91 N89 g_b1
  have V_b1_q91 := Arv.set Ar90 qa90 Sz90 Nz90 Ha90 Ga90 rfl W91 44 rfl (Nat.le_of_ble_eq_true rfl)
  have V_b1_q91 : Arv Z h91 b1 k1 .long (47 : Int32) [(.long (0 : Int64)), (.long (1 : Int64)), (.long (1 : Int64)), (.long (2 : Int64)), (.long (3 : Int64)), (.long (5 : Int64)), (.long (8 : Int64)), (.long (13 : Int64)), (.long (21 : Int64)), (.long (34 : Int64)), (.long (55 : Int64)), (.long (89 : Int64)), (.long (144 : Int64)), (.long (233 : Int64)), (.long (377 : Int64)), (.long (610 : Int64)), (.long (987 : Int64)), (.long (1597 : Int64)), (.long (2584 : Int64)), (.long (4181 : Int64)), (.long (6765 : Int64)), (.long (10946 : Int64)), (.long (17711 : Int64)), (.long (28657 : Int64)), (.long (46368 : Int64)), (.long (75025 : Int64)), (.long (121393 : Int64)), (.long (196418 : Int64)), (.long (317811 : Int64)), (.long (514229 : Int64)), (.long (832040 : Int64)), (.long (1346269 : Int64)), (.long (2178309 : Int64)), (.long (3524578 : Int64)), (.long (5702887 : Int64)), (.long (9227465 : Int64)), (.long (14930352 : Int64)), (.long (24157817 : Int64)), (.long (39088169 : Int64)), (.long (63245986 : Int64)), (.long (102334155 : Int64)), (.long (165580141 : Int64)), (.long (267914296 : Int64)), (.long (433494437 : Int64)), (.long (701408733 : Int64)), (.long (0 : Int64)), (.long (0 : Int64))] (.long (0 : Int64)) := V_b1_q91
  have Z91 : n0 ≤ h91.size := by rw [W91.size]; exact Z89
  have K91 : Keep h0 h91 [] := K89.wr W91 (Or.inr sz_b1)
  show Go p e below T91 (mkF m 307 #[] [(.ref b1)]) _
  refine Go.step (fun _ => XS.dup X91.here hx rfl (hb hby d1_307) rfl rfl) ?_
  show Go p e below T91 (mkF m 308 #[] [(.ref b1), (.ref b1)]) _
  refine Go.step (fun _ => XS.bipush X91.here hx rfl (hb hby d1_308)) ?_
  show Go p e below T91 (mkF m 310 #[] [(.int (45 : Int32)), (.ref b1), (.ref b1)]) _
  refine Go.step (fun _ => X91.ldc2Long hx hown (mvT hZ (hw _ (List.mem_of_getElem? (i := 47) rfl))) (g := (mkF m 310 #[] [(.int (45 : Int32)), (.ref b1), (.ref b1)])) rfl (hb hby d1_310) _) ?_
  show Go p e below T91 (mkF m 313 #[] [(.long (1134903170 : Int64)), (.int (45 : Int32)), (.ref b1), (.ref b1)]) _
  obtain ⟨cl92, Ar92, qa92, Sz92, Nz92, Ha92, Ga92⟩ := V_b1_q91
  have hin92 : ¬ ((45 : Int32) < 0 ∨ cl92.slots.size ≤ ((45 : Int32)).toNatClampNeg) := inb_of Sz92 ⟨by decide, by decide⟩
  obtain ⟨T93, h93, X93, e93, W93, st93⟩ := stJ X91 hx hZ e91 Ar92 (j := (45 : Int32)) hin92 (g := (mkF m 313 #[] [(.long (1134903170 : Int64)), (.int (45 : Int32)), (.ref b1), (.ref b1)])) rfl rfl (hb hby d1_313)
  refine Go.step st93 ?_
  have N93 := Fr.snoc X93 N91 g_b1
  have V_b1_q93 := Arv.set Ar92 qa92 Sz92 Nz92 Ha92 Ga92 rfl W93 45 rfl (Nat.le_of_ble_eq_true rfl)
  have V_b1_q93 : Arv Z h93 b1 k1 .long (47 : Int32) [(.long (0 : Int64)), (.long (1 : Int64)), (.long (1 : Int64)), (.long (2 : Int64)), (.long (3 : Int64)), (.long (5 : Int64)), (.long (8 : Int64)), (.long (13 : Int64)), (.long (21 : Int64)), (.long (34 : Int64)), (.long (55 : Int64)), (.long (89 : Int64)), (.long (144 : Int64)), (.long (233 : Int64)), (.long (377 : Int64)), (.long (610 : Int64)), (.long (987 : Int64)), (.long (1597 : Int64)), (.long (2584 : Int64)), (.long (4181 : Int64)), (.long (6765 : Int64)), (.long (10946 : Int64)), (.long (17711 : Int64)), (.long (28657 : Int64)), (.long (46368 : Int64)), (.long (75025 : Int64)), (.long (121393 : Int64)), (.long (196418 : Int64)), (.long (317811 : Int64)), (.long (514229 : Int64)), (.long (832040 : Int64)), (.long (1346269 : Int64)), (.long (2178309 : Int64)), (.long (3524578 : Int64)), (.long (5702887 : Int64)), (.long (9227465 : Int64)), (.long (14930352 : Int64)), (.long (24157817 : Int64)), (.long (39088169 : Int64)), (.long (63245986 : Int64)), (.long (102334155 : Int64)), (.long (165580141 : Int64)), (.long (267914296 : Int64)), (.long (433494437 : Int64)), (.long (701408733 : Int64)), (.long (1134903170 : Int64)), (.long (0 : Int64))] (.long (0 : Int64)) := V_b1_q93
  have Z93 : n0 ≤ h93.size := by rw [W93.size]; exact Z91
  have K93 : Keep h0 h93 [] := K91.wr W93 (Or.inr sz_b1)
  show Go p e below T93 (mkF m 314 #[] [(.ref b1)]) _
  refine Go.step (fun _ => XS.dup X93.here hx rfl (hb hby d1_314) rfl rfl) ?_
  show Go p e below T93 (mkF m 315 #[] [(.ref b1), (.ref b1)]) _
  refine Go.step (fun _ => XS.bipush X93.here hx rfl (hb hby d1_315)) ?_
  show Go p e below T93 (mkF m 317 #[] [(.int (46 : Int32)), (.ref b1), (.ref b1)]) _
  refine Go.step (fun _ => X93.ldc2Long hx hown (mvT hZ (hw _ (List.mem_of_getElem? (i := 48) rfl))) (g := (mkF m 317 #[] [(.int (46 : Int32)), (.ref b1), (.ref b1)])) rfl (hb hby d1_317) _) ?_
  show Go p e below T93 (mkF m 320 #[] [(.long (1836311903 : Int64)), (.int (46 : Int32)), (.ref b1), (.ref b1)]) _
  obtain ⟨cl94, Ar94, qa94, Sz94, Nz94, Ha94, Ga94⟩ := V_b1_q93
  have hin94 : ¬ ((46 : Int32) < 0 ∨ cl94.slots.size ≤ ((46 : Int32)).toNatClampNeg) := inb_of Sz94 ⟨by decide, by decide⟩
  obtain ⟨T95, h95, X95, e95, W95, st95⟩ := stJ X93 hx hZ e93 Ar94 (j := (46 : Int32)) hin94 (g := (mkF m 320 #[] [(.long (1836311903 : Int64)), (.int (46 : Int32)), (.ref b1), (.ref b1)])) rfl rfl (hb hby d1_320)
  refine Go.step st95 ?_
  have N95 := Fr.snoc X95 N93 g_b1
  have V_b1_q95 := Arv.set Ar94 qa94 Sz94 Nz94 Ha94 Ga94 rfl W95 46 rfl (Nat.le_of_ble_eq_true rfl)
  have V_b1_q95 : Arv Z h95 b1 k1 .long (47 : Int32) [(.long (0 : Int64)), (.long (1 : Int64)), (.long (1 : Int64)), (.long (2 : Int64)), (.long (3 : Int64)), (.long (5 : Int64)), (.long (8 : Int64)), (.long (13 : Int64)), (.long (21 : Int64)), (.long (34 : Int64)), (.long (55 : Int64)), (.long (89 : Int64)), (.long (144 : Int64)), (.long (233 : Int64)), (.long (377 : Int64)), (.long (610 : Int64)), (.long (987 : Int64)), (.long (1597 : Int64)), (.long (2584 : Int64)), (.long (4181 : Int64)), (.long (6765 : Int64)), (.long (10946 : Int64)), (.long (17711 : Int64)), (.long (28657 : Int64)), (.long (46368 : Int64)), (.long (75025 : Int64)), (.long (121393 : Int64)), (.long (196418 : Int64)), (.long (317811 : Int64)), (.long (514229 : Int64)), (.long (832040 : Int64)), (.long (1346269 : Int64)), (.long (2178309 : Int64)), (.long (3524578 : Int64)), (.long (5702887 : Int64)), (.long (9227465 : Int64)), (.long (14930352 : Int64)), (.long (24157817 : Int64)), (.long (39088169 : Int64)), (.long (63245986 : Int64)), (.long (102334155 : Int64)), (.long (165580141 : Int64)), (.long (267914296 : Int64)), (.long (433494437 : Int64)), (.long (701408733 : Int64)), (.long (1134903170 : Int64)), (.long (1836311903 : Int64))] (.long (0 : Int64)) := V_b1_q95
  have Z95 : n0 ≤ h95.size := by rw [W95.size]; exact Z93
  have K95 : Keep h0 h95 [] := K93.wr W95 (Or.inr sz_b1)
  show Go p e below T95 (mkF m 321 #[] [(.ref b1)]) _
  refine Go.retA X95 hx hret rfl rfl hlk (hb hby d1_321) ?_ (by decide) (by decide)
  subst g1
  rw [e95]
  exact ⟨rfl, N95, K95, _, V_b1_q95⟩
theorem d2_0 : decode jdk_29_method_70_code 0 = .ok (.lload_n 0, 1) := by decide +kernel
theorem d2_1 : decode jdk_29_method_70_code 1 = .ok (.lload_n 2, 1) := by decide +kernel
theorem d2_2 : decode jdk_29_method_70_code 2 = .ok (.lcmp, 1) := by decide +kernel
theorem d2_3 : decode jdk_29_method_70_code 3 = .ok (.ifCond .gt 7, 3) := by decide +kernel
theorem d2_6 : decode jdk_29_method_70_code 6 = .ok (.lload_n 0, 1) := by decide +kernel
theorem d2_7 : decode jdk_29_method_70_code 7 = .ok (.goto 4, 3) := by decide +kernel
theorem d2_10 : decode jdk_29_method_70_code 10 = .ok (.lload_n 2, 1) := by decide +kernel
theorem d2_11 : decode jdk_29_method_70_code 11 = .ok (.lreturn, 1) := by decide +kernel
theorem ef_rm2 (m : MethodId) (x0 : Int64) (x1 : Int64) : entryFrame m #[(.long x0), (.long x1)] 4 = mkF m 0 #[.val (.long x0), .second, .val (.long x1), .second] [] := by first | (simp [entryFrame, mkF, argsToLocals, Value.category]; done) | rfl
def Q2 (Z : State) (q0 q1 r : Int64) (h0 : Heap) (n0 : Nat) (v : Option Value) (h : Heap) (L : List Loc) : Prop := v = some (.long r) ∧ Fr n0 L ∧ h = h0
set_option maxRecDepth 65536 in
set_option maxHeartbeats 40000000 in
theorem rm2 (l : Launch) (Z : State) (a0 : Array Value) (hw : ∀ d ∈ tables_1, d.before a0 Z = true) (ws : List Jvm.Cond) (q0 q1 r : Int64) (h0 : Heap) (n0 : Nat) (Z0 : n0 ≤ h0.size) (hr : r = if (0 : Int32) < lcmpW q0 q1 then q1 else q0) :
    MetFree l (⟨"java/lang/Math", "min", "(JJ)J"⟩ : MethodName) (head1 (Jvm.Cond.code (⟨"java/lang/Math", "min", "(JJ)J"⟩ : MethodName) jdk_29_method_70_code 4 (some .long) :: ws) ({ frames := 0, cells := 0, slots := 0, locals := 0 } : Room)) (fun a U => a = #[(.long q0), (.long q1)] ∧ Z.Warmed39 U.vm ∧ U.heap = h0) (fun _ _ _ _ _ => True) (fun _ U o U' => ∃ v L, o = .returned v ∧ Q2 Z q0 q1 r h0 n0 v U'.heap L ∧ FrameEnd U o U' L ({ frames := 0, cells := 0, slots := 0, locals := 0 } : Room).cells ({ frames := 0, cells := 0, slots := 0, locals := 0 } : Room).slots) := by
  refine MetFree.of_bodySF (Jvm.Free.JP.mathPlain rfl (by decide +kernel)) hisR ?_
  intro p e s m args below meth c s₁ Bd hml0 hP hK
  obtain ⟨rfl, hZ, hh⟩ := hP
  have hx := Bd.exec
  have hby := Bd.bytes
  have hml : c.maxLocals = 4 := hml0
  have hown : s.vm.findClass "java/lang/Math" = some m.cls := findClass_of_methodNamed Bd.named
  have hnm := (name_of_methodNamed Bd.named Bd.method).1
  have hlk : meth.locks = false := Bd.notSynchronized
  have hret := Bd.returns
  have X0 : Stand p l e ({ frames := 0, cells := 0, slots := 0, locals := 0 } : Room) s m #[(.long q0), (.long q1)] below meth c s₁ [] 0 0 := Stand.of_body Bd
  have e0 : s₁.heap = h0 := by rw [← hh, Bd.state]; rfl
  have N0 := Fr.nil n0
  show Go p e below s₁ (entryFrame m #[(.long q0), (.long q1)] 4) (Fin s (Q2 Z q0 q1 r h0 n0) ({ frames := 0, cells := 0, slots := 0, locals := 0 } : Room).cells ({ frames := 0, cells := 0, slots := 0, locals := 0 } : Room).slots)
  rw [ef_rm2]
  show Go p e below s₁ (mkF m 0 #[.val (.long q0), .second, .val (.long q1), .second] []) _
  refine Go.step (fun _ => XS.lloadN X0.here hx rfl (hb hby d2_0) rfl ) ?_
  show Go p e below s₁ (mkF m 1 #[.val (.long q0), .second, .val (.long q1), .second] [(.long q0)]) _
  refine Go.step (fun _ => XS.lloadN X0.here hx rfl (hb hby d2_1) rfl ) ?_
  show Go p e below s₁ (mkF m 2 #[.val (.long q0), .second, .val (.long q1), .second] [(.long q1), (.long q0)]) _
  refine Go.step (fun _ => XS.lcmp X0.here hx rfl (hb hby d2_2) rfl) ?_
  show Go p e below s₁ (mkF m 3 #[.val (.long q0), .second, .val (.long q1), .second] [(.int (lcmpW q0 q1))]) _
  by_cases hc3 : (0 : Int32) < (lcmpW q0 q1)
  · skip
    refine Go.step (fun _ => XS.ifYes X0.here hx rfl (pc0 := 3) (pc' := 10) rfl (hb hby d2_3) rfl ((if0 _ _).trans (tlt hc3).2.2.1) (by decide) (by decide)) ?_
    show Go p e below s₁ (mkF m 10 #[.val (.long q0), .second, .val (.long q1), .second] []) _
    refine Go.step (fun _ => XS.lloadN X0.here hx rfl (hb hby d2_10) rfl ) ?_
    show Go p e below s₁ (mkF m 11 #[.val (.long q0), .second, .val (.long q1), .second] [(.long q1)]) _
    refine Go.retL X0 hx hret hlk (hb hby d2_11) ?_ (by decide) (by decide)
    exact ⟨by rw [hr, if_pos hc3], N0, e0⟩
  · skip
    refine Go.step (fun _ => XS.ifNo X0.here hx rfl (hb hby d2_3) rfl ((if0 _ _).trans (flt hc3).2.2.1)) ?_
    show Go p e below s₁ (mkF m 6 #[.val (.long q0), .second, .val (.long q1), .second] []) _
    refine Go.step (fun _ => XS.lloadN X0.here hx rfl (hb hby d2_6) rfl ) ?_
    show Go p e below s₁ (mkF m 7 #[.val (.long q0), .second, .val (.long q1), .second] [(.long q0)]) _
    refine Go.step (fun _ => XS.goto X0.here hx rfl (pc0 := 7) (pc' := 11) rfl (hb hby d2_7) (by decide) (by decide)) ?_
    show Go p e below s₁ (mkF m 11 #[.val (.long q0), .second, .val (.long q1), .second] [(.long q0)]) _
    refine Go.retL X0 hx hret hlk (hb hby d2_11) ?_ (by decide) (by decide)
    exact ⟨by rw [hr, if_neg hc3], N0, e0⟩
theorem d4_0 : decode jdk_29_method_66_code 0 = .ok (.lload_n 0, 1) := by decide +kernel
theorem d4_1 : decode jdk_29_method_66_code 1 = .ok (.lload_n 2, 1) := by decide +kernel
theorem d4_2 : decode jdk_29_method_66_code 2 = .ok (.lcmp, 1) := by decide +kernel
theorem d4_3 : decode jdk_29_method_66_code 3 = .ok (.ifCond .lt 7, 3) := by decide +kernel
theorem d4_6 : decode jdk_29_method_66_code 6 = .ok (.lload_n 0, 1) := by decide +kernel
theorem d4_7 : decode jdk_29_method_66_code 7 = .ok (.goto 4, 3) := by decide +kernel
theorem d4_10 : decode jdk_29_method_66_code 10 = .ok (.lload_n 2, 1) := by decide +kernel
theorem d4_11 : decode jdk_29_method_66_code 11 = .ok (.lreturn, 1) := by decide +kernel
theorem ef_rm4 (m : MethodId) (x0 : Int64) (x1 : Int64) : entryFrame m #[(.long x0), (.long x1)] 4 = mkF m 0 #[.val (.long x0), .second, .val (.long x1), .second] [] := by first | (simp [entryFrame, mkF, argsToLocals, Value.category]; done) | rfl
def Q4 (Z : State) (q0 q1 r : Int64) (h0 : Heap) (n0 : Nat) (v : Option Value) (h : Heap) (L : List Loc) : Prop := v = some (.long r) ∧ Fr n0 L ∧ h = h0
set_option maxRecDepth 65536 in
set_option maxHeartbeats 40000000 in
theorem rm4 (l : Launch) (Z : State) (a0 : Array Value) (hw : ∀ d ∈ tables_1, d.before a0 Z = true) (ws : List Jvm.Cond) (q0 q1 r : Int64) (h0 : Heap) (n0 : Nat) (Z0 : n0 ≤ h0.size) (hr : r = if lcmpW q0 q1 < (0 : Int32) then q1 else q0) :
    MetFree l (⟨"java/lang/Math", "max", "(JJ)J"⟩ : MethodName) (head1 (Jvm.Cond.code (⟨"java/lang/Math", "max", "(JJ)J"⟩ : MethodName) jdk_29_method_66_code 4 (some .long) :: ws) ({ frames := 0, cells := 0, slots := 0, locals := 0 } : Room)) (fun a U => a = #[(.long q0), (.long q1)] ∧ Z.Warmed39 U.vm ∧ U.heap = h0) (fun _ _ _ _ _ => True) (fun _ U o U' => ∃ v L, o = .returned v ∧ Q4 Z q0 q1 r h0 n0 v U'.heap L ∧ FrameEnd U o U' L ({ frames := 0, cells := 0, slots := 0, locals := 0 } : Room).cells ({ frames := 0, cells := 0, slots := 0, locals := 0 } : Room).slots) := by
  refine MetFree.of_bodySF (Jvm.Free.JP.mathPlain rfl (by decide +kernel)) hisR ?_
  intro p e s m args below meth c s₁ Bd hml0 hP hK
  obtain ⟨rfl, hZ, hh⟩ := hP
  have hx := Bd.exec
  have hby := Bd.bytes
  have hml : c.maxLocals = 4 := hml0
  have hown : s.vm.findClass "java/lang/Math" = some m.cls := findClass_of_methodNamed Bd.named
  have hnm := (name_of_methodNamed Bd.named Bd.method).1
  have hlk : meth.locks = false := Bd.notSynchronized
  have hret := Bd.returns
  have X0 : Stand p l e ({ frames := 0, cells := 0, slots := 0, locals := 0 } : Room) s m #[(.long q0), (.long q1)] below meth c s₁ [] 0 0 := Stand.of_body Bd
  have e0 : s₁.heap = h0 := by rw [← hh, Bd.state]; rfl
  have N0 := Fr.nil n0
  show Go p e below s₁ (entryFrame m #[(.long q0), (.long q1)] 4) (Fin s (Q4 Z q0 q1 r h0 n0) ({ frames := 0, cells := 0, slots := 0, locals := 0 } : Room).cells ({ frames := 0, cells := 0, slots := 0, locals := 0 } : Room).slots)
  rw [ef_rm4]
  show Go p e below s₁ (mkF m 0 #[.val (.long q0), .second, .val (.long q1), .second] []) _
  refine Go.step (fun _ => XS.lloadN X0.here hx rfl (hb hby d4_0) rfl ) ?_
  show Go p e below s₁ (mkF m 1 #[.val (.long q0), .second, .val (.long q1), .second] [(.long q0)]) _
  refine Go.step (fun _ => XS.lloadN X0.here hx rfl (hb hby d4_1) rfl ) ?_
  show Go p e below s₁ (mkF m 2 #[.val (.long q0), .second, .val (.long q1), .second] [(.long q1), (.long q0)]) _
  refine Go.step (fun _ => XS.lcmp X0.here hx rfl (hb hby d4_2) rfl) ?_
  show Go p e below s₁ (mkF m 3 #[.val (.long q0), .second, .val (.long q1), .second] [(.int (lcmpW q0 q1))]) _
  by_cases hc3 : (lcmpW q0 q1) < (0 : Int32)
  · skip
    refine Go.step (fun _ => XS.ifYes X0.here hx rfl (pc0 := 3) (pc' := 10) rfl (hb hby d4_3) rfl ((if0 _ _).trans (tlt hc3).1) (by decide) (by decide)) ?_
    show Go p e below s₁ (mkF m 10 #[.val (.long q0), .second, .val (.long q1), .second] []) _
    refine Go.step (fun _ => XS.lloadN X0.here hx rfl (hb hby d4_10) rfl ) ?_
    show Go p e below s₁ (mkF m 11 #[.val (.long q0), .second, .val (.long q1), .second] [(.long q1)]) _
    refine Go.retL X0 hx hret hlk (hb hby d4_11) ?_ (by decide) (by decide)
    exact ⟨by rw [hr, if_pos hc3], N0, e0⟩
  · skip
    refine Go.step (fun _ => XS.ifNo X0.here hx rfl (hb hby d4_3) rfl ((if0 _ _).trans (flt hc3).1)) ?_
    show Go p e below s₁ (mkF m 6 #[.val (.long q0), .second, .val (.long q1), .second] []) _
    refine Go.step (fun _ => XS.lloadN X0.here hx rfl (hb hby d4_6) rfl ) ?_
    show Go p e below s₁ (mkF m 7 #[.val (.long q0), .second, .val (.long q1), .second] [(.long q0)]) _
    refine Go.step (fun _ => XS.goto X0.here hx rfl (pc0 := 7) (pc' := 11) rfl (hb hby d4_7) (by decide) (by decide)) ?_
    show Go p e below s₁ (mkF m 11 #[.val (.long q0), .second, .val (.long q1), .second] [(.long q0)]) _
    refine Go.retL X0 hx hret hlk (hb hby d4_11) ?_ (by decide) (by decide)
    exact ⟨by rw [hr, if_neg hc3], N0, e0⟩
theorem d3_0 : decode prog_27_method_3_code 0 = .ok (.iconst 3, 1) := by decide +kernel
theorem d3_1 : decode prog_27_method_3_code 1 = .ok (.istore_n 2, 1) := by decide +kernel
theorem d3_2 : decode prog_27_method_3_code 2 = .ok (.iload_n 2, 1) := by decide +kernel
theorem d3_3 : decode prog_27_method_3_code 3 = .ok (.getstatic 13, 3) := by decide +kernel
theorem d3_6 : decode prog_27_method_3_code 6 = .ok (.arraylength, 1) := by decide +kernel
theorem d3_7 : decode prog_27_method_3_code 7 = .ok (.if_icmp .ge 27, 3) := by decide +kernel
theorem d3_10 : decode prog_27_method_3_code 10 = .ok (.getstatic 13, 3) := by decide +kernel
theorem d3_13 : decode prog_27_method_3_code 13 = .ok (.iload_n 2, 1) := by decide +kernel
theorem d3_14 : decode prog_27_method_3_code 14 = .ok (.iaload, 1) := by decide +kernel
theorem d3_15 : decode prog_27_method_3_code 15 = .ok (.i2l, 1) := by decide +kernel
theorem d3_16 : decode prog_27_method_3_code 16 = .ok (.lload_n 0, 1) := by decide +kernel
theorem d3_17 : decode prog_27_method_3_code 17 = .ok (.lcmp, 1) := by decide +kernel
theorem d3_18 : decode prog_27_method_3_code 18 = .ok (.ifCond .lt 10, 3) := by decide +kernel
theorem d3_21 : decode prog_27_method_3_code 21 = .ok (.getstatic 13, 3) := by decide +kernel
theorem d3_24 : decode prog_27_method_3_code 24 = .ok (.iload_n 2, 1) := by decide +kernel
theorem d3_25 : decode prog_27_method_3_code 25 = .ok (.iaload, 1) := by decide +kernel
theorem d3_26 : decode prog_27_method_3_code 26 = .ok (.i2l, 1) := by decide +kernel
theorem d3_27 : decode prog_27_method_3_code 27 = .ok (.lreturn, 1) := by decide +kernel
theorem d3_28 : decode prog_27_method_3_code 28 = .ok (.iinc 2 1, 3) := by decide +kernel
theorem d3_31 : decode prog_27_method_3_code 31 = .ok (.goto (-29), 3) := by decide +kernel
theorem d3_34 : decode prog_27_method_3_code 34 = .ok (.ldc2_w 17, 3) := by decide +kernel
theorem d3_37 : decode prog_27_method_3_code 37 = .ok (.lreturn, 1) := by decide +kernel
theorem pn_1 : plainName "com/example/evenspace/evenspace/GoldenRatioCycle" = true := by first | (simp [plainName, overriddenIn]; done) | decide +kernel
theorem ef_rm3 (m : MethodId) (x0 : Int64) : entryFrame m #[(.long x0)] 3 = mkF m 0 #[.val (.long x0), .second, .unset] [] := by first | (simp [entryFrame, mkF, argsToLocals, Value.category]; done) | rfl
def Q3 (Z : State) (q0 : Int64) (wF : Addr) (cl : Cell) (fF : Nat → Int32) (r : Int64) (h0 : Heap) (n0 : Nat) (v : Option Value) (h : Heap) (L : List Loc) : Prop := v = some (.long r) ∧ Fr n0 L ∧ h = h0
set_option maxRecDepth 65536 in
set_option maxHeartbeats 40000000 in
theorem rm3 (l : Launch) (Z : State) (a0 : Array Value) (hw : ∀ d ∈ tables_1, d.before a0 Z = true) (ws : List Jvm.Cond) (q0 : Int64) (wF : Addr) (cl : Cell) (fF : Nat → Int32) (r : Int64) (h0 : Heap) (n0 : Nat) (Z0 : n0 ≤ h0.size) (SF : Sta Z h0 "com/example/evenspace/evenspace/GoldenRatioCycle" "FIBONACCI" "[I" (.ref wF)) (AF : Arr Z h0 wF cl .int) (hsz : cl.slots.size = 47) (hlen : cl.slots.size.toInt32 = 47) (hat : ∀ i, i < 47 → cl.slots[i]? = some (.int (fF i))) (hr : own_R fF q0 r) :
    MetFree l (⟨"com/example/evenspace/evenspace/GoldenRatioCycle", "lengthAtLeast", "(J)J"⟩ : MethodName) (head1 (Jvm.Cond.code (⟨"com/example/evenspace/evenspace/GoldenRatioCycle", "lengthAtLeast", "(J)J"⟩ : MethodName) prog_27_method_3_code 3 (some .long) :: ws) ({ frames := 0, cells := 0, slots := 0, locals := 0 } : Room)) (fun a U => a = #[(.long q0)] ∧ Z.Warmed39 U.vm ∧ U.heap = h0) (fun _ _ _ _ _ => True) (fun _ U o U' => ∃ v L, o = .returned v ∧ Q3 Z q0 wF cl fF r h0 n0 v U'.heap L ∧ FrameEnd U o U' L ({ frames := 0, cells := 0, slots := 0, locals := 0 } : Room).cells ({ frames := 0, cells := 0, slots := 0, locals := 0 } : Room).slots) := by
  refine MetFree.of_bodySF (plainFor_of_name pn_1) hisR ?_
  intro p e s m args below meth c s₁ Bd hml0 hP hK
  obtain ⟨rfl, hZ, hh⟩ := hP
  have hx := Bd.exec
  have hby := Bd.bytes
  have hml : c.maxLocals = 3 := hml0
  have hown : s.vm.findClass "com/example/evenspace/evenspace/GoldenRatioCycle" = some m.cls := findClass_of_methodNamed Bd.named
  have hnm := (name_of_methodNamed Bd.named Bd.method).1
  have hlk : meth.locks = false := Bd.notSynchronized
  have hret := Bd.returns
  have X0 : Stand p l e ({ frames := 0, cells := 0, slots := 0, locals := 0 } : Room) s m #[(.long q0)] below meth c s₁ [] 0 0 := Stand.of_body Bd
  have e0 : s₁.heap = h0 := by rw [← hh, Bd.state]; rfl
  have N0 := Fr.nil n0
  show Go p e below s₁ (entryFrame m #[(.long q0)] 3) (Fin s (Q3 Z q0 wF cl fF r h0 n0) ({ frames := 0, cells := 0, slots := 0, locals := 0 } : Room).cells ({ frames := 0, cells := 0, slots := 0, locals := 0 } : Room).slots)
  rw [ef_rm3]
  have loop : ∀ (k i : Nat) (hk : i + k = 47) (h3 : 3 ≤ i) (hb4 : ∀ j, 3 ≤ j → j < i → (fF j).toInt64 < q0) (T : State) (X : Stand p l e ({ frames := 0, cells := 0, slots := 0, locals := 0 } : Room) s m #[(.long q0)] below meth c T [] 0 0) (eT : T.heap = h0), Go p e below T (mkF m 2 #[.val (.long q0), .second, .val (.int (Int32.ofNat i))] []) (Fin s (Q3 Z q0 wF cl fF r h0 n0) ({ frames := 0, cells := 0, slots := 0, locals := 0 } : Room).cells ({ frames := 0, cells := 0, slots := 0, locals := 0 } : Room).slots) := by
    intro k
    induction k with
    | zero =>
      intro i hk h3 hb4 T X eT
      obtain rfl : i = 47 := by omega
      show Go p e below T (mkF m 2 #[.val (.long q0), .second, .val (.int (47 : Int32))] []) _
      refine Go.step (fun _ => XS.iloadN X.here hx rfl (hb hby d3_2) rfl ) ?_
      show Go p e below T (mkF m 3 #[.val (.long q0), .second, .val (.int (47 : Int32))] [(.int (47 : Int32))]) _
      obtain ⟨T96, X96, e96, st96⟩ := getS2 X hx hZ hown (host := "") (Or.inl (hw _ (List.mem_of_getElem? (i := 58) rfl))) Via.refl eT SF (g := (mkF m 3 #[.val (.long q0), .second, .val (.int (47 : Int32))] [(.int (47 : Int32))])) rfl (hb hby d3_3)
      refine Go.step st96 ?_
      show Go p e below T96 (mkF m 6 #[.val (.long q0), .second, .val (.int (47 : Int32))] [(.ref wF), (.int (47 : Int32))]) _
      refine Go.step (fun _ => X96.arraylength hx (by rw [e96]; exact AF.1) (State.isArrayOf_alike hZ.alike AF.2.1) (g := (mkF m 6 #[.val (.long q0), .second, .val (.int (47 : Int32))] [(.ref wF), (.int (47 : Int32))])) rfl rfl (hb hby d3_6) _) ?_
      rw [hlen]
      show Go p e below T96 (mkF m 7 #[.val (.long q0), .second, .val (.int (47 : Int32))] [(.int (47 : Int32)), (.int (47 : Int32))]) _
      refine Go.step (fun _ => XS.icmpYes X96.here hx rfl (pc0 := 7) (pc' := 34) rfl (hb hby d3_7) rfl (flt (by decide)).2.1 (by decide) (by decide)) ?_
      show Go p e below T96 (mkF m 34 #[.val (.long q0), .second, .val (.int (47 : Int32))] []) _
      refine Go.step (fun _ => X96.ldc2Long hx hown (mvT hZ (hw _ (List.mem_of_getElem? (i := 66) rfl))) (g := (mkF m 34 #[.val (.long q0), .second, .val (.int (47 : Int32))] [])) rfl (hb hby d3_34) _) ?_
      show Go p e below T96 (mkF m 37 #[.val (.long q0), .second, .val (.int (47 : Int32))] [(.long (-1 : Int64))]) _
      refine Go.retL X96 hx hret hlk (hb hby d3_37) ?_ (by decide) (by decide)
      exact ⟨by rw [own_R_end hr hb4], N0, e96⟩
    | succ k ih =>
      intro i hk h3 hb4 T X eT
      have hi : i < 47 := by omega
      show Go p e below T (mkF m 2 #[.val (.long q0), .second, .val (.int (Int32.ofNat i))] []) _
      refine Go.step (fun _ => XS.iloadN X.here hx rfl (hb hby d3_2) rfl ) ?_
      show Go p e below T (mkF m 3 #[.val (.long q0), .second, .val (.int (Int32.ofNat i))] [(.int (Int32.ofNat i))]) _
      obtain ⟨T97, X97, e97, st97⟩ := getS2 X hx hZ hown (host := "") (Or.inl (hw _ (List.mem_of_getElem? (i := 58) rfl))) Via.refl eT SF (g := (mkF m 3 #[.val (.long q0), .second, .val (.int (Int32.ofNat i))] [(.int (Int32.ofNat i))])) rfl (hb hby d3_3)
      refine Go.step st97 ?_
      show Go p e below T97 (mkF m 6 #[.val (.long q0), .second, .val (.int (Int32.ofNat i))] [(.ref wF), (.int (Int32.ofNat i))]) _
      refine Go.step (fun _ => X97.arraylength hx (by rw [e97]; exact AF.1) (State.isArrayOf_alike hZ.alike AF.2.1) (g := (mkF m 6 #[.val (.long q0), .second, .val (.int (Int32.ofNat i))] [(.ref wF), (.int (Int32.ofNat i))])) rfl rfl (hb hby d3_6) _) ?_
      rw [hlen]
      show Go p e below T97 (mkF m 7 #[.val (.long q0), .second, .val (.int (Int32.ofNat i))] [(.int (47 : Int32)), (.int (Int32.ofNat i))]) _
      refine Go.step (fun _ => XS.icmpNo X97.here hx rfl (hb hby d3_7) rfl (tlt (own_lt hi (by decide))).2.1) ?_
      show Go p e below T97 (mkF m 10 #[.val (.long q0), .second, .val (.int (Int32.ofNat i))] []) _
      obtain ⟨T98, X98, e98, st98⟩ := getS2 X97 hx hZ hown (host := "") (Or.inl (hw _ (List.mem_of_getElem? (i := 58) rfl))) Via.refl e97 SF (g := (mkF m 10 #[.val (.long q0), .second, .val (.int (Int32.ofNat i))] [])) rfl (hb hby d3_10)
      refine Go.step st98 ?_
      show Go p e below T98 (mkF m 13 #[.val (.long q0), .second, .val (.int (Int32.ofNat i))] [(.ref wF)]) _
      refine Go.step (fun _ => XS.iloadN X98.here hx rfl (hb hby d3_13) rfl ) ?_
      show Go p e below T98 (mkF m 14 #[.val (.long q0), .second, .val (.int (Int32.ofNat i))] [(.int (Int32.ofNat i)), (.ref wF)]) _
      refine Go.step (fun _ => X98.iaload hx (j := (Int32.ofNat i)) (v := (.int (fF i))) (by rw [e98]; exact AF.1) (State.isArrayOf_alike hZ.alike AF.2.1) AF.2.2 (by rw [hsz]; exact idx_in hi (by decide)) (by rw [own_clamp (by omega)]; exact hat i hi) (g := (mkF m 14 #[.val (.long q0), .second, .val (.int (Int32.ofNat i))] [(.int (Int32.ofNat i)), (.ref wF)])) rfl rfl (hb hby d3_14) _) ?_
      show Go p e below T98 (mkF m 15 #[.val (.long q0), .second, .val (.int (Int32.ofNat i))] [(.int (fF i))]) _
      refine Go.step (fun _ => XS.i2l X98.here hx rfl (hb hby d3_15) rfl) ?_
      show Go p e below T98 (mkF m 16 #[.val (.long q0), .second, .val (.int (Int32.ofNat i))] [(.long ((fF i).toInt64))]) _
      refine Go.step (fun _ => XS.lloadN X98.here hx rfl (hb hby d3_16) rfl ) ?_
      show Go p e below T98 (mkF m 17 #[.val (.long q0), .second, .val (.int (Int32.ofNat i))] [(.long q0), (.long ((fF i).toInt64))]) _
      refine Go.step (fun _ => XS.lcmp X98.here hx rfl (hb hby d3_17) rfl) ?_
      show Go p e below T98 (mkF m 18 #[.val (.long q0), .second, .val (.int (Int32.ofNat i))] [(.int (lcmpW ((fF i).toInt64) q0))]) _
      by_cases hc18 : (lcmpW ((fF i).toInt64) q0) < (0 : Int32)
      · skip
        refine Go.step (fun _ => XS.ifYes X98.here hx rfl (pc0 := 18) (pc' := 28) rfl (hb hby d3_18) rfl ((if0 _ _).trans (tlt hc18).1) (by decide) (by decide)) ?_
        show Go p e below T98 (mkF m 28 #[.val (.long q0), .second, .val (.int (Int32.ofNat i))] []) _
        refine Go.step (fun _ => XS.iinc X98.here hx rfl (hb hby d3_28) rfl (l' := #[.val (.long q0), .second, .val (.int ((Int32.ofNat i) + (1 : Int32)))]) rfl) ?_
        show Go p e below T98 (mkF m 31 #[.val (.long q0), .second, .val (.int ((Int32.ofNat i) + (1 : Int32)))] []) _
        refine Go.step (fun _ => XS.goto X98.here hx rfl (pc0 := 31) (pc' := 2) rfl (hb hby d3_31) (by decide) (by decide)) ?_
        show Go p e below T98 (mkF m 2 #[.val (.long q0), .second, .val (.int ((Int32.ofNat i) + (1 : Int32)))] []) _
        rw [show Int32.ofNat i + (1 : Int32) = Int32.ofNat (i + 1) from own_add i 1]
        exact ih (i + 1) (by omega) (by omega) (fun j j1 j2 => (Nat.lt_or_eq_of_le (Nat.le_of_lt_succ j2)).elim (hb4 j j1) (fun q => q ▸ (lw_lt _ _).mp hc18)) _ X98 e98
      · skip
        refine Go.step (fun _ => XS.ifNo X98.here hx rfl (hb hby d3_18) rfl ((if0 _ _).trans (flt hc18).1)) ?_
        show Go p e below T98 (mkF m 21 #[.val (.long q0), .second, .val (.int (Int32.ofNat i))] []) _
        obtain ⟨T99, X99, e99, st99⟩ := getS2 X98 hx hZ hown (host := "") (Or.inl (hw _ (List.mem_of_getElem? (i := 58) rfl))) Via.refl e98 SF (g := (mkF m 21 #[.val (.long q0), .second, .val (.int (Int32.ofNat i))] [])) rfl (hb hby d3_21)
        refine Go.step st99 ?_
        show Go p e below T99 (mkF m 24 #[.val (.long q0), .second, .val (.int (Int32.ofNat i))] [(.ref wF)]) _
        refine Go.step (fun _ => XS.iloadN X99.here hx rfl (hb hby d3_24) rfl ) ?_
        show Go p e below T99 (mkF m 25 #[.val (.long q0), .second, .val (.int (Int32.ofNat i))] [(.int (Int32.ofNat i)), (.ref wF)]) _
        refine Go.step (fun _ => X99.iaload hx (j := (Int32.ofNat i)) (v := (.int (fF i))) (by rw [e99]; exact AF.1) (State.isArrayOf_alike hZ.alike AF.2.1) AF.2.2 (by rw [hsz]; exact idx_in hi (by decide)) (by rw [own_clamp (by omega)]; exact hat i hi) (g := (mkF m 25 #[.val (.long q0), .second, .val (.int (Int32.ofNat i))] [(.int (Int32.ofNat i)), (.ref wF)])) rfl rfl (hb hby d3_25) _) ?_
        show Go p e below T99 (mkF m 26 #[.val (.long q0), .second, .val (.int (Int32.ofNat i))] [(.int (fF i))]) _
        refine Go.step (fun _ => XS.i2l X99.here hx rfl (hb hby d3_26) rfl) ?_
        show Go p e below T99 (mkF m 27 #[.val (.long q0), .second, .val (.int (Int32.ofNat i))] [(.long ((fF i).toInt64))]) _
        refine Go.retL X99 hx hret hlk (hb hby d3_27) ?_ (by decide) (by decide)
        exact ⟨by rw [own_R_at hr h3 hi hb4 (fun q => hc18 ((lw_lt _ _).mpr q))], N0, e99⟩
  show Go p e below s₁ (mkF m 0 #[.val (.long q0), .second, .unset] []) _
  refine Go.step (fun _ => XS.iconst X0.here hx rfl (hb hby d3_0)) ?_
  show Go p e below s₁ (mkF m 1 #[.val (.long q0), .second, .unset] [(.int (3 : Int32))]) _
  refine Go.step (fun _ => XS.istoreN X0.here hx rfl (hb hby d3_1) rfl (l' := #[.val (.long q0), .second, .val (.int (3 : Int32))]) rfl) ?_
  show Go p e below s₁ (mkF m 2 #[.val (.long q0), .second, .val (.int (3 : Int32))] []) _
  exact loop 44 3 rfl (by decide) (fun j j1 j2 => by omega) _ X0 e0
theorem pd_0 : parseMethodDescriptor "()[J" = some ⟨[], some (.array .long)⟩ := by decide +kernel
theorem pd_1 : parseMethodDescriptor "(JJ)J" = some ⟨[.long, .long], some .long⟩ := by decide +kernel
theorem pd_2 : parseMethodDescriptor "(J)J" = some ⟨[.long], some .long⟩ := by decide +kernel
theorem ef_rm0 (m : MethodId) (x0 : Int64) (x1 : Int64) (x2 : Int32) : entryFrame m #[(.long x0), (.long x1), (.int x2)] maxLocals = mkF m 0 #[.val (.long x0), .second, .val (.long x1), .second, .val (.int x2), .unset, .unset, .unset, .unset, .unset, .unset, .unset, .unset, .unset] [] := by first | (simp [entryFrame, mkF, argsToLocals, Value.category, maxLocals]; done) | rfl
def Q0 (Z : State) (q0 q2 : Int64) (p4 : Int32) (wF : Addr) (cl : Cell) (fF : Nat → Int32) (h0 : Heap) (n0 : Nat) (v : Option Value) (h : Heap) (L : List Loc) : Prop := v = some (.int 1) ∧ Fr n0 L
set_option maxRecDepth 65536 in
set_option maxHeartbeats 40000000 in
theorem rm0 (l : Launch) (Z : State) (a0 : Array Value) (hw : ∀ d ∈ tables_1, d.before a0 Z = true) (ws : List Jvm.Cond) (q0 q2 : Int64) (p4 : Int32) (wF : Addr) (cl : Cell) (fF : Nat → Int32) (h0 : Heap) (n0 : Nat) (Z0 : n0 ≤ h0.size) (hF : fF = own_f) (SF : Sta Z h0 "com/example/evenspace/evenspace/GoldenRatioCycle" "FIBONACCI" "[I" (.ref wF)) (AF : Arr Z h0 wF cl .int) (hsz : cl.slots.size = 47) (hlen : cl.slots.size.toInt32 = 47) (hat : ∀ i, i < 47 → cl.slots[i]? = some (.int (fF i))) :
    MetFree l x (head1 (Jvm.Cond.code x code maxLocals ret :: ws) room_1) (fun a U => a = #[(.long q0), (.long q2), (.int p4)] ∧ Z.Warmed39 U.vm ∧ U.heap = h0) (fun _ _ _ _ _ => True) (fun _ U o U' => ∃ v L, o = .returned v ∧ Q0 Z q0 q2 p4 wF cl fF h0 n0 v U'.heap L ∧ FrameEnd U o U' L 16 192) := by
  refine MetFree.of_bodySF (plainFor_of_name pn_0) hisR ?_
  intro p e s m args below meth c s₁ Bd hml0 hP hK
  obtain ⟨rfl, hZ, hh⟩ := hP
  have hx := Bd.exec
  have hby := Bd.bytes
  have hml : c.maxLocals = 14 := hml0
  have hown : s.vm.findClass "com/example/evenspace/evenspace/GoldenRatioCycleLengthAtLeastPinLaw" = some m.cls := findClass_of_methodNamed Bd.named
  have hnm := (name_of_methodNamed Bd.named Bd.method).1
  have hlk : meth.locks = false := Bd.notSynchronized
  have hret := Bd.returns
  have X0 : Stand p l e room_1 s m #[(.long q0), (.long q2), (.int p4)] below meth c s₁ [] 0 0 := Stand.of_body Bd
  have e0 : s₁.heap = h0 := by rw [← hh, Bd.state]; rfl
  have N0 := Fr.nil n0
  show Go p e below s₁ (entryFrame m #[(.long q0), (.long q2), (.int p4)] maxLocals) (Fin s (Q0 Z q0 q2 p4 wF cl fF h0 n0) 16 192)
  rw [ef_rm0]
  show Go p e below s₁ (mkF m 0 #[.val (.long q0), .second, .val (.long q2), .second, .val (.int p4), .unset, .unset, .unset, .unset, .unset, .unset, .unset, .unset, .unset] []) _
  obtain ⟨_, _, ⟨T100, L100, k100, n100⟩, -, X100, ⟨Lc100, hQ100, l100, y100, z100⟩, st100⟩ := Jvm.LawKit.callS X0 hx (y := (⟨"com/example/evenspace/evenspace/GoldenRatioCycleLengthAtLeastPinLaw", "fib", "()[J"⟩ : MethodName)) hown (mvT hZ (hw _ (List.mem_of_getElem? (i := 0) rfl))) (mvT hZ (hw _ (List.mem_of_getElem? (i := 1) rfl))) (mvT hZ (hw _ (List.mem_of_getElem? (i := 2) rfl))) (mvT hZ (hw _ (List.mem_of_getElem? (i := 3) rfl))) (by decide) (backOf (W := 0) (rm1 l Z a0 hw [] h0 n0 Z0) hZ (hw _ (List.mem_of_getElem? (i := 3) rfl)) (hw _ (List.mem_of_getElem? (i := 2) rfl)) (by decide) (by decide)) (g := (mkF m 0 #[.val (.long q0), .second, .val (.long q2), .second, .val (.int p4), .unset, .unset, .unset, .unset, .unset, .unset, .unset, .unset, .unset] [])) rfl (by rw [hml]; rfl) (argsL := []) (rest := []) (lenOf pd_0 rfl) rfl (by show 2 * 0 + _ ≤ _; exact Nat.le_of_eq rfl) (hb hby at_0) (fun _ _ => ⟨rfl, e0, (by decide : 0 + 1 ≤ _), (by decide : 0 + 47 ≤ _)⟩)
  dsimp only [Pt.U, Pt.locs, Pt.cells, Pt.slots] at X100 l100 y100 z100 st100 hQ100
  subst l100 y100 z100
  obtain ⟨rfl, Nq100, K100, k100, V100⟩ := hQ100
  have N100 := Fr.app N0 Nq100
  refine Go.step st100 ?_
  have SF_q100 := own_staKeep SF K100 all0
  have AF_q100 := own_arrKeep AF K100 nin0
  have Z100 : n0 ≤ T100.heap.size := Nat.le_trans Z0 K100.1
  show Go p e below T100 (mkF m 3 #[.val (.long q0), .second, .val (.long q2), .second, .val (.int p4), .unset, .unset, .unset, .unset, .unset, .unset, .unset, .unset, .unset] [(.ref h0.size)]) _
  refine Go.step (fun _ => XS.astore X100.here hx rfl (hb hby at_3) rfl rfl (l' := #[.val (.long q0), .second, .val (.long q2), .second, .val (.int p4), .val (.ref h0.size), .unset, .unset, .unset, .unset, .unset, .unset, .unset, .unset]) rfl) ?_
  show Go p e below T100 (mkF m 5 #[.val (.long q0), .second, .val (.long q2), .second, .val (.int p4), .val (.ref h0.size), .unset, .unset, .unset, .unset, .unset, .unset, .unset, .unset] []) _
  refine Go.step (fun _ => XS.iload X100.here hx rfl (hb hby at_5) rfl ) ?_
  show Go p e below T100 (mkF m 7 #[.val (.long q0), .second, .val (.long q2), .second, .val (.int p4), .val (.ref h0.size), .unset, .unset, .unset, .unset, .unset, .unset, .unset, .unset] [(.int p4)]) _
  refine Go.step (fun _ => X100.ldcInt hx hown (mvT hZ (hw _ (List.mem_of_getElem? (i := 49) rfl))) (g := (mkF m 7 #[.val (.long q0), .second, .val (.long q2), .second, .val (.int p4), .val (.ref h0.size), .unset, .unset, .unset, .unset, .unset, .unset, .unset, .unset] [(.int p4)])) rfl (hb hby at_7) _) ?_
  show Go p e below T100 (mkF m 9 #[.val (.long q0), .second, .val (.long q2), .second, .val (.int p4), .val (.ref h0.size), .unset, .unset, .unset, .unset, .unset, .unset, .unset, .unset] [(.int (2147483647 : Int32)), (.int p4)]) _
  refine Go.step (fun _ => XS.iand X100.here hx rfl (hb hby at_9) rfl) ?_
  show Go p e below T100 (mkF m 10 #[.val (.long q0), .second, .val (.long q2), .second, .val (.int p4), .val (.ref h0.size), .unset, .unset, .unset, .unset, .unset, .unset, .unset, .unset] [(.int (p4 &&& (2147483647 : Int32)))]) _
  refine Go.step (fun _ => XS.bipush X100.here hx rfl (hb hby at_10)) ?_
  show Go p e below T100 (mkF m 12 #[.val (.long q0), .second, .val (.long q2), .second, .val (.int p4), .val (.ref h0.size), .unset, .unset, .unset, .unset, .unset, .unset, .unset, .unset] [(.int (45 : Int32)), (.int (p4 &&& (2147483647 : Int32)))]) _
  refine Go.step (fun _ => iremM X100 hx rfl (hb hby at_12) rfl (by decide)) ?_
  show Go p e below T100 (mkF m 13 #[.val (.long q0), .second, .val (.long q2), .second, .val (.int p4), .val (.ref h0.size), .unset, .unset, .unset, .unset, .unset, .unset, .unset, .unset] [(.int ((p4 &&& (2147483647 : Int32)) % (45 : Int32)))]) _
  refine Go.step (fun _ => XS.istore X100.here hx rfl (hb hby at_13) rfl (l' := #[.val (.long q0), .second, .val (.long q2), .second, .val (.int p4), .val (.ref h0.size), .val (.int ((p4 &&& (2147483647 : Int32)) % (45 : Int32))), .unset, .unset, .unset, .unset, .unset, .unset, .unset]) rfl) ?_
  show Go p e below T100 (mkF m 15 #[.val (.long q0), .second, .val (.long q2), .second, .val (.int p4), .val (.ref h0.size), .val (.int ((p4 &&& (2147483647 : Int32)) % (45 : Int32))), .unset, .unset, .unset, .unset, .unset, .unset, .unset] []) _
  obtain ⟨k, hk, hke⟩ := own_mod45 p4
  rw [hke]
  show Go p e below T100 (mkF m 15 #[.val (.long q0), .second, .val (.long q2), .second, .val (.int p4), .val (.ref h0.size), .val (.int (Int32.ofNat k)), .unset, .unset, .unset, .unset, .unset, .unset, .unset] []) _
  refine Go.step (fun _ => XS.iload X100.here hx rfl (hb hby at_15) rfl ) ?_
  show Go p e below T100 (mkF m 17 #[.val (.long q0), .second, .val (.long q2), .second, .val (.int p4), .val (.ref h0.size), .val (.int (Int32.ofNat k)), .unset, .unset, .unset, .unset, .unset, .unset, .unset] [(.int (Int32.ofNat k))]) _
  by_cases hc17 : (Int32.ofNat k) = (0 : Int32)
  · skip
    refine Go.step (fun _ => XS.ifNo X100.here hx rfl (hb hby at_17) rfl ((if0 _ _).trans (teq hc17).2)) ?_
    show Go p e below T100 (mkF m 20 #[.val (.long q0), .second, .val (.long q2), .second, .val (.int p4), .val (.ref h0.size), .val (.int (Int32.ofNat k)), .unset, .unset, .unset, .unset, .unset, .unset, .unset] []) _
    refine Go.step (fun _ => XS.lloadN X100.here hx rfl (hb hby at_20) rfl ) ?_
    show Go p e below T100 (mkF m 21 #[.val (.long q0), .second, .val (.long q2), .second, .val (.int p4), .val (.ref h0.size), .val (.int (Int32.ofNat k)), .unset, .unset, .unset, .unset, .unset, .unset, .unset] [(.long q0)]) _
    refine Go.step (fun _ => X100.ldc2Long hx hown (mvT hZ (hw _ (List.mem_of_getElem? (i := 5) rfl))) (g := (mkF m 21 #[.val (.long q0), .second, .val (.long q2), .second, .val (.int p4), .val (.ref h0.size), .val (.int (Int32.ofNat k)), .unset, .unset, .unset, .unset, .unset, .unset, .unset] [(.long q0)])) rfl (hb hby at_21) _) ?_
    show Go p e below T100 (mkF m 24 #[.val (.long q0), .second, .val (.long q2), .second, .val (.int p4), .val (.ref h0.size), .val (.int (Int32.ofNat k)), .unset, .unset, .unset, .unset, .unset, .unset, .unset] [(.long (2 : Int64)), (.long q0)]) _
    obtain ⟨_, _, ⟨T101, L101, k101, n101⟩, -, X101, ⟨Lc101, hQ101, l101, y101, z101⟩, st101⟩ := Jvm.LawKit.callS X100 hx (y := (⟨"java/lang/Math", "min", "(JJ)J"⟩ : MethodName)) hown (mvT hZ (hw _ (List.mem_of_getElem? (i := 50) rfl))) (mvT hZ (hw _ (List.mem_of_getElem? (i := 51) rfl))) (mvT hZ (hw _ (List.mem_of_getElem? (i := 52) rfl))) (mvT hZ (hw _ (List.mem_of_getElem? (i := 53) rfl))) (by decide) (backOf (W := 0) (rm2 l Z a0 hw [] q0 (2 : Int64) (if (0 : Int32) < lcmpW q0 2 then 2 else q0) T100.heap n0 Z100 rfl) hZ (hw _ (List.mem_of_getElem? (i := 53) rfl)) (hw _ (List.mem_of_getElem? (i := 52) rfl)) (by decide) (by decide)) (g := (mkF m 24 #[.val (.long q0), .second, .val (.long q2), .second, .val (.int p4), .val (.ref h0.size), .val (.int (Int32.ofNat k)), .unset, .unset, .unset, .unset, .unset, .unset, .unset] [(.long (2 : Int64)), (.long q0)])) rfl (by rw [hml]; rfl) (argsL := [(.long q0), (.long (2 : Int64))]) (rest := []) (lenOf pd_1 rfl) rfl (by show 2 * 0 + _ ≤ _; exact Nat.le_of_eq rfl) (hb hby at_24) (fun _ _ => ⟨rfl, rfl, (by decide : 0 + 1 + 0 ≤ _), (by decide : 0 + 47 + 0 ≤ _)⟩)
    dsimp only [Pt.U, Pt.locs, Pt.cells, Pt.slots] at X101 l101 y101 z101 st101 hQ101
    subst l101 y101 z101
    obtain ⟨rfl, Nq101, eh101⟩ := hQ101
    have N101 := Fr.app N100 Nq101
    refine Go.step st101 ?_
    show Go p e below T101 (mkF m 27 #[.val (.long q0), .second, .val (.long q2), .second, .val (.int p4), .val (.ref h0.size), .val (.int (Int32.ofNat k)), .unset, .unset, .unset, .unset, .unset, .unset, .unset] [(.long (if (0 : Int32) < lcmpW q0 2 then 2 else q0))]) _
    refine Go.step (fun _ => XS.lstore X101.here hx rfl (hb hby at_27) rfl (l' := #[.val (.long q0), .second, .val (.long q2), .second, .val (.int p4), .val (.ref h0.size), .val (.int (Int32.ofNat k)), .val (.long (if (0 : Int32) < lcmpW q0 2 then 2 else q0)), .second, .unset, .unset, .unset, .unset, .unset]) rfl) ?_
    show Go p e below T101 (mkF m 29 #[.val (.long q0), .second, .val (.long q2), .second, .val (.int p4), .val (.ref h0.size), .val (.int (Int32.ofNat k)), .val (.long (if (0 : Int32) < lcmpW q0 2 then 2 else q0)), .second, .unset, .unset, .unset, .unset, .unset] []) _
    refine Go.step (fun _ => X101.ldc2Long hx hown (mvT hZ (hw _ (List.mem_of_getElem? (i := 5) rfl))) (g := (mkF m 29 #[.val (.long q0), .second, .val (.long q2), .second, .val (.int p4), .val (.ref h0.size), .val (.int (Int32.ofNat k)), .val (.long (if (0 : Int32) < lcmpW q0 2 then 2 else q0)), .second, .unset, .unset, .unset, .unset, .unset] [])) rfl (hb hby at_29) _) ?_
    show Go p e below T101 (mkF m 32 #[.val (.long q0), .second, .val (.long q2), .second, .val (.int p4), .val (.ref h0.size), .val (.int (Int32.ofNat k)), .val (.long (if (0 : Int32) < lcmpW q0 2 then 2 else q0)), .second, .unset, .unset, .unset, .unset, .unset] [(.long (2 : Int64))]) _
    refine Go.step (fun _ => XS.lstore X101.here hx rfl (hb hby at_32) rfl (l' := #[.val (.long q0), .second, .val (.long q2), .second, .val (.int p4), .val (.ref h0.size), .val (.int (Int32.ofNat k)), .val (.long (if (0 : Int32) < lcmpW q0 2 then 2 else q0)), .second, .val (.long (2 : Int64)), .second, .unset, .unset, .unset]) rfl) ?_
    show Go p e below T101 (mkF m 34 #[.val (.long q0), .second, .val (.long q2), .second, .val (.int p4), .val (.ref h0.size), .val (.int (Int32.ofNat k)), .val (.long (if (0 : Int32) < lcmpW q0 2 then 2 else q0)), .second, .val (.long (2 : Int64)), .second, .unset, .unset, .unset] []) _
    refine Go.step (fun _ => XS.goto X101.here hx rfl (pc0 := 34) (pc' := 99) rfl (hb hby at_34) (by decide) (by decide)) ?_
    show Go p e below T101 (mkF m 99 #[.val (.long q0), .second, .val (.long q2), .second, .val (.int p4), .val (.ref h0.size), .val (.int (Int32.ofNat k)), .val (.long (if (0 : Int32) < lcmpW q0 2 then 2 else q0)), .second, .val (.long (2 : Int64)), .second, .unset, .unset, .unset] []) _
    refine Go.step (fun _ => XS.lload X101.here hx rfl (hb hby at_99) rfl ) ?_
    show Go p e below T101 (mkF m 101 #[.val (.long q0), .second, .val (.long q2), .second, .val (.int p4), .val (.ref h0.size), .val (.int (Int32.ofNat k)), .val (.long (if (0 : Int32) < lcmpW q0 2 then 2 else q0)), .second, .val (.long (2 : Int64)), .second, .unset, .unset, .unset] [(.long (if (0 : Int32) < lcmpW q0 2 then 2 else q0))]) _
    obtain ⟨_, _, ⟨T102, L102, k102, n102⟩, -, X102, ⟨Lc102, hQ102, l102, y102, z102⟩, st102⟩ := Jvm.LawKit.callS X101 hx (y := (⟨"com/example/evenspace/evenspace/GoldenRatioCycle", "lengthAtLeast", "(J)J"⟩ : MethodName)) hown (mvT hZ (hw _ (List.mem_of_getElem? (i := 54) rfl))) (mvT hZ (hw _ (List.mem_of_getElem? (i := 55) rfl))) (mvT hZ (hw _ (List.mem_of_getElem? (i := 56) rfl))) (mvT hZ (hw _ (List.mem_of_getElem? (i := 57) rfl))) (by decide) (backOf (W := 0) (rm3 l Z a0 hw [] (if (0 : Int32) < lcmpW q0 2 then 2 else q0) wF cl fF (2 : Int64) T100.heap n0 Z100 SF_q100 AF_q100 hsz hlen hat (by rw [hF]; exact own_low q0 _ rfl)) hZ (hw _ (List.mem_of_getElem? (i := 57) rfl)) (hw _ (List.mem_of_getElem? (i := 56) rfl)) (by decide) (by decide)) (g := (mkF m 101 #[.val (.long q0), .second, .val (.long q2), .second, .val (.int p4), .val (.ref h0.size), .val (.int (Int32.ofNat k)), .val (.long (if (0 : Int32) < lcmpW q0 2 then 2 else q0)), .second, .val (.long (2 : Int64)), .second, .unset, .unset, .unset] [(.long (if (0 : Int32) < lcmpW q0 2 then 2 else q0))])) rfl (by rw [hml]; rfl) (argsL := [(.long (if (0 : Int32) < lcmpW q0 2 then 2 else q0))]) (rest := []) (lenOf pd_2 rfl) rfl (by show 2 * 0 + _ ≤ _; exact Nat.le_of_eq rfl) (hb hby at_101) (fun _ _ => ⟨rfl, eh101, (by decide : 0 + 1 + 0 + 0 ≤ _), (by decide : 0 + 47 + 0 + 0 ≤ _)⟩)
    dsimp only [Pt.U, Pt.locs, Pt.cells, Pt.slots] at X102 l102 y102 z102 st102 hQ102
    subst l102 y102 z102
    obtain ⟨rfl, Nq102, eh102⟩ := hQ102
    have N102 := Fr.app N101 Nq102
    refine Go.step st102 ?_
    show Go p e below T102 (mkF m 104 #[.val (.long q0), .second, .val (.long q2), .second, .val (.int p4), .val (.ref h0.size), .val (.int (Int32.ofNat k)), .val (.long (if (0 : Int32) < lcmpW q0 2 then 2 else q0)), .second, .val (.long (2 : Int64)), .second, .unset, .unset, .unset] [(.long (2 : Int64))]) _
    refine Go.step (fun _ => XS.lload X102.here hx rfl (hb hby at_104) rfl ) ?_
    show Go p e below T102 (mkF m 106 #[.val (.long q0), .second, .val (.long q2), .second, .val (.int p4), .val (.ref h0.size), .val (.int (Int32.ofNat k)), .val (.long (if (0 : Int32) < lcmpW q0 2 then 2 else q0)), .second, .val (.long (2 : Int64)), .second, .unset, .unset, .unset] [(.long (2 : Int64)), (.long (2 : Int64))]) _
    refine Go.step (fun _ => XS.lcmp X102.here hx rfl (hb hby at_106) rfl) ?_
    show Go p e below T102 (mkF m 107 #[.val (.long q0), .second, .val (.long q2), .second, .val (.int p4), .val (.ref h0.size), .val (.int (Int32.ofNat k)), .val (.long (if (0 : Int32) < lcmpW q0 2 then 2 else q0)), .second, .val (.long (2 : Int64)), .second, .unset, .unset, .unset] [(.int (lcmpW (2 : Int64) (2 : Int64)))]) _
    refine Go.step (fun _ => XS.ifNo X102.here hx rfl (hb hby at_107) rfl ((if0 _ _).trans (teq ((lw_eq _ _).mpr rfl)).2)) ?_
    show Go p e below T102 (mkF m 110 #[.val (.long q0), .second, .val (.long q2), .second, .val (.int p4), .val (.ref h0.size), .val (.int (Int32.ofNat k)), .val (.long (if (0 : Int32) < lcmpW q0 2 then 2 else q0)), .second, .val (.long (2 : Int64)), .second, .unset, .unset, .unset] []) _
    refine Go.step (fun _ => XS.iconst X102.here hx rfl (hb hby at_110)) ?_
    show Go p e below T102 (mkF m 111 #[.val (.long q0), .second, .val (.long q2), .second, .val (.int p4), .val (.ref h0.size), .val (.int (Int32.ofNat k)), .val (.long (if (0 : Int32) < lcmpW q0 2 then 2 else q0)), .second, .val (.long (2 : Int64)), .second, .unset, .unset, .unset] [(.int (1 : Int32))]) _
    refine Go.step (fun _ => XS.goto X102.here hx rfl (pc0 := 111) (pc' := 115) rfl (hb hby at_111) (by decide) (by decide)) ?_
    show Go p e below T102 (mkF m 115 #[.val (.long q0), .second, .val (.long q2), .second, .val (.int p4), .val (.ref h0.size), .val (.int (Int32.ofNat k)), .val (.long (if (0 : Int32) < lcmpW q0 2 then 2 else q0)), .second, .val (.long (2 : Int64)), .second, .unset, .unset, .unset] [(.int (1 : Int32))]) _
    refine Go.retN (t := .boolean) (z' := (1 : Int32)) X102 hx hret (by simp) hlk (hb hby at_115) (by decide) ?_ (by decide) (by decide)
    exact ⟨rfl, N102⟩
  · skip
    refine Go.step (fun _ => XS.ifYes X100.here hx rfl (pc0 := 17) (pc' := 37) rfl (hb hby at_17) rfl ((if0 _ _).trans (feq hc17).2) (by decide) (by decide)) ?_
    show Go p e below T100 (mkF m 37 #[.val (.long q0), .second, .val (.long q2), .second, .val (.int p4), .val (.ref h0.size), .val (.int (Int32.ofNat k)), .unset, .unset, .unset, .unset, .unset, .unset, .unset] []) _
    refine Go.step (fun _ => XS.iload X100.here hx rfl (hb hby at_37) rfl ) ?_
    show Go p e below T100 (mkF m 39 #[.val (.long q0), .second, .val (.long q2), .second, .val (.int p4), .val (.ref h0.size), .val (.int (Int32.ofNat k)), .unset, .unset, .unset, .unset, .unset, .unset, .unset] [(.int (Int32.ofNat k))]) _
    refine Go.step (fun _ => XS.bipush X100.here hx rfl (hb hby at_39)) ?_
    show Go p e below T100 (mkF m 41 #[.val (.long q0), .second, .val (.long q2), .second, .val (.int p4), .val (.ref h0.size), .val (.int (Int32.ofNat k)), .unset, .unset, .unset, .unset, .unset, .unset, .unset] [(.int (44 : Int32)), (.int (Int32.ofNat k))]) _
    by_cases hc41 : (Int32.ofNat k) = (44 : Int32)
    · skip
      refine Go.step (fun _ => XS.icmpNo X100.here hx rfl (hb hby at_41) rfl (teq hc41).2) ?_
      show Go p e below T100 (mkF m 44 #[.val (.long q0), .second, .val (.long q2), .second, .val (.int p4), .val (.ref h0.size), .val (.int (Int32.ofNat k)), .unset, .unset, .unset, .unset, .unset, .unset, .unset] []) _
      refine Go.step (fun _ => XS.lloadN X100.here hx rfl (hb hby at_44) rfl ) ?_
      show Go p e below T100 (mkF m 45 #[.val (.long q0), .second, .val (.long q2), .second, .val (.int p4), .val (.ref h0.size), .val (.int (Int32.ofNat k)), .unset, .unset, .unset, .unset, .unset, .unset, .unset] [(.long q0)]) _
      refine Go.step (fun _ => X100.ldc2Long hx hown (mvT hZ (hw _ (List.mem_of_getElem? (i := 61) rfl))) (g := (mkF m 45 #[.val (.long q0), .second, .val (.long q2), .second, .val (.int p4), .val (.ref h0.size), .val (.int (Int32.ofNat k)), .unset, .unset, .unset, .unset, .unset, .unset, .unset] [(.long q0)])) rfl (hb hby at_45) _) ?_
      show Go p e below T100 (mkF m 48 #[.val (.long q0), .second, .val (.long q2), .second, .val (.int p4), .val (.ref h0.size), .val (.int (Int32.ofNat k)), .unset, .unset, .unset, .unset, .unset, .unset, .unset] [(.long (1836311904 : Int64)), (.long q0)]) _
      obtain ⟨_, _, ⟨T103, L103, k103, n103⟩, -, X103, ⟨Lc103, hQ103, l103, y103, z103⟩, st103⟩ := Jvm.LawKit.callS X100 hx (y := (⟨"java/lang/Math", "max", "(JJ)J"⟩ : MethodName)) hown (mvT hZ (hw _ (List.mem_of_getElem? (i := 62) rfl))) (mvT hZ (hw _ (List.mem_of_getElem? (i := 63) rfl))) (mvT hZ (hw _ (List.mem_of_getElem? (i := 52) rfl))) (mvT hZ (hw _ (List.mem_of_getElem? (i := 64) rfl))) (by decide) (backOf (W := 0) (rm4 l Z a0 hw [] q0 (1836311904 : Int64) (if lcmpW q0 1836311904 < (0 : Int32) then 1836311904 else q0) T100.heap n0 Z100 rfl) hZ (hw _ (List.mem_of_getElem? (i := 64) rfl)) (hw _ (List.mem_of_getElem? (i := 52) rfl)) (by decide) (by decide)) (g := (mkF m 48 #[.val (.long q0), .second, .val (.long q2), .second, .val (.int p4), .val (.ref h0.size), .val (.int (Int32.ofNat k)), .unset, .unset, .unset, .unset, .unset, .unset, .unset] [(.long (1836311904 : Int64)), (.long q0)])) rfl (by rw [hml]; rfl) (argsL := [(.long q0), (.long (1836311904 : Int64))]) (rest := []) (lenOf pd_1 rfl) rfl (by show 2 * 0 + _ ≤ _; exact Nat.le_of_eq rfl) (hb hby at_48) (fun _ _ => ⟨rfl, rfl, (by decide : 0 + 1 + 0 ≤ _), (by decide : 0 + 47 + 0 ≤ _)⟩)
      dsimp only [Pt.U, Pt.locs, Pt.cells, Pt.slots] at X103 l103 y103 z103 st103 hQ103
      subst l103 y103 z103
      obtain ⟨rfl, Nq103, eh103⟩ := hQ103
      have N103 := Fr.app N100 Nq103
      refine Go.step st103 ?_
      show Go p e below T103 (mkF m 51 #[.val (.long q0), .second, .val (.long q2), .second, .val (.int p4), .val (.ref h0.size), .val (.int (Int32.ofNat k)), .unset, .unset, .unset, .unset, .unset, .unset, .unset] [(.long (if lcmpW q0 1836311904 < (0 : Int32) then 1836311904 else q0))]) _
      refine Go.step (fun _ => XS.lstore X103.here hx rfl (hb hby at_51) rfl (l' := #[.val (.long q0), .second, .val (.long q2), .second, .val (.int p4), .val (.ref h0.size), .val (.int (Int32.ofNat k)), .val (.long (if lcmpW q0 1836311904 < (0 : Int32) then 1836311904 else q0)), .second, .unset, .unset, .unset, .unset, .unset]) rfl) ?_
      show Go p e below T103 (mkF m 53 #[.val (.long q0), .second, .val (.long q2), .second, .val (.int p4), .val (.ref h0.size), .val (.int (Int32.ofNat k)), .val (.long (if lcmpW q0 1836311904 < (0 : Int32) then 1836311904 else q0)), .second, .unset, .unset, .unset, .unset, .unset] []) _
      refine Go.step (fun _ => X103.ldc2Long hx hown (mvT hZ (hw _ (List.mem_of_getElem? (i := 65) rfl))) (g := (mkF m 53 #[.val (.long q0), .second, .val (.long q2), .second, .val (.int p4), .val (.ref h0.size), .val (.int (Int32.ofNat k)), .val (.long (if lcmpW q0 1836311904 < (0 : Int32) then 1836311904 else q0)), .second, .unset, .unset, .unset, .unset, .unset] [])) rfl (hb hby at_53) _) ?_
      show Go p e below T103 (mkF m 56 #[.val (.long q0), .second, .val (.long q2), .second, .val (.int p4), .val (.ref h0.size), .val (.int (Int32.ofNat k)), .val (.long (if lcmpW q0 1836311904 < (0 : Int32) then 1836311904 else q0)), .second, .unset, .unset, .unset, .unset, .unset] [(.long (-1 : Int64))]) _
      refine Go.step (fun _ => XS.lstore X103.here hx rfl (hb hby at_56) rfl (l' := #[.val (.long q0), .second, .val (.long q2), .second, .val (.int p4), .val (.ref h0.size), .val (.int (Int32.ofNat k)), .val (.long (if lcmpW q0 1836311904 < (0 : Int32) then 1836311904 else q0)), .second, .val (.long (-1 : Int64)), .second, .unset, .unset, .unset]) rfl) ?_
      show Go p e below T103 (mkF m 58 #[.val (.long q0), .second, .val (.long q2), .second, .val (.int p4), .val (.ref h0.size), .val (.int (Int32.ofNat k)), .val (.long (if lcmpW q0 1836311904 < (0 : Int32) then 1836311904 else q0)), .second, .val (.long (-1 : Int64)), .second, .unset, .unset, .unset] []) _
      refine Go.step (fun _ => XS.goto X103.here hx rfl (pc0 := 58) (pc' := 99) rfl (hb hby at_58) (by decide) (by decide)) ?_
      show Go p e below T103 (mkF m 99 #[.val (.long q0), .second, .val (.long q2), .second, .val (.int p4), .val (.ref h0.size), .val (.int (Int32.ofNat k)), .val (.long (if lcmpW q0 1836311904 < (0 : Int32) then 1836311904 else q0)), .second, .val (.long (-1 : Int64)), .second, .unset, .unset, .unset] []) _
      refine Go.step (fun _ => XS.lload X103.here hx rfl (hb hby at_99) rfl ) ?_
      show Go p e below T103 (mkF m 101 #[.val (.long q0), .second, .val (.long q2), .second, .val (.int p4), .val (.ref h0.size), .val (.int (Int32.ofNat k)), .val (.long (if lcmpW q0 1836311904 < (0 : Int32) then 1836311904 else q0)), .second, .val (.long (-1 : Int64)), .second, .unset, .unset, .unset] [(.long (if lcmpW q0 1836311904 < (0 : Int32) then 1836311904 else q0))]) _
      obtain ⟨_, _, ⟨T104, L104, k104, n104⟩, -, X104, ⟨Lc104, hQ104, l104, y104, z104⟩, st104⟩ := Jvm.LawKit.callS X103 hx (y := (⟨"com/example/evenspace/evenspace/GoldenRatioCycle", "lengthAtLeast", "(J)J"⟩ : MethodName)) hown (mvT hZ (hw _ (List.mem_of_getElem? (i := 54) rfl))) (mvT hZ (hw _ (List.mem_of_getElem? (i := 55) rfl))) (mvT hZ (hw _ (List.mem_of_getElem? (i := 56) rfl))) (mvT hZ (hw _ (List.mem_of_getElem? (i := 57) rfl))) (by decide) (backOf (W := 0) (rm3 l Z a0 hw [] (if lcmpW q0 1836311904 < (0 : Int32) then 1836311904 else q0) wF cl fF (-1 : Int64) T100.heap n0 Z100 SF_q100 AF_q100 hsz hlen hat (by rw [hF]; exact own_high q0 _ rfl)) hZ (hw _ (List.mem_of_getElem? (i := 57) rfl)) (hw _ (List.mem_of_getElem? (i := 56) rfl)) (by decide) (by decide)) (g := (mkF m 101 #[.val (.long q0), .second, .val (.long q2), .second, .val (.int p4), .val (.ref h0.size), .val (.int (Int32.ofNat k)), .val (.long (if lcmpW q0 1836311904 < (0 : Int32) then 1836311904 else q0)), .second, .val (.long (-1 : Int64)), .second, .unset, .unset, .unset] [(.long (if lcmpW q0 1836311904 < (0 : Int32) then 1836311904 else q0))])) rfl (by rw [hml]; rfl) (argsL := [(.long (if lcmpW q0 1836311904 < (0 : Int32) then 1836311904 else q0))]) (rest := []) (lenOf pd_2 rfl) rfl (by show 2 * 0 + _ ≤ _; exact Nat.le_of_eq rfl) (hb hby at_101) (fun _ _ => ⟨rfl, eh103, (by decide : 0 + 1 + 0 + 0 ≤ _), (by decide : 0 + 47 + 0 + 0 ≤ _)⟩)
      dsimp only [Pt.U, Pt.locs, Pt.cells, Pt.slots] at X104 l104 y104 z104 st104 hQ104
      subst l104 y104 z104
      obtain ⟨rfl, Nq104, eh104⟩ := hQ104
      have N104 := Fr.app N103 Nq104
      refine Go.step st104 ?_
      show Go p e below T104 (mkF m 104 #[.val (.long q0), .second, .val (.long q2), .second, .val (.int p4), .val (.ref h0.size), .val (.int (Int32.ofNat k)), .val (.long (if lcmpW q0 1836311904 < (0 : Int32) then 1836311904 else q0)), .second, .val (.long (-1 : Int64)), .second, .unset, .unset, .unset] [(.long (-1 : Int64))]) _
      refine Go.step (fun _ => XS.lload X104.here hx rfl (hb hby at_104) rfl ) ?_
      show Go p e below T104 (mkF m 106 #[.val (.long q0), .second, .val (.long q2), .second, .val (.int p4), .val (.ref h0.size), .val (.int (Int32.ofNat k)), .val (.long (if lcmpW q0 1836311904 < (0 : Int32) then 1836311904 else q0)), .second, .val (.long (-1 : Int64)), .second, .unset, .unset, .unset] [(.long (-1 : Int64)), (.long (-1 : Int64))]) _
      refine Go.step (fun _ => XS.lcmp X104.here hx rfl (hb hby at_106) rfl) ?_
      show Go p e below T104 (mkF m 107 #[.val (.long q0), .second, .val (.long q2), .second, .val (.int p4), .val (.ref h0.size), .val (.int (Int32.ofNat k)), .val (.long (if lcmpW q0 1836311904 < (0 : Int32) then 1836311904 else q0)), .second, .val (.long (-1 : Int64)), .second, .unset, .unset, .unset] [(.int (lcmpW (-1 : Int64) (-1 : Int64)))]) _
      refine Go.step (fun _ => XS.ifNo X104.here hx rfl (hb hby at_107) rfl ((if0 _ _).trans (teq ((lw_eq _ _).mpr rfl)).2)) ?_
      show Go p e below T104 (mkF m 110 #[.val (.long q0), .second, .val (.long q2), .second, .val (.int p4), .val (.ref h0.size), .val (.int (Int32.ofNat k)), .val (.long (if lcmpW q0 1836311904 < (0 : Int32) then 1836311904 else q0)), .second, .val (.long (-1 : Int64)), .second, .unset, .unset, .unset] []) _
      refine Go.step (fun _ => XS.iconst X104.here hx rfl (hb hby at_110)) ?_
      show Go p e below T104 (mkF m 111 #[.val (.long q0), .second, .val (.long q2), .second, .val (.int p4), .val (.ref h0.size), .val (.int (Int32.ofNat k)), .val (.long (if lcmpW q0 1836311904 < (0 : Int32) then 1836311904 else q0)), .second, .val (.long (-1 : Int64)), .second, .unset, .unset, .unset] [(.int (1 : Int32))]) _
      refine Go.step (fun _ => XS.goto X104.here hx rfl (pc0 := 111) (pc' := 115) rfl (hb hby at_111) (by decide) (by decide)) ?_
      show Go p e below T104 (mkF m 115 #[.val (.long q0), .second, .val (.long q2), .second, .val (.int p4), .val (.ref h0.size), .val (.int (Int32.ofNat k)), .val (.long (if lcmpW q0 1836311904 < (0 : Int32) then 1836311904 else q0)), .second, .val (.long (-1 : Int64)), .second, .unset, .unset, .unset] [(.int (1 : Int32))]) _
      refine Go.retN (t := .boolean) (z' := (1 : Int32)) X104 hx hret (by simp) hlk (hb hby at_115) (by decide) ?_ (by decide) (by decide)
      exact ⟨rfl, N104⟩
    · skip
      refine Go.step (fun _ => XS.icmpYes X100.here hx rfl (pc0 := 41) (pc' := 61) rfl (hb hby at_41) rfl (feq hc41).2 (by decide) (by decide)) ?_
      show Go p e below T100 (mkF m 61 #[.val (.long q0), .second, .val (.long q2), .second, .val (.int p4), .val (.ref h0.size), .val (.int (Int32.ofNat k)), .unset, .unset, .unset, .unset, .unset, .unset, .unset] []) _
      have hk1 : 1 ≤ k := by
        rcases Nat.eq_zero_or_pos k with q | q
        · subst q; exact absurd rfl hc17
        · exact q
      have hk2 : k < 44 := by
        rcases Nat.lt_or_ge k 44 with q | q
        · exact q
        · obtain rfl : k = 44 := by omega
          exact absurd rfl hc41
      show Go p e below T100 (mkF m 61 #[.val (.long q0), .second, .val (.long q2), .second, .val (.int p4), .val (.ref h0.size), .val (.int (Int32.ofNat k)), .unset, .unset, .unset, .unset, .unset, .unset, .unset] []) _
      refine Go.step (fun _ => XS.iload X100.here hx rfl (hb hby at_61) rfl ) ?_
      show Go p e below T100 (mkF m 63 #[.val (.long q0), .second, .val (.long q2), .second, .val (.int p4), .val (.ref h0.size), .val (.int (Int32.ofNat k)), .unset, .unset, .unset, .unset, .unset, .unset, .unset] [(.int (Int32.ofNat k))]) _
      refine Go.step (fun _ => XS.iconst X100.here hx rfl (hb hby at_63)) ?_
      show Go p e below T100 (mkF m 64 #[.val (.long q0), .second, .val (.long q2), .second, .val (.int p4), .val (.ref h0.size), .val (.int (Int32.ofNat k)), .unset, .unset, .unset, .unset, .unset, .unset, .unset] [(.int (3 : Int32)), (.int (Int32.ofNat k))]) _
      refine Go.step (fun _ => XS.iadd X100.here hx rfl (hb hby at_64) rfl) ?_
      show Go p e below T100 (mkF m 65 #[.val (.long q0), .second, .val (.long q2), .second, .val (.int p4), .val (.ref h0.size), .val (.int (Int32.ofNat k)), .unset, .unset, .unset, .unset, .unset, .unset, .unset] [(.int ((Int32.ofNat k) + (3 : Int32)))]) _
      rw [show Int32.ofNat k + (3 : Int32) = Int32.ofNat (k + 3) from own_add k 3]
      show Go p e below T100 (mkF m 65 #[.val (.long q0), .second, .val (.long q2), .second, .val (.int p4), .val (.ref h0.size), .val (.int (Int32.ofNat k)), .unset, .unset, .unset, .unset, .unset, .unset, .unset] [(.int (Int32.ofNat (k + 3)))]) _
      refine Go.step (fun _ => XS.istore X100.here hx rfl (hb hby at_65) rfl (l' := #[.val (.long q0), .second, .val (.long q2), .second, .val (.int p4), .val (.ref h0.size), .val (.int (Int32.ofNat k)), .unset, .unset, .unset, .unset, .val (.int (Int32.ofNat (k + 3))), .unset, .unset]) rfl) ?_
      show Go p e below T100 (mkF m 67 #[.val (.long q0), .second, .val (.long q2), .second, .val (.int p4), .val (.ref h0.size), .val (.int (Int32.ofNat k)), .unset, .unset, .unset, .unset, .val (.int (Int32.ofNat (k + 3))), .unset, .unset] []) _
      refine Go.step (fun _ => XS.aload X100.here hx rfl (hb hby at_67) rfl rfl ) ?_
      show Go p e below T100 (mkF m 69 #[.val (.long q0), .second, .val (.long q2), .second, .val (.int p4), .val (.ref h0.size), .val (.int (Int32.ofNat k)), .unset, .unset, .unset, .unset, .val (.int (Int32.ofNat (k + 3))), .unset, .unset] [(.ref h0.size)]) _
      refine Go.step (fun _ => XS.iload X100.here hx rfl (hb hby at_69) rfl ) ?_
      show Go p e below T100 (mkF m 71 #[.val (.long q0), .second, .val (.long q2), .second, .val (.int p4), .val (.ref h0.size), .val (.int (Int32.ofNat k)), .unset, .unset, .unset, .unset, .val (.int (Int32.ofNat (k + 3))), .unset, .unset] [(.int (Int32.ofNat (k + 3))), (.ref h0.size)]) _
      refine Go.step (fun _ => XS.iconst X100.here hx rfl (hb hby at_71)) ?_
      show Go p e below T100 (mkF m 72 #[.val (.long q0), .second, .val (.long q2), .second, .val (.int p4), .val (.ref h0.size), .val (.int (Int32.ofNat k)), .unset, .unset, .unset, .unset, .val (.int (Int32.ofNat (k + 3))), .unset, .unset] [(.int (2 : Int32)), (.int (Int32.ofNat (k + 3))), (.ref h0.size)]) _
      refine Go.step (fun _ => XS.isub X100.here hx rfl (hb hby at_72) rfl) ?_
      show Go p e below T100 (mkF m 73 #[.val (.long q0), .second, .val (.long q2), .second, .val (.int p4), .val (.ref h0.size), .val (.int (Int32.ofNat k)), .unset, .unset, .unset, .unset, .val (.int (Int32.ofNat (k + 3))), .unset, .unset] [(.int ((Int32.ofNat (k + 3)) - (2 : Int32))), (.ref h0.size)]) _
      rw [show Int32.ofNat (k + 3) - (2 : Int32) = Int32.ofNat (k + 1) from own_sub (k + 1) 2]
      show Go p e below T100 (mkF m 73 #[.val (.long q0), .second, .val (.long q2), .second, .val (.int p4), .val (.ref h0.size), .val (.int (Int32.ofNat k)), .unset, .unset, .unset, .unset, .val (.int (Int32.ofNat (k + 3))), .unset, .unset] [(.int (Int32.ofNat (k + 1))), (.ref h0.size)]) _
      obtain ⟨cl105, Ar105, -, Sz105, -, Ha105, -⟩ := id V100
      have hin105 : ¬ (Int32.ofNat (k + 1) < 0 ∨ cl105.slots.size ≤ (Int32.ofNat (k + 1)).toNatClampNeg) := by rw [Sz105]; exact idx_in (show k + 1 < 47 by omega) (by decide)
      refine Go.step (fun _ => X100.laload hx (j := (Int32.ofNat (k + 1))) (v := (.long (fF (k + 1)).toInt64)) Ar105.1 (State.isArrayOf_alike hZ.alike Ar105.2.1) Ar105.2.2 hin105 (Ha105.at hin105 (by rw [own_clamp (by omega)]; rw [hF]; exact own_vals _ (by omega))) (g := (mkF m 73 #[.val (.long q0), .second, .val (.long q2), .second, .val (.int p4), .val (.ref h0.size), .val (.int (Int32.ofNat k)), .unset, .unset, .unset, .unset, .val (.int (Int32.ofNat (k + 3))), .unset, .unset] [(.int (Int32.ofNat (k + 1))), (.ref h0.size)])) rfl rfl (hb hby at_73) _) ?_
      show Go p e below T100 (mkF m 74 #[.val (.long q0), .second, .val (.long q2), .second, .val (.int p4), .val (.ref h0.size), .val (.int (Int32.ofNat k)), .unset, .unset, .unset, .unset, .val (.int (Int32.ofNat (k + 3))), .unset, .unset] [(.long (fF (k + 1)).toInt64)]) _
      refine Go.step (fun _ => XS.lstore X100.here hx rfl (hb hby at_74) rfl (l' := #[.val (.long q0), .second, .val (.long q2), .second, .val (.int p4), .val (.ref h0.size), .val (.int (Int32.ofNat k)), .unset, .unset, .unset, .unset, .val (.int (Int32.ofNat (k + 3))), .val (.long (fF (k + 1)).toInt64), .second]) rfl) ?_
      show Go p e below T100 (mkF m 76 #[.val (.long q0), .second, .val (.long q2), .second, .val (.int p4), .val (.ref h0.size), .val (.int (Int32.ofNat k)), .unset, .unset, .unset, .unset, .val (.int (Int32.ofNat (k + 3))), .val (.long (fF (k + 1)).toInt64), .second] []) _
      refine Go.step (fun _ => XS.aload X100.here hx rfl (hb hby at_76) rfl rfl ) ?_
      show Go p e below T100 (mkF m 78 #[.val (.long q0), .second, .val (.long q2), .second, .val (.int p4), .val (.ref h0.size), .val (.int (Int32.ofNat k)), .unset, .unset, .unset, .unset, .val (.int (Int32.ofNat (k + 3))), .val (.long (fF (k + 1)).toInt64), .second] [(.ref h0.size)]) _
      refine Go.step (fun _ => XS.iload X100.here hx rfl (hb hby at_78) rfl ) ?_
      show Go p e below T100 (mkF m 80 #[.val (.long q0), .second, .val (.long q2), .second, .val (.int p4), .val (.ref h0.size), .val (.int (Int32.ofNat k)), .unset, .unset, .unset, .unset, .val (.int (Int32.ofNat (k + 3))), .val (.long (fF (k + 1)).toInt64), .second] [(.int (Int32.ofNat (k + 3))), (.ref h0.size)]) _
      obtain ⟨cl106, Ar106, -, Sz106, -, Ha106, -⟩ := id V100
      have hin106 : ¬ (Int32.ofNat (k + 3) < 0 ∨ cl106.slots.size ≤ (Int32.ofNat (k + 3)).toNatClampNeg) := by rw [Sz106]; exact idx_in (show k + 3 < 47 by omega) (by decide)
      refine Go.step (fun _ => X100.laload hx (j := (Int32.ofNat (k + 3))) (v := (.long (fF (k + 3)).toInt64)) Ar106.1 (State.isArrayOf_alike hZ.alike Ar106.2.1) Ar106.2.2 hin106 (Ha106.at hin106 (by rw [own_clamp (by omega)]; rw [hF]; exact own_vals _ (by omega))) (g := (mkF m 80 #[.val (.long q0), .second, .val (.long q2), .second, .val (.int p4), .val (.ref h0.size), .val (.int (Int32.ofNat k)), .unset, .unset, .unset, .unset, .val (.int (Int32.ofNat (k + 3))), .val (.long (fF (k + 1)).toInt64), .second] [(.int (Int32.ofNat (k + 3))), (.ref h0.size)])) rfl rfl (hb hby at_80) _) ?_
      show Go p e below T100 (mkF m 81 #[.val (.long q0), .second, .val (.long q2), .second, .val (.int p4), .val (.ref h0.size), .val (.int (Int32.ofNat k)), .unset, .unset, .unset, .unset, .val (.int (Int32.ofNat (k + 3))), .val (.long (fF (k + 1)).toInt64), .second] [(.long (fF (k + 3)).toInt64)]) _
      refine Go.step (fun _ => XS.lloadN X100.here hx rfl (hb hby at_81) rfl ) ?_
      show Go p e below T100 (mkF m 82 #[.val (.long q0), .second, .val (.long q2), .second, .val (.int p4), .val (.ref h0.size), .val (.int (Int32.ofNat k)), .unset, .unset, .unset, .unset, .val (.int (Int32.ofNat (k + 3))), .val (.long (fF (k + 1)).toInt64), .second] [(.long q2), (.long (fF (k + 3)).toInt64)]) _
      refine Go.step (fun _ => X100.ldc2Long hx hown (mvT hZ (hw _ (List.mem_of_getElem? (i := 60) rfl))) (g := (mkF m 82 #[.val (.long q0), .second, .val (.long q2), .second, .val (.int p4), .val (.ref h0.size), .val (.int (Int32.ofNat k)), .unset, .unset, .unset, .unset, .val (.int (Int32.ofNat (k + 3))), .val (.long (fF (k + 1)).toInt64), .second] [(.long q2), (.long (fF (k + 3)).toInt64)])) rfl (hb hby at_82) _) ?_
      show Go p e below T100 (mkF m 85 #[.val (.long q0), .second, .val (.long q2), .second, .val (.int p4), .val (.ref h0.size), .val (.int (Int32.ofNat k)), .unset, .unset, .unset, .unset, .val (.int (Int32.ofNat (k + 3))), .val (.long (fF (k + 1)).toInt64), .second] [(.long (9223372036854775807 : Int64)), (.long q2), (.long (fF (k + 3)).toInt64)]) _
      refine Go.step (fun _ => XS.land X100.here hx rfl (hb hby at_85) rfl) ?_
      show Go p e below T100 (mkF m 86 #[.val (.long q0), .second, .val (.long q2), .second, .val (.int p4), .val (.ref h0.size), .val (.int (Int32.ofNat k)), .unset, .unset, .unset, .unset, .val (.int (Int32.ofNat (k + 3))), .val (.long (fF (k + 1)).toInt64), .second] [(.long (q2 &&& (9223372036854775807 : Int64))), (.long (fF (k + 3)).toInt64)]) _
      refine Go.step (fun _ => XS.lload X100.here hx rfl (hb hby at_86) rfl ) ?_
      show Go p e below T100 (mkF m 88 #[.val (.long q0), .second, .val (.long q2), .second, .val (.int p4), .val (.ref h0.size), .val (.int (Int32.ofNat k)), .unset, .unset, .unset, .unset, .val (.int (Int32.ofNat (k + 3))), .val (.long (fF (k + 1)).toInt64), .second] [(.long (fF (k + 1)).toInt64), (.long (q2 &&& (9223372036854775807 : Int64))), (.long (fF (k + 3)).toInt64)]) _
      refine Go.step (fun _ => XS.lrem X100.here hx rfl (hb hby at_88) rfl (fun q => by have p := own_pos k (by omega); rw [← hF, q] at p; exact absurd p.1 (by decide))) ?_
      show Go p e below T100 (mkF m 89 #[.val (.long q0), .second, .val (.long q2), .second, .val (.int p4), .val (.ref h0.size), .val (.int (Int32.ofNat k)), .unset, .unset, .unset, .unset, .val (.int (Int32.ofNat (k + 3))), .val (.long (fF (k + 1)).toInt64), .second] [(.long ((q2 &&& (9223372036854775807 : Int64)) - ((q2 &&& (9223372036854775807 : Int64)) / (fF (k + 1)).toInt64) * (fF (k + 1)).toInt64)), (.long (fF (k + 3)).toInt64)]) _
      refine Go.step (fun _ => XS.lsub X100.here hx rfl (hb hby at_89) rfl) ?_
      show Go p e below T100 (mkF m 90 #[.val (.long q0), .second, .val (.long q2), .second, .val (.int p4), .val (.ref h0.size), .val (.int (Int32.ofNat k)), .unset, .unset, .unset, .unset, .val (.int (Int32.ofNat (k + 3))), .val (.long (fF (k + 1)).toInt64), .second] [(.long ((fF (k + 3)).toInt64 - ((q2 &&& (9223372036854775807 : Int64)) - ((q2 &&& (9223372036854775807 : Int64)) / (fF (k + 1)).toInt64) * (fF (k + 1)).toInt64)))]) _
      refine Go.step (fun _ => XS.lstore X100.here hx rfl (hb hby at_90) rfl (l' := #[.val (.long q0), .second, .val (.long q2), .second, .val (.int p4), .val (.ref h0.size), .val (.int (Int32.ofNat k)), .val (.long ((fF (k + 3)).toInt64 - ((q2 &&& (9223372036854775807 : Int64)) - ((q2 &&& (9223372036854775807 : Int64)) / (fF (k + 1)).toInt64) * (fF (k + 1)).toInt64))), .second, .unset, .unset, .val (.int (Int32.ofNat (k + 3))), .val (.long (fF (k + 1)).toInt64), .second]) rfl) ?_
      show Go p e below T100 (mkF m 92 #[.val (.long q0), .second, .val (.long q2), .second, .val (.int p4), .val (.ref h0.size), .val (.int (Int32.ofNat k)), .val (.long ((fF (k + 3)).toInt64 - ((q2 &&& (9223372036854775807 : Int64)) - ((q2 &&& (9223372036854775807 : Int64)) / (fF (k + 1)).toInt64) * (fF (k + 1)).toInt64))), .second, .unset, .unset, .val (.int (Int32.ofNat (k + 3))), .val (.long (fF (k + 1)).toInt64), .second] []) _
      refine Go.step (fun _ => XS.aload X100.here hx rfl (hb hby at_92) rfl rfl ) ?_
      show Go p e below T100 (mkF m 94 #[.val (.long q0), .second, .val (.long q2), .second, .val (.int p4), .val (.ref h0.size), .val (.int (Int32.ofNat k)), .val (.long ((fF (k + 3)).toInt64 - ((q2 &&& (9223372036854775807 : Int64)) - ((q2 &&& (9223372036854775807 : Int64)) / (fF (k + 1)).toInt64) * (fF (k + 1)).toInt64))), .second, .unset, .unset, .val (.int (Int32.ofNat (k + 3))), .val (.long (fF (k + 1)).toInt64), .second] [(.ref h0.size)]) _
      refine Go.step (fun _ => XS.iload X100.here hx rfl (hb hby at_94) rfl ) ?_
      show Go p e below T100 (mkF m 96 #[.val (.long q0), .second, .val (.long q2), .second, .val (.int p4), .val (.ref h0.size), .val (.int (Int32.ofNat k)), .val (.long ((fF (k + 3)).toInt64 - ((q2 &&& (9223372036854775807 : Int64)) - ((q2 &&& (9223372036854775807 : Int64)) / (fF (k + 1)).toInt64) * (fF (k + 1)).toInt64))), .second, .unset, .unset, .val (.int (Int32.ofNat (k + 3))), .val (.long (fF (k + 1)).toInt64), .second] [(.int (Int32.ofNat (k + 3))), (.ref h0.size)]) _
      obtain ⟨cl107, Ar107, -, Sz107, -, Ha107, -⟩ := id V100
      have hin107 : ¬ (Int32.ofNat (k + 3) < 0 ∨ cl107.slots.size ≤ (Int32.ofNat (k + 3)).toNatClampNeg) := by rw [Sz107]; exact idx_in (show k + 3 < 47 by omega) (by decide)
      refine Go.step (fun _ => X100.laload hx (j := (Int32.ofNat (k + 3))) (v := (.long (fF (k + 3)).toInt64)) Ar107.1 (State.isArrayOf_alike hZ.alike Ar107.2.1) Ar107.2.2 hin107 (Ha107.at hin107 (by rw [own_clamp (by omega)]; rw [hF]; exact own_vals _ (by omega))) (g := (mkF m 96 #[.val (.long q0), .second, .val (.long q2), .second, .val (.int p4), .val (.ref h0.size), .val (.int (Int32.ofNat k)), .val (.long ((fF (k + 3)).toInt64 - ((q2 &&& (9223372036854775807 : Int64)) - ((q2 &&& (9223372036854775807 : Int64)) / (fF (k + 1)).toInt64) * (fF (k + 1)).toInt64))), .second, .unset, .unset, .val (.int (Int32.ofNat (k + 3))), .val (.long (fF (k + 1)).toInt64), .second] [(.int (Int32.ofNat (k + 3))), (.ref h0.size)])) rfl rfl (hb hby at_96) _) ?_
      show Go p e below T100 (mkF m 97 #[.val (.long q0), .second, .val (.long q2), .second, .val (.int p4), .val (.ref h0.size), .val (.int (Int32.ofNat k)), .val (.long ((fF (k + 3)).toInt64 - ((q2 &&& (9223372036854775807 : Int64)) - ((q2 &&& (9223372036854775807 : Int64)) / (fF (k + 1)).toInt64) * (fF (k + 1)).toInt64))), .second, .unset, .unset, .val (.int (Int32.ofNat (k + 3))), .val (.long (fF (k + 1)).toInt64), .second] [(.long (fF (k + 3)).toInt64)]) _
      refine Go.step (fun _ => XS.lstore X100.here hx rfl (hb hby at_97) rfl (l' := #[.val (.long q0), .second, .val (.long q2), .second, .val (.int p4), .val (.ref h0.size), .val (.int (Int32.ofNat k)), .val (.long ((fF (k + 3)).toInt64 - ((q2 &&& (9223372036854775807 : Int64)) - ((q2 &&& (9223372036854775807 : Int64)) / (fF (k + 1)).toInt64) * (fF (k + 1)).toInt64))), .second, .val (.long (fF (k + 3)).toInt64), .second, .val (.int (Int32.ofNat (k + 3))), .val (.long (fF (k + 1)).toInt64), .second]) rfl) ?_
      show Go p e below T100 (mkF m 99 #[.val (.long q0), .second, .val (.long q2), .second, .val (.int p4), .val (.ref h0.size), .val (.int (Int32.ofNat k)), .val (.long ((fF (k + 3)).toInt64 - ((q2 &&& (9223372036854775807 : Int64)) - ((q2 &&& (9223372036854775807 : Int64)) / (fF (k + 1)).toInt64) * (fF (k + 1)).toInt64))), .second, .val (.long (fF (k + 3)).toInt64), .second, .val (.int (Int32.ofNat (k + 3))), .val (.long (fF (k + 1)).toInt64), .second] []) _
      refine Go.step (fun _ => XS.lload X100.here hx rfl (hb hby at_99) rfl ) ?_
      show Go p e below T100 (mkF m 101 #[.val (.long q0), .second, .val (.long q2), .second, .val (.int p4), .val (.ref h0.size), .val (.int (Int32.ofNat k)), .val (.long ((fF (k + 3)).toInt64 - ((q2 &&& (9223372036854775807 : Int64)) - ((q2 &&& (9223372036854775807 : Int64)) / (fF (k + 1)).toInt64) * (fF (k + 1)).toInt64))), .second, .val (.long (fF (k + 3)).toInt64), .second, .val (.int (Int32.ofNat (k + 3))), .val (.long (fF (k + 1)).toInt64), .second] [(.long ((fF (k + 3)).toInt64 - ((q2 &&& (9223372036854775807 : Int64)) - ((q2 &&& (9223372036854775807 : Int64)) / (fF (k + 1)).toInt64) * (fF (k + 1)).toInt64)))]) _
      obtain ⟨_, _, ⟨T108, L108, k108, n108⟩, -, X108, ⟨Lc108, hQ108, l108, y108, z108⟩, st108⟩ := Jvm.LawKit.callS X100 hx (y := (⟨"com/example/evenspace/evenspace/GoldenRatioCycle", "lengthAtLeast", "(J)J"⟩ : MethodName)) hown (mvT hZ (hw _ (List.mem_of_getElem? (i := 54) rfl))) (mvT hZ (hw _ (List.mem_of_getElem? (i := 55) rfl))) (mvT hZ (hw _ (List.mem_of_getElem? (i := 56) rfl))) (mvT hZ (hw _ (List.mem_of_getElem? (i := 57) rfl))) (by decide) (backOf (W := 0) (rm3 l Z a0 hw [] ((fF (k + 3)).toInt64 - ((q2 &&& (9223372036854775807 : Int64)) - ((q2 &&& (9223372036854775807 : Int64)) / (fF (k + 1)).toInt64) * (fF (k + 1)).toInt64)) wF cl fF (fF (k + 3)).toInt64 T100.heap n0 Z100 SF_q100 AF_q100 hsz hlen hat (by rw [hF]; exact own_mid q2 k hk1 hk2)) hZ (hw _ (List.mem_of_getElem? (i := 57) rfl)) (hw _ (List.mem_of_getElem? (i := 56) rfl)) (by decide) (by decide)) (g := (mkF m 101 #[.val (.long q0), .second, .val (.long q2), .second, .val (.int p4), .val (.ref h0.size), .val (.int (Int32.ofNat k)), .val (.long ((fF (k + 3)).toInt64 - ((q2 &&& (9223372036854775807 : Int64)) - ((q2 &&& (9223372036854775807 : Int64)) / (fF (k + 1)).toInt64) * (fF (k + 1)).toInt64))), .second, .val (.long (fF (k + 3)).toInt64), .second, .val (.int (Int32.ofNat (k + 3))), .val (.long (fF (k + 1)).toInt64), .second] [(.long ((fF (k + 3)).toInt64 - ((q2 &&& (9223372036854775807 : Int64)) - ((q2 &&& (9223372036854775807 : Int64)) / (fF (k + 1)).toInt64) * (fF (k + 1)).toInt64)))])) rfl (by rw [hml]; rfl) (argsL := [(.long ((fF (k + 3)).toInt64 - ((q2 &&& (9223372036854775807 : Int64)) - ((q2 &&& (9223372036854775807 : Int64)) / (fF (k + 1)).toInt64) * (fF (k + 1)).toInt64)))]) (rest := []) (lenOf pd_2 rfl) rfl (by show 2 * 0 + _ ≤ _; exact Nat.le_of_eq rfl) (hb hby at_101) (fun _ _ => ⟨rfl, rfl, (by decide : 0 + 1 + 0 ≤ _), (by decide : 0 + 47 + 0 ≤ _)⟩)
      dsimp only [Pt.U, Pt.locs, Pt.cells, Pt.slots] at X108 l108 y108 z108 st108 hQ108
      subst l108 y108 z108
      obtain ⟨rfl, Nq108, eh108⟩ := hQ108
      have N108 := Fr.app N100 Nq108
      refine Go.step st108 ?_
      show Go p e below T108 (mkF m 104 #[.val (.long q0), .second, .val (.long q2), .second, .val (.int p4), .val (.ref h0.size), .val (.int (Int32.ofNat k)), .val (.long ((fF (k + 3)).toInt64 - ((q2 &&& (9223372036854775807 : Int64)) - ((q2 &&& (9223372036854775807 : Int64)) / (fF (k + 1)).toInt64) * (fF (k + 1)).toInt64))), .second, .val (.long (fF (k + 3)).toInt64), .second, .val (.int (Int32.ofNat (k + 3))), .val (.long (fF (k + 1)).toInt64), .second] [(.long (fF (k + 3)).toInt64)]) _
      refine Go.step (fun _ => XS.lload X108.here hx rfl (hb hby at_104) rfl ) ?_
      show Go p e below T108 (mkF m 106 #[.val (.long q0), .second, .val (.long q2), .second, .val (.int p4), .val (.ref h0.size), .val (.int (Int32.ofNat k)), .val (.long ((fF (k + 3)).toInt64 - ((q2 &&& (9223372036854775807 : Int64)) - ((q2 &&& (9223372036854775807 : Int64)) / (fF (k + 1)).toInt64) * (fF (k + 1)).toInt64))), .second, .val (.long (fF (k + 3)).toInt64), .second, .val (.int (Int32.ofNat (k + 3))), .val (.long (fF (k + 1)).toInt64), .second] [(.long (fF (k + 3)).toInt64), (.long (fF (k + 3)).toInt64)]) _
      refine Go.step (fun _ => XS.lcmp X108.here hx rfl (hb hby at_106) rfl) ?_
      show Go p e below T108 (mkF m 107 #[.val (.long q0), .second, .val (.long q2), .second, .val (.int p4), .val (.ref h0.size), .val (.int (Int32.ofNat k)), .val (.long ((fF (k + 3)).toInt64 - ((q2 &&& (9223372036854775807 : Int64)) - ((q2 &&& (9223372036854775807 : Int64)) / (fF (k + 1)).toInt64) * (fF (k + 1)).toInt64))), .second, .val (.long (fF (k + 3)).toInt64), .second, .val (.int (Int32.ofNat (k + 3))), .val (.long (fF (k + 1)).toInt64), .second] [(.int (lcmpW (fF (k + 3)).toInt64 (fF (k + 3)).toInt64))]) _
      refine Go.step (fun _ => XS.ifNo X108.here hx rfl (hb hby at_107) rfl ((if0 _ _).trans (teq ((lw_eq _ _).mpr rfl)).2)) ?_
      show Go p e below T108 (mkF m 110 #[.val (.long q0), .second, .val (.long q2), .second, .val (.int p4), .val (.ref h0.size), .val (.int (Int32.ofNat k)), .val (.long ((fF (k + 3)).toInt64 - ((q2 &&& (9223372036854775807 : Int64)) - ((q2 &&& (9223372036854775807 : Int64)) / (fF (k + 1)).toInt64) * (fF (k + 1)).toInt64))), .second, .val (.long (fF (k + 3)).toInt64), .second, .val (.int (Int32.ofNat (k + 3))), .val (.long (fF (k + 1)).toInt64), .second] []) _
      refine Go.step (fun _ => XS.iconst X108.here hx rfl (hb hby at_110)) ?_
      show Go p e below T108 (mkF m 111 #[.val (.long q0), .second, .val (.long q2), .second, .val (.int p4), .val (.ref h0.size), .val (.int (Int32.ofNat k)), .val (.long ((fF (k + 3)).toInt64 - ((q2 &&& (9223372036854775807 : Int64)) - ((q2 &&& (9223372036854775807 : Int64)) / (fF (k + 1)).toInt64) * (fF (k + 1)).toInt64))), .second, .val (.long (fF (k + 3)).toInt64), .second, .val (.int (Int32.ofNat (k + 3))), .val (.long (fF (k + 1)).toInt64), .second] [(.int (1 : Int32))]) _
      refine Go.step (fun _ => XS.goto X108.here hx rfl (pc0 := 111) (pc' := 115) rfl (hb hby at_111) (by decide) (by decide)) ?_
      show Go p e below T108 (mkF m 115 #[.val (.long q0), .second, .val (.long q2), .second, .val (.int p4), .val (.ref h0.size), .val (.int (Int32.ofNat k)), .val (.long ((fF (k + 3)).toInt64 - ((q2 &&& (9223372036854775807 : Int64)) - ((q2 &&& (9223372036854775807 : Int64)) / (fF (k + 1)).toInt64) * (fF (k + 1)).toInt64))), .second, .val (.long (fF (k + 3)).toInt64), .second, .val (.int (Int32.ofNat (k + 3))), .val (.long (fF (k + 1)).toInt64), .second] [(.int (1 : Int32))]) _
      refine Go.retN (t := .boolean) (z' := (1 : Int32)) X108 hx hret (by simp) hlk (hb hby at_115) (by decide) ?_ (by decide) (by decide)
      exact ⟨rfl, N108⟩
set_option maxRecDepth 65536 in
set_option maxHeartbeats 40000000 in
theorem comes_1 {Post : Tables → Env → Array Value → State → Outcome → State → Prop} (hpost : ∀ tb e args s v u, (limb_1_1.after args s (.returned v) u = true ∧ limb_1_2.after args s (.returned v) u = true ∧ True) → FrameEnd s (.returned v) u (Jvm.fieldLocs frame_1_writes args s ++ Jvm.arrayLocs frame_1_arrays args s ++ Jvm.staticLocs frame_1_statics s) 16 192 → Post tb e args s (.returned v) u) :
    ArmFor flags0 classFile x code maxLocals ret World_1 tables_1 room_1 Calls_1 rest_1 Pre_1 Post := by
  intro l hfl _ _ p e ha hc hk s m args below hf hA hF happ hP
  obtain ⟨hcalls, hrest, hpre⟩ := hP
  obtain ⟨-, -, -, hnamed, -, -, -, hat⟩ := (Spec.applies_iff hf).mp happ
  obtain ⟨hg, hn⟩ := and_e (Cond.before_iff.mp (show (Jvm.Cond.and given_1 narrow_1).before args s = true from hpre))
  obtain ⟨g1, g2⟩ := and_e hg
  obtain ⟨g3, g4⟩ := and_e g2
  obtain ⟨g5, g6⟩ := and_e g4
  obtain ⟨w0, w1, w2, rfl⟩ : ∃ w0 w1 w2 : Value, args = #[w0, w1, w2] := by
    have hs : args.size = 3 := by simpa [Cond.value, given_1] using g1
    obtain ⟨L⟩ := args
    match L, hs with
    | [w0, w1, w2], _ => exact ⟨w0, w1, w2, rfl⟩
  have hw := fun d (hd : d ∈ tables_1) => atoms_spec (ws := Jvm.Cond.code x code maxLocals ret :: tables_1) hat d (List.mem_cons_of_mem _ hd)
  have hfit : Fit s := fun {y c} hc i hi => by
    obtain ⟨ha, rfl⟩ := Array.getElem?_eq_some_iff.mp hc
    have q := List.all_eq_true.mp ((Array.all_eq_true_iff_forall_mem.mp hF) _ (Array.getElem_mem ha)) i (List.mem_range.mpr hi)
    simpa [Array.getElem?_eq_getElem hi] using q
  obtain ⟨i0, ei0⟩ := isL_v g3
  obtain rfl : w0 = (.long i0) := Option.some.inj ei0
  obtain ⟨i1, ei1⟩ := isL_v g5
  obtain rfl : w1 = (.long i1) := Option.some.inj ei1
  obtain ⟨i2, ei2⟩ := is_v g6
  obtain rfl : w2 = (.int i2) := Option.some.inj ei2
  obtain ⟨u0, v0⟩ := and_e hn
  obtain ⟨u1, v1⟩ := and_e v0
  obtain ⟨u2, v2⟩ := and_e v1
  obtain ⟨u3, v3⟩ := and_e v2
  obtain ⟨u4, v4⟩ := and_e v3
  obtain ⟨u5, v5⟩ := and_e v4
  obtain ⟨u6, v6⟩ := and_e v5
  obtain ⟨u7, v7⟩ := and_e v6
  obtain ⟨u8, v8⟩ := and_e v7
  obtain ⟨u9, v9⟩ := and_e v8
  obtain ⟨u10, v10⟩ := and_e v9
  obtain ⟨u11, v11⟩ := and_e v10
  obtain ⟨u12, v12⟩ := and_e v11
  obtain ⟨u13, v13⟩ := and_e v12
  obtain ⟨u14, v14⟩ := and_e v13
  obtain ⟨u15, v15⟩ := and_e v14
  obtain ⟨u16, v16⟩ := and_e v15
  obtain ⟨u17, v17⟩ := and_e v16
  obtain ⟨u18, v18⟩ := and_e v17
  obtain ⟨u19, v19⟩ := and_e v18
  obtain ⟨u20, v20⟩ := and_e v19
  obtain ⟨u21, v21⟩ := and_e v20
  obtain ⟨u22, v22⟩ := and_e v21
  obtain ⟨u23, v23⟩ := and_e v22
  obtain ⟨u24, v24⟩ := and_e v23
  obtain ⟨u25, v25⟩ := and_e v24
  obtain ⟨u26, v26⟩ := and_e v25
  obtain ⟨u27, v27⟩ := and_e v26
  obtain ⟨u28, v28⟩ := and_e v27
  obtain ⟨u29, v29⟩ := and_e v28
  obtain ⟨u30, v30⟩ := and_e v29
  obtain ⟨u31, v31⟩ := and_e v30
  obtain ⟨u32, v32⟩ := and_e v31
  obtain ⟨u33, v33⟩ := and_e v32
  obtain ⟨u34, v34⟩ := and_e v33
  obtain ⟨u35, v35⟩ := and_e v34
  obtain ⟨u36, v36⟩ := and_e v35
  obtain ⟨u37, v37⟩ := and_e v36
  obtain ⟨u38, v38⟩ := and_e v37
  obtain ⟨u39, v39⟩ := and_e v38
  obtain ⟨u40, v40⟩ := and_e v39
  obtain ⟨u41, v41⟩ := and_e v40
  obtain ⟨u42, v42⟩ := and_e v41
  obtain ⟨u43, v43⟩ := and_e v42
  obtain ⟨u44, v44⟩ := and_e v43
  obtain ⟨u45, v45⟩ := and_e v44
  obtain ⟨u46, v46⟩ := and_e v45
  obtain ⟨u47, v47⟩ := and_e v46
  obtain ⟨wF, evF⟩ := arr_v u0
  obtain ⟨cl, AF⟩ := Arr.start evF u0
  obtain ⟨hl1, hlen⟩ := own_len evF AF u1
  have hsz : cl.slots.size = 47 := own_size hl1 hlen
  have SF := Sta.start evF (Or.inr ⟨(hw _ (List.mem_of_getElem? (i := 56) rfl)), (hw _ (List.mem_of_getElem? (i := 59) rfl))⟩)
  have hat : ∀ i, i < 47 → cl.slots[i]? = some (.int (own_f i)) := own_all (own_elemI evF AF u2) (own_elemI evF AF u3) (own_elemI evF AF u4) (own_elemI evF AF u5) (own_elemI evF AF u6) (own_elemI evF AF u7) (own_elemI evF AF u8) (own_elemI evF AF u9) (own_elemI evF AF u10) (own_elemI evF AF u11) (own_elemI evF AF u12) (own_elemI evF AF u13) (own_elemI evF AF u14) (own_elemI evF AF u15) (own_elemI evF AF u16) (own_elemI evF AF u17) (own_elemI evF AF u18) (own_elemI evF AF u19) (own_elemI evF AF u20) (own_elemI evF AF u21) (own_elemI evF AF u22) (own_elemI evF AF u23) (own_elemI evF AF u24) (own_elemI evF AF u25) (own_elemI evF AF u26) (own_elemI evF AF u27) (own_elemI evF AF u28) (own_elemI evF AF u29) (own_elemI evF AF u30) (own_elemI evF AF u31) (own_elemI evF AF u32) (own_elemI evF AF u33) (own_elemI evF AF u34) (own_elemI evF AF u35) (own_elemI evF AF u36) (own_elemI evF AF u37) (own_elemI evF AF u38) (own_elemI evF AF u39) (own_elemI evF AF u40) (own_elemI evF AF u41) (own_elemI evF AF u42) (own_elemI evF AF u43) (own_elemI evF AF u44) (own_elemI evF AF u45) (own_elemI evF AF u46) (own_elemI evF AF u47) (own_elemI evF AF v47)
  obtain ⟨n, o, h1, h2, h3, _, L, rfl, ⟨rfl, N⟩, hq⟩ := rm0 l s _ hw tables_1 i0 i1 i2 wF cl own_f s.heap s.heap.size (Nat.le_refl _) rfl SF AF hsz hlen hat p e ha hc hk s m _ below hf ((Spec.applies_iff_loose hf).mp happ).1 ⟨rfl, State.Warmed39.refl s, rfl⟩ trivial
  exact ⟨n, _, h1, h2, h3, hpost _ _ _ _ _ _ ⟨Cond.after_iff.mpr rfl, Cond.after_iff.mpr (eq_i res_at (Term.int_eval (1)) rfl), trivial⟩ ⟨hq.1, hq.2.1, (hq.2.2.sift fun y hy => Or.inr (N y hy)).mono (by decide) (by decide)⟩⟩
theorem main_1_1 : Claimed_1_1 := comes_1 fun _ _ _ _ _ _ h hF => ⟨h.1, hF⟩
theorem main_1_2 : Claimed_1_2 := comes_1 fun _ _ _ _ _ _ h hF => ⟨h.2.1, hF⟩
end Jvm.Pilot.@@N@@
namespace Jvm.Pilot.@@N@@
open Jvm Jvm.ClassFile Sem Op Lib Jvm.Free Jvm.Stand Jvm.Pilot.@@N@@.Jvm.D
/-! MADE BY PROGRAM (witnessworld.py) out of the Statement's table words and the real class files: 12 classes; the members and pool entries that the words name. The judged class is class 1, her method 2. -/
namespace start1
open Jvm.ClassFile
def u (s : String) : CpInfo := .utf8 (stringToUtf16 s)
/-- a pool by its gaps: so many unusable entries, then the entry; so many at the end -/
def gap : Nat → List CpInfo → List CpInfo
  | 0, r => r
  | n + 1, r => .unusable :: gap n r
def poolList (es : List (Nat × CpInfo)) (last : Nat) : List CpInfo := es.foldr (fun e r => gap e.1 (e.2 :: r)) (gap last [])
def pool (es : List (Nat × CpInfo)) (last : Nat) : Array CpInfo := ⟨poolList es last⟩
def fileOf (pool : Array CpInfo) (this : Nat) (attrs : Array Attribute := #[]) (ms : Array MethodInfo := #[]) (fl : Nat := 33) (sup : Nat := 0) (ifs : Array Nat := #[]) (fds : Array FieldInfo := #[]) : ClassFile where
  minorVersion := 0
  majorVersion := 65
  constantPool := pool
  accessFlags := fl
  thisClass := this
  superClass := sup
  interfaces := ifs
  fields := fds
  methods := ms
  attributes := attrs
def plain (name : String) (sup : Option ClassId) : Class where
  name := name
  kind := .ordinary
  loader := none
  accessFlags := 33
  super := sup
  interfaces := #[]
  cf := none
  fields := #[]
  methods := #[]
  instanceTypes := #[]
  staticTypes := #[]
  resolved := #[]
  callSites := []
  init := .initialized
  statics := none
  mirror := none

def pool0 : Array CpInfo := pool [(5, u "<init>"), (0, u "()V"), (1, .class_ 10), (1, u "java/lang/Object")] 113

def k0m0 : Method := { name := "<init>", desc := "()V", sig := { parameters := [], returnType := none }, accessFlags := 1, code := none }
/-- java/lang/Object -/
def k0 : Class := { plain "java/lang/Object" none with
  accessFlags := 33
  interfaces := #[]
  cf := some (fileOf pool0 8 #[] #[{ accessFlags := 1, nameIndex := 5, descriptorIndex := 6, attributes := #[] }] 33 0 #[] #[])
  fields := #[]
  methods := #[k0m0]
  instanceTypes := #[]
  staticTypes := #[]
  resolved := Array.replicate 124 none
  statics := none }

def pool1 : Array CpInfo := pool [(2, .class_ 4), (1, u "java/lang/Object"), (0, u "<init>"), (0, u "()V"), (0, .long 2), (1, .long 3), (1, .long 5), (1, .long 8), (1, .long 13), (1, .long 21), (1, .long 34), (1, .long 55), (1, .long 89), (1, .long 144), (1, .long 233), (1, .long 377), (1, .long 610), (1, .long 987), (1, .long 1597), (1, .long 2584), (1, .long 4181), (1, .long 6765), (1, .long 10946), (1, .long 17711), (1, .long 28657), (1, .long 46368), (1, .long 75025), (1, .long 121393), (1, .long 196418), (1, .long 317811), (1, .long 514229), (1, .long 832040), (1, .long 1346269), (1, .long 2178309), (1, .long 3524578), (1, .long 5702887), (1, .long 9227465), (1, .long 14930352), (1, .long 24157817), (1, .long 39088169), (1, .long 63245986), (1, .long 102334155), (1, .long 165580141), (1, .long 267914296), (1, .long 433494437), (1, .long 701408733), (1, .long 1134903170), (1, .long 1836311903), (1, .methodref 96 97), (0, .class_ 98), (0, .nameAndType 99 100), (0, u "com/example/evenspace/evenspace/GoldenRatioCycleLengthAtLeastPinLaw"), (0, u "fib"), (0, u "()[J"), (0, .integer 2147483647), (0, .methodref 103 104), (0, .class_ 105), (0, .nameAndType 106 107), (0, u "java/lang/Math"), (0, u "min"), (0, u "(JJ)J"), (0, .long 1836311904), (1, .methodref 103 111), (0, .nameAndType 112 107), (0, u "max"), (0, .long 18446744073709551615), (3, .long 9223372036854775807), (1, .methodref 120 121), (0, .class_ 122), (0, .nameAndType 123 124), (0, u "com/example/evenspace/evenspace/GoldenRatioCycle"), (0, u "lengthAtLeast"), (0, u "(J)J"), (2, u "law"), (0, u "(JJI)Z")] 5

def k1m0 : Method := { name := "<init>", desc := "()V", sig := { parameters := [], returnType := none }, accessFlags := 1, code := none }
def k1c1 : Code := { maxStack := 5, maxLocals := 0, code := method_2_code, exceptionTable := #[], attributes := #[] }
def k1m1 : Method := { name := "fib", desc := "()[J", sig := { parameters := [], returnType := some (.array .long) }, accessFlags := 10, code := some k1c1 }
def k1c2 : Code := { maxStack := 6, maxLocals := 14, code := code, exceptionTable := #[], attributes := #[] }
def k1m2 : Method := { name := "law", desc := "(JJI)Z", sig := { parameters := [.long, .long, .int], returnType := some .boolean }, accessFlags := 9, code := some k1c2 }
/-- com/example/evenspace/evenspace/GoldenRatioCycleLengthAtLeastPinLaw -/
def k1 : Class := { plain "com/example/evenspace/evenspace/GoldenRatioCycleLengthAtLeastPinLaw" (some 0) with
  accessFlags := 49
  interfaces := #[]
  cf := some (fileOf pool1 96 #[] #[{ accessFlags := 1, nameIndex := 5, descriptorIndex := 6, attributes := #[] }, { accessFlags := 10, nameIndex := 99, descriptorIndex := 100, attributes := #[] }, { accessFlags := 9, nameIndex := 127, descriptorIndex := 128, attributes := #[] }] 49 2 #[] #[])
  fields := #[]
  methods := #[k1m0, k1m1, k1m2]
  instanceTypes := #[]
  staticTypes := #[]
  resolved := Array.replicate 134 none
  statics := none }

def pool2 : Array CpInfo := pool [(1, .class_ 2), (0, u "java/lang/Math"), (1, .class_ 6), (1, u "java/lang/Object"), (0, u "<init>"), (0, u "()V"), (89, .class_ 100), (1, u "java/lang/Math$RandomNumberGeneratorHolder"), (20, u "(JJ)J"), (50, u "negativeZeroFloatBits"), (0, u "J"), (2, u "negativeZeroDoubleBits"), (21, u "max"), (2, u "min"), (43, u "$assertionsDisabled"), (0, u "Z"), (91, u "twoToTheDoubleScaleDown"), (0, u "D"), (4, u "twoToTheDoubleScaleUp"), (9, u "E"), (3, u "PI"), (2, u "TAU"), (2, u "DEGREES_TO_RADIANS"), (0, u "RADIANS_TO_DEGREES")] 94

def k2m0 : Method := { name := "<init>", desc := "()V", sig := { parameters := [], returnType := none }, accessFlags := 2, code := none }
def k2c1 : Code := { maxStack := 4, maxLocals := 4, code := jdk_29_method_66_code, exceptionTable := #[], attributes := #[] }
def k2m1 : Method := { name := "max", desc := "(JJ)J", sig := { parameters := [.long, .long], returnType := some .long }, accessFlags := 9, code := some k2c1 }
def k2c2 : Code := { maxStack := 4, maxLocals := 4, code := jdk_29_method_70_code, exceptionTable := #[], attributes := #[] }
def k2m2 : Method := { name := "min", desc := "(JJ)J", sig := { parameters := [.long, .long], returnType := some .long }, accessFlags := 9, code := some k2c2 }
/-- java/lang/Math -/
def k2 : Class := { plain "java/lang/Math" (some 0) with
  accessFlags := 49
  interfaces := #[]
  cf := some (fileOf pool2 1 #[.nestMembers #[98]] #[{ accessFlags := 2, nameIndex := 7, descriptorIndex := 8, attributes := #[] }, { accessFlags := 9, nameIndex := 198, descriptorIndex := 121, attributes := #[] }, { accessFlags := 9, nameIndex := 201, descriptorIndex := 121, attributes := #[] }] 49 4 #[] #[{ accessFlags := 25, nameIndex := 354, descriptorIndex := 339, attributes := #[] }, { accessFlags := 25, nameIndex := 358, descriptorIndex := 339, attributes := #[] }, { accessFlags := 25, nameIndex := 361, descriptorIndex := 339, attributes := #[] }, { accessFlags := 26, nameIndex := 364, descriptorIndex := 339, attributes := #[] }, { accessFlags := 26, nameIndex := 365, descriptorIndex := 339, attributes := #[] }, { accessFlags := 26, nameIndex := 172, descriptorIndex := 173, attributes := #[] }, { accessFlags := 26, nameIndex := 176, descriptorIndex := 173, attributes := #[] }, { accessFlags := 8, nameIndex := 344, descriptorIndex := 339, attributes := #[] }, { accessFlags := 8, nameIndex := 338, descriptorIndex := 339, attributes := #[] }, { accessFlags := 4120, nameIndex := 245, descriptorIndex := 246, attributes := #[] }])
  fields := #[{ name := "E", type := .double, accessFlags := 25, slot := 0, constantValue := 0 }, { name := "PI", type := .double, accessFlags := 25, slot := 1, constantValue := 0 }, { name := "TAU", type := .double, accessFlags := 25, slot := 2, constantValue := 0 }, { name := "DEGREES_TO_RADIANS", type := .double, accessFlags := 26, slot := 3, constantValue := 0 }, { name := "RADIANS_TO_DEGREES", type := .double, accessFlags := 26, slot := 4, constantValue := 0 }, { name := "negativeZeroFloatBits", type := .long, accessFlags := 26, slot := 5, constantValue := 0 }, { name := "negativeZeroDoubleBits", type := .long, accessFlags := 26, slot := 6, constantValue := 0 }, { name := "twoToTheDoubleScaleUp", type := .double, accessFlags := 8, slot := 7, constantValue := 0 }, { name := "twoToTheDoubleScaleDown", type := .double, accessFlags := 8, slot := 8, constantValue := 0 }, { name := "$assertionsDisabled", type := .boolean, accessFlags := 4120, slot := 9, constantValue := 0 }]
  methods := #[k2m0, k2m1, k2m2]
  instanceTypes := #[]
  staticTypes := #[.double, .double, .double, .double, .double, .long, .long, .double, .double, .boolean]
  resolved := Array.replicate 460 none
  statics := none }

def pool3 : Array CpInfo := pool [(2, .class_ 4), (1, u "java/lang/Object"), (0, u "<init>"), (0, u "()V"), (1, .class_ 10), (1, u "com/example/evenspace/evenspace/GoldenRatioCycle"), (2, .fieldref 8 14), (0, .nameAndType 15 16), (0, u "FIBONACCI"), (0, u "[I"), (0, .long 18446744073709551615), (10, u "lengthAtLeast"), (0, u "(J)J")] 6

def k3m0 : Method := { name := "<init>", desc := "()V", sig := { parameters := [], returnType := none }, accessFlags := 2, code := none }
def k3c1 : Code := { maxStack := 4, maxLocals := 3, code := prog_27_method_3_code, exceptionTable := #[], attributes := #[] }
def k3m1 : Method := { name := "lengthAtLeast", desc := "(J)J", sig := { parameters := [.long], returnType := some .long }, accessFlags := 8, code := some k3c1 }
/-- com/example/evenspace/evenspace/GoldenRatioCycle -/
def k3 : Class := { plain "com/example/evenspace/evenspace/GoldenRatioCycle" (some 0) with
  accessFlags := 48
  interfaces := #[]
  cf := some (fileOf pool3 8 #[] #[{ accessFlags := 2, nameIndex := 5, descriptorIndex := 6, attributes := #[] }, { accessFlags := 8, nameIndex := 28, descriptorIndex := 29, attributes := #[] }] 48 2 #[] #[{ accessFlags := 26, nameIndex := 15, descriptorIndex := 16, attributes := #[] }])
  fields := #[{ name := "FIBONACCI", type := (.array .int), accessFlags := 26, slot := 0, constantValue := 0 }]
  methods := #[k3m0, k3m1]
  instanceTypes := #[]
  staticTypes := #[(.array .int)]
  resolved := Array.replicate 36 none
  statics := some 0 }

def pool4 : Array CpInfo := pool [(1, u "java/lang/Cloneable"), (0, .class_ 1), (0, u "java/lang/Object"), (0, .class_ 3)] 3

/-- java/lang/Cloneable -/
def k4 : Class := { plain "java/lang/Cloneable" (some 0) with
  accessFlags := 1537
  interfaces := #[]
  cf := some (fileOf pool4 2 #[] #[] 1537 4 #[] #[])
  fields := #[]
  methods := #[]
  instanceTypes := #[]
  staticTypes := #[]
  resolved := Array.replicate 8 none
  statics := none }

def pool5 : Array CpInfo := pool [(1, u "java/io/Serializable"), (0, .class_ 1), (0, u "java/lang/Object"), (0, .class_ 3)] 3

/-- java/io/Serializable -/
def k5 : Class := { plain "java/io/Serializable" (some 0) with
  accessFlags := 1537
  interfaces := #[]
  cf := some (fileOf pool5 2 #[] #[] 1537 4 #[] #[])
  fields := #[]
  methods := #[]
  instanceTypes := #[]
  staticTypes := #[]
  resolved := Array.replicate 8 none
  statics := none }

/-- the primitive byte -/
def k6 : Class := { plain "byte" none with kind := .primitive 'B', accessFlags := 0x411 }
/-- [B -/
def k7 : Class := { plain "[B" (some 0) with kind := .array 6 .byte, interfaces := #[4, 5], accessFlags := 1041 }

/-- the primitive int -/
def k8 : Class := { plain "int" none with kind := .primitive 'I', accessFlags := 0x411 }
/-- [I -/
def k9 : Class := { plain "[I" (some 0) with kind := .array 8 .int, interfaces := #[4, 5], accessFlags := 1041 }

/-- the primitive long -/
def k10 : Class := { plain "long" none with kind := .primitive 'J', accessFlags := 0x411 }
/-- [J -/
def k11 : Class := { plain "[J" (some 0) with kind := .array 10 .long, interfaces := #[4, 5], accessFlags := 1041 }

def heap : Heap := #[{ cls := 3, slots := #[.ref 1], vm := .statics 3 },
  { cls := 9, slots := #[.int 0, .int 1, .int 1, .int 2, .int 3, .int 5, .int 8, .int 13, .int 21, .int 34, .int 55, .int 89, .int 144, .int 233, .int 377, .int 610, .int 987, .int 1597, .int 2584, .int 4181, .int 6765, .int 10946, .int 17711, .int 28657, .int 46368, .int 75025, .int 121393, .int 196418, .int 317811, .int 514229, .int 832040, .int 1346269, .int 2178309, .int 3524578, .int 5702887, .int 9227465, .int 14930352, .int 24157817, .int 39088169, .int 63245986, .int 102334155, .int 165580141, .int 267914296, .int 433494437, .int 701408733, .int 1134903170, .int 1836311903], vm := .none }]
def classes : Array Class := #[k0, k1, k2, k3, k4, k5, k6, k7, k8, k9, k10, k11]
def interned : List (Array UInt16 × Addr) := []
def slotsUsed : Nat := 48
def theMethod : MethodId := ⟨1, 2⟩
def args0 : Array Value := #[.long 5, .long 3, .int 3]
def aboutOver (below : List Frame) : State where
  vm := { classes := classes, interned := interned.toArray }
  heap := heap
  slotsUsed := slotsUsed
  threads := #[{ frames := .invoking theMethod args0 :: below }]
def below0 : List Frame := [.native { method := ⟨0, 0⟩, args := #[] }]
def about1 : State := aboutOver below0
def p0 : Program := .bare "" "" ""
def e0 : Env := launch0.env 0 0 0
theorem w_frames : about1.frames = Frame.invoking theMethod args0 :: below0 := rfl
set_option maxRecDepth 65536 in
theorem w_args : argsFit about1.vm theMethod args0 = true := by decide +kernel
set_option maxRecDepth 65536 in
theorem w_heap : heapFits about1 = true := by decide +kernel
set_option maxRecDepth 65536 in
theorem w_runnable : about1.curStatus? = some .runnable := by decide +kernel
set_option maxRecDepth 65536 in
theorem w_alone : about1.alone = true := by decide +kernel
set_option maxRecDepth 65536 in
theorem w_named : about1.methodNamed? x = some theMethod := by decide +kernel
set_option maxRecDepth 65536 in
theorem w_hears : about1.hears theMethod below0 = true := by decide +kernel
set_option maxRecDepth 65536 in
theorem w_ripe : about1.ripe theMethod args0 below0 = true := by decide +kernel
theorem w_running : about1.status = .running := rfl
set_option maxRecDepth 65536 in
theorem w_room : about1.hasRoom e0.platform room_1 = true :=
  launch0.hasRoom_least _ room_1 (by decide +kernel) (by decide +kernel) (by decide +kernel) (by decide +kernel) (by decide +kernel) (by decide +kernel)
theorem allAtoms_all (ts : List Jvm.Cond) (a : Array Jvm.Value) (st : Jvm.State) : (allAtoms ts).before a st = ts.all (fun c => c.before a st) := by
  induction ts with
  | nil => rfl
  | cons c t ih =>
    show (Jvm.Cond.and c (allAtoms t)).before a st = _
    rw [Jvm.Cond.before_and, ih, List.all_cons]
def words1 : List Jvm.Cond := Jvm.Cond.code x code maxLocals ret :: tables_1
/-- a 'code' word, met by the world's own term for the bytes: nothing is compared byte by byte -/
theorem code_word {y : MethodName} {bytes : ByteArray} {mx : Nat} {rt : Option FieldType} {a : Array Value} {s : State} {m : MethodId} {meth : Method} {c : Code} (h1 : s.methodNamed? y = some m) (h2 : s.vm.method? m = some meth) (h3 : meth.code = some c) (h4 : c.code = bytes)
    (h5 : (c.maxLocals == mx && c.exceptionTable.isEmpty && decide (c.maxStack ≤ mostOperands) && decide (meth.sig.returnType = rt) && !meth.locks && decide (parseMethodDescriptor y.desc = some meth.sig)) = true) : (Jvm.Cond.code y bytes mx rt).before a s = true := by
  simp only [Bool.and_eq_true, beq_iff_eq, Bool.not_eq_true', decide_eq_true_eq] at h5
  obtain ⟨⟨⟨⟨⟨g1, g2⟩, g3⟩, g4⟩, g5⟩, g6⟩ := h5
  simp [Cond.before, Cond.holds, Cond.value, h1, h2, h3, h4, g1, g2, g3, g4, g5, g6]
def isCode : Jvm.Cond → Bool
  | .code _ _ _ _ => true
  | _ => false
theorem all_split {L : List Jvm.Cond} {P : Jvm.Cond → Bool} (h1 : L.all (fun c => isCode c || P c) = true) (h2 : ∀ c ∈ L.filter isCode, P c = true) : L.all P = true := by
  refine List.all_eq_true.mpr fun c hc => ?_
  have h := List.all_eq_true.mp h1 c hc
  rcases Bool.eq_false_or_eq_true (isCode c) with hi | hi
  · exact h2 c (List.mem_filter.mpr ⟨hc, hi⟩)
  · simpa [hi] using h
set_option maxRecDepth 65536 in
theorem w_c0 : (Jvm.Cond.code x code maxLocals ret).before args0 about1 = true := code_word (m := ⟨1, 2⟩) (meth := k1m2) (c := k1c2) (by decide +kernel) rfl rfl rfl (by decide +kernel)
set_option maxRecDepth 65536 in
theorem w_c1 : (Jvm.Cond.code ({ cls := "com/example/evenspace/evenspace/GoldenRatioCycleLengthAtLeastPinLaw", name := "fib", desc := "()[J" } : Jvm.MethodName) method_2_code (0 : Nat) (Option.some (Jvm.ClassFile.FieldType.array Jvm.ClassFile.FieldType.long))).before args0 about1 = true := code_word (m := ⟨1, 1⟩) (meth := k1m1) (c := k1c1) (by decide +kernel) rfl rfl rfl (by decide +kernel)
set_option maxRecDepth 65536 in
theorem w_c2 : (Jvm.Cond.code ({ cls := "java/lang/Math", name := "min", desc := "(JJ)J" } : Jvm.MethodName) jdk_29_method_70_code (4 : Nat) (Option.some Jvm.ClassFile.FieldType.long)).before args0 about1 = true := code_word (m := ⟨2, 2⟩) (meth := k2m2) (c := k2c2) (by decide +kernel) rfl rfl rfl (by decide +kernel)
set_option maxRecDepth 65536 in
theorem w_c3 : (Jvm.Cond.code ({ cls := "com/example/evenspace/evenspace/GoldenRatioCycle", name := "lengthAtLeast", desc := "(J)J" } : Jvm.MethodName) prog_27_method_3_code (3 : Nat) (Option.some Jvm.ClassFile.FieldType.long)).before args0 about1 = true := code_word (m := ⟨3, 1⟩) (meth := k3m1) (c := k3c1) (by decide +kernel) rfl rfl rfl (by decide +kernel)
set_option maxRecDepth 65536 in
theorem w_c4 : (Jvm.Cond.code ({ cls := "java/lang/Math", name := "max", desc := "(JJ)J" } : Jvm.MethodName) jdk_29_method_66_code (4 : Nat) (Option.some Jvm.ClassFile.FieldType.long)).before args0 about1 = true := code_word (m := ⟨2, 1⟩) (meth := k2m1) (c := k2c1) (by decide +kernel) rfl rfl rfl (by decide +kernel)
def codes1 : List Jvm.Cond := [Jvm.Cond.code x code maxLocals ret, Jvm.Cond.code ({ cls := "com/example/evenspace/evenspace/GoldenRatioCycleLengthAtLeastPinLaw", name := "fib", desc := "()[J" } : Jvm.MethodName) method_2_code (0 : Nat) (Option.some (Jvm.ClassFile.FieldType.array Jvm.ClassFile.FieldType.long)), Jvm.Cond.code ({ cls := "java/lang/Math", name := "min", desc := "(JJ)J" } : Jvm.MethodName) jdk_29_method_70_code (4 : Nat) (Option.some Jvm.ClassFile.FieldType.long), Jvm.Cond.code ({ cls := "com/example/evenspace/evenspace/GoldenRatioCycle", name := "lengthAtLeast", desc := "(J)J" } : Jvm.MethodName) prog_27_method_3_code (3 : Nat) (Option.some Jvm.ClassFile.FieldType.long), Jvm.Cond.code ({ cls := "java/lang/Math", name := "max", desc := "(JJ)J" } : Jvm.MethodName) jdk_29_method_66_code (4 : Nat) (Option.some Jvm.ClassFile.FieldType.long)]
set_option maxRecDepth 65536 in
theorem codes_eq : words1.filter isCode = codes1 := rfl
theorem w_codes : ∀ c ∈ words1.filter isCode, c.before args0 about1 = true := by
  rw [codes_eq]
  intro c hc
  simp only [codes1, List.mem_cons, List.not_mem_nil, or_false] at hc
  rcases hc with rfl | rfl | rfl | rfl | rfl
  · exact w_c0
  · exact w_c1
  · exact w_c2
  · exact w_c3
  · exact w_c4
set_option maxRecDepth 65536 in
theorem w_t1 : (words1.take 24).all (fun c => isCode c || c.before args0 about1) = true := by decide +kernel
set_option maxRecDepth 65536 in
theorem w_t2 : ((words1.drop 24).take 24).all (fun c => isCode c || c.before args0 about1) = true := by decide +kernel
set_option maxRecDepth 65536 in
theorem w_t3 : ((words1.drop 24).drop 24).all (fun c => isCode c || c.before args0 about1) = true := by decide +kernel
theorem w_tables : (allAtoms (Jvm.Cond.code x code maxLocals ret :: tables_1)).before args0 about1 = true := by
  rw [allAtoms_all]
  show words1.all (fun c => c.before args0 about1) = true
  refine all_split ?_ w_codes
  rw [← List.take_append_drop 24 words1, List.all_append, w_t1, ← List.take_append_drop 24 (words1.drop 24), List.all_append, w_t2, w_t3]
  rfl
set_option maxRecDepth 65536 in
theorem w_case : (Jvm.Cond.and given_1 narrow_1).before args0 about1 = true := by decide +kernel
theorem w_applies : (headSpec (Jvm.Cond.code x code maxLocals ret :: tables_1) room_1).applies x e0.platform about1 = true :=
  (Spec.applies_iff w_frames).mpr ⟨w_running, w_runnable, w_alone, w_named, w_hears, w_ripe, w_room, w_tables⟩
theorem atStart : AtStart classFile x code maxLocals ret World_1 tables_1 room_1 Calls_1 rest_1 Pre_1 launch0 p0 e0 about1 theMethod args0 below0 :=
  ⟨lists_1, trivial, launch0.admits_env _ _ _, launch0.least_env, fairChoices_fair.cas, fairChoices_fair.clock, w_frames, w_args, w_heap, w_applies, trivial, trivial, w_case⟩
end start1
theorem witness_1 : WitnessClaimed_1 := ⟨start1.p0, start1.e0, start1.about1, start1.theMethod, start1.args0, start1.below0, start1.atStart⟩
end Jvm.Pilot.@@N@@
