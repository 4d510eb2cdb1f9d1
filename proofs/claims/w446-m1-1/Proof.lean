import JvmDerived
import JvmDerived.Pilot.@@N@@Statement
import JvmDerived.Pilot.@@N@@Code
set_option linter.unusedVariables false
set_option linter.unusedSimpArgs false
namespace Jvm.OwnKit
open Sem ClassFile Op Lib Jvm.Stand Jvm.Free Jvm.LawKit Jvm.RoadKit
section New
variable {p : Program} {l : Launch} {e : Env} {R : Room} {s : State} {m : MethodId} {args : Array Value} {below : List Frame} {meth : Method} {c : Code} {T T' : State} {locs : List Loc} {cells slots : Nat} {g g' : JFrame} {F : Outcome → State → Prop}
/-- from here the body runs to its end, and F says what is there -/
def Go (p : Program) (e : Env) (below : List Frame) (T : State) (g : JFrame) (F : Outcome → State → Prop) : Prop :=
  ∃ s₂ o, Steps p.tables e below (T.setTop g) s₂ ∧ s₂.status = .running ∧ Ended s₂ below o ∧ F o s₂
theorem Go.step (st : ∀ t, Steps p.tables e below (T'.setTop g') t → Steps p.tables e below (T.setTop g) t) (k : Go p e below T' g' F) : Go p e below T g F := by
  obtain ⟨a, o, h1, h2⟩ := k
  exact ⟨a, o, st _ h1, h2⟩
theorem Go.call (st : Steps p.tables e below (T.setTop g) (T'.setTop g')) (k : Go p e below T' g' F) : Go p e below T g F := by
  obtain ⟨a, o, h1, h2⟩ := k
  exact ⟨a, o, st.trans h1, h2⟩
abbrev Fin (s : State) (Q : Option Value → Heap → List Loc → Prop) (C S : Nat) : Outcome → State → Prop := fun o U' => ∃ v L, o = .returned v ∧ Q v U'.heap L ∧ FrameEnd s o U' L C S
variable {Q : Option Value → Heap → List Loc → Prop} {C S : Nat}
theorem Go.ret0 (X : Stand p l e R s m args below meth c T locs cells slots) (hx : p.tables.exec = Jvm.exec) {pc : Nat} {Ls : Array Slot} (hret : meth.sig.returnType = none) (hlk : meth.locks = false) (hd : decode c.code pc = .ok (.return_, 1))
    (hQ : Q none T.heap locs) (h1 : cells ≤ C) (h2 : slots ≤ S) : Go p e below T (mkF m pc Ls []) (Fin s Q C S) := by
  obtain ⟨fs, hr, hrun, hended, hW, hsame⟩ := X.leave (v := none) (fun _ => rfl) hlk
  exact ⟨_, _, X.returnOut hx hret hd hr, hrun, hended, _, _, rfl, hQ, ⟨_, rfl⟩, hW, hsame.mono h1 h2⟩
theorem Go.retI (X : Stand p l e R s m args below meth c T locs cells slots) (hx : p.tables.exec = Jvm.exec) {pc : Nat} {Ls : Array Slot} {z : Int32} {rest : List Value} (hret : meth.sig.returnType = some .int) (hlk : meth.locks = false) (hd : decode c.code pc = .ok (.ireturn, 1))
    (hQ : Q (some (.int z)) T.heap locs) (h1 : cells ≤ C) (h2 : slots ≤ S) : Go p e below T (mkF m pc Ls (.int z :: rest)) (Fin s Q C S) := by
  obtain ⟨fs, hr, hrun, hended, hW, hsame⟩ := X.leave (v := some (.int z)) (fun h => by rw [hret] at h; cases h) hlk
  exact ⟨_, _, retOut X hx hret rfl (Or.inl ⟨rfl, Or.inl rfl, _, rfl⟩) hd hr, hrun, hended, _, _, rfl, hQ, ⟨_, rfl⟩, hW, hsame.mono h1 h2⟩
theorem Go.retL (X : Stand p l e R s m args below meth c T locs cells slots) (hx : p.tables.exec = Jvm.exec) {pc : Nat} {Ls : Array Slot} {z : Int64} {rest : List Value} (hret : meth.sig.returnType = some .long) (hlk : meth.locks = false) (hd : decode c.code pc = .ok (.lreturn, 1))
    (hQ : Q (some (.long z)) T.heap locs) (h1 : cells ≤ C) (h2 : slots ≤ S) : Go p e below T (mkF m pc Ls (.long z :: rest)) (Fin s Q C S) := by
  obtain ⟨fs, hr, hrun, hended, hW, hsame⟩ := X.leave (v := some (.long z)) (fun h => by rw [hret] at h; cases h) hlk
  exact ⟨_, _, retOut X hx hret rfl (Or.inr (Or.inl ⟨rfl, rfl, _, rfl⟩)) hd hr, hrun, hended, _, _, rfl, hQ, ⟨_, rfl⟩, hW, hsame.mono h1 h2⟩
theorem Go.retA (X : Stand p l e R s m args below meth c T locs cells slots) (hx : p.tables.exec = Jvm.exec) {pc : Nat} {Ls : Array Slot} {w : Value} {t : FieldType} {rest : List Value} (hret : meth.sig.returnType = some t) (ht : t.isReference = true) (hv : w.isRef = true) (hlk : meth.locks = false) (hd : decode c.code pc = .ok (.areturn, 1))
    (hQ : Q (some w) T.heap locs) (h1 : cells ≤ C) (h2 : slots ≤ S) : Go p e below T (mkF m pc Ls (w :: rest)) (Fin s Q C S) := by
  obtain ⟨fs, hr, hrun, hended, hW, hsame⟩ := X.leave (v := some w) (fun h => by rw [hret] at h; cases h) hlk
  have hn : narrow t w = w := by cases w <;> cases t <;> simp_all [narrow, Value.isRef, FieldType.isReference]
  exact ⟨_, _, retOut X hx hret hn (Or.inr (Or.inr (Or.inr (Or.inr ⟨rfl, ht, hv⟩)))) hd hr, hrun, hended, _, _, rfl, hQ, ⟨_, rfl⟩, hW, hsame.mono h1 h2⟩
theorem Go.retN {t : FieldType} (X : Stand p l e R s m args below meth c T locs cells slots) (hx : p.tables.exec = Jvm.exec) {pc : Nat} {Ls : Array Slot} {z z' : Int32} {rest : List Value} (hret : meth.sig.returnType = some t) (ht : t = .boolean ∨ t = .byte ∨ t = .char ∨ t = .short) (hlk : meth.locks = false) (hd : decode c.code pc = .ok (.ireturn, 1))
    (hz : nar t z = z') (hQ : Q (some (.int z')) T.heap locs) (h1 : cells ≤ C) (h2 : slots ≤ S) : Go p e below T (mkF m pc Ls (.int z :: rest)) (Fin s Q C S) := by
  subst hz
  obtain ⟨fs, hr, hrun, hended, hW, hsame⟩ := X.leave (v := some (.int (nar t z))) (fun h => by rw [hret] at h; cases h) hlk
  exact ⟨_, _, Jvm.RoadKit.retN X hx hret ht hd hr, hrun, hended, _, _, rfl, hQ, ⟨_, rfl⟩, hW, hsame.mono h1 h2⟩
theorem own_fitsRef {t : FieldType} {v : Value} (ht : t.isReference = true) (h : v.isRef = true) : fits t v = true := by cases t <;> cases v <;> simp_all [fits, Value.isRef, FieldType.isReference]
theorem own_narrowRef {t : FieldType} {v : Value} (ht : t.isReference = true) (h : v.isRef = true) : narrow t v = v := by cases v <;> cases t <;> simp_all [narrow, Value.isRef, FieldType.isReference]
theorem own_staKeep {Z : State} {h h' : Heap} {C n d : String} {v : Value} {ws : List Addr} (F : Sta Z h C n d v) (K : Keep h h' ws) (q : ∀ x ∈ ws, ∀ cell : Cell, h[x]? = some cell → cell.vm.isStatics = false) : Sta Z h' C n d v := by
  obtain ⟨cf, i, k, f, st, cell, h1, h2, h3, h4, h5, h6, h7⟩ := F
  exact ⟨cf, i, k, f, st, cell, h1, h2, h3, h4, K.2.1 st cell h5 (fun m => by rw [q st m cell h5] at h6; cases h6), h6, h7⟩
theorem own_arrKeep {Z : State} {h h' : Heap} {a : Addr} {cl : Cell} {ty : FieldType} {ws : List Addr} (F : Arr Z h a cl ty) (K : Keep h h' ws) (q : a ∉ ws) : Arr Z h' a cl ty := ⟨K.2.1 a cl F.1 q, F.2⟩
theorem own_plainE {Z : State} {h : Heap} {a : Addr} {C : String} (E : Exa Z h a C) : ∀ cell : Cell, h[a]? = some cell → cell.vm.isStatics = false := fun cell hc => by
  obtain ⟨c2, k, h1, -, -, h4, -⟩ := E
  cases hc.symm.trans h1
  exact h4
theorem own_plainV {Z : State} {h : Heap} {a : Addr} {k : ClassId} {ty : FieldType} {z : Int32} {vs : List Value} {dv : Value} (V : Arv Z h a k ty z vs dv) : ∀ cell : Cell, h[a]? = some cell → cell.vm.isStatics = false := fun cell hc => by
  obtain ⟨c2, A, -⟩ := V
  cases hc.symm.trans A.1
  exact A.plain
end New
end Jvm.OwnKit

namespace Jvm.OwnKit
open Sem ClassFile Op Lib Jvm.Stand Jvm.Free Jvm.LawKit Jvm.RoadKit
def bitAt (x : Int64) (b : Nat) : Bool := x.toBitVec.toNat.testBit b
theorem own_ofNatB {P : Nat} (h : P < 2 ^ 31) : (Int32.ofNat P).toBitVec.toNat = P := by
  show (BitVec.ofNat 32 P).toNat = P
  rw [BitVec.toNat_ofNat]; omega
theorem own_toInt {P : Nat} (h : P < 2 ^ 31) : (Int32.ofNat P).toInt = P := len_toInt h
theorem own_clamp {i : Nat} (h : i < 2 ^ 31) : (Int32.ofNat i).toNatClampNeg = i := by
  have h1 := own_toInt h
  show (Int32.ofNat i).toInt.toNat = i
  omega
theorem own_ltI {i n : Nat} (hi : i < 2 ^ 31) (hn : n < 2 ^ 31) : Int32.ofNat i < Int32.ofNat n ↔ i < n := by
  rw [Int32.lt_iff_toInt_lt, own_toInt hi, own_toInt hn]; omega
theorem own_inj {i n : Nat} (hi : i < 2 ^ 31) (hn : n < 2 ^ 31) : Int32.ofNat i = Int32.ofNat n ↔ i = n := by
  rw [← Int32.toInt_inj, own_toInt hi, own_toInt hn]; omega
theorem own_nn {i : Nat} (hi : i < 2 ^ 31) : ¬ Int32.ofNat i < 0 := by
  rw [Int32.lt_iff_toInt_lt, own_toInt hi]; have : (0 : Int32).toInt = 0 := by decide
  omega
theorem own_nn' {i : Nat} (hi : i < 2 ^ 31) : ¬ Int32.ofNat i < (0 : Int32) := own_nn hi
theorem own_add (k c : Nat) : Int32.ofNat k + Int32.ofNat c = Int32.ofNat (k + c) := (Int32.ofNat_add k c).symm
theorem own_sub (k c : Nat) : Int32.ofNat (k + c) - Int32.ofNat c = Int32.ofNat k := by rw [Int32.ofNat_add, Int32.add_sub_cancel]
theorem own_in {i n : Nat} {cl : Cell} (hs : cl.slots.size = n) (hi : i < n) (hn : n < 2 ^ 31) : ¬ (Int32.ofNat i < 0 ∨ cl.slots.size ≤ (Int32.ofNat i).toNatClampNeg) := by
  rw [hs]; exact idx_in hi hn
theorem own_div64 {n : Nat} (h : n < 2 ^ 30) : (Int32.ofNat n + (63 : Int32)) / (64 : Int32) = Int32.ofNat ((n + 63) / 64) := by
  rw [show Int32.ofNat n + (63 : Int32) = Int32.ofNat (n + 63) from own_add n 63]
  apply Int32.toInt_inj.mp
  have h1 := (c_idiv (Int32.ofNat (n + 63)) 64 64 (by decide) (by decide)).1 (by rw [own_toInt (by omega)]; omega)
  rw [h1, own_toInt (by omega), own_toInt (by omega)]; omega
theorem own_shr6 {n : Nat} (h : n < 2 ^ 31) : ((Int32.ofNat n).toUInt32 >>> ((6 : Int32) &&& 31).toUInt32).toInt32 = Int32.ofNat (n / 64) := by
  apply Int32.toInt_inj.mp
  have h1 := c_iushr (Int32.ofNat n) 6 6 (by decide) (by decide)
  rw [h1, own_toInt h, own_toInt (by omega)]
  show ((n : Int) % 4294967296) / ((2 ^ 6 : Nat) : Int) = _
  rw [show ((2 ^ 6 : Nat) : Int) = 64 from rfl]
  omega
theorem own_shl6 {n : Nat} (h : n < 2 ^ 24) : (Int32.ofNat n) <<< ((6 : Int32) &&& 31) = Int32.ofNat (64 * n) := by
  apply Int32.toInt_inj.mp
  have h1 := c_ishl (Int32.ofNat n) 6 6 (by decide)
  have h2 := rng32 ((Int32.ofNat n) <<< ((6 : Int32) &&& 31))
  rw [own_toInt (by omega)] at h1
  rw [own_toInt (by omega)]
  rw [show ((2 ^ 6 : Nat) : Int) = 64 from rfl] at h1
  omega
theorem own_and63 {n : Nat} (h : n < 2 ^ 31) : Int32.ofNat n &&& (63 : Int32) = Int32.ofNat (n % 64) := by
  apply Int32.toInt_inj.mp
  rw [c_mask (Int32.ofNat n) 63 6 (by decide) (by decide), own_toInt h, own_toInt (by omega)]
  show (n : Int) % ((2 ^ 6 : Nat) : Int) = _
  rw [show ((2 ^ 6 : Nat) : Int) = 64 from rfl]
  omega
theorem own_63 {n : Nat} (h : n < 64) : (63 : Int32) - Int32.ofNat n = Int32.ofNat (63 - n) := by
  rw [show (63 : Int32) = Int32.ofNat ((63 - n) + n) from by rw [show 63 - n + n = 63 from by omega]; rfl]
  exact own_sub _ _
theorem own_shlB (x : Int64) (q : Int32) (k : Nat) (hk : q.toBitVec.toNat % 64 = k) : (x <<< (q &&& 0x3f).toInt64).toBitVec = x.toBitVec <<< k := by
  show (x.toBitVec <<< ((q &&& 0x3f).toInt64.toBitVec.smod 64)) = _
  rw [BitVec.shiftLeft_eq', (sm64 q k hk).1, smod64 k (sm64 q k hk).2]
theorem own_ushrB (x : Int64) (q : Int32) (k : Nat) (hk : q.toBitVec.toNat % 64 = k) : ((x.toUInt64 >>> (q &&& 0x3f).toInt64.toUInt64).toInt64).toBitVec.toNat = x.toBitVec.toNat / 2 ^ k := by
  have h5 := (sm64 q k hk).2
  show (x.toBitVec >>> ((q &&& 0x3f).toInt64.toBitVec % 64)).toNat = x.toBitVec.toNat / 2 ^ k
  rw [BitVec.ushiftRight_eq', BitVec.toNat_ushiftRight, Nat.shiftRight_eq_div_pow, BitVec.toNat_umod, (sm64 q k hk).1, BitVec.toNat_ofNat]; congr 2; show k % 2 ^ 64 % 64 = k; omega
/-- the bit of a position -/
theorem own_one {P : Nat} (h : P < 2 ^ 31) (b : Nat) (hb : b < 64) : bitAt ((1 : Int64) <<< (Int32.ofNat P &&& 0x3f).toInt64) b = decide (b = P % 64) := by
  unfold bitAt
  rw [own_shlB 1 (Int32.ofNat P) (P % 64) (by rw [own_ofNatB h])]
  rw [show (BitVec.toNat ((1 : Int64).toBitVec <<< (P % 64))).testBit b = ((1 : Int64).toBitVec <<< (P % 64)).getLsbD b from rfl, BitVec.getLsbD_shiftLeft]
  have e1 : ∀ i, (1 : Int64).toBitVec.getLsbD i = decide (i = 0) := fun i => by
    show (BitVec.ofNat 64 1).getLsbD i = _
    rw [BitVec.getLsbD_ofNat]
    by_cases hi : i = 0
    · subst hi; decide
    · simp only [hi, decide_false, Bool.and_eq_false_imp]
      intro _
      rw [Nat.testBit_eq_decide_div_mod_eq]
      have : 1 / 2 ^ i = 0 := Nat.div_eq_of_lt (Nat.one_lt_two_pow hi)
      simp [this]
  rw [e1]
  by_cases h1 : b < P % 64
  · have : ¬ b = P % 64 := by omega
    simp [h1, this, hb]
  · have : (b - P % 64 = 0) ↔ (b = P % 64) := by omega
    simp [h1, hb, this]
theorem own_orb (x y : Int64) (b : Nat) : bitAt (x ||| y) b = (bitAt x b || bitAt y b) := by
  unfold bitAt
  show (x.toBitVec ||| y.toBitVec).toNat.testBit b = _
  rw [BitVec.toNat_or, Nat.testBit_or]
theorem own_andb (x y : Int64) (b : Nat) : bitAt (x &&& y) b = (bitAt x b && bitAt y b) := by
  unfold bitAt
  show (x.toBitVec &&& y.toBitVec).toNat.testBit b = _
  rw [BitVec.toNat_and, Nat.testBit_and]
theorem own_notb (x : Int64) (b : Nat) (hb : b < 64) : bitAt (x ^^^ (-1)) b = !(bitAt x b) := by
  unfold bitAt
  show (x.toBitVec ^^^ (-1 : Int64).toBitVec).toNat.testBit b = _
  rw [BitVec.toNat_xor, Nat.testBit_xor]
  have : (-1 : Int64).toBitVec.toNat.testBit b = true := by
    rw [show (-1 : Int64).toBitVec.toNat = 2 ^ 64 - 1 from by decide, Nat.testBit_two_pow_sub_one]; simp [hb]
  rw [this, Bool.xor_true]
/-- the mask up to a position -/
theorem own_mask {P : Nat} (h : P < 64) (b : Nat) (hb : b < 64) : bitAt (((-1 : Int64).toUInt64 >>> (Int32.ofNat (63 - P) &&& 0x3f).toInt64.toUInt64).toInt64) b = decide (b ≤ P) := by
  unfold bitAt
  rw [own_ushrB (-1) (Int32.ofNat (63 - P)) (63 - P) (by rw [own_ofNatB (by omega)]; omega), show (-1 : Int64).toBitVec.toNat = 2 ^ 64 - 1 from by decide, ← Nat.shiftRight_eq_div_pow, Nat.testBit_shiftRight, Nat.testBit_two_pow_sub_one]
  by_cases q : b ≤ P
  · simp [q]; omega
  · simp [q]; omega
theorem own_zero (x : Int64) : x = 0 ↔ ∀ b, b < 64 → bitAt x b = false := by
  constructor
  · rintro rfl b _
    unfold bitAt
    rw [show (0 : Int64).toBitVec.toNat = 0 from by decide]; exact Nat.zero_testBit b
  · intro h
    apply Int64.toBitVec_inj.mp
    apply BitVec.eq_of_getLsbD_eq
    intro i hi
    have := h i hi
    unfold bitAt at this
    rw [show x.toBitVec.getLsbD i = x.toBitVec.toNat.testBit i from rfl, this]
    exact (BitVec.getLsbD_zero).symm
def Top (x : Int64) (t : Nat) : Prop := t < 64 ∧ bitAt x t = true ∧ ∀ b, t < b → b < 64 → bitAt x b = false
theorem own_topOf {x : Int64} {t : Nat} (h : t < 64) (h1 : 2 ^ t ≤ x.toBitVec.toNat) (h2 : x.toBitVec.toNat < 2 ^ (t + 1)) : Top x t := by
  refine ⟨h, ?_, fun b b1 b2 => ?_⟩
  · unfold bitAt
    rw [Nat.testBit_eq_decide_div_mod_eq]
    have : x.toBitVec.toNat / 2 ^ t = 1 := by
      apply Nat.div_eq_of_lt_le
      · omega
      · rw [Nat.pow_succ] at h2; omega
    simp [this]
  · unfold bitAt
    exact Nat.testBit_lt_two_pow (Nat.lt_of_lt_of_le h2 (Nat.pow_le_pow_right (by decide) b1))
open Jvm.Free.BdW in
theorem own_ush {x : Int32} {n : Nat} (k : Int32) (kk : Nat) (hk : k.toBitVec.toNat % 32 = kk) (h0 : 0 < kk) (hx : x = Int32.ofNat n) (hn : n < 2 ^ 31) : ush x k = Int32.ofNat (n / 2 ^ kk) := by
  subst hx
  unfold ush
  apply Int32.toInt_inj.mp
  rw [c_iushr _ k kk hk h0, own_toInt hn, own_toInt (Nat.lt_of_le_of_lt (Nat.div_le_self _ _) hn)]
  rw [show (n : Int) % 4294967296 = n from by omega]
  exact (Int.natCast_ediv _ _).symm
open Jvm.Free.BdW in
theorem own_blk (lim sh dn : Int32) (k e : Nat) (L : Nat) (hk : sh.toBitVec.toNat % 32 = k) (h0 : 0 < k) (hdn : dn = Int32.ofInt (-(k : Int))) (hL : lim = Int32.ofNat L) (hL2 : L < 2 ^ 31) {y : Nat} (hy : y < 2 ^ 31) (he : e + k ≤ 31) :
    blk lim sh dn (Int32.ofNat y, Int32.ofNat (31 - e)) = if y < L then (Int32.ofNat y, Int32.ofNat (31 - e)) else (Int32.ofNat (y / 2 ^ k), Int32.ofNat (31 - (e + k))) := by
  unfold blk
  subst hL hdn
  by_cases q : y < L
  · rw [if_pos q, if_pos ((own_ltI hy hL2).mpr q)]
  · rw [if_neg q, if_neg (fun z => q ((own_ltI hy hL2).mp z))]
    refine Prod.ext (own_ush sh k hk h0 rfl hy) ?_
    show Int32.ofNat (31 - e) + Int32.ofInt (-(k : Int)) = _
    apply Int32.toInt_inj.mp
    have a := c_iadd (Int32.ofNat (31 - e)) (Int32.ofInt (-(k : Int)))
    have b := rng32 (Int32.ofNat (31 - e) + Int32.ofInt (-(k : Int)))
    rw [own_toInt (by omega), Int32.toInt_ofInt_of_le (by omega) (by omega)] at a
    rw [own_toInt (by omega)]
    omega
open Jvm.Free.BdW in
theorem own_nlz32 {x : Nat} (h0 : 0 < x) (h1 : x < 2 ^ 31) : ∃ t, t < 31 ∧ nlz32 (Int32.ofNat x) = Int32.ofNat (31 - t) ∧ 2 ^ t ≤ x ∧ x < 2 ^ (t + 1) := by
  have hp : (Int32.ofNat x) > 0 := by
    show (0 : Int32) < Int32.ofNat x
    rw [Int32.lt_iff_toInt_lt, own_toInt h1]; have : (0 : Int32).toInt = 0 := by decide
    omega
  have fin : ∀ (y e : Nat), 0 < y → y < 4 → e ≤ 30 → y = x / 2 ^ e → nlz32 (Int32.ofNat x) = Int32.ofNat (31 - e) - ush (Int32.ofNat y) 1 → ∃ t, t < 31 ∧ nlz32 (Int32.ofNat x) = Int32.ofNat (31 - t) ∧ 2 ^ t ≤ x ∧ x < 2 ^ (t + 1) := by
    intro y e y0 y4 he hy hn
    rw [own_ush 1 1 (by decide) (by decide) rfl (by omega)] at hn
    have d1 := Nat.div_add_mod x (2 ^ e)
    have d2 := Nat.mod_lt x (Nat.two_pow_pos e)
    rw [← hy] at d1
    by_cases q : y = 1
    · subst q
      refine ⟨e, by omega, ?_, by omega, by rw [Nat.pow_succ]; omega⟩
      rw [hn]
      apply Int32.toInt_inj.mp
      have a := c_isub (Int32.ofNat (31 - e)) (Int32.ofNat (1 / 2 ^ 1)); have b := rng32 (Int32.ofNat (31 - e) - Int32.ofNat (1 / 2 ^ 1))
      rw [own_toInt (by omega), own_toInt (by omega)] at a
      rw [own_toInt (by omega)]; omega
    · have q1 : y / 2 ^ 1 = 1 := by omega
      rw [q1] at hn
      have d3 : 2 ^ e * 2 ≤ 2 ^ e * y := Nat.mul_le_mul_left _ (by omega)
      have d4 : 2 ^ e * y ≤ 2 ^ e * 3 := Nat.mul_le_mul_left _ (by omega)
      have d5 : 2 ^ (e + 1) < 2 ^ 31 := by rw [Nat.pow_succ]; omega
      have d6 : e + 1 < 31 := (Nat.pow_lt_pow_iff_right (by decide)).mp d5
      refine ⟨e + 1, d6, ?_, by rw [Nat.pow_succ]; omega, by rw [Nat.pow_succ, Nat.pow_succ]; omega⟩
      rw [hn]
      apply Int32.toInt_inj.mp
      have a := c_isub (Int32.ofNat (31 - e)) (Int32.ofNat 1); have b := rng32 (Int32.ofNat (31 - e) - Int32.ofNat 1)
      rw [own_toInt (by omega), own_toInt (by omega)] at a
      rw [own_toInt (by omega)]; omega
  have e0 : nlz32 (Int32.ofNat x) = (blk 4 2 (-2) (blk 16 4 (-4) (blk 256 8 (-8) (blk 65536 16 (-16) (Int32.ofNat x, 31))))).2 - ush (blk 4 2 (-2) (blk 16 4 (-4) (blk 256 8 (-8) (blk 65536 16 (-16) (Int32.ofNat x, 31))))).1 1 := by
    show (if Int32.ofNat x > 0 then _ else _) = _
    rw [if_pos hp]
  have b1 := own_blk 65536 16 (-16) 16 0 65536 (by decide) (by decide) (by decide) (by decide) (by decide) h1 (by decide)
  rw [show Int32.ofNat (31 - 0) = 31 from rfl] at b1
  rw [b1] at e0
  have s1 : ∀ (y e : Nat), y < 65536 → 0 < y → e ≤ 16 → y = x / 2 ^ e → nlz32 (Int32.ofNat x) = (blk 4 2 (-2) (blk 16 4 (-4) (blk 256 8 (-8) (Int32.ofNat y, Int32.ofNat (31 - e))))).2 - ush (blk 4 2 (-2) (blk 16 4 (-4) (blk 256 8 (-8) (Int32.ofNat y, Int32.ofNat (31 - e))))).1 1 → ∃ t, t < 31 ∧ nlz32 (Int32.ofNat x) = Int32.ofNat (31 - t) ∧ 2 ^ t ≤ x ∧ x < 2 ^ (t + 1) := by
    intro y e y1 y0 he hy hn
    rw [own_blk 256 8 (-8) 8 e 256 (by decide) (by decide) (by decide) (by decide) (by decide) (by omega) (by omega)] at hn
    have s2 : ∀ (y e : Nat), y < 256 → 0 < y → e ≤ 24 → y = x / 2 ^ e → nlz32 (Int32.ofNat x) = (blk 4 2 (-2) (blk 16 4 (-4) (Int32.ofNat y, Int32.ofNat (31 - e)))).2 - ush (blk 4 2 (-2) (blk 16 4 (-4) (Int32.ofNat y, Int32.ofNat (31 - e)))).1 1 → ∃ t, t < 31 ∧ nlz32 (Int32.ofNat x) = Int32.ofNat (31 - t) ∧ 2 ^ t ≤ x ∧ x < 2 ^ (t + 1) := by
      intro y e y1 y0 he hy hn
      have he2 : e ≤ 24 := he
      rw [own_blk 16 4 (-4) 4 e 16 (by decide) (by decide) (by decide) (by decide) (by decide) (by omega) (by omega)] at hn
      have s3 : ∀ (y e : Nat), y < 16 → 0 < y → e ≤ 28 → y = x / 2 ^ e → nlz32 (Int32.ofNat x) = (blk 4 2 (-2) (Int32.ofNat y, Int32.ofNat (31 - e))).2 - ush (blk 4 2 (-2) (Int32.ofNat y, Int32.ofNat (31 - e))).1 1 → ∃ t, t < 31 ∧ nlz32 (Int32.ofNat x) = Int32.ofNat (31 - t) ∧ 2 ^ t ≤ x ∧ x < 2 ^ (t + 1) := by
        intro y e y1 y0 he hy hn
        rw [own_blk 4 2 (-2) 2 e 4 (by decide) (by decide) (by decide) (by decide) (by decide) (by omega) (by omega)] at hn
        by_cases q : y < 4
        · rw [if_pos q] at hn; exact fin y e y0 q (by omega) hy hn
        · rw [if_neg q] at hn
          have z1 : y / 2 ^ 2 = x / 2 ^ (e + 2) := by rw [hy, Nat.div_div_eq_div_mul, ← Nat.pow_add]
          have z2 : e + 2 ≤ 30 := by omega
          exact fin (y / 2 ^ 2) (e + 2) (by omega) (by omega) z2 z1 hn
      by_cases q : y < 16
      · rw [if_pos q] at hn; exact s3 y e q y0 (by omega) hy hn
      · rw [if_neg q] at hn
        exact s3 (y / 2 ^ 4) (e + 4) (by omega) (by omega) (by omega) (by rw [hy, Nat.div_div_eq_div_mul, ← Nat.pow_add]) hn
    by_cases q : y < 256
    · rw [if_pos q] at hn; exact s2 y e q y0 (by omega) hy hn
    · rw [if_neg q] at hn
      exact s2 (y / 2 ^ 8) (e + 8) (by omega) (by omega) (by omega) (by rw [hy, Nat.div_div_eq_div_mul, ← Nat.pow_add]) hn
  by_cases q : x < 65536
  · rw [if_pos q] at e0; exact s1 x 0 q h0 (by decide) (by simp) e0
  · rw [if_neg q] at e0
    exact s1 (x / 2 ^ 16) 16 (by omega) (by omega) (by decide) rfl e0
end Jvm.OwnKit

namespace Jvm.OwnKit
open Sem ClassFile Op Lib Jvm.Stand Jvm.Free Jvm.LawKit Jvm.RoadKit
open Jvm.Free.BdW in
theorem own_hi (v : Int64) : ∃ n : Nat, n = v.toBitVec.toNat / 2 ^ 32 ∧ (hi32 v).toBitVec.toNat = n := by
  refine ⟨_, rfl, ?_⟩
  unfold hi32
  have h := own_ushrB v 32 32 (by decide)
  show ((((v.toUInt64 >>> ((32 : Int32) &&& 0x3f).toInt64.toUInt64).toInt64)).toInt32).toBitVec.toNat = _
  rw [Int64.toBitVec_toInt32, BitVec.signExtend_eq_setWidth_of_le _ (by decide), BitVec.toNat_setWidth, h]
  have := v.toBitVec.isLt
  omega
theorem own_i32 (x : Int32) (h : x.toBitVec.toNat < 2 ^ 31) : x = Int32.ofNat x.toBitVec.toNat := by
  apply Int32.toBitVec_inj.mp
  apply BitVec.eq_of_toNat_eq
  rw [own_ofNatB h]
open Jvm.Free.BdW in
theorem own_nlzNeg (x : Int32) (h : 2 ^ 31 ≤ x.toBitVec.toNat) : nlz32 x = 0 := by
  have hx : x.toInt < 0 := by
    show x.toBitVec.toInt < 0
    rw [BitVec.toInt_eq_toNat_cond]
    have := x.toBitVec.isLt
    split <;> omega
  have h1 : ¬ (x > 0) := by
    show ¬ (0 : Int32) < x
    rw [Int32.lt_iff_toInt_lt]; have : (0 : Int32).toInt = 0 := by decide
    omega
  have h2 : ¬ (x = 0) := fun q => by subst q; exact absurd h (by decide)
  show (if x > 0 then _ else if x = 0 then 32 else 0) = (0 : Int32)
  rw [if_neg h1, if_neg h2]
open Jvm.Free.BdW in
theorem own_nlzAny (x : Int32) (h : 0 < x.toBitVec.toNat) : ∃ t, t < 32 ∧ nlz32 x = Int32.ofNat (31 - t) ∧ 2 ^ t ≤ x.toBitVec.toNat ∧ x.toBitVec.toNat < 2 ^ (t + 1) := by
  by_cases q : x.toBitVec.toNat < 2 ^ 31
  · obtain ⟨t, t1, t2, t3, t4⟩ := own_nlz32 h q
    rw [← own_i32 x q] at t2
    exact ⟨t, by omega, t2, t3, t4⟩
  · refine ⟨31, by decide, own_nlzNeg x (by omega), by omega, x.toBitVec.isLt⟩
open Jvm.Free.BdW in
theorem own_top (v : Int64) (hv : v ≠ 0) : ∃ t, (63 : Int32) - nlz64 v = Int32.ofNat t ∧ Top v t := by
  obtain ⟨n, hn, hh⟩ := own_hi v
  have hlt := v.toBitVec.isLt
  have sub : ∀ t, t < 64 → (63 : Int32) - Int32.ofNat (63 - t) = Int32.ofNat t := fun t ht => by
    rw [own_63 (by omega)]; congr 1; omega
  by_cases q : hi32 v = 0
  · have n0 : n = 0 := by rw [← hh, q]; decide
    have lo : v.toBitVec.toNat < 2 ^ 32 := by omega
    have lv : v.toInt32.toBitVec.toNat = v.toBitVec.toNat := by
      rw [Int64.toBitVec_toInt32, BitVec.signExtend_eq_setWidth_of_le _ (by decide), BitVec.toNat_setWidth]; omega
    have nz : 0 < v.toBitVec.toNat := Nat.pos_of_ne_zero fun z => hv (Int64.toBitVec_inj.mp (BitVec.eq_of_toNat_eq (by rw [z]; decide)))
    obtain ⟨t, t1, t2, t3, t4⟩ := own_nlzAny v.toInt32 (by rw [lv]; exact nz)
    rw [lv] at t3 t4
    refine ⟨t, ?_, own_topOf (by omega) t3 t4⟩
    show (63 : Int32) - (if hi32 v = 0 then 32 + nlz32 v.toInt32 else nlz32 (hi32 v)) = _
    rw [if_pos q, t2, show (32 : Int32) + Int32.ofNat (31 - t) = Int32.ofNat (63 - t) from by rw [show (63 - t) = 32 + (31 - t) from by omega]; exact own_add 32 (31 - t)]
    exact sub t (by omega)
  · have nz : 0 < (hi32 v).toBitVec.toNat := Nat.pos_of_ne_zero fun z => q (Int32.toBitVec_inj.mp (BitVec.eq_of_toNat_eq (by rw [z]; decide)))
    obtain ⟨t, t1, t2, t3, t4⟩ := own_nlzAny (hi32 v) nz
    rw [hh, hn] at t3 t4
    have e1 : 2 ^ (t + 32) = 2 ^ t * 2 ^ 32 := Nat.pow_add _ _ _
    have e2 : 2 ^ (t + 32 + 1) = 2 ^ (t + 1) * 2 ^ 32 := by rw [show t + 32 + 1 = (t + 1) + 32 from by omega]; exact Nat.pow_add _ _ _
    refine ⟨t + 32, ?_, own_topOf (by omega) ?_ ?_⟩
    · show (63 : Int32) - (if hi32 v = 0 then 32 + nlz32 v.toInt32 else nlz32 (hi32 v)) = _
      rw [if_neg q, t2, show 31 - t = 63 - (t + 32) from by omega]
      exact sub (t + 32) (by omega)
    · rw [e1]; exact (Nat.le_div_iff_mul_le (by decide)).mp t3
    · rw [e2]; exact (Nat.div_lt_iff_lt_mul (by decide)).mp t4
/-- arrays by functions -/
def Af (Z : State) (h : Heap) (a : Addr) (n : Nat) (f : Nat → Int64) : Prop := ∃ cl : Cell, Arr Z h a cl .long ∧ cl.slots.size = n ∧ ∀ i, i < n → cl.slots[i]? = some (.long (f i))
def Ag (Z : State) (h : Heap) (a : Addr) (n : Nat) (g : Nat → Addr) : Prop := ∃ cl : Cell, Arr Z h a cl (.array .long) ∧ cl.slots.size = n ∧ ∀ i, i < n → cl.slots[i]? = some (.ref (g i))
section Fun
variable {Z : State} {h h' : Heap} {a b : Addr} {n j sl : Nat} {f : Nat → Int64} {g : Nat → Addr} {v : Value} {x : Int64}
theorem Af.other (F : Af Z h a n f) (W : Wr h h' b sl v) (q : a ≠ b) : Af Z h' a n f := by obtain ⟨c, A, r⟩ := F; exact ⟨c, A.other W q, r⟩
theorem Ag.other (F : Ag Z h a n g) (W : Wr h h' b sl v) (q : a ≠ b) : Ag Z h' a n g := by obtain ⟨c, A, r⟩ := F; exact ⟨c, A.other W q, r⟩
theorem Af.ext (F : Af Z h a n f) (E : Ext h h') : Af Z h' a n f := by obtain ⟨c, A, r⟩ := F; exact ⟨c, A.ext E, r⟩
theorem Ag.ext (F : Ag Z h a n g) (E : Ext h h') : Ag Z h' a n g := by obtain ⟨c, A, r⟩ := F; exact ⟨c, A.ext E, r⟩
theorem Af.set (F : Af Z h a n f) (W : Wr h h' a j (.long x)) (hj : j < n) : Af Z h' a n (fun i => if i = j then x else f i) := by
  obtain ⟨c, A, s1, s2⟩ := F
  refine ⟨_, A.same W, by rw [sz_set]; exact s1, fun i hi => ?_⟩
  show _ = some (Value.long (if i = j then x else f i))
  by_cases q : i = j
  · subst q
    rw [if_pos rfl]
    simp [Cell.setSlot, s1, hi]
  · rw [if_neg q, ← s2 i hi]
    simp [Cell.setSlot, Array.getElem?_setIfInBounds, Ne.symm q]
end Fun
def PS : String := "com/example/maxhue/maxhue/PointSet"
def Tree (Z : State) (h : Heap) (n0 : Nat) (a A : Addr) (m : Nat) (lv : Nat → Addr) (sz : Nat → Nat) (f : Nat → Nat → Int64) : Prop :=
  Exa Z h a PS ∧ Fld Z h a PS "levels" "[[J" (.ref A) ∧ Ag Z h A m lv ∧ (∀ k, k < m → Af Z h (lv k) (sz k) (f k)) ∧ (∀ k, k < m → n0 ≤ lv k ∧ a ≠ lv k ∧ A ≠ lv k) ∧ (∀ i j, i < m → j < m → i ≠ j → lv i ≠ lv j)
theorem Tree.set {Z : State} {h h' : Heap} {n0 : Nat} {a A : Addr} {m : Nat} {lv : Nat → Addr} {sz : Nat → Nat} {f : Nat → Nat → Int64} (F : Tree Z h n0 a A m lv sz f) {k j : Nat} {x : Int64} (hk : k < m) (hj : j < sz k) (W : Wr h h' (lv k) j (.long x)) : Tree Z h' n0 a A m lv sz (fun k' i => if k' = k ∧ i = j then x else f k' i) := by
  obtain ⟨E, L, G, H, N, D⟩ := F
  refine ⟨E.wr W, L.other W (Or.inl (N k hk).2.1), G.other W (N k hk).2.2, fun k' hk' => ?_, N, D⟩
  by_cases q : k' = k
  · subst q
    have := (H k' hk').set W hj
    simpa using this
  · have := (H k' hk').other W (D k' k hk' hk q)
    simpa [q] using this
/-- the sizes of the levels -/
def szN (N : Nat) : Nat → Nat
  | 0 => (N + 63) / 64
  | k + 1 => (szN N k + 63) / 64
theorem own_szLt {N q : Nat} (h : q < N) : ∀ k, q / 64 ^ k / 64 < szN N k
  | 0 => by simp only [szN, Nat.pow_zero, Nat.div_one]; omega
  | k + 1 => by
    have := own_szLt h k
    simp only [szN]
    rw [Nat.pow_succ, ← Nat.div_div_eq_div_mul]
    omega
theorem own_szLe {N : Nat} : ∀ k, szN N k ≤ N + 1
  | 0 => by simp only [szN]; omega
  | k + 1 => by have := own_szLe (N := N) k; simp only [szN]; omega
/-- which points the words stand for: level k's word i has bit b iff some point q has q / 64 ^ k = 64 i + b -/
def RepAt (sz : Nat → Nat) (f : Nat → Nat → Int64) (S : Nat → Prop) (k : Nat) : Prop := ∀ i, i < sz k → ∀ b, b < 64 → (bitAt (f k i) b = true ↔ ∃ q, S q ∧ q / 64 ^ k = 64 * i + b)
def Rep (m : Nat) (sz : Nat → Nat) (f : Nat → Nat → Int64) (S : Nat → Prop) : Prop := ∀ k, k < m → RepAt sz f S k
theorem own_split {p P : Nat} (h : P = p) (i b : Nat) (hb : b < 64) : p = 64 * i + b ↔ (i = P / 64 ∧ b = P % 64) := by subst h; omega
theorem own_up (q k : Nat) : q / 64 ^ (k + 1) = q / 64 ^ k / 64 := by rw [Nat.pow_succ, ← Nat.div_div_eq_div_mul]
theorem own_same {p q k : Nat} (h : q / 64 ^ k = p / 64 ^ k) : ∀ d, q / 64 ^ (k + d) = p / 64 ^ (k + d) := fun d => by
  rw [Nat.pow_add, ← Nat.div_div_eq_div_mul, ← Nat.div_div_eq_div_mul, h]
/-- one turn of add: level k gains p's bit -/
theorem own_addTurn {sz : Nat → Nat} {f : Nat → Nat → Int64} {S : Nat → Prop} {p k : Nat} (hp : p / 64 ^ k < 2 ^ 31) (hS : RepAt sz f S k) :
    RepAt sz (fun k' i => if k' = k ∧ i = p / 64 ^ k / 64 then f k (p / 64 ^ k / 64) ||| (1 : Int64) <<< (Int32.ofNat (p / 64 ^ k) &&& 0x3f).toInt64 else f k' i) (fun q => S q ∨ q = p) k := by
  intro i hi b hb
  have old := hS i hi b hb
  by_cases q : i = p / 64 ^ k / 64
  · subst q
    simp only [and_self, if_true]
    rw [own_orb, own_one hp b hb, Bool.or_eq_true, old, decide_eq_true_iff]
    constructor
    · rintro (⟨q, h1, h2⟩ | h)
      · exact ⟨q, Or.inl h1, h2⟩
      · exact ⟨p, Or.inr rfl, by omega⟩
    · rintro ⟨q, h1 | rfl, h2⟩
      · exact Or.inl ⟨q, h1, h2⟩
      · exact Or.inr (by omega)
  · simp only [q, and_false, if_false]
    rw [old]
    constructor
    · rintro ⟨z, h1, h2⟩; exact ⟨z, Or.inl h1, h2⟩
    · rintro ⟨z, h1 | rfl, h2⟩
      · exact ⟨z, h1, h2⟩
      · exact absurd (show i = z / 64 ^ k / 64 by omega) q
theorem own_other {sz : Nat → Nat} {f : Nat → Nat → Int64} {S : Nat → Prop} {k j i0 : Nat} {x : Int64} (h : RepAt sz f S j) (q : j ≠ k) : RepAt sz (fun k' i => if k' = k ∧ i = i0 then x else f k' i) S j := by
  intro i hi b hb
  simp only [q, false_and, if_false]
  exact h i hi b hb
/-- above a level that had a point beside p already nothing changes -/
theorem own_above {sz : Nat → Nat} {f : Nat → Nat → Int64} {S : Nat → Prop} {p k j : Nat} (q0 : ∃ q, S q ∧ q / 64 ^ (k + 1) = p / 64 ^ (k + 1)) (hj : k < j) (h : RepAt sz f S j) : RepAt sz f (fun q => S q ∨ q = p) j := by
  intro i hi b hb
  rw [h i hi b hb]
  obtain ⟨q, h1, h2⟩ := q0
  have h3 := own_same h2 (j - (k + 1))
  rw [show k + 1 + (j - (k + 1)) = j from by omega] at h3
  constructor
  · rintro ⟨z, z1, z2⟩; exact ⟨z, Or.inl z1, z2⟩
  · rintro ⟨z, z1 | rfl, z2⟩
    · exact ⟨z, z1, z2⟩
    · exact ⟨q, h1, by rw [h3]; exact z2⟩
theorem own_word {sz : Nat → Nat} {f : Nat → Nat → Int64} {S : Nat → Prop} {k i : Nat} (h : RepAt sz f S k) (hi : i < sz k) : (¬ f k i = 0) ↔ ∃ q, S q ∧ q / 64 ^ (k + 1) = i := by
  rw [own_zero]
  constructor
  · intro z
    have : ∃ b, b < 64 ∧ bitAt (f k i) b = true := by
      refine Classical.byContradiction fun no => z fun b hb => ?_
      cases e : bitAt (f k i) b
      · rfl
      · exact absurd ⟨b, hb, e⟩ no
    obtain ⟨b, hb, e⟩ := this
    obtain ⟨q, q1, q2⟩ := (h i hi b hb).mp e
    exact ⟨q, q1, by rw [own_up]; omega⟩
  · rintro ⟨q, q1, q2⟩ z
    rw [own_up] at q2
    have := (h i hi (q / 64 ^ k % 64) (by omega)).mpr ⟨q, q1, by omega⟩
    rw [z _ (by omega)] at this
    cases this
/-- one turn of remove: level k loses r's bit, where nothing else of S stands at it -/
theorem own_remTurn {sz : Nat → Nat} {f : Nat → Nat → Int64} {S : Nat → Prop} {r k : Nat} (hr : r / 64 ^ k < 2 ^ 31) (hS : RepAt sz f S k) (hno : ∀ q, S q → q ≠ r → q / 64 ^ k ≠ r / 64 ^ k) :
    RepAt sz (fun k' i => if k' = k ∧ i = r / 64 ^ k / 64 then f k (r / 64 ^ k / 64) &&& (((1 : Int64) <<< (Int32.ofNat (r / 64 ^ k) &&& 0x3f).toInt64) ^^^ (-1)) else f k' i) (fun q => S q ∧ q ≠ r) k := by
  intro i hi b hb
  have old := hS i hi b hb
  by_cases q : i = r / 64 ^ k / 64
  · subst q
    simp only [and_self, if_true]
    rw [own_andb, own_notb _ b hb, own_one hr b hb, Bool.and_eq_true, old, Bool.not_eq_true', decide_eq_false_iff_not]
    constructor
    · rintro ⟨⟨q, h1, h2⟩, h⟩
      exact ⟨q, ⟨h1, fun e => by subst e; omega⟩, h2⟩
    · rintro ⟨q, ⟨h1, h2⟩, h3⟩
      refine ⟨⟨q, h1, h3⟩, fun e => hno q h1 h2 (by omega)⟩
  · simp only [q, and_false, if_false]
    rw [old]
    constructor
    · rintro ⟨z, h1, h2⟩; exact ⟨z, ⟨h1, fun e => by subst e; exact q (by omega)⟩, h2⟩
    · rintro ⟨z, ⟨h1, _⟩, h2⟩; exact ⟨z, h1, h2⟩
theorem own_remAbove {sz : Nat → Nat} {f : Nat → Nat → Int64} {S : Nat → Prop} {r k j : Nat} (q0 : ∃ q, (S q ∧ q ≠ r) ∧ q / 64 ^ (k + 1) = r / 64 ^ (k + 1)) (hj : k < j) (h : RepAt sz f S j) : RepAt sz f (fun q => S q ∧ q ≠ r) j := by
  intro i hi b hb
  rw [h i hi b hb]
  obtain ⟨q, h1, h2⟩ := q0
  have h3 := own_same h2 (j - (k + 1))
  rw [show k + 1 + (j - (k + 1)) = j from by omega] at h3
  constructor
  · rintro ⟨z, z1, z2⟩
    by_cases e : z = r
    · subst e; exact ⟨q, h1, by rw [h3]; exact z2⟩
    · exact ⟨z, ⟨z1, e⟩, z2⟩
  · rintro ⟨z, ⟨z1, _⟩, z2⟩; exact ⟨z, z1, z2⟩
/-- the greatest point below x -/
def Best (S : Nat → Prop) (x : Nat) (r : Int32) : Prop := (r = -1 ∧ ∀ q, S q → ¬ q < x) ∨ ∃ t, S t ∧ t < x ∧ r = Int32.ofNat t ∧ ∀ q, S q → q < x → q ≤ t
theorem Best.unique {S : Nat → Prop} {x : Nat} {r r' : Int32} (h : Best S x r) (h' : Best S x r') : r = r' := by
  rcases h with ⟨rfl, a⟩ | ⟨t, t1, t2, rfl, t4⟩ <;> rcases h' with ⟨rfl, b⟩ | ⟨u, u1, u2, rfl, u4⟩
  · rfl
  · exact absurd u2 (a u u1)
  · exact absurd t2 (b t t1)
  · rw [show t = u from Nat.le_antisymm (u4 t t1 t2) (t4 u u1 u2)]
/-- a word whose bits up to the position hold something: the greatest of S's places up to it -/
theorem own_found {sz : Nat → Nat} {f : Nat → Nat → Int64} {S : Nat → Prop} {k P t : Nat} (hS : RepAt sz f S k) (hi : P / 64 < sz k) {y : Int64} (hy : ∀ b, b < 64 → bitAt y b = decide (b ≤ P % 64)) (ht : Top (f k (P / 64) &&& y) t) :
    (∃ q, S q ∧ q / 64 ^ k = 64 * (P / 64) + t) ∧ 64 * (P / 64) + t ≤ P ∧ ∀ q, S q → q / 64 ^ k ≤ P → q / 64 ^ k ≤ 64 * (P / 64) + t := by
  obtain ⟨t1, t2, t3⟩ := ht
  rw [own_andb, Bool.and_eq_true, hy t t1, decide_eq_true_iff] at t2
  refine ⟨(hS _ hi t t1).mp t2.1, by omega, fun q q1 q2 => ?_⟩
  refine Classical.byContradiction fun no => ?_
  have e : q / 64 ^ k = 64 * (P / 64) + q / 64 ^ k % 64 := by omega
  have b1 := (hS _ hi (q / 64 ^ k % 64) (by omega)).mpr ⟨q, q1, e⟩
  have b2 := t3 (q / 64 ^ k % 64) (by omega) (by omega)
  rw [own_andb, b1, hy _ (by omega)] at b2
  simp at b2
  omega
theorem own_empty {sz : Nat → Nat} {f : Nat → Nat → Int64} {S : Nat → Prop} {k P : Nat} (hS : RepAt sz f S k) (hi : P / 64 < sz k) {y : Int64} (hy : ∀ b, b < 64 → bitAt y b = decide (b ≤ P % 64)) (hz : f k (P / 64) &&& y = 0) : ∀ q, S q → (q / 64 ^ k ≤ P ↔ q / 64 ^ (k + 1) < P / 64) := by
  intro q q1
  rw [own_up]
  constructor
  · intro q2
    refine Classical.byContradiction fun no => ?_
    have e : q / 64 ^ k = 64 * (P / 64) + q / 64 ^ k % 64 := by omega
    have b1 := (hS _ hi (q / 64 ^ k % 64) (by omega)).mpr ⟨q, q1, e⟩
    have b2 := (own_zero _).mp hz (q / 64 ^ k % 64) (by omega)
    rw [own_andb, b1, hy _ (by omega)] at b2
    simp at b2
    omega
  · intro; omega
theorem own_down {sz : Nat → Nat} {f : Nat → Nat → Int64} {S : Nat → Prop} {k i t : Nat} (hS : RepAt sz f S k) (hi : i < sz k) (ht : Top (f k i) t) :
    (∃ q, S q ∧ q / 64 ^ k = 64 * i + t) ∧ ∀ q, S q → q / 64 ^ (k + 1) ≤ i → q / 64 ^ k ≤ 64 * i + t := by
  obtain ⟨t1, t2, t3⟩ := ht
  refine ⟨(hS _ hi t t1).mp t2, fun q q1 q2 => ?_⟩
  rw [own_up] at q2
  refine Classical.byContradiction fun no => ?_
  have e : q / 64 ^ k = 64 * i + q / 64 ^ k % 64 := by omega
  have b1 := (hS _ hi (q / 64 ^ k % 64) (by omega)).mpr ⟨q, q1, e⟩
  rw [t3 (q / 64 ^ k % 64) (by omega) (by omega)] at b1
  cases b1
end Jvm.OwnKit

namespace Jvm.OwnKit
open Sem ClassFile Op Lib Jvm.Stand Jvm.Free Jvm.LawKit Jvm.RoadKit
def own_mx (a b : Int32) : Int32 := if a < b then b else a
def Two (s t : Slot) : Prop := (s = .unset ∧ t = .unset) ∨ ∃ y, s = .val (.long y) ∧ t = .second
theorem own_os5 {s0 s1 s2 s3 s4 s5 s6 : Slot} {v : Int64} (h : Two s5 s6) : storeLocals #[s0, s1, s2, s3, s4, s5, s6] 5 (.long v) = some #[s0, s1, s2, s3, s4, .val (.long v), .second] := by
  rcases h with ⟨rfl, rfl⟩ | ⟨y, rfl, rfl⟩ <;> rfl
theorem own_dec (x : Int32) : x + (-1 : Int32) = x - 1 := (Int32.sub_eq_add_neg x 1).symm
theorem own_mod {x : Int32} {n : Nat} (h0 : 0 < n) (h1 : n < 2 ^ 31) : ∃ P, P < n ∧ (x &&& (2147483647 : Int32)) % Int32.ofNat n = Int32.ofNat P := by
  have a := c_and x 2147483647 (by decide)
  have b := (c_iremV (x &&& 2147483647) (Int32.ofNat n)).1 a.1 (by rw [own_toInt h1]; omega)
  rw [own_toInt h1] at b
  refine ⟨((x &&& 2147483647) % Int32.ofNat n).toInt.toNat, by omega, ?_⟩
  apply Int32.toInt_inj.mp
  rw [own_toInt (by omega)]; omega
theorem own_nz {n : Nat} (h0 : 0 < n) (h1 : n < 2 ^ 31) : Int32.ofNat n ≠ 0 := fun q => by
  have := congrArg Int32.toInt q
  rw [own_toInt h1] at this
  have z : (0 : Int32).toInt = 0 := by decide
  omega
theorem own_cnt (x m : Int32) (k : Nat) (hk : k ≤ 30) (hm : m.toBitVec.toNat = 2 ^ k - 1) : ∃ N, 1 ≤ N ∧ N ≤ 2 ^ k ∧ (1 : Int32) + (x &&& m) = Int32.ofNat N := by
  have a := c_mask x m k (by omega) hm
  have p : 2 ^ k ≤ 2 ^ 30 := Nat.pow_le_pow_right (by decide) hk
  have q0 : 0 < 2 ^ k := Nat.two_pow_pos k
  have b := Int.emod_nonneg x.toInt (show ((2 ^ k : Nat) : Int) ≠ 0 by omega)
  have c := Int.emod_lt_of_pos x.toInt (show (0 : Int) < ((2 ^ k : Nat) : Int) by omega)
  rw [← a] at b c
  refine ⟨1 + (x &&& m).toInt.toNat, by omega, by omega, ?_⟩
  apply Int32.toInt_inj.mp
  have d := c_iadd 1 (x &&& m)
  have r := rng32 (1 + (x &&& m))
  rw [show (1 : Int32).toInt = 1 from by decide] at d
  rw [own_toInt (by omega)]
  omega
theorem own_mx1 {s : Nat} (h : 1 ≤ s) (h1 : s < 2 ^ 31) : Int32.ofNat s = own_mx 1 (Int32.ofNat s) := by
  unfold own_mx
  by_cases q : (1 : Int32) < Int32.ofNat s
  · rw [if_pos q]
  · rw [if_neg q]
    have : ¬ 1 < s := fun z => q ((own_ltI (i := 1) (by decide) h1).mpr z)
    obtain rfl : s = 1 := by omega
    rfl
theorem Af.lt {Z : State} {h : Heap} {a : Addr} {n : Nat} {f : Nat → Int64} (F : Af Z h a n f) : a < h.size := by obtain ⟨c, A, -⟩ := F; exact A.lt
theorem Af.new {Z : State} {h : Heap} {a : Addr} {k : ClassId} {n : Nat} (A : Arr Z h a (newA k .long (Int32.ofNat n)) .long) (hn : n < 2 ^ 31) : Af Z h a n (fun _ => 0) := by
  refine ⟨_, A, by rw [sz_new]; exact own_clamp hn, fun i hi => ?_⟩
  have q : (newA k .long (Int32.ofNat n)).slots.size = n := by rw [sz_new]; exact own_clamp hn
  show (Array.replicate _ (defaultValue .long))[i]? = _
  rw [own_clamp hn, Array.getElem?_replicate, if_pos hi]
  rfl
theorem own_rep0 {M : Nat} {sz : Nat → Nat} : Rep M sz (fun _ _ => 0) (fun _ => False) := by
  intro k hk i hi b hb
  constructor
  · intro q
    rw [(own_zero 0).mp rfl b hb] at q
    cases q
  · rintro ⟨q, z, -⟩
    exact z.elim
theorem own_pt {N q : Nat} (h : q < N) (M : Nat) : ∀ k, k < M → q / 64 ^ k / 64 < szN N k := fun k _ => own_szLt h k
theorem own_m1 : (Int32.ofNat 0 - 1 : Int32) < (0 : Int32) := by decide
end Jvm.OwnKit

namespace Jvm.OwnKit
def own_st (r p q : Int32) : Int32 := if p < q then own_mx r p else r
def own_refI (q p1 p2 p3 : Int32) : Int32 := own_st (own_st (own_st (-1) p1 q) p2 q) p3 q
theorem own_mxm {P : Nat} (h : P < 2 ^ 31) : own_mx (-1) (Int32.ofNat P) = Int32.ofNat P := by
  unfold own_mx
  rw [if_pos]
  rw [Int32.lt_iff_toInt_lt, own_toInt h, show (-1 : Int32).toInt = -1 from by decide]; omega
theorem own_mxx {a b : Nat} (ha : a < 2 ^ 31) (hb : b < 2 ^ 31) : own_mx (Int32.ofNat a) (Int32.ofNat b) = Int32.ofNat (if a < b then b else a) := by
  unfold own_mx
  by_cases q : a < b
  · rw [if_pos q, if_pos ((own_ltI ha hb).mpr q)]
  · rw [if_neg q, if_neg (fun z => q ((own_ltI ha hb).mp z))]
theorem own_stBest {S : Nat → Prop} {x P : Nat} {r : Int32} (hx : x < 2 ^ 31) (hP : P < 2 ^ 31) (h : Best S x r) : Best (fun q => S q ∨ q = P) x (own_st r (Int32.ofNat P) (Int32.ofNat x)) := by
  unfold own_st
  by_cases q : P < x
  · rw [if_pos ((own_ltI hP hx).mpr q)]
    rcases h with ⟨rfl, a⟩ | ⟨t, t1, t2, rfl, t4⟩
    · rw [own_mxm hP]
      exact Or.inr ⟨P, Or.inr rfl, q, rfl, fun z z1 z2 => z1.elim (fun y => absurd z2 (a z y)) (fun e => Nat.le_of_eq e)⟩
    · rw [own_mxx (by omega) hP]
      by_cases w : t < P
      · rw [if_pos w]
        exact Or.inr ⟨P, Or.inr rfl, q, rfl, fun z z1 z2 => z1.elim (fun y => Nat.le_trans (t4 z y z2) (Nat.le_of_lt w)) (fun e => Nat.le_of_eq e)⟩
      · rw [if_neg w]
        exact Or.inr ⟨t, Or.inl t1, t2, rfl, fun z z1 z2 => z1.elim (fun y => t4 z y z2) (fun e => by omega)⟩
  · rw [if_neg (fun z => q ((own_ltI hP hx).mp z))]
    rcases h with ⟨rfl, a⟩ | ⟨t, t1, t2, rfl, t4⟩
    · exact Or.inl ⟨rfl, fun z z1 z2 => z1.elim (fun y => a z y z2) (fun e => q (e ▸ z2))⟩
    · exact Or.inr ⟨t, Or.inl t1, t2, rfl, fun z z1 z2 => z1.elim (fun y => t4 z y z2) (fun e => absurd (e ▸ z2) q)⟩
theorem own_bestRef {x P1 P2 P3 : Nat} (hx : x < 2 ^ 31) (h1 : P1 < 2 ^ 31) (h2 : P2 < 2 ^ 31) (h3 : P3 < 2 ^ 31) :
    ∀ t, Best (fun q => (fun q => (fun q => (fun _ => False) q ∨ q = P1) q ∨ q = P2) q ∨ q = P3) x t → t = own_refI (Int32.ofNat x) (Int32.ofNat P1) (Int32.ofNat P2) (Int32.ofNat P3) := fun t h =>
  h.unique (own_stBest hx h3 (own_stBest hx h2 (own_stBest hx h1 (Or.inl ⟨rfl, fun _ z => z.elim⟩))))
end Jvm.OwnKit
namespace Jvm.Pilot.@@N@@
open Jvm Jvm.ClassFile Sem Op Lib Jvm.Free Jvm.Stand Jvm.LawKit Jvm.RoadKit Jvm.OwnKit Bundle Jvm.Pilot.@@N@@.Jvm.D
open Jvm.Free.BdW (nlz32 nlz64 hi32 blk ush)
theorem d3_0 : decode jdk_29_method_65_code 0 = .ok (.iload_n 0, 1) := by decide +kernel
theorem d3_1 : decode jdk_29_method_65_code 1 = .ok (.iload_n 1, 1) := by decide +kernel
theorem d3_2 : decode jdk_29_method_65_code 2 = .ok (.if_icmp .lt 7, 3) := by decide +kernel
theorem d3_5 : decode jdk_29_method_65_code 5 = .ok (.iload_n 0, 1) := by decide +kernel
theorem d3_6 : decode jdk_29_method_65_code 6 = .ok (.goto 4, 3) := by decide +kernel
theorem d3_9 : decode jdk_29_method_65_code 9 = .ok (.iload_n 1, 1) := by decide +kernel
theorem d3_10 : decode jdk_29_method_65_code 10 = .ok (.ireturn, 1) := by decide +kernel
theorem ef_rmMx (m : MethodId) (x0 : Int32) (x1 : Int32) : entryFrame m #[(.int x0), (.int x1)] 2 = mkF m 0 #[.val (.int x0), .val (.int x1)] [] := by first | (simp [entryFrame, mkF, argsToLocals, Value.category]; done) | rfl
def QMx (Z : State) (p0 p1 r : Int32) (h0 : Heap) (n0 : Nat) (v : Option Value) (h : Heap) (L : List Loc) : Prop := v = some (.int r) ∧ Fr n0 L ∧ h = h0
set_option maxRecDepth 65536 in
set_option maxHeartbeats 40000000 in
theorem rmMx (l : Launch) (Z : State) (a0 : Array Value) (hw : ∀ d ∈ tables_1, d.before a0 Z = true) (ws : List Jvm.Cond) (p0 p1 r : Int32) (h0 : Heap) (n0 : Nat) (Z0 : n0 ≤ h0.size) (hr : r = own_mx p0 p1) :
    MetFree l (⟨"java/lang/Math", "max", "(II)I"⟩ : MethodName) (head1 (Jvm.Cond.code (⟨"java/lang/Math", "max", "(II)I"⟩ : MethodName) jdk_29_method_65_code 2 (some .int) :: ws) ({ frames := 0, cells := 0, slots := 0, locals := 0 } : Room)) (fun as' U => as' = #[(.int p0), (.int p1)] ∧ Z.Warmed39 U.vm ∧ U.heap = h0) (fun _ _ _ _ _ => True) (fun _ U o U' => ∃ v L, o = .returned v ∧ QMx Z p0 p1 r h0 n0 v U'.heap L ∧ FrameEnd U o U' L ({ frames := 0, cells := 0, slots := 0, locals := 0 } : Room).cells ({ frames := 0, cells := 0, slots := 0, locals := 0 } : Room).slots) := by
  refine MetFree.of_bodySF (Jvm.Free.JP.mathPlain rfl (by decide +kernel)) hisR ?_
  intro p e s m args below meth c s₁ Bd hml0 hP hK
  obtain ⟨rfl, hZ, hh⟩ := hP
  have hx := Bd.exec
  have hby := Bd.bytes
  have hml : c.maxLocals = 2 := hml0
  have hown : s.vm.findClass "java/lang/Math" = some m.cls := findClass_of_methodNamed Bd.named
  have hnm := (name_of_methodNamed Bd.named Bd.method).1
  have hlk : meth.locks = false := Bd.notSynchronized
  have hret := Bd.returns
  have X0 : Stand p l e ({ frames := 0, cells := 0, slots := 0, locals := 0 } : Room) s m #[(.int p0), (.int p1)] below meth c s₁ [] 0 0 := Stand.of_body Bd
  have e0 : s₁.heap = h0 := by rw [← hh, Bd.state]; rfl
  have N0 := Fr.nil n0
  show Go p e below s₁ (entryFrame m #[(.int p0), (.int p1)] 2) (Fin s (QMx Z p0 p1 r h0 n0) ({ frames := 0, cells := 0, slots := 0, locals := 0 } : Room).cells ({ frames := 0, cells := 0, slots := 0, locals := 0 } : Room).slots)
  rw [ef_rmMx]
  show Go p e below s₁ (mkF m 0 #[.val (.int p0), .val (.int p1)] []) _
  refine Go.step (fun _ => XS.iloadN X0.here hx rfl (hb hby d3_0) rfl ) ?_
  show Go p e below s₁ (mkF m 1 #[.val (.int p0), .val (.int p1)] [(.int p0)]) _
  refine Go.step (fun _ => XS.iloadN X0.here hx rfl (hb hby d3_1) rfl ) ?_
  show Go p e below s₁ (mkF m 2 #[.val (.int p0), .val (.int p1)] [(.int p1), (.int p0)]) _
  by_cases hc2 : p0 < p1
  · skip
    refine Go.step (fun _ => XS.icmpYes X0.here hx rfl (pc0 := 2) (pc' := 9) rfl (hb hby d3_2) rfl (tlt hc2).1 (by decide) (by decide)) ?_
    show Go p e below s₁ (mkF m 9 #[.val (.int p0), .val (.int p1)] []) _
    refine Go.step (fun _ => XS.iloadN X0.here hx rfl (hb hby d3_9) rfl ) ?_
    show Go p e below s₁ (mkF m 10 #[.val (.int p0), .val (.int p1)] [(.int p1)]) _
    refine Go.retI X0 hx hret hlk (hb hby d3_10) ?_ (by decide) (by decide)
    exact ⟨by rw [hr, own_mx, if_pos hc2], N0, e0⟩
  · skip
    refine Go.step (fun _ => XS.icmpNo X0.here hx rfl (hb hby d3_2) rfl (flt hc2).1) ?_
    show Go p e below s₁ (mkF m 5 #[.val (.int p0), .val (.int p1)] []) _
    refine Go.step (fun _ => XS.iloadN X0.here hx rfl (hb hby d3_5) rfl ) ?_
    show Go p e below s₁ (mkF m 6 #[.val (.int p0), .val (.int p1)] [(.int p0)]) _
    refine Go.step (fun _ => XS.goto X0.here hx rfl (pc0 := 6) (pc' := 10) rfl (hb hby d3_6) (by decide) (by decide)) ?_
    show Go p e below s₁ (mkF m 10 #[.val (.int p0), .val (.int p1)] [(.int p0)]) _
    refine Go.retI X0 hx hret hlk (hb hby d3_10) ?_ (by decide) (by decide)
    exact ⟨by rw [hr, own_mx, if_neg hc2], N0, e0⟩
theorem d9_0 : decode jdk_33_method_47_code 0 = .ok (.iload_n 0, 1) := by decide +kernel
theorem d9_1 : decode jdk_33_method_47_code 1 = .ok (.ifCond .gt 14, 3) := by decide +kernel
theorem d9_4 : decode jdk_33_method_47_code 4 = .ok (.iload_n 0, 1) := by decide +kernel
theorem d9_5 : decode jdk_33_method_47_code 5 = .ok (.ifCond .ne 8, 3) := by decide +kernel
theorem d9_8 : decode jdk_33_method_47_code 8 = .ok (.bipush 32, 2) := by decide +kernel
theorem d9_10 : decode jdk_33_method_47_code 10 = .ok (.goto 4, 3) := by decide +kernel
theorem d9_13 : decode jdk_33_method_47_code 13 = .ok (.iconst 0, 1) := by decide +kernel
theorem d9_14 : decode jdk_33_method_47_code 14 = .ok (.ireturn, 1) := by decide +kernel
theorem d9_15 : decode jdk_33_method_47_code 15 = .ok (.bipush 31, 2) := by decide +kernel
theorem d9_17 : decode jdk_33_method_47_code 17 = .ok (.istore_n 1, 1) := by decide +kernel
theorem d9_18 : decode jdk_33_method_47_code 18 = .ok (.iload_n 0, 1) := by decide +kernel
theorem d9_19 : decode jdk_33_method_47_code 19 = .ok (.ldc_w 264, 3) := by decide +kernel
theorem d9_22 : decode jdk_33_method_47_code 22 = .ok (.if_icmp .lt 11, 3) := by decide +kernel
theorem d9_25 : decode jdk_33_method_47_code 25 = .ok (.iinc 1 (-16), 3) := by decide +kernel
theorem d9_28 : decode jdk_33_method_47_code 28 = .ok (.iload_n 0, 1) := by decide +kernel
theorem d9_29 : decode jdk_33_method_47_code 29 = .ok (.bipush 16, 2) := by decide +kernel
theorem d9_31 : decode jdk_33_method_47_code 31 = .ok (.iushr, 1) := by decide +kernel
theorem d9_32 : decode jdk_33_method_47_code 32 = .ok (.istore_n 0, 1) := by decide +kernel
theorem d9_33 : decode jdk_33_method_47_code 33 = .ok (.iload_n 0, 1) := by decide +kernel
theorem d9_34 : decode jdk_33_method_47_code 34 = .ok (.sipush 256, 3) := by decide +kernel
theorem d9_37 : decode jdk_33_method_47_code 37 = .ok (.if_icmp .lt 11, 3) := by decide +kernel
theorem d9_40 : decode jdk_33_method_47_code 40 = .ok (.iinc 1 (-8), 3) := by decide +kernel
theorem d9_43 : decode jdk_33_method_47_code 43 = .ok (.iload_n 0, 1) := by decide +kernel
theorem d9_44 : decode jdk_33_method_47_code 44 = .ok (.bipush 8, 2) := by decide +kernel
theorem d9_46 : decode jdk_33_method_47_code 46 = .ok (.iushr, 1) := by decide +kernel
theorem d9_47 : decode jdk_33_method_47_code 47 = .ok (.istore_n 0, 1) := by decide +kernel
theorem d9_48 : decode jdk_33_method_47_code 48 = .ok (.iload_n 0, 1) := by decide +kernel
theorem d9_49 : decode jdk_33_method_47_code 49 = .ok (.bipush 16, 2) := by decide +kernel
theorem d9_51 : decode jdk_33_method_47_code 51 = .ok (.if_icmp .lt 10, 3) := by decide +kernel
theorem d9_54 : decode jdk_33_method_47_code 54 = .ok (.iinc 1 (-4), 3) := by decide +kernel
theorem d9_57 : decode jdk_33_method_47_code 57 = .ok (.iload_n 0, 1) := by decide +kernel
theorem d9_58 : decode jdk_33_method_47_code 58 = .ok (.iconst 4, 1) := by decide +kernel
theorem d9_59 : decode jdk_33_method_47_code 59 = .ok (.iushr, 1) := by decide +kernel
theorem d9_60 : decode jdk_33_method_47_code 60 = .ok (.istore_n 0, 1) := by decide +kernel
theorem d9_61 : decode jdk_33_method_47_code 61 = .ok (.iload_n 0, 1) := by decide +kernel
theorem d9_62 : decode jdk_33_method_47_code 62 = .ok (.iconst 4, 1) := by decide +kernel
theorem d9_63 : decode jdk_33_method_47_code 63 = .ok (.if_icmp .lt 10, 3) := by decide +kernel
theorem d9_66 : decode jdk_33_method_47_code 66 = .ok (.iinc 1 (-2), 3) := by decide +kernel
theorem d9_69 : decode jdk_33_method_47_code 69 = .ok (.iload_n 0, 1) := by decide +kernel
theorem d9_70 : decode jdk_33_method_47_code 70 = .ok (.iconst 2, 1) := by decide +kernel
theorem d9_71 : decode jdk_33_method_47_code 71 = .ok (.iushr, 1) := by decide +kernel
theorem d9_72 : decode jdk_33_method_47_code 72 = .ok (.istore_n 0, 1) := by decide +kernel
theorem d9_73 : decode jdk_33_method_47_code 73 = .ok (.iload_n 1, 1) := by decide +kernel
theorem d9_74 : decode jdk_33_method_47_code 74 = .ok (.iload_n 0, 1) := by decide +kernel
theorem d9_75 : decode jdk_33_method_47_code 75 = .ok (.iconst 1, 1) := by decide +kernel
theorem d9_76 : decode jdk_33_method_47_code 76 = .ok (.iushr, 1) := by decide +kernel
theorem d9_77 : decode jdk_33_method_47_code 77 = .ok (.isub, 1) := by decide +kernel
theorem d9_78 : decode jdk_33_method_47_code 78 = .ok (.ireturn, 1) := by decide +kernel
theorem pn_0 : plainName "java/lang/Integer" = true := by first | (simp [plainName, overriddenIn]; done) | decide +kernel
theorem ef_rmN32 (m : MethodId) (x0 : Int32) : entryFrame m #[(.int x0)] 2 = mkF m 0 #[.val (.int x0), .unset] [] := by first | (simp [entryFrame, mkF, argsToLocals, Value.category]; done) | rfl
def QN32 (Z : State) (p0 : Int32) (h0 : Heap) (n0 : Nat) (v : Option Value) (h : Heap) (L : List Loc) : Prop := v = some (.int (nlz32 p0)) ∧ Fr n0 L ∧ h = h0
set_option maxRecDepth 65536 in
set_option maxHeartbeats 40000000 in
theorem rmN32 (l : Launch) (Z : State) (a0 : Array Value) (hw : ∀ d ∈ tables_1, d.before a0 Z = true) (ws : List Jvm.Cond) (p0 : Int32) (h0 : Heap) (n0 : Nat) (Z0 : n0 ≤ h0.size)  :
    MetFree l (⟨"java/lang/Integer", "numberOfLeadingZeros", "(I)I"⟩ : MethodName) (head1 (Jvm.Cond.code (⟨"java/lang/Integer", "numberOfLeadingZeros", "(I)I"⟩ : MethodName) jdk_33_method_47_code 2 (some .int) :: ws) ({ frames := 0, cells := 0, slots := 0, locals := 0 } : Room)) (fun as' U => as' = #[(.int p0)] ∧ Z.Warmed39 U.vm ∧ U.heap = h0) (fun _ _ _ _ _ => True) (fun _ U o U' => ∃ v L, o = .returned v ∧ QN32 Z p0 h0 n0 v U'.heap L ∧ FrameEnd U o U' L ({ frames := 0, cells := 0, slots := 0, locals := 0 } : Room).cells ({ frames := 0, cells := 0, slots := 0, locals := 0 } : Room).slots) := by
  refine MetFree.of_bodySF (plainFor_of_name pn_0) hisR ?_
  intro p e s m args below meth c s₁ Bd hml0 hP hK
  obtain ⟨rfl, hZ, hh⟩ := hP
  have hx := Bd.exec
  have hby := Bd.bytes
  have hml : c.maxLocals = 2 := hml0
  have hown : s.vm.findClass "java/lang/Integer" = some m.cls := findClass_of_methodNamed Bd.named
  have hnm := (name_of_methodNamed Bd.named Bd.method).1
  have hlk : meth.locks = false := Bd.notSynchronized
  have hret := Bd.returns
  have X0 : Stand p l e ({ frames := 0, cells := 0, slots := 0, locals := 0 } : Room) s m #[(.int p0)] below meth c s₁ [] 0 0 := Stand.of_body Bd
  have e0 : s₁.heap = h0 := by rw [← hh, Bd.state]; rfl
  have N0 := Fr.nil n0
  show Go p e below s₁ (entryFrame m #[(.int p0)] 2) (Fin s (QN32 Z p0 h0 n0) ({ frames := 0, cells := 0, slots := 0, locals := 0 } : Room).cells ({ frames := 0, cells := 0, slots := 0, locals := 0 } : Room).slots)
  rw [ef_rmN32]
  have hB : (0 : Int32) < p0 → nlz32 p0 = ((blk 4 2 (-2) (blk 16 4 (-4) (blk 256 8 (-8) (blk 65536 16 (-16) (p0, (31 : Int32))))))).2 - ush ((blk 4 2 (-2) (blk 16 4 (-4) (blk 256 8 (-8) (blk 65536 16 (-16) (p0, (31 : Int32))))))).1 1 := fun q => if_pos q
  by_cases hp : (0 : Int32) < p0
  · skip
    have J73 : ∀ (i n : Int32) (hq73 : (i, n) = (blk 4 2 (-2) (blk 16 4 (-4) (blk 256 8 (-8) (blk 65536 16 (-16) (p0, (31 : Int32))))))), Go p e below s₁ (mkF m 73 #[.val (.int i), .val (.int n)] []) (Fin s (QN32 Z p0 h0 n0) ({ frames := 0, cells := 0, slots := 0, locals := 0 } : Room).cells ({ frames := 0, cells := 0, slots := 0, locals := 0 } : Room).slots) := by
      intro i n hq73
      show Go p e below s₁ (mkF m 73 #[.val (.int i), .val (.int n)] []) _
      refine Go.step (fun _ => XS.iloadN X0.here hx rfl (hb hby d9_73) rfl ) ?_
      show Go p e below s₁ (mkF m 74 #[.val (.int i), .val (.int n)] [(.int n)]) _
      refine Go.step (fun _ => XS.iloadN X0.here hx rfl (hb hby d9_74) rfl ) ?_
      show Go p e below s₁ (mkF m 75 #[.val (.int i), .val (.int n)] [(.int i), (.int n)]) _
      refine Go.step (fun _ => XS.iconst X0.here hx rfl (hb hby d9_75)) ?_
      show Go p e below s₁ (mkF m 76 #[.val (.int i), .val (.int n)] [(.int (1 : Int32)), (.int i), (.int n)]) _
      refine Go.step (fun _ => XS.iushr X0.here hx rfl (hb hby d9_76) rfl) ?_
      show Go p e below s₁ (mkF m 77 #[.val (.int i), .val (.int n)] [(.int ((i.toUInt32 >>> ((1 : Int32) &&& 31).toUInt32).toInt32)), (.int n)]) _
      refine Go.step (fun _ => XS.isub X0.here hx rfl (hb hby d9_77) rfl) ?_
      show Go p e below s₁ (mkF m 78 #[.val (.int i), .val (.int n)] [(.int (n - ((i.toUInt32 >>> ((1 : Int32) &&& 31).toUInt32).toInt32)))]) _
      refine Go.retI X0 hx hret hlk (hb hby d9_78) ?_ (by decide) (by decide)
      refine ⟨?_, N0, e0⟩
      rw [hB hp, ← hq73]
      rfl
    have J61 : ∀ (i n : Int32) (hq61 : (i, n) = (blk 16 4 (-4) (blk 256 8 (-8) (blk 65536 16 (-16) (p0, (31 : Int32)))))), Go p e below s₁ (mkF m 61 #[.val (.int i), .val (.int n)] []) (Fin s (QN32 Z p0 h0 n0) ({ frames := 0, cells := 0, slots := 0, locals := 0 } : Room).cells ({ frames := 0, cells := 0, slots := 0, locals := 0 } : Room).slots) := by
      intro i n hq61
      show Go p e below s₁ (mkF m 61 #[.val (.int i), .val (.int n)] []) _
      refine Go.step (fun _ => XS.iloadN X0.here hx rfl (hb hby d9_61) rfl ) ?_
      show Go p e below s₁ (mkF m 62 #[.val (.int i), .val (.int n)] [(.int i)]) _
      refine Go.step (fun _ => XS.iconst X0.here hx rfl (hb hby d9_62)) ?_
      show Go p e below s₁ (mkF m 63 #[.val (.int i), .val (.int n)] [(.int (4 : Int32)), (.int i)]) _
      by_cases hc63 : i < (4 : Int32)
      · skip
        refine Go.step (fun _ => XS.icmpYes X0.here hx rfl (pc0 := 63) (pc' := 73) rfl (hb hby d9_63) rfl (tlt hc63).1 (by decide) (by decide)) ?_
        show Go p e below s₁ (mkF m 73 #[.val (.int i), .val (.int n)] []) _
        exact J73 _ _ (by rw [← hq61]; exact (if_pos hc63).symm)
      · skip
        refine Go.step (fun _ => XS.icmpNo X0.here hx rfl (hb hby d9_63) rfl (flt hc63).1) ?_
        show Go p e below s₁ (mkF m 66 #[.val (.int i), .val (.int n)] []) _
        refine Go.step (fun _ => XS.iinc X0.here hx rfl (hb hby d9_66) rfl (l' := #[.val (.int i), .val (.int (n + (-2 : Int32)))]) rfl) ?_
        show Go p e below s₁ (mkF m 69 #[.val (.int i), .val (.int (n + (-2 : Int32)))] []) _
        refine Go.step (fun _ => XS.iloadN X0.here hx rfl (hb hby d9_69) rfl ) ?_
        show Go p e below s₁ (mkF m 70 #[.val (.int i), .val (.int (n + (-2 : Int32)))] [(.int i)]) _
        refine Go.step (fun _ => XS.iconst X0.here hx rfl (hb hby d9_70)) ?_
        show Go p e below s₁ (mkF m 71 #[.val (.int i), .val (.int (n + (-2 : Int32)))] [(.int (2 : Int32)), (.int i)]) _
        refine Go.step (fun _ => XS.iushr X0.here hx rfl (hb hby d9_71) rfl) ?_
        show Go p e below s₁ (mkF m 72 #[.val (.int i), .val (.int (n + (-2 : Int32)))] [(.int ((i.toUInt32 >>> ((2 : Int32) &&& 31).toUInt32).toInt32))]) _
        refine Go.step (fun _ => XS.istoreN X0.here hx rfl (hb hby d9_72) rfl (l' := #[.val (.int ((i.toUInt32 >>> ((2 : Int32) &&& 31).toUInt32).toInt32)), .val (.int (n + (-2 : Int32)))]) rfl) ?_
        show Go p e below s₁ (mkF m 73 #[.val (.int ((i.toUInt32 >>> ((2 : Int32) &&& 31).toUInt32).toInt32)), .val (.int (n + (-2 : Int32)))] []) _
        exact J73 _ _ (by rw [← hq61]; exact (if_neg hc63).symm)
    have J48 : ∀ (i n : Int32) (hq48 : (i, n) = (blk 256 8 (-8) (blk 65536 16 (-16) (p0, (31 : Int32))))), Go p e below s₁ (mkF m 48 #[.val (.int i), .val (.int n)] []) (Fin s (QN32 Z p0 h0 n0) ({ frames := 0, cells := 0, slots := 0, locals := 0 } : Room).cells ({ frames := 0, cells := 0, slots := 0, locals := 0 } : Room).slots) := by
      intro i n hq48
      show Go p e below s₁ (mkF m 48 #[.val (.int i), .val (.int n)] []) _
      refine Go.step (fun _ => XS.iloadN X0.here hx rfl (hb hby d9_48) rfl ) ?_
      show Go p e below s₁ (mkF m 49 #[.val (.int i), .val (.int n)] [(.int i)]) _
      refine Go.step (fun _ => XS.bipush X0.here hx rfl (hb hby d9_49)) ?_
      show Go p e below s₁ (mkF m 51 #[.val (.int i), .val (.int n)] [(.int (16 : Int32)), (.int i)]) _
      by_cases hc51 : i < (16 : Int32)
      · skip
        refine Go.step (fun _ => XS.icmpYes X0.here hx rfl (pc0 := 51) (pc' := 61) rfl (hb hby d9_51) rfl (tlt hc51).1 (by decide) (by decide)) ?_
        show Go p e below s₁ (mkF m 61 #[.val (.int i), .val (.int n)] []) _
        exact J61 _ _ (by rw [← hq48]; exact (if_pos hc51).symm)
      · skip
        refine Go.step (fun _ => XS.icmpNo X0.here hx rfl (hb hby d9_51) rfl (flt hc51).1) ?_
        show Go p e below s₁ (mkF m 54 #[.val (.int i), .val (.int n)] []) _
        refine Go.step (fun _ => XS.iinc X0.here hx rfl (hb hby d9_54) rfl (l' := #[.val (.int i), .val (.int (n + (-4 : Int32)))]) rfl) ?_
        show Go p e below s₁ (mkF m 57 #[.val (.int i), .val (.int (n + (-4 : Int32)))] []) _
        refine Go.step (fun _ => XS.iloadN X0.here hx rfl (hb hby d9_57) rfl ) ?_
        show Go p e below s₁ (mkF m 58 #[.val (.int i), .val (.int (n + (-4 : Int32)))] [(.int i)]) _
        refine Go.step (fun _ => XS.iconst X0.here hx rfl (hb hby d9_58)) ?_
        show Go p e below s₁ (mkF m 59 #[.val (.int i), .val (.int (n + (-4 : Int32)))] [(.int (4 : Int32)), (.int i)]) _
        refine Go.step (fun _ => XS.iushr X0.here hx rfl (hb hby d9_59) rfl) ?_
        show Go p e below s₁ (mkF m 60 #[.val (.int i), .val (.int (n + (-4 : Int32)))] [(.int ((i.toUInt32 >>> ((4 : Int32) &&& 31).toUInt32).toInt32))]) _
        refine Go.step (fun _ => XS.istoreN X0.here hx rfl (hb hby d9_60) rfl (l' := #[.val (.int ((i.toUInt32 >>> ((4 : Int32) &&& 31).toUInt32).toInt32)), .val (.int (n + (-4 : Int32)))]) rfl) ?_
        show Go p e below s₁ (mkF m 61 #[.val (.int ((i.toUInt32 >>> ((4 : Int32) &&& 31).toUInt32).toInt32)), .val (.int (n + (-4 : Int32)))] []) _
        exact J61 _ _ (by rw [← hq48]; exact (if_neg hc51).symm)
    have J33 : ∀ (i n : Int32) (hq33 : (i, n) = (blk 65536 16 (-16) (p0, (31 : Int32)))), Go p e below s₁ (mkF m 33 #[.val (.int i), .val (.int n)] []) (Fin s (QN32 Z p0 h0 n0) ({ frames := 0, cells := 0, slots := 0, locals := 0 } : Room).cells ({ frames := 0, cells := 0, slots := 0, locals := 0 } : Room).slots) := by
      intro i n hq33
      show Go p e below s₁ (mkF m 33 #[.val (.int i), .val (.int n)] []) _
      refine Go.step (fun _ => XS.iloadN X0.here hx rfl (hb hby d9_33) rfl ) ?_
      show Go p e below s₁ (mkF m 34 #[.val (.int i), .val (.int n)] [(.int i)]) _
      refine Go.step (fun _ => XS.sipush X0.here hx rfl (hb hby d9_34)) ?_
      show Go p e below s₁ (mkF m 37 #[.val (.int i), .val (.int n)] [(.int (256 : Int32)), (.int i)]) _
      by_cases hc37 : i < (256 : Int32)
      · skip
        refine Go.step (fun _ => XS.icmpYes X0.here hx rfl (pc0 := 37) (pc' := 48) rfl (hb hby d9_37) rfl (tlt hc37).1 (by decide) (by decide)) ?_
        show Go p e below s₁ (mkF m 48 #[.val (.int i), .val (.int n)] []) _
        exact J48 _ _ (by rw [← hq33]; exact (if_pos hc37).symm)
      · skip
        refine Go.step (fun _ => XS.icmpNo X0.here hx rfl (hb hby d9_37) rfl (flt hc37).1) ?_
        show Go p e below s₁ (mkF m 40 #[.val (.int i), .val (.int n)] []) _
        refine Go.step (fun _ => XS.iinc X0.here hx rfl (hb hby d9_40) rfl (l' := #[.val (.int i), .val (.int (n + (-8 : Int32)))]) rfl) ?_
        show Go p e below s₁ (mkF m 43 #[.val (.int i), .val (.int (n + (-8 : Int32)))] []) _
        refine Go.step (fun _ => XS.iloadN X0.here hx rfl (hb hby d9_43) rfl ) ?_
        show Go p e below s₁ (mkF m 44 #[.val (.int i), .val (.int (n + (-8 : Int32)))] [(.int i)]) _
        refine Go.step (fun _ => XS.bipush X0.here hx rfl (hb hby d9_44)) ?_
        show Go p e below s₁ (mkF m 46 #[.val (.int i), .val (.int (n + (-8 : Int32)))] [(.int (8 : Int32)), (.int i)]) _
        refine Go.step (fun _ => XS.iushr X0.here hx rfl (hb hby d9_46) rfl) ?_
        show Go p e below s₁ (mkF m 47 #[.val (.int i), .val (.int (n + (-8 : Int32)))] [(.int ((i.toUInt32 >>> ((8 : Int32) &&& 31).toUInt32).toInt32))]) _
        refine Go.step (fun _ => XS.istoreN X0.here hx rfl (hb hby d9_47) rfl (l' := #[.val (.int ((i.toUInt32 >>> ((8 : Int32) &&& 31).toUInt32).toInt32)), .val (.int (n + (-8 : Int32)))]) rfl) ?_
        show Go p e below s₁ (mkF m 48 #[.val (.int ((i.toUInt32 >>> ((8 : Int32) &&& 31).toUInt32).toInt32)), .val (.int (n + (-8 : Int32)))] []) _
        exact J48 _ _ (by rw [← hq33]; exact (if_neg hc37).symm)
    show Go p e below s₁ (mkF m 0 #[.val (.int p0), .unset] []) _
    refine Go.step (fun _ => XS.iloadN X0.here hx rfl (hb hby d9_0) rfl ) ?_
    show Go p e below s₁ (mkF m 1 #[.val (.int p0), .unset] [(.int p0)]) _
    refine Go.step (fun _ => XS.ifYes X0.here hx rfl (pc0 := 1) (pc' := 15) rfl (hb hby d9_1) rfl ((if0 _ _).trans (tlt hp).2.2.1) (by decide) (by decide)) ?_
    show Go p e below s₁ (mkF m 15 #[.val (.int p0), .unset] []) _
    refine Go.step (fun _ => XS.bipush X0.here hx rfl (hb hby d9_15)) ?_
    show Go p e below s₁ (mkF m 17 #[.val (.int p0), .unset] [(.int (31 : Int32))]) _
    refine Go.step (fun _ => XS.istoreN X0.here hx rfl (hb hby d9_17) rfl (l' := #[.val (.int p0), .val (.int (31 : Int32))]) rfl) ?_
    show Go p e below s₁ (mkF m 18 #[.val (.int p0), .val (.int (31 : Int32))] []) _
    refine Go.step (fun _ => XS.iloadN X0.here hx rfl (hb hby d9_18) rfl ) ?_
    show Go p e below s₁ (mkF m 19 #[.val (.int p0), .val (.int (31 : Int32))] [(.int p0)]) _
    refine Go.step (fun _ => X0.ldcwInt hx hown (mvT hZ (hw _ (List.mem_of_getElem? (i := 47) rfl))) (g := (mkF m 19 #[.val (.int p0), .val (.int (31 : Int32))] [(.int p0)])) rfl (hb hby d9_19) _) ?_
    show Go p e below s₁ (mkF m 22 #[.val (.int p0), .val (.int (31 : Int32))] [(.int (65536 : Int32)), (.int p0)]) _
    by_cases hc22 : p0 < (65536 : Int32)
    · skip
      refine Go.step (fun _ => XS.icmpYes X0.here hx rfl (pc0 := 22) (pc' := 33) rfl (hb hby d9_22) rfl (tlt hc22).1 (by decide) (by decide)) ?_
      show Go p e below s₁ (mkF m 33 #[.val (.int p0), .val (.int (31 : Int32))] []) _
      exact J33 _ _ (by exact (if_pos hc22).symm)
    · skip
      refine Go.step (fun _ => XS.icmpNo X0.here hx rfl (hb hby d9_22) rfl (flt hc22).1) ?_
      show Go p e below s₁ (mkF m 25 #[.val (.int p0), .val (.int (31 : Int32))] []) _
      refine Go.step (fun _ => XS.iinc X0.here hx rfl (hb hby d9_25) rfl (l' := #[.val (.int p0), .val (.int (15 : Int32))]) rfl) ?_
      show Go p e below s₁ (mkF m 28 #[.val (.int p0), .val (.int (15 : Int32))] []) _
      refine Go.step (fun _ => XS.iloadN X0.here hx rfl (hb hby d9_28) rfl ) ?_
      show Go p e below s₁ (mkF m 29 #[.val (.int p0), .val (.int (15 : Int32))] [(.int p0)]) _
      refine Go.step (fun _ => XS.bipush X0.here hx rfl (hb hby d9_29)) ?_
      show Go p e below s₁ (mkF m 31 #[.val (.int p0), .val (.int (15 : Int32))] [(.int (16 : Int32)), (.int p0)]) _
      refine Go.step (fun _ => XS.iushr X0.here hx rfl (hb hby d9_31) rfl) ?_
      show Go p e below s₁ (mkF m 32 #[.val (.int p0), .val (.int (15 : Int32))] [(.int ((p0.toUInt32 >>> ((16 : Int32) &&& 31).toUInt32).toInt32))]) _
      refine Go.step (fun _ => XS.istoreN X0.here hx rfl (hb hby d9_32) rfl (l' := #[.val (.int ((p0.toUInt32 >>> ((16 : Int32) &&& 31).toUInt32).toInt32)), .val (.int (15 : Int32))]) rfl) ?_
      show Go p e below s₁ (mkF m 33 #[.val (.int ((p0.toUInt32 >>> ((16 : Int32) &&& 31).toUInt32).toInt32)), .val (.int (15 : Int32))] []) _
      exact J33 _ _ (by rw [show (15 : Int32) = 31 + (-16) from by decide]; exact (if_neg hc22).symm)
  · skip
    show Go p e below s₁ (mkF m 0 #[.val (.int p0), .unset] []) _
    refine Go.step (fun _ => XS.iloadN X0.here hx rfl (hb hby d9_0) rfl ) ?_
    show Go p e below s₁ (mkF m 1 #[.val (.int p0), .unset] [(.int p0)]) _
    refine Go.step (fun _ => XS.ifNo X0.here hx rfl (hb hby d9_1) rfl ((if0 _ _).trans (flt hp).2.2.1)) ?_
    show Go p e below s₁ (mkF m 4 #[.val (.int p0), .unset] []) _
    refine Go.step (fun _ => XS.iloadN X0.here hx rfl (hb hby d9_4) rfl ) ?_
    show Go p e below s₁ (mkF m 5 #[.val (.int p0), .unset] [(.int p0)]) _
    by_cases hc5 : p0 = (0 : Int32)
    · skip
      refine Go.step (fun _ => XS.ifNo X0.here hx rfl (hb hby d9_5) rfl ((if0 _ _).trans (teq hc5).2)) ?_
      show Go p e below s₁ (mkF m 8 #[.val (.int p0), .unset] []) _
      refine Go.step (fun _ => XS.bipush X0.here hx rfl (hb hby d9_8)) ?_
      show Go p e below s₁ (mkF m 10 #[.val (.int p0), .unset] [(.int (32 : Int32))]) _
      refine Go.step (fun _ => XS.goto X0.here hx rfl (pc0 := 10) (pc' := 14) rfl (hb hby d9_10) (by decide) (by decide)) ?_
      show Go p e below s₁ (mkF m 14 #[.val (.int p0), .unset] [(.int (32 : Int32))]) _
      refine Go.retI X0 hx hret hlk (hb hby d9_14) ?_ (by decide) (by decide)
      refine ⟨?_, N0, e0⟩
      show _ = some (Value.int (if p0 > 0 then _ else if p0 = 0 then 32 else 0))
      rw [if_neg (show ¬ p0 > 0 from hp), if_pos hc5]
    · skip
      refine Go.step (fun _ => XS.ifYes X0.here hx rfl (pc0 := 5) (pc' := 13) rfl (hb hby d9_5) rfl ((if0 _ _).trans (feq hc5).2) (by decide) (by decide)) ?_
      show Go p e below s₁ (mkF m 13 #[.val (.int p0), .unset] []) _
      refine Go.step (fun _ => XS.iconst X0.here hx rfl (hb hby d9_13)) ?_
      show Go p e below s₁ (mkF m 14 #[.val (.int p0), .unset] [(.int (0 : Int32))]) _
      refine Go.retI X0 hx hret hlk (hb hby d9_14) ?_ (by decide) (by decide)
      refine ⟨?_, N0, e0⟩
      show _ = some (Value.int (if p0 > 0 then _ else if p0 = 0 then 32 else 0))
      rw [if_neg (show ¬ p0 > 0 from hp), if_neg hc5]
theorem d8_0 : decode jdk_35_method_48_code 0 = .ok (.lload_n 0, 1) := by decide +kernel
theorem d8_1 : decode jdk_35_method_48_code 1 = .ok (.bipush 32, 2) := by decide +kernel
theorem d8_3 : decode jdk_35_method_48_code 3 = .ok (.lushr, 1) := by decide +kernel
theorem d8_4 : decode jdk_35_method_48_code 4 = .ok (.l2i, 1) := by decide +kernel
theorem d8_5 : decode jdk_35_method_48_code 5 = .ok (.istore_n 2, 1) := by decide +kernel
theorem d8_6 : decode jdk_35_method_48_code 6 = .ok (.iload_n 2, 1) := by decide +kernel
theorem d8_7 : decode jdk_35_method_48_code 7 = .ok (.ifCond .ne 14, 3) := by decide +kernel
theorem d8_10 : decode jdk_35_method_48_code 10 = .ok (.bipush 32, 2) := by decide +kernel
theorem d8_12 : decode jdk_35_method_48_code 12 = .ok (.lload_n 0, 1) := by decide +kernel
theorem d8_13 : decode jdk_35_method_48_code 13 = .ok (.l2i, 1) := by decide +kernel
theorem d8_14 : decode jdk_35_method_48_code 14 = .ok (.invokestatic 308, 3) := by decide +kernel
theorem d8_17 : decode jdk_35_method_48_code 17 = .ok (.iadd, 1) := by decide +kernel
theorem d8_18 : decode jdk_35_method_48_code 18 = .ok (.goto 7, 3) := by decide +kernel
theorem d8_21 : decode jdk_35_method_48_code 21 = .ok (.iload_n 2, 1) := by decide +kernel
theorem d8_22 : decode jdk_35_method_48_code 22 = .ok (.invokestatic 308, 3) := by decide +kernel
theorem d8_25 : decode jdk_35_method_48_code 25 = .ok (.ireturn, 1) := by decide +kernel
theorem pn_1 : plainName "java/lang/Long" = true := by first | (simp [plainName, overriddenIn]; done) | decide +kernel
theorem pd_0 : parseMethodDescriptor "(I)I" = some ⟨[.int], some .int⟩ := by decide +kernel
theorem ef_rmN64 (m : MethodId) (x0 : Int64) : entryFrame m #[(.long x0)] 3 = mkF m 0 #[.val (.long x0), .second, .unset] [] := by first | (simp [entryFrame, mkF, argsToLocals, Value.category]; done) | rfl
def QN64 (Z : State) (q0 : Int64) (h0 : Heap) (n0 : Nat) (v : Option Value) (h : Heap) (L : List Loc) : Prop := v = some (.int (nlz64 q0)) ∧ Fr n0 L ∧ h = h0
set_option maxRecDepth 65536 in
set_option maxHeartbeats 40000000 in
theorem rmN64 (l : Launch) (Z : State) (a0 : Array Value) (hw : ∀ d ∈ tables_1, d.before a0 Z = true) (ws : List Jvm.Cond) (q0 : Int64) (h0 : Heap) (n0 : Nat) (Z0 : n0 ≤ h0.size)  :
    MetFree l (⟨"java/lang/Long", "numberOfLeadingZeros", "(J)I"⟩ : MethodName) (head1 (Jvm.Cond.code (⟨"java/lang/Long", "numberOfLeadingZeros", "(J)I"⟩ : MethodName) jdk_35_method_48_code 3 (some .int) :: ws) ({ frames := 1, cells := 0, slots := 0, locals := 20 } : Room)) (fun as' U => as' = #[(.long q0)] ∧ Z.Warmed39 U.vm ∧ U.heap = h0) (fun _ _ _ _ _ => True) (fun _ U o U' => ∃ v L, o = .returned v ∧ QN64 Z q0 h0 n0 v U'.heap L ∧ FrameEnd U o U' L ({ frames := 1, cells := 0, slots := 0, locals := 20 } : Room).cells ({ frames := 1, cells := 0, slots := 0, locals := 20 } : Room).slots) := by
  refine MetFree.of_bodySF (plainFor_of_name pn_1) hisR ?_
  intro p e s m args below meth c s₁ Bd hml0 hP hK
  obtain ⟨rfl, hZ, hh⟩ := hP
  have hx := Bd.exec
  have hby := Bd.bytes
  have hml : c.maxLocals = 3 := hml0
  have hown : s.vm.findClass "java/lang/Long" = some m.cls := findClass_of_methodNamed Bd.named
  have hnm := (name_of_methodNamed Bd.named Bd.method).1
  have hlk : meth.locks = false := Bd.notSynchronized
  have hret := Bd.returns
  have X0 : Stand p l e ({ frames := 1, cells := 0, slots := 0, locals := 20 } : Room) s m #[(.long q0)] below meth c s₁ [] 0 0 := Stand.of_body Bd
  have e0 : s₁.heap = h0 := by rw [← hh, Bd.state]; rfl
  have N0 := Fr.nil n0
  show Go p e below s₁ (entryFrame m #[(.long q0)] 3) (Fin s (QN64 Z q0 h0 n0) ({ frames := 1, cells := 0, slots := 0, locals := 20 } : Room).cells ({ frames := 1, cells := 0, slots := 0, locals := 20 } : Room).slots)
  rw [ef_rmN64]
  show Go p e below s₁ (mkF m 0 #[.val (.long q0), .second, .unset] []) _
  refine Go.step (fun _ => XS.lloadN X0.here hx rfl (hb hby d8_0) rfl ) ?_
  show Go p e below s₁ (mkF m 1 #[.val (.long q0), .second, .unset] [(.long q0)]) _
  refine Go.step (fun _ => XS.bipush X0.here hx rfl (hb hby d8_1)) ?_
  show Go p e below s₁ (mkF m 3 #[.val (.long q0), .second, .unset] [(.int (32 : Int32)), (.long q0)]) _
  refine Go.step (fun _ => XS.lushr X0.here hx rfl (hb hby d8_3) rfl) ?_
  show Go p e below s₁ (mkF m 4 #[.val (.long q0), .second, .unset] [(.long ((q0.toUInt64 >>> ((32 : Int32) &&& 0x3f).toInt64.toUInt64).toInt64))]) _
  refine Go.step (fun _ => XS.l2i X0.here hx rfl (hb hby d8_4) rfl) ?_
  show Go p e below s₁ (mkF m 5 #[.val (.long q0), .second, .unset] [(.int (hi32 q0))]) _
  show Go p e below s₁ (mkF m 5 #[.val (.long q0), .second, .unset] [(.int (hi32 q0))]) _
  refine Go.step (fun _ => XS.istoreN X0.here hx rfl (hb hby d8_5) rfl (l' := #[.val (.long q0), .second, .val (.int (hi32 q0))]) rfl) ?_
  show Go p e below s₁ (mkF m 6 #[.val (.long q0), .second, .val (.int (hi32 q0))] []) _
  refine Go.step (fun _ => XS.iloadN X0.here hx rfl (hb hby d8_6) rfl ) ?_
  show Go p e below s₁ (mkF m 7 #[.val (.long q0), .second, .val (.int (hi32 q0))] [(.int (hi32 q0))]) _
  by_cases hc7 : (hi32 q0) = (0 : Int32)
  · skip
    refine Go.step (fun _ => XS.ifNo X0.here hx rfl (hb hby d8_7) rfl ((if0 _ _).trans (teq hc7).2)) ?_
    show Go p e below s₁ (mkF m 10 #[.val (.long q0), .second, .val (.int (hi32 q0))] []) _
    refine Go.step (fun _ => XS.bipush X0.here hx rfl (hb hby d8_10)) ?_
    show Go p e below s₁ (mkF m 12 #[.val (.long q0), .second, .val (.int (hi32 q0))] [(.int (32 : Int32))]) _
    refine Go.step (fun _ => XS.lloadN X0.here hx rfl (hb hby d8_12) rfl ) ?_
    show Go p e below s₁ (mkF m 13 #[.val (.long q0), .second, .val (.int (hi32 q0))] [(.long q0), (.int (32 : Int32))]) _
    refine Go.step (fun _ => XS.l2i X0.here hx rfl (hb hby d8_13) rfl) ?_
    show Go p e below s₁ (mkF m 14 #[.val (.long q0), .second, .val (.int (hi32 q0))] [(.int (q0.toInt32)), (.int (32 : Int32))]) _
    obtain ⟨_, _, ⟨T1, L1, k1, n1⟩, -, X1, ⟨Lc1, hQ1, l1, y1, z1⟩, st1⟩ := Jvm.LawKit.callS X0 hx (y := (⟨"java/lang/Integer", "numberOfLeadingZeros", "(I)I"⟩ : MethodName)) hown (mvT hZ (hw _ (List.mem_of_getElem? (i := 43) rfl))) (mvT hZ (hw _ (List.mem_of_getElem? (i := 44) rfl))) (mvT hZ (hw _ (List.mem_of_getElem? (i := 45) rfl))) (mvT hZ (hw _ (List.mem_of_getElem? (i := 46) rfl))) (by decide) (backOf (W := 1) (rmN32 l Z a0 hw [] (q0.toInt32) h0 n0 Z0) hZ (hw _ (List.mem_of_getElem? (i := 46) rfl)) (hw _ (List.mem_of_getElem? (i := 45) rfl)) (by decide) (by decide)) (g := (mkF m 14 #[.val (.long q0), .second, .val (.int (hi32 q0))] [(.int (q0.toInt32)), (.int (32 : Int32))])) rfl (by rw [hml]; rfl) (argsL := [(.int (q0.toInt32))]) (rest := [(.int (32 : Int32))]) (lenOf pd_0 rfl) rfl (by show 2 * 0 + _ ≤ _; exact Nat.le_of_eq rfl) (hb hby d8_14) (fun _ _ => ⟨rfl, e0, (by decide : 0 + 0 ≤ _), (by decide : 0 + 0 ≤ _)⟩)
    dsimp only [Pt.U, Pt.locs, Pt.cells, Pt.slots] at X1 l1 y1 z1 st1 hQ1
    subst l1 y1 z1
    obtain ⟨rfl, Nq1, eh1⟩ := hQ1
    have N1 := Fr.app N0 Nq1
    refine Go.step st1 ?_
    show Go p e below T1 (mkF m 17 #[.val (.long q0), .second, .val (.int (hi32 q0))] [(.int (nlz32 (q0.toInt32))), (.int (32 : Int32))]) _
    refine Go.step (fun _ => XS.iadd X1.here hx rfl (hb hby d8_17) rfl) ?_
    show Go p e below T1 (mkF m 18 #[.val (.long q0), .second, .val (.int (hi32 q0))] [(.int ((32 : Int32) + (nlz32 (q0.toInt32))))]) _
    refine Go.step (fun _ => XS.goto X1.here hx rfl (pc0 := 18) (pc' := 25) rfl (hb hby d8_18) (by decide) (by decide)) ?_
    show Go p e below T1 (mkF m 25 #[.val (.long q0), .second, .val (.int (hi32 q0))] [(.int ((32 : Int32) + (nlz32 (q0.toInt32))))]) _
    refine Go.retI X1 hx hret hlk (hb hby d8_25) ?_ (by decide) (by decide)
    exact ⟨by rw [nlz64, if_pos hc7], N1, eh1⟩
  · skip
    refine Go.step (fun _ => XS.ifYes X0.here hx rfl (pc0 := 7) (pc' := 21) rfl (hb hby d8_7) rfl ((if0 _ _).trans (feq hc7).2) (by decide) (by decide)) ?_
    show Go p e below s₁ (mkF m 21 #[.val (.long q0), .second, .val (.int (hi32 q0))] []) _
    refine Go.step (fun _ => XS.iloadN X0.here hx rfl (hb hby d8_21) rfl ) ?_
    show Go p e below s₁ (mkF m 22 #[.val (.long q0), .second, .val (.int (hi32 q0))] [(.int (hi32 q0))]) _
    obtain ⟨_, _, ⟨T2, L2, k2, n2⟩, -, X2, ⟨Lc2, hQ2, l2, y2, z2⟩, st2⟩ := Jvm.LawKit.callS X0 hx (y := (⟨"java/lang/Integer", "numberOfLeadingZeros", "(I)I"⟩ : MethodName)) hown (mvT hZ (hw _ (List.mem_of_getElem? (i := 43) rfl))) (mvT hZ (hw _ (List.mem_of_getElem? (i := 44) rfl))) (mvT hZ (hw _ (List.mem_of_getElem? (i := 45) rfl))) (mvT hZ (hw _ (List.mem_of_getElem? (i := 46) rfl))) (by decide) (backOf (W := 0) (rmN32 l Z a0 hw [] (hi32 q0) h0 n0 Z0) hZ (hw _ (List.mem_of_getElem? (i := 46) rfl)) (hw _ (List.mem_of_getElem? (i := 45) rfl)) (by decide) (by decide)) (g := (mkF m 22 #[.val (.long q0), .second, .val (.int (hi32 q0))] [(.int (hi32 q0))])) rfl (by rw [hml]; rfl) (argsL := [(.int (hi32 q0))]) (rest := []) (lenOf pd_0 rfl) rfl (by show 2 * 0 + _ ≤ _; exact Nat.le_of_eq rfl) (hb hby d8_22) (fun _ _ => ⟨rfl, e0, (by decide : 0 + 0 ≤ _), (by decide : 0 + 0 ≤ _)⟩)
    dsimp only [Pt.U, Pt.locs, Pt.cells, Pt.slots] at X2 l2 y2 z2 st2 hQ2
    subst l2 y2 z2
    obtain ⟨rfl, Nq2, eh2⟩ := hQ2
    have N2 := Fr.app N0 Nq2
    refine Go.step st2 ?_
    show Go p e below T2 (mkF m 25 #[.val (.long q0), .second, .val (.int (hi32 q0))] [(.int (nlz32 (hi32 q0)))]) _
    refine Go.retI X2 hx hret hlk (hb hby d8_25) ?_ (by decide) (by decide)
    exact ⟨by rw [nlz64, if_neg hc7], N2, eh2⟩
theorem d7_0 : decode prog_61_method_5_code 0 = .ok (.bipush 63, 2) := by decide +kernel
theorem d7_2 : decode prog_61_method_5_code 2 = .ok (.lload_n 0, 1) := by decide +kernel
theorem d7_3 : decode prog_61_method_5_code 3 = .ok (.invokestatic 27, 3) := by decide +kernel
theorem d7_6 : decode prog_61_method_5_code 6 = .ok (.isub, 1) := by decide +kernel
theorem d7_7 : decode prog_61_method_5_code 7 = .ok (.ireturn, 1) := by decide +kernel
theorem pn_2 : plainName "com/example/maxhue/maxhue/PointSet" = true := by first | (simp [plainName, overriddenIn]; done) | decide +kernel
theorem pd_1 : parseMethodDescriptor "(J)I" = some ⟨[.long], some .int⟩ := by decide +kernel
theorem ef_rmLB (m : MethodId) (x0 : Int64) : entryFrame m #[(.long x0)] 2 = mkF m 0 #[.val (.long x0), .second] [] := by first | (simp [entryFrame, mkF, argsToLocals, Value.category]; done) | rfl
def QLB (Z : State) (q0 : Int64) (h0 : Heap) (n0 : Nat) (v : Option Value) (h : Heap) (L : List Loc) : Prop := v = some (.int ((63 : Int32) - nlz64 q0)) ∧ Fr n0 L ∧ h = h0
set_option maxRecDepth 65536 in
set_option maxHeartbeats 40000000 in
theorem rmLB (l : Launch) (Z : State) (a0 : Array Value) (hw : ∀ d ∈ tables_1, d.before a0 Z = true) (ws : List Jvm.Cond) (q0 : Int64) (h0 : Heap) (n0 : Nat) (Z0 : n0 ≤ h0.size)  :
    MetFree l (⟨"com/example/maxhue/maxhue/PointSet", "lastBit", "(J)I"⟩ : MethodName) (head1 (Jvm.Cond.code (⟨"com/example/maxhue/maxhue/PointSet", "lastBit", "(J)I"⟩ : MethodName) prog_61_method_5_code 2 (some .int) :: ws) ({ frames := 2, cells := 0, slots := 0, locals := 40 } : Room)) (fun as' U => as' = #[(.long q0)] ∧ Z.Warmed39 U.vm ∧ U.heap = h0) (fun _ _ _ _ _ => True) (fun _ U o U' => ∃ v L, o = .returned v ∧ QLB Z q0 h0 n0 v U'.heap L ∧ FrameEnd U o U' L ({ frames := 2, cells := 0, slots := 0, locals := 40 } : Room).cells ({ frames := 2, cells := 0, slots := 0, locals := 40 } : Room).slots) := by
  refine MetFree.of_bodySF (plainFor_of_name pn_2) hisR ?_
  intro p e s m args below meth c s₁ Bd hml0 hP hK
  obtain ⟨rfl, hZ, hh⟩ := hP
  have hx := Bd.exec
  have hby := Bd.bytes
  have hml : c.maxLocals = 2 := hml0
  have hown : s.vm.findClass "com/example/maxhue/maxhue/PointSet" = some m.cls := findClass_of_methodNamed Bd.named
  have hnm := (name_of_methodNamed Bd.named Bd.method).1
  have hlk : meth.locks = false := Bd.notSynchronized
  have hret := Bd.returns
  have X0 : Stand p l e ({ frames := 2, cells := 0, slots := 0, locals := 40 } : Room) s m #[(.long q0)] below meth c s₁ [] 0 0 := Stand.of_body Bd
  have e0 : s₁.heap = h0 := by rw [← hh, Bd.state]; rfl
  have N0 := Fr.nil n0
  show Go p e below s₁ (entryFrame m #[(.long q0)] 2) (Fin s (QLB Z q0 h0 n0) ({ frames := 2, cells := 0, slots := 0, locals := 40 } : Room).cells ({ frames := 2, cells := 0, slots := 0, locals := 40 } : Room).slots)
  rw [ef_rmLB]
  show Go p e below s₁ (mkF m 0 #[.val (.long q0), .second] []) _
  refine Go.step (fun _ => XS.bipush X0.here hx rfl (hb hby d7_0)) ?_
  show Go p e below s₁ (mkF m 2 #[.val (.long q0), .second] [(.int (63 : Int32))]) _
  refine Go.step (fun _ => XS.lloadN X0.here hx rfl (hb hby d7_2) rfl ) ?_
  show Go p e below s₁ (mkF m 3 #[.val (.long q0), .second] [(.long q0), (.int (63 : Int32))]) _
  obtain ⟨_, _, ⟨T3, L3, k3, n3⟩, -, X3, ⟨Lc3, hQ3, l3, y3, z3⟩, st3⟩ := Jvm.LawKit.callS X0 hx (y := (⟨"java/lang/Long", "numberOfLeadingZeros", "(J)I"⟩ : MethodName)) hown (mvT hZ (hw _ (List.mem_of_getElem? (i := 39) rfl))) (mvT hZ (hw _ (List.mem_of_getElem? (i := 40) rfl))) (mvT hZ (hw _ (List.mem_of_getElem? (i := 41) rfl))) (mvT hZ (hw _ (List.mem_of_getElem? (i := 42) rfl))) (by decide) (backOf (W := 1) (rmN64 l Z a0 hw [] q0 h0 n0 Z0) hZ (hw _ (List.mem_of_getElem? (i := 42) rfl)) (hw _ (List.mem_of_getElem? (i := 41) rfl)) (by decide) (by decide)) (g := (mkF m 3 #[.val (.long q0), .second] [(.long q0), (.int (63 : Int32))])) rfl (by rw [hml]; rfl) (argsL := [(.long q0)]) (rest := [(.int (63 : Int32))]) (lenOf pd_1 rfl) rfl (by show 2 * 0 + _ ≤ _; exact Nat.le_of_eq rfl) (hb hby d7_3) (fun _ _ => ⟨rfl, e0, (by decide : 0 + 0 ≤ _), (by decide : 0 + 0 ≤ _)⟩)
  dsimp only [Pt.U, Pt.locs, Pt.cells, Pt.slots] at X3 l3 y3 z3 st3 hQ3
  subst l3 y3 z3
  obtain ⟨rfl, Nq3, eh3⟩ := hQ3
  have N3 := Fr.app N0 Nq3
  refine Go.step st3 ?_
  show Go p e below T3 (mkF m 6 #[.val (.long q0), .second] [(.int (nlz64 q0)), (.int (63 : Int32))]) _
  refine Go.step (fun _ => XS.isub X3.here hx rfl (hb hby d7_6) rfl) ?_
  show Go p e below T3 (mkF m 7 #[.val (.long q0), .second] [(.int ((63 : Int32) - (nlz64 q0)))]) _
  refine Go.retI X3 hx hret hlk (hb hby d7_7) ?_ (by decide) (by decide)
  exact ⟨rfl, N3, eh3⟩
theorem d1_0 : decode prog_61_method_1_code 0 = .ok (.aload_n 0, 1) := by decide +kernel
theorem d1_1 : decode prog_61_method_1_code 1 = .ok (.invokespecial 1, 3) := by decide +kernel
theorem d1_4 : decode prog_61_method_1_code 4 = .ok (.iconst 1, 1) := by decide +kernel
theorem d1_5 : decode prog_61_method_1_code 5 = .ok (.istore_n 2, 1) := by decide +kernel
theorem d1_6 : decode prog_61_method_1_code 6 = .ok (.iload_n 1, 1) := by decide +kernel
theorem d1_7 : decode prog_61_method_1_code 7 = .ok (.istore_n 3, 1) := by decide +kernel
theorem d1_8 : decode prog_61_method_1_code 8 = .ok (.iload_n 3, 1) := by decide +kernel
theorem d1_9 : decode prog_61_method_1_code 9 = .ok (.bipush 64, 2) := by decide +kernel
theorem d1_11 : decode prog_61_method_1_code 11 = .ok (.if_icmp .le 17, 3) := by decide +kernel
theorem d1_14 : decode prog_61_method_1_code 14 = .ok (.iinc 2 1, 3) := by decide +kernel
theorem d1_17 : decode prog_61_method_1_code 17 = .ok (.iload_n 3, 1) := by decide +kernel
theorem d1_18 : decode prog_61_method_1_code 18 = .ok (.bipush 63, 2) := by decide +kernel
theorem d1_20 : decode prog_61_method_1_code 20 = .ok (.iadd, 1) := by decide +kernel
theorem d1_21 : decode prog_61_method_1_code 21 = .ok (.bipush 64, 2) := by decide +kernel
theorem d1_23 : decode prog_61_method_1_code 23 = .ok (.idiv, 1) := by decide +kernel
theorem d1_24 : decode prog_61_method_1_code 24 = .ok (.istore_n 3, 1) := by decide +kernel
theorem d1_25 : decode prog_61_method_1_code 25 = .ok (.goto (-17), 3) := by decide +kernel
theorem d1_28 : decode prog_61_method_1_code 28 = .ok (.aload_n 0, 1) := by decide +kernel
theorem d1_29 : decode prog_61_method_1_code 29 = .ok (.iload_n 2, 1) := by decide +kernel
theorem d1_30 : decode prog_61_method_1_code 30 = .ok (.anewarray 7, 3) := by decide +kernel
theorem d1_33 : decode prog_61_method_1_code 33 = .ok (.putfield 9, 3) := by decide +kernel
theorem d1_36 : decode prog_61_method_1_code 36 = .ok (.iload_n 1, 1) := by decide +kernel
theorem d1_37 : decode prog_61_method_1_code 37 = .ok (.istore_n 3, 1) := by decide +kernel
theorem d1_38 : decode prog_61_method_1_code 38 = .ok (.iconst 0, 1) := by decide +kernel
theorem d1_39 : decode prog_61_method_1_code 39 = .ok (.istore 4, 2) := by decide +kernel
theorem d1_41 : decode prog_61_method_1_code 41 = .ok (.iload 4, 2) := by decide +kernel
theorem d1_43 : decode prog_61_method_1_code 43 = .ok (.iload_n 2, 1) := by decide +kernel
theorem d1_44 : decode prog_61_method_1_code 44 = .ok (.if_icmp .ge 37, 3) := by decide +kernel
theorem d1_47 : decode prog_61_method_1_code 47 = .ok (.aload_n 0, 1) := by decide +kernel
theorem d1_48 : decode prog_61_method_1_code 48 = .ok (.getfield 9, 3) := by decide +kernel
theorem d1_51 : decode prog_61_method_1_code 51 = .ok (.iload 4, 2) := by decide +kernel
theorem d1_53 : decode prog_61_method_1_code 53 = .ok (.iconst 1, 1) := by decide +kernel
theorem d1_54 : decode prog_61_method_1_code 54 = .ok (.iload_n 3, 1) := by decide +kernel
theorem d1_55 : decode prog_61_method_1_code 55 = .ok (.bipush 63, 2) := by decide +kernel
theorem d1_57 : decode prog_61_method_1_code 57 = .ok (.iadd, 1) := by decide +kernel
theorem d1_58 : decode prog_61_method_1_code 58 = .ok (.bipush 64, 2) := by decide +kernel
theorem d1_60 : decode prog_61_method_1_code 60 = .ok (.idiv, 1) := by decide +kernel
theorem d1_61 : decode prog_61_method_1_code 61 = .ok (.invokestatic 15, 3) := by decide +kernel
theorem d1_64 : decode prog_61_method_1_code 64 = .ok (.newarray .long, 2) := by decide +kernel
theorem d1_66 : decode prog_61_method_1_code 66 = .ok (.aastore, 1) := by decide +kernel
theorem d1_67 : decode prog_61_method_1_code 67 = .ok (.iload_n 3, 1) := by decide +kernel
theorem d1_68 : decode prog_61_method_1_code 68 = .ok (.bipush 63, 2) := by decide +kernel
theorem d1_70 : decode prog_61_method_1_code 70 = .ok (.iadd, 1) := by decide +kernel
theorem d1_71 : decode prog_61_method_1_code 71 = .ok (.bipush 64, 2) := by decide +kernel
theorem d1_73 : decode prog_61_method_1_code 73 = .ok (.idiv, 1) := by decide +kernel
theorem d1_74 : decode prog_61_method_1_code 74 = .ok (.istore_n 3, 1) := by decide +kernel
theorem d1_75 : decode prog_61_method_1_code 75 = .ok (.iinc 4 1, 3) := by decide +kernel
theorem d1_78 : decode prog_61_method_1_code 78 = .ok (.goto (-37), 3) := by decide +kernel
theorem d1_81 : decode prog_61_method_1_code 81 = .ok (.return_, 1) := by decide +kernel
theorem pd_2 : parseMethodDescriptor "(II)I" = some ⟨[.int, .int], some .int⟩ := by decide +kernel
theorem ef_rmCtor (m : MethodId) (x0 : Addr) (x1 : Int32) : entryFrame m #[(.ref x0), (.int x1)] 5 = mkF m 0 #[.val (.ref x0), .val (.int x1), .unset, .unset, .unset] [] := by first | (simp [entryFrame, mkF, argsToLocals, Value.category]; done) | rfl
def QCtor (Z : State) (a1 : Addr) (N : Nat) (h0 : Heap) (n0 : Nat) (v : Option Value) (h : Heap) (L : List Loc) : Prop := v = none ∧ Fr n0 L ∧ n0 ≤ h.size ∧ ∃ A M lv, 1 ≤ M ∧ M ≤ 4 ∧ Tree Z h n0 a1 A M lv (szN N) (fun _ _ => 0) ∧ ∀ P, P / 64 < szN N (M - 1) → P / 64 = 0
set_option maxRecDepth 65536 in
set_option maxHeartbeats 40000000 in
theorem rmCtor (l : Launch) (Z : State) (a0 : Array Value) (hw : ∀ d ∈ tables_1, d.before a0 Z = true) (ws : List Jvm.Cond) (a1 : Addr) (N : Nat) (h0 : Heap) (n0 : Nat) (Z0 : n0 ≤ h0.size) (hN1 : 1 ≤ N) (hNb : N ≤ 1048576) (E1 : Exa Z h0 a1 "com/example/maxhue/maxhue/PointSet") (F1 : Fld Z h0 a1 "com/example/maxhue/maxhue/PointSet" "levels" "[[J" .null) (g1 : n0 ≤ a1) :
    MetFree l (⟨"com/example/maxhue/maxhue/PointSet", "<init>", "(I)V"⟩ : MethodName) (head1 (Jvm.Cond.code (⟨"com/example/maxhue/maxhue/PointSet", "<init>", "(I)V"⟩ : MethodName) prog_61_method_1_code 5 none :: ws) ({ frames := 1, cells := 5, slots := 16649, locals := 20 } : Room)) (fun as' U => as' = #[(.ref a1), (.int (Int32.ofNat N))] ∧ Z.Warmed39 U.vm ∧ U.heap = h0) (fun _ _ _ _ _ => True) (fun _ U o U' => ∃ v L, o = .returned v ∧ QCtor Z a1 N h0 n0 v U'.heap L ∧ FrameEnd U o U' L ({ frames := 1, cells := 5, slots := 16649, locals := 20 } : Room).cells ({ frames := 1, cells := 5, slots := 16649, locals := 20 } : Room).slots) := by
  refine MetFree.of_bodySF (plainFor_of_name pn_2) hisR ?_
  intro p e s m args below meth c s₁ Bd hml0 hP hK
  obtain ⟨rfl, hZ, hh⟩ := hP
  have hx := Bd.exec
  have hby := Bd.bytes
  have hml : c.maxLocals = 5 := hml0
  have hown : s.vm.findClass "com/example/maxhue/maxhue/PointSet" = some m.cls := findClass_of_methodNamed Bd.named
  have hnm := (name_of_methodNamed Bd.named Bd.method).1
  have hlk : meth.locks = false := Bd.notSynchronized
  have hret := Bd.returns
  have X0 : Stand p l e ({ frames := 1, cells := 5, slots := 16649, locals := 20 } : Room) s m #[(.ref a1), (.int (Int32.ofNat N))] below meth c s₁ [] 0 0 := Stand.of_body Bd
  have e0 : s₁.heap = h0 := by rw [← hh, Bd.state]; rfl
  have N0 := Fr.nil n0
  show Go p e below s₁ (entryFrame m #[(.ref a1), (.int (Int32.ofNat N))] 5) (Fin s (QCtor Z a1 N h0 n0) ({ frames := 1, cells := 5, slots := 16649, locals := 20 } : Room).cells ({ frames := 1, cells := 5, slots := 16649, locals := 20 } : Room).slots)
  rw [ef_rmCtor]
  show Go p e below s₁ (mkF m 0 #[.val (.ref a1), .val (.int (Int32.ofNat N)), .unset, .unset, .unset] []) _
  refine Go.step (fun _ => XS.aloadN X0.here hx rfl (hb hby d1_0) rfl rfl ) ?_
  show Go p e below s₁ (mkF m 1 #[.val (.ref a1), .val (.int (Int32.ofNat N)), .unset, .unset, .unset] [(.ref a1)]) _
  obtain ⟨T4, X4, e4, st4⟩ := initO X0 hx hZ hown (hw _ (List.mem_of_getElem? (i := 8) rfl)) (hw _ (List.mem_of_getElem? (i := 9) rfl)) (hw _ (List.mem_of_getElem? (i := 10) rfl)) e0 (g := (mkF m 1 #[.val (.ref a1), .val (.int (Int32.ofNat N)), .unset, .unset, .unset] [(.ref a1)])) rfl (by rw [hml]; rfl) rfl (hb hby d1_1) (by decide) (W := 0) (by show 2 * 0 + _ ≤ _; exact Nat.le_of_eq rfl) (by decide)
  refine Go.step st4 ?_
  show Go p e below T4 (mkF m 4 #[.val (.ref a1), .val (.int (Int32.ofNat N)), .unset, .unset, .unset] []) _
  refine Go.step (fun _ => XS.iconst X4.here hx rfl (hb hby d1_4)) ?_
  show Go p e below T4 (mkF m 5 #[.val (.ref a1), .val (.int (Int32.ofNat N)), .unset, .unset, .unset] [(.int (1 : Int32))]) _
  refine Go.step (fun _ => XS.istoreN X4.here hx rfl (hb hby d1_5) rfl (l' := #[.val (.ref a1), .val (.int (Int32.ofNat N)), .val (.int (1 : Int32)), .unset, .unset]) rfl) ?_
  show Go p e below T4 (mkF m 6 #[.val (.ref a1), .val (.int (Int32.ofNat N)), .val (.int (1 : Int32)), .unset, .unset] []) _
  refine Go.step (fun _ => XS.iloadN X4.here hx rfl (hb hby d1_6) rfl ) ?_
  show Go p e below T4 (mkF m 7 #[.val (.ref a1), .val (.int (Int32.ofNat N)), .val (.int (1 : Int32)), .unset, .unset] [(.int (Int32.ofNat N))]) _
  refine Go.step (fun _ => XS.istoreN X4.here hx rfl (hb hby d1_7) rfl (l' := #[.val (.ref a1), .val (.int (Int32.ofNat N)), .val (.int (1 : Int32)), .val (.int (Int32.ofNat N)), .unset]) rfl) ?_
  show Go p e below T4 (mkF m 8 #[.val (.ref a1), .val (.int (Int32.ofNat N)), .val (.int (1 : Int32)), .val (.int (Int32.ofNat N)), .unset] []) _
  refine Go.step (fun _ => XS.iloadN X4.here hx rfl (hb hby d1_8) rfl ) ?_
  show Go p e below T4 (mkF m 9 #[.val (.ref a1), .val (.int (Int32.ofNat N)), .val (.int (1 : Int32)), .val (.int (Int32.ofNat N)), .unset] [(.int (Int32.ofNat N))]) _
  refine Go.step (fun _ => XS.bipush X4.here hx rfl (hb hby d1_9)) ?_
  show Go p e below T4 (mkF m 11 #[.val (.ref a1), .val (.int (Int32.ofNat N)), .val (.int (1 : Int32)), .val (.int (Int32.ofNat N)), .unset] [(.int (64 : Int32)), (.int (Int32.ofNat N))]) _
  by_cases hb0 : (64 : Int32) < (Int32.ofNat N)
  · skip
    refine Go.step (fun _ => XS.icmpNo X4.here hx rfl (hb hby d1_11) rfl (tlt hb0).2.2.2) ?_
    show Go p e below T4 (mkF m 14 #[.val (.ref a1), .val (.int (Int32.ofNat N)), .val (.int (1 : Int32)), .val (.int (Int32.ofNat N)), .unset] []) _
    refine Go.step (fun _ => XS.iinc X4.here hx rfl (hb hby d1_14) rfl (l' := #[.val (.ref a1), .val (.int (Int32.ofNat N)), .val (.int (2 : Int32)), .val (.int (Int32.ofNat N)), .unset]) rfl) ?_
    show Go p e below T4 (mkF m 17 #[.val (.ref a1), .val (.int (Int32.ofNat N)), .val (.int (2 : Int32)), .val (.int (Int32.ofNat N)), .unset] []) _
    refine Go.step (fun _ => XS.iloadN X4.here hx rfl (hb hby d1_17) rfl ) ?_
    show Go p e below T4 (mkF m 18 #[.val (.ref a1), .val (.int (Int32.ofNat N)), .val (.int (2 : Int32)), .val (.int (Int32.ofNat N)), .unset] [(.int (Int32.ofNat N))]) _
    refine Go.step (fun _ => XS.bipush X4.here hx rfl (hb hby d1_18)) ?_
    show Go p e below T4 (mkF m 20 #[.val (.ref a1), .val (.int (Int32.ofNat N)), .val (.int (2 : Int32)), .val (.int (Int32.ofNat N)), .unset] [(.int (63 : Int32)), (.int (Int32.ofNat N))]) _
    refine Go.step (fun _ => XS.iadd X4.here hx rfl (hb hby d1_20) rfl) ?_
    show Go p e below T4 (mkF m 21 #[.val (.ref a1), .val (.int (Int32.ofNat N)), .val (.int (2 : Int32)), .val (.int (Int32.ofNat N)), .unset] [(.int ((Int32.ofNat N) + (63 : Int32)))]) _
    refine Go.step (fun _ => XS.bipush X4.here hx rfl (hb hby d1_21)) ?_
    show Go p e below T4 (mkF m 23 #[.val (.ref a1), .val (.int (Int32.ofNat N)), .val (.int (2 : Int32)), .val (.int (Int32.ofNat N)), .unset] [(.int (64 : Int32)), (.int ((Int32.ofNat N) + (63 : Int32)))]) _
    refine Go.step (fun _ => XS.idiv X4.here hx rfl (hb hby d1_23) rfl (by decide)) ?_
    show Go p e below T4 (mkF m 24 #[.val (.ref a1), .val (.int (Int32.ofNat N)), .val (.int (2 : Int32)), .val (.int (Int32.ofNat N)), .unset] [(.int (((Int32.ofNat N) + (63 : Int32)) / (64 : Int32)))]) _
    rw [show (Int32.ofNat N + (63 : Int32)) / (64 : Int32) = Int32.ofNat (szN N 0) from own_div64 (by omega)]
    show Go p e below T4 (mkF m 24 #[.val (.ref a1), .val (.int (Int32.ofNat N)), .val (.int (2 : Int32)), .val (.int (Int32.ofNat N)), .unset] [(.int (Int32.ofNat (szN N 0)))]) _
    refine Go.step (fun _ => XS.istoreN X4.here hx rfl (hb hby d1_24) rfl (l' := #[.val (.ref a1), .val (.int (Int32.ofNat N)), .val (.int (2 : Int32)), .val (.int (Int32.ofNat (szN N 0))), .unset]) rfl) ?_
    show Go p e below T4 (mkF m 25 #[.val (.ref a1), .val (.int (Int32.ofNat N)), .val (.int (2 : Int32)), .val (.int (Int32.ofNat (szN N 0))), .unset] []) _
    refine Go.step (fun _ => XS.goto X4.here hx rfl (pc0 := 25) (pc' := 8) rfl (hb hby d1_25) (by decide) (by decide)) ?_
    show Go p e below T4 (mkF m 8 #[.val (.ref a1), .val (.int (Int32.ofNat N)), .val (.int (2 : Int32)), .val (.int (Int32.ofNat (szN N 0))), .unset] []) _
    refine Go.step (fun _ => XS.iloadN X4.here hx rfl (hb hby d1_8) rfl ) ?_
    show Go p e below T4 (mkF m 9 #[.val (.ref a1), .val (.int (Int32.ofNat N)), .val (.int (2 : Int32)), .val (.int (Int32.ofNat (szN N 0))), .unset] [(.int (Int32.ofNat (szN N 0)))]) _
    refine Go.step (fun _ => XS.bipush X4.here hx rfl (hb hby d1_9)) ?_
    show Go p e below T4 (mkF m 11 #[.val (.ref a1), .val (.int (Int32.ofNat N)), .val (.int (2 : Int32)), .val (.int (Int32.ofNat (szN N 0))), .unset] [(.int (64 : Int32)), (.int (Int32.ofNat (szN N 0)))]) _
    by_cases hb1 : (64 : Int32) < (Int32.ofNat (szN N 0))
    · skip
      refine Go.step (fun _ => XS.icmpNo X4.here hx rfl (hb hby d1_11) rfl (tlt hb1).2.2.2) ?_
      show Go p e below T4 (mkF m 14 #[.val (.ref a1), .val (.int (Int32.ofNat N)), .val (.int (2 : Int32)), .val (.int (Int32.ofNat (szN N 0))), .unset] []) _
      refine Go.step (fun _ => XS.iinc X4.here hx rfl (hb hby d1_14) rfl (l' := #[.val (.ref a1), .val (.int (Int32.ofNat N)), .val (.int (3 : Int32)), .val (.int (Int32.ofNat (szN N 0))), .unset]) rfl) ?_
      show Go p e below T4 (mkF m 17 #[.val (.ref a1), .val (.int (Int32.ofNat N)), .val (.int (3 : Int32)), .val (.int (Int32.ofNat (szN N 0))), .unset] []) _
      refine Go.step (fun _ => XS.iloadN X4.here hx rfl (hb hby d1_17) rfl ) ?_
      show Go p e below T4 (mkF m 18 #[.val (.ref a1), .val (.int (Int32.ofNat N)), .val (.int (3 : Int32)), .val (.int (Int32.ofNat (szN N 0))), .unset] [(.int (Int32.ofNat (szN N 0)))]) _
      refine Go.step (fun _ => XS.bipush X4.here hx rfl (hb hby d1_18)) ?_
      show Go p e below T4 (mkF m 20 #[.val (.ref a1), .val (.int (Int32.ofNat N)), .val (.int (3 : Int32)), .val (.int (Int32.ofNat (szN N 0))), .unset] [(.int (63 : Int32)), (.int (Int32.ofNat (szN N 0)))]) _
      refine Go.step (fun _ => XS.iadd X4.here hx rfl (hb hby d1_20) rfl) ?_
      show Go p e below T4 (mkF m 21 #[.val (.ref a1), .val (.int (Int32.ofNat N)), .val (.int (3 : Int32)), .val (.int (Int32.ofNat (szN N 0))), .unset] [(.int ((Int32.ofNat (szN N 0)) + (63 : Int32)))]) _
      refine Go.step (fun _ => XS.bipush X4.here hx rfl (hb hby d1_21)) ?_
      show Go p e below T4 (mkF m 23 #[.val (.ref a1), .val (.int (Int32.ofNat N)), .val (.int (3 : Int32)), .val (.int (Int32.ofNat (szN N 0))), .unset] [(.int (64 : Int32)), (.int ((Int32.ofNat (szN N 0)) + (63 : Int32)))]) _
      refine Go.step (fun _ => XS.idiv X4.here hx rfl (hb hby d1_23) rfl (by decide)) ?_
      show Go p e below T4 (mkF m 24 #[.val (.ref a1), .val (.int (Int32.ofNat N)), .val (.int (3 : Int32)), .val (.int (Int32.ofNat (szN N 0))), .unset] [(.int (((Int32.ofNat (szN N 0)) + (63 : Int32)) / (64 : Int32)))]) _
      rw [show (Int32.ofNat (szN N 0) + (63 : Int32)) / (64 : Int32) = Int32.ofNat (szN N 1) from own_div64 (by have := own_szLe (N := N) 0; omega)]
      show Go p e below T4 (mkF m 24 #[.val (.ref a1), .val (.int (Int32.ofNat N)), .val (.int (3 : Int32)), .val (.int (Int32.ofNat (szN N 0))), .unset] [(.int (Int32.ofNat (szN N 1)))]) _
      refine Go.step (fun _ => XS.istoreN X4.here hx rfl (hb hby d1_24) rfl (l' := #[.val (.ref a1), .val (.int (Int32.ofNat N)), .val (.int (3 : Int32)), .val (.int (Int32.ofNat (szN N 1))), .unset]) rfl) ?_
      show Go p e below T4 (mkF m 25 #[.val (.ref a1), .val (.int (Int32.ofNat N)), .val (.int (3 : Int32)), .val (.int (Int32.ofNat (szN N 1))), .unset] []) _
      refine Go.step (fun _ => XS.goto X4.here hx rfl (pc0 := 25) (pc' := 8) rfl (hb hby d1_25) (by decide) (by decide)) ?_
      show Go p e below T4 (mkF m 8 #[.val (.ref a1), .val (.int (Int32.ofNat N)), .val (.int (3 : Int32)), .val (.int (Int32.ofNat (szN N 1))), .unset] []) _
      refine Go.step (fun _ => XS.iloadN X4.here hx rfl (hb hby d1_8) rfl ) ?_
      show Go p e below T4 (mkF m 9 #[.val (.ref a1), .val (.int (Int32.ofNat N)), .val (.int (3 : Int32)), .val (.int (Int32.ofNat (szN N 1))), .unset] [(.int (Int32.ofNat (szN N 1)))]) _
      refine Go.step (fun _ => XS.bipush X4.here hx rfl (hb hby d1_9)) ?_
      show Go p e below T4 (mkF m 11 #[.val (.ref a1), .val (.int (Int32.ofNat N)), .val (.int (3 : Int32)), .val (.int (Int32.ofNat (szN N 1))), .unset] [(.int (64 : Int32)), (.int (Int32.ofNat (szN N 1)))]) _
      by_cases hb2 : (64 : Int32) < (Int32.ofNat (szN N 1))
      · skip
        refine Go.step (fun _ => XS.icmpNo X4.here hx rfl (hb hby d1_11) rfl (tlt hb2).2.2.2) ?_
        show Go p e below T4 (mkF m 14 #[.val (.ref a1), .val (.int (Int32.ofNat N)), .val (.int (3 : Int32)), .val (.int (Int32.ofNat (szN N 1))), .unset] []) _
        refine Go.step (fun _ => XS.iinc X4.here hx rfl (hb hby d1_14) rfl (l' := #[.val (.ref a1), .val (.int (Int32.ofNat N)), .val (.int (4 : Int32)), .val (.int (Int32.ofNat (szN N 1))), .unset]) rfl) ?_
        show Go p e below T4 (mkF m 17 #[.val (.ref a1), .val (.int (Int32.ofNat N)), .val (.int (4 : Int32)), .val (.int (Int32.ofNat (szN N 1))), .unset] []) _
        refine Go.step (fun _ => XS.iloadN X4.here hx rfl (hb hby d1_17) rfl ) ?_
        show Go p e below T4 (mkF m 18 #[.val (.ref a1), .val (.int (Int32.ofNat N)), .val (.int (4 : Int32)), .val (.int (Int32.ofNat (szN N 1))), .unset] [(.int (Int32.ofNat (szN N 1)))]) _
        refine Go.step (fun _ => XS.bipush X4.here hx rfl (hb hby d1_18)) ?_
        show Go p e below T4 (mkF m 20 #[.val (.ref a1), .val (.int (Int32.ofNat N)), .val (.int (4 : Int32)), .val (.int (Int32.ofNat (szN N 1))), .unset] [(.int (63 : Int32)), (.int (Int32.ofNat (szN N 1)))]) _
        refine Go.step (fun _ => XS.iadd X4.here hx rfl (hb hby d1_20) rfl) ?_
        show Go p e below T4 (mkF m 21 #[.val (.ref a1), .val (.int (Int32.ofNat N)), .val (.int (4 : Int32)), .val (.int (Int32.ofNat (szN N 1))), .unset] [(.int ((Int32.ofNat (szN N 1)) + (63 : Int32)))]) _
        refine Go.step (fun _ => XS.bipush X4.here hx rfl (hb hby d1_21)) ?_
        show Go p e below T4 (mkF m 23 #[.val (.ref a1), .val (.int (Int32.ofNat N)), .val (.int (4 : Int32)), .val (.int (Int32.ofNat (szN N 1))), .unset] [(.int (64 : Int32)), (.int ((Int32.ofNat (szN N 1)) + (63 : Int32)))]) _
        refine Go.step (fun _ => XS.idiv X4.here hx rfl (hb hby d1_23) rfl (by decide)) ?_
        show Go p e below T4 (mkF m 24 #[.val (.ref a1), .val (.int (Int32.ofNat N)), .val (.int (4 : Int32)), .val (.int (Int32.ofNat (szN N 1))), .unset] [(.int (((Int32.ofNat (szN N 1)) + (63 : Int32)) / (64 : Int32)))]) _
        rw [show (Int32.ofNat (szN N 1) + (63 : Int32)) / (64 : Int32) = Int32.ofNat (szN N 2) from own_div64 (by have := own_szLe (N := N) 1; omega)]
        show Go p e below T4 (mkF m 24 #[.val (.ref a1), .val (.int (Int32.ofNat N)), .val (.int (4 : Int32)), .val (.int (Int32.ofNat (szN N 1))), .unset] [(.int (Int32.ofNat (szN N 2)))]) _
        refine Go.step (fun _ => XS.istoreN X4.here hx rfl (hb hby d1_24) rfl (l' := #[.val (.ref a1), .val (.int (Int32.ofNat N)), .val (.int (4 : Int32)), .val (.int (Int32.ofNat (szN N 2))), .unset]) rfl) ?_
        show Go p e below T4 (mkF m 25 #[.val (.ref a1), .val (.int (Int32.ofNat N)), .val (.int (4 : Int32)), .val (.int (Int32.ofNat (szN N 2))), .unset] []) _
        refine Go.step (fun _ => XS.goto X4.here hx rfl (pc0 := 25) (pc' := 8) rfl (hb hby d1_25) (by decide) (by decide)) ?_
        show Go p e below T4 (mkF m 8 #[.val (.ref a1), .val (.int (Int32.ofNat N)), .val (.int (4 : Int32)), .val (.int (Int32.ofNat (szN N 2))), .unset] []) _
        refine Go.step (fun _ => XS.iloadN X4.here hx rfl (hb hby d1_8) rfl ) ?_
        show Go p e below T4 (mkF m 9 #[.val (.ref a1), .val (.int (Int32.ofNat N)), .val (.int (4 : Int32)), .val (.int (Int32.ofNat (szN N 2))), .unset] [(.int (Int32.ofNat (szN N 2)))]) _
        refine Go.step (fun _ => XS.bipush X4.here hx rfl (hb hby d1_9)) ?_
        show Go p e below T4 (mkF m 11 #[.val (.ref a1), .val (.int (Int32.ofNat N)), .val (.int (4 : Int32)), .val (.int (Int32.ofNat (szN N 2))), .unset] [(.int (64 : Int32)), (.int (Int32.ofNat (szN N 2)))]) _
        refine Go.step (fun _ => XS.icmpYes X4.here hx rfl (pc0 := 11) (pc' := 28) rfl (hb hby d1_11) rfl (flt (fun q => by have z := (own_ltI (i := 64) (by decide) (by have := own_szLe (N := N) 2; omega)).mp q; simp only [szN] at z; omega)).2.2.2 (by decide) (by decide)) ?_
        show Go p e below T4 (mkF m 28 #[.val (.ref a1), .val (.int (Int32.ofNat N)), .val (.int (4 : Int32)), .val (.int (Int32.ofNat (szN N 2))), .unset] []) _
        refine Go.step (fun _ => XS.aloadN X4.here hx rfl (hb hby d1_28) rfl rfl ) ?_
        show Go p e below T4 (mkF m 29 #[.val (.ref a1), .val (.int (Int32.ofNat N)), .val (.int (4 : Int32)), .val (.int (Int32.ofNat (szN N 2))), .unset] [(.ref a1)]) _
        refine Go.step (fun _ => XS.iloadN X4.here hx rfl (hb hby d1_29) rfl ) ?_
        show Go p e below T4 (mkF m 30 #[.val (.ref a1), .val (.int (Int32.ofNat N)), .val (.int (4 : Int32)), .val (.int (Int32.ofNat (szN N 2))), .unset] [(.int (4 : Int32)), (.ref a1)]) _
        obtain ⟨T5, h5, k5, X5, e5, E5, A5, B5, O5, st5⟩ := newRA X4 hx hZ hown (C := "[J") (ty := .long) (by decide) (hw _ (List.mem_of_getElem? (i := 11) rfl)) (hw _ (List.mem_of_getElem? (i := 12) rfl)) e4 (g := (mkF m 30 #[.val (.ref a1), .val (.int (Int32.ofNat N)), .val (.int (4 : Int32)), .val (.int (Int32.ofNat (szN N 2))), .unset] [(.int (4 : Int32)), (.ref a1)])) rfl (hb hby d1_30) rfl (by decide) (cap := 4) (by decide) (by decide) (by decide) (by decide) (ad := "[[J") (by decide)
        obtain ⟨b5, g5⟩ : ∃ z, z = h0.size := ⟨_, rfl⟩
        rw [← g5] at A5 B5 st5
        have ne_a1_b5 : a1 ≠ b5 := Nat.ne_of_lt (Nat.lt_of_lt_of_le E1.lt (Nat.le_of_eq g5.symm))
        have g_b5 : n0 ≤ b5 := Nat.le_trans Z0 (Nat.le_of_eq g5.symm)
        have E1_q5 := E1.ext E5
        have F1_q5 := F1.ext E5
        have Z5 : n0 ≤ h5.size := Nat.le_trans Z0 E5.1
        refine Go.step st5 ?_
        have V_b5 : Arv Z h5 b5 k5 (.array .long) (4 : Int32) [.null, .null, .null, .null] .null := (Arv.new A5 (by decide)).pad (pad_rep [] .null 4)
        have sl5 : ∀ j, szN N j ≤ N + 1 := fun j => own_szLe j
        show Go p e below T5 (mkF m 33 #[.val (.ref a1), .val (.int (Int32.ofNat N)), .val (.int (4 : Int32)), .val (.int (Int32.ofNat (szN N 2))), .unset] [(.ref b5), (.ref a1)]) _
        obtain ⟨T6, h6, X6, e6, W6, st6⟩ := putF X5 hx hZ hown (host := "") (Or.inl (hw _ (List.mem_of_getElem? (i := 13) rfl))) Via.refl e5 F1_q5 E1_q5 (Or.inr ⟨(hw _ (List.mem_of_getElem? (i := 14) rfl)), rfl, hnm⟩) (hw _ (List.mem_of_getElem? (i := 3) rfl)) (ty := (.array (.array .long))) (by decide) rfl rfl (g := (mkF m 33 #[.val (.ref a1), .val (.int (Int32.ofNat N)), .val (.int (4 : Int32)), .val (.int (Int32.ofNat (szN N 2))), .unset] [(.ref b5), (.ref a1)])) rfl rfl (hb hby d1_33)
        refine Go.step st6 ?_
        have N6 := Fr.snoc X6 N0 g1
        have F_levels_a1_q6 := F1_q5.same W6
        have E1_q6 := E1_q5.wr W6
        have V_b5_q6 := V_b5.other W6 (Ne.symm ne_a1_b5)
        have Z6 : n0 ≤ h6.size := by rw [W6.size]; exact Z5
        show Go p e below T6 (mkF m 36 #[.val (.ref a1), .val (.int (Int32.ofNat N)), .val (.int (4 : Int32)), .val (.int (Int32.ofNat (szN N 2))), .unset] []) _
        refine Go.step (fun _ => XS.iloadN X6.here hx rfl (hb hby d1_36) rfl ) ?_
        show Go p e below T6 (mkF m 37 #[.val (.ref a1), .val (.int (Int32.ofNat N)), .val (.int (4 : Int32)), .val (.int (Int32.ofNat (szN N 2))), .unset] [(.int (Int32.ofNat N))]) _
        refine Go.step (fun _ => XS.istoreN X6.here hx rfl (hb hby d1_37) rfl (l' := #[.val (.ref a1), .val (.int (Int32.ofNat N)), .val (.int (4 : Int32)), .val (.int (Int32.ofNat N)), .unset]) rfl) ?_
        show Go p e below T6 (mkF m 38 #[.val (.ref a1), .val (.int (Int32.ofNat N)), .val (.int (4 : Int32)), .val (.int (Int32.ofNat N)), .unset] []) _
        refine Go.step (fun _ => XS.iconst X6.here hx rfl (hb hby d1_38)) ?_
        show Go p e below T6 (mkF m 39 #[.val (.ref a1), .val (.int (Int32.ofNat N)), .val (.int (4 : Int32)), .val (.int (Int32.ofNat N)), .unset] [(.int (0 : Int32))]) _
        refine Go.step (fun _ => XS.istore X6.here hx rfl (hb hby d1_39) rfl (l' := #[.val (.ref a1), .val (.int (Int32.ofNat N)), .val (.int (4 : Int32)), .val (.int (Int32.ofNat N)), .val (.int (0 : Int32))]) rfl) ?_
        show Go p e below T6 (mkF m 41 #[.val (.ref a1), .val (.int (Int32.ofNat N)), .val (.int (4 : Int32)), .val (.int (Int32.ofNat N)), .val (.int (0 : Int32))] []) _
        refine Go.step (fun _ => XS.iload X6.here hx rfl (hb hby d1_41) rfl ) ?_
        show Go p e below T6 (mkF m 43 #[.val (.ref a1), .val (.int (Int32.ofNat N)), .val (.int (4 : Int32)), .val (.int (Int32.ofNat N)), .val (.int (0 : Int32))] [(.int (0 : Int32))]) _
        refine Go.step (fun _ => XS.iloadN X6.here hx rfl (hb hby d1_43) rfl ) ?_
        show Go p e below T6 (mkF m 44 #[.val (.ref a1), .val (.int (Int32.ofNat N)), .val (.int (4 : Int32)), .val (.int (Int32.ofNat N)), .val (.int (0 : Int32))] [(.int (4 : Int32)), (.int (0 : Int32))]) _
        refine Go.step (fun _ => XS.icmpNo X6.here hx rfl (hb hby d1_44) rfl (tlt (by decide)).2.1) ?_
        show Go p e below T6 (mkF m 47 #[.val (.ref a1), .val (.int (Int32.ofNat N)), .val (.int (4 : Int32)), .val (.int (Int32.ofNat N)), .val (.int (0 : Int32))] []) _
        refine Go.step (fun _ => XS.aloadN X6.here hx rfl (hb hby d1_47) rfl rfl ) ?_
        show Go p e below T6 (mkF m 48 #[.val (.ref a1), .val (.int (Int32.ofNat N)), .val (.int (4 : Int32)), .val (.int (Int32.ofNat N)), .val (.int (0 : Int32))] [(.ref a1)]) _
        obtain ⟨T7, X7, e7, st7⟩ := getF X6 hx hZ hown (host := "") (Or.inl (hw _ (List.mem_of_getElem? (i := 13) rfl))) Via.refl e6 F_levels_a1_q6 (g := (mkF m 48 #[.val (.ref a1), .val (.int (Int32.ofNat N)), .val (.int (4 : Int32)), .val (.int (Int32.ofNat N)), .val (.int (0 : Int32))] [(.ref a1)])) rfl rfl (hb hby d1_48)
        refine Go.step st7 ?_
        show Go p e below T7 (mkF m 51 #[.val (.ref a1), .val (.int (Int32.ofNat N)), .val (.int (4 : Int32)), .val (.int (Int32.ofNat N)), .val (.int (0 : Int32))] [(.ref b5)]) _
        refine Go.step (fun _ => XS.iload X7.here hx rfl (hb hby d1_51) rfl ) ?_
        show Go p e below T7 (mkF m 53 #[.val (.ref a1), .val (.int (Int32.ofNat N)), .val (.int (4 : Int32)), .val (.int (Int32.ofNat N)), .val (.int (0 : Int32))] [(.int (0 : Int32)), (.ref b5)]) _
        refine Go.step (fun _ => XS.iconst X7.here hx rfl (hb hby d1_53)) ?_
        show Go p e below T7 (mkF m 54 #[.val (.ref a1), .val (.int (Int32.ofNat N)), .val (.int (4 : Int32)), .val (.int (Int32.ofNat N)), .val (.int (0 : Int32))] [(.int (1 : Int32)), (.int (0 : Int32)), (.ref b5)]) _
        refine Go.step (fun _ => XS.iloadN X7.here hx rfl (hb hby d1_54) rfl ) ?_
        show Go p e below T7 (mkF m 55 #[.val (.ref a1), .val (.int (Int32.ofNat N)), .val (.int (4 : Int32)), .val (.int (Int32.ofNat N)), .val (.int (0 : Int32))] [(.int (Int32.ofNat N)), (.int (1 : Int32)), (.int (0 : Int32)), (.ref b5)]) _
        refine Go.step (fun _ => XS.bipush X7.here hx rfl (hb hby d1_55)) ?_
        show Go p e below T7 (mkF m 57 #[.val (.ref a1), .val (.int (Int32.ofNat N)), .val (.int (4 : Int32)), .val (.int (Int32.ofNat N)), .val (.int (0 : Int32))] [(.int (63 : Int32)), (.int (Int32.ofNat N)), (.int (1 : Int32)), (.int (0 : Int32)), (.ref b5)]) _
        refine Go.step (fun _ => XS.iadd X7.here hx rfl (hb hby d1_57) rfl) ?_
        show Go p e below T7 (mkF m 58 #[.val (.ref a1), .val (.int (Int32.ofNat N)), .val (.int (4 : Int32)), .val (.int (Int32.ofNat N)), .val (.int (0 : Int32))] [(.int ((Int32.ofNat N) + (63 : Int32))), (.int (1 : Int32)), (.int (0 : Int32)), (.ref b5)]) _
        refine Go.step (fun _ => XS.bipush X7.here hx rfl (hb hby d1_58)) ?_
        show Go p e below T7 (mkF m 60 #[.val (.ref a1), .val (.int (Int32.ofNat N)), .val (.int (4 : Int32)), .val (.int (Int32.ofNat N)), .val (.int (0 : Int32))] [(.int (64 : Int32)), (.int ((Int32.ofNat N) + (63 : Int32))), (.int (1 : Int32)), (.int (0 : Int32)), (.ref b5)]) _
        refine Go.step (fun _ => XS.idiv X7.here hx rfl (hb hby d1_60) rfl (by decide)) ?_
        show Go p e below T7 (mkF m 61 #[.val (.ref a1), .val (.int (Int32.ofNat N)), .val (.int (4 : Int32)), .val (.int (Int32.ofNat N)), .val (.int (0 : Int32))] [(.int (((Int32.ofNat N) + (63 : Int32)) / (64 : Int32))), (.int (1 : Int32)), (.int (0 : Int32)), (.ref b5)]) _
        rw [show (Int32.ofNat N + (63 : Int32)) / (64 : Int32) = Int32.ofNat (szN N 0) from own_div64 (by omega)]
        show Go p e below T7 (mkF m 61 #[.val (.ref a1), .val (.int (Int32.ofNat N)), .val (.int (4 : Int32)), .val (.int (Int32.ofNat N)), .val (.int (0 : Int32))] [(.int (Int32.ofNat (szN N 0))), (.int (1 : Int32)), (.int (0 : Int32)), (.ref b5)]) _
        obtain ⟨_, _, ⟨T8, L8, k8, n8⟩, -, X8, ⟨Lc8, hQ8, l8, y8, z8⟩, st8⟩ := Jvm.LawKit.callS X7 hx (y := (⟨"java/lang/Math", "max", "(II)I"⟩ : MethodName)) hown (mvT hZ (hw _ (List.mem_of_getElem? (i := 15) rfl))) (mvT hZ (hw _ (List.mem_of_getElem? (i := 16) rfl))) (mvT hZ (hw _ (List.mem_of_getElem? (i := 17) rfl))) (mvT hZ (hw _ (List.mem_of_getElem? (i := 18) rfl))) (by decide) (backOf (W := 2) (rmMx l Z a0 hw [] (1 : Int32) (Int32.ofNat (szN N 0)) (Int32.ofNat (szN N 0)) h6 n0 Z6 (own_mx1 (by simp only [szN]; omega) (by have := own_szLe (N := N) 0; omega))) hZ (hw _ (List.mem_of_getElem? (i := 18) rfl)) (hw _ (List.mem_of_getElem? (i := 17) rfl)) (by decide) (by decide)) (g := (mkF m 61 #[.val (.ref a1), .val (.int (Int32.ofNat N)), .val (.int (4 : Int32)), .val (.int (Int32.ofNat N)), .val (.int (0 : Int32))] [(.int (Int32.ofNat (szN N 0))), (.int (1 : Int32)), (.int (0 : Int32)), (.ref b5)])) rfl (by rw [hml]; rfl) (argsL := [(.int (1 : Int32)), (.int (Int32.ofNat (szN N 0)))]) (rest := [(.int (0 : Int32)), (.ref b5)]) (lenOf pd_2 rfl) rfl (by show 2 * 0 + _ ≤ _; exact Nat.le_of_eq rfl) (hb hby d1_61) (fun _ _ => ⟨rfl, e7, (by decide : 0 + 1 + 0 ≤ _), (by decide : 0 + 4 + 0 ≤ _)⟩)
        dsimp only [Pt.U, Pt.locs, Pt.cells, Pt.slots] at X8 l8 y8 z8 st8 hQ8
        subst l8 y8 z8
        obtain ⟨rfl, Nq8, eh8⟩ := hQ8
        have N8 := Fr.app N6 Nq8
        refine Go.step st8 ?_
        show Go p e below T8 (mkF m 64 #[.val (.ref a1), .val (.int (Int32.ofNat N)), .val (.int (4 : Int32)), .val (.int (Int32.ofNat N)), .val (.int (0 : Int32))] [(.int (Int32.ofNat (szN N 0))), (.int (0 : Int32)), (.ref b5)]) _
        obtain ⟨T9, h9, k9, X9, e9, E9, A9, B9, st9⟩ := newPE X8 hx hZ (hw _ (List.mem_of_getElem? (i := 19) rfl)) eh8 (g := (mkF m 64 #[.val (.ref a1), .val (.int (Int32.ofNat N)), .val (.int (4 : Int32)), .val (.int (Int32.ofNat N)), .val (.int (0 : Int32))] [(.int (Int32.ofNat (szN N 0))), (.int (0 : Int32)), (.ref b5)])) rfl (hb hby d1_64) rfl (own_nn (by have := own_szLe (N := N) 0; omega)) (cap := 16384) (by rw [own_clamp (by have := own_szLe (N := N) 0; omega)]; simp only [szN]; omega) (by decide) (by decide) (by decide) (ad := "[J") (by decide)
        obtain ⟨b9, g9⟩ : ∃ z, z = h6.size := ⟨_, rfl⟩
        rw [← g9] at A9 B9 st9
        have ne_a1_b9 : a1 ≠ b9 := Nat.ne_of_lt (Nat.lt_of_lt_of_le E1_q6.lt (Nat.le_of_eq g9.symm))
        have ne_b5_b9 : b5 ≠ b9 := Nat.ne_of_lt (Nat.lt_of_lt_of_le V_b5_q6.lt (Nat.le_of_eq g9.symm))
        have g_b9 : n0 ≤ b9 := Nat.le_trans Z6 (Nat.le_of_eq g9.symm)
        have E1_q9 := E1_q6.ext E9
        have V_b5_q9 := V_b5_q6.ext E9
        have F_levels_a1_q9 := F_levels_a1_q6.ext E9
        have Z9 : n0 ≤ h9.size := Nat.le_trans Z6 E9.1
        refine Go.step st9 ?_
        have V_b9 : Af Z h9 b9 (szN N 0) (fun _ => 0) := Af.new A9 (by have := own_szLe (N := N) 0; omega)
        show Go p e below T9 (mkF m 66 #[.val (.ref a1), .val (.int (Int32.ofNat N)), .val (.int (4 : Int32)), .val (.int (Int32.ofNat N)), .val (.int (0 : Int32))] [(.ref b9), (.int (0 : Int32)), (.ref b5)]) _
        obtain ⟨cl10, Ar10, qa10, Sz10, Nz10, Ha10, Ga10⟩ := V_b5_q9
        obtain ⟨T11, h11, X11, e11, W11, st11⟩ := stR X9 hx hZ e9 Ar10 (j := (0 : Int32)) (inb_of Sz10 ⟨by decide, by decide⟩) rfl (Sto.ofVA Ar10 qa10 O5 (Ins.self B9)) (g := (mkF m 66 #[.val (.ref a1), .val (.int (Int32.ofNat N)), .val (.int (4 : Int32)), .val (.int (Int32.ofNat N)), .val (.int (0 : Int32))] [(.ref b9), (.int (0 : Int32)), (.ref b5)])) rfl rfl (hb hby d1_66)
        refine Go.step st11 ?_
        have N11 := Fr.snoc X11 N8 g_b5
        have V_b5_q11 : Arv Z h11 b5 k5 (.array .long) (4 : Int32) [(.ref b9), .null, .null, .null] .null := Arv.set Ar10 qa10 Sz10 Nz10 Ha10 Ga10 rfl W11 0 rfl (Nat.le_of_ble_eq_true rfl)
        have E1_q11 := E1_q9.wr W11
        have F_levels_a1_q11 := F_levels_a1_q9.other W11 (Or.inl ne_a1_b5)
        have V_b9_q11 := V_b9.other W11 (Ne.symm ne_b5_b9)
        have Z11 : n0 ≤ h11.size := by rw [W11.size]; exact Z9
        show Go p e below T11 (mkF m 67 #[.val (.ref a1), .val (.int (Int32.ofNat N)), .val (.int (4 : Int32)), .val (.int (Int32.ofNat N)), .val (.int (0 : Int32))] []) _
        refine Go.step (fun _ => XS.iloadN X11.here hx rfl (hb hby d1_67) rfl ) ?_
        show Go p e below T11 (mkF m 68 #[.val (.ref a1), .val (.int (Int32.ofNat N)), .val (.int (4 : Int32)), .val (.int (Int32.ofNat N)), .val (.int (0 : Int32))] [(.int (Int32.ofNat N))]) _
        refine Go.step (fun _ => XS.bipush X11.here hx rfl (hb hby d1_68)) ?_
        show Go p e below T11 (mkF m 70 #[.val (.ref a1), .val (.int (Int32.ofNat N)), .val (.int (4 : Int32)), .val (.int (Int32.ofNat N)), .val (.int (0 : Int32))] [(.int (63 : Int32)), (.int (Int32.ofNat N))]) _
        refine Go.step (fun _ => XS.iadd X11.here hx rfl (hb hby d1_70) rfl) ?_
        show Go p e below T11 (mkF m 71 #[.val (.ref a1), .val (.int (Int32.ofNat N)), .val (.int (4 : Int32)), .val (.int (Int32.ofNat N)), .val (.int (0 : Int32))] [(.int ((Int32.ofNat N) + (63 : Int32)))]) _
        refine Go.step (fun _ => XS.bipush X11.here hx rfl (hb hby d1_71)) ?_
        show Go p e below T11 (mkF m 73 #[.val (.ref a1), .val (.int (Int32.ofNat N)), .val (.int (4 : Int32)), .val (.int (Int32.ofNat N)), .val (.int (0 : Int32))] [(.int (64 : Int32)), (.int ((Int32.ofNat N) + (63 : Int32)))]) _
        refine Go.step (fun _ => XS.idiv X11.here hx rfl (hb hby d1_73) rfl (by decide)) ?_
        show Go p e below T11 (mkF m 74 #[.val (.ref a1), .val (.int (Int32.ofNat N)), .val (.int (4 : Int32)), .val (.int (Int32.ofNat N)), .val (.int (0 : Int32))] [(.int (((Int32.ofNat N) + (63 : Int32)) / (64 : Int32)))]) _
        rw [show (Int32.ofNat N + (63 : Int32)) / (64 : Int32) = Int32.ofNat (szN N 0) from own_div64 (by omega)]
        show Go p e below T11 (mkF m 74 #[.val (.ref a1), .val (.int (Int32.ofNat N)), .val (.int (4 : Int32)), .val (.int (Int32.ofNat N)), .val (.int (0 : Int32))] [(.int (Int32.ofNat (szN N 0)))]) _
        refine Go.step (fun _ => XS.istoreN X11.here hx rfl (hb hby d1_74) rfl (l' := #[.val (.ref a1), .val (.int (Int32.ofNat N)), .val (.int (4 : Int32)), .val (.int (Int32.ofNat (szN N 0))), .val (.int (0 : Int32))]) rfl) ?_
        show Go p e below T11 (mkF m 75 #[.val (.ref a1), .val (.int (Int32.ofNat N)), .val (.int (4 : Int32)), .val (.int (Int32.ofNat (szN N 0))), .val (.int (0 : Int32))] []) _
        refine Go.step (fun _ => XS.iinc X11.here hx rfl (hb hby d1_75) rfl (l' := #[.val (.ref a1), .val (.int (Int32.ofNat N)), .val (.int (4 : Int32)), .val (.int (Int32.ofNat (szN N 0))), .val (.int (1 : Int32))]) rfl) ?_
        show Go p e below T11 (mkF m 78 #[.val (.ref a1), .val (.int (Int32.ofNat N)), .val (.int (4 : Int32)), .val (.int (Int32.ofNat (szN N 0))), .val (.int (1 : Int32))] []) _
        refine Go.step (fun _ => XS.goto X11.here hx rfl (pc0 := 78) (pc' := 41) rfl (hb hby d1_78) (by decide) (by decide)) ?_
        show Go p e below T11 (mkF m 41 #[.val (.ref a1), .val (.int (Int32.ofNat N)), .val (.int (4 : Int32)), .val (.int (Int32.ofNat (szN N 0))), .val (.int (1 : Int32))] []) _
        refine Go.step (fun _ => XS.iload X11.here hx rfl (hb hby d1_41) rfl ) ?_
        show Go p e below T11 (mkF m 43 #[.val (.ref a1), .val (.int (Int32.ofNat N)), .val (.int (4 : Int32)), .val (.int (Int32.ofNat (szN N 0))), .val (.int (1 : Int32))] [(.int (1 : Int32))]) _
        refine Go.step (fun _ => XS.iloadN X11.here hx rfl (hb hby d1_43) rfl ) ?_
        show Go p e below T11 (mkF m 44 #[.val (.ref a1), .val (.int (Int32.ofNat N)), .val (.int (4 : Int32)), .val (.int (Int32.ofNat (szN N 0))), .val (.int (1 : Int32))] [(.int (4 : Int32)), (.int (1 : Int32))]) _
        refine Go.step (fun _ => XS.icmpNo X11.here hx rfl (hb hby d1_44) rfl (tlt (by decide)).2.1) ?_
        show Go p e below T11 (mkF m 47 #[.val (.ref a1), .val (.int (Int32.ofNat N)), .val (.int (4 : Int32)), .val (.int (Int32.ofNat (szN N 0))), .val (.int (1 : Int32))] []) _
        refine Go.step (fun _ => XS.aloadN X11.here hx rfl (hb hby d1_47) rfl rfl ) ?_
        show Go p e below T11 (mkF m 48 #[.val (.ref a1), .val (.int (Int32.ofNat N)), .val (.int (4 : Int32)), .val (.int (Int32.ofNat (szN N 0))), .val (.int (1 : Int32))] [(.ref a1)]) _
        obtain ⟨T12, X12, e12, st12⟩ := getF X11 hx hZ hown (host := "") (Or.inl (hw _ (List.mem_of_getElem? (i := 13) rfl))) Via.refl e11 F_levels_a1_q11 (g := (mkF m 48 #[.val (.ref a1), .val (.int (Int32.ofNat N)), .val (.int (4 : Int32)), .val (.int (Int32.ofNat (szN N 0))), .val (.int (1 : Int32))] [(.ref a1)])) rfl rfl (hb hby d1_48)
        refine Go.step st12 ?_
        show Go p e below T12 (mkF m 51 #[.val (.ref a1), .val (.int (Int32.ofNat N)), .val (.int (4 : Int32)), .val (.int (Int32.ofNat (szN N 0))), .val (.int (1 : Int32))] [(.ref b5)]) _
        refine Go.step (fun _ => XS.iload X12.here hx rfl (hb hby d1_51) rfl ) ?_
        show Go p e below T12 (mkF m 53 #[.val (.ref a1), .val (.int (Int32.ofNat N)), .val (.int (4 : Int32)), .val (.int (Int32.ofNat (szN N 0))), .val (.int (1 : Int32))] [(.int (1 : Int32)), (.ref b5)]) _
        refine Go.step (fun _ => XS.iconst X12.here hx rfl (hb hby d1_53)) ?_
        show Go p e below T12 (mkF m 54 #[.val (.ref a1), .val (.int (Int32.ofNat N)), .val (.int (4 : Int32)), .val (.int (Int32.ofNat (szN N 0))), .val (.int (1 : Int32))] [(.int (1 : Int32)), (.int (1 : Int32)), (.ref b5)]) _
        refine Go.step (fun _ => XS.iloadN X12.here hx rfl (hb hby d1_54) rfl ) ?_
        show Go p e below T12 (mkF m 55 #[.val (.ref a1), .val (.int (Int32.ofNat N)), .val (.int (4 : Int32)), .val (.int (Int32.ofNat (szN N 0))), .val (.int (1 : Int32))] [(.int (Int32.ofNat (szN N 0))), (.int (1 : Int32)), (.int (1 : Int32)), (.ref b5)]) _
        refine Go.step (fun _ => XS.bipush X12.here hx rfl (hb hby d1_55)) ?_
        show Go p e below T12 (mkF m 57 #[.val (.ref a1), .val (.int (Int32.ofNat N)), .val (.int (4 : Int32)), .val (.int (Int32.ofNat (szN N 0))), .val (.int (1 : Int32))] [(.int (63 : Int32)), (.int (Int32.ofNat (szN N 0))), (.int (1 : Int32)), (.int (1 : Int32)), (.ref b5)]) _
        refine Go.step (fun _ => XS.iadd X12.here hx rfl (hb hby d1_57) rfl) ?_
        show Go p e below T12 (mkF m 58 #[.val (.ref a1), .val (.int (Int32.ofNat N)), .val (.int (4 : Int32)), .val (.int (Int32.ofNat (szN N 0))), .val (.int (1 : Int32))] [(.int ((Int32.ofNat (szN N 0)) + (63 : Int32))), (.int (1 : Int32)), (.int (1 : Int32)), (.ref b5)]) _
        refine Go.step (fun _ => XS.bipush X12.here hx rfl (hb hby d1_58)) ?_
        show Go p e below T12 (mkF m 60 #[.val (.ref a1), .val (.int (Int32.ofNat N)), .val (.int (4 : Int32)), .val (.int (Int32.ofNat (szN N 0))), .val (.int (1 : Int32))] [(.int (64 : Int32)), (.int ((Int32.ofNat (szN N 0)) + (63 : Int32))), (.int (1 : Int32)), (.int (1 : Int32)), (.ref b5)]) _
        refine Go.step (fun _ => XS.idiv X12.here hx rfl (hb hby d1_60) rfl (by decide)) ?_
        show Go p e below T12 (mkF m 61 #[.val (.ref a1), .val (.int (Int32.ofNat N)), .val (.int (4 : Int32)), .val (.int (Int32.ofNat (szN N 0))), .val (.int (1 : Int32))] [(.int (((Int32.ofNat (szN N 0)) + (63 : Int32)) / (64 : Int32))), (.int (1 : Int32)), (.int (1 : Int32)), (.ref b5)]) _
        rw [show (Int32.ofNat (szN N 0) + (63 : Int32)) / (64 : Int32) = Int32.ofNat (szN N 1) from own_div64 (by have := own_szLe (N := N) 0; omega)]
        show Go p e below T12 (mkF m 61 #[.val (.ref a1), .val (.int (Int32.ofNat N)), .val (.int (4 : Int32)), .val (.int (Int32.ofNat (szN N 0))), .val (.int (1 : Int32))] [(.int (Int32.ofNat (szN N 1))), (.int (1 : Int32)), (.int (1 : Int32)), (.ref b5)]) _
        obtain ⟨_, _, ⟨T13, L13, k13, n13⟩, -, X13, ⟨Lc13, hQ13, l13, y13, z13⟩, st13⟩ := Jvm.LawKit.callS X12 hx (y := (⟨"java/lang/Math", "max", "(II)I"⟩ : MethodName)) hown (mvT hZ (hw _ (List.mem_of_getElem? (i := 15) rfl))) (mvT hZ (hw _ (List.mem_of_getElem? (i := 16) rfl))) (mvT hZ (hw _ (List.mem_of_getElem? (i := 17) rfl))) (mvT hZ (hw _ (List.mem_of_getElem? (i := 18) rfl))) (by decide) (backOf (W := 2) (rmMx l Z a0 hw [] (1 : Int32) (Int32.ofNat (szN N 1)) (Int32.ofNat (szN N 1)) h11 n0 Z11 (own_mx1 (by simp only [szN]; omega) (by have := own_szLe (N := N) 1; omega))) hZ (hw _ (List.mem_of_getElem? (i := 18) rfl)) (hw _ (List.mem_of_getElem? (i := 17) rfl)) (by decide) (by decide)) (g := (mkF m 61 #[.val (.ref a1), .val (.int (Int32.ofNat N)), .val (.int (4 : Int32)), .val (.int (Int32.ofNat (szN N 0))), .val (.int (1 : Int32))] [(.int (Int32.ofNat (szN N 1))), (.int (1 : Int32)), (.int (1 : Int32)), (.ref b5)])) rfl (by rw [hml]; rfl) (argsL := [(.int (1 : Int32)), (.int (Int32.ofNat (szN N 1)))]) (rest := [(.int (1 : Int32)), (.ref b5)]) (lenOf pd_2 rfl) rfl (by show 2 * 0 + _ ≤ _; exact Nat.le_of_eq rfl) (hb hby d1_61) (fun _ _ => ⟨rfl, e12, (by decide : 0 + 1 + 0 + 1 + 0 ≤ _), (by decide : 0 + 4 + 0 + 16384 + 0 ≤ _)⟩)
        dsimp only [Pt.U, Pt.locs, Pt.cells, Pt.slots] at X13 l13 y13 z13 st13 hQ13
        subst l13 y13 z13
        obtain ⟨rfl, Nq13, eh13⟩ := hQ13
        have N13 := Fr.app N11 Nq13
        refine Go.step st13 ?_
        show Go p e below T13 (mkF m 64 #[.val (.ref a1), .val (.int (Int32.ofNat N)), .val (.int (4 : Int32)), .val (.int (Int32.ofNat (szN N 0))), .val (.int (1 : Int32))] [(.int (Int32.ofNat (szN N 1))), (.int (1 : Int32)), (.ref b5)]) _
        obtain ⟨T14, h14, k14, X14, e14, E14, A14, B14, st14⟩ := newPE X13 hx hZ (hw _ (List.mem_of_getElem? (i := 19) rfl)) eh13 (g := (mkF m 64 #[.val (.ref a1), .val (.int (Int32.ofNat N)), .val (.int (4 : Int32)), .val (.int (Int32.ofNat (szN N 0))), .val (.int (1 : Int32))] [(.int (Int32.ofNat (szN N 1))), (.int (1 : Int32)), (.ref b5)])) rfl (hb hby d1_64) rfl (own_nn (by have := own_szLe (N := N) 1; omega)) (cap := 256) (by rw [own_clamp (by have := own_szLe (N := N) 1; omega)]; simp only [szN]; omega) (by decide) (by decide) (by decide) (ad := "[J") (by decide)
        obtain ⟨b14, g14⟩ : ∃ z, z = h11.size := ⟨_, rfl⟩
        rw [← g14] at A14 B14 st14
        have ne_a1_b14 : a1 ≠ b14 := Nat.ne_of_lt (Nat.lt_of_lt_of_le E1_q11.lt (Nat.le_of_eq g14.symm))
        have ne_b9_b14 : b9 ≠ b14 := Nat.ne_of_lt (Nat.lt_of_lt_of_le V_b9_q11.lt (Nat.le_of_eq g14.symm))
        have ne_b5_b14 : b5 ≠ b14 := Nat.ne_of_lt (Nat.lt_of_lt_of_le V_b5_q11.lt (Nat.le_of_eq g14.symm))
        have g_b14 : n0 ≤ b14 := Nat.le_trans Z11 (Nat.le_of_eq g14.symm)
        have E1_q14 := E1_q11.ext E14
        have F_levels_a1_q14 := F_levels_a1_q11.ext E14
        have V_b9_q14 := V_b9_q11.ext E14
        have V_b5_q14 := V_b5_q11.ext E14
        have Z14 : n0 ≤ h14.size := Nat.le_trans Z11 E14.1
        refine Go.step st14 ?_
        have V_b14 : Af Z h14 b14 (szN N 1) (fun _ => 0) := Af.new A14 (by have := own_szLe (N := N) 1; omega)
        show Go p e below T14 (mkF m 66 #[.val (.ref a1), .val (.int (Int32.ofNat N)), .val (.int (4 : Int32)), .val (.int (Int32.ofNat (szN N 0))), .val (.int (1 : Int32))] [(.ref b14), (.int (1 : Int32)), (.ref b5)]) _
        obtain ⟨cl15, Ar15, qa15, Sz15, Nz15, Ha15, Ga15⟩ := V_b5_q14
        obtain ⟨T16, h16, X16, e16, W16, st16⟩ := stR X14 hx hZ e14 Ar15 (j := (1 : Int32)) (inb_of Sz15 ⟨by decide, by decide⟩) rfl (Sto.ofVA Ar15 qa15 O5 (Ins.self B14)) (g := (mkF m 66 #[.val (.ref a1), .val (.int (Int32.ofNat N)), .val (.int (4 : Int32)), .val (.int (Int32.ofNat (szN N 0))), .val (.int (1 : Int32))] [(.ref b14), (.int (1 : Int32)), (.ref b5)])) rfl rfl (hb hby d1_66)
        refine Go.step st16 ?_
        have N16 := Fr.snoc X16 N13 g_b5
        have V_b5_q16 : Arv Z h16 b5 k5 (.array .long) (4 : Int32) [(.ref b9), (.ref b14), .null, .null] .null := Arv.set Ar15 qa15 Sz15 Nz15 Ha15 Ga15 rfl W16 1 rfl (Nat.le_of_ble_eq_true rfl)
        have E1_q16 := E1_q14.wr W16
        have F_levels_a1_q16 := F_levels_a1_q14.other W16 (Or.inl ne_a1_b5)
        have V_b9_q16 := V_b9_q14.other W16 (Ne.symm ne_b5_b9)
        have V_b14_q16 := V_b14.other W16 (Ne.symm ne_b5_b14)
        have Z16 : n0 ≤ h16.size := by rw [W16.size]; exact Z14
        show Go p e below T16 (mkF m 67 #[.val (.ref a1), .val (.int (Int32.ofNat N)), .val (.int (4 : Int32)), .val (.int (Int32.ofNat (szN N 0))), .val (.int (1 : Int32))] []) _
        refine Go.step (fun _ => XS.iloadN X16.here hx rfl (hb hby d1_67) rfl ) ?_
        show Go p e below T16 (mkF m 68 #[.val (.ref a1), .val (.int (Int32.ofNat N)), .val (.int (4 : Int32)), .val (.int (Int32.ofNat (szN N 0))), .val (.int (1 : Int32))] [(.int (Int32.ofNat (szN N 0)))]) _
        refine Go.step (fun _ => XS.bipush X16.here hx rfl (hb hby d1_68)) ?_
        show Go p e below T16 (mkF m 70 #[.val (.ref a1), .val (.int (Int32.ofNat N)), .val (.int (4 : Int32)), .val (.int (Int32.ofNat (szN N 0))), .val (.int (1 : Int32))] [(.int (63 : Int32)), (.int (Int32.ofNat (szN N 0)))]) _
        refine Go.step (fun _ => XS.iadd X16.here hx rfl (hb hby d1_70) rfl) ?_
        show Go p e below T16 (mkF m 71 #[.val (.ref a1), .val (.int (Int32.ofNat N)), .val (.int (4 : Int32)), .val (.int (Int32.ofNat (szN N 0))), .val (.int (1 : Int32))] [(.int ((Int32.ofNat (szN N 0)) + (63 : Int32)))]) _
        refine Go.step (fun _ => XS.bipush X16.here hx rfl (hb hby d1_71)) ?_
        show Go p e below T16 (mkF m 73 #[.val (.ref a1), .val (.int (Int32.ofNat N)), .val (.int (4 : Int32)), .val (.int (Int32.ofNat (szN N 0))), .val (.int (1 : Int32))] [(.int (64 : Int32)), (.int ((Int32.ofNat (szN N 0)) + (63 : Int32)))]) _
        refine Go.step (fun _ => XS.idiv X16.here hx rfl (hb hby d1_73) rfl (by decide)) ?_
        show Go p e below T16 (mkF m 74 #[.val (.ref a1), .val (.int (Int32.ofNat N)), .val (.int (4 : Int32)), .val (.int (Int32.ofNat (szN N 0))), .val (.int (1 : Int32))] [(.int (((Int32.ofNat (szN N 0)) + (63 : Int32)) / (64 : Int32)))]) _
        rw [show (Int32.ofNat (szN N 0) + (63 : Int32)) / (64 : Int32) = Int32.ofNat (szN N 1) from own_div64 (by have := own_szLe (N := N) 0; omega)]
        show Go p e below T16 (mkF m 74 #[.val (.ref a1), .val (.int (Int32.ofNat N)), .val (.int (4 : Int32)), .val (.int (Int32.ofNat (szN N 0))), .val (.int (1 : Int32))] [(.int (Int32.ofNat (szN N 1)))]) _
        refine Go.step (fun _ => XS.istoreN X16.here hx rfl (hb hby d1_74) rfl (l' := #[.val (.ref a1), .val (.int (Int32.ofNat N)), .val (.int (4 : Int32)), .val (.int (Int32.ofNat (szN N 1))), .val (.int (1 : Int32))]) rfl) ?_
        show Go p e below T16 (mkF m 75 #[.val (.ref a1), .val (.int (Int32.ofNat N)), .val (.int (4 : Int32)), .val (.int (Int32.ofNat (szN N 1))), .val (.int (1 : Int32))] []) _
        refine Go.step (fun _ => XS.iinc X16.here hx rfl (hb hby d1_75) rfl (l' := #[.val (.ref a1), .val (.int (Int32.ofNat N)), .val (.int (4 : Int32)), .val (.int (Int32.ofNat (szN N 1))), .val (.int (2 : Int32))]) rfl) ?_
        show Go p e below T16 (mkF m 78 #[.val (.ref a1), .val (.int (Int32.ofNat N)), .val (.int (4 : Int32)), .val (.int (Int32.ofNat (szN N 1))), .val (.int (2 : Int32))] []) _
        refine Go.step (fun _ => XS.goto X16.here hx rfl (pc0 := 78) (pc' := 41) rfl (hb hby d1_78) (by decide) (by decide)) ?_
        show Go p e below T16 (mkF m 41 #[.val (.ref a1), .val (.int (Int32.ofNat N)), .val (.int (4 : Int32)), .val (.int (Int32.ofNat (szN N 1))), .val (.int (2 : Int32))] []) _
        refine Go.step (fun _ => XS.iload X16.here hx rfl (hb hby d1_41) rfl ) ?_
        show Go p e below T16 (mkF m 43 #[.val (.ref a1), .val (.int (Int32.ofNat N)), .val (.int (4 : Int32)), .val (.int (Int32.ofNat (szN N 1))), .val (.int (2 : Int32))] [(.int (2 : Int32))]) _
        refine Go.step (fun _ => XS.iloadN X16.here hx rfl (hb hby d1_43) rfl ) ?_
        show Go p e below T16 (mkF m 44 #[.val (.ref a1), .val (.int (Int32.ofNat N)), .val (.int (4 : Int32)), .val (.int (Int32.ofNat (szN N 1))), .val (.int (2 : Int32))] [(.int (4 : Int32)), (.int (2 : Int32))]) _
        refine Go.step (fun _ => XS.icmpNo X16.here hx rfl (hb hby d1_44) rfl (tlt (by decide)).2.1) ?_
        show Go p e below T16 (mkF m 47 #[.val (.ref a1), .val (.int (Int32.ofNat N)), .val (.int (4 : Int32)), .val (.int (Int32.ofNat (szN N 1))), .val (.int (2 : Int32))] []) _
        refine Go.step (fun _ => XS.aloadN X16.here hx rfl (hb hby d1_47) rfl rfl ) ?_
        show Go p e below T16 (mkF m 48 #[.val (.ref a1), .val (.int (Int32.ofNat N)), .val (.int (4 : Int32)), .val (.int (Int32.ofNat (szN N 1))), .val (.int (2 : Int32))] [(.ref a1)]) _
        obtain ⟨T17, X17, e17, st17⟩ := getF X16 hx hZ hown (host := "") (Or.inl (hw _ (List.mem_of_getElem? (i := 13) rfl))) Via.refl e16 F_levels_a1_q16 (g := (mkF m 48 #[.val (.ref a1), .val (.int (Int32.ofNat N)), .val (.int (4 : Int32)), .val (.int (Int32.ofNat (szN N 1))), .val (.int (2 : Int32))] [(.ref a1)])) rfl rfl (hb hby d1_48)
        refine Go.step st17 ?_
        show Go p e below T17 (mkF m 51 #[.val (.ref a1), .val (.int (Int32.ofNat N)), .val (.int (4 : Int32)), .val (.int (Int32.ofNat (szN N 1))), .val (.int (2 : Int32))] [(.ref b5)]) _
        refine Go.step (fun _ => XS.iload X17.here hx rfl (hb hby d1_51) rfl ) ?_
        show Go p e below T17 (mkF m 53 #[.val (.ref a1), .val (.int (Int32.ofNat N)), .val (.int (4 : Int32)), .val (.int (Int32.ofNat (szN N 1))), .val (.int (2 : Int32))] [(.int (2 : Int32)), (.ref b5)]) _
        refine Go.step (fun _ => XS.iconst X17.here hx rfl (hb hby d1_53)) ?_
        show Go p e below T17 (mkF m 54 #[.val (.ref a1), .val (.int (Int32.ofNat N)), .val (.int (4 : Int32)), .val (.int (Int32.ofNat (szN N 1))), .val (.int (2 : Int32))] [(.int (1 : Int32)), (.int (2 : Int32)), (.ref b5)]) _
        refine Go.step (fun _ => XS.iloadN X17.here hx rfl (hb hby d1_54) rfl ) ?_
        show Go p e below T17 (mkF m 55 #[.val (.ref a1), .val (.int (Int32.ofNat N)), .val (.int (4 : Int32)), .val (.int (Int32.ofNat (szN N 1))), .val (.int (2 : Int32))] [(.int (Int32.ofNat (szN N 1))), (.int (1 : Int32)), (.int (2 : Int32)), (.ref b5)]) _
        refine Go.step (fun _ => XS.bipush X17.here hx rfl (hb hby d1_55)) ?_
        show Go p e below T17 (mkF m 57 #[.val (.ref a1), .val (.int (Int32.ofNat N)), .val (.int (4 : Int32)), .val (.int (Int32.ofNat (szN N 1))), .val (.int (2 : Int32))] [(.int (63 : Int32)), (.int (Int32.ofNat (szN N 1))), (.int (1 : Int32)), (.int (2 : Int32)), (.ref b5)]) _
        refine Go.step (fun _ => XS.iadd X17.here hx rfl (hb hby d1_57) rfl) ?_
        show Go p e below T17 (mkF m 58 #[.val (.ref a1), .val (.int (Int32.ofNat N)), .val (.int (4 : Int32)), .val (.int (Int32.ofNat (szN N 1))), .val (.int (2 : Int32))] [(.int ((Int32.ofNat (szN N 1)) + (63 : Int32))), (.int (1 : Int32)), (.int (2 : Int32)), (.ref b5)]) _
        refine Go.step (fun _ => XS.bipush X17.here hx rfl (hb hby d1_58)) ?_
        show Go p e below T17 (mkF m 60 #[.val (.ref a1), .val (.int (Int32.ofNat N)), .val (.int (4 : Int32)), .val (.int (Int32.ofNat (szN N 1))), .val (.int (2 : Int32))] [(.int (64 : Int32)), (.int ((Int32.ofNat (szN N 1)) + (63 : Int32))), (.int (1 : Int32)), (.int (2 : Int32)), (.ref b5)]) _
        refine Go.step (fun _ => XS.idiv X17.here hx rfl (hb hby d1_60) rfl (by decide)) ?_
        show Go p e below T17 (mkF m 61 #[.val (.ref a1), .val (.int (Int32.ofNat N)), .val (.int (4 : Int32)), .val (.int (Int32.ofNat (szN N 1))), .val (.int (2 : Int32))] [(.int (((Int32.ofNat (szN N 1)) + (63 : Int32)) / (64 : Int32))), (.int (1 : Int32)), (.int (2 : Int32)), (.ref b5)]) _
        rw [show (Int32.ofNat (szN N 1) + (63 : Int32)) / (64 : Int32) = Int32.ofNat (szN N 2) from own_div64 (by have := own_szLe (N := N) 1; omega)]
        show Go p e below T17 (mkF m 61 #[.val (.ref a1), .val (.int (Int32.ofNat N)), .val (.int (4 : Int32)), .val (.int (Int32.ofNat (szN N 1))), .val (.int (2 : Int32))] [(.int (Int32.ofNat (szN N 2))), (.int (1 : Int32)), (.int (2 : Int32)), (.ref b5)]) _
        obtain ⟨_, _, ⟨T18, L18, k18, n18⟩, -, X18, ⟨Lc18, hQ18, l18, y18, z18⟩, st18⟩ := Jvm.LawKit.callS X17 hx (y := (⟨"java/lang/Math", "max", "(II)I"⟩ : MethodName)) hown (mvT hZ (hw _ (List.mem_of_getElem? (i := 15) rfl))) (mvT hZ (hw _ (List.mem_of_getElem? (i := 16) rfl))) (mvT hZ (hw _ (List.mem_of_getElem? (i := 17) rfl))) (mvT hZ (hw _ (List.mem_of_getElem? (i := 18) rfl))) (by decide) (backOf (W := 2) (rmMx l Z a0 hw [] (1 : Int32) (Int32.ofNat (szN N 2)) (Int32.ofNat (szN N 2)) h16 n0 Z16 (own_mx1 (by simp only [szN]; omega) (by have := own_szLe (N := N) 2; omega))) hZ (hw _ (List.mem_of_getElem? (i := 18) rfl)) (hw _ (List.mem_of_getElem? (i := 17) rfl)) (by decide) (by decide)) (g := (mkF m 61 #[.val (.ref a1), .val (.int (Int32.ofNat N)), .val (.int (4 : Int32)), .val (.int (Int32.ofNat (szN N 1))), .val (.int (2 : Int32))] [(.int (Int32.ofNat (szN N 2))), (.int (1 : Int32)), (.int (2 : Int32)), (.ref b5)])) rfl (by rw [hml]; rfl) (argsL := [(.int (1 : Int32)), (.int (Int32.ofNat (szN N 2)))]) (rest := [(.int (2 : Int32)), (.ref b5)]) (lenOf pd_2 rfl) rfl (by show 2 * 0 + _ ≤ _; exact Nat.le_of_eq rfl) (hb hby d1_61) (fun _ _ => ⟨rfl, e17, (by decide : 0 + 1 + 0 + 1 + 0 + 1 + 0 ≤ _), (by decide : 0 + 4 + 0 + 16384 + 0 + 256 + 0 ≤ _)⟩)
        dsimp only [Pt.U, Pt.locs, Pt.cells, Pt.slots] at X18 l18 y18 z18 st18 hQ18
        subst l18 y18 z18
        obtain ⟨rfl, Nq18, eh18⟩ := hQ18
        have N18 := Fr.app N16 Nq18
        refine Go.step st18 ?_
        show Go p e below T18 (mkF m 64 #[.val (.ref a1), .val (.int (Int32.ofNat N)), .val (.int (4 : Int32)), .val (.int (Int32.ofNat (szN N 1))), .val (.int (2 : Int32))] [(.int (Int32.ofNat (szN N 2))), (.int (2 : Int32)), (.ref b5)]) _
        obtain ⟨T19, h19, k19, X19, e19, E19, A19, B19, st19⟩ := newPE X18 hx hZ (hw _ (List.mem_of_getElem? (i := 19) rfl)) eh18 (g := (mkF m 64 #[.val (.ref a1), .val (.int (Int32.ofNat N)), .val (.int (4 : Int32)), .val (.int (Int32.ofNat (szN N 1))), .val (.int (2 : Int32))] [(.int (Int32.ofNat (szN N 2))), (.int (2 : Int32)), (.ref b5)])) rfl (hb hby d1_64) rfl (own_nn (by have := own_szLe (N := N) 2; omega)) (cap := 4) (by rw [own_clamp (by have := own_szLe (N := N) 2; omega)]; simp only [szN]; omega) (by decide) (by decide) (by decide) (ad := "[J") (by decide)
        obtain ⟨b19, g19⟩ : ∃ z, z = h16.size := ⟨_, rfl⟩
        rw [← g19] at A19 B19 st19
        have ne_a1_b19 : a1 ≠ b19 := Nat.ne_of_lt (Nat.lt_of_lt_of_le E1_q16.lt (Nat.le_of_eq g19.symm))
        have ne_b9_b19 : b9 ≠ b19 := Nat.ne_of_lt (Nat.lt_of_lt_of_le V_b9_q16.lt (Nat.le_of_eq g19.symm))
        have ne_b14_b19 : b14 ≠ b19 := Nat.ne_of_lt (Nat.lt_of_lt_of_le V_b14_q16.lt (Nat.le_of_eq g19.symm))
        have ne_b5_b19 : b5 ≠ b19 := Nat.ne_of_lt (Nat.lt_of_lt_of_le V_b5_q16.lt (Nat.le_of_eq g19.symm))
        have g_b19 : n0 ≤ b19 := Nat.le_trans Z16 (Nat.le_of_eq g19.symm)
        have E1_q19 := E1_q16.ext E19
        have F_levels_a1_q19 := F_levels_a1_q16.ext E19
        have V_b9_q19 := V_b9_q16.ext E19
        have V_b14_q19 := V_b14_q16.ext E19
        have V_b5_q19 := V_b5_q16.ext E19
        have Z19 : n0 ≤ h19.size := Nat.le_trans Z16 E19.1
        refine Go.step st19 ?_
        have V_b19 : Af Z h19 b19 (szN N 2) (fun _ => 0) := Af.new A19 (by have := own_szLe (N := N) 2; omega)
        show Go p e below T19 (mkF m 66 #[.val (.ref a1), .val (.int (Int32.ofNat N)), .val (.int (4 : Int32)), .val (.int (Int32.ofNat (szN N 1))), .val (.int (2 : Int32))] [(.ref b19), (.int (2 : Int32)), (.ref b5)]) _
        obtain ⟨cl20, Ar20, qa20, Sz20, Nz20, Ha20, Ga20⟩ := V_b5_q19
        obtain ⟨T21, h21, X21, e21, W21, st21⟩ := stR X19 hx hZ e19 Ar20 (j := (2 : Int32)) (inb_of Sz20 ⟨by decide, by decide⟩) rfl (Sto.ofVA Ar20 qa20 O5 (Ins.self B19)) (g := (mkF m 66 #[.val (.ref a1), .val (.int (Int32.ofNat N)), .val (.int (4 : Int32)), .val (.int (Int32.ofNat (szN N 1))), .val (.int (2 : Int32))] [(.ref b19), (.int (2 : Int32)), (.ref b5)])) rfl rfl (hb hby d1_66)
        refine Go.step st21 ?_
        have N21 := Fr.snoc X21 N18 g_b5
        have V_b5_q21 : Arv Z h21 b5 k5 (.array .long) (4 : Int32) [(.ref b9), (.ref b14), (.ref b19), .null] .null := Arv.set Ar20 qa20 Sz20 Nz20 Ha20 Ga20 rfl W21 2 rfl (Nat.le_of_ble_eq_true rfl)
        have E1_q21 := E1_q19.wr W21
        have F_levels_a1_q21 := F_levels_a1_q19.other W21 (Or.inl ne_a1_b5)
        have V_b9_q21 := V_b9_q19.other W21 (Ne.symm ne_b5_b9)
        have V_b14_q21 := V_b14_q19.other W21 (Ne.symm ne_b5_b14)
        have V_b19_q21 := V_b19.other W21 (Ne.symm ne_b5_b19)
        have Z21 : n0 ≤ h21.size := by rw [W21.size]; exact Z19
        show Go p e below T21 (mkF m 67 #[.val (.ref a1), .val (.int (Int32.ofNat N)), .val (.int (4 : Int32)), .val (.int (Int32.ofNat (szN N 1))), .val (.int (2 : Int32))] []) _
        refine Go.step (fun _ => XS.iloadN X21.here hx rfl (hb hby d1_67) rfl ) ?_
        show Go p e below T21 (mkF m 68 #[.val (.ref a1), .val (.int (Int32.ofNat N)), .val (.int (4 : Int32)), .val (.int (Int32.ofNat (szN N 1))), .val (.int (2 : Int32))] [(.int (Int32.ofNat (szN N 1)))]) _
        refine Go.step (fun _ => XS.bipush X21.here hx rfl (hb hby d1_68)) ?_
        show Go p e below T21 (mkF m 70 #[.val (.ref a1), .val (.int (Int32.ofNat N)), .val (.int (4 : Int32)), .val (.int (Int32.ofNat (szN N 1))), .val (.int (2 : Int32))] [(.int (63 : Int32)), (.int (Int32.ofNat (szN N 1)))]) _
        refine Go.step (fun _ => XS.iadd X21.here hx rfl (hb hby d1_70) rfl) ?_
        show Go p e below T21 (mkF m 71 #[.val (.ref a1), .val (.int (Int32.ofNat N)), .val (.int (4 : Int32)), .val (.int (Int32.ofNat (szN N 1))), .val (.int (2 : Int32))] [(.int ((Int32.ofNat (szN N 1)) + (63 : Int32)))]) _
        refine Go.step (fun _ => XS.bipush X21.here hx rfl (hb hby d1_71)) ?_
        show Go p e below T21 (mkF m 73 #[.val (.ref a1), .val (.int (Int32.ofNat N)), .val (.int (4 : Int32)), .val (.int (Int32.ofNat (szN N 1))), .val (.int (2 : Int32))] [(.int (64 : Int32)), (.int ((Int32.ofNat (szN N 1)) + (63 : Int32)))]) _
        refine Go.step (fun _ => XS.idiv X21.here hx rfl (hb hby d1_73) rfl (by decide)) ?_
        show Go p e below T21 (mkF m 74 #[.val (.ref a1), .val (.int (Int32.ofNat N)), .val (.int (4 : Int32)), .val (.int (Int32.ofNat (szN N 1))), .val (.int (2 : Int32))] [(.int (((Int32.ofNat (szN N 1)) + (63 : Int32)) / (64 : Int32)))]) _
        rw [show (Int32.ofNat (szN N 1) + (63 : Int32)) / (64 : Int32) = Int32.ofNat (szN N 2) from own_div64 (by have := own_szLe (N := N) 1; omega)]
        show Go p e below T21 (mkF m 74 #[.val (.ref a1), .val (.int (Int32.ofNat N)), .val (.int (4 : Int32)), .val (.int (Int32.ofNat (szN N 1))), .val (.int (2 : Int32))] [(.int (Int32.ofNat (szN N 2)))]) _
        refine Go.step (fun _ => XS.istoreN X21.here hx rfl (hb hby d1_74) rfl (l' := #[.val (.ref a1), .val (.int (Int32.ofNat N)), .val (.int (4 : Int32)), .val (.int (Int32.ofNat (szN N 2))), .val (.int (2 : Int32))]) rfl) ?_
        show Go p e below T21 (mkF m 75 #[.val (.ref a1), .val (.int (Int32.ofNat N)), .val (.int (4 : Int32)), .val (.int (Int32.ofNat (szN N 2))), .val (.int (2 : Int32))] []) _
        refine Go.step (fun _ => XS.iinc X21.here hx rfl (hb hby d1_75) rfl (l' := #[.val (.ref a1), .val (.int (Int32.ofNat N)), .val (.int (4 : Int32)), .val (.int (Int32.ofNat (szN N 2))), .val (.int (3 : Int32))]) rfl) ?_
        show Go p e below T21 (mkF m 78 #[.val (.ref a1), .val (.int (Int32.ofNat N)), .val (.int (4 : Int32)), .val (.int (Int32.ofNat (szN N 2))), .val (.int (3 : Int32))] []) _
        refine Go.step (fun _ => XS.goto X21.here hx rfl (pc0 := 78) (pc' := 41) rfl (hb hby d1_78) (by decide) (by decide)) ?_
        show Go p e below T21 (mkF m 41 #[.val (.ref a1), .val (.int (Int32.ofNat N)), .val (.int (4 : Int32)), .val (.int (Int32.ofNat (szN N 2))), .val (.int (3 : Int32))] []) _
        refine Go.step (fun _ => XS.iload X21.here hx rfl (hb hby d1_41) rfl ) ?_
        show Go p e below T21 (mkF m 43 #[.val (.ref a1), .val (.int (Int32.ofNat N)), .val (.int (4 : Int32)), .val (.int (Int32.ofNat (szN N 2))), .val (.int (3 : Int32))] [(.int (3 : Int32))]) _
        refine Go.step (fun _ => XS.iloadN X21.here hx rfl (hb hby d1_43) rfl ) ?_
        show Go p e below T21 (mkF m 44 #[.val (.ref a1), .val (.int (Int32.ofNat N)), .val (.int (4 : Int32)), .val (.int (Int32.ofNat (szN N 2))), .val (.int (3 : Int32))] [(.int (4 : Int32)), (.int (3 : Int32))]) _
        refine Go.step (fun _ => XS.icmpNo X21.here hx rfl (hb hby d1_44) rfl (tlt (by decide)).2.1) ?_
        show Go p e below T21 (mkF m 47 #[.val (.ref a1), .val (.int (Int32.ofNat N)), .val (.int (4 : Int32)), .val (.int (Int32.ofNat (szN N 2))), .val (.int (3 : Int32))] []) _
        refine Go.step (fun _ => XS.aloadN X21.here hx rfl (hb hby d1_47) rfl rfl ) ?_
        show Go p e below T21 (mkF m 48 #[.val (.ref a1), .val (.int (Int32.ofNat N)), .val (.int (4 : Int32)), .val (.int (Int32.ofNat (szN N 2))), .val (.int (3 : Int32))] [(.ref a1)]) _
        obtain ⟨T22, X22, e22, st22⟩ := getF X21 hx hZ hown (host := "") (Or.inl (hw _ (List.mem_of_getElem? (i := 13) rfl))) Via.refl e21 F_levels_a1_q21 (g := (mkF m 48 #[.val (.ref a1), .val (.int (Int32.ofNat N)), .val (.int (4 : Int32)), .val (.int (Int32.ofNat (szN N 2))), .val (.int (3 : Int32))] [(.ref a1)])) rfl rfl (hb hby d1_48)
        refine Go.step st22 ?_
        show Go p e below T22 (mkF m 51 #[.val (.ref a1), .val (.int (Int32.ofNat N)), .val (.int (4 : Int32)), .val (.int (Int32.ofNat (szN N 2))), .val (.int (3 : Int32))] [(.ref b5)]) _
        refine Go.step (fun _ => XS.iload X22.here hx rfl (hb hby d1_51) rfl ) ?_
        show Go p e below T22 (mkF m 53 #[.val (.ref a1), .val (.int (Int32.ofNat N)), .val (.int (4 : Int32)), .val (.int (Int32.ofNat (szN N 2))), .val (.int (3 : Int32))] [(.int (3 : Int32)), (.ref b5)]) _
        refine Go.step (fun _ => XS.iconst X22.here hx rfl (hb hby d1_53)) ?_
        show Go p e below T22 (mkF m 54 #[.val (.ref a1), .val (.int (Int32.ofNat N)), .val (.int (4 : Int32)), .val (.int (Int32.ofNat (szN N 2))), .val (.int (3 : Int32))] [(.int (1 : Int32)), (.int (3 : Int32)), (.ref b5)]) _
        refine Go.step (fun _ => XS.iloadN X22.here hx rfl (hb hby d1_54) rfl ) ?_
        show Go p e below T22 (mkF m 55 #[.val (.ref a1), .val (.int (Int32.ofNat N)), .val (.int (4 : Int32)), .val (.int (Int32.ofNat (szN N 2))), .val (.int (3 : Int32))] [(.int (Int32.ofNat (szN N 2))), (.int (1 : Int32)), (.int (3 : Int32)), (.ref b5)]) _
        refine Go.step (fun _ => XS.bipush X22.here hx rfl (hb hby d1_55)) ?_
        show Go p e below T22 (mkF m 57 #[.val (.ref a1), .val (.int (Int32.ofNat N)), .val (.int (4 : Int32)), .val (.int (Int32.ofNat (szN N 2))), .val (.int (3 : Int32))] [(.int (63 : Int32)), (.int (Int32.ofNat (szN N 2))), (.int (1 : Int32)), (.int (3 : Int32)), (.ref b5)]) _
        refine Go.step (fun _ => XS.iadd X22.here hx rfl (hb hby d1_57) rfl) ?_
        show Go p e below T22 (mkF m 58 #[.val (.ref a1), .val (.int (Int32.ofNat N)), .val (.int (4 : Int32)), .val (.int (Int32.ofNat (szN N 2))), .val (.int (3 : Int32))] [(.int ((Int32.ofNat (szN N 2)) + (63 : Int32))), (.int (1 : Int32)), (.int (3 : Int32)), (.ref b5)]) _
        refine Go.step (fun _ => XS.bipush X22.here hx rfl (hb hby d1_58)) ?_
        show Go p e below T22 (mkF m 60 #[.val (.ref a1), .val (.int (Int32.ofNat N)), .val (.int (4 : Int32)), .val (.int (Int32.ofNat (szN N 2))), .val (.int (3 : Int32))] [(.int (64 : Int32)), (.int ((Int32.ofNat (szN N 2)) + (63 : Int32))), (.int (1 : Int32)), (.int (3 : Int32)), (.ref b5)]) _
        refine Go.step (fun _ => XS.idiv X22.here hx rfl (hb hby d1_60) rfl (by decide)) ?_
        show Go p e below T22 (mkF m 61 #[.val (.ref a1), .val (.int (Int32.ofNat N)), .val (.int (4 : Int32)), .val (.int (Int32.ofNat (szN N 2))), .val (.int (3 : Int32))] [(.int (((Int32.ofNat (szN N 2)) + (63 : Int32)) / (64 : Int32))), (.int (1 : Int32)), (.int (3 : Int32)), (.ref b5)]) _
        rw [show (Int32.ofNat (szN N 2) + (63 : Int32)) / (64 : Int32) = Int32.ofNat (szN N 3) from own_div64 (by have := own_szLe (N := N) 2; omega)]
        show Go p e below T22 (mkF m 61 #[.val (.ref a1), .val (.int (Int32.ofNat N)), .val (.int (4 : Int32)), .val (.int (Int32.ofNat (szN N 2))), .val (.int (3 : Int32))] [(.int (Int32.ofNat (szN N 3))), (.int (1 : Int32)), (.int (3 : Int32)), (.ref b5)]) _
        obtain ⟨_, _, ⟨T23, L23, k23, n23⟩, -, X23, ⟨Lc23, hQ23, l23, y23, z23⟩, st23⟩ := Jvm.LawKit.callS X22 hx (y := (⟨"java/lang/Math", "max", "(II)I"⟩ : MethodName)) hown (mvT hZ (hw _ (List.mem_of_getElem? (i := 15) rfl))) (mvT hZ (hw _ (List.mem_of_getElem? (i := 16) rfl))) (mvT hZ (hw _ (List.mem_of_getElem? (i := 17) rfl))) (mvT hZ (hw _ (List.mem_of_getElem? (i := 18) rfl))) (by decide) (backOf (W := 2) (rmMx l Z a0 hw [] (1 : Int32) (Int32.ofNat (szN N 3)) (Int32.ofNat (szN N 3)) h21 n0 Z21 (own_mx1 (by simp only [szN]; omega) (by have := own_szLe (N := N) 3; omega))) hZ (hw _ (List.mem_of_getElem? (i := 18) rfl)) (hw _ (List.mem_of_getElem? (i := 17) rfl)) (by decide) (by decide)) (g := (mkF m 61 #[.val (.ref a1), .val (.int (Int32.ofNat N)), .val (.int (4 : Int32)), .val (.int (Int32.ofNat (szN N 2))), .val (.int (3 : Int32))] [(.int (Int32.ofNat (szN N 3))), (.int (1 : Int32)), (.int (3 : Int32)), (.ref b5)])) rfl (by rw [hml]; rfl) (argsL := [(.int (1 : Int32)), (.int (Int32.ofNat (szN N 3)))]) (rest := [(.int (3 : Int32)), (.ref b5)]) (lenOf pd_2 rfl) rfl (by show 2 * 0 + _ ≤ _; exact Nat.le_of_eq rfl) (hb hby d1_61) (fun _ _ => ⟨rfl, e22, (by decide : 0 + 1 + 0 + 1 + 0 + 1 + 0 + 1 + 0 ≤ _), (by decide : 0 + 4 + 0 + 16384 + 0 + 256 + 0 + 4 + 0 ≤ _)⟩)
        dsimp only [Pt.U, Pt.locs, Pt.cells, Pt.slots] at X23 l23 y23 z23 st23 hQ23
        subst l23 y23 z23
        obtain ⟨rfl, Nq23, eh23⟩ := hQ23
        have N23 := Fr.app N21 Nq23
        refine Go.step st23 ?_
        show Go p e below T23 (mkF m 64 #[.val (.ref a1), .val (.int (Int32.ofNat N)), .val (.int (4 : Int32)), .val (.int (Int32.ofNat (szN N 2))), .val (.int (3 : Int32))] [(.int (Int32.ofNat (szN N 3))), (.int (3 : Int32)), (.ref b5)]) _
        obtain ⟨T24, h24, k24, X24, e24, E24, A24, B24, st24⟩ := newPE X23 hx hZ (hw _ (List.mem_of_getElem? (i := 19) rfl)) eh23 (g := (mkF m 64 #[.val (.ref a1), .val (.int (Int32.ofNat N)), .val (.int (4 : Int32)), .val (.int (Int32.ofNat (szN N 2))), .val (.int (3 : Int32))] [(.int (Int32.ofNat (szN N 3))), (.int (3 : Int32)), (.ref b5)])) rfl (hb hby d1_64) rfl (own_nn (by have := own_szLe (N := N) 3; omega)) (cap := 1) (by rw [own_clamp (by have := own_szLe (N := N) 3; omega)]; simp only [szN]; omega) (by decide) (by decide) (by decide) (ad := "[J") (by decide)
        obtain ⟨b24, g24⟩ : ∃ z, z = h21.size := ⟨_, rfl⟩
        rw [← g24] at A24 B24 st24
        have ne_a1_b24 : a1 ≠ b24 := Nat.ne_of_lt (Nat.lt_of_lt_of_le E1_q21.lt (Nat.le_of_eq g24.symm))
        have ne_b9_b24 : b9 ≠ b24 := Nat.ne_of_lt (Nat.lt_of_lt_of_le V_b9_q21.lt (Nat.le_of_eq g24.symm))
        have ne_b14_b24 : b14 ≠ b24 := Nat.ne_of_lt (Nat.lt_of_lt_of_le V_b14_q21.lt (Nat.le_of_eq g24.symm))
        have ne_b19_b24 : b19 ≠ b24 := Nat.ne_of_lt (Nat.lt_of_lt_of_le V_b19_q21.lt (Nat.le_of_eq g24.symm))
        have ne_b5_b24 : b5 ≠ b24 := Nat.ne_of_lt (Nat.lt_of_lt_of_le V_b5_q21.lt (Nat.le_of_eq g24.symm))
        have g_b24 : n0 ≤ b24 := Nat.le_trans Z21 (Nat.le_of_eq g24.symm)
        have E1_q24 := E1_q21.ext E24
        have F_levels_a1_q24 := F_levels_a1_q21.ext E24
        have V_b9_q24 := V_b9_q21.ext E24
        have V_b14_q24 := V_b14_q21.ext E24
        have V_b19_q24 := V_b19_q21.ext E24
        have V_b5_q24 := V_b5_q21.ext E24
        have Z24 : n0 ≤ h24.size := Nat.le_trans Z21 E24.1
        refine Go.step st24 ?_
        have V_b24 : Af Z h24 b24 (szN N 3) (fun _ => 0) := Af.new A24 (by have := own_szLe (N := N) 3; omega)
        show Go p e below T24 (mkF m 66 #[.val (.ref a1), .val (.int (Int32.ofNat N)), .val (.int (4 : Int32)), .val (.int (Int32.ofNat (szN N 2))), .val (.int (3 : Int32))] [(.ref b24), (.int (3 : Int32)), (.ref b5)]) _
        obtain ⟨cl25, Ar25, qa25, Sz25, Nz25, Ha25, Ga25⟩ := V_b5_q24
        obtain ⟨T26, h26, X26, e26, W26, st26⟩ := stR X24 hx hZ e24 Ar25 (j := (3 : Int32)) (inb_of Sz25 ⟨by decide, by decide⟩) rfl (Sto.ofVA Ar25 qa25 O5 (Ins.self B24)) (g := (mkF m 66 #[.val (.ref a1), .val (.int (Int32.ofNat N)), .val (.int (4 : Int32)), .val (.int (Int32.ofNat (szN N 2))), .val (.int (3 : Int32))] [(.ref b24), (.int (3 : Int32)), (.ref b5)])) rfl rfl (hb hby d1_66)
        refine Go.step st26 ?_
        have N26 := Fr.snoc X26 N23 g_b5
        have V_b5_q26 : Arv Z h26 b5 k5 (.array .long) (4 : Int32) [(.ref b9), (.ref b14), (.ref b19), (.ref b24)] .null := Arv.set Ar25 qa25 Sz25 Nz25 Ha25 Ga25 rfl W26 3 rfl (Nat.le_of_ble_eq_true rfl)
        have E1_q26 := E1_q24.wr W26
        have F_levels_a1_q26 := F_levels_a1_q24.other W26 (Or.inl ne_a1_b5)
        have V_b9_q26 := V_b9_q24.other W26 (Ne.symm ne_b5_b9)
        have V_b14_q26 := V_b14_q24.other W26 (Ne.symm ne_b5_b14)
        have V_b19_q26 := V_b19_q24.other W26 (Ne.symm ne_b5_b19)
        have V_b24_q26 := V_b24.other W26 (Ne.symm ne_b5_b24)
        have Z26 : n0 ≤ h26.size := by rw [W26.size]; exact Z24
        show Go p e below T26 (mkF m 67 #[.val (.ref a1), .val (.int (Int32.ofNat N)), .val (.int (4 : Int32)), .val (.int (Int32.ofNat (szN N 2))), .val (.int (3 : Int32))] []) _
        refine Go.step (fun _ => XS.iloadN X26.here hx rfl (hb hby d1_67) rfl ) ?_
        show Go p e below T26 (mkF m 68 #[.val (.ref a1), .val (.int (Int32.ofNat N)), .val (.int (4 : Int32)), .val (.int (Int32.ofNat (szN N 2))), .val (.int (3 : Int32))] [(.int (Int32.ofNat (szN N 2)))]) _
        refine Go.step (fun _ => XS.bipush X26.here hx rfl (hb hby d1_68)) ?_
        show Go p e below T26 (mkF m 70 #[.val (.ref a1), .val (.int (Int32.ofNat N)), .val (.int (4 : Int32)), .val (.int (Int32.ofNat (szN N 2))), .val (.int (3 : Int32))] [(.int (63 : Int32)), (.int (Int32.ofNat (szN N 2)))]) _
        refine Go.step (fun _ => XS.iadd X26.here hx rfl (hb hby d1_70) rfl) ?_
        show Go p e below T26 (mkF m 71 #[.val (.ref a1), .val (.int (Int32.ofNat N)), .val (.int (4 : Int32)), .val (.int (Int32.ofNat (szN N 2))), .val (.int (3 : Int32))] [(.int ((Int32.ofNat (szN N 2)) + (63 : Int32)))]) _
        refine Go.step (fun _ => XS.bipush X26.here hx rfl (hb hby d1_71)) ?_
        show Go p e below T26 (mkF m 73 #[.val (.ref a1), .val (.int (Int32.ofNat N)), .val (.int (4 : Int32)), .val (.int (Int32.ofNat (szN N 2))), .val (.int (3 : Int32))] [(.int (64 : Int32)), (.int ((Int32.ofNat (szN N 2)) + (63 : Int32)))]) _
        refine Go.step (fun _ => XS.idiv X26.here hx rfl (hb hby d1_73) rfl (by decide)) ?_
        show Go p e below T26 (mkF m 74 #[.val (.ref a1), .val (.int (Int32.ofNat N)), .val (.int (4 : Int32)), .val (.int (Int32.ofNat (szN N 2))), .val (.int (3 : Int32))] [(.int (((Int32.ofNat (szN N 2)) + (63 : Int32)) / (64 : Int32)))]) _
        rw [show (Int32.ofNat (szN N 2) + (63 : Int32)) / (64 : Int32) = Int32.ofNat (szN N 3) from own_div64 (by have := own_szLe (N := N) 2; omega)]
        show Go p e below T26 (mkF m 74 #[.val (.ref a1), .val (.int (Int32.ofNat N)), .val (.int (4 : Int32)), .val (.int (Int32.ofNat (szN N 2))), .val (.int (3 : Int32))] [(.int (Int32.ofNat (szN N 3)))]) _
        refine Go.step (fun _ => XS.istoreN X26.here hx rfl (hb hby d1_74) rfl (l' := #[.val (.ref a1), .val (.int (Int32.ofNat N)), .val (.int (4 : Int32)), .val (.int (Int32.ofNat (szN N 3))), .val (.int (3 : Int32))]) rfl) ?_
        show Go p e below T26 (mkF m 75 #[.val (.ref a1), .val (.int (Int32.ofNat N)), .val (.int (4 : Int32)), .val (.int (Int32.ofNat (szN N 3))), .val (.int (3 : Int32))] []) _
        refine Go.step (fun _ => XS.iinc X26.here hx rfl (hb hby d1_75) rfl (l' := #[.val (.ref a1), .val (.int (Int32.ofNat N)), .val (.int (4 : Int32)), .val (.int (Int32.ofNat (szN N 3))), .val (.int (4 : Int32))]) rfl) ?_
        show Go p e below T26 (mkF m 78 #[.val (.ref a1), .val (.int (Int32.ofNat N)), .val (.int (4 : Int32)), .val (.int (Int32.ofNat (szN N 3))), .val (.int (4 : Int32))] []) _
        refine Go.step (fun _ => XS.goto X26.here hx rfl (pc0 := 78) (pc' := 41) rfl (hb hby d1_78) (by decide) (by decide)) ?_
        show Go p e below T26 (mkF m 41 #[.val (.ref a1), .val (.int (Int32.ofNat N)), .val (.int (4 : Int32)), .val (.int (Int32.ofNat (szN N 3))), .val (.int (4 : Int32))] []) _
        refine Go.step (fun _ => XS.iload X26.here hx rfl (hb hby d1_41) rfl ) ?_
        show Go p e below T26 (mkF m 43 #[.val (.ref a1), .val (.int (Int32.ofNat N)), .val (.int (4 : Int32)), .val (.int (Int32.ofNat (szN N 3))), .val (.int (4 : Int32))] [(.int (4 : Int32))]) _
        refine Go.step (fun _ => XS.iloadN X26.here hx rfl (hb hby d1_43) rfl ) ?_
        show Go p e below T26 (mkF m 44 #[.val (.ref a1), .val (.int (Int32.ofNat N)), .val (.int (4 : Int32)), .val (.int (Int32.ofNat (szN N 3))), .val (.int (4 : Int32))] [(.int (4 : Int32)), (.int (4 : Int32))]) _
        refine Go.step (fun _ => XS.icmpYes X26.here hx rfl (pc0 := 44) (pc' := 81) rfl (hb hby d1_44) rfl (flt (by decide)).2.1 (by decide) (by decide)) ?_
        show Go p e below T26 (mkF m 81 #[.val (.ref a1), .val (.int (Int32.ofNat N)), .val (.int (4 : Int32)), .val (.int (Int32.ofNat (szN N 3))), .val (.int (4 : Int32))] []) _
        refine Go.ret0 X26 hx hret hlk (hb hby d1_81) ?_ (by decide) (by decide)
        rw [e26]
        obtain ⟨clZ, ArZ, -, SzZ, -, HaZ, -⟩ := id V_b5_q26
        have G1 : Ag Z h26 b5 4 (fun k => ([b9, b14, b19, b24] : List Addr).getD k 0) := ⟨clZ, ArZ, SzZ, fun k hk => match k, hk with
          | 0, _ => HaZ 0 (by rw [SzZ]; decide)
          | 1, _ => HaZ 1 (by rw [SzZ]; decide)
          | 2, _ => HaZ 2 (by rw [SzZ]; decide)
          | 3, _ => HaZ 3 (by rw [SzZ]; decide)
          | n + 4, q => absurd q (by omega)⟩
        have G2 : ∀ k, k < 4 → Af Z h26 (([b9, b14, b19, b24] : List Addr).getD k 0) (szN N k) ((fun _ _ => 0 : Nat → Nat → Int64) k) := fun k hk => match k, hk with
          | 0, _ => V_b9_q26
          | 1, _ => V_b14_q26
          | 2, _ => V_b19_q26
          | 3, _ => V_b24_q26
          | n + 4, q => absurd q (by omega)
        have G3 : ∀ k, k < 4 → n0 ≤ ([b9, b14, b19, b24] : List Addr).getD k 0 ∧ a1 ≠ ([b9, b14, b19, b24] : List Addr).getD k 0 ∧ b5 ≠ ([b9, b14, b19, b24] : List Addr).getD k 0 := fun k hk => match k, hk with
          | 0, _ => ⟨g_b9, ne_a1_b9, ne_b5_b9⟩
          | 1, _ => ⟨g_b14, ne_a1_b14, ne_b5_b14⟩
          | 2, _ => ⟨g_b19, ne_a1_b19, ne_b5_b19⟩
          | 3, _ => ⟨g_b24, ne_a1_b24, ne_b5_b24⟩
          | n + 4, q => absurd q (by omega)
        have G4 : ∀ i j, i < 4 → j < 4 → i ≠ j → ([b9, b14, b19, b24] : List Addr).getD i 0 ≠ ([b9, b14, b19, b24] : List Addr).getD j 0 := fun i j hi hj q => match i, j, hi, hj, q with
          | 0, 0, _, _, q => absurd rfl q
          | 0, 1, _, _, q => ne_b9_b14
          | 0, 2, _, _, q => ne_b9_b19
          | 0, 3, _, _, q => ne_b9_b24
          | 1, 0, _, _, q => (Ne.symm ne_b9_b14)
          | 1, 1, _, _, q => absurd rfl q
          | 1, 2, _, _, q => ne_b14_b19
          | 1, 3, _, _, q => ne_b14_b24
          | 2, 0, _, _, q => (Ne.symm ne_b9_b19)
          | 2, 1, _, _, q => (Ne.symm ne_b14_b19)
          | 2, 2, _, _, q => absurd rfl q
          | 2, 3, _, _, q => ne_b19_b24
          | 3, 0, _, _, q => (Ne.symm ne_b9_b24)
          | 3, 1, _, _, q => (Ne.symm ne_b14_b24)
          | 3, 2, _, _, q => (Ne.symm ne_b19_b24)
          | 3, 3, _, _, q => absurd rfl q
          | n + 4, _, q, _, _ => absurd q (by omega)
          | _, n + 4, _, q, _ => absurd q (by omega)
        have G5z : szN N (4 - 1) = 1 := by
          show szN N 3 = 1
          simp only [szN]
          omega
        have G5 : ∀ P, P / 64 < szN N (4 - 1) → P / 64 = 0 := fun P q => by rw [G5z] at q; omega
        exact ⟨rfl, N26, Z26, b5, 4, _, by decide, by decide, ⟨E1_q26, F_levels_a1_q26, G1, G2, G3, G4⟩, G5⟩
      · skip
        refine Go.step (fun _ => XS.icmpYes X4.here hx rfl (pc0 := 11) (pc' := 28) rfl (hb hby d1_11) rfl (flt hb2).2.2.2 (by decide) (by decide)) ?_
        show Go p e below T4 (mkF m 28 #[.val (.ref a1), .val (.int (Int32.ofNat N)), .val (.int (3 : Int32)), .val (.int (Int32.ofNat (szN N 1))), .unset] []) _
        refine Go.step (fun _ => XS.aloadN X4.here hx rfl (hb hby d1_28) rfl rfl ) ?_
        show Go p e below T4 (mkF m 29 #[.val (.ref a1), .val (.int (Int32.ofNat N)), .val (.int (3 : Int32)), .val (.int (Int32.ofNat (szN N 1))), .unset] [(.ref a1)]) _
        refine Go.step (fun _ => XS.iloadN X4.here hx rfl (hb hby d1_29) rfl ) ?_
        show Go p e below T4 (mkF m 30 #[.val (.ref a1), .val (.int (Int32.ofNat N)), .val (.int (3 : Int32)), .val (.int (Int32.ofNat (szN N 1))), .unset] [(.int (3 : Int32)), (.ref a1)]) _
        obtain ⟨T27, h27, k27, X27, e27, E27, A27, B27, O27, st27⟩ := newRA X4 hx hZ hown (C := "[J") (ty := .long) (by decide) (hw _ (List.mem_of_getElem? (i := 11) rfl)) (hw _ (List.mem_of_getElem? (i := 12) rfl)) e4 (g := (mkF m 30 #[.val (.ref a1), .val (.int (Int32.ofNat N)), .val (.int (3 : Int32)), .val (.int (Int32.ofNat (szN N 1))), .unset] [(.int (3 : Int32)), (.ref a1)])) rfl (hb hby d1_30) rfl (by decide) (cap := 3) (by decide) (by decide) (by decide) (by decide) (ad := "[[J") (by decide)
        obtain ⟨b27, g27⟩ : ∃ z, z = h0.size := ⟨_, rfl⟩
        rw [← g27] at A27 B27 st27
        have ne_a1_b27 : a1 ≠ b27 := Nat.ne_of_lt (Nat.lt_of_lt_of_le E1.lt (Nat.le_of_eq g27.symm))
        have g_b27 : n0 ≤ b27 := Nat.le_trans Z0 (Nat.le_of_eq g27.symm)
        have E1_q27 := E1.ext E27
        have F1_q27 := F1.ext E27
        have Z27 : n0 ≤ h27.size := Nat.le_trans Z0 E27.1
        refine Go.step st27 ?_
        have V_b27 : Arv Z h27 b27 k27 (.array .long) (3 : Int32) [.null, .null, .null] .null := (Arv.new A27 (by decide)).pad (pad_rep [] .null 3)
        have sl27 : ∀ j, szN N j ≤ N + 1 := fun j => own_szLe j
        show Go p e below T27 (mkF m 33 #[.val (.ref a1), .val (.int (Int32.ofNat N)), .val (.int (3 : Int32)), .val (.int (Int32.ofNat (szN N 1))), .unset] [(.ref b27), (.ref a1)]) _
        obtain ⟨T28, h28, X28, e28, W28, st28⟩ := putF X27 hx hZ hown (host := "") (Or.inl (hw _ (List.mem_of_getElem? (i := 13) rfl))) Via.refl e27 F1_q27 E1_q27 (Or.inr ⟨(hw _ (List.mem_of_getElem? (i := 14) rfl)), rfl, hnm⟩) (hw _ (List.mem_of_getElem? (i := 3) rfl)) (ty := (.array (.array .long))) (by decide) rfl rfl (g := (mkF m 33 #[.val (.ref a1), .val (.int (Int32.ofNat N)), .val (.int (3 : Int32)), .val (.int (Int32.ofNat (szN N 1))), .unset] [(.ref b27), (.ref a1)])) rfl rfl (hb hby d1_33)
        refine Go.step st28 ?_
        have N28 := Fr.snoc X28 N0 g1
        have F_levels_a1_q28 := F1_q27.same W28
        have E1_q28 := E1_q27.wr W28
        have V_b27_q28 := V_b27.other W28 (Ne.symm ne_a1_b27)
        have Z28 : n0 ≤ h28.size := by rw [W28.size]; exact Z27
        show Go p e below T28 (mkF m 36 #[.val (.ref a1), .val (.int (Int32.ofNat N)), .val (.int (3 : Int32)), .val (.int (Int32.ofNat (szN N 1))), .unset] []) _
        refine Go.step (fun _ => XS.iloadN X28.here hx rfl (hb hby d1_36) rfl ) ?_
        show Go p e below T28 (mkF m 37 #[.val (.ref a1), .val (.int (Int32.ofNat N)), .val (.int (3 : Int32)), .val (.int (Int32.ofNat (szN N 1))), .unset] [(.int (Int32.ofNat N))]) _
        refine Go.step (fun _ => XS.istoreN X28.here hx rfl (hb hby d1_37) rfl (l' := #[.val (.ref a1), .val (.int (Int32.ofNat N)), .val (.int (3 : Int32)), .val (.int (Int32.ofNat N)), .unset]) rfl) ?_
        show Go p e below T28 (mkF m 38 #[.val (.ref a1), .val (.int (Int32.ofNat N)), .val (.int (3 : Int32)), .val (.int (Int32.ofNat N)), .unset] []) _
        refine Go.step (fun _ => XS.iconst X28.here hx rfl (hb hby d1_38)) ?_
        show Go p e below T28 (mkF m 39 #[.val (.ref a1), .val (.int (Int32.ofNat N)), .val (.int (3 : Int32)), .val (.int (Int32.ofNat N)), .unset] [(.int (0 : Int32))]) _
        refine Go.step (fun _ => XS.istore X28.here hx rfl (hb hby d1_39) rfl (l' := #[.val (.ref a1), .val (.int (Int32.ofNat N)), .val (.int (3 : Int32)), .val (.int (Int32.ofNat N)), .val (.int (0 : Int32))]) rfl) ?_
        show Go p e below T28 (mkF m 41 #[.val (.ref a1), .val (.int (Int32.ofNat N)), .val (.int (3 : Int32)), .val (.int (Int32.ofNat N)), .val (.int (0 : Int32))] []) _
        refine Go.step (fun _ => XS.iload X28.here hx rfl (hb hby d1_41) rfl ) ?_
        show Go p e below T28 (mkF m 43 #[.val (.ref a1), .val (.int (Int32.ofNat N)), .val (.int (3 : Int32)), .val (.int (Int32.ofNat N)), .val (.int (0 : Int32))] [(.int (0 : Int32))]) _
        refine Go.step (fun _ => XS.iloadN X28.here hx rfl (hb hby d1_43) rfl ) ?_
        show Go p e below T28 (mkF m 44 #[.val (.ref a1), .val (.int (Int32.ofNat N)), .val (.int (3 : Int32)), .val (.int (Int32.ofNat N)), .val (.int (0 : Int32))] [(.int (3 : Int32)), (.int (0 : Int32))]) _
        refine Go.step (fun _ => XS.icmpNo X28.here hx rfl (hb hby d1_44) rfl (tlt (by decide)).2.1) ?_
        show Go p e below T28 (mkF m 47 #[.val (.ref a1), .val (.int (Int32.ofNat N)), .val (.int (3 : Int32)), .val (.int (Int32.ofNat N)), .val (.int (0 : Int32))] []) _
        refine Go.step (fun _ => XS.aloadN X28.here hx rfl (hb hby d1_47) rfl rfl ) ?_
        show Go p e below T28 (mkF m 48 #[.val (.ref a1), .val (.int (Int32.ofNat N)), .val (.int (3 : Int32)), .val (.int (Int32.ofNat N)), .val (.int (0 : Int32))] [(.ref a1)]) _
        obtain ⟨T29, X29, e29, st29⟩ := getF X28 hx hZ hown (host := "") (Or.inl (hw _ (List.mem_of_getElem? (i := 13) rfl))) Via.refl e28 F_levels_a1_q28 (g := (mkF m 48 #[.val (.ref a1), .val (.int (Int32.ofNat N)), .val (.int (3 : Int32)), .val (.int (Int32.ofNat N)), .val (.int (0 : Int32))] [(.ref a1)])) rfl rfl (hb hby d1_48)
        refine Go.step st29 ?_
        show Go p e below T29 (mkF m 51 #[.val (.ref a1), .val (.int (Int32.ofNat N)), .val (.int (3 : Int32)), .val (.int (Int32.ofNat N)), .val (.int (0 : Int32))] [(.ref b27)]) _
        refine Go.step (fun _ => XS.iload X29.here hx rfl (hb hby d1_51) rfl ) ?_
        show Go p e below T29 (mkF m 53 #[.val (.ref a1), .val (.int (Int32.ofNat N)), .val (.int (3 : Int32)), .val (.int (Int32.ofNat N)), .val (.int (0 : Int32))] [(.int (0 : Int32)), (.ref b27)]) _
        refine Go.step (fun _ => XS.iconst X29.here hx rfl (hb hby d1_53)) ?_
        show Go p e below T29 (mkF m 54 #[.val (.ref a1), .val (.int (Int32.ofNat N)), .val (.int (3 : Int32)), .val (.int (Int32.ofNat N)), .val (.int (0 : Int32))] [(.int (1 : Int32)), (.int (0 : Int32)), (.ref b27)]) _
        refine Go.step (fun _ => XS.iloadN X29.here hx rfl (hb hby d1_54) rfl ) ?_
        show Go p e below T29 (mkF m 55 #[.val (.ref a1), .val (.int (Int32.ofNat N)), .val (.int (3 : Int32)), .val (.int (Int32.ofNat N)), .val (.int (0 : Int32))] [(.int (Int32.ofNat N)), (.int (1 : Int32)), (.int (0 : Int32)), (.ref b27)]) _
        refine Go.step (fun _ => XS.bipush X29.here hx rfl (hb hby d1_55)) ?_
        show Go p e below T29 (mkF m 57 #[.val (.ref a1), .val (.int (Int32.ofNat N)), .val (.int (3 : Int32)), .val (.int (Int32.ofNat N)), .val (.int (0 : Int32))] [(.int (63 : Int32)), (.int (Int32.ofNat N)), (.int (1 : Int32)), (.int (0 : Int32)), (.ref b27)]) _
        refine Go.step (fun _ => XS.iadd X29.here hx rfl (hb hby d1_57) rfl) ?_
        show Go p e below T29 (mkF m 58 #[.val (.ref a1), .val (.int (Int32.ofNat N)), .val (.int (3 : Int32)), .val (.int (Int32.ofNat N)), .val (.int (0 : Int32))] [(.int ((Int32.ofNat N) + (63 : Int32))), (.int (1 : Int32)), (.int (0 : Int32)), (.ref b27)]) _
        refine Go.step (fun _ => XS.bipush X29.here hx rfl (hb hby d1_58)) ?_
        show Go p e below T29 (mkF m 60 #[.val (.ref a1), .val (.int (Int32.ofNat N)), .val (.int (3 : Int32)), .val (.int (Int32.ofNat N)), .val (.int (0 : Int32))] [(.int (64 : Int32)), (.int ((Int32.ofNat N) + (63 : Int32))), (.int (1 : Int32)), (.int (0 : Int32)), (.ref b27)]) _
        refine Go.step (fun _ => XS.idiv X29.here hx rfl (hb hby d1_60) rfl (by decide)) ?_
        show Go p e below T29 (mkF m 61 #[.val (.ref a1), .val (.int (Int32.ofNat N)), .val (.int (3 : Int32)), .val (.int (Int32.ofNat N)), .val (.int (0 : Int32))] [(.int (((Int32.ofNat N) + (63 : Int32)) / (64 : Int32))), (.int (1 : Int32)), (.int (0 : Int32)), (.ref b27)]) _
        rw [show (Int32.ofNat N + (63 : Int32)) / (64 : Int32) = Int32.ofNat (szN N 0) from own_div64 (by omega)]
        show Go p e below T29 (mkF m 61 #[.val (.ref a1), .val (.int (Int32.ofNat N)), .val (.int (3 : Int32)), .val (.int (Int32.ofNat N)), .val (.int (0 : Int32))] [(.int (Int32.ofNat (szN N 0))), (.int (1 : Int32)), (.int (0 : Int32)), (.ref b27)]) _
        obtain ⟨_, _, ⟨T30, L30, k30, n30⟩, -, X30, ⟨Lc30, hQ30, l30, y30, z30⟩, st30⟩ := Jvm.LawKit.callS X29 hx (y := (⟨"java/lang/Math", "max", "(II)I"⟩ : MethodName)) hown (mvT hZ (hw _ (List.mem_of_getElem? (i := 15) rfl))) (mvT hZ (hw _ (List.mem_of_getElem? (i := 16) rfl))) (mvT hZ (hw _ (List.mem_of_getElem? (i := 17) rfl))) (mvT hZ (hw _ (List.mem_of_getElem? (i := 18) rfl))) (by decide) (backOf (W := 2) (rmMx l Z a0 hw [] (1 : Int32) (Int32.ofNat (szN N 0)) (Int32.ofNat (szN N 0)) h28 n0 Z28 (own_mx1 (by simp only [szN]; omega) (by have := own_szLe (N := N) 0; omega))) hZ (hw _ (List.mem_of_getElem? (i := 18) rfl)) (hw _ (List.mem_of_getElem? (i := 17) rfl)) (by decide) (by decide)) (g := (mkF m 61 #[.val (.ref a1), .val (.int (Int32.ofNat N)), .val (.int (3 : Int32)), .val (.int (Int32.ofNat N)), .val (.int (0 : Int32))] [(.int (Int32.ofNat (szN N 0))), (.int (1 : Int32)), (.int (0 : Int32)), (.ref b27)])) rfl (by rw [hml]; rfl) (argsL := [(.int (1 : Int32)), (.int (Int32.ofNat (szN N 0)))]) (rest := [(.int (0 : Int32)), (.ref b27)]) (lenOf pd_2 rfl) rfl (by show 2 * 0 + _ ≤ _; exact Nat.le_of_eq rfl) (hb hby d1_61) (fun _ _ => ⟨rfl, e29, (by decide : 0 + 1 + 0 ≤ _), (by decide : 0 + 3 + 0 ≤ _)⟩)
        dsimp only [Pt.U, Pt.locs, Pt.cells, Pt.slots] at X30 l30 y30 z30 st30 hQ30
        subst l30 y30 z30
        obtain ⟨rfl, Nq30, eh30⟩ := hQ30
        have N30 := Fr.app N28 Nq30
        refine Go.step st30 ?_
        show Go p e below T30 (mkF m 64 #[.val (.ref a1), .val (.int (Int32.ofNat N)), .val (.int (3 : Int32)), .val (.int (Int32.ofNat N)), .val (.int (0 : Int32))] [(.int (Int32.ofNat (szN N 0))), (.int (0 : Int32)), (.ref b27)]) _
        obtain ⟨T31, h31, k31, X31, e31, E31, A31, B31, st31⟩ := newPE X30 hx hZ (hw _ (List.mem_of_getElem? (i := 19) rfl)) eh30 (g := (mkF m 64 #[.val (.ref a1), .val (.int (Int32.ofNat N)), .val (.int (3 : Int32)), .val (.int (Int32.ofNat N)), .val (.int (0 : Int32))] [(.int (Int32.ofNat (szN N 0))), (.int (0 : Int32)), (.ref b27)])) rfl (hb hby d1_64) rfl (own_nn (by have := own_szLe (N := N) 0; omega)) (cap := 16384) (by rw [own_clamp (by have := own_szLe (N := N) 0; omega)]; simp only [szN]; omega) (by decide) (by decide) (by decide) (ad := "[J") (by decide)
        obtain ⟨b31, g31⟩ : ∃ z, z = h28.size := ⟨_, rfl⟩
        rw [← g31] at A31 B31 st31
        have ne_a1_b31 : a1 ≠ b31 := Nat.ne_of_lt (Nat.lt_of_lt_of_le E1_q28.lt (Nat.le_of_eq g31.symm))
        have ne_b27_b31 : b27 ≠ b31 := Nat.ne_of_lt (Nat.lt_of_lt_of_le V_b27_q28.lt (Nat.le_of_eq g31.symm))
        have g_b31 : n0 ≤ b31 := Nat.le_trans Z28 (Nat.le_of_eq g31.symm)
        have E1_q31 := E1_q28.ext E31
        have V_b27_q31 := V_b27_q28.ext E31
        have F_levels_a1_q31 := F_levels_a1_q28.ext E31
        have Z31 : n0 ≤ h31.size := Nat.le_trans Z28 E31.1
        refine Go.step st31 ?_
        have V_b31 : Af Z h31 b31 (szN N 0) (fun _ => 0) := Af.new A31 (by have := own_szLe (N := N) 0; omega)
        show Go p e below T31 (mkF m 66 #[.val (.ref a1), .val (.int (Int32.ofNat N)), .val (.int (3 : Int32)), .val (.int (Int32.ofNat N)), .val (.int (0 : Int32))] [(.ref b31), (.int (0 : Int32)), (.ref b27)]) _
        obtain ⟨cl32, Ar32, qa32, Sz32, Nz32, Ha32, Ga32⟩ := V_b27_q31
        obtain ⟨T33, h33, X33, e33, W33, st33⟩ := stR X31 hx hZ e31 Ar32 (j := (0 : Int32)) (inb_of Sz32 ⟨by decide, by decide⟩) rfl (Sto.ofVA Ar32 qa32 O27 (Ins.self B31)) (g := (mkF m 66 #[.val (.ref a1), .val (.int (Int32.ofNat N)), .val (.int (3 : Int32)), .val (.int (Int32.ofNat N)), .val (.int (0 : Int32))] [(.ref b31), (.int (0 : Int32)), (.ref b27)])) rfl rfl (hb hby d1_66)
        refine Go.step st33 ?_
        have N33 := Fr.snoc X33 N30 g_b27
        have V_b27_q33 : Arv Z h33 b27 k27 (.array .long) (3 : Int32) [(.ref b31), .null, .null] .null := Arv.set Ar32 qa32 Sz32 Nz32 Ha32 Ga32 rfl W33 0 rfl (Nat.le_of_ble_eq_true rfl)
        have E1_q33 := E1_q31.wr W33
        have F_levels_a1_q33 := F_levels_a1_q31.other W33 (Or.inl ne_a1_b27)
        have V_b31_q33 := V_b31.other W33 (Ne.symm ne_b27_b31)
        have Z33 : n0 ≤ h33.size := by rw [W33.size]; exact Z31
        show Go p e below T33 (mkF m 67 #[.val (.ref a1), .val (.int (Int32.ofNat N)), .val (.int (3 : Int32)), .val (.int (Int32.ofNat N)), .val (.int (0 : Int32))] []) _
        refine Go.step (fun _ => XS.iloadN X33.here hx rfl (hb hby d1_67) rfl ) ?_
        show Go p e below T33 (mkF m 68 #[.val (.ref a1), .val (.int (Int32.ofNat N)), .val (.int (3 : Int32)), .val (.int (Int32.ofNat N)), .val (.int (0 : Int32))] [(.int (Int32.ofNat N))]) _
        refine Go.step (fun _ => XS.bipush X33.here hx rfl (hb hby d1_68)) ?_
        show Go p e below T33 (mkF m 70 #[.val (.ref a1), .val (.int (Int32.ofNat N)), .val (.int (3 : Int32)), .val (.int (Int32.ofNat N)), .val (.int (0 : Int32))] [(.int (63 : Int32)), (.int (Int32.ofNat N))]) _
        refine Go.step (fun _ => XS.iadd X33.here hx rfl (hb hby d1_70) rfl) ?_
        show Go p e below T33 (mkF m 71 #[.val (.ref a1), .val (.int (Int32.ofNat N)), .val (.int (3 : Int32)), .val (.int (Int32.ofNat N)), .val (.int (0 : Int32))] [(.int ((Int32.ofNat N) + (63 : Int32)))]) _
        refine Go.step (fun _ => XS.bipush X33.here hx rfl (hb hby d1_71)) ?_
        show Go p e below T33 (mkF m 73 #[.val (.ref a1), .val (.int (Int32.ofNat N)), .val (.int (3 : Int32)), .val (.int (Int32.ofNat N)), .val (.int (0 : Int32))] [(.int (64 : Int32)), (.int ((Int32.ofNat N) + (63 : Int32)))]) _
        refine Go.step (fun _ => XS.idiv X33.here hx rfl (hb hby d1_73) rfl (by decide)) ?_
        show Go p e below T33 (mkF m 74 #[.val (.ref a1), .val (.int (Int32.ofNat N)), .val (.int (3 : Int32)), .val (.int (Int32.ofNat N)), .val (.int (0 : Int32))] [(.int (((Int32.ofNat N) + (63 : Int32)) / (64 : Int32)))]) _
        rw [show (Int32.ofNat N + (63 : Int32)) / (64 : Int32) = Int32.ofNat (szN N 0) from own_div64 (by omega)]
        show Go p e below T33 (mkF m 74 #[.val (.ref a1), .val (.int (Int32.ofNat N)), .val (.int (3 : Int32)), .val (.int (Int32.ofNat N)), .val (.int (0 : Int32))] [(.int (Int32.ofNat (szN N 0)))]) _
        refine Go.step (fun _ => XS.istoreN X33.here hx rfl (hb hby d1_74) rfl (l' := #[.val (.ref a1), .val (.int (Int32.ofNat N)), .val (.int (3 : Int32)), .val (.int (Int32.ofNat (szN N 0))), .val (.int (0 : Int32))]) rfl) ?_
        show Go p e below T33 (mkF m 75 #[.val (.ref a1), .val (.int (Int32.ofNat N)), .val (.int (3 : Int32)), .val (.int (Int32.ofNat (szN N 0))), .val (.int (0 : Int32))] []) _
        refine Go.step (fun _ => XS.iinc X33.here hx rfl (hb hby d1_75) rfl (l' := #[.val (.ref a1), .val (.int (Int32.ofNat N)), .val (.int (3 : Int32)), .val (.int (Int32.ofNat (szN N 0))), .val (.int (1 : Int32))]) rfl) ?_
        show Go p e below T33 (mkF m 78 #[.val (.ref a1), .val (.int (Int32.ofNat N)), .val (.int (3 : Int32)), .val (.int (Int32.ofNat (szN N 0))), .val (.int (1 : Int32))] []) _
        refine Go.step (fun _ => XS.goto X33.here hx rfl (pc0 := 78) (pc' := 41) rfl (hb hby d1_78) (by decide) (by decide)) ?_
        show Go p e below T33 (mkF m 41 #[.val (.ref a1), .val (.int (Int32.ofNat N)), .val (.int (3 : Int32)), .val (.int (Int32.ofNat (szN N 0))), .val (.int (1 : Int32))] []) _
        refine Go.step (fun _ => XS.iload X33.here hx rfl (hb hby d1_41) rfl ) ?_
        show Go p e below T33 (mkF m 43 #[.val (.ref a1), .val (.int (Int32.ofNat N)), .val (.int (3 : Int32)), .val (.int (Int32.ofNat (szN N 0))), .val (.int (1 : Int32))] [(.int (1 : Int32))]) _
        refine Go.step (fun _ => XS.iloadN X33.here hx rfl (hb hby d1_43) rfl ) ?_
        show Go p e below T33 (mkF m 44 #[.val (.ref a1), .val (.int (Int32.ofNat N)), .val (.int (3 : Int32)), .val (.int (Int32.ofNat (szN N 0))), .val (.int (1 : Int32))] [(.int (3 : Int32)), (.int (1 : Int32))]) _
        refine Go.step (fun _ => XS.icmpNo X33.here hx rfl (hb hby d1_44) rfl (tlt (by decide)).2.1) ?_
        show Go p e below T33 (mkF m 47 #[.val (.ref a1), .val (.int (Int32.ofNat N)), .val (.int (3 : Int32)), .val (.int (Int32.ofNat (szN N 0))), .val (.int (1 : Int32))] []) _
        refine Go.step (fun _ => XS.aloadN X33.here hx rfl (hb hby d1_47) rfl rfl ) ?_
        show Go p e below T33 (mkF m 48 #[.val (.ref a1), .val (.int (Int32.ofNat N)), .val (.int (3 : Int32)), .val (.int (Int32.ofNat (szN N 0))), .val (.int (1 : Int32))] [(.ref a1)]) _
        obtain ⟨T34, X34, e34, st34⟩ := getF X33 hx hZ hown (host := "") (Or.inl (hw _ (List.mem_of_getElem? (i := 13) rfl))) Via.refl e33 F_levels_a1_q33 (g := (mkF m 48 #[.val (.ref a1), .val (.int (Int32.ofNat N)), .val (.int (3 : Int32)), .val (.int (Int32.ofNat (szN N 0))), .val (.int (1 : Int32))] [(.ref a1)])) rfl rfl (hb hby d1_48)
        refine Go.step st34 ?_
        show Go p e below T34 (mkF m 51 #[.val (.ref a1), .val (.int (Int32.ofNat N)), .val (.int (3 : Int32)), .val (.int (Int32.ofNat (szN N 0))), .val (.int (1 : Int32))] [(.ref b27)]) _
        refine Go.step (fun _ => XS.iload X34.here hx rfl (hb hby d1_51) rfl ) ?_
        show Go p e below T34 (mkF m 53 #[.val (.ref a1), .val (.int (Int32.ofNat N)), .val (.int (3 : Int32)), .val (.int (Int32.ofNat (szN N 0))), .val (.int (1 : Int32))] [(.int (1 : Int32)), (.ref b27)]) _
        refine Go.step (fun _ => XS.iconst X34.here hx rfl (hb hby d1_53)) ?_
        show Go p e below T34 (mkF m 54 #[.val (.ref a1), .val (.int (Int32.ofNat N)), .val (.int (3 : Int32)), .val (.int (Int32.ofNat (szN N 0))), .val (.int (1 : Int32))] [(.int (1 : Int32)), (.int (1 : Int32)), (.ref b27)]) _
        refine Go.step (fun _ => XS.iloadN X34.here hx rfl (hb hby d1_54) rfl ) ?_
        show Go p e below T34 (mkF m 55 #[.val (.ref a1), .val (.int (Int32.ofNat N)), .val (.int (3 : Int32)), .val (.int (Int32.ofNat (szN N 0))), .val (.int (1 : Int32))] [(.int (Int32.ofNat (szN N 0))), (.int (1 : Int32)), (.int (1 : Int32)), (.ref b27)]) _
        refine Go.step (fun _ => XS.bipush X34.here hx rfl (hb hby d1_55)) ?_
        show Go p e below T34 (mkF m 57 #[.val (.ref a1), .val (.int (Int32.ofNat N)), .val (.int (3 : Int32)), .val (.int (Int32.ofNat (szN N 0))), .val (.int (1 : Int32))] [(.int (63 : Int32)), (.int (Int32.ofNat (szN N 0))), (.int (1 : Int32)), (.int (1 : Int32)), (.ref b27)]) _
        refine Go.step (fun _ => XS.iadd X34.here hx rfl (hb hby d1_57) rfl) ?_
        show Go p e below T34 (mkF m 58 #[.val (.ref a1), .val (.int (Int32.ofNat N)), .val (.int (3 : Int32)), .val (.int (Int32.ofNat (szN N 0))), .val (.int (1 : Int32))] [(.int ((Int32.ofNat (szN N 0)) + (63 : Int32))), (.int (1 : Int32)), (.int (1 : Int32)), (.ref b27)]) _
        refine Go.step (fun _ => XS.bipush X34.here hx rfl (hb hby d1_58)) ?_
        show Go p e below T34 (mkF m 60 #[.val (.ref a1), .val (.int (Int32.ofNat N)), .val (.int (3 : Int32)), .val (.int (Int32.ofNat (szN N 0))), .val (.int (1 : Int32))] [(.int (64 : Int32)), (.int ((Int32.ofNat (szN N 0)) + (63 : Int32))), (.int (1 : Int32)), (.int (1 : Int32)), (.ref b27)]) _
        refine Go.step (fun _ => XS.idiv X34.here hx rfl (hb hby d1_60) rfl (by decide)) ?_
        show Go p e below T34 (mkF m 61 #[.val (.ref a1), .val (.int (Int32.ofNat N)), .val (.int (3 : Int32)), .val (.int (Int32.ofNat (szN N 0))), .val (.int (1 : Int32))] [(.int (((Int32.ofNat (szN N 0)) + (63 : Int32)) / (64 : Int32))), (.int (1 : Int32)), (.int (1 : Int32)), (.ref b27)]) _
        rw [show (Int32.ofNat (szN N 0) + (63 : Int32)) / (64 : Int32) = Int32.ofNat (szN N 1) from own_div64 (by have := own_szLe (N := N) 0; omega)]
        show Go p e below T34 (mkF m 61 #[.val (.ref a1), .val (.int (Int32.ofNat N)), .val (.int (3 : Int32)), .val (.int (Int32.ofNat (szN N 0))), .val (.int (1 : Int32))] [(.int (Int32.ofNat (szN N 1))), (.int (1 : Int32)), (.int (1 : Int32)), (.ref b27)]) _
        obtain ⟨_, _, ⟨T35, L35, k35, n35⟩, -, X35, ⟨Lc35, hQ35, l35, y35, z35⟩, st35⟩ := Jvm.LawKit.callS X34 hx (y := (⟨"java/lang/Math", "max", "(II)I"⟩ : MethodName)) hown (mvT hZ (hw _ (List.mem_of_getElem? (i := 15) rfl))) (mvT hZ (hw _ (List.mem_of_getElem? (i := 16) rfl))) (mvT hZ (hw _ (List.mem_of_getElem? (i := 17) rfl))) (mvT hZ (hw _ (List.mem_of_getElem? (i := 18) rfl))) (by decide) (backOf (W := 2) (rmMx l Z a0 hw [] (1 : Int32) (Int32.ofNat (szN N 1)) (Int32.ofNat (szN N 1)) h33 n0 Z33 (own_mx1 (by simp only [szN]; omega) (by have := own_szLe (N := N) 1; omega))) hZ (hw _ (List.mem_of_getElem? (i := 18) rfl)) (hw _ (List.mem_of_getElem? (i := 17) rfl)) (by decide) (by decide)) (g := (mkF m 61 #[.val (.ref a1), .val (.int (Int32.ofNat N)), .val (.int (3 : Int32)), .val (.int (Int32.ofNat (szN N 0))), .val (.int (1 : Int32))] [(.int (Int32.ofNat (szN N 1))), (.int (1 : Int32)), (.int (1 : Int32)), (.ref b27)])) rfl (by rw [hml]; rfl) (argsL := [(.int (1 : Int32)), (.int (Int32.ofNat (szN N 1)))]) (rest := [(.int (1 : Int32)), (.ref b27)]) (lenOf pd_2 rfl) rfl (by show 2 * 0 + _ ≤ _; exact Nat.le_of_eq rfl) (hb hby d1_61) (fun _ _ => ⟨rfl, e34, (by decide : 0 + 1 + 0 + 1 + 0 ≤ _), (by decide : 0 + 3 + 0 + 16384 + 0 ≤ _)⟩)
        dsimp only [Pt.U, Pt.locs, Pt.cells, Pt.slots] at X35 l35 y35 z35 st35 hQ35
        subst l35 y35 z35
        obtain ⟨rfl, Nq35, eh35⟩ := hQ35
        have N35 := Fr.app N33 Nq35
        refine Go.step st35 ?_
        show Go p e below T35 (mkF m 64 #[.val (.ref a1), .val (.int (Int32.ofNat N)), .val (.int (3 : Int32)), .val (.int (Int32.ofNat (szN N 0))), .val (.int (1 : Int32))] [(.int (Int32.ofNat (szN N 1))), (.int (1 : Int32)), (.ref b27)]) _
        obtain ⟨T36, h36, k36, X36, e36, E36, A36, B36, st36⟩ := newPE X35 hx hZ (hw _ (List.mem_of_getElem? (i := 19) rfl)) eh35 (g := (mkF m 64 #[.val (.ref a1), .val (.int (Int32.ofNat N)), .val (.int (3 : Int32)), .val (.int (Int32.ofNat (szN N 0))), .val (.int (1 : Int32))] [(.int (Int32.ofNat (szN N 1))), (.int (1 : Int32)), (.ref b27)])) rfl (hb hby d1_64) rfl (own_nn (by have := own_szLe (N := N) 1; omega)) (cap := 256) (by rw [own_clamp (by have := own_szLe (N := N) 1; omega)]; simp only [szN]; omega) (by decide) (by decide) (by decide) (ad := "[J") (by decide)
        obtain ⟨b36, g36⟩ : ∃ z, z = h33.size := ⟨_, rfl⟩
        rw [← g36] at A36 B36 st36
        have ne_a1_b36 : a1 ≠ b36 := Nat.ne_of_lt (Nat.lt_of_lt_of_le E1_q33.lt (Nat.le_of_eq g36.symm))
        have ne_b31_b36 : b31 ≠ b36 := Nat.ne_of_lt (Nat.lt_of_lt_of_le V_b31_q33.lt (Nat.le_of_eq g36.symm))
        have ne_b27_b36 : b27 ≠ b36 := Nat.ne_of_lt (Nat.lt_of_lt_of_le V_b27_q33.lt (Nat.le_of_eq g36.symm))
        have g_b36 : n0 ≤ b36 := Nat.le_trans Z33 (Nat.le_of_eq g36.symm)
        have E1_q36 := E1_q33.ext E36
        have F_levels_a1_q36 := F_levels_a1_q33.ext E36
        have V_b31_q36 := V_b31_q33.ext E36
        have V_b27_q36 := V_b27_q33.ext E36
        have Z36 : n0 ≤ h36.size := Nat.le_trans Z33 E36.1
        refine Go.step st36 ?_
        have V_b36 : Af Z h36 b36 (szN N 1) (fun _ => 0) := Af.new A36 (by have := own_szLe (N := N) 1; omega)
        show Go p e below T36 (mkF m 66 #[.val (.ref a1), .val (.int (Int32.ofNat N)), .val (.int (3 : Int32)), .val (.int (Int32.ofNat (szN N 0))), .val (.int (1 : Int32))] [(.ref b36), (.int (1 : Int32)), (.ref b27)]) _
        obtain ⟨cl37, Ar37, qa37, Sz37, Nz37, Ha37, Ga37⟩ := V_b27_q36
        obtain ⟨T38, h38, X38, e38, W38, st38⟩ := stR X36 hx hZ e36 Ar37 (j := (1 : Int32)) (inb_of Sz37 ⟨by decide, by decide⟩) rfl (Sto.ofVA Ar37 qa37 O27 (Ins.self B36)) (g := (mkF m 66 #[.val (.ref a1), .val (.int (Int32.ofNat N)), .val (.int (3 : Int32)), .val (.int (Int32.ofNat (szN N 0))), .val (.int (1 : Int32))] [(.ref b36), (.int (1 : Int32)), (.ref b27)])) rfl rfl (hb hby d1_66)
        refine Go.step st38 ?_
        have N38 := Fr.snoc X38 N35 g_b27
        have V_b27_q38 : Arv Z h38 b27 k27 (.array .long) (3 : Int32) [(.ref b31), (.ref b36), .null] .null := Arv.set Ar37 qa37 Sz37 Nz37 Ha37 Ga37 rfl W38 1 rfl (Nat.le_of_ble_eq_true rfl)
        have E1_q38 := E1_q36.wr W38
        have F_levels_a1_q38 := F_levels_a1_q36.other W38 (Or.inl ne_a1_b27)
        have V_b31_q38 := V_b31_q36.other W38 (Ne.symm ne_b27_b31)
        have V_b36_q38 := V_b36.other W38 (Ne.symm ne_b27_b36)
        have Z38 : n0 ≤ h38.size := by rw [W38.size]; exact Z36
        show Go p e below T38 (mkF m 67 #[.val (.ref a1), .val (.int (Int32.ofNat N)), .val (.int (3 : Int32)), .val (.int (Int32.ofNat (szN N 0))), .val (.int (1 : Int32))] []) _
        refine Go.step (fun _ => XS.iloadN X38.here hx rfl (hb hby d1_67) rfl ) ?_
        show Go p e below T38 (mkF m 68 #[.val (.ref a1), .val (.int (Int32.ofNat N)), .val (.int (3 : Int32)), .val (.int (Int32.ofNat (szN N 0))), .val (.int (1 : Int32))] [(.int (Int32.ofNat (szN N 0)))]) _
        refine Go.step (fun _ => XS.bipush X38.here hx rfl (hb hby d1_68)) ?_
        show Go p e below T38 (mkF m 70 #[.val (.ref a1), .val (.int (Int32.ofNat N)), .val (.int (3 : Int32)), .val (.int (Int32.ofNat (szN N 0))), .val (.int (1 : Int32))] [(.int (63 : Int32)), (.int (Int32.ofNat (szN N 0)))]) _
        refine Go.step (fun _ => XS.iadd X38.here hx rfl (hb hby d1_70) rfl) ?_
        show Go p e below T38 (mkF m 71 #[.val (.ref a1), .val (.int (Int32.ofNat N)), .val (.int (3 : Int32)), .val (.int (Int32.ofNat (szN N 0))), .val (.int (1 : Int32))] [(.int ((Int32.ofNat (szN N 0)) + (63 : Int32)))]) _
        refine Go.step (fun _ => XS.bipush X38.here hx rfl (hb hby d1_71)) ?_
        show Go p e below T38 (mkF m 73 #[.val (.ref a1), .val (.int (Int32.ofNat N)), .val (.int (3 : Int32)), .val (.int (Int32.ofNat (szN N 0))), .val (.int (1 : Int32))] [(.int (64 : Int32)), (.int ((Int32.ofNat (szN N 0)) + (63 : Int32)))]) _
        refine Go.step (fun _ => XS.idiv X38.here hx rfl (hb hby d1_73) rfl (by decide)) ?_
        show Go p e below T38 (mkF m 74 #[.val (.ref a1), .val (.int (Int32.ofNat N)), .val (.int (3 : Int32)), .val (.int (Int32.ofNat (szN N 0))), .val (.int (1 : Int32))] [(.int (((Int32.ofNat (szN N 0)) + (63 : Int32)) / (64 : Int32)))]) _
        rw [show (Int32.ofNat (szN N 0) + (63 : Int32)) / (64 : Int32) = Int32.ofNat (szN N 1) from own_div64 (by have := own_szLe (N := N) 0; omega)]
        show Go p e below T38 (mkF m 74 #[.val (.ref a1), .val (.int (Int32.ofNat N)), .val (.int (3 : Int32)), .val (.int (Int32.ofNat (szN N 0))), .val (.int (1 : Int32))] [(.int (Int32.ofNat (szN N 1)))]) _
        refine Go.step (fun _ => XS.istoreN X38.here hx rfl (hb hby d1_74) rfl (l' := #[.val (.ref a1), .val (.int (Int32.ofNat N)), .val (.int (3 : Int32)), .val (.int (Int32.ofNat (szN N 1))), .val (.int (1 : Int32))]) rfl) ?_
        show Go p e below T38 (mkF m 75 #[.val (.ref a1), .val (.int (Int32.ofNat N)), .val (.int (3 : Int32)), .val (.int (Int32.ofNat (szN N 1))), .val (.int (1 : Int32))] []) _
        refine Go.step (fun _ => XS.iinc X38.here hx rfl (hb hby d1_75) rfl (l' := #[.val (.ref a1), .val (.int (Int32.ofNat N)), .val (.int (3 : Int32)), .val (.int (Int32.ofNat (szN N 1))), .val (.int (2 : Int32))]) rfl) ?_
        show Go p e below T38 (mkF m 78 #[.val (.ref a1), .val (.int (Int32.ofNat N)), .val (.int (3 : Int32)), .val (.int (Int32.ofNat (szN N 1))), .val (.int (2 : Int32))] []) _
        refine Go.step (fun _ => XS.goto X38.here hx rfl (pc0 := 78) (pc' := 41) rfl (hb hby d1_78) (by decide) (by decide)) ?_
        show Go p e below T38 (mkF m 41 #[.val (.ref a1), .val (.int (Int32.ofNat N)), .val (.int (3 : Int32)), .val (.int (Int32.ofNat (szN N 1))), .val (.int (2 : Int32))] []) _
        refine Go.step (fun _ => XS.iload X38.here hx rfl (hb hby d1_41) rfl ) ?_
        show Go p e below T38 (mkF m 43 #[.val (.ref a1), .val (.int (Int32.ofNat N)), .val (.int (3 : Int32)), .val (.int (Int32.ofNat (szN N 1))), .val (.int (2 : Int32))] [(.int (2 : Int32))]) _
        refine Go.step (fun _ => XS.iloadN X38.here hx rfl (hb hby d1_43) rfl ) ?_
        show Go p e below T38 (mkF m 44 #[.val (.ref a1), .val (.int (Int32.ofNat N)), .val (.int (3 : Int32)), .val (.int (Int32.ofNat (szN N 1))), .val (.int (2 : Int32))] [(.int (3 : Int32)), (.int (2 : Int32))]) _
        refine Go.step (fun _ => XS.icmpNo X38.here hx rfl (hb hby d1_44) rfl (tlt (by decide)).2.1) ?_
        show Go p e below T38 (mkF m 47 #[.val (.ref a1), .val (.int (Int32.ofNat N)), .val (.int (3 : Int32)), .val (.int (Int32.ofNat (szN N 1))), .val (.int (2 : Int32))] []) _
        refine Go.step (fun _ => XS.aloadN X38.here hx rfl (hb hby d1_47) rfl rfl ) ?_
        show Go p e below T38 (mkF m 48 #[.val (.ref a1), .val (.int (Int32.ofNat N)), .val (.int (3 : Int32)), .val (.int (Int32.ofNat (szN N 1))), .val (.int (2 : Int32))] [(.ref a1)]) _
        obtain ⟨T39, X39, e39, st39⟩ := getF X38 hx hZ hown (host := "") (Or.inl (hw _ (List.mem_of_getElem? (i := 13) rfl))) Via.refl e38 F_levels_a1_q38 (g := (mkF m 48 #[.val (.ref a1), .val (.int (Int32.ofNat N)), .val (.int (3 : Int32)), .val (.int (Int32.ofNat (szN N 1))), .val (.int (2 : Int32))] [(.ref a1)])) rfl rfl (hb hby d1_48)
        refine Go.step st39 ?_
        show Go p e below T39 (mkF m 51 #[.val (.ref a1), .val (.int (Int32.ofNat N)), .val (.int (3 : Int32)), .val (.int (Int32.ofNat (szN N 1))), .val (.int (2 : Int32))] [(.ref b27)]) _
        refine Go.step (fun _ => XS.iload X39.here hx rfl (hb hby d1_51) rfl ) ?_
        show Go p e below T39 (mkF m 53 #[.val (.ref a1), .val (.int (Int32.ofNat N)), .val (.int (3 : Int32)), .val (.int (Int32.ofNat (szN N 1))), .val (.int (2 : Int32))] [(.int (2 : Int32)), (.ref b27)]) _
        refine Go.step (fun _ => XS.iconst X39.here hx rfl (hb hby d1_53)) ?_
        show Go p e below T39 (mkF m 54 #[.val (.ref a1), .val (.int (Int32.ofNat N)), .val (.int (3 : Int32)), .val (.int (Int32.ofNat (szN N 1))), .val (.int (2 : Int32))] [(.int (1 : Int32)), (.int (2 : Int32)), (.ref b27)]) _
        refine Go.step (fun _ => XS.iloadN X39.here hx rfl (hb hby d1_54) rfl ) ?_
        show Go p e below T39 (mkF m 55 #[.val (.ref a1), .val (.int (Int32.ofNat N)), .val (.int (3 : Int32)), .val (.int (Int32.ofNat (szN N 1))), .val (.int (2 : Int32))] [(.int (Int32.ofNat (szN N 1))), (.int (1 : Int32)), (.int (2 : Int32)), (.ref b27)]) _
        refine Go.step (fun _ => XS.bipush X39.here hx rfl (hb hby d1_55)) ?_
        show Go p e below T39 (mkF m 57 #[.val (.ref a1), .val (.int (Int32.ofNat N)), .val (.int (3 : Int32)), .val (.int (Int32.ofNat (szN N 1))), .val (.int (2 : Int32))] [(.int (63 : Int32)), (.int (Int32.ofNat (szN N 1))), (.int (1 : Int32)), (.int (2 : Int32)), (.ref b27)]) _
        refine Go.step (fun _ => XS.iadd X39.here hx rfl (hb hby d1_57) rfl) ?_
        show Go p e below T39 (mkF m 58 #[.val (.ref a1), .val (.int (Int32.ofNat N)), .val (.int (3 : Int32)), .val (.int (Int32.ofNat (szN N 1))), .val (.int (2 : Int32))] [(.int ((Int32.ofNat (szN N 1)) + (63 : Int32))), (.int (1 : Int32)), (.int (2 : Int32)), (.ref b27)]) _
        refine Go.step (fun _ => XS.bipush X39.here hx rfl (hb hby d1_58)) ?_
        show Go p e below T39 (mkF m 60 #[.val (.ref a1), .val (.int (Int32.ofNat N)), .val (.int (3 : Int32)), .val (.int (Int32.ofNat (szN N 1))), .val (.int (2 : Int32))] [(.int (64 : Int32)), (.int ((Int32.ofNat (szN N 1)) + (63 : Int32))), (.int (1 : Int32)), (.int (2 : Int32)), (.ref b27)]) _
        refine Go.step (fun _ => XS.idiv X39.here hx rfl (hb hby d1_60) rfl (by decide)) ?_
        show Go p e below T39 (mkF m 61 #[.val (.ref a1), .val (.int (Int32.ofNat N)), .val (.int (3 : Int32)), .val (.int (Int32.ofNat (szN N 1))), .val (.int (2 : Int32))] [(.int (((Int32.ofNat (szN N 1)) + (63 : Int32)) / (64 : Int32))), (.int (1 : Int32)), (.int (2 : Int32)), (.ref b27)]) _
        rw [show (Int32.ofNat (szN N 1) + (63 : Int32)) / (64 : Int32) = Int32.ofNat (szN N 2) from own_div64 (by have := own_szLe (N := N) 1; omega)]
        show Go p e below T39 (mkF m 61 #[.val (.ref a1), .val (.int (Int32.ofNat N)), .val (.int (3 : Int32)), .val (.int (Int32.ofNat (szN N 1))), .val (.int (2 : Int32))] [(.int (Int32.ofNat (szN N 2))), (.int (1 : Int32)), (.int (2 : Int32)), (.ref b27)]) _
        obtain ⟨_, _, ⟨T40, L40, k40, n40⟩, -, X40, ⟨Lc40, hQ40, l40, y40, z40⟩, st40⟩ := Jvm.LawKit.callS X39 hx (y := (⟨"java/lang/Math", "max", "(II)I"⟩ : MethodName)) hown (mvT hZ (hw _ (List.mem_of_getElem? (i := 15) rfl))) (mvT hZ (hw _ (List.mem_of_getElem? (i := 16) rfl))) (mvT hZ (hw _ (List.mem_of_getElem? (i := 17) rfl))) (mvT hZ (hw _ (List.mem_of_getElem? (i := 18) rfl))) (by decide) (backOf (W := 2) (rmMx l Z a0 hw [] (1 : Int32) (Int32.ofNat (szN N 2)) (Int32.ofNat (szN N 2)) h38 n0 Z38 (own_mx1 (by simp only [szN]; omega) (by have := own_szLe (N := N) 2; omega))) hZ (hw _ (List.mem_of_getElem? (i := 18) rfl)) (hw _ (List.mem_of_getElem? (i := 17) rfl)) (by decide) (by decide)) (g := (mkF m 61 #[.val (.ref a1), .val (.int (Int32.ofNat N)), .val (.int (3 : Int32)), .val (.int (Int32.ofNat (szN N 1))), .val (.int (2 : Int32))] [(.int (Int32.ofNat (szN N 2))), (.int (1 : Int32)), (.int (2 : Int32)), (.ref b27)])) rfl (by rw [hml]; rfl) (argsL := [(.int (1 : Int32)), (.int (Int32.ofNat (szN N 2)))]) (rest := [(.int (2 : Int32)), (.ref b27)]) (lenOf pd_2 rfl) rfl (by show 2 * 0 + _ ≤ _; exact Nat.le_of_eq rfl) (hb hby d1_61) (fun _ _ => ⟨rfl, e39, (by decide : 0 + 1 + 0 + 1 + 0 + 1 + 0 ≤ _), (by decide : 0 + 3 + 0 + 16384 + 0 + 256 + 0 ≤ _)⟩)
        dsimp only [Pt.U, Pt.locs, Pt.cells, Pt.slots] at X40 l40 y40 z40 st40 hQ40
        subst l40 y40 z40
        obtain ⟨rfl, Nq40, eh40⟩ := hQ40
        have N40 := Fr.app N38 Nq40
        refine Go.step st40 ?_
        show Go p e below T40 (mkF m 64 #[.val (.ref a1), .val (.int (Int32.ofNat N)), .val (.int (3 : Int32)), .val (.int (Int32.ofNat (szN N 1))), .val (.int (2 : Int32))] [(.int (Int32.ofNat (szN N 2))), (.int (2 : Int32)), (.ref b27)]) _
        obtain ⟨T41, h41, k41, X41, e41, E41, A41, B41, st41⟩ := newPE X40 hx hZ (hw _ (List.mem_of_getElem? (i := 19) rfl)) eh40 (g := (mkF m 64 #[.val (.ref a1), .val (.int (Int32.ofNat N)), .val (.int (3 : Int32)), .val (.int (Int32.ofNat (szN N 1))), .val (.int (2 : Int32))] [(.int (Int32.ofNat (szN N 2))), (.int (2 : Int32)), (.ref b27)])) rfl (hb hby d1_64) rfl (own_nn (by have := own_szLe (N := N) 2; omega)) (cap := 4) (by rw [own_clamp (by have := own_szLe (N := N) 2; omega)]; simp only [szN]; omega) (by decide) (by decide) (by decide) (ad := "[J") (by decide)
        obtain ⟨b41, g41⟩ : ∃ z, z = h38.size := ⟨_, rfl⟩
        rw [← g41] at A41 B41 st41
        have ne_a1_b41 : a1 ≠ b41 := Nat.ne_of_lt (Nat.lt_of_lt_of_le E1_q38.lt (Nat.le_of_eq g41.symm))
        have ne_b31_b41 : b31 ≠ b41 := Nat.ne_of_lt (Nat.lt_of_lt_of_le V_b31_q38.lt (Nat.le_of_eq g41.symm))
        have ne_b36_b41 : b36 ≠ b41 := Nat.ne_of_lt (Nat.lt_of_lt_of_le V_b36_q38.lt (Nat.le_of_eq g41.symm))
        have ne_b27_b41 : b27 ≠ b41 := Nat.ne_of_lt (Nat.lt_of_lt_of_le V_b27_q38.lt (Nat.le_of_eq g41.symm))
        have g_b41 : n0 ≤ b41 := Nat.le_trans Z38 (Nat.le_of_eq g41.symm)
        have E1_q41 := E1_q38.ext E41
        have F_levels_a1_q41 := F_levels_a1_q38.ext E41
        have V_b31_q41 := V_b31_q38.ext E41
        have V_b36_q41 := V_b36_q38.ext E41
        have V_b27_q41 := V_b27_q38.ext E41
        have Z41 : n0 ≤ h41.size := Nat.le_trans Z38 E41.1
        refine Go.step st41 ?_
        have V_b41 : Af Z h41 b41 (szN N 2) (fun _ => 0) := Af.new A41 (by have := own_szLe (N := N) 2; omega)
        show Go p e below T41 (mkF m 66 #[.val (.ref a1), .val (.int (Int32.ofNat N)), .val (.int (3 : Int32)), .val (.int (Int32.ofNat (szN N 1))), .val (.int (2 : Int32))] [(.ref b41), (.int (2 : Int32)), (.ref b27)]) _
        obtain ⟨cl42, Ar42, qa42, Sz42, Nz42, Ha42, Ga42⟩ := V_b27_q41
        obtain ⟨T43, h43, X43, e43, W43, st43⟩ := stR X41 hx hZ e41 Ar42 (j := (2 : Int32)) (inb_of Sz42 ⟨by decide, by decide⟩) rfl (Sto.ofVA Ar42 qa42 O27 (Ins.self B41)) (g := (mkF m 66 #[.val (.ref a1), .val (.int (Int32.ofNat N)), .val (.int (3 : Int32)), .val (.int (Int32.ofNat (szN N 1))), .val (.int (2 : Int32))] [(.ref b41), (.int (2 : Int32)), (.ref b27)])) rfl rfl (hb hby d1_66)
        refine Go.step st43 ?_
        have N43 := Fr.snoc X43 N40 g_b27
        have V_b27_q43 : Arv Z h43 b27 k27 (.array .long) (3 : Int32) [(.ref b31), (.ref b36), (.ref b41)] .null := Arv.set Ar42 qa42 Sz42 Nz42 Ha42 Ga42 rfl W43 2 rfl (Nat.le_of_ble_eq_true rfl)
        have E1_q43 := E1_q41.wr W43
        have F_levels_a1_q43 := F_levels_a1_q41.other W43 (Or.inl ne_a1_b27)
        have V_b31_q43 := V_b31_q41.other W43 (Ne.symm ne_b27_b31)
        have V_b36_q43 := V_b36_q41.other W43 (Ne.symm ne_b27_b36)
        have V_b41_q43 := V_b41.other W43 (Ne.symm ne_b27_b41)
        have Z43 : n0 ≤ h43.size := by rw [W43.size]; exact Z41
        show Go p e below T43 (mkF m 67 #[.val (.ref a1), .val (.int (Int32.ofNat N)), .val (.int (3 : Int32)), .val (.int (Int32.ofNat (szN N 1))), .val (.int (2 : Int32))] []) _
        refine Go.step (fun _ => XS.iloadN X43.here hx rfl (hb hby d1_67) rfl ) ?_
        show Go p e below T43 (mkF m 68 #[.val (.ref a1), .val (.int (Int32.ofNat N)), .val (.int (3 : Int32)), .val (.int (Int32.ofNat (szN N 1))), .val (.int (2 : Int32))] [(.int (Int32.ofNat (szN N 1)))]) _
        refine Go.step (fun _ => XS.bipush X43.here hx rfl (hb hby d1_68)) ?_
        show Go p e below T43 (mkF m 70 #[.val (.ref a1), .val (.int (Int32.ofNat N)), .val (.int (3 : Int32)), .val (.int (Int32.ofNat (szN N 1))), .val (.int (2 : Int32))] [(.int (63 : Int32)), (.int (Int32.ofNat (szN N 1)))]) _
        refine Go.step (fun _ => XS.iadd X43.here hx rfl (hb hby d1_70) rfl) ?_
        show Go p e below T43 (mkF m 71 #[.val (.ref a1), .val (.int (Int32.ofNat N)), .val (.int (3 : Int32)), .val (.int (Int32.ofNat (szN N 1))), .val (.int (2 : Int32))] [(.int ((Int32.ofNat (szN N 1)) + (63 : Int32)))]) _
        refine Go.step (fun _ => XS.bipush X43.here hx rfl (hb hby d1_71)) ?_
        show Go p e below T43 (mkF m 73 #[.val (.ref a1), .val (.int (Int32.ofNat N)), .val (.int (3 : Int32)), .val (.int (Int32.ofNat (szN N 1))), .val (.int (2 : Int32))] [(.int (64 : Int32)), (.int ((Int32.ofNat (szN N 1)) + (63 : Int32)))]) _
        refine Go.step (fun _ => XS.idiv X43.here hx rfl (hb hby d1_73) rfl (by decide)) ?_
        show Go p e below T43 (mkF m 74 #[.val (.ref a1), .val (.int (Int32.ofNat N)), .val (.int (3 : Int32)), .val (.int (Int32.ofNat (szN N 1))), .val (.int (2 : Int32))] [(.int (((Int32.ofNat (szN N 1)) + (63 : Int32)) / (64 : Int32)))]) _
        rw [show (Int32.ofNat (szN N 1) + (63 : Int32)) / (64 : Int32) = Int32.ofNat (szN N 2) from own_div64 (by have := own_szLe (N := N) 1; omega)]
        show Go p e below T43 (mkF m 74 #[.val (.ref a1), .val (.int (Int32.ofNat N)), .val (.int (3 : Int32)), .val (.int (Int32.ofNat (szN N 1))), .val (.int (2 : Int32))] [(.int (Int32.ofNat (szN N 2)))]) _
        refine Go.step (fun _ => XS.istoreN X43.here hx rfl (hb hby d1_74) rfl (l' := #[.val (.ref a1), .val (.int (Int32.ofNat N)), .val (.int (3 : Int32)), .val (.int (Int32.ofNat (szN N 2))), .val (.int (2 : Int32))]) rfl) ?_
        show Go p e below T43 (mkF m 75 #[.val (.ref a1), .val (.int (Int32.ofNat N)), .val (.int (3 : Int32)), .val (.int (Int32.ofNat (szN N 2))), .val (.int (2 : Int32))] []) _
        refine Go.step (fun _ => XS.iinc X43.here hx rfl (hb hby d1_75) rfl (l' := #[.val (.ref a1), .val (.int (Int32.ofNat N)), .val (.int (3 : Int32)), .val (.int (Int32.ofNat (szN N 2))), .val (.int (3 : Int32))]) rfl) ?_
        show Go p e below T43 (mkF m 78 #[.val (.ref a1), .val (.int (Int32.ofNat N)), .val (.int (3 : Int32)), .val (.int (Int32.ofNat (szN N 2))), .val (.int (3 : Int32))] []) _
        refine Go.step (fun _ => XS.goto X43.here hx rfl (pc0 := 78) (pc' := 41) rfl (hb hby d1_78) (by decide) (by decide)) ?_
        show Go p e below T43 (mkF m 41 #[.val (.ref a1), .val (.int (Int32.ofNat N)), .val (.int (3 : Int32)), .val (.int (Int32.ofNat (szN N 2))), .val (.int (3 : Int32))] []) _
        refine Go.step (fun _ => XS.iload X43.here hx rfl (hb hby d1_41) rfl ) ?_
        show Go p e below T43 (mkF m 43 #[.val (.ref a1), .val (.int (Int32.ofNat N)), .val (.int (3 : Int32)), .val (.int (Int32.ofNat (szN N 2))), .val (.int (3 : Int32))] [(.int (3 : Int32))]) _
        refine Go.step (fun _ => XS.iloadN X43.here hx rfl (hb hby d1_43) rfl ) ?_
        show Go p e below T43 (mkF m 44 #[.val (.ref a1), .val (.int (Int32.ofNat N)), .val (.int (3 : Int32)), .val (.int (Int32.ofNat (szN N 2))), .val (.int (3 : Int32))] [(.int (3 : Int32)), (.int (3 : Int32))]) _
        refine Go.step (fun _ => XS.icmpYes X43.here hx rfl (pc0 := 44) (pc' := 81) rfl (hb hby d1_44) rfl (flt (by decide)).2.1 (by decide) (by decide)) ?_
        show Go p e below T43 (mkF m 81 #[.val (.ref a1), .val (.int (Int32.ofNat N)), .val (.int (3 : Int32)), .val (.int (Int32.ofNat (szN N 2))), .val (.int (3 : Int32))] []) _
        refine Go.ret0 X43 hx hret hlk (hb hby d1_81) ?_ (by decide) (by decide)
        rw [e43]
        obtain ⟨clZ, ArZ, -, SzZ, -, HaZ, -⟩ := id V_b27_q43
        have G1 : Ag Z h43 b27 3 (fun k => ([b31, b36, b41] : List Addr).getD k 0) := ⟨clZ, ArZ, SzZ, fun k hk => match k, hk with
          | 0, _ => HaZ 0 (by rw [SzZ]; decide)
          | 1, _ => HaZ 1 (by rw [SzZ]; decide)
          | 2, _ => HaZ 2 (by rw [SzZ]; decide)
          | n + 3, q => absurd q (by omega)⟩
        have G2 : ∀ k, k < 3 → Af Z h43 (([b31, b36, b41] : List Addr).getD k 0) (szN N k) ((fun _ _ => 0 : Nat → Nat → Int64) k) := fun k hk => match k, hk with
          | 0, _ => V_b31_q43
          | 1, _ => V_b36_q43
          | 2, _ => V_b41_q43
          | n + 3, q => absurd q (by omega)
        have G3 : ∀ k, k < 3 → n0 ≤ ([b31, b36, b41] : List Addr).getD k 0 ∧ a1 ≠ ([b31, b36, b41] : List Addr).getD k 0 ∧ b27 ≠ ([b31, b36, b41] : List Addr).getD k 0 := fun k hk => match k, hk with
          | 0, _ => ⟨g_b31, ne_a1_b31, ne_b27_b31⟩
          | 1, _ => ⟨g_b36, ne_a1_b36, ne_b27_b36⟩
          | 2, _ => ⟨g_b41, ne_a1_b41, ne_b27_b41⟩
          | n + 3, q => absurd q (by omega)
        have G4 : ∀ i j, i < 3 → j < 3 → i ≠ j → ([b31, b36, b41] : List Addr).getD i 0 ≠ ([b31, b36, b41] : List Addr).getD j 0 := fun i j hi hj q => match i, j, hi, hj, q with
          | 0, 0, _, _, q => absurd rfl q
          | 0, 1, _, _, q => ne_b31_b36
          | 0, 2, _, _, q => ne_b31_b41
          | 1, 0, _, _, q => (Ne.symm ne_b31_b36)
          | 1, 1, _, _, q => absurd rfl q
          | 1, 2, _, _, q => ne_b36_b41
          | 2, 0, _, _, q => (Ne.symm ne_b31_b41)
          | 2, 1, _, _, q => (Ne.symm ne_b36_b41)
          | 2, 2, _, _, q => absurd rfl q
          | n + 3, _, q, _, _ => absurd q (by omega)
          | _, n + 3, _, q, _ => absurd q (by omega)
        have G5z : szN N (3 - 1) = 1 := by
          have e1 : (szN N 1) ≤ 64 := Nat.le_of_not_lt fun q => hb2 ((own_ltI (i := 64) (by decide) (by have := own_szLe (N := N) 1; omega)).mpr q)
          show szN N 2 = 1
          simp only [szN] at e1 ⊢
          omega
        have G5 : ∀ P, P / 64 < szN N (3 - 1) → P / 64 = 0 := fun P q => by rw [G5z] at q; omega
        exact ⟨rfl, N43, Z43, b27, 3, _, by decide, by decide, ⟨E1_q43, F_levels_a1_q43, G1, G2, G3, G4⟩, G5⟩
    · skip
      refine Go.step (fun _ => XS.icmpYes X4.here hx rfl (pc0 := 11) (pc' := 28) rfl (hb hby d1_11) rfl (flt hb1).2.2.2 (by decide) (by decide)) ?_
      show Go p e below T4 (mkF m 28 #[.val (.ref a1), .val (.int (Int32.ofNat N)), .val (.int (2 : Int32)), .val (.int (Int32.ofNat (szN N 0))), .unset] []) _
      refine Go.step (fun _ => XS.aloadN X4.here hx rfl (hb hby d1_28) rfl rfl ) ?_
      show Go p e below T4 (mkF m 29 #[.val (.ref a1), .val (.int (Int32.ofNat N)), .val (.int (2 : Int32)), .val (.int (Int32.ofNat (szN N 0))), .unset] [(.ref a1)]) _
      refine Go.step (fun _ => XS.iloadN X4.here hx rfl (hb hby d1_29) rfl ) ?_
      show Go p e below T4 (mkF m 30 #[.val (.ref a1), .val (.int (Int32.ofNat N)), .val (.int (2 : Int32)), .val (.int (Int32.ofNat (szN N 0))), .unset] [(.int (2 : Int32)), (.ref a1)]) _
      obtain ⟨T44, h44, k44, X44, e44, E44, A44, B44, O44, st44⟩ := newRA X4 hx hZ hown (C := "[J") (ty := .long) (by decide) (hw _ (List.mem_of_getElem? (i := 11) rfl)) (hw _ (List.mem_of_getElem? (i := 12) rfl)) e4 (g := (mkF m 30 #[.val (.ref a1), .val (.int (Int32.ofNat N)), .val (.int (2 : Int32)), .val (.int (Int32.ofNat (szN N 0))), .unset] [(.int (2 : Int32)), (.ref a1)])) rfl (hb hby d1_30) rfl (by decide) (cap := 2) (by decide) (by decide) (by decide) (by decide) (ad := "[[J") (by decide)
      obtain ⟨b44, g44⟩ : ∃ z, z = h0.size := ⟨_, rfl⟩
      rw [← g44] at A44 B44 st44
      have ne_a1_b44 : a1 ≠ b44 := Nat.ne_of_lt (Nat.lt_of_lt_of_le E1.lt (Nat.le_of_eq g44.symm))
      have g_b44 : n0 ≤ b44 := Nat.le_trans Z0 (Nat.le_of_eq g44.symm)
      have E1_q44 := E1.ext E44
      have F1_q44 := F1.ext E44
      have Z44 : n0 ≤ h44.size := Nat.le_trans Z0 E44.1
      refine Go.step st44 ?_
      have V_b44 : Arv Z h44 b44 k44 (.array .long) (2 : Int32) [.null, .null] .null := (Arv.new A44 (by decide)).pad (pad_rep [] .null 2)
      have sl44 : ∀ j, szN N j ≤ N + 1 := fun j => own_szLe j
      show Go p e below T44 (mkF m 33 #[.val (.ref a1), .val (.int (Int32.ofNat N)), .val (.int (2 : Int32)), .val (.int (Int32.ofNat (szN N 0))), .unset] [(.ref b44), (.ref a1)]) _
      obtain ⟨T45, h45, X45, e45, W45, st45⟩ := putF X44 hx hZ hown (host := "") (Or.inl (hw _ (List.mem_of_getElem? (i := 13) rfl))) Via.refl e44 F1_q44 E1_q44 (Or.inr ⟨(hw _ (List.mem_of_getElem? (i := 14) rfl)), rfl, hnm⟩) (hw _ (List.mem_of_getElem? (i := 3) rfl)) (ty := (.array (.array .long))) (by decide) rfl rfl (g := (mkF m 33 #[.val (.ref a1), .val (.int (Int32.ofNat N)), .val (.int (2 : Int32)), .val (.int (Int32.ofNat (szN N 0))), .unset] [(.ref b44), (.ref a1)])) rfl rfl (hb hby d1_33)
      refine Go.step st45 ?_
      have N45 := Fr.snoc X45 N0 g1
      have F_levels_a1_q45 := F1_q44.same W45
      have E1_q45 := E1_q44.wr W45
      have V_b44_q45 := V_b44.other W45 (Ne.symm ne_a1_b44)
      have Z45 : n0 ≤ h45.size := by rw [W45.size]; exact Z44
      show Go p e below T45 (mkF m 36 #[.val (.ref a1), .val (.int (Int32.ofNat N)), .val (.int (2 : Int32)), .val (.int (Int32.ofNat (szN N 0))), .unset] []) _
      refine Go.step (fun _ => XS.iloadN X45.here hx rfl (hb hby d1_36) rfl ) ?_
      show Go p e below T45 (mkF m 37 #[.val (.ref a1), .val (.int (Int32.ofNat N)), .val (.int (2 : Int32)), .val (.int (Int32.ofNat (szN N 0))), .unset] [(.int (Int32.ofNat N))]) _
      refine Go.step (fun _ => XS.istoreN X45.here hx rfl (hb hby d1_37) rfl (l' := #[.val (.ref a1), .val (.int (Int32.ofNat N)), .val (.int (2 : Int32)), .val (.int (Int32.ofNat N)), .unset]) rfl) ?_
      show Go p e below T45 (mkF m 38 #[.val (.ref a1), .val (.int (Int32.ofNat N)), .val (.int (2 : Int32)), .val (.int (Int32.ofNat N)), .unset] []) _
      refine Go.step (fun _ => XS.iconst X45.here hx rfl (hb hby d1_38)) ?_
      show Go p e below T45 (mkF m 39 #[.val (.ref a1), .val (.int (Int32.ofNat N)), .val (.int (2 : Int32)), .val (.int (Int32.ofNat N)), .unset] [(.int (0 : Int32))]) _
      refine Go.step (fun _ => XS.istore X45.here hx rfl (hb hby d1_39) rfl (l' := #[.val (.ref a1), .val (.int (Int32.ofNat N)), .val (.int (2 : Int32)), .val (.int (Int32.ofNat N)), .val (.int (0 : Int32))]) rfl) ?_
      show Go p e below T45 (mkF m 41 #[.val (.ref a1), .val (.int (Int32.ofNat N)), .val (.int (2 : Int32)), .val (.int (Int32.ofNat N)), .val (.int (0 : Int32))] []) _
      refine Go.step (fun _ => XS.iload X45.here hx rfl (hb hby d1_41) rfl ) ?_
      show Go p e below T45 (mkF m 43 #[.val (.ref a1), .val (.int (Int32.ofNat N)), .val (.int (2 : Int32)), .val (.int (Int32.ofNat N)), .val (.int (0 : Int32))] [(.int (0 : Int32))]) _
      refine Go.step (fun _ => XS.iloadN X45.here hx rfl (hb hby d1_43) rfl ) ?_
      show Go p e below T45 (mkF m 44 #[.val (.ref a1), .val (.int (Int32.ofNat N)), .val (.int (2 : Int32)), .val (.int (Int32.ofNat N)), .val (.int (0 : Int32))] [(.int (2 : Int32)), (.int (0 : Int32))]) _
      refine Go.step (fun _ => XS.icmpNo X45.here hx rfl (hb hby d1_44) rfl (tlt (by decide)).2.1) ?_
      show Go p e below T45 (mkF m 47 #[.val (.ref a1), .val (.int (Int32.ofNat N)), .val (.int (2 : Int32)), .val (.int (Int32.ofNat N)), .val (.int (0 : Int32))] []) _
      refine Go.step (fun _ => XS.aloadN X45.here hx rfl (hb hby d1_47) rfl rfl ) ?_
      show Go p e below T45 (mkF m 48 #[.val (.ref a1), .val (.int (Int32.ofNat N)), .val (.int (2 : Int32)), .val (.int (Int32.ofNat N)), .val (.int (0 : Int32))] [(.ref a1)]) _
      obtain ⟨T46, X46, e46, st46⟩ := getF X45 hx hZ hown (host := "") (Or.inl (hw _ (List.mem_of_getElem? (i := 13) rfl))) Via.refl e45 F_levels_a1_q45 (g := (mkF m 48 #[.val (.ref a1), .val (.int (Int32.ofNat N)), .val (.int (2 : Int32)), .val (.int (Int32.ofNat N)), .val (.int (0 : Int32))] [(.ref a1)])) rfl rfl (hb hby d1_48)
      refine Go.step st46 ?_
      show Go p e below T46 (mkF m 51 #[.val (.ref a1), .val (.int (Int32.ofNat N)), .val (.int (2 : Int32)), .val (.int (Int32.ofNat N)), .val (.int (0 : Int32))] [(.ref b44)]) _
      refine Go.step (fun _ => XS.iload X46.here hx rfl (hb hby d1_51) rfl ) ?_
      show Go p e below T46 (mkF m 53 #[.val (.ref a1), .val (.int (Int32.ofNat N)), .val (.int (2 : Int32)), .val (.int (Int32.ofNat N)), .val (.int (0 : Int32))] [(.int (0 : Int32)), (.ref b44)]) _
      refine Go.step (fun _ => XS.iconst X46.here hx rfl (hb hby d1_53)) ?_
      show Go p e below T46 (mkF m 54 #[.val (.ref a1), .val (.int (Int32.ofNat N)), .val (.int (2 : Int32)), .val (.int (Int32.ofNat N)), .val (.int (0 : Int32))] [(.int (1 : Int32)), (.int (0 : Int32)), (.ref b44)]) _
      refine Go.step (fun _ => XS.iloadN X46.here hx rfl (hb hby d1_54) rfl ) ?_
      show Go p e below T46 (mkF m 55 #[.val (.ref a1), .val (.int (Int32.ofNat N)), .val (.int (2 : Int32)), .val (.int (Int32.ofNat N)), .val (.int (0 : Int32))] [(.int (Int32.ofNat N)), (.int (1 : Int32)), (.int (0 : Int32)), (.ref b44)]) _
      refine Go.step (fun _ => XS.bipush X46.here hx rfl (hb hby d1_55)) ?_
      show Go p e below T46 (mkF m 57 #[.val (.ref a1), .val (.int (Int32.ofNat N)), .val (.int (2 : Int32)), .val (.int (Int32.ofNat N)), .val (.int (0 : Int32))] [(.int (63 : Int32)), (.int (Int32.ofNat N)), (.int (1 : Int32)), (.int (0 : Int32)), (.ref b44)]) _
      refine Go.step (fun _ => XS.iadd X46.here hx rfl (hb hby d1_57) rfl) ?_
      show Go p e below T46 (mkF m 58 #[.val (.ref a1), .val (.int (Int32.ofNat N)), .val (.int (2 : Int32)), .val (.int (Int32.ofNat N)), .val (.int (0 : Int32))] [(.int ((Int32.ofNat N) + (63 : Int32))), (.int (1 : Int32)), (.int (0 : Int32)), (.ref b44)]) _
      refine Go.step (fun _ => XS.bipush X46.here hx rfl (hb hby d1_58)) ?_
      show Go p e below T46 (mkF m 60 #[.val (.ref a1), .val (.int (Int32.ofNat N)), .val (.int (2 : Int32)), .val (.int (Int32.ofNat N)), .val (.int (0 : Int32))] [(.int (64 : Int32)), (.int ((Int32.ofNat N) + (63 : Int32))), (.int (1 : Int32)), (.int (0 : Int32)), (.ref b44)]) _
      refine Go.step (fun _ => XS.idiv X46.here hx rfl (hb hby d1_60) rfl (by decide)) ?_
      show Go p e below T46 (mkF m 61 #[.val (.ref a1), .val (.int (Int32.ofNat N)), .val (.int (2 : Int32)), .val (.int (Int32.ofNat N)), .val (.int (0 : Int32))] [(.int (((Int32.ofNat N) + (63 : Int32)) / (64 : Int32))), (.int (1 : Int32)), (.int (0 : Int32)), (.ref b44)]) _
      rw [show (Int32.ofNat N + (63 : Int32)) / (64 : Int32) = Int32.ofNat (szN N 0) from own_div64 (by omega)]
      show Go p e below T46 (mkF m 61 #[.val (.ref a1), .val (.int (Int32.ofNat N)), .val (.int (2 : Int32)), .val (.int (Int32.ofNat N)), .val (.int (0 : Int32))] [(.int (Int32.ofNat (szN N 0))), (.int (1 : Int32)), (.int (0 : Int32)), (.ref b44)]) _
      obtain ⟨_, _, ⟨T47, L47, k47, n47⟩, -, X47, ⟨Lc47, hQ47, l47, y47, z47⟩, st47⟩ := Jvm.LawKit.callS X46 hx (y := (⟨"java/lang/Math", "max", "(II)I"⟩ : MethodName)) hown (mvT hZ (hw _ (List.mem_of_getElem? (i := 15) rfl))) (mvT hZ (hw _ (List.mem_of_getElem? (i := 16) rfl))) (mvT hZ (hw _ (List.mem_of_getElem? (i := 17) rfl))) (mvT hZ (hw _ (List.mem_of_getElem? (i := 18) rfl))) (by decide) (backOf (W := 2) (rmMx l Z a0 hw [] (1 : Int32) (Int32.ofNat (szN N 0)) (Int32.ofNat (szN N 0)) h45 n0 Z45 (own_mx1 (by simp only [szN]; omega) (by have := own_szLe (N := N) 0; omega))) hZ (hw _ (List.mem_of_getElem? (i := 18) rfl)) (hw _ (List.mem_of_getElem? (i := 17) rfl)) (by decide) (by decide)) (g := (mkF m 61 #[.val (.ref a1), .val (.int (Int32.ofNat N)), .val (.int (2 : Int32)), .val (.int (Int32.ofNat N)), .val (.int (0 : Int32))] [(.int (Int32.ofNat (szN N 0))), (.int (1 : Int32)), (.int (0 : Int32)), (.ref b44)])) rfl (by rw [hml]; rfl) (argsL := [(.int (1 : Int32)), (.int (Int32.ofNat (szN N 0)))]) (rest := [(.int (0 : Int32)), (.ref b44)]) (lenOf pd_2 rfl) rfl (by show 2 * 0 + _ ≤ _; exact Nat.le_of_eq rfl) (hb hby d1_61) (fun _ _ => ⟨rfl, e46, (by decide : 0 + 1 + 0 ≤ _), (by decide : 0 + 2 + 0 ≤ _)⟩)
      dsimp only [Pt.U, Pt.locs, Pt.cells, Pt.slots] at X47 l47 y47 z47 st47 hQ47
      subst l47 y47 z47
      obtain ⟨rfl, Nq47, eh47⟩ := hQ47
      have N47 := Fr.app N45 Nq47
      refine Go.step st47 ?_
      show Go p e below T47 (mkF m 64 #[.val (.ref a1), .val (.int (Int32.ofNat N)), .val (.int (2 : Int32)), .val (.int (Int32.ofNat N)), .val (.int (0 : Int32))] [(.int (Int32.ofNat (szN N 0))), (.int (0 : Int32)), (.ref b44)]) _
      obtain ⟨T48, h48, k48, X48, e48, E48, A48, B48, st48⟩ := newPE X47 hx hZ (hw _ (List.mem_of_getElem? (i := 19) rfl)) eh47 (g := (mkF m 64 #[.val (.ref a1), .val (.int (Int32.ofNat N)), .val (.int (2 : Int32)), .val (.int (Int32.ofNat N)), .val (.int (0 : Int32))] [(.int (Int32.ofNat (szN N 0))), (.int (0 : Int32)), (.ref b44)])) rfl (hb hby d1_64) rfl (own_nn (by have := own_szLe (N := N) 0; omega)) (cap := 16384) (by rw [own_clamp (by have := own_szLe (N := N) 0; omega)]; simp only [szN]; omega) (by decide) (by decide) (by decide) (ad := "[J") (by decide)
      obtain ⟨b48, g48⟩ : ∃ z, z = h45.size := ⟨_, rfl⟩
      rw [← g48] at A48 B48 st48
      have ne_a1_b48 : a1 ≠ b48 := Nat.ne_of_lt (Nat.lt_of_lt_of_le E1_q45.lt (Nat.le_of_eq g48.symm))
      have ne_b44_b48 : b44 ≠ b48 := Nat.ne_of_lt (Nat.lt_of_lt_of_le V_b44_q45.lt (Nat.le_of_eq g48.symm))
      have g_b48 : n0 ≤ b48 := Nat.le_trans Z45 (Nat.le_of_eq g48.symm)
      have E1_q48 := E1_q45.ext E48
      have V_b44_q48 := V_b44_q45.ext E48
      have F_levels_a1_q48 := F_levels_a1_q45.ext E48
      have Z48 : n0 ≤ h48.size := Nat.le_trans Z45 E48.1
      refine Go.step st48 ?_
      have V_b48 : Af Z h48 b48 (szN N 0) (fun _ => 0) := Af.new A48 (by have := own_szLe (N := N) 0; omega)
      show Go p e below T48 (mkF m 66 #[.val (.ref a1), .val (.int (Int32.ofNat N)), .val (.int (2 : Int32)), .val (.int (Int32.ofNat N)), .val (.int (0 : Int32))] [(.ref b48), (.int (0 : Int32)), (.ref b44)]) _
      obtain ⟨cl49, Ar49, qa49, Sz49, Nz49, Ha49, Ga49⟩ := V_b44_q48
      obtain ⟨T50, h50, X50, e50, W50, st50⟩ := stR X48 hx hZ e48 Ar49 (j := (0 : Int32)) (inb_of Sz49 ⟨by decide, by decide⟩) rfl (Sto.ofVA Ar49 qa49 O44 (Ins.self B48)) (g := (mkF m 66 #[.val (.ref a1), .val (.int (Int32.ofNat N)), .val (.int (2 : Int32)), .val (.int (Int32.ofNat N)), .val (.int (0 : Int32))] [(.ref b48), (.int (0 : Int32)), (.ref b44)])) rfl rfl (hb hby d1_66)
      refine Go.step st50 ?_
      have N50 := Fr.snoc X50 N47 g_b44
      have V_b44_q50 : Arv Z h50 b44 k44 (.array .long) (2 : Int32) [(.ref b48), .null] .null := Arv.set Ar49 qa49 Sz49 Nz49 Ha49 Ga49 rfl W50 0 rfl (Nat.le_of_ble_eq_true rfl)
      have E1_q50 := E1_q48.wr W50
      have F_levels_a1_q50 := F_levels_a1_q48.other W50 (Or.inl ne_a1_b44)
      have V_b48_q50 := V_b48.other W50 (Ne.symm ne_b44_b48)
      have Z50 : n0 ≤ h50.size := by rw [W50.size]; exact Z48
      show Go p e below T50 (mkF m 67 #[.val (.ref a1), .val (.int (Int32.ofNat N)), .val (.int (2 : Int32)), .val (.int (Int32.ofNat N)), .val (.int (0 : Int32))] []) _
      refine Go.step (fun _ => XS.iloadN X50.here hx rfl (hb hby d1_67) rfl ) ?_
      show Go p e below T50 (mkF m 68 #[.val (.ref a1), .val (.int (Int32.ofNat N)), .val (.int (2 : Int32)), .val (.int (Int32.ofNat N)), .val (.int (0 : Int32))] [(.int (Int32.ofNat N))]) _
      refine Go.step (fun _ => XS.bipush X50.here hx rfl (hb hby d1_68)) ?_
      show Go p e below T50 (mkF m 70 #[.val (.ref a1), .val (.int (Int32.ofNat N)), .val (.int (2 : Int32)), .val (.int (Int32.ofNat N)), .val (.int (0 : Int32))] [(.int (63 : Int32)), (.int (Int32.ofNat N))]) _
      refine Go.step (fun _ => XS.iadd X50.here hx rfl (hb hby d1_70) rfl) ?_
      show Go p e below T50 (mkF m 71 #[.val (.ref a1), .val (.int (Int32.ofNat N)), .val (.int (2 : Int32)), .val (.int (Int32.ofNat N)), .val (.int (0 : Int32))] [(.int ((Int32.ofNat N) + (63 : Int32)))]) _
      refine Go.step (fun _ => XS.bipush X50.here hx rfl (hb hby d1_71)) ?_
      show Go p e below T50 (mkF m 73 #[.val (.ref a1), .val (.int (Int32.ofNat N)), .val (.int (2 : Int32)), .val (.int (Int32.ofNat N)), .val (.int (0 : Int32))] [(.int (64 : Int32)), (.int ((Int32.ofNat N) + (63 : Int32)))]) _
      refine Go.step (fun _ => XS.idiv X50.here hx rfl (hb hby d1_73) rfl (by decide)) ?_
      show Go p e below T50 (mkF m 74 #[.val (.ref a1), .val (.int (Int32.ofNat N)), .val (.int (2 : Int32)), .val (.int (Int32.ofNat N)), .val (.int (0 : Int32))] [(.int (((Int32.ofNat N) + (63 : Int32)) / (64 : Int32)))]) _
      rw [show (Int32.ofNat N + (63 : Int32)) / (64 : Int32) = Int32.ofNat (szN N 0) from own_div64 (by omega)]
      show Go p e below T50 (mkF m 74 #[.val (.ref a1), .val (.int (Int32.ofNat N)), .val (.int (2 : Int32)), .val (.int (Int32.ofNat N)), .val (.int (0 : Int32))] [(.int (Int32.ofNat (szN N 0)))]) _
      refine Go.step (fun _ => XS.istoreN X50.here hx rfl (hb hby d1_74) rfl (l' := #[.val (.ref a1), .val (.int (Int32.ofNat N)), .val (.int (2 : Int32)), .val (.int (Int32.ofNat (szN N 0))), .val (.int (0 : Int32))]) rfl) ?_
      show Go p e below T50 (mkF m 75 #[.val (.ref a1), .val (.int (Int32.ofNat N)), .val (.int (2 : Int32)), .val (.int (Int32.ofNat (szN N 0))), .val (.int (0 : Int32))] []) _
      refine Go.step (fun _ => XS.iinc X50.here hx rfl (hb hby d1_75) rfl (l' := #[.val (.ref a1), .val (.int (Int32.ofNat N)), .val (.int (2 : Int32)), .val (.int (Int32.ofNat (szN N 0))), .val (.int (1 : Int32))]) rfl) ?_
      show Go p e below T50 (mkF m 78 #[.val (.ref a1), .val (.int (Int32.ofNat N)), .val (.int (2 : Int32)), .val (.int (Int32.ofNat (szN N 0))), .val (.int (1 : Int32))] []) _
      refine Go.step (fun _ => XS.goto X50.here hx rfl (pc0 := 78) (pc' := 41) rfl (hb hby d1_78) (by decide) (by decide)) ?_
      show Go p e below T50 (mkF m 41 #[.val (.ref a1), .val (.int (Int32.ofNat N)), .val (.int (2 : Int32)), .val (.int (Int32.ofNat (szN N 0))), .val (.int (1 : Int32))] []) _
      refine Go.step (fun _ => XS.iload X50.here hx rfl (hb hby d1_41) rfl ) ?_
      show Go p e below T50 (mkF m 43 #[.val (.ref a1), .val (.int (Int32.ofNat N)), .val (.int (2 : Int32)), .val (.int (Int32.ofNat (szN N 0))), .val (.int (1 : Int32))] [(.int (1 : Int32))]) _
      refine Go.step (fun _ => XS.iloadN X50.here hx rfl (hb hby d1_43) rfl ) ?_
      show Go p e below T50 (mkF m 44 #[.val (.ref a1), .val (.int (Int32.ofNat N)), .val (.int (2 : Int32)), .val (.int (Int32.ofNat (szN N 0))), .val (.int (1 : Int32))] [(.int (2 : Int32)), (.int (1 : Int32))]) _
      refine Go.step (fun _ => XS.icmpNo X50.here hx rfl (hb hby d1_44) rfl (tlt (by decide)).2.1) ?_
      show Go p e below T50 (mkF m 47 #[.val (.ref a1), .val (.int (Int32.ofNat N)), .val (.int (2 : Int32)), .val (.int (Int32.ofNat (szN N 0))), .val (.int (1 : Int32))] []) _
      refine Go.step (fun _ => XS.aloadN X50.here hx rfl (hb hby d1_47) rfl rfl ) ?_
      show Go p e below T50 (mkF m 48 #[.val (.ref a1), .val (.int (Int32.ofNat N)), .val (.int (2 : Int32)), .val (.int (Int32.ofNat (szN N 0))), .val (.int (1 : Int32))] [(.ref a1)]) _
      obtain ⟨T51, X51, e51, st51⟩ := getF X50 hx hZ hown (host := "") (Or.inl (hw _ (List.mem_of_getElem? (i := 13) rfl))) Via.refl e50 F_levels_a1_q50 (g := (mkF m 48 #[.val (.ref a1), .val (.int (Int32.ofNat N)), .val (.int (2 : Int32)), .val (.int (Int32.ofNat (szN N 0))), .val (.int (1 : Int32))] [(.ref a1)])) rfl rfl (hb hby d1_48)
      refine Go.step st51 ?_
      show Go p e below T51 (mkF m 51 #[.val (.ref a1), .val (.int (Int32.ofNat N)), .val (.int (2 : Int32)), .val (.int (Int32.ofNat (szN N 0))), .val (.int (1 : Int32))] [(.ref b44)]) _
      refine Go.step (fun _ => XS.iload X51.here hx rfl (hb hby d1_51) rfl ) ?_
      show Go p e below T51 (mkF m 53 #[.val (.ref a1), .val (.int (Int32.ofNat N)), .val (.int (2 : Int32)), .val (.int (Int32.ofNat (szN N 0))), .val (.int (1 : Int32))] [(.int (1 : Int32)), (.ref b44)]) _
      refine Go.step (fun _ => XS.iconst X51.here hx rfl (hb hby d1_53)) ?_
      show Go p e below T51 (mkF m 54 #[.val (.ref a1), .val (.int (Int32.ofNat N)), .val (.int (2 : Int32)), .val (.int (Int32.ofNat (szN N 0))), .val (.int (1 : Int32))] [(.int (1 : Int32)), (.int (1 : Int32)), (.ref b44)]) _
      refine Go.step (fun _ => XS.iloadN X51.here hx rfl (hb hby d1_54) rfl ) ?_
      show Go p e below T51 (mkF m 55 #[.val (.ref a1), .val (.int (Int32.ofNat N)), .val (.int (2 : Int32)), .val (.int (Int32.ofNat (szN N 0))), .val (.int (1 : Int32))] [(.int (Int32.ofNat (szN N 0))), (.int (1 : Int32)), (.int (1 : Int32)), (.ref b44)]) _
      refine Go.step (fun _ => XS.bipush X51.here hx rfl (hb hby d1_55)) ?_
      show Go p e below T51 (mkF m 57 #[.val (.ref a1), .val (.int (Int32.ofNat N)), .val (.int (2 : Int32)), .val (.int (Int32.ofNat (szN N 0))), .val (.int (1 : Int32))] [(.int (63 : Int32)), (.int (Int32.ofNat (szN N 0))), (.int (1 : Int32)), (.int (1 : Int32)), (.ref b44)]) _
      refine Go.step (fun _ => XS.iadd X51.here hx rfl (hb hby d1_57) rfl) ?_
      show Go p e below T51 (mkF m 58 #[.val (.ref a1), .val (.int (Int32.ofNat N)), .val (.int (2 : Int32)), .val (.int (Int32.ofNat (szN N 0))), .val (.int (1 : Int32))] [(.int ((Int32.ofNat (szN N 0)) + (63 : Int32))), (.int (1 : Int32)), (.int (1 : Int32)), (.ref b44)]) _
      refine Go.step (fun _ => XS.bipush X51.here hx rfl (hb hby d1_58)) ?_
      show Go p e below T51 (mkF m 60 #[.val (.ref a1), .val (.int (Int32.ofNat N)), .val (.int (2 : Int32)), .val (.int (Int32.ofNat (szN N 0))), .val (.int (1 : Int32))] [(.int (64 : Int32)), (.int ((Int32.ofNat (szN N 0)) + (63 : Int32))), (.int (1 : Int32)), (.int (1 : Int32)), (.ref b44)]) _
      refine Go.step (fun _ => XS.idiv X51.here hx rfl (hb hby d1_60) rfl (by decide)) ?_
      show Go p e below T51 (mkF m 61 #[.val (.ref a1), .val (.int (Int32.ofNat N)), .val (.int (2 : Int32)), .val (.int (Int32.ofNat (szN N 0))), .val (.int (1 : Int32))] [(.int (((Int32.ofNat (szN N 0)) + (63 : Int32)) / (64 : Int32))), (.int (1 : Int32)), (.int (1 : Int32)), (.ref b44)]) _
      rw [show (Int32.ofNat (szN N 0) + (63 : Int32)) / (64 : Int32) = Int32.ofNat (szN N 1) from own_div64 (by have := own_szLe (N := N) 0; omega)]
      show Go p e below T51 (mkF m 61 #[.val (.ref a1), .val (.int (Int32.ofNat N)), .val (.int (2 : Int32)), .val (.int (Int32.ofNat (szN N 0))), .val (.int (1 : Int32))] [(.int (Int32.ofNat (szN N 1))), (.int (1 : Int32)), (.int (1 : Int32)), (.ref b44)]) _
      obtain ⟨_, _, ⟨T52, L52, k52, n52⟩, -, X52, ⟨Lc52, hQ52, l52, y52, z52⟩, st52⟩ := Jvm.LawKit.callS X51 hx (y := (⟨"java/lang/Math", "max", "(II)I"⟩ : MethodName)) hown (mvT hZ (hw _ (List.mem_of_getElem? (i := 15) rfl))) (mvT hZ (hw _ (List.mem_of_getElem? (i := 16) rfl))) (mvT hZ (hw _ (List.mem_of_getElem? (i := 17) rfl))) (mvT hZ (hw _ (List.mem_of_getElem? (i := 18) rfl))) (by decide) (backOf (W := 2) (rmMx l Z a0 hw [] (1 : Int32) (Int32.ofNat (szN N 1)) (Int32.ofNat (szN N 1)) h50 n0 Z50 (own_mx1 (by simp only [szN]; omega) (by have := own_szLe (N := N) 1; omega))) hZ (hw _ (List.mem_of_getElem? (i := 18) rfl)) (hw _ (List.mem_of_getElem? (i := 17) rfl)) (by decide) (by decide)) (g := (mkF m 61 #[.val (.ref a1), .val (.int (Int32.ofNat N)), .val (.int (2 : Int32)), .val (.int (Int32.ofNat (szN N 0))), .val (.int (1 : Int32))] [(.int (Int32.ofNat (szN N 1))), (.int (1 : Int32)), (.int (1 : Int32)), (.ref b44)])) rfl (by rw [hml]; rfl) (argsL := [(.int (1 : Int32)), (.int (Int32.ofNat (szN N 1)))]) (rest := [(.int (1 : Int32)), (.ref b44)]) (lenOf pd_2 rfl) rfl (by show 2 * 0 + _ ≤ _; exact Nat.le_of_eq rfl) (hb hby d1_61) (fun _ _ => ⟨rfl, e51, (by decide : 0 + 1 + 0 + 1 + 0 ≤ _), (by decide : 0 + 2 + 0 + 16384 + 0 ≤ _)⟩)
      dsimp only [Pt.U, Pt.locs, Pt.cells, Pt.slots] at X52 l52 y52 z52 st52 hQ52
      subst l52 y52 z52
      obtain ⟨rfl, Nq52, eh52⟩ := hQ52
      have N52 := Fr.app N50 Nq52
      refine Go.step st52 ?_
      show Go p e below T52 (mkF m 64 #[.val (.ref a1), .val (.int (Int32.ofNat N)), .val (.int (2 : Int32)), .val (.int (Int32.ofNat (szN N 0))), .val (.int (1 : Int32))] [(.int (Int32.ofNat (szN N 1))), (.int (1 : Int32)), (.ref b44)]) _
      obtain ⟨T53, h53, k53, X53, e53, E53, A53, B53, st53⟩ := newPE X52 hx hZ (hw _ (List.mem_of_getElem? (i := 19) rfl)) eh52 (g := (mkF m 64 #[.val (.ref a1), .val (.int (Int32.ofNat N)), .val (.int (2 : Int32)), .val (.int (Int32.ofNat (szN N 0))), .val (.int (1 : Int32))] [(.int (Int32.ofNat (szN N 1))), (.int (1 : Int32)), (.ref b44)])) rfl (hb hby d1_64) rfl (own_nn (by have := own_szLe (N := N) 1; omega)) (cap := 256) (by rw [own_clamp (by have := own_szLe (N := N) 1; omega)]; simp only [szN]; omega) (by decide) (by decide) (by decide) (ad := "[J") (by decide)
      obtain ⟨b53, g53⟩ : ∃ z, z = h50.size := ⟨_, rfl⟩
      rw [← g53] at A53 B53 st53
      have ne_a1_b53 : a1 ≠ b53 := Nat.ne_of_lt (Nat.lt_of_lt_of_le E1_q50.lt (Nat.le_of_eq g53.symm))
      have ne_b48_b53 : b48 ≠ b53 := Nat.ne_of_lt (Nat.lt_of_lt_of_le V_b48_q50.lt (Nat.le_of_eq g53.symm))
      have ne_b44_b53 : b44 ≠ b53 := Nat.ne_of_lt (Nat.lt_of_lt_of_le V_b44_q50.lt (Nat.le_of_eq g53.symm))
      have g_b53 : n0 ≤ b53 := Nat.le_trans Z50 (Nat.le_of_eq g53.symm)
      have E1_q53 := E1_q50.ext E53
      have F_levels_a1_q53 := F_levels_a1_q50.ext E53
      have V_b48_q53 := V_b48_q50.ext E53
      have V_b44_q53 := V_b44_q50.ext E53
      have Z53 : n0 ≤ h53.size := Nat.le_trans Z50 E53.1
      refine Go.step st53 ?_
      have V_b53 : Af Z h53 b53 (szN N 1) (fun _ => 0) := Af.new A53 (by have := own_szLe (N := N) 1; omega)
      show Go p e below T53 (mkF m 66 #[.val (.ref a1), .val (.int (Int32.ofNat N)), .val (.int (2 : Int32)), .val (.int (Int32.ofNat (szN N 0))), .val (.int (1 : Int32))] [(.ref b53), (.int (1 : Int32)), (.ref b44)]) _
      obtain ⟨cl54, Ar54, qa54, Sz54, Nz54, Ha54, Ga54⟩ := V_b44_q53
      obtain ⟨T55, h55, X55, e55, W55, st55⟩ := stR X53 hx hZ e53 Ar54 (j := (1 : Int32)) (inb_of Sz54 ⟨by decide, by decide⟩) rfl (Sto.ofVA Ar54 qa54 O44 (Ins.self B53)) (g := (mkF m 66 #[.val (.ref a1), .val (.int (Int32.ofNat N)), .val (.int (2 : Int32)), .val (.int (Int32.ofNat (szN N 0))), .val (.int (1 : Int32))] [(.ref b53), (.int (1 : Int32)), (.ref b44)])) rfl rfl (hb hby d1_66)
      refine Go.step st55 ?_
      have N55 := Fr.snoc X55 N52 g_b44
      have V_b44_q55 : Arv Z h55 b44 k44 (.array .long) (2 : Int32) [(.ref b48), (.ref b53)] .null := Arv.set Ar54 qa54 Sz54 Nz54 Ha54 Ga54 rfl W55 1 rfl (Nat.le_of_ble_eq_true rfl)
      have E1_q55 := E1_q53.wr W55
      have F_levels_a1_q55 := F_levels_a1_q53.other W55 (Or.inl ne_a1_b44)
      have V_b48_q55 := V_b48_q53.other W55 (Ne.symm ne_b44_b48)
      have V_b53_q55 := V_b53.other W55 (Ne.symm ne_b44_b53)
      have Z55 : n0 ≤ h55.size := by rw [W55.size]; exact Z53
      show Go p e below T55 (mkF m 67 #[.val (.ref a1), .val (.int (Int32.ofNat N)), .val (.int (2 : Int32)), .val (.int (Int32.ofNat (szN N 0))), .val (.int (1 : Int32))] []) _
      refine Go.step (fun _ => XS.iloadN X55.here hx rfl (hb hby d1_67) rfl ) ?_
      show Go p e below T55 (mkF m 68 #[.val (.ref a1), .val (.int (Int32.ofNat N)), .val (.int (2 : Int32)), .val (.int (Int32.ofNat (szN N 0))), .val (.int (1 : Int32))] [(.int (Int32.ofNat (szN N 0)))]) _
      refine Go.step (fun _ => XS.bipush X55.here hx rfl (hb hby d1_68)) ?_
      show Go p e below T55 (mkF m 70 #[.val (.ref a1), .val (.int (Int32.ofNat N)), .val (.int (2 : Int32)), .val (.int (Int32.ofNat (szN N 0))), .val (.int (1 : Int32))] [(.int (63 : Int32)), (.int (Int32.ofNat (szN N 0)))]) _
      refine Go.step (fun _ => XS.iadd X55.here hx rfl (hb hby d1_70) rfl) ?_
      show Go p e below T55 (mkF m 71 #[.val (.ref a1), .val (.int (Int32.ofNat N)), .val (.int (2 : Int32)), .val (.int (Int32.ofNat (szN N 0))), .val (.int (1 : Int32))] [(.int ((Int32.ofNat (szN N 0)) + (63 : Int32)))]) _
      refine Go.step (fun _ => XS.bipush X55.here hx rfl (hb hby d1_71)) ?_
      show Go p e below T55 (mkF m 73 #[.val (.ref a1), .val (.int (Int32.ofNat N)), .val (.int (2 : Int32)), .val (.int (Int32.ofNat (szN N 0))), .val (.int (1 : Int32))] [(.int (64 : Int32)), (.int ((Int32.ofNat (szN N 0)) + (63 : Int32)))]) _
      refine Go.step (fun _ => XS.idiv X55.here hx rfl (hb hby d1_73) rfl (by decide)) ?_
      show Go p e below T55 (mkF m 74 #[.val (.ref a1), .val (.int (Int32.ofNat N)), .val (.int (2 : Int32)), .val (.int (Int32.ofNat (szN N 0))), .val (.int (1 : Int32))] [(.int (((Int32.ofNat (szN N 0)) + (63 : Int32)) / (64 : Int32)))]) _
      rw [show (Int32.ofNat (szN N 0) + (63 : Int32)) / (64 : Int32) = Int32.ofNat (szN N 1) from own_div64 (by have := own_szLe (N := N) 0; omega)]
      show Go p e below T55 (mkF m 74 #[.val (.ref a1), .val (.int (Int32.ofNat N)), .val (.int (2 : Int32)), .val (.int (Int32.ofNat (szN N 0))), .val (.int (1 : Int32))] [(.int (Int32.ofNat (szN N 1)))]) _
      refine Go.step (fun _ => XS.istoreN X55.here hx rfl (hb hby d1_74) rfl (l' := #[.val (.ref a1), .val (.int (Int32.ofNat N)), .val (.int (2 : Int32)), .val (.int (Int32.ofNat (szN N 1))), .val (.int (1 : Int32))]) rfl) ?_
      show Go p e below T55 (mkF m 75 #[.val (.ref a1), .val (.int (Int32.ofNat N)), .val (.int (2 : Int32)), .val (.int (Int32.ofNat (szN N 1))), .val (.int (1 : Int32))] []) _
      refine Go.step (fun _ => XS.iinc X55.here hx rfl (hb hby d1_75) rfl (l' := #[.val (.ref a1), .val (.int (Int32.ofNat N)), .val (.int (2 : Int32)), .val (.int (Int32.ofNat (szN N 1))), .val (.int (2 : Int32))]) rfl) ?_
      show Go p e below T55 (mkF m 78 #[.val (.ref a1), .val (.int (Int32.ofNat N)), .val (.int (2 : Int32)), .val (.int (Int32.ofNat (szN N 1))), .val (.int (2 : Int32))] []) _
      refine Go.step (fun _ => XS.goto X55.here hx rfl (pc0 := 78) (pc' := 41) rfl (hb hby d1_78) (by decide) (by decide)) ?_
      show Go p e below T55 (mkF m 41 #[.val (.ref a1), .val (.int (Int32.ofNat N)), .val (.int (2 : Int32)), .val (.int (Int32.ofNat (szN N 1))), .val (.int (2 : Int32))] []) _
      refine Go.step (fun _ => XS.iload X55.here hx rfl (hb hby d1_41) rfl ) ?_
      show Go p e below T55 (mkF m 43 #[.val (.ref a1), .val (.int (Int32.ofNat N)), .val (.int (2 : Int32)), .val (.int (Int32.ofNat (szN N 1))), .val (.int (2 : Int32))] [(.int (2 : Int32))]) _
      refine Go.step (fun _ => XS.iloadN X55.here hx rfl (hb hby d1_43) rfl ) ?_
      show Go p e below T55 (mkF m 44 #[.val (.ref a1), .val (.int (Int32.ofNat N)), .val (.int (2 : Int32)), .val (.int (Int32.ofNat (szN N 1))), .val (.int (2 : Int32))] [(.int (2 : Int32)), (.int (2 : Int32))]) _
      refine Go.step (fun _ => XS.icmpYes X55.here hx rfl (pc0 := 44) (pc' := 81) rfl (hb hby d1_44) rfl (flt (by decide)).2.1 (by decide) (by decide)) ?_
      show Go p e below T55 (mkF m 81 #[.val (.ref a1), .val (.int (Int32.ofNat N)), .val (.int (2 : Int32)), .val (.int (Int32.ofNat (szN N 1))), .val (.int (2 : Int32))] []) _
      refine Go.ret0 X55 hx hret hlk (hb hby d1_81) ?_ (by decide) (by decide)
      rw [e55]
      obtain ⟨clZ, ArZ, -, SzZ, -, HaZ, -⟩ := id V_b44_q55
      have G1 : Ag Z h55 b44 2 (fun k => ([b48, b53] : List Addr).getD k 0) := ⟨clZ, ArZ, SzZ, fun k hk => match k, hk with
        | 0, _ => HaZ 0 (by rw [SzZ]; decide)
        | 1, _ => HaZ 1 (by rw [SzZ]; decide)
        | n + 2, q => absurd q (by omega)⟩
      have G2 : ∀ k, k < 2 → Af Z h55 (([b48, b53] : List Addr).getD k 0) (szN N k) ((fun _ _ => 0 : Nat → Nat → Int64) k) := fun k hk => match k, hk with
        | 0, _ => V_b48_q55
        | 1, _ => V_b53_q55
        | n + 2, q => absurd q (by omega)
      have G3 : ∀ k, k < 2 → n0 ≤ ([b48, b53] : List Addr).getD k 0 ∧ a1 ≠ ([b48, b53] : List Addr).getD k 0 ∧ b44 ≠ ([b48, b53] : List Addr).getD k 0 := fun k hk => match k, hk with
        | 0, _ => ⟨g_b48, ne_a1_b48, ne_b44_b48⟩
        | 1, _ => ⟨g_b53, ne_a1_b53, ne_b44_b53⟩
        | n + 2, q => absurd q (by omega)
      have G4 : ∀ i j, i < 2 → j < 2 → i ≠ j → ([b48, b53] : List Addr).getD i 0 ≠ ([b48, b53] : List Addr).getD j 0 := fun i j hi hj q => match i, j, hi, hj, q with
        | 0, 0, _, _, q => absurd rfl q
        | 0, 1, _, _, q => ne_b48_b53
        | 1, 0, _, _, q => (Ne.symm ne_b48_b53)
        | 1, 1, _, _, q => absurd rfl q
        | n + 2, _, q, _, _ => absurd q (by omega)
        | _, n + 2, _, q, _ => absurd q (by omega)
      have G5z : szN N (2 - 1) = 1 := by
        have e1 : (szN N 0) ≤ 64 := Nat.le_of_not_lt fun q => hb1 ((own_ltI (i := 64) (by decide) (by have := own_szLe (N := N) 0; omega)).mpr q)
        show szN N 1 = 1
        simp only [szN] at e1 ⊢
        omega
      have G5 : ∀ P, P / 64 < szN N (2 - 1) → P / 64 = 0 := fun P q => by rw [G5z] at q; omega
      exact ⟨rfl, N55, Z55, b44, 2, _, by decide, by decide, ⟨E1_q55, F_levels_a1_q55, G1, G2, G3, G4⟩, G5⟩
  · skip
    refine Go.step (fun _ => XS.icmpYes X4.here hx rfl (pc0 := 11) (pc' := 28) rfl (hb hby d1_11) rfl (flt hb0).2.2.2 (by decide) (by decide)) ?_
    show Go p e below T4 (mkF m 28 #[.val (.ref a1), .val (.int (Int32.ofNat N)), .val (.int (1 : Int32)), .val (.int (Int32.ofNat N)), .unset] []) _
    refine Go.step (fun _ => XS.aloadN X4.here hx rfl (hb hby d1_28) rfl rfl ) ?_
    show Go p e below T4 (mkF m 29 #[.val (.ref a1), .val (.int (Int32.ofNat N)), .val (.int (1 : Int32)), .val (.int (Int32.ofNat N)), .unset] [(.ref a1)]) _
    refine Go.step (fun _ => XS.iloadN X4.here hx rfl (hb hby d1_29) rfl ) ?_
    show Go p e below T4 (mkF m 30 #[.val (.ref a1), .val (.int (Int32.ofNat N)), .val (.int (1 : Int32)), .val (.int (Int32.ofNat N)), .unset] [(.int (1 : Int32)), (.ref a1)]) _
    obtain ⟨T56, h56, k56, X56, e56, E56, A56, B56, O56, st56⟩ := newRA X4 hx hZ hown (C := "[J") (ty := .long) (by decide) (hw _ (List.mem_of_getElem? (i := 11) rfl)) (hw _ (List.mem_of_getElem? (i := 12) rfl)) e4 (g := (mkF m 30 #[.val (.ref a1), .val (.int (Int32.ofNat N)), .val (.int (1 : Int32)), .val (.int (Int32.ofNat N)), .unset] [(.int (1 : Int32)), (.ref a1)])) rfl (hb hby d1_30) rfl (by decide) (cap := 1) (by decide) (by decide) (by decide) (by decide) (ad := "[[J") (by decide)
    obtain ⟨b56, g56⟩ : ∃ z, z = h0.size := ⟨_, rfl⟩
    rw [← g56] at A56 B56 st56
    have ne_a1_b56 : a1 ≠ b56 := Nat.ne_of_lt (Nat.lt_of_lt_of_le E1.lt (Nat.le_of_eq g56.symm))
    have g_b56 : n0 ≤ b56 := Nat.le_trans Z0 (Nat.le_of_eq g56.symm)
    have E1_q56 := E1.ext E56
    have F1_q56 := F1.ext E56
    have Z56 : n0 ≤ h56.size := Nat.le_trans Z0 E56.1
    refine Go.step st56 ?_
    have V_b56 : Arv Z h56 b56 k56 (.array .long) (1 : Int32) [.null] .null := (Arv.new A56 (by decide)).pad (pad_rep [] .null 1)
    have sl56 : ∀ j, szN N j ≤ N + 1 := fun j => own_szLe j
    show Go p e below T56 (mkF m 33 #[.val (.ref a1), .val (.int (Int32.ofNat N)), .val (.int (1 : Int32)), .val (.int (Int32.ofNat N)), .unset] [(.ref b56), (.ref a1)]) _
    obtain ⟨T57, h57, X57, e57, W57, st57⟩ := putF X56 hx hZ hown (host := "") (Or.inl (hw _ (List.mem_of_getElem? (i := 13) rfl))) Via.refl e56 F1_q56 E1_q56 (Or.inr ⟨(hw _ (List.mem_of_getElem? (i := 14) rfl)), rfl, hnm⟩) (hw _ (List.mem_of_getElem? (i := 3) rfl)) (ty := (.array (.array .long))) (by decide) rfl rfl (g := (mkF m 33 #[.val (.ref a1), .val (.int (Int32.ofNat N)), .val (.int (1 : Int32)), .val (.int (Int32.ofNat N)), .unset] [(.ref b56), (.ref a1)])) rfl rfl (hb hby d1_33)
    refine Go.step st57 ?_
    have N57 := Fr.snoc X57 N0 g1
    have F_levels_a1_q57 := F1_q56.same W57
    have E1_q57 := E1_q56.wr W57
    have V_b56_q57 := V_b56.other W57 (Ne.symm ne_a1_b56)
    have Z57 : n0 ≤ h57.size := by rw [W57.size]; exact Z56
    show Go p e below T57 (mkF m 36 #[.val (.ref a1), .val (.int (Int32.ofNat N)), .val (.int (1 : Int32)), .val (.int (Int32.ofNat N)), .unset] []) _
    refine Go.step (fun _ => XS.iloadN X57.here hx rfl (hb hby d1_36) rfl ) ?_
    show Go p e below T57 (mkF m 37 #[.val (.ref a1), .val (.int (Int32.ofNat N)), .val (.int (1 : Int32)), .val (.int (Int32.ofNat N)), .unset] [(.int (Int32.ofNat N))]) _
    refine Go.step (fun _ => XS.istoreN X57.here hx rfl (hb hby d1_37) rfl (l' := #[.val (.ref a1), .val (.int (Int32.ofNat N)), .val (.int (1 : Int32)), .val (.int (Int32.ofNat N)), .unset]) rfl) ?_
    show Go p e below T57 (mkF m 38 #[.val (.ref a1), .val (.int (Int32.ofNat N)), .val (.int (1 : Int32)), .val (.int (Int32.ofNat N)), .unset] []) _
    refine Go.step (fun _ => XS.iconst X57.here hx rfl (hb hby d1_38)) ?_
    show Go p e below T57 (mkF m 39 #[.val (.ref a1), .val (.int (Int32.ofNat N)), .val (.int (1 : Int32)), .val (.int (Int32.ofNat N)), .unset] [(.int (0 : Int32))]) _
    refine Go.step (fun _ => XS.istore X57.here hx rfl (hb hby d1_39) rfl (l' := #[.val (.ref a1), .val (.int (Int32.ofNat N)), .val (.int (1 : Int32)), .val (.int (Int32.ofNat N)), .val (.int (0 : Int32))]) rfl) ?_
    show Go p e below T57 (mkF m 41 #[.val (.ref a1), .val (.int (Int32.ofNat N)), .val (.int (1 : Int32)), .val (.int (Int32.ofNat N)), .val (.int (0 : Int32))] []) _
    refine Go.step (fun _ => XS.iload X57.here hx rfl (hb hby d1_41) rfl ) ?_
    show Go p e below T57 (mkF m 43 #[.val (.ref a1), .val (.int (Int32.ofNat N)), .val (.int (1 : Int32)), .val (.int (Int32.ofNat N)), .val (.int (0 : Int32))] [(.int (0 : Int32))]) _
    refine Go.step (fun _ => XS.iloadN X57.here hx rfl (hb hby d1_43) rfl ) ?_
    show Go p e below T57 (mkF m 44 #[.val (.ref a1), .val (.int (Int32.ofNat N)), .val (.int (1 : Int32)), .val (.int (Int32.ofNat N)), .val (.int (0 : Int32))] [(.int (1 : Int32)), (.int (0 : Int32))]) _
    refine Go.step (fun _ => XS.icmpNo X57.here hx rfl (hb hby d1_44) rfl (tlt (by decide)).2.1) ?_
    show Go p e below T57 (mkF m 47 #[.val (.ref a1), .val (.int (Int32.ofNat N)), .val (.int (1 : Int32)), .val (.int (Int32.ofNat N)), .val (.int (0 : Int32))] []) _
    refine Go.step (fun _ => XS.aloadN X57.here hx rfl (hb hby d1_47) rfl rfl ) ?_
    show Go p e below T57 (mkF m 48 #[.val (.ref a1), .val (.int (Int32.ofNat N)), .val (.int (1 : Int32)), .val (.int (Int32.ofNat N)), .val (.int (0 : Int32))] [(.ref a1)]) _
    obtain ⟨T58, X58, e58, st58⟩ := getF X57 hx hZ hown (host := "") (Or.inl (hw _ (List.mem_of_getElem? (i := 13) rfl))) Via.refl e57 F_levels_a1_q57 (g := (mkF m 48 #[.val (.ref a1), .val (.int (Int32.ofNat N)), .val (.int (1 : Int32)), .val (.int (Int32.ofNat N)), .val (.int (0 : Int32))] [(.ref a1)])) rfl rfl (hb hby d1_48)
    refine Go.step st58 ?_
    show Go p e below T58 (mkF m 51 #[.val (.ref a1), .val (.int (Int32.ofNat N)), .val (.int (1 : Int32)), .val (.int (Int32.ofNat N)), .val (.int (0 : Int32))] [(.ref b56)]) _
    refine Go.step (fun _ => XS.iload X58.here hx rfl (hb hby d1_51) rfl ) ?_
    show Go p e below T58 (mkF m 53 #[.val (.ref a1), .val (.int (Int32.ofNat N)), .val (.int (1 : Int32)), .val (.int (Int32.ofNat N)), .val (.int (0 : Int32))] [(.int (0 : Int32)), (.ref b56)]) _
    refine Go.step (fun _ => XS.iconst X58.here hx rfl (hb hby d1_53)) ?_
    show Go p e below T58 (mkF m 54 #[.val (.ref a1), .val (.int (Int32.ofNat N)), .val (.int (1 : Int32)), .val (.int (Int32.ofNat N)), .val (.int (0 : Int32))] [(.int (1 : Int32)), (.int (0 : Int32)), (.ref b56)]) _
    refine Go.step (fun _ => XS.iloadN X58.here hx rfl (hb hby d1_54) rfl ) ?_
    show Go p e below T58 (mkF m 55 #[.val (.ref a1), .val (.int (Int32.ofNat N)), .val (.int (1 : Int32)), .val (.int (Int32.ofNat N)), .val (.int (0 : Int32))] [(.int (Int32.ofNat N)), (.int (1 : Int32)), (.int (0 : Int32)), (.ref b56)]) _
    refine Go.step (fun _ => XS.bipush X58.here hx rfl (hb hby d1_55)) ?_
    show Go p e below T58 (mkF m 57 #[.val (.ref a1), .val (.int (Int32.ofNat N)), .val (.int (1 : Int32)), .val (.int (Int32.ofNat N)), .val (.int (0 : Int32))] [(.int (63 : Int32)), (.int (Int32.ofNat N)), (.int (1 : Int32)), (.int (0 : Int32)), (.ref b56)]) _
    refine Go.step (fun _ => XS.iadd X58.here hx rfl (hb hby d1_57) rfl) ?_
    show Go p e below T58 (mkF m 58 #[.val (.ref a1), .val (.int (Int32.ofNat N)), .val (.int (1 : Int32)), .val (.int (Int32.ofNat N)), .val (.int (0 : Int32))] [(.int ((Int32.ofNat N) + (63 : Int32))), (.int (1 : Int32)), (.int (0 : Int32)), (.ref b56)]) _
    refine Go.step (fun _ => XS.bipush X58.here hx rfl (hb hby d1_58)) ?_
    show Go p e below T58 (mkF m 60 #[.val (.ref a1), .val (.int (Int32.ofNat N)), .val (.int (1 : Int32)), .val (.int (Int32.ofNat N)), .val (.int (0 : Int32))] [(.int (64 : Int32)), (.int ((Int32.ofNat N) + (63 : Int32))), (.int (1 : Int32)), (.int (0 : Int32)), (.ref b56)]) _
    refine Go.step (fun _ => XS.idiv X58.here hx rfl (hb hby d1_60) rfl (by decide)) ?_
    show Go p e below T58 (mkF m 61 #[.val (.ref a1), .val (.int (Int32.ofNat N)), .val (.int (1 : Int32)), .val (.int (Int32.ofNat N)), .val (.int (0 : Int32))] [(.int (((Int32.ofNat N) + (63 : Int32)) / (64 : Int32))), (.int (1 : Int32)), (.int (0 : Int32)), (.ref b56)]) _
    rw [show (Int32.ofNat N + (63 : Int32)) / (64 : Int32) = Int32.ofNat (szN N 0) from own_div64 (by omega)]
    show Go p e below T58 (mkF m 61 #[.val (.ref a1), .val (.int (Int32.ofNat N)), .val (.int (1 : Int32)), .val (.int (Int32.ofNat N)), .val (.int (0 : Int32))] [(.int (Int32.ofNat (szN N 0))), (.int (1 : Int32)), (.int (0 : Int32)), (.ref b56)]) _
    obtain ⟨_, _, ⟨T59, L59, k59, n59⟩, -, X59, ⟨Lc59, hQ59, l59, y59, z59⟩, st59⟩ := Jvm.LawKit.callS X58 hx (y := (⟨"java/lang/Math", "max", "(II)I"⟩ : MethodName)) hown (mvT hZ (hw _ (List.mem_of_getElem? (i := 15) rfl))) (mvT hZ (hw _ (List.mem_of_getElem? (i := 16) rfl))) (mvT hZ (hw _ (List.mem_of_getElem? (i := 17) rfl))) (mvT hZ (hw _ (List.mem_of_getElem? (i := 18) rfl))) (by decide) (backOf (W := 2) (rmMx l Z a0 hw [] (1 : Int32) (Int32.ofNat (szN N 0)) (Int32.ofNat (szN N 0)) h57 n0 Z57 (own_mx1 (by simp only [szN]; omega) (by have := own_szLe (N := N) 0; omega))) hZ (hw _ (List.mem_of_getElem? (i := 18) rfl)) (hw _ (List.mem_of_getElem? (i := 17) rfl)) (by decide) (by decide)) (g := (mkF m 61 #[.val (.ref a1), .val (.int (Int32.ofNat N)), .val (.int (1 : Int32)), .val (.int (Int32.ofNat N)), .val (.int (0 : Int32))] [(.int (Int32.ofNat (szN N 0))), (.int (1 : Int32)), (.int (0 : Int32)), (.ref b56)])) rfl (by rw [hml]; rfl) (argsL := [(.int (1 : Int32)), (.int (Int32.ofNat (szN N 0)))]) (rest := [(.int (0 : Int32)), (.ref b56)]) (lenOf pd_2 rfl) rfl (by show 2 * 0 + _ ≤ _; exact Nat.le_of_eq rfl) (hb hby d1_61) (fun _ _ => ⟨rfl, e58, (by decide : 0 + 1 + 0 ≤ _), (by decide : 0 + 1 + 0 ≤ _)⟩)
    dsimp only [Pt.U, Pt.locs, Pt.cells, Pt.slots] at X59 l59 y59 z59 st59 hQ59
    subst l59 y59 z59
    obtain ⟨rfl, Nq59, eh59⟩ := hQ59
    have N59 := Fr.app N57 Nq59
    refine Go.step st59 ?_
    show Go p e below T59 (mkF m 64 #[.val (.ref a1), .val (.int (Int32.ofNat N)), .val (.int (1 : Int32)), .val (.int (Int32.ofNat N)), .val (.int (0 : Int32))] [(.int (Int32.ofNat (szN N 0))), (.int (0 : Int32)), (.ref b56)]) _
    obtain ⟨T60, h60, k60, X60, e60, E60, A60, B60, st60⟩ := newPE X59 hx hZ (hw _ (List.mem_of_getElem? (i := 19) rfl)) eh59 (g := (mkF m 64 #[.val (.ref a1), .val (.int (Int32.ofNat N)), .val (.int (1 : Int32)), .val (.int (Int32.ofNat N)), .val (.int (0 : Int32))] [(.int (Int32.ofNat (szN N 0))), (.int (0 : Int32)), (.ref b56)])) rfl (hb hby d1_64) rfl (own_nn (by have := own_szLe (N := N) 0; omega)) (cap := 16384) (by rw [own_clamp (by have := own_szLe (N := N) 0; omega)]; simp only [szN]; omega) (by decide) (by decide) (by decide) (ad := "[J") (by decide)
    obtain ⟨b60, g60⟩ : ∃ z, z = h57.size := ⟨_, rfl⟩
    rw [← g60] at A60 B60 st60
    have ne_a1_b60 : a1 ≠ b60 := Nat.ne_of_lt (Nat.lt_of_lt_of_le E1_q57.lt (Nat.le_of_eq g60.symm))
    have ne_b56_b60 : b56 ≠ b60 := Nat.ne_of_lt (Nat.lt_of_lt_of_le V_b56_q57.lt (Nat.le_of_eq g60.symm))
    have g_b60 : n0 ≤ b60 := Nat.le_trans Z57 (Nat.le_of_eq g60.symm)
    have E1_q60 := E1_q57.ext E60
    have V_b56_q60 := V_b56_q57.ext E60
    have F_levels_a1_q60 := F_levels_a1_q57.ext E60
    have Z60 : n0 ≤ h60.size := Nat.le_trans Z57 E60.1
    refine Go.step st60 ?_
    have V_b60 : Af Z h60 b60 (szN N 0) (fun _ => 0) := Af.new A60 (by have := own_szLe (N := N) 0; omega)
    show Go p e below T60 (mkF m 66 #[.val (.ref a1), .val (.int (Int32.ofNat N)), .val (.int (1 : Int32)), .val (.int (Int32.ofNat N)), .val (.int (0 : Int32))] [(.ref b60), (.int (0 : Int32)), (.ref b56)]) _
    obtain ⟨cl61, Ar61, qa61, Sz61, Nz61, Ha61, Ga61⟩ := V_b56_q60
    obtain ⟨T62, h62, X62, e62, W62, st62⟩ := stR X60 hx hZ e60 Ar61 (j := (0 : Int32)) (inb_of Sz61 ⟨by decide, by decide⟩) rfl (Sto.ofVA Ar61 qa61 O56 (Ins.self B60)) (g := (mkF m 66 #[.val (.ref a1), .val (.int (Int32.ofNat N)), .val (.int (1 : Int32)), .val (.int (Int32.ofNat N)), .val (.int (0 : Int32))] [(.ref b60), (.int (0 : Int32)), (.ref b56)])) rfl rfl (hb hby d1_66)
    refine Go.step st62 ?_
    have N62 := Fr.snoc X62 N59 g_b56
    have V_b56_q62 : Arv Z h62 b56 k56 (.array .long) (1 : Int32) [(.ref b60)] .null := Arv.set Ar61 qa61 Sz61 Nz61 Ha61 Ga61 rfl W62 0 rfl (Nat.le_of_ble_eq_true rfl)
    have E1_q62 := E1_q60.wr W62
    have F_levels_a1_q62 := F_levels_a1_q60.other W62 (Or.inl ne_a1_b56)
    have V_b60_q62 := V_b60.other W62 (Ne.symm ne_b56_b60)
    have Z62 : n0 ≤ h62.size := by rw [W62.size]; exact Z60
    show Go p e below T62 (mkF m 67 #[.val (.ref a1), .val (.int (Int32.ofNat N)), .val (.int (1 : Int32)), .val (.int (Int32.ofNat N)), .val (.int (0 : Int32))] []) _
    refine Go.step (fun _ => XS.iloadN X62.here hx rfl (hb hby d1_67) rfl ) ?_
    show Go p e below T62 (mkF m 68 #[.val (.ref a1), .val (.int (Int32.ofNat N)), .val (.int (1 : Int32)), .val (.int (Int32.ofNat N)), .val (.int (0 : Int32))] [(.int (Int32.ofNat N))]) _
    refine Go.step (fun _ => XS.bipush X62.here hx rfl (hb hby d1_68)) ?_
    show Go p e below T62 (mkF m 70 #[.val (.ref a1), .val (.int (Int32.ofNat N)), .val (.int (1 : Int32)), .val (.int (Int32.ofNat N)), .val (.int (0 : Int32))] [(.int (63 : Int32)), (.int (Int32.ofNat N))]) _
    refine Go.step (fun _ => XS.iadd X62.here hx rfl (hb hby d1_70) rfl) ?_
    show Go p e below T62 (mkF m 71 #[.val (.ref a1), .val (.int (Int32.ofNat N)), .val (.int (1 : Int32)), .val (.int (Int32.ofNat N)), .val (.int (0 : Int32))] [(.int ((Int32.ofNat N) + (63 : Int32)))]) _
    refine Go.step (fun _ => XS.bipush X62.here hx rfl (hb hby d1_71)) ?_
    show Go p e below T62 (mkF m 73 #[.val (.ref a1), .val (.int (Int32.ofNat N)), .val (.int (1 : Int32)), .val (.int (Int32.ofNat N)), .val (.int (0 : Int32))] [(.int (64 : Int32)), (.int ((Int32.ofNat N) + (63 : Int32)))]) _
    refine Go.step (fun _ => XS.idiv X62.here hx rfl (hb hby d1_73) rfl (by decide)) ?_
    show Go p e below T62 (mkF m 74 #[.val (.ref a1), .val (.int (Int32.ofNat N)), .val (.int (1 : Int32)), .val (.int (Int32.ofNat N)), .val (.int (0 : Int32))] [(.int (((Int32.ofNat N) + (63 : Int32)) / (64 : Int32)))]) _
    rw [show (Int32.ofNat N + (63 : Int32)) / (64 : Int32) = Int32.ofNat (szN N 0) from own_div64 (by omega)]
    show Go p e below T62 (mkF m 74 #[.val (.ref a1), .val (.int (Int32.ofNat N)), .val (.int (1 : Int32)), .val (.int (Int32.ofNat N)), .val (.int (0 : Int32))] [(.int (Int32.ofNat (szN N 0)))]) _
    refine Go.step (fun _ => XS.istoreN X62.here hx rfl (hb hby d1_74) rfl (l' := #[.val (.ref a1), .val (.int (Int32.ofNat N)), .val (.int (1 : Int32)), .val (.int (Int32.ofNat (szN N 0))), .val (.int (0 : Int32))]) rfl) ?_
    show Go p e below T62 (mkF m 75 #[.val (.ref a1), .val (.int (Int32.ofNat N)), .val (.int (1 : Int32)), .val (.int (Int32.ofNat (szN N 0))), .val (.int (0 : Int32))] []) _
    refine Go.step (fun _ => XS.iinc X62.here hx rfl (hb hby d1_75) rfl (l' := #[.val (.ref a1), .val (.int (Int32.ofNat N)), .val (.int (1 : Int32)), .val (.int (Int32.ofNat (szN N 0))), .val (.int (1 : Int32))]) rfl) ?_
    show Go p e below T62 (mkF m 78 #[.val (.ref a1), .val (.int (Int32.ofNat N)), .val (.int (1 : Int32)), .val (.int (Int32.ofNat (szN N 0))), .val (.int (1 : Int32))] []) _
    refine Go.step (fun _ => XS.goto X62.here hx rfl (pc0 := 78) (pc' := 41) rfl (hb hby d1_78) (by decide) (by decide)) ?_
    show Go p e below T62 (mkF m 41 #[.val (.ref a1), .val (.int (Int32.ofNat N)), .val (.int (1 : Int32)), .val (.int (Int32.ofNat (szN N 0))), .val (.int (1 : Int32))] []) _
    refine Go.step (fun _ => XS.iload X62.here hx rfl (hb hby d1_41) rfl ) ?_
    show Go p e below T62 (mkF m 43 #[.val (.ref a1), .val (.int (Int32.ofNat N)), .val (.int (1 : Int32)), .val (.int (Int32.ofNat (szN N 0))), .val (.int (1 : Int32))] [(.int (1 : Int32))]) _
    refine Go.step (fun _ => XS.iloadN X62.here hx rfl (hb hby d1_43) rfl ) ?_
    show Go p e below T62 (mkF m 44 #[.val (.ref a1), .val (.int (Int32.ofNat N)), .val (.int (1 : Int32)), .val (.int (Int32.ofNat (szN N 0))), .val (.int (1 : Int32))] [(.int (1 : Int32)), (.int (1 : Int32))]) _
    refine Go.step (fun _ => XS.icmpYes X62.here hx rfl (pc0 := 44) (pc' := 81) rfl (hb hby d1_44) rfl (flt (by decide)).2.1 (by decide) (by decide)) ?_
    show Go p e below T62 (mkF m 81 #[.val (.ref a1), .val (.int (Int32.ofNat N)), .val (.int (1 : Int32)), .val (.int (Int32.ofNat (szN N 0))), .val (.int (1 : Int32))] []) _
    refine Go.ret0 X62 hx hret hlk (hb hby d1_81) ?_ (by decide) (by decide)
    rw [e62]
    obtain ⟨clZ, ArZ, -, SzZ, -, HaZ, -⟩ := id V_b56_q62
    have G1 : Ag Z h62 b56 1 (fun k => ([b60] : List Addr).getD k 0) := ⟨clZ, ArZ, SzZ, fun k hk => match k, hk with
      | 0, _ => HaZ 0 (by rw [SzZ]; decide)
      | n + 1, q => absurd q (by omega)⟩
    have G2 : ∀ k, k < 1 → Af Z h62 (([b60] : List Addr).getD k 0) (szN N k) ((fun _ _ => 0 : Nat → Nat → Int64) k) := fun k hk => match k, hk with
      | 0, _ => V_b60_q62
      | n + 1, q => absurd q (by omega)
    have G3 : ∀ k, k < 1 → n0 ≤ ([b60] : List Addr).getD k 0 ∧ a1 ≠ ([b60] : List Addr).getD k 0 ∧ b56 ≠ ([b60] : List Addr).getD k 0 := fun k hk => match k, hk with
      | 0, _ => ⟨g_b60, ne_a1_b60, ne_b56_b60⟩
      | n + 1, q => absurd q (by omega)
    have G4 : ∀ i j, i < 1 → j < 1 → i ≠ j → ([b60] : List Addr).getD i 0 ≠ ([b60] : List Addr).getD j 0 := fun i j hi hj q => match i, j, hi, hj, q with
      | 0, 0, _, _, q => absurd rfl q
      | n + 1, _, q, _, _ => absurd q (by omega)
      | _, n + 1, _, q, _ => absurd q (by omega)
    have G5z : szN N (1 - 1) = 1 := by
      have e1 : N ≤ 64 := Nat.le_of_not_lt fun q => hb0 ((own_ltI (i := 64) (by decide) (by omega)).mpr q)
      show szN N 0 = 1
      simp only [szN] at e1 ⊢
      omega
    have G5 : ∀ P, P / 64 < szN N (1 - 1) → P / 64 = 0 := fun P q => by rw [G5z] at q; omega
    exact ⟨rfl, N62, Z62, b56, 1, _, by decide, by decide, ⟨E1_q62, F_levels_a1_q62, G1, G2, G3, G4⟩, G5⟩
theorem d4_0 : decode prog_61_method_2_code 0 = .ok (.iload_n 1, 1) := by decide +kernel
theorem d4_1 : decode prog_61_method_2_code 1 = .ok (.istore_n 2, 1) := by decide +kernel
theorem d4_2 : decode prog_61_method_2_code 2 = .ok (.aload_n 0, 1) := by decide +kernel
theorem d4_3 : decode prog_61_method_2_code 3 = .ok (.getfield 9, 3) := by decide +kernel
theorem d4_6 : decode prog_61_method_2_code 6 = .ok (.astore_n 3, 1) := by decide +kernel
theorem d4_7 : decode prog_61_method_2_code 7 = .ok (.aload_n 3, 1) := by decide +kernel
theorem d4_8 : decode prog_61_method_2_code 8 = .ok (.arraylength, 1) := by decide +kernel
theorem d4_9 : decode prog_61_method_2_code 9 = .ok (.istore 4, 2) := by decide +kernel
theorem d4_11 : decode prog_61_method_2_code 11 = .ok (.iconst 0, 1) := by decide +kernel
theorem d4_12 : decode prog_61_method_2_code 12 = .ok (.istore 5, 2) := by decide +kernel
theorem d4_14 : decode prog_61_method_2_code 14 = .ok (.iload 5, 2) := by decide +kernel
theorem d4_16 : decode prog_61_method_2_code 16 = .ok (.iload 4, 2) := by decide +kernel
theorem d4_18 : decode prog_61_method_2_code 18 = .ok (.if_icmp .ge 58, 3) := by decide +kernel
theorem d4_21 : decode prog_61_method_2_code 21 = .ok (.aload_n 3, 1) := by decide +kernel
theorem d4_22 : decode prog_61_method_2_code 22 = .ok (.iload 5, 2) := by decide +kernel
theorem d4_24 : decode prog_61_method_2_code 24 = .ok (.aaload, 1) := by decide +kernel
theorem d4_25 : decode prog_61_method_2_code 25 = .ok (.astore 6, 2) := by decide +kernel
theorem d4_27 : decode prog_61_method_2_code 27 = .ok (.iload_n 2, 1) := by decide +kernel
theorem d4_28 : decode prog_61_method_2_code 28 = .ok (.bipush 6, 2) := by decide +kernel
theorem d4_30 : decode prog_61_method_2_code 30 = .ok (.iushr, 1) := by decide +kernel
theorem d4_31 : decode prog_61_method_2_code 31 = .ok (.istore 7, 2) := by decide +kernel
theorem d4_33 : decode prog_61_method_2_code 33 = .ok (.aload 6, 2) := by decide +kernel
theorem d4_35 : decode prog_61_method_2_code 35 = .ok (.iload 7, 2) := by decide +kernel
theorem d4_37 : decode prog_61_method_2_code 37 = .ok (.laload, 1) := by decide +kernel
theorem d4_38 : decode prog_61_method_2_code 38 = .ok (.lconst 0, 1) := by decide +kernel
theorem d4_39 : decode prog_61_method_2_code 39 = .ok (.lcmp, 1) := by decide +kernel
theorem d4_40 : decode prog_61_method_2_code 40 = .ok (.ifCond .ne 7, 3) := by decide +kernel
theorem d4_43 : decode prog_61_method_2_code 43 = .ok (.iconst 1, 1) := by decide +kernel
theorem d4_44 : decode prog_61_method_2_code 44 = .ok (.goto 4, 3) := by decide +kernel
theorem d4_47 : decode prog_61_method_2_code 47 = .ok (.iconst 0, 1) := by decide +kernel
theorem d4_48 : decode prog_61_method_2_code 48 = .ok (.istore 8, 2) := by decide +kernel
theorem d4_50 : decode prog_61_method_2_code 50 = .ok (.aload 6, 2) := by decide +kernel
theorem d4_52 : decode prog_61_method_2_code 52 = .ok (.iload 7, 2) := by decide +kernel
theorem d4_54 : decode prog_61_method_2_code 54 = .ok (.dup2, 1) := by decide +kernel
theorem d4_55 : decode prog_61_method_2_code 55 = .ok (.laload, 1) := by decide +kernel
theorem d4_56 : decode prog_61_method_2_code 56 = .ok (.lconst 1, 1) := by decide +kernel
theorem d4_57 : decode prog_61_method_2_code 57 = .ok (.iload_n 2, 1) := by decide +kernel
theorem d4_58 : decode prog_61_method_2_code 58 = .ok (.lshl, 1) := by decide +kernel
theorem d4_59 : decode prog_61_method_2_code 59 = .ok (.lor, 1) := by decide +kernel
theorem d4_60 : decode prog_61_method_2_code 60 = .ok (.lastore, 1) := by decide +kernel
theorem d4_61 : decode prog_61_method_2_code 61 = .ok (.iload 8, 2) := by decide +kernel
theorem d4_63 : decode prog_61_method_2_code 63 = .ok (.ifCond .ne 4, 3) := by decide +kernel
theorem d4_66 : decode prog_61_method_2_code 66 = .ok (.return_, 1) := by decide +kernel
theorem d4_67 : decode prog_61_method_2_code 67 = .ok (.iload 7, 2) := by decide +kernel
theorem d4_69 : decode prog_61_method_2_code 69 = .ok (.istore_n 2, 1) := by decide +kernel
theorem d4_70 : decode prog_61_method_2_code 70 = .ok (.iinc 5 1, 3) := by decide +kernel
theorem d4_73 : decode prog_61_method_2_code 73 = .ok (.goto (-59), 3) := by decide +kernel
theorem d4_76 : decode prog_61_method_2_code 76 = .ok (.return_, 1) := by decide +kernel
theorem ef_rmAdd (m : MethodId) (x0 : Addr) (x1 : Int32) : entryFrame m #[(.ref x0), (.int x1)] 9 = mkF m 0 #[.val (.ref x0), .val (.int x1), .unset, .unset, .unset, .unset, .unset, .unset, .unset] [] := by first | (simp [entryFrame, mkF, argsToLocals, Value.category]; done) | rfl
def QAdd (Z : State) (a A : Addr) (M : Nat) (lv : Nat → Addr) (sz : Nat → Nat) (f : Nat → Nat → Int64) (S : Nat → Prop) (P : Nat) (h0 : Heap) (n0 : Nat) (v : Option Value) (h : Heap) (L : List Loc) : Prop := v = none ∧ Fr n0 L ∧ n0 ≤ h.size ∧ ∃ f', Tree Z h n0 a A M lv sz f' ∧ Rep M sz f' (fun q => S q ∨ q = P)
set_option maxRecDepth 65536 in
set_option maxHeartbeats 40000000 in
theorem rmAdd (l : Launch) (Z : State) (a0 : Array Value) (hw : ∀ d ∈ tables_1, d.before a0 Z = true) (ws : List Jvm.Cond) (a A : Addr) (M : Nat) (lv : Nat → Addr) (sz : Nat → Nat) (f : Nat → Nat → Int64) (S : Nat → Prop) (P : Nat) (h0 : Heap) (n0 : Nat) (Z0 : n0 ≤ h0.size) (T0 : Tree Z h0 n0 a A M lv sz f) (hR : Rep M sz f S) (hM : M ≤ 8) (hszb : ∀ k, k < M → sz k < 2 ^ 31) (hP : P < 2 ^ 31) (hsz : ∀ k, k < M → P / 64 ^ k / 64 < sz k) :
    MetFree l (⟨"com/example/maxhue/maxhue/PointSet", "add", "(I)V"⟩ : MethodName) (head1 (Jvm.Cond.code (⟨"com/example/maxhue/maxhue/PointSet", "add", "(I)V"⟩ : MethodName) prog_61_method_2_code 9 none :: ws) ({ frames := 0, cells := 0, slots := 0, locals := 0 } : Room)) (fun as' U => as' = #[(.ref a), (.int (Int32.ofNat P))] ∧ Z.Warmed39 U.vm ∧ U.heap = h0) (fun _ _ _ _ _ => True) (fun _ U o U' => ∃ v L, o = .returned v ∧ QAdd Z a A M lv sz f S P h0 n0 v U'.heap L ∧ FrameEnd U o U' L ({ frames := 0, cells := 0, slots := 0, locals := 0 } : Room).cells ({ frames := 0, cells := 0, slots := 0, locals := 0 } : Room).slots) := by
  refine MetFree.of_bodySF (plainFor_of_name pn_2) hisR ?_
  intro p e s m args below meth c s₁ Bd hml0 hP hK
  obtain ⟨rfl, hZ, hh⟩ := hP
  have hx := Bd.exec
  have hby := Bd.bytes
  have hml : c.maxLocals = 9 := hml0
  have hown : s.vm.findClass "com/example/maxhue/maxhue/PointSet" = some m.cls := findClass_of_methodNamed Bd.named
  have hnm := (name_of_methodNamed Bd.named Bd.method).1
  have hlk : meth.locks = false := Bd.notSynchronized
  have hret := Bd.returns
  have X0 : Stand p l e ({ frames := 0, cells := 0, slots := 0, locals := 0 } : Room) s m #[(.ref a), (.int (Int32.ofNat P))] below meth c s₁ [] 0 0 := Stand.of_body Bd
  have e0 : s₁.heap = h0 := by rw [← hh, Bd.state]; rfl
  have N0 := Fr.nil n0
  show Go p e below s₁ (entryFrame m #[(.ref a), (.int (Int32.ofNat P))] 9) (Fin s (QAdd Z a A M lv sz f S P h0 n0) ({ frames := 0, cells := 0, slots := 0, locals := 0 } : Room).cells ({ frames := 0, cells := 0, slots := 0, locals := 0 } : Room).slots)
  rw [ef_rmAdd]
  have Tr := T0
  have loop : ∀ (r k : Nat) (hk : k + r = M) (f : Nat → Nat → Int64) (s6 s7 s8 : Slot) (o6 : One s6) (o7 : One s7) (o8 : One s8) (hlo : ∀ j, j < k → RepAt sz f (fun q => S q ∨ q = P) j) (hhi : ∀ j, k ≤ j → j < M → RepAt sz f S j) (hp : Heap) (locs : List Loc) (N : Fr n0 locs) (T : State) (X : Stand p l e ({ frames := 0, cells := 0, slots := 0, locals := 0 } : Room) s m #[(.ref a), (.int (Int32.ofNat P))] below meth c T locs 0 0) (eT : T.heap = hp) (hZs : n0 ≤ hp.size) (Tr : Tree Z hp n0 a A M lv sz f), Go p e below T (mkF m 14 #[.val (.ref a), .val (.int (Int32.ofNat P)), .val (.int (Int32.ofNat (P / 64 ^ k))), .val (.ref A), .val (.int (Int32.ofNat M)), .val (.int (Int32.ofNat k)), s6, s7, s8] []) (Fin s (QAdd Z a A M lv sz f S P h0 n0) ({ frames := 0, cells := 0, slots := 0, locals := 0 } : Room).cells ({ frames := 0, cells := 0, slots := 0, locals := 0 } : Room).slots) := by
    clear Tr T0 hR
    intro r
    induction r with
    | zero =>
      intro k hk f s6 s7 s8 o6 o7 o8 hlo hhi hp locs N T X eT hZs Tr
      obtain rfl : k = M := by omega
      show Go p e below T (mkF m 14 #[.val (.ref a), .val (.int (Int32.ofNat P)), .val (.int (Int32.ofNat (P / 64 ^ k))), .val (.ref A), .val (.int (Int32.ofNat k)), .val (.int (Int32.ofNat k)), s6, s7, s8] []) _
      refine Go.step (fun _ => XS.iload X.here hx rfl (hb hby d4_14) rfl ) ?_
      show Go p e below T (mkF m 16 #[.val (.ref a), .val (.int (Int32.ofNat P)), .val (.int (Int32.ofNat (P / 64 ^ k))), .val (.ref A), .val (.int (Int32.ofNat k)), .val (.int (Int32.ofNat k)), s6, s7, s8] [(.int (Int32.ofNat k))]) _
      refine Go.step (fun _ => XS.iload X.here hx rfl (hb hby d4_16) rfl ) ?_
      show Go p e below T (mkF m 18 #[.val (.ref a), .val (.int (Int32.ofNat P)), .val (.int (Int32.ofNat (P / 64 ^ k))), .val (.ref A), .val (.int (Int32.ofNat k)), .val (.int (Int32.ofNat k)), s6, s7, s8] [(.int (Int32.ofNat k)), (.int (Int32.ofNat k))]) _
      refine Go.step (fun _ => XS.icmpYes X.here hx rfl (pc0 := 18) (pc' := 76) rfl (hb hby d4_18) rfl (flt (fun q => absurd ((own_ltI (by omega) (by omega)).mp q) (Nat.lt_irrefl _))).2.1 (by decide) (by decide)) ?_
      show Go p e below T (mkF m 76 #[.val (.ref a), .val (.int (Int32.ofNat P)), .val (.int (Int32.ofNat (P / 64 ^ k))), .val (.ref A), .val (.int (Int32.ofNat k)), .val (.int (Int32.ofNat k)), s6, s7, s8] []) _
      refine Go.ret0 X hx hret hlk (hb hby d4_76) ?_ (by decide) (by decide)
      rw [eT]
      exact ⟨rfl, N, hZs, f, Tr, fun j q => hlo j q⟩
    | succ r ih =>
      intro k hk f s6 s7 s8 o6 o7 o8 hlo hhi hp locs N T X eT hZs Tr
      have hkM : k < M := by omega
      have hwz : P / 64 ^ k / 64 < sz k := hsz k hkM
      have hKb : P / 64 ^ k < 2 ^ 31 := Nat.lt_of_le_of_lt (Nat.div_le_self _ _) hP
      show Go p e below T (mkF m 14 #[.val (.ref a), .val (.int (Int32.ofNat P)), .val (.int (Int32.ofNat (P / 64 ^ k))), .val (.ref A), .val (.int (Int32.ofNat M)), .val (.int (Int32.ofNat k)), s6, s7, s8] []) _
      refine Go.step (fun _ => XS.iload X.here hx rfl (hb hby d4_14) rfl ) ?_
      show Go p e below T (mkF m 16 #[.val (.ref a), .val (.int (Int32.ofNat P)), .val (.int (Int32.ofNat (P / 64 ^ k))), .val (.ref A), .val (.int (Int32.ofNat M)), .val (.int (Int32.ofNat k)), s6, s7, s8] [(.int (Int32.ofNat k))]) _
      refine Go.step (fun _ => XS.iload X.here hx rfl (hb hby d4_16) rfl ) ?_
      show Go p e below T (mkF m 18 #[.val (.ref a), .val (.int (Int32.ofNat P)), .val (.int (Int32.ofNat (P / 64 ^ k))), .val (.ref A), .val (.int (Int32.ofNat M)), .val (.int (Int32.ofNat k)), s6, s7, s8] [(.int (Int32.ofNat M)), (.int (Int32.ofNat k))]) _
      refine Go.step (fun _ => XS.icmpNo X.here hx rfl (hb hby d4_18) rfl (tlt ((own_ltI (by omega) (by omega)).mpr hkM)).2.1) ?_
      show Go p e below T (mkF m 21 #[.val (.ref a), .val (.int (Int32.ofNat P)), .val (.int (Int32.ofNat (P / 64 ^ k))), .val (.ref A), .val (.int (Int32.ofNat M)), .val (.int (Int32.ofNat k)), s6, s7, s8] []) _
      refine Go.step (fun _ => XS.aloadN X.here hx rfl (hb hby d4_21) rfl rfl ) ?_
      show Go p e below T (mkF m 22 #[.val (.ref a), .val (.int (Int32.ofNat P)), .val (.int (Int32.ofNat (P / 64 ^ k))), .val (.ref A), .val (.int (Int32.ofNat M)), .val (.int (Int32.ofNat k)), s6, s7, s8] [(.ref A)]) _
      refine Go.step (fun _ => XS.iload X.here hx rfl (hb hby d4_22) rfl ) ?_
      show Go p e below T (mkF m 24 #[.val (.ref a), .val (.int (Int32.ofNat P)), .val (.int (Int32.ofNat (P / 64 ^ k))), .val (.ref A), .val (.int (Int32.ofNat M)), .val (.int (Int32.ofNat k)), s6, s7, s8] [(.int (Int32.ofNat k)), (.ref A)]) _
      obtain ⟨clA63, AA63, sA63, gA63⟩ := id Tr.2.2.1
      refine Go.step (fun _ => X.aaload hx (j := (Int32.ofNat k)) (v := (.ref (lv k))) (by rw [eT]; exact AA63.1) (State.isArrayOf_alike hZ.alike AA63.2.1) rfl AA63.2.2 (own_in sA63 hkM (by omega)) (by rw [own_clamp (by omega)]; exact gA63 _ hkM) (g := (mkF m 24 #[.val (.ref a), .val (.int (Int32.ofNat P)), .val (.int (Int32.ofNat (P / 64 ^ k))), .val (.ref A), .val (.int (Int32.ofNat M)), .val (.int (Int32.ofNat k)), s6, s7, s8] [(.int (Int32.ofNat k)), (.ref A)])) rfl rfl (hb hby d4_24) _) ?_
      show Go p e below T (mkF m 25 #[.val (.ref a), .val (.int (Int32.ofNat P)), .val (.int (Int32.ofNat (P / 64 ^ k))), .val (.ref A), .val (.int (Int32.ofNat M)), .val (.int (Int32.ofNat k)), s6, s7, s8] [(.ref (lv k))]) _
      refine Go.step (fun _ => XS.astore X.here hx rfl (hb hby d4_25) rfl rfl (l' := #[.val (.ref a), .val (.int (Int32.ofNat P)), .val (.int (Int32.ofNat (P / 64 ^ k))), .val (.ref A), .val (.int (Int32.ofNat M)), .val (.int (Int32.ofNat k)), .val (.ref (lv k)), s7, s8]) (XS.store1 rfl o6 rfl)) ?_
      show Go p e below T (mkF m 27 #[.val (.ref a), .val (.int (Int32.ofNat P)), .val (.int (Int32.ofNat (P / 64 ^ k))), .val (.ref A), .val (.int (Int32.ofNat M)), .val (.int (Int32.ofNat k)), .val (.ref (lv k)), s7, s8] []) _
      refine Go.step (fun _ => XS.iloadN X.here hx rfl (hb hby d4_27) rfl ) ?_
      show Go p e below T (mkF m 28 #[.val (.ref a), .val (.int (Int32.ofNat P)), .val (.int (Int32.ofNat (P / 64 ^ k))), .val (.ref A), .val (.int (Int32.ofNat M)), .val (.int (Int32.ofNat k)), .val (.ref (lv k)), s7, s8] [(.int (Int32.ofNat (P / 64 ^ k)))]) _
      refine Go.step (fun _ => XS.bipush X.here hx rfl (hb hby d4_28)) ?_
      show Go p e below T (mkF m 30 #[.val (.ref a), .val (.int (Int32.ofNat P)), .val (.int (Int32.ofNat (P / 64 ^ k))), .val (.ref A), .val (.int (Int32.ofNat M)), .val (.int (Int32.ofNat k)), .val (.ref (lv k)), s7, s8] [(.int (6 : Int32)), (.int (Int32.ofNat (P / 64 ^ k)))]) _
      refine Go.step (fun _ => XS.iushr X.here hx rfl (hb hby d4_30) rfl) ?_
      show Go p e below T (mkF m 31 #[.val (.ref a), .val (.int (Int32.ofNat P)), .val (.int (Int32.ofNat (P / 64 ^ k))), .val (.ref A), .val (.int (Int32.ofNat M)), .val (.int (Int32.ofNat k)), .val (.ref (lv k)), s7, s8] [(.int (((Int32.ofNat (P / 64 ^ k)).toUInt32 >>> ((6 : Int32) &&& 31).toUInt32).toInt32))]) _
      rw [own_shr6 hKb]
      show Go p e below T (mkF m 31 #[.val (.ref a), .val (.int (Int32.ofNat P)), .val (.int (Int32.ofNat (P / 64 ^ k))), .val (.ref A), .val (.int (Int32.ofNat M)), .val (.int (Int32.ofNat k)), .val (.ref (lv k)), s7, s8] [(.int (Int32.ofNat (P / 64 ^ k / 64)))]) _
      refine Go.step (fun _ => XS.istore X.here hx rfl (hb hby d4_31) rfl (l' := #[.val (.ref a), .val (.int (Int32.ofNat P)), .val (.int (Int32.ofNat (P / 64 ^ k))), .val (.ref A), .val (.int (Int32.ofNat M)), .val (.int (Int32.ofNat k)), .val (.ref (lv k)), .val (.int (Int32.ofNat (P / 64 ^ k / 64))), s8]) (XS.store1 rfl o7 rfl)) ?_
      show Go p e below T (mkF m 33 #[.val (.ref a), .val (.int (Int32.ofNat P)), .val (.int (Int32.ofNat (P / 64 ^ k))), .val (.ref A), .val (.int (Int32.ofNat M)), .val (.int (Int32.ofNat k)), .val (.ref (lv k)), .val (.int (Int32.ofNat (P / 64 ^ k / 64))), s8] []) _
      refine Go.step (fun _ => XS.aload X.here hx rfl (hb hby d4_33) rfl rfl ) ?_
      show Go p e below T (mkF m 35 #[.val (.ref a), .val (.int (Int32.ofNat P)), .val (.int (Int32.ofNat (P / 64 ^ k))), .val (.ref A), .val (.int (Int32.ofNat M)), .val (.int (Int32.ofNat k)), .val (.ref (lv k)), .val (.int (Int32.ofNat (P / 64 ^ k / 64))), s8] [(.ref (lv k))]) _
      refine Go.step (fun _ => XS.iload X.here hx rfl (hb hby d4_35) rfl ) ?_
      show Go p e below T (mkF m 37 #[.val (.ref a), .val (.int (Int32.ofNat P)), .val (.int (Int32.ofNat (P / 64 ^ k))), .val (.ref A), .val (.int (Int32.ofNat M)), .val (.int (Int32.ofNat k)), .val (.ref (lv k)), .val (.int (Int32.ofNat (P / 64 ^ k / 64))), s8] [(.int (Int32.ofNat (P / 64 ^ k / 64))), (.ref (lv k))]) _
      obtain ⟨clk64, Ak64, sk64, gk64⟩ := id (Tr.2.2.2.1 _ hkM)
      refine Go.step (fun _ => X.laload hx (j := (Int32.ofNat (P / 64 ^ k / 64))) (v := (.long (f k (P / 64 ^ k / 64)))) (by rw [eT]; exact Ak64.1) (State.isArrayOf_alike hZ.alike Ak64.2.1) Ak64.2.2 (own_in sk64 hwz (hszb _ hkM)) (by rw [own_clamp (Nat.lt_trans hwz (hszb _ hkM))]; exact gk64 _ hwz) (g := (mkF m 37 #[.val (.ref a), .val (.int (Int32.ofNat P)), .val (.int (Int32.ofNat (P / 64 ^ k))), .val (.ref A), .val (.int (Int32.ofNat M)), .val (.int (Int32.ofNat k)), .val (.ref (lv k)), .val (.int (Int32.ofNat (P / 64 ^ k / 64))), s8] [(.int (Int32.ofNat (P / 64 ^ k / 64))), (.ref (lv k))])) rfl rfl (hb hby d4_37) _) ?_
      show Go p e below T (mkF m 38 #[.val (.ref a), .val (.int (Int32.ofNat P)), .val (.int (Int32.ofNat (P / 64 ^ k))), .val (.ref A), .val (.int (Int32.ofNat M)), .val (.int (Int32.ofNat k)), .val (.ref (lv k)), .val (.int (Int32.ofNat (P / 64 ^ k / 64))), s8] [(.long (f k (P / 64 ^ k / 64)))]) _
      refine Go.step (fun _ => XS.lconst X.here hx rfl (hb hby d4_38)) ?_
      show Go p e below T (mkF m 39 #[.val (.ref a), .val (.int (Int32.ofNat P)), .val (.int (Int32.ofNat (P / 64 ^ k))), .val (.ref A), .val (.int (Int32.ofNat M)), .val (.int (Int32.ofNat k)), .val (.ref (lv k)), .val (.int (Int32.ofNat (P / 64 ^ k / 64))), s8] [(.long (0 : Int64)), (.long (f k (P / 64 ^ k / 64)))]) _
      refine Go.step (fun _ => XS.lcmp X.here hx rfl (hb hby d4_39) rfl) ?_
      show Go p e below T (mkF m 40 #[.val (.ref a), .val (.int (Int32.ofNat P)), .val (.int (Int32.ofNat (P / 64 ^ k))), .val (.ref A), .val (.int (Int32.ofNat M)), .val (.int (Int32.ofNat k)), .val (.ref (lv k)), .val (.int (Int32.ofNat (P / 64 ^ k / 64))), s8] [(.int (lcmpW (f k (P / 64 ^ k / 64)) (0 : Int64)))]) _
      by_cases hc40 : (lcmpW (f k (P / 64 ^ k / 64)) (0 : Int64)) = (0 : Int32)
      · skip
        refine Go.step (fun _ => XS.ifNo X.here hx rfl (hb hby d4_40) rfl ((if0 _ _).trans (teq hc40).2)) ?_
        show Go p e below T (mkF m 43 #[.val (.ref a), .val (.int (Int32.ofNat P)), .val (.int (Int32.ofNat (P / 64 ^ k))), .val (.ref A), .val (.int (Int32.ofNat M)), .val (.int (Int32.ofNat k)), .val (.ref (lv k)), .val (.int (Int32.ofNat (P / 64 ^ k / 64))), s8] []) _
        refine Go.step (fun _ => XS.iconst X.here hx rfl (hb hby d4_43)) ?_
        show Go p e below T (mkF m 44 #[.val (.ref a), .val (.int (Int32.ofNat P)), .val (.int (Int32.ofNat (P / 64 ^ k))), .val (.ref A), .val (.int (Int32.ofNat M)), .val (.int (Int32.ofNat k)), .val (.ref (lv k)), .val (.int (Int32.ofNat (P / 64 ^ k / 64))), s8] [(.int (1 : Int32))]) _
        refine Go.step (fun _ => XS.goto X.here hx rfl (pc0 := 44) (pc' := 48) rfl (hb hby d4_44) (by decide) (by decide)) ?_
        show Go p e below T (mkF m 48 #[.val (.ref a), .val (.int (Int32.ofNat P)), .val (.int (Int32.ofNat (P / 64 ^ k))), .val (.ref A), .val (.int (Int32.ofNat M)), .val (.int (Int32.ofNat k)), .val (.ref (lv k)), .val (.int (Int32.ofNat (P / 64 ^ k / 64))), s8] [(.int (1 : Int32))]) _
        refine Go.step (fun _ => XS.istore X.here hx rfl (hb hby d4_48) rfl (l' := #[.val (.ref a), .val (.int (Int32.ofNat P)), .val (.int (Int32.ofNat (P / 64 ^ k))), .val (.ref A), .val (.int (Int32.ofNat M)), .val (.int (Int32.ofNat k)), .val (.ref (lv k)), .val (.int (Int32.ofNat (P / 64 ^ k / 64))), .val (.int (1 : Int32))]) (XS.store1 rfl o8 rfl)) ?_
        show Go p e below T (mkF m 50 #[.val (.ref a), .val (.int (Int32.ofNat P)), .val (.int (Int32.ofNat (P / 64 ^ k))), .val (.ref A), .val (.int (Int32.ofNat M)), .val (.int (Int32.ofNat k)), .val (.ref (lv k)), .val (.int (Int32.ofNat (P / 64 ^ k / 64))), .val (.int (1 : Int32))] []) _
        refine Go.step (fun _ => XS.aload X.here hx rfl (hb hby d4_50) rfl rfl ) ?_
        show Go p e below T (mkF m 52 #[.val (.ref a), .val (.int (Int32.ofNat P)), .val (.int (Int32.ofNat (P / 64 ^ k))), .val (.ref A), .val (.int (Int32.ofNat M)), .val (.int (Int32.ofNat k)), .val (.ref (lv k)), .val (.int (Int32.ofNat (P / 64 ^ k / 64))), .val (.int (1 : Int32))] [(.ref (lv k))]) _
        refine Go.step (fun _ => XS.iload X.here hx rfl (hb hby d4_52) rfl ) ?_
        show Go p e below T (mkF m 54 #[.val (.ref a), .val (.int (Int32.ofNat P)), .val (.int (Int32.ofNat (P / 64 ^ k))), .val (.ref A), .val (.int (Int32.ofNat M)), .val (.int (Int32.ofNat k)), .val (.ref (lv k)), .val (.int (Int32.ofNat (P / 64 ^ k / 64))), .val (.int (1 : Int32))] [(.int (Int32.ofNat (P / 64 ^ k / 64))), (.ref (lv k))]) _
        refine Go.step (fun _ => XT.dup2 X.here hx rfl (hb hby d4_54) rfl rfl rfl) ?_
        show Go p e below T (mkF m 55 #[.val (.ref a), .val (.int (Int32.ofNat P)), .val (.int (Int32.ofNat (P / 64 ^ k))), .val (.ref A), .val (.int (Int32.ofNat M)), .val (.int (Int32.ofNat k)), .val (.ref (lv k)), .val (.int (Int32.ofNat (P / 64 ^ k / 64))), .val (.int (1 : Int32))] [(.int (Int32.ofNat (P / 64 ^ k / 64))), (.ref (lv k)), (.int (Int32.ofNat (P / 64 ^ k / 64))), (.ref (lv k))]) _
        obtain ⟨clk65, Ak65, sk65, gk65⟩ := id (Tr.2.2.2.1 _ hkM)
        refine Go.step (fun _ => X.laload hx (j := (Int32.ofNat (P / 64 ^ k / 64))) (v := (.long (f k (P / 64 ^ k / 64)))) (by rw [eT]; exact Ak65.1) (State.isArrayOf_alike hZ.alike Ak65.2.1) Ak65.2.2 (own_in sk65 hwz (hszb _ hkM)) (by rw [own_clamp (Nat.lt_trans hwz (hszb _ hkM))]; exact gk65 _ hwz) (g := (mkF m 55 #[.val (.ref a), .val (.int (Int32.ofNat P)), .val (.int (Int32.ofNat (P / 64 ^ k))), .val (.ref A), .val (.int (Int32.ofNat M)), .val (.int (Int32.ofNat k)), .val (.ref (lv k)), .val (.int (Int32.ofNat (P / 64 ^ k / 64))), .val (.int (1 : Int32))] [(.int (Int32.ofNat (P / 64 ^ k / 64))), (.ref (lv k)), (.int (Int32.ofNat (P / 64 ^ k / 64))), (.ref (lv k))])) rfl rfl (hb hby d4_55) _) ?_
        show Go p e below T (mkF m 56 #[.val (.ref a), .val (.int (Int32.ofNat P)), .val (.int (Int32.ofNat (P / 64 ^ k))), .val (.ref A), .val (.int (Int32.ofNat M)), .val (.int (Int32.ofNat k)), .val (.ref (lv k)), .val (.int (Int32.ofNat (P / 64 ^ k / 64))), .val (.int (1 : Int32))] [(.long (f k (P / 64 ^ k / 64))), (.int (Int32.ofNat (P / 64 ^ k / 64))), (.ref (lv k))]) _
        refine Go.step (fun _ => XS.lconst X.here hx rfl (hb hby d4_56)) ?_
        show Go p e below T (mkF m 57 #[.val (.ref a), .val (.int (Int32.ofNat P)), .val (.int (Int32.ofNat (P / 64 ^ k))), .val (.ref A), .val (.int (Int32.ofNat M)), .val (.int (Int32.ofNat k)), .val (.ref (lv k)), .val (.int (Int32.ofNat (P / 64 ^ k / 64))), .val (.int (1 : Int32))] [(.long (1 : Int64)), (.long (f k (P / 64 ^ k / 64))), (.int (Int32.ofNat (P / 64 ^ k / 64))), (.ref (lv k))]) _
        refine Go.step (fun _ => XS.iloadN X.here hx rfl (hb hby d4_57) rfl ) ?_
        show Go p e below T (mkF m 58 #[.val (.ref a), .val (.int (Int32.ofNat P)), .val (.int (Int32.ofNat (P / 64 ^ k))), .val (.ref A), .val (.int (Int32.ofNat M)), .val (.int (Int32.ofNat k)), .val (.ref (lv k)), .val (.int (Int32.ofNat (P / 64 ^ k / 64))), .val (.int (1 : Int32))] [(.int (Int32.ofNat (P / 64 ^ k))), (.long (1 : Int64)), (.long (f k (P / 64 ^ k / 64))), (.int (Int32.ofNat (P / 64 ^ k / 64))), (.ref (lv k))]) _
        refine Go.step (fun _ => XS.lshl X.here hx rfl (hb hby d4_58) rfl) ?_
        show Go p e below T (mkF m 59 #[.val (.ref a), .val (.int (Int32.ofNat P)), .val (.int (Int32.ofNat (P / 64 ^ k))), .val (.ref A), .val (.int (Int32.ofNat M)), .val (.int (Int32.ofNat k)), .val (.ref (lv k)), .val (.int (Int32.ofNat (P / 64 ^ k / 64))), .val (.int (1 : Int32))] [(.long ((1 : Int64) <<< ((Int32.ofNat (P / 64 ^ k)) &&& 0x3f).toInt64)), (.long (f k (P / 64 ^ k / 64))), (.int (Int32.ofNat (P / 64 ^ k / 64))), (.ref (lv k))]) _
        refine Go.step (fun _ => XS.lor X.here hx rfl (hb hby d4_59) rfl) ?_
        show Go p e below T (mkF m 60 #[.val (.ref a), .val (.int (Int32.ofNat P)), .val (.int (Int32.ofNat (P / 64 ^ k))), .val (.ref A), .val (.int (Int32.ofNat M)), .val (.int (Int32.ofNat k)), .val (.ref (lv k)), .val (.int (Int32.ofNat (P / 64 ^ k / 64))), .val (.int (1 : Int32))] [(.long ((f k (P / 64 ^ k / 64)) ||| ((1 : Int64) <<< ((Int32.ofNat (P / 64 ^ k)) &&& 0x3f).toInt64))), (.int (Int32.ofNat (P / 64 ^ k / 64))), (.ref (lv k))]) _
        obtain ⟨T66, h66, X66, e66, W66, st66⟩ := stJ X hx hZ eT Ak65 (j := (Int32.ofNat (P / 64 ^ k / 64))) (own_in sk65 hwz (hszb _ hkM)) (g := (mkF m 60 #[.val (.ref a), .val (.int (Int32.ofNat P)), .val (.int (Int32.ofNat (P / 64 ^ k))), .val (.ref A), .val (.int (Int32.ofNat M)), .val (.int (Int32.ofNat k)), .val (.ref (lv k)), .val (.int (Int32.ofNat (P / 64 ^ k / 64))), .val (.int (1 : Int32))] [(.long ((f k (P / 64 ^ k / 64)) ||| ((1 : Int64) <<< ((Int32.ofNat (P / 64 ^ k)) &&& 0x3f).toInt64))), (.int (Int32.ofNat (P / 64 ^ k / 64))), (.ref (lv k))])) rfl rfl (hb hby d4_60)
        refine Go.step st66 ?_
        have N66 := Fr.snoc X66 N (Tr.2.2.2.2.1 k hkM).1
        rw [own_clamp (Nat.lt_trans hwz (hszb _ hkM))] at W66
        have Tr2 := Tr.set hkM hwz W66
        have hZ2 : n0 ≤ h66.size := by rw [W66.size]; exact hZs
        have R1 : RepAt sz (fun k' i => if k' = k ∧ i = P / 64 ^ k / 64 then f k (P / 64 ^ k / 64) ||| (1 : Int64) <<< (Int32.ofNat (P / 64 ^ k) &&& 0x3f).toInt64 else f k' i) (fun q => S q ∨ q = P) k := own_addTurn (Nat.lt_of_le_of_lt (Nat.div_le_self _ _) hP) (hhi k (Nat.le_refl _) hkM)
        have R2 : ∀ j, j < k → RepAt sz (fun k' i => if k' = k ∧ i = P / 64 ^ k / 64 then f k (P / 64 ^ k / 64) ||| (1 : Int64) <<< (Int32.ofNat (P / 64 ^ k) &&& 0x3f).toInt64 else f k' i) (fun q => S q ∨ q = P) j := fun j q => own_other (hlo j q) (Nat.ne_of_lt q)
        have R3 : ∀ j, k + 1 ≤ j → j < M → RepAt sz (fun k' i => if k' = k ∧ i = P / 64 ^ k / 64 then f k (P / 64 ^ k / 64) ||| (1 : Int64) <<< (Int32.ofNat (P / 64 ^ k) &&& 0x3f).toInt64 else f k' i) S j := fun j q q2 => own_other (hhi j (Nat.le_of_succ_le q) q2) (Nat.ne_of_gt q)
        show Go p e below T66 (mkF m 61 #[.val (.ref a), .val (.int (Int32.ofNat P)), .val (.int (Int32.ofNat (P / 64 ^ k))), .val (.ref A), .val (.int (Int32.ofNat M)), .val (.int (Int32.ofNat k)), .val (.ref (lv k)), .val (.int (Int32.ofNat (P / 64 ^ k / 64))), .val (.int (1 : Int32))] []) _
        refine Go.step (fun _ => XS.iload X66.here hx rfl (hb hby d4_61) rfl ) ?_
        show Go p e below T66 (mkF m 63 #[.val (.ref a), .val (.int (Int32.ofNat P)), .val (.int (Int32.ofNat (P / 64 ^ k))), .val (.ref A), .val (.int (Int32.ofNat M)), .val (.int (Int32.ofNat k)), .val (.ref (lv k)), .val (.int (Int32.ofNat (P / 64 ^ k / 64))), .val (.int (1 : Int32))] [(.int (1 : Int32))]) _
        refine Go.step (fun _ => XS.ifYes X66.here hx rfl (pc0 := 63) (pc' := 67) rfl (hb hby d4_63) rfl ((if0 _ _).trans (feq (by decide)).2) (by decide) (by decide)) ?_
        show Go p e below T66 (mkF m 67 #[.val (.ref a), .val (.int (Int32.ofNat P)), .val (.int (Int32.ofNat (P / 64 ^ k))), .val (.ref A), .val (.int (Int32.ofNat M)), .val (.int (Int32.ofNat k)), .val (.ref (lv k)), .val (.int (Int32.ofNat (P / 64 ^ k / 64))), .val (.int (1 : Int32))] []) _
        refine Go.step (fun _ => XS.iload X66.here hx rfl (hb hby d4_67) rfl ) ?_
        show Go p e below T66 (mkF m 69 #[.val (.ref a), .val (.int (Int32.ofNat P)), .val (.int (Int32.ofNat (P / 64 ^ k))), .val (.ref A), .val (.int (Int32.ofNat M)), .val (.int (Int32.ofNat k)), .val (.ref (lv k)), .val (.int (Int32.ofNat (P / 64 ^ k / 64))), .val (.int (1 : Int32))] [(.int (Int32.ofNat (P / 64 ^ k / 64)))]) _
        refine Go.step (fun _ => XS.istoreN X66.here hx rfl (hb hby d4_69) rfl (l' := #[.val (.ref a), .val (.int (Int32.ofNat P)), .val (.int (Int32.ofNat (P / 64 ^ k / 64))), .val (.ref A), .val (.int (Int32.ofNat M)), .val (.int (Int32.ofNat k)), .val (.ref (lv k)), .val (.int (Int32.ofNat (P / 64 ^ k / 64))), .val (.int (1 : Int32))]) rfl) ?_
        show Go p e below T66 (mkF m 70 #[.val (.ref a), .val (.int (Int32.ofNat P)), .val (.int (Int32.ofNat (P / 64 ^ k / 64))), .val (.ref A), .val (.int (Int32.ofNat M)), .val (.int (Int32.ofNat k)), .val (.ref (lv k)), .val (.int (Int32.ofNat (P / 64 ^ k / 64))), .val (.int (1 : Int32))] []) _
        refine Go.step (fun _ => XS.iinc X66.here hx rfl (hb hby d4_70) rfl (l' := #[.val (.ref a), .val (.int (Int32.ofNat P)), .val (.int (Int32.ofNat (P / 64 ^ k / 64))), .val (.ref A), .val (.int (Int32.ofNat M)), .val (.int ((Int32.ofNat k) + (1 : Int32))), .val (.ref (lv k)), .val (.int (Int32.ofNat (P / 64 ^ k / 64))), .val (.int (1 : Int32))]) rfl) ?_
        show Go p e below T66 (mkF m 73 #[.val (.ref a), .val (.int (Int32.ofNat P)), .val (.int (Int32.ofNat (P / 64 ^ k / 64))), .val (.ref A), .val (.int (Int32.ofNat M)), .val (.int ((Int32.ofNat k) + (1 : Int32))), .val (.ref (lv k)), .val (.int (Int32.ofNat (P / 64 ^ k / 64))), .val (.int (1 : Int32))] []) _
        refine Go.step (fun _ => XS.goto X66.here hx rfl (pc0 := 73) (pc' := 14) rfl (hb hby d4_73) (by decide) (by decide)) ?_
        show Go p e below T66 (mkF m 14 #[.val (.ref a), .val (.int (Int32.ofNat P)), .val (.int (Int32.ofNat (P / 64 ^ k / 64))), .val (.ref A), .val (.int (Int32.ofNat M)), .val (.int ((Int32.ofNat k) + (1 : Int32))), .val (.ref (lv k)), .val (.int (Int32.ofNat (P / 64 ^ k / 64))), .val (.int (1 : Int32))] []) _
        rw [show Int32.ofNat k + (1 : Int32) = Int32.ofNat (k + 1) from own_add k 1, show P / 64 ^ k / 64 = P / 64 ^ (k + 1) from (own_up P k).symm]
        exact ih (k + 1) (by omega) _ _ _ _ (One.val rfl) (One.val rfl) (One.val rfl) (fun j q => (Nat.lt_or_eq_of_le (Nat.le_of_lt_succ q)).elim (R2 j) (fun e => e ▸ R1)) R3 _ _ N66 _ X66 e66 hZ2 Tr2
      · skip
        refine Go.step (fun _ => XS.ifYes X.here hx rfl (pc0 := 40) (pc' := 47) rfl (hb hby d4_40) rfl ((if0 _ _).trans (feq hc40).2) (by decide) (by decide)) ?_
        show Go p e below T (mkF m 47 #[.val (.ref a), .val (.int (Int32.ofNat P)), .val (.int (Int32.ofNat (P / 64 ^ k))), .val (.ref A), .val (.int (Int32.ofNat M)), .val (.int (Int32.ofNat k)), .val (.ref (lv k)), .val (.int (Int32.ofNat (P / 64 ^ k / 64))), s8] []) _
        refine Go.step (fun _ => XS.iconst X.here hx rfl (hb hby d4_47)) ?_
        show Go p e below T (mkF m 48 #[.val (.ref a), .val (.int (Int32.ofNat P)), .val (.int (Int32.ofNat (P / 64 ^ k))), .val (.ref A), .val (.int (Int32.ofNat M)), .val (.int (Int32.ofNat k)), .val (.ref (lv k)), .val (.int (Int32.ofNat (P / 64 ^ k / 64))), s8] [(.int (0 : Int32))]) _
        refine Go.step (fun _ => XS.istore X.here hx rfl (hb hby d4_48) rfl (l' := #[.val (.ref a), .val (.int (Int32.ofNat P)), .val (.int (Int32.ofNat (P / 64 ^ k))), .val (.ref A), .val (.int (Int32.ofNat M)), .val (.int (Int32.ofNat k)), .val (.ref (lv k)), .val (.int (Int32.ofNat (P / 64 ^ k / 64))), .val (.int (0 : Int32))]) (XS.store1 rfl o8 rfl)) ?_
        show Go p e below T (mkF m 50 #[.val (.ref a), .val (.int (Int32.ofNat P)), .val (.int (Int32.ofNat (P / 64 ^ k))), .val (.ref A), .val (.int (Int32.ofNat M)), .val (.int (Int32.ofNat k)), .val (.ref (lv k)), .val (.int (Int32.ofNat (P / 64 ^ k / 64))), .val (.int (0 : Int32))] []) _
        refine Go.step (fun _ => XS.aload X.here hx rfl (hb hby d4_50) rfl rfl ) ?_
        show Go p e below T (mkF m 52 #[.val (.ref a), .val (.int (Int32.ofNat P)), .val (.int (Int32.ofNat (P / 64 ^ k))), .val (.ref A), .val (.int (Int32.ofNat M)), .val (.int (Int32.ofNat k)), .val (.ref (lv k)), .val (.int (Int32.ofNat (P / 64 ^ k / 64))), .val (.int (0 : Int32))] [(.ref (lv k))]) _
        refine Go.step (fun _ => XS.iload X.here hx rfl (hb hby d4_52) rfl ) ?_
        show Go p e below T (mkF m 54 #[.val (.ref a), .val (.int (Int32.ofNat P)), .val (.int (Int32.ofNat (P / 64 ^ k))), .val (.ref A), .val (.int (Int32.ofNat M)), .val (.int (Int32.ofNat k)), .val (.ref (lv k)), .val (.int (Int32.ofNat (P / 64 ^ k / 64))), .val (.int (0 : Int32))] [(.int (Int32.ofNat (P / 64 ^ k / 64))), (.ref (lv k))]) _
        refine Go.step (fun _ => XT.dup2 X.here hx rfl (hb hby d4_54) rfl rfl rfl) ?_
        show Go p e below T (mkF m 55 #[.val (.ref a), .val (.int (Int32.ofNat P)), .val (.int (Int32.ofNat (P / 64 ^ k))), .val (.ref A), .val (.int (Int32.ofNat M)), .val (.int (Int32.ofNat k)), .val (.ref (lv k)), .val (.int (Int32.ofNat (P / 64 ^ k / 64))), .val (.int (0 : Int32))] [(.int (Int32.ofNat (P / 64 ^ k / 64))), (.ref (lv k)), (.int (Int32.ofNat (P / 64 ^ k / 64))), (.ref (lv k))]) _
        obtain ⟨clk67, Ak67, sk67, gk67⟩ := id (Tr.2.2.2.1 _ hkM)
        refine Go.step (fun _ => X.laload hx (j := (Int32.ofNat (P / 64 ^ k / 64))) (v := (.long (f k (P / 64 ^ k / 64)))) (by rw [eT]; exact Ak67.1) (State.isArrayOf_alike hZ.alike Ak67.2.1) Ak67.2.2 (own_in sk67 hwz (hszb _ hkM)) (by rw [own_clamp (Nat.lt_trans hwz (hszb _ hkM))]; exact gk67 _ hwz) (g := (mkF m 55 #[.val (.ref a), .val (.int (Int32.ofNat P)), .val (.int (Int32.ofNat (P / 64 ^ k))), .val (.ref A), .val (.int (Int32.ofNat M)), .val (.int (Int32.ofNat k)), .val (.ref (lv k)), .val (.int (Int32.ofNat (P / 64 ^ k / 64))), .val (.int (0 : Int32))] [(.int (Int32.ofNat (P / 64 ^ k / 64))), (.ref (lv k)), (.int (Int32.ofNat (P / 64 ^ k / 64))), (.ref (lv k))])) rfl rfl (hb hby d4_55) _) ?_
        show Go p e below T (mkF m 56 #[.val (.ref a), .val (.int (Int32.ofNat P)), .val (.int (Int32.ofNat (P / 64 ^ k))), .val (.ref A), .val (.int (Int32.ofNat M)), .val (.int (Int32.ofNat k)), .val (.ref (lv k)), .val (.int (Int32.ofNat (P / 64 ^ k / 64))), .val (.int (0 : Int32))] [(.long (f k (P / 64 ^ k / 64))), (.int (Int32.ofNat (P / 64 ^ k / 64))), (.ref (lv k))]) _
        refine Go.step (fun _ => XS.lconst X.here hx rfl (hb hby d4_56)) ?_
        show Go p e below T (mkF m 57 #[.val (.ref a), .val (.int (Int32.ofNat P)), .val (.int (Int32.ofNat (P / 64 ^ k))), .val (.ref A), .val (.int (Int32.ofNat M)), .val (.int (Int32.ofNat k)), .val (.ref (lv k)), .val (.int (Int32.ofNat (P / 64 ^ k / 64))), .val (.int (0 : Int32))] [(.long (1 : Int64)), (.long (f k (P / 64 ^ k / 64))), (.int (Int32.ofNat (P / 64 ^ k / 64))), (.ref (lv k))]) _
        refine Go.step (fun _ => XS.iloadN X.here hx rfl (hb hby d4_57) rfl ) ?_
        show Go p e below T (mkF m 58 #[.val (.ref a), .val (.int (Int32.ofNat P)), .val (.int (Int32.ofNat (P / 64 ^ k))), .val (.ref A), .val (.int (Int32.ofNat M)), .val (.int (Int32.ofNat k)), .val (.ref (lv k)), .val (.int (Int32.ofNat (P / 64 ^ k / 64))), .val (.int (0 : Int32))] [(.int (Int32.ofNat (P / 64 ^ k))), (.long (1 : Int64)), (.long (f k (P / 64 ^ k / 64))), (.int (Int32.ofNat (P / 64 ^ k / 64))), (.ref (lv k))]) _
        refine Go.step (fun _ => XS.lshl X.here hx rfl (hb hby d4_58) rfl) ?_
        show Go p e below T (mkF m 59 #[.val (.ref a), .val (.int (Int32.ofNat P)), .val (.int (Int32.ofNat (P / 64 ^ k))), .val (.ref A), .val (.int (Int32.ofNat M)), .val (.int (Int32.ofNat k)), .val (.ref (lv k)), .val (.int (Int32.ofNat (P / 64 ^ k / 64))), .val (.int (0 : Int32))] [(.long ((1 : Int64) <<< ((Int32.ofNat (P / 64 ^ k)) &&& 0x3f).toInt64)), (.long (f k (P / 64 ^ k / 64))), (.int (Int32.ofNat (P / 64 ^ k / 64))), (.ref (lv k))]) _
        refine Go.step (fun _ => XS.lor X.here hx rfl (hb hby d4_59) rfl) ?_
        show Go p e below T (mkF m 60 #[.val (.ref a), .val (.int (Int32.ofNat P)), .val (.int (Int32.ofNat (P / 64 ^ k))), .val (.ref A), .val (.int (Int32.ofNat M)), .val (.int (Int32.ofNat k)), .val (.ref (lv k)), .val (.int (Int32.ofNat (P / 64 ^ k / 64))), .val (.int (0 : Int32))] [(.long ((f k (P / 64 ^ k / 64)) ||| ((1 : Int64) <<< ((Int32.ofNat (P / 64 ^ k)) &&& 0x3f).toInt64))), (.int (Int32.ofNat (P / 64 ^ k / 64))), (.ref (lv k))]) _
        obtain ⟨T68, h68, X68, e68, W68, st68⟩ := stJ X hx hZ eT Ak67 (j := (Int32.ofNat (P / 64 ^ k / 64))) (own_in sk67 hwz (hszb _ hkM)) (g := (mkF m 60 #[.val (.ref a), .val (.int (Int32.ofNat P)), .val (.int (Int32.ofNat (P / 64 ^ k))), .val (.ref A), .val (.int (Int32.ofNat M)), .val (.int (Int32.ofNat k)), .val (.ref (lv k)), .val (.int (Int32.ofNat (P / 64 ^ k / 64))), .val (.int (0 : Int32))] [(.long ((f k (P / 64 ^ k / 64)) ||| ((1 : Int64) <<< ((Int32.ofNat (P / 64 ^ k)) &&& 0x3f).toInt64))), (.int (Int32.ofNat (P / 64 ^ k / 64))), (.ref (lv k))])) rfl rfl (hb hby d4_60)
        refine Go.step st68 ?_
        have N68 := Fr.snoc X68 N (Tr.2.2.2.2.1 k hkM).1
        rw [own_clamp (Nat.lt_trans hwz (hszb _ hkM))] at W68
        have Tr2 := Tr.set hkM hwz W68
        have hZ2 : n0 ≤ h68.size := by rw [W68.size]; exact hZs
        have R1 : RepAt sz (fun k' i => if k' = k ∧ i = P / 64 ^ k / 64 then f k (P / 64 ^ k / 64) ||| (1 : Int64) <<< (Int32.ofNat (P / 64 ^ k) &&& 0x3f).toInt64 else f k' i) (fun q => S q ∨ q = P) k := own_addTurn (Nat.lt_of_le_of_lt (Nat.div_le_self _ _) hP) (hhi k (Nat.le_refl _) hkM)
        have R2 : ∀ j, j < k → RepAt sz (fun k' i => if k' = k ∧ i = P / 64 ^ k / 64 then f k (P / 64 ^ k / 64) ||| (1 : Int64) <<< (Int32.ofNat (P / 64 ^ k) &&& 0x3f).toInt64 else f k' i) (fun q => S q ∨ q = P) j := fun j q => own_other (hlo j q) (Nat.ne_of_lt q)
        have R3 : ∀ j, k + 1 ≤ j → j < M → RepAt sz (fun k' i => if k' = k ∧ i = P / 64 ^ k / 64 then f k (P / 64 ^ k / 64) ||| (1 : Int64) <<< (Int32.ofNat (P / 64 ^ k) &&& 0x3f).toInt64 else f k' i) S j := fun j q q2 => own_other (hhi j (Nat.le_of_succ_le q) q2) (Nat.ne_of_gt q)
        show Go p e below T68 (mkF m 61 #[.val (.ref a), .val (.int (Int32.ofNat P)), .val (.int (Int32.ofNat (P / 64 ^ k))), .val (.ref A), .val (.int (Int32.ofNat M)), .val (.int (Int32.ofNat k)), .val (.ref (lv k)), .val (.int (Int32.ofNat (P / 64 ^ k / 64))), .val (.int (0 : Int32))] []) _
        refine Go.step (fun _ => XS.iload X68.here hx rfl (hb hby d4_61) rfl ) ?_
        show Go p e below T68 (mkF m 63 #[.val (.ref a), .val (.int (Int32.ofNat P)), .val (.int (Int32.ofNat (P / 64 ^ k))), .val (.ref A), .val (.int (Int32.ofNat M)), .val (.int (Int32.ofNat k)), .val (.ref (lv k)), .val (.int (Int32.ofNat (P / 64 ^ k / 64))), .val (.int (0 : Int32))] [(.int (0 : Int32))]) _
        refine Go.step (fun _ => XS.ifNo X68.here hx rfl (hb hby d4_63) rfl ((if0 _ _).trans (teq (by decide)).2)) ?_
        show Go p e below T68 (mkF m 66 #[.val (.ref a), .val (.int (Int32.ofNat P)), .val (.int (Int32.ofNat (P / 64 ^ k))), .val (.ref A), .val (.int (Int32.ofNat M)), .val (.int (Int32.ofNat k)), .val (.ref (lv k)), .val (.int (Int32.ofNat (P / 64 ^ k / 64))), .val (.int (0 : Int32))] []) _
        refine Go.ret0 X68 hx hret hlk (hb hby d4_66) ?_ (by decide) (by decide)
        have ex : ∃ q, S q ∧ q / 64 ^ (k + 1) = P / 64 ^ (k + 1) := by
          obtain ⟨q, q1, q2⟩ := (own_word (hhi k (Nat.le_refl _) hkM) hwz).mp (fun z => hc40 ((lw_eq _ _).mpr z))
          exact ⟨q, q1, by rw [q2, own_up]⟩
        rw [e68]
        exact ⟨rfl, N68, hZ2, _, Tr2, fun j q => (Nat.lt_trichotomy j k).elim (R2 j) (fun z => z.elim (fun e => e ▸ R1) (fun g => own_above ex g (R3 j g q)))⟩
  show Go p e below s₁ (mkF m 0 #[.val (.ref a), .val (.int (Int32.ofNat P)), .unset, .unset, .unset, .unset, .unset, .unset, .unset] []) _
  refine Go.step (fun _ => XS.iloadN X0.here hx rfl (hb hby d4_0) rfl ) ?_
  show Go p e below s₁ (mkF m 1 #[.val (.ref a), .val (.int (Int32.ofNat P)), .unset, .unset, .unset, .unset, .unset, .unset, .unset] [(.int (Int32.ofNat P))]) _
  refine Go.step (fun _ => XS.istoreN X0.here hx rfl (hb hby d4_1) rfl (l' := #[.val (.ref a), .val (.int (Int32.ofNat P)), .val (.int (Int32.ofNat P)), .unset, .unset, .unset, .unset, .unset, .unset]) rfl) ?_
  show Go p e below s₁ (mkF m 2 #[.val (.ref a), .val (.int (Int32.ofNat P)), .val (.int (Int32.ofNat P)), .unset, .unset, .unset, .unset, .unset, .unset] []) _
  refine Go.step (fun _ => XS.aloadN X0.here hx rfl (hb hby d4_2) rfl rfl ) ?_
  show Go p e below s₁ (mkF m 3 #[.val (.ref a), .val (.int (Int32.ofNat P)), .val (.int (Int32.ofNat P)), .unset, .unset, .unset, .unset, .unset, .unset] [(.ref a)]) _
  obtain ⟨T69, X69, e69, st69⟩ := getF X0 hx hZ hown (host := "") (Or.inl (hw _ (List.mem_of_getElem? (i := 13) rfl))) Via.refl e0 T0.2.1 (g := (mkF m 3 #[.val (.ref a), .val (.int (Int32.ofNat P)), .val (.int (Int32.ofNat P)), .unset, .unset, .unset, .unset, .unset, .unset] [(.ref a)])) rfl rfl (hb hby d4_3)
  refine Go.step st69 ?_
  show Go p e below T69 (mkF m 6 #[.val (.ref a), .val (.int (Int32.ofNat P)), .val (.int (Int32.ofNat P)), .unset, .unset, .unset, .unset, .unset, .unset] [(.ref A)]) _
  refine Go.step (fun _ => XS.astoreN X69.here hx rfl (hb hby d4_6) rfl rfl (l' := #[.val (.ref a), .val (.int (Int32.ofNat P)), .val (.int (Int32.ofNat P)), .val (.ref A), .unset, .unset, .unset, .unset, .unset]) rfl) ?_
  show Go p e below T69 (mkF m 7 #[.val (.ref a), .val (.int (Int32.ofNat P)), .val (.int (Int32.ofNat P)), .val (.ref A), .unset, .unset, .unset, .unset, .unset] []) _
  refine Go.step (fun _ => XS.aloadN X69.here hx rfl (hb hby d4_7) rfl rfl ) ?_
  show Go p e below T69 (mkF m 8 #[.val (.ref a), .val (.int (Int32.ofNat P)), .val (.int (Int32.ofNat P)), .val (.ref A), .unset, .unset, .unset, .unset, .unset] [(.ref A)]) _
  obtain ⟨clA70, AA70, sA70, gA70⟩ := id Tr.2.2.1
  refine Go.step (fun _ => X69.arraylength hx (by rw [e69]; exact AA70.1) (State.isArrayOf_alike hZ.alike AA70.2.1) (g := (mkF m 8 #[.val (.ref a), .val (.int (Int32.ofNat P)), .val (.int (Int32.ofNat P)), .val (.ref A), .unset, .unset, .unset, .unset, .unset] [(.ref A)])) rfl rfl (hb hby d4_8) _) ?_
  rw [sA70]
  show Go p e below T69 (mkF m 9 #[.val (.ref a), .val (.int (Int32.ofNat P)), .val (.int (Int32.ofNat P)), .val (.ref A), .unset, .unset, .unset, .unset, .unset] [(.int (Int32.ofNat M))]) _
  refine Go.step (fun _ => XS.istore X69.here hx rfl (hb hby d4_9) rfl (l' := #[.val (.ref a), .val (.int (Int32.ofNat P)), .val (.int (Int32.ofNat P)), .val (.ref A), .val (.int (Int32.ofNat M)), .unset, .unset, .unset, .unset]) rfl) ?_
  show Go p e below T69 (mkF m 11 #[.val (.ref a), .val (.int (Int32.ofNat P)), .val (.int (Int32.ofNat P)), .val (.ref A), .val (.int (Int32.ofNat M)), .unset, .unset, .unset, .unset] []) _
  refine Go.step (fun _ => XS.iconst X69.here hx rfl (hb hby d4_11)) ?_
  show Go p e below T69 (mkF m 12 #[.val (.ref a), .val (.int (Int32.ofNat P)), .val (.int (Int32.ofNat P)), .val (.ref A), .val (.int (Int32.ofNat M)), .unset, .unset, .unset, .unset] [(.int (0 : Int32))]) _
  refine Go.step (fun _ => XS.istore X69.here hx rfl (hb hby d4_12) rfl (l' := #[.val (.ref a), .val (.int (Int32.ofNat P)), .val (.int (Int32.ofNat P)), .val (.ref A), .val (.int (Int32.ofNat M)), .val (.int (0 : Int32)), .unset, .unset, .unset]) rfl) ?_
  show Go p e below T69 (mkF m 14 #[.val (.ref a), .val (.int (Int32.ofNat P)), .val (.int (Int32.ofNat P)), .val (.ref A), .val (.int (Int32.ofNat M)), .val (.int (0 : Int32)), .unset, .unset, .unset] []) _
  have q0 : P / 64 ^ 0 = P := by rw [Nat.pow_zero, Nat.div_one]
  have g0 := loop M 0 (by omega) f .unset .unset .unset One.u One.u One.u (fun j q => absurd q (Nat.not_lt_zero _)) (fun j _ q => hR j q) _ _ N0 _ X69 e69 Z0 Tr
  rw [q0] at g0
  exact g0
theorem d5_0 : decode prog_61_method_4_code 0 = .ok (.iload_n 1, 1) := by decide +kernel
theorem d5_1 : decode prog_61_method_4_code 1 = .ok (.iconst 1, 1) := by decide +kernel
theorem d5_2 : decode prog_61_method_4_code 2 = .ok (.isub, 1) := by decide +kernel
theorem d5_3 : decode prog_61_method_4_code 3 = .ok (.istore_n 2, 1) := by decide +kernel
theorem d5_4 : decode prog_61_method_4_code 4 = .ok (.iconst 0, 1) := by decide +kernel
theorem d5_5 : decode prog_61_method_4_code 5 = .ok (.istore_n 3, 1) := by decide +kernel
theorem d5_6 : decode prog_61_method_4_code 6 = .ok (.iload_n 2, 1) := by decide +kernel
theorem d5_7 : decode prog_61_method_4_code 7 = .ok (.ifCond .ge 5, 3) := by decide +kernel
theorem d5_10 : decode prog_61_method_4_code 10 = .ok (.iconst (-1), 1) := by decide +kernel
theorem d5_11 : decode prog_61_method_4_code 11 = .ok (.ireturn, 1) := by decide +kernel
theorem d5_12 : decode prog_61_method_4_code 12 = .ok (.iload_n 2, 1) := by decide +kernel
theorem d5_13 : decode prog_61_method_4_code 13 = .ok (.bipush 6, 2) := by decide +kernel
theorem d5_15 : decode prog_61_method_4_code 15 = .ok (.iushr, 1) := by decide +kernel
theorem d5_16 : decode prog_61_method_4_code 16 = .ok (.istore 4, 2) := by decide +kernel
theorem d5_18 : decode prog_61_method_4_code 18 = .ok (.aload_n 0, 1) := by decide +kernel
theorem d5_19 : decode prog_61_method_4_code 19 = .ok (.getfield 9, 3) := by decide +kernel
theorem d5_22 : decode prog_61_method_4_code 22 = .ok (.iload_n 3, 1) := by decide +kernel
theorem d5_23 : decode prog_61_method_4_code 23 = .ok (.aaload, 1) := by decide +kernel
theorem d5_24 : decode prog_61_method_4_code 24 = .ok (.iload 4, 2) := by decide +kernel
theorem d5_26 : decode prog_61_method_4_code 26 = .ok (.laload, 1) := by decide +kernel
theorem d5_27 : decode prog_61_method_4_code 27 = .ok (.ldc2_w 21, 3) := by decide +kernel
theorem d5_30 : decode prog_61_method_4_code 30 = .ok (.bipush 63, 2) := by decide +kernel
theorem d5_32 : decode prog_61_method_4_code 32 = .ok (.iload_n 2, 1) := by decide +kernel
theorem d5_33 : decode prog_61_method_4_code 33 = .ok (.bipush 63, 2) := by decide +kernel
theorem d5_35 : decode prog_61_method_4_code 35 = .ok (.iand, 1) := by decide +kernel
theorem d5_36 : decode prog_61_method_4_code 36 = .ok (.isub, 1) := by decide +kernel
theorem d5_37 : decode prog_61_method_4_code 37 = .ok (.lushr, 1) := by decide +kernel
theorem d5_38 : decode prog_61_method_4_code 38 = .ok (.land, 1) := by decide +kernel
theorem d5_39 : decode prog_61_method_4_code 39 = .ok (.lstore 5, 2) := by decide +kernel
theorem d5_41 : decode prog_61_method_4_code 41 = .ok (.lload 5, 2) := by decide +kernel
theorem d5_43 : decode prog_61_method_4_code 43 = .ok (.lconst 0, 1) := by decide +kernel
theorem d5_44 : decode prog_61_method_4_code 44 = .ok (.lcmp, 1) := by decide +kernel
theorem d5_45 : decode prog_61_method_4_code 45 = .ok (.ifCond .eq 18, 3) := by decide +kernel
theorem d5_48 : decode prog_61_method_4_code 48 = .ok (.iload 4, 2) := by decide +kernel
theorem d5_50 : decode prog_61_method_4_code 50 = .ok (.bipush 6, 2) := by decide +kernel
theorem d5_52 : decode prog_61_method_4_code 52 = .ok (.ishl, 1) := by decide +kernel
theorem d5_53 : decode prog_61_method_4_code 53 = .ok (.lload 5, 2) := by decide +kernel
theorem d5_55 : decode prog_61_method_4_code 55 = .ok (.invokestatic 23, 3) := by decide +kernel
theorem d5_58 : decode prog_61_method_4_code 58 = .ok (.iadd, 1) := by decide +kernel
theorem d5_59 : decode prog_61_method_4_code 59 = .ok (.istore_n 2, 1) := by decide +kernel
theorem d5_60 : decode prog_61_method_4_code 60 = .ok (.goto 27, 3) := by decide +kernel
theorem d5_63 : decode prog_61_method_4_code 63 = .ok (.iload_n 3, 1) := by decide +kernel
theorem d5_64 : decode prog_61_method_4_code 64 = .ok (.aload_n 0, 1) := by decide +kernel
theorem d5_65 : decode prog_61_method_4_code 65 = .ok (.getfield 9, 3) := by decide +kernel
theorem d5_68 : decode prog_61_method_4_code 68 = .ok (.arraylength, 1) := by decide +kernel
theorem d5_69 : decode prog_61_method_4_code 69 = .ok (.iconst 1, 1) := by decide +kernel
theorem d5_70 : decode prog_61_method_4_code 70 = .ok (.isub, 1) := by decide +kernel
theorem d5_71 : decode prog_61_method_4_code 71 = .ok (.if_icmp .ne 5, 3) := by decide +kernel
theorem d5_74 : decode prog_61_method_4_code 74 = .ok (.iconst (-1), 1) := by decide +kernel
theorem d5_75 : decode prog_61_method_4_code 75 = .ok (.ireturn, 1) := by decide +kernel
theorem d5_76 : decode prog_61_method_4_code 76 = .ok (.iload 4, 2) := by decide +kernel
theorem d5_78 : decode prog_61_method_4_code 78 = .ok (.iconst 1, 1) := by decide +kernel
theorem d5_79 : decode prog_61_method_4_code 79 = .ok (.isub, 1) := by decide +kernel
theorem d5_80 : decode prog_61_method_4_code 80 = .ok (.istore_n 2, 1) := by decide +kernel
theorem d5_81 : decode prog_61_method_4_code 81 = .ok (.iinc 3 1, 3) := by decide +kernel
theorem d5_84 : decode prog_61_method_4_code 84 = .ok (.goto (-78), 3) := by decide +kernel
theorem d5_87 : decode prog_61_method_4_code 87 = .ok (.iinc 3 (-1), 3) := by decide +kernel
theorem d5_90 : decode prog_61_method_4_code 90 = .ok (.iload_n 3, 1) := by decide +kernel
theorem d5_91 : decode prog_61_method_4_code 91 = .ok (.ifCond .lt 26, 3) := by decide +kernel
theorem d5_94 : decode prog_61_method_4_code 94 = .ok (.iload_n 2, 1) := by decide +kernel
theorem d5_95 : decode prog_61_method_4_code 95 = .ok (.bipush 6, 2) := by decide +kernel
theorem d5_97 : decode prog_61_method_4_code 97 = .ok (.ishl, 1) := by decide +kernel
theorem d5_98 : decode prog_61_method_4_code 98 = .ok (.aload_n 0, 1) := by decide +kernel
theorem d5_99 : decode prog_61_method_4_code 99 = .ok (.getfield 9, 3) := by decide +kernel
theorem d5_102 : decode prog_61_method_4_code 102 = .ok (.iload_n 3, 1) := by decide +kernel
theorem d5_103 : decode prog_61_method_4_code 103 = .ok (.aaload, 1) := by decide +kernel
theorem d5_104 : decode prog_61_method_4_code 104 = .ok (.iload_n 2, 1) := by decide +kernel
theorem d5_105 : decode prog_61_method_4_code 105 = .ok (.laload, 1) := by decide +kernel
theorem d5_106 : decode prog_61_method_4_code 106 = .ok (.invokestatic 23, 3) := by decide +kernel
theorem d5_109 : decode prog_61_method_4_code 109 = .ok (.iadd, 1) := by decide +kernel
theorem d5_110 : decode prog_61_method_4_code 110 = .ok (.istore_n 2, 1) := by decide +kernel
theorem d5_111 : decode prog_61_method_4_code 111 = .ok (.iinc 3 (-1), 3) := by decide +kernel
theorem d5_114 : decode prog_61_method_4_code 114 = .ok (.goto (-24), 3) := by decide +kernel
theorem d5_117 : decode prog_61_method_4_code 117 = .ok (.iload_n 2, 1) := by decide +kernel
theorem d5_118 : decode prog_61_method_4_code 118 = .ok (.ireturn, 1) := by decide +kernel
theorem ef_rmLast (m : MethodId) (x0 : Addr) (x1 : Int32) : entryFrame m #[(.ref x0), (.int x1)] 7 = mkF m 0 #[.val (.ref x0), .val (.int x1), .unset, .unset, .unset, .unset, .unset] [] := by first | (simp [entryFrame, mkF, argsToLocals, Value.category]; done) | rfl
def QLast (Z : State) (a A : Addr) (M : Nat) (lv : Nat → Addr) (sz : Nat → Nat) (f : Nat → Nat → Int64) (S : Nat → Prop) (N x : Nat) (r : Int32) (h0 : Heap) (n0 : Nat) (v : Option Value) (h : Heap) (L : List Loc) : Prop := v = some (.int r) ∧ Fr n0 L ∧ h = h0
set_option maxRecDepth 65536 in
set_option maxHeartbeats 40000000 in
theorem rmLast (l : Launch) (Z : State) (a0 : Array Value) (hw : ∀ d ∈ tables_1, d.before a0 Z = true) (ws : List Jvm.Cond) (a A : Addr) (M : Nat) (lv : Nat → Addr) (sz : Nat → Nat) (f : Nat → Nat → Int64) (S : Nat → Prop) (N x : Nat) (r : Int32) (h0 : Heap) (n0 : Nat) (Z0 : n0 ≤ h0.size) (T0 : Tree Z h0 n0 a A M lv sz f) (hR : Rep M sz f S) (hM : M ≤ 8) (hszb : ∀ k, k < M → sz k < 2 ^ 31) (hNb : N < 2 ^ 24) (hN1 : 1 ≤ N) (hM1 : 1 ≤ M) (hx0 : x ≤ N) (hS : ∀ q, S q → q < N) (hsz : ∀ q, q < N → ∀ k, k < M → q / 64 ^ k / 64 < sz k) (htop : ∀ k, k + 0 + 1 = M → (∀ P, P / 64 < sz k → P / 64 = 0)) (hr : ∀ t, Best S x t → t = r) :
    MetFree l (⟨"com/example/maxhue/maxhue/PointSet", "lastBelow", "(I)I"⟩ : MethodName) (head1 (Jvm.Cond.code (⟨"com/example/maxhue/maxhue/PointSet", "lastBelow", "(I)I"⟩ : MethodName) prog_61_method_4_code 7 (some .int) :: ws) ({ frames := 3, cells := 0, slots := 0, locals := 60 } : Room)) (fun as' U => as' = #[(.ref a), (.int (Int32.ofNat x))] ∧ Z.Warmed39 U.vm ∧ U.heap = h0) (fun _ _ _ _ _ => True) (fun _ U o U' => ∃ v L, o = .returned v ∧ QLast Z a A M lv sz f S N x r h0 n0 v U'.heap L ∧ FrameEnd U o U' L ({ frames := 3, cells := 0, slots := 0, locals := 60 } : Room).cells ({ frames := 3, cells := 0, slots := 0, locals := 60 } : Room).slots) := by
  refine MetFree.of_bodySF (plainFor_of_name pn_2) hisR ?_
  intro p e s m args below meth c s₁ Bd hml0 hP hK
  obtain ⟨rfl, hZ, hh⟩ := hP
  have hx := Bd.exec
  have hby := Bd.bytes
  have hml : c.maxLocals = 7 := hml0
  have hown : s.vm.findClass "com/example/maxhue/maxhue/PointSet" = some m.cls := findClass_of_methodNamed Bd.named
  have hnm := (name_of_methodNamed Bd.named Bd.method).1
  have hlk : meth.locks = false := Bd.notSynchronized
  have hret := Bd.returns
  have X0 : Stand p l e ({ frames := 3, cells := 0, slots := 0, locals := 60 } : Room) s m #[(.ref a), (.int (Int32.ofNat x))] below meth c s₁ [] 0 0 := Stand.of_body Bd
  have e0 : s₁.heap = h0 := by rw [← hh, Bd.state]; rfl
  have N0 := Fr.nil n0
  show Go p e below s₁ (entryFrame m #[(.ref a), (.int (Int32.ofNat x))] 7) (Fin s (QLast Z a A M lv sz f S N x r h0 n0) ({ frames := 3, cells := 0, slots := 0, locals := 60 } : Room).cells ({ frames := 3, cells := 0, slots := 0, locals := 60 } : Room).slots)
  rw [ef_rmLast]
  have Tr := T0
  have down : ∀ (K t : Nat) (hK : K < M) (s4 s5 s6 : Slot) (hA : ∃ q, S q ∧ q / 64 ^ K = t) (hB : ∀ q, S q → q < x → q / 64 ^ K ≤ t) (hC : ∀ q, S q → q / 64 ^ K = t → q < x) (locs : List Loc) (NL : Fr n0 locs) (T : State) (X : Stand p l e ({ frames := 3, cells := 0, slots := 0, locals := 60 } : Room) s m #[(.ref a), (.int (Int32.ofNat x))] below meth c T locs 0 0) (eT : T.heap = h0), Go p e below T (mkF m 90 #[.val (.ref a), .val (.int (Int32.ofNat x)), .val (.int (Int32.ofNat t)), .val (.int (Int32.ofNat K - 1)), s4, s5, s6] []) (Fin s (QLast Z a A M lv sz f S N x r h0 n0) ({ frames := 3, cells := 0, slots := 0, locals := 60 } : Room).cells ({ frames := 3, cells := 0, slots := 0, locals := 60 } : Room).slots) := by
    intro K
    induction K with
    | zero =>
      intro t hK s4 s5 s6 hA hB hC locs NL T X eT
      show Go p e below T (mkF m 90 #[.val (.ref a), .val (.int (Int32.ofNat x)), .val (.int (Int32.ofNat t)), .val (.int (Int32.ofNat 0 - 1)), s4, s5, s6] []) _
      refine Go.step (fun _ => XS.iloadN X.here hx rfl (hb hby d5_90) rfl ) ?_
      show Go p e below T (mkF m 91 #[.val (.ref a), .val (.int (Int32.ofNat x)), .val (.int (Int32.ofNat t)), .val (.int (Int32.ofNat 0 - 1)), s4, s5, s6] [(.int (Int32.ofNat 0 - 1))]) _
      refine Go.step (fun _ => XS.ifYes X.here hx rfl (pc0 := 91) (pc' := 117) rfl (hb hby d5_91) rfl ((if0 _ _).trans (tlt own_m1).1) (by decide) (by decide)) ?_
      show Go p e below T (mkF m 117 #[.val (.ref a), .val (.int (Int32.ofNat x)), .val (.int (Int32.ofNat t)), .val (.int (Int32.ofNat 0 - 1)), s4, s5, s6] []) _
      refine Go.step (fun _ => XS.iloadN X.here hx rfl (hb hby d5_117) rfl ) ?_
      show Go p e below T (mkF m 118 #[.val (.ref a), .val (.int (Int32.ofNat x)), .val (.int (Int32.ofNat t)), .val (.int (Int32.ofNat 0 - 1)), s4, s5, s6] [(.int (Int32.ofNat t))]) _
      refine Go.retI X hx hret hlk (hb hby d5_118) ?_ (by decide) (by decide)
      refine ⟨?_, NL, eT⟩
      obtain ⟨q, q1, q2⟩ := hA
      rw [Nat.pow_zero, Nat.div_one] at q2
      subst q2
      rw [← hr _ (Or.inr ⟨q, q1, hC q q1 (by rw [Nat.pow_zero, Nat.div_one]), rfl, fun z z1 z2 => by simpa using hB z z1 z2⟩)]
    | succ K ih =>
      intro t hK s4 s5 s6 hA hB hC locs NL T X eT
      have hkM : K < M := by omega
      obtain ⟨q0, qa, qb⟩ := id hA
      have hwz : t < sz K := by rw [← qb, own_up]; exact hsz q0 (hS q0 qa) K hkM
      have htb : t < 2 ^ 24 := by
        rw [← qb, own_up]
        have := hNb; have := hS q0 qa; have := Nat.div_le_self q0 (64 ^ K); omega
      show Go p e below T (mkF m 90 #[.val (.ref a), .val (.int (Int32.ofNat x)), .val (.int (Int32.ofNat t)), .val (.int (Int32.ofNat (K + 1) - 1)), s4, s5, s6] []) _
      rw [show Int32.ofNat (K + 1) - (1 : Int32) = Int32.ofNat K from own_sub K 1]
      show Go p e below T (mkF m 90 #[.val (.ref a), .val (.int (Int32.ofNat x)), .val (.int (Int32.ofNat t)), .val (.int (Int32.ofNat K)), s4, s5, s6] []) _
      refine Go.step (fun _ => XS.iloadN X.here hx rfl (hb hby d5_90) rfl ) ?_
      show Go p e below T (mkF m 91 #[.val (.ref a), .val (.int (Int32.ofNat x)), .val (.int (Int32.ofNat t)), .val (.int (Int32.ofNat K)), s4, s5, s6] [(.int (Int32.ofNat K))]) _
      refine Go.step (fun _ => XS.ifNo X.here hx rfl (hb hby d5_91) rfl ((if0 _ _).trans (flt (own_nn' (by omega))).1)) ?_
      show Go p e below T (mkF m 94 #[.val (.ref a), .val (.int (Int32.ofNat x)), .val (.int (Int32.ofNat t)), .val (.int (Int32.ofNat K)), s4, s5, s6] []) _
      refine Go.step (fun _ => XS.iloadN X.here hx rfl (hb hby d5_94) rfl ) ?_
      show Go p e below T (mkF m 95 #[.val (.ref a), .val (.int (Int32.ofNat x)), .val (.int (Int32.ofNat t)), .val (.int (Int32.ofNat K)), s4, s5, s6] [(.int (Int32.ofNat t))]) _
      refine Go.step (fun _ => XS.bipush X.here hx rfl (hb hby d5_95)) ?_
      show Go p e below T (mkF m 97 #[.val (.ref a), .val (.int (Int32.ofNat x)), .val (.int (Int32.ofNat t)), .val (.int (Int32.ofNat K)), s4, s5, s6] [(.int (6 : Int32)), (.int (Int32.ofNat t))]) _
      refine Go.step (fun _ => XS.ishl X.here hx rfl (hb hby d5_97) rfl) ?_
      show Go p e below T (mkF m 98 #[.val (.ref a), .val (.int (Int32.ofNat x)), .val (.int (Int32.ofNat t)), .val (.int (Int32.ofNat K)), s4, s5, s6] [(.int ((Int32.ofNat t) <<< ((6 : Int32) &&& 31)))]) _
      rw [own_shl6 htb]
      show Go p e below T (mkF m 98 #[.val (.ref a), .val (.int (Int32.ofNat x)), .val (.int (Int32.ofNat t)), .val (.int (Int32.ofNat K)), s4, s5, s6] [(.int (Int32.ofNat (64 * t)))]) _
      refine Go.step (fun _ => XS.aloadN X.here hx rfl (hb hby d5_98) rfl rfl ) ?_
      show Go p e below T (mkF m 99 #[.val (.ref a), .val (.int (Int32.ofNat x)), .val (.int (Int32.ofNat t)), .val (.int (Int32.ofNat K)), s4, s5, s6] [(.ref a), (.int (Int32.ofNat (64 * t)))]) _
      obtain ⟨T71, X71, e71, st71⟩ := getF X hx hZ hown (host := "") (Or.inl (hw _ (List.mem_of_getElem? (i := 13) rfl))) Via.refl eT T0.2.1 (g := (mkF m 99 #[.val (.ref a), .val (.int (Int32.ofNat x)), .val (.int (Int32.ofNat t)), .val (.int (Int32.ofNat K)), s4, s5, s6] [(.ref a), (.int (Int32.ofNat (64 * t)))])) rfl rfl (hb hby d5_99)
      refine Go.step st71 ?_
      show Go p e below T71 (mkF m 102 #[.val (.ref a), .val (.int (Int32.ofNat x)), .val (.int (Int32.ofNat t)), .val (.int (Int32.ofNat K)), s4, s5, s6] [(.ref A), (.int (Int32.ofNat (64 * t)))]) _
      refine Go.step (fun _ => XS.iloadN X71.here hx rfl (hb hby d5_102) rfl ) ?_
      show Go p e below T71 (mkF m 103 #[.val (.ref a), .val (.int (Int32.ofNat x)), .val (.int (Int32.ofNat t)), .val (.int (Int32.ofNat K)), s4, s5, s6] [(.int (Int32.ofNat K)), (.ref A), (.int (Int32.ofNat (64 * t)))]) _
      obtain ⟨clA72, AA72, sA72, gA72⟩ := id Tr.2.2.1
      refine Go.step (fun _ => X71.aaload hx (j := (Int32.ofNat K)) (v := (.ref (lv K))) (by rw [e71]; exact AA72.1) (State.isArrayOf_alike hZ.alike AA72.2.1) rfl AA72.2.2 (own_in sA72 hkM (by omega)) (by rw [own_clamp (by omega)]; exact gA72 _ hkM) (g := (mkF m 103 #[.val (.ref a), .val (.int (Int32.ofNat x)), .val (.int (Int32.ofNat t)), .val (.int (Int32.ofNat K)), s4, s5, s6] [(.int (Int32.ofNat K)), (.ref A), (.int (Int32.ofNat (64 * t)))])) rfl rfl (hb hby d5_103) _) ?_
      show Go p e below T71 (mkF m 104 #[.val (.ref a), .val (.int (Int32.ofNat x)), .val (.int (Int32.ofNat t)), .val (.int (Int32.ofNat K)), s4, s5, s6] [(.ref (lv K)), (.int (Int32.ofNat (64 * t)))]) _
      refine Go.step (fun _ => XS.iloadN X71.here hx rfl (hb hby d5_104) rfl ) ?_
      show Go p e below T71 (mkF m 105 #[.val (.ref a), .val (.int (Int32.ofNat x)), .val (.int (Int32.ofNat t)), .val (.int (Int32.ofNat K)), s4, s5, s6] [(.int (Int32.ofNat t)), (.ref (lv K)), (.int (Int32.ofNat (64 * t)))]) _
      obtain ⟨clk73, Ak73, sk73, gk73⟩ := id (Tr.2.2.2.1 _ hkM)
      refine Go.step (fun _ => X71.laload hx (j := (Int32.ofNat t)) (v := (.long (f K (t)))) (by rw [e71]; exact Ak73.1) (State.isArrayOf_alike hZ.alike Ak73.2.1) Ak73.2.2 (own_in sk73 hwz (hszb _ hkM)) (by rw [own_clamp (Nat.lt_trans hwz (hszb _ hkM))]; exact gk73 _ hwz) (g := (mkF m 105 #[.val (.ref a), .val (.int (Int32.ofNat x)), .val (.int (Int32.ofNat t)), .val (.int (Int32.ofNat K)), s4, s5, s6] [(.int (Int32.ofNat t)), (.ref (lv K)), (.int (Int32.ofNat (64 * t)))])) rfl rfl (hb hby d5_105) _) ?_
      show Go p e below T71 (mkF m 106 #[.val (.ref a), .val (.int (Int32.ofNat x)), .val (.int (Int32.ofNat t)), .val (.int (Int32.ofNat K)), s4, s5, s6] [(.long (f K (t))), (.int (Int32.ofNat (64 * t)))]) _
      obtain ⟨_, _, ⟨T74, L74, k74, n74⟩, -, X74, ⟨Lc74, hQ74, l74, y74, z74⟩, st74⟩ := Jvm.LawKit.callS X71 hx (y := (⟨"com/example/maxhue/maxhue/PointSet", "lastBit", "(J)I"⟩ : MethodName)) hown (mvT hZ (hw _ (List.mem_of_getElem? (i := 36) rfl))) (mvT hZ (hw _ (List.mem_of_getElem? (i := 37) rfl))) (mvT hZ (hw _ (List.mem_of_getElem? (i := 4) rfl))) (mvT hZ (hw _ (List.mem_of_getElem? (i := 38) rfl))) (by decide) (backOf (W := 1) (rmLB l Z a0 hw [] (f K (t)) h0 n0 Z0) hZ (hw _ (List.mem_of_getElem? (i := 38) rfl)) (hw _ (List.mem_of_getElem? (i := 4) rfl)) (by decide) (by decide)) (g := (mkF m 106 #[.val (.ref a), .val (.int (Int32.ofNat x)), .val (.int (Int32.ofNat t)), .val (.int (Int32.ofNat K)), s4, s5, s6] [(.long (f K (t))), (.int (Int32.ofNat (64 * t)))])) rfl (by rw [hml]; rfl) (argsL := [(.long (f K (t)))]) (rest := [(.int (Int32.ofNat (64 * t)))]) (lenOf pd_1 rfl) rfl (by show 2 * 0 + _ ≤ _; exact Nat.le_of_eq rfl) (hb hby d5_106) (fun _ _ => ⟨rfl, e71, (by decide : 0 + 0 ≤ _), (by decide : 0 + 0 ≤ _)⟩)
      dsimp only [Pt.U, Pt.locs, Pt.cells, Pt.slots] at X74 l74 y74 z74 st74 hQ74
      subst l74 y74 z74
      obtain ⟨rfl, Nq74, eh74⟩ := hQ74
      have N74 := Fr.app NL Nq74
      refine Go.step st74 ?_
      show Go p e below T74 (mkF m 109 #[.val (.ref a), .val (.int (Int32.ofNat x)), .val (.int (Int32.ofNat t)), .val (.int (Int32.ofNat K)), s4, s5, s6] [(.int ((63 : Int32) - nlz64 ((f K (t))))), (.int (Int32.ofNat (64 * t)))]) _
      have hnz : f K t ≠ 0 := (own_word (hR K hkM) hwz).mpr ⟨q0, qa, qb⟩
      obtain ⟨b, hb1, hb2⟩ := own_top (f K t) hnz
      obtain ⟨d1, d2⟩ := own_down (hR K hkM) hwz hb2
      rw [hb1]
      show Go p e below T74 (mkF m 109 #[.val (.ref a), .val (.int (Int32.ofNat x)), .val (.int (Int32.ofNat t)), .val (.int (Int32.ofNat K)), s4, s5, s6] [(.int (Int32.ofNat b)), (.int (Int32.ofNat (64 * t)))]) _
      refine Go.step (fun _ => XS.iadd X74.here hx rfl (hb hby d5_109) rfl) ?_
      show Go p e below T74 (mkF m 110 #[.val (.ref a), .val (.int (Int32.ofNat x)), .val (.int (Int32.ofNat t)), .val (.int (Int32.ofNat K)), s4, s5, s6] [(.int ((Int32.ofNat (64 * t)) + (Int32.ofNat b)))]) _
      rw [own_add (64 * t) b]
      show Go p e below T74 (mkF m 110 #[.val (.ref a), .val (.int (Int32.ofNat x)), .val (.int (Int32.ofNat t)), .val (.int (Int32.ofNat K)), s4, s5, s6] [(.int (Int32.ofNat (64 * t + b)))]) _
      refine Go.step (fun _ => XS.istoreN X74.here hx rfl (hb hby d5_110) rfl (l' := #[.val (.ref a), .val (.int (Int32.ofNat x)), .val (.int (Int32.ofNat (64 * t + b))), .val (.int (Int32.ofNat K)), s4, s5, s6]) rfl) ?_
      show Go p e below T74 (mkF m 111 #[.val (.ref a), .val (.int (Int32.ofNat x)), .val (.int (Int32.ofNat (64 * t + b))), .val (.int (Int32.ofNat K)), s4, s5, s6] []) _
      refine Go.step (fun _ => XS.iinc X74.here hx rfl (hb hby d5_111) rfl (l' := #[.val (.ref a), .val (.int (Int32.ofNat x)), .val (.int (Int32.ofNat (64 * t + b))), .val (.int ((Int32.ofNat K) + (-1 : Int32))), s4, s5, s6]) rfl) ?_
      show Go p e below T74 (mkF m 114 #[.val (.ref a), .val (.int (Int32.ofNat x)), .val (.int (Int32.ofNat (64 * t + b))), .val (.int ((Int32.ofNat K) + (-1 : Int32))), s4, s5, s6] []) _
      refine Go.step (fun _ => XS.goto X74.here hx rfl (pc0 := 114) (pc' := 90) rfl (hb hby d5_114) (by decide) (by decide)) ?_
      show Go p e below T74 (mkF m 90 #[.val (.ref a), .val (.int (Int32.ofNat x)), .val (.int (Int32.ofNat (64 * t + b))), .val (.int ((Int32.ofNat K) + (-1 : Int32))), s4, s5, s6] []) _
      rw [own_dec]
      exact ih (64 * t + b) (by omega) _ _ _ d1 (fun q q1 q2 => d2 q q1 (hB q q1 q2)) (fun q q1 q2 => hC q q1 (by have z := hb2.1; rw [own_up]; omega)) _ N74 _ X74 eh74
  have up : ∀ (d k Y : Nat) (hk : k + d + 1 = M) (hY : Y ≤ N) (s4 s5 s6 : Slot) (o4 : One s4) (o56 : Two s5 s6) (iff : ∀ q, S q → (q < x ↔ q / 64 ^ k < Y)) (hY2 : Y ≤ (N - 1) / 64 ^ k + 1) (T : State) (X : Stand p l e ({ frames := 3, cells := 0, slots := 0, locals := 60 } : Room) s m #[(.ref a), (.int (Int32.ofNat x))] below meth c T [] 0 0) (eT : T.heap = h0), Go p e below T (mkF m 6 #[.val (.ref a), .val (.int (Int32.ofNat x)), .val (.int (Int32.ofNat Y - 1)), .val (.int (Int32.ofNat k)), s4, s5, s6] []) (Fin s (QLast Z a A M lv sz f S N x r h0 n0) ({ frames := 3, cells := 0, slots := 0, locals := 60 } : Room).cells ({ frames := 3, cells := 0, slots := 0, locals := 60 } : Room).slots) := by
    intro d
    induction d with
    | zero =>
      intro k Y hk hY s4 s5 s6 o4 o56 iff hY2 T X eT
      have hkM : k < M := by omega
      rcases Nat.eq_zero_or_pos Y with rfl | hYp
      · skip
        show Go p e below T (mkF m 6 #[.val (.ref a), .val (.int (Int32.ofNat x)), .val (.int (Int32.ofNat 0 - 1)), .val (.int (Int32.ofNat k)), s4, s5, s6] []) _
        refine Go.step (fun _ => XS.iloadN X.here hx rfl (hb hby d5_6) rfl ) ?_
        show Go p e below T (mkF m 7 #[.val (.ref a), .val (.int (Int32.ofNat x)), .val (.int (Int32.ofNat 0 - 1)), .val (.int (Int32.ofNat k)), s4, s5, s6] [(.int (Int32.ofNat 0 - 1))]) _
        refine Go.step (fun _ => XS.ifNo X.here hx rfl (hb hby d5_7) rfl ((if0 _ _).trans (tlt own_m1).2.1)) ?_
        show Go p e below T (mkF m 10 #[.val (.ref a), .val (.int (Int32.ofNat x)), .val (.int (Int32.ofNat 0 - 1)), .val (.int (Int32.ofNat k)), s4, s5, s6] []) _
        refine Go.step (fun _ => XS.iconst X.here hx rfl (hb hby d5_10)) ?_
        show Go p e below T (mkF m 11 #[.val (.ref a), .val (.int (Int32.ofNat x)), .val (.int (Int32.ofNat 0 - 1)), .val (.int (Int32.ofNat k)), s4, s5, s6] [(.int (-1 : Int32))]) _
        refine Go.retI X hx hret hlk (hb hby d5_11) ?_ (by decide) (by decide)
        exact ⟨by rw [← hr _ (Or.inl ⟨rfl, fun q q1 q2 => absurd ((iff q q1).mp q2) (Nat.not_lt_zero _)⟩)], N0, eT⟩
      · skip
        obtain ⟨P, rfl⟩ : ∃ P, Y = P + 1 := ⟨Y - 1, by omega⟩
        show Go p e below T (mkF m 6 #[.val (.ref a), .val (.int (Int32.ofNat x)), .val (.int (Int32.ofNat (P + 1) - 1)), .val (.int (Int32.ofNat k)), s4, s5, s6] []) _
        rw [show Int32.ofNat (P + 1) - (1 : Int32) = Int32.ofNat P from own_sub P 1]
        have hPb : P < 2 ^ 24 := by have := hNb; omega
        have hwz : P / 64 < sz k := by
          have z := hsz (N - 1) (by omega) k hkM
          have z2 : P / 64 ≤ (N - 1) / 64 ^ k / 64 := Nat.div_le_div_right (by omega)
          omega
        have hmask : ∀ b, b < 64 → bitAt (((-1 : Int64).toUInt64 >>> (Int32.ofNat (63 - P % 64) &&& 0x3f).toInt64.toUInt64).toInt64) b = decide (b ≤ P % 64) := fun b hb => own_mask (Nat.mod_lt _ (by decide)) b hb
        show Go p e below T (mkF m 6 #[.val (.ref a), .val (.int (Int32.ofNat x)), .val (.int (Int32.ofNat P)), .val (.int (Int32.ofNat k)), s4, s5, s6] []) _
        refine Go.step (fun _ => XS.iloadN X.here hx rfl (hb hby d5_6) rfl ) ?_
        show Go p e below T (mkF m 7 #[.val (.ref a), .val (.int (Int32.ofNat x)), .val (.int (Int32.ofNat P)), .val (.int (Int32.ofNat k)), s4, s5, s6] [(.int (Int32.ofNat P))]) _
        refine Go.step (fun _ => XS.ifYes X.here hx rfl (pc0 := 7) (pc' := 12) rfl (hb hby d5_7) rfl ((if0 _ _).trans (flt (own_nn' (by omega))).2.1) (by decide) (by decide)) ?_
        show Go p e below T (mkF m 12 #[.val (.ref a), .val (.int (Int32.ofNat x)), .val (.int (Int32.ofNat P)), .val (.int (Int32.ofNat k)), s4, s5, s6] []) _
        refine Go.step (fun _ => XS.iloadN X.here hx rfl (hb hby d5_12) rfl ) ?_
        show Go p e below T (mkF m 13 #[.val (.ref a), .val (.int (Int32.ofNat x)), .val (.int (Int32.ofNat P)), .val (.int (Int32.ofNat k)), s4, s5, s6] [(.int (Int32.ofNat P))]) _
        refine Go.step (fun _ => XS.bipush X.here hx rfl (hb hby d5_13)) ?_
        show Go p e below T (mkF m 15 #[.val (.ref a), .val (.int (Int32.ofNat x)), .val (.int (Int32.ofNat P)), .val (.int (Int32.ofNat k)), s4, s5, s6] [(.int (6 : Int32)), (.int (Int32.ofNat P))]) _
        refine Go.step (fun _ => XS.iushr X.here hx rfl (hb hby d5_15) rfl) ?_
        show Go p e below T (mkF m 16 #[.val (.ref a), .val (.int (Int32.ofNat x)), .val (.int (Int32.ofNat P)), .val (.int (Int32.ofNat k)), s4, s5, s6] [(.int (((Int32.ofNat P).toUInt32 >>> ((6 : Int32) &&& 31).toUInt32).toInt32))]) _
        rw [own_shr6 (by omega)]
        show Go p e below T (mkF m 16 #[.val (.ref a), .val (.int (Int32.ofNat x)), .val (.int (Int32.ofNat P)), .val (.int (Int32.ofNat k)), s4, s5, s6] [(.int (Int32.ofNat (P / 64)))]) _
        refine Go.step (fun _ => XS.istore X.here hx rfl (hb hby d5_16) rfl (l' := #[.val (.ref a), .val (.int (Int32.ofNat x)), .val (.int (Int32.ofNat P)), .val (.int (Int32.ofNat k)), .val (.int (Int32.ofNat (P / 64))), s5, s6]) (XS.store1 rfl o4 rfl)) ?_
        show Go p e below T (mkF m 18 #[.val (.ref a), .val (.int (Int32.ofNat x)), .val (.int (Int32.ofNat P)), .val (.int (Int32.ofNat k)), .val (.int (Int32.ofNat (P / 64))), s5, s6] []) _
        refine Go.step (fun _ => XS.aloadN X.here hx rfl (hb hby d5_18) rfl rfl ) ?_
        show Go p e below T (mkF m 19 #[.val (.ref a), .val (.int (Int32.ofNat x)), .val (.int (Int32.ofNat P)), .val (.int (Int32.ofNat k)), .val (.int (Int32.ofNat (P / 64))), s5, s6] [(.ref a)]) _
        obtain ⟨T75, X75, e75, st75⟩ := getF X hx hZ hown (host := "") (Or.inl (hw _ (List.mem_of_getElem? (i := 13) rfl))) Via.refl eT T0.2.1 (g := (mkF m 19 #[.val (.ref a), .val (.int (Int32.ofNat x)), .val (.int (Int32.ofNat P)), .val (.int (Int32.ofNat k)), .val (.int (Int32.ofNat (P / 64))), s5, s6] [(.ref a)])) rfl rfl (hb hby d5_19)
        refine Go.step st75 ?_
        show Go p e below T75 (mkF m 22 #[.val (.ref a), .val (.int (Int32.ofNat x)), .val (.int (Int32.ofNat P)), .val (.int (Int32.ofNat k)), .val (.int (Int32.ofNat (P / 64))), s5, s6] [(.ref A)]) _
        refine Go.step (fun _ => XS.iloadN X75.here hx rfl (hb hby d5_22) rfl ) ?_
        show Go p e below T75 (mkF m 23 #[.val (.ref a), .val (.int (Int32.ofNat x)), .val (.int (Int32.ofNat P)), .val (.int (Int32.ofNat k)), .val (.int (Int32.ofNat (P / 64))), s5, s6] [(.int (Int32.ofNat k)), (.ref A)]) _
        obtain ⟨clA76, AA76, sA76, gA76⟩ := id Tr.2.2.1
        refine Go.step (fun _ => X75.aaload hx (j := (Int32.ofNat k)) (v := (.ref (lv k))) (by rw [e75]; exact AA76.1) (State.isArrayOf_alike hZ.alike AA76.2.1) rfl AA76.2.2 (own_in sA76 hkM (by omega)) (by rw [own_clamp (by omega)]; exact gA76 _ hkM) (g := (mkF m 23 #[.val (.ref a), .val (.int (Int32.ofNat x)), .val (.int (Int32.ofNat P)), .val (.int (Int32.ofNat k)), .val (.int (Int32.ofNat (P / 64))), s5, s6] [(.int (Int32.ofNat k)), (.ref A)])) rfl rfl (hb hby d5_23) _) ?_
        show Go p e below T75 (mkF m 24 #[.val (.ref a), .val (.int (Int32.ofNat x)), .val (.int (Int32.ofNat P)), .val (.int (Int32.ofNat k)), .val (.int (Int32.ofNat (P / 64))), s5, s6] [(.ref (lv k))]) _
        refine Go.step (fun _ => XS.iload X75.here hx rfl (hb hby d5_24) rfl ) ?_
        show Go p e below T75 (mkF m 26 #[.val (.ref a), .val (.int (Int32.ofNat x)), .val (.int (Int32.ofNat P)), .val (.int (Int32.ofNat k)), .val (.int (Int32.ofNat (P / 64))), s5, s6] [(.int (Int32.ofNat (P / 64))), (.ref (lv k))]) _
        obtain ⟨clk77, Ak77, sk77, gk77⟩ := id (Tr.2.2.2.1 _ hkM)
        refine Go.step (fun _ => X75.laload hx (j := (Int32.ofNat (P / 64))) (v := (.long (f k (P / 64)))) (by rw [e75]; exact Ak77.1) (State.isArrayOf_alike hZ.alike Ak77.2.1) Ak77.2.2 (own_in sk77 hwz (hszb _ hkM)) (by rw [own_clamp (Nat.lt_trans hwz (hszb _ hkM))]; exact gk77 _ hwz) (g := (mkF m 26 #[.val (.ref a), .val (.int (Int32.ofNat x)), .val (.int (Int32.ofNat P)), .val (.int (Int32.ofNat k)), .val (.int (Int32.ofNat (P / 64))), s5, s6] [(.int (Int32.ofNat (P / 64))), (.ref (lv k))])) rfl rfl (hb hby d5_26) _) ?_
        show Go p e below T75 (mkF m 27 #[.val (.ref a), .val (.int (Int32.ofNat x)), .val (.int (Int32.ofNat P)), .val (.int (Int32.ofNat k)), .val (.int (Int32.ofNat (P / 64))), s5, s6] [(.long (f k (P / 64)))]) _
        refine Go.step (fun _ => X75.ldc2Long hx hown (mvT hZ (hw _ (List.mem_of_getElem? (i := 35) rfl))) (g := (mkF m 27 #[.val (.ref a), .val (.int (Int32.ofNat x)), .val (.int (Int32.ofNat P)), .val (.int (Int32.ofNat k)), .val (.int (Int32.ofNat (P / 64))), s5, s6] [(.long (f k (P / 64)))])) rfl (hb hby d5_27) _) ?_
        show Go p e below T75 (mkF m 30 #[.val (.ref a), .val (.int (Int32.ofNat x)), .val (.int (Int32.ofNat P)), .val (.int (Int32.ofNat k)), .val (.int (Int32.ofNat (P / 64))), s5, s6] [(.long (-1 : Int64)), (.long (f k (P / 64)))]) _
        refine Go.step (fun _ => XS.bipush X75.here hx rfl (hb hby d5_30)) ?_
        show Go p e below T75 (mkF m 32 #[.val (.ref a), .val (.int (Int32.ofNat x)), .val (.int (Int32.ofNat P)), .val (.int (Int32.ofNat k)), .val (.int (Int32.ofNat (P / 64))), s5, s6] [(.int (63 : Int32)), (.long (-1 : Int64)), (.long (f k (P / 64)))]) _
        refine Go.step (fun _ => XS.iloadN X75.here hx rfl (hb hby d5_32) rfl ) ?_
        show Go p e below T75 (mkF m 33 #[.val (.ref a), .val (.int (Int32.ofNat x)), .val (.int (Int32.ofNat P)), .val (.int (Int32.ofNat k)), .val (.int (Int32.ofNat (P / 64))), s5, s6] [(.int (Int32.ofNat P)), (.int (63 : Int32)), (.long (-1 : Int64)), (.long (f k (P / 64)))]) _
        refine Go.step (fun _ => XS.bipush X75.here hx rfl (hb hby d5_33)) ?_
        show Go p e below T75 (mkF m 35 #[.val (.ref a), .val (.int (Int32.ofNat x)), .val (.int (Int32.ofNat P)), .val (.int (Int32.ofNat k)), .val (.int (Int32.ofNat (P / 64))), s5, s6] [(.int (63 : Int32)), (.int (Int32.ofNat P)), (.int (63 : Int32)), (.long (-1 : Int64)), (.long (f k (P / 64)))]) _
        refine Go.step (fun _ => XS.iand X75.here hx rfl (hb hby d5_35) rfl) ?_
        show Go p e below T75 (mkF m 36 #[.val (.ref a), .val (.int (Int32.ofNat x)), .val (.int (Int32.ofNat P)), .val (.int (Int32.ofNat k)), .val (.int (Int32.ofNat (P / 64))), s5, s6] [(.int ((Int32.ofNat P) &&& (63 : Int32))), (.int (63 : Int32)), (.long (-1 : Int64)), (.long (f k (P / 64)))]) _
        rw [own_and63 (by omega)]
        show Go p e below T75 (mkF m 36 #[.val (.ref a), .val (.int (Int32.ofNat x)), .val (.int (Int32.ofNat P)), .val (.int (Int32.ofNat k)), .val (.int (Int32.ofNat (P / 64))), s5, s6] [(.int (Int32.ofNat (P % 64))), (.int (63 : Int32)), (.long (-1 : Int64)), (.long (f k (P / 64)))]) _
        refine Go.step (fun _ => XS.isub X75.here hx rfl (hb hby d5_36) rfl) ?_
        show Go p e below T75 (mkF m 37 #[.val (.ref a), .val (.int (Int32.ofNat x)), .val (.int (Int32.ofNat P)), .val (.int (Int32.ofNat k)), .val (.int (Int32.ofNat (P / 64))), s5, s6] [(.int ((63 : Int32) - (Int32.ofNat (P % 64)))), (.long (-1 : Int64)), (.long (f k (P / 64)))]) _
        rw [own_63 (Nat.mod_lt _ (by decide))]
        show Go p e below T75 (mkF m 37 #[.val (.ref a), .val (.int (Int32.ofNat x)), .val (.int (Int32.ofNat P)), .val (.int (Int32.ofNat k)), .val (.int (Int32.ofNat (P / 64))), s5, s6] [(.int (Int32.ofNat (63 - P % 64))), (.long (-1 : Int64)), (.long (f k (P / 64)))]) _
        refine Go.step (fun _ => XS.lushr X75.here hx rfl (hb hby d5_37) rfl) ?_
        show Go p e below T75 (mkF m 38 #[.val (.ref a), .val (.int (Int32.ofNat x)), .val (.int (Int32.ofNat P)), .val (.int (Int32.ofNat k)), .val (.int (Int32.ofNat (P / 64))), s5, s6] [(.long (((-1 : Int64).toUInt64 >>> ((Int32.ofNat (63 - P % 64)) &&& 0x3f).toInt64.toUInt64).toInt64)), (.long (f k (P / 64)))]) _
        refine Go.step (fun _ => XS.land X75.here hx rfl (hb hby d5_38) rfl) ?_
        show Go p e below T75 (mkF m 39 #[.val (.ref a), .val (.int (Int32.ofNat x)), .val (.int (Int32.ofNat P)), .val (.int (Int32.ofNat k)), .val (.int (Int32.ofNat (P / 64))), s5, s6] [(.long ((f k (P / 64)) &&& (((-1 : Int64).toUInt64 >>> ((Int32.ofNat (63 - P % 64)) &&& 0x3f).toInt64.toUInt64).toInt64)))]) _
        refine Go.step (fun _ => XS.lstore X75.here hx rfl (hb hby d5_39) rfl (l' := #[.val (.ref a), .val (.int (Int32.ofNat x)), .val (.int (Int32.ofNat P)), .val (.int (Int32.ofNat k)), .val (.int (Int32.ofNat (P / 64))), .val (.long ((f k (P / 64)) &&& (((-1 : Int64).toUInt64 >>> ((Int32.ofNat (63 - P % 64)) &&& 0x3f).toInt64.toUInt64).toInt64))), .second]) (own_os5 o56)) ?_
        show Go p e below T75 (mkF m 41 #[.val (.ref a), .val (.int (Int32.ofNat x)), .val (.int (Int32.ofNat P)), .val (.int (Int32.ofNat k)), .val (.int (Int32.ofNat (P / 64))), .val (.long ((f k (P / 64)) &&& (((-1 : Int64).toUInt64 >>> ((Int32.ofNat (63 - P % 64)) &&& 0x3f).toInt64.toUInt64).toInt64))), .second] []) _
        refine Go.step (fun _ => XS.lload X75.here hx rfl (hb hby d5_41) rfl ) ?_
        show Go p e below T75 (mkF m 43 #[.val (.ref a), .val (.int (Int32.ofNat x)), .val (.int (Int32.ofNat P)), .val (.int (Int32.ofNat k)), .val (.int (Int32.ofNat (P / 64))), .val (.long ((f k (P / 64)) &&& (((-1 : Int64).toUInt64 >>> ((Int32.ofNat (63 - P % 64)) &&& 0x3f).toInt64.toUInt64).toInt64))), .second] [(.long ((f k (P / 64)) &&& (((-1 : Int64).toUInt64 >>> ((Int32.ofNat (63 - P % 64)) &&& 0x3f).toInt64.toUInt64).toInt64)))]) _
        refine Go.step (fun _ => XS.lconst X75.here hx rfl (hb hby d5_43)) ?_
        show Go p e below T75 (mkF m 44 #[.val (.ref a), .val (.int (Int32.ofNat x)), .val (.int (Int32.ofNat P)), .val (.int (Int32.ofNat k)), .val (.int (Int32.ofNat (P / 64))), .val (.long ((f k (P / 64)) &&& (((-1 : Int64).toUInt64 >>> ((Int32.ofNat (63 - P % 64)) &&& 0x3f).toInt64.toUInt64).toInt64))), .second] [(.long (0 : Int64)), (.long ((f k (P / 64)) &&& (((-1 : Int64).toUInt64 >>> ((Int32.ofNat (63 - P % 64)) &&& 0x3f).toInt64.toUInt64).toInt64)))]) _
        refine Go.step (fun _ => XS.lcmp X75.here hx rfl (hb hby d5_44) rfl) ?_
        show Go p e below T75 (mkF m 45 #[.val (.ref a), .val (.int (Int32.ofNat x)), .val (.int (Int32.ofNat P)), .val (.int (Int32.ofNat k)), .val (.int (Int32.ofNat (P / 64))), .val (.long ((f k (P / 64)) &&& (((-1 : Int64).toUInt64 >>> ((Int32.ofNat (63 - P % 64)) &&& 0x3f).toInt64.toUInt64).toInt64))), .second] [(.int (lcmpW ((f k (P / 64)) &&& (((-1 : Int64).toUInt64 >>> ((Int32.ofNat (63 - P % 64)) &&& 0x3f).toInt64.toUInt64).toInt64)) (0 : Int64)))]) _
        by_cases hc45 : (lcmpW ((f k (P / 64)) &&& (((-1 : Int64).toUInt64 >>> ((Int32.ofNat (63 - P % 64)) &&& 0x3f).toInt64.toUInt64).toInt64)) (0 : Int64)) = (0 : Int32)
        · skip
          refine Go.step (fun _ => XS.ifYes X75.here hx rfl (pc0 := 45) (pc' := 63) rfl (hb hby d5_45) rfl ((if0 _ _).trans (teq hc45).1) (by decide) (by decide)) ?_
          show Go p e below T75 (mkF m 63 #[.val (.ref a), .val (.int (Int32.ofNat x)), .val (.int (Int32.ofNat P)), .val (.int (Int32.ofNat k)), .val (.int (Int32.ofNat (P / 64))), .val (.long ((f k (P / 64)) &&& (((-1 : Int64).toUInt64 >>> ((Int32.ofNat (63 - P % 64)) &&& 0x3f).toInt64.toUInt64).toInt64))), .second] []) _
          refine Go.step (fun _ => XS.iloadN X75.here hx rfl (hb hby d5_63) rfl ) ?_
          show Go p e below T75 (mkF m 64 #[.val (.ref a), .val (.int (Int32.ofNat x)), .val (.int (Int32.ofNat P)), .val (.int (Int32.ofNat k)), .val (.int (Int32.ofNat (P / 64))), .val (.long ((f k (P / 64)) &&& (((-1 : Int64).toUInt64 >>> ((Int32.ofNat (63 - P % 64)) &&& 0x3f).toInt64.toUInt64).toInt64))), .second] [(.int (Int32.ofNat k))]) _
          refine Go.step (fun _ => XS.aloadN X75.here hx rfl (hb hby d5_64) rfl rfl ) ?_
          show Go p e below T75 (mkF m 65 #[.val (.ref a), .val (.int (Int32.ofNat x)), .val (.int (Int32.ofNat P)), .val (.int (Int32.ofNat k)), .val (.int (Int32.ofNat (P / 64))), .val (.long ((f k (P / 64)) &&& (((-1 : Int64).toUInt64 >>> ((Int32.ofNat (63 - P % 64)) &&& 0x3f).toInt64.toUInt64).toInt64))), .second] [(.ref a), (.int (Int32.ofNat k))]) _
          obtain ⟨T78, X78, e78, st78⟩ := getF X75 hx hZ hown (host := "") (Or.inl (hw _ (List.mem_of_getElem? (i := 13) rfl))) Via.refl e75 T0.2.1 (g := (mkF m 65 #[.val (.ref a), .val (.int (Int32.ofNat x)), .val (.int (Int32.ofNat P)), .val (.int (Int32.ofNat k)), .val (.int (Int32.ofNat (P / 64))), .val (.long ((f k (P / 64)) &&& (((-1 : Int64).toUInt64 >>> ((Int32.ofNat (63 - P % 64)) &&& 0x3f).toInt64.toUInt64).toInt64))), .second] [(.ref a), (.int (Int32.ofNat k))])) rfl rfl (hb hby d5_65)
          refine Go.step st78 ?_
          show Go p e below T78 (mkF m 68 #[.val (.ref a), .val (.int (Int32.ofNat x)), .val (.int (Int32.ofNat P)), .val (.int (Int32.ofNat k)), .val (.int (Int32.ofNat (P / 64))), .val (.long ((f k (P / 64)) &&& (((-1 : Int64).toUInt64 >>> ((Int32.ofNat (63 - P % 64)) &&& 0x3f).toInt64.toUInt64).toInt64))), .second] [(.ref A), (.int (Int32.ofNat k))]) _
          obtain ⟨clA79, AA79, sA79, gA79⟩ := id Tr.2.2.1
          refine Go.step (fun _ => X78.arraylength hx (by rw [e78]; exact AA79.1) (State.isArrayOf_alike hZ.alike AA79.2.1) (g := (mkF m 68 #[.val (.ref a), .val (.int (Int32.ofNat x)), .val (.int (Int32.ofNat P)), .val (.int (Int32.ofNat k)), .val (.int (Int32.ofNat (P / 64))), .val (.long ((f k (P / 64)) &&& (((-1 : Int64).toUInt64 >>> ((Int32.ofNat (63 - P % 64)) &&& 0x3f).toInt64.toUInt64).toInt64))), .second] [(.ref A), (.int (Int32.ofNat k))])) rfl rfl (hb hby d5_68) _) ?_
          rw [sA79]
          show Go p e below T78 (mkF m 69 #[.val (.ref a), .val (.int (Int32.ofNat x)), .val (.int (Int32.ofNat P)), .val (.int (Int32.ofNat k)), .val (.int (Int32.ofNat (P / 64))), .val (.long ((f k (P / 64)) &&& (((-1 : Int64).toUInt64 >>> ((Int32.ofNat (63 - P % 64)) &&& 0x3f).toInt64.toUInt64).toInt64))), .second] [(.int (Int32.ofNat M)), (.int (Int32.ofNat k))]) _
          refine Go.step (fun _ => XS.iconst X78.here hx rfl (hb hby d5_69)) ?_
          show Go p e below T78 (mkF m 70 #[.val (.ref a), .val (.int (Int32.ofNat x)), .val (.int (Int32.ofNat P)), .val (.int (Int32.ofNat k)), .val (.int (Int32.ofNat (P / 64))), .val (.long ((f k (P / 64)) &&& (((-1 : Int64).toUInt64 >>> ((Int32.ofNat (63 - P % 64)) &&& 0x3f).toInt64.toUInt64).toInt64))), .second] [(.int (1 : Int32)), (.int (Int32.ofNat M)), (.int (Int32.ofNat k))]) _
          refine Go.step (fun _ => XS.isub X78.here hx rfl (hb hby d5_70) rfl) ?_
          show Go p e below T78 (mkF m 71 #[.val (.ref a), .val (.int (Int32.ofNat x)), .val (.int (Int32.ofNat P)), .val (.int (Int32.ofNat k)), .val (.int (Int32.ofNat (P / 64))), .val (.long ((f k (P / 64)) &&& (((-1 : Int64).toUInt64 >>> ((Int32.ofNat (63 - P % 64)) &&& 0x3f).toInt64.toUInt64).toInt64))), .second] [(.int ((Int32.ofNat M) - (1 : Int32))), (.int (Int32.ofNat k))]) _
          rw [show Int32.ofNat M - (1 : Int32) = Int32.ofNat (M - 1) from by rw [show M = (M - 1) + 1 from by omega]; exact own_sub (M - 1) 1]
          show Go p e below T78 (mkF m 71 #[.val (.ref a), .val (.int (Int32.ofNat x)), .val (.int (Int32.ofNat P)), .val (.int (Int32.ofNat k)), .val (.int (Int32.ofNat (P / 64))), .val (.long ((f k (P / 64)) &&& (((-1 : Int64).toUInt64 >>> ((Int32.ofNat (63 - P % 64)) &&& 0x3f).toInt64.toUInt64).toInt64))), .second] [(.int (Int32.ofNat (M - 1))), (.int (Int32.ofNat k))]) _
          refine Go.step (fun _ => XS.icmpNo X78.here hx rfl (hb hby d5_71) rfl (teq (by rw [show k = M - 1 from by omega])).2) ?_
          show Go p e below T78 (mkF m 74 #[.val (.ref a), .val (.int (Int32.ofNat x)), .val (.int (Int32.ofNat P)), .val (.int (Int32.ofNat k)), .val (.int (Int32.ofNat (P / 64))), .val (.long ((f k (P / 64)) &&& (((-1 : Int64).toUInt64 >>> ((Int32.ofNat (63 - P % 64)) &&& 0x3f).toInt64.toUInt64).toInt64))), .second] []) _
          refine Go.step (fun _ => XS.iconst X78.here hx rfl (hb hby d5_74)) ?_
          show Go p e below T78 (mkF m 75 #[.val (.ref a), .val (.int (Int32.ofNat x)), .val (.int (Int32.ofNat P)), .val (.int (Int32.ofNat k)), .val (.int (Int32.ofNat (P / 64))), .val (.long ((f k (P / 64)) &&& (((-1 : Int64).toUInt64 >>> ((Int32.ofNat (63 - P % 64)) &&& 0x3f).toInt64.toUInt64).toInt64))), .second] [(.int (-1 : Int32))]) _
          refine Go.retI X78 hx hret hlk (hb hby d5_75) ?_ (by decide) (by decide)
          exact ⟨by rw [← hr _ (Or.inl ⟨rfl, fun q q1 q2 => by have z := (own_empty (hR k hkM) hwz hmask ((lw_eq _ _).mp hc45) q q1).mp (Nat.le_of_lt_succ ((iff q q1).mp q2)); have y := htop k hk P hwz; rw [y] at z; exact absurd z (Nat.not_lt_zero _)⟩)], N0, e78⟩
        · skip
          refine Go.step (fun _ => XS.ifNo X75.here hx rfl (hb hby d5_45) rfl ((if0 _ _).trans (feq hc45).1)) ?_
          show Go p e below T75 (mkF m 48 #[.val (.ref a), .val (.int (Int32.ofNat x)), .val (.int (Int32.ofNat P)), .val (.int (Int32.ofNat k)), .val (.int (Int32.ofNat (P / 64))), .val (.long ((f k (P / 64)) &&& (((-1 : Int64).toUInt64 >>> ((Int32.ofNat (63 - P % 64)) &&& 0x3f).toInt64.toUInt64).toInt64))), .second] []) _
          refine Go.step (fun _ => XS.iload X75.here hx rfl (hb hby d5_48) rfl ) ?_
          show Go p e below T75 (mkF m 50 #[.val (.ref a), .val (.int (Int32.ofNat x)), .val (.int (Int32.ofNat P)), .val (.int (Int32.ofNat k)), .val (.int (Int32.ofNat (P / 64))), .val (.long ((f k (P / 64)) &&& (((-1 : Int64).toUInt64 >>> ((Int32.ofNat (63 - P % 64)) &&& 0x3f).toInt64.toUInt64).toInt64))), .second] [(.int (Int32.ofNat (P / 64)))]) _
          refine Go.step (fun _ => XS.bipush X75.here hx rfl (hb hby d5_50)) ?_
          show Go p e below T75 (mkF m 52 #[.val (.ref a), .val (.int (Int32.ofNat x)), .val (.int (Int32.ofNat P)), .val (.int (Int32.ofNat k)), .val (.int (Int32.ofNat (P / 64))), .val (.long ((f k (P / 64)) &&& (((-1 : Int64).toUInt64 >>> ((Int32.ofNat (63 - P % 64)) &&& 0x3f).toInt64.toUInt64).toInt64))), .second] [(.int (6 : Int32)), (.int (Int32.ofNat (P / 64)))]) _
          refine Go.step (fun _ => XS.ishl X75.here hx rfl (hb hby d5_52) rfl) ?_
          show Go p e below T75 (mkF m 53 #[.val (.ref a), .val (.int (Int32.ofNat x)), .val (.int (Int32.ofNat P)), .val (.int (Int32.ofNat k)), .val (.int (Int32.ofNat (P / 64))), .val (.long ((f k (P / 64)) &&& (((-1 : Int64).toUInt64 >>> ((Int32.ofNat (63 - P % 64)) &&& 0x3f).toInt64.toUInt64).toInt64))), .second] [(.int ((Int32.ofNat (P / 64)) <<< ((6 : Int32) &&& 31)))]) _
          rw [own_shl6 (by omega)]
          show Go p e below T75 (mkF m 53 #[.val (.ref a), .val (.int (Int32.ofNat x)), .val (.int (Int32.ofNat P)), .val (.int (Int32.ofNat k)), .val (.int (Int32.ofNat (P / 64))), .val (.long ((f k (P / 64)) &&& (((-1 : Int64).toUInt64 >>> ((Int32.ofNat (63 - P % 64)) &&& 0x3f).toInt64.toUInt64).toInt64))), .second] [(.int (Int32.ofNat (64 * (P / 64))))]) _
          refine Go.step (fun _ => XS.lload X75.here hx rfl (hb hby d5_53) rfl ) ?_
          show Go p e below T75 (mkF m 55 #[.val (.ref a), .val (.int (Int32.ofNat x)), .val (.int (Int32.ofNat P)), .val (.int (Int32.ofNat k)), .val (.int (Int32.ofNat (P / 64))), .val (.long ((f k (P / 64)) &&& (((-1 : Int64).toUInt64 >>> ((Int32.ofNat (63 - P % 64)) &&& 0x3f).toInt64.toUInt64).toInt64))), .second] [(.long ((f k (P / 64)) &&& (((-1 : Int64).toUInt64 >>> ((Int32.ofNat (63 - P % 64)) &&& 0x3f).toInt64.toUInt64).toInt64))), (.int (Int32.ofNat (64 * (P / 64))))]) _
          obtain ⟨_, _, ⟨T80, L80, k80, n80⟩, -, X80, ⟨Lc80, hQ80, l80, y80, z80⟩, st80⟩ := Jvm.LawKit.callS X75 hx (y := (⟨"com/example/maxhue/maxhue/PointSet", "lastBit", "(J)I"⟩ : MethodName)) hown (mvT hZ (hw _ (List.mem_of_getElem? (i := 36) rfl))) (mvT hZ (hw _ (List.mem_of_getElem? (i := 37) rfl))) (mvT hZ (hw _ (List.mem_of_getElem? (i := 4) rfl))) (mvT hZ (hw _ (List.mem_of_getElem? (i := 38) rfl))) (by decide) (backOf (W := 1) (rmLB l Z a0 hw [] ((f k (P / 64)) &&& (((-1 : Int64).toUInt64 >>> ((Int32.ofNat (63 - P % 64)) &&& 0x3f).toInt64.toUInt64).toInt64)) h0 n0 Z0) hZ (hw _ (List.mem_of_getElem? (i := 38) rfl)) (hw _ (List.mem_of_getElem? (i := 4) rfl)) (by decide) (by decide)) (g := (mkF m 55 #[.val (.ref a), .val (.int (Int32.ofNat x)), .val (.int (Int32.ofNat P)), .val (.int (Int32.ofNat k)), .val (.int (Int32.ofNat (P / 64))), .val (.long ((f k (P / 64)) &&& (((-1 : Int64).toUInt64 >>> ((Int32.ofNat (63 - P % 64)) &&& 0x3f).toInt64.toUInt64).toInt64))), .second] [(.long ((f k (P / 64)) &&& (((-1 : Int64).toUInt64 >>> ((Int32.ofNat (63 - P % 64)) &&& 0x3f).toInt64.toUInt64).toInt64))), (.int (Int32.ofNat (64 * (P / 64))))])) rfl (by rw [hml]; rfl) (argsL := [(.long ((f k (P / 64)) &&& (((-1 : Int64).toUInt64 >>> ((Int32.ofNat (63 - P % 64)) &&& 0x3f).toInt64.toUInt64).toInt64)))]) (rest := [(.int (Int32.ofNat (64 * (P / 64))))]) (lenOf pd_1 rfl) rfl (by show 2 * 0 + _ ≤ _; exact Nat.le_of_eq rfl) (hb hby d5_55) (fun _ _ => ⟨rfl, e75, (by decide : 0 + 0 ≤ _), (by decide : 0 + 0 ≤ _)⟩)
          dsimp only [Pt.U, Pt.locs, Pt.cells, Pt.slots] at X80 l80 y80 z80 st80 hQ80
          subst l80 y80 z80
          obtain ⟨rfl, Nq80, eh80⟩ := hQ80
          have N80 := Fr.app N0 Nq80
          refine Go.step st80 ?_
          show Go p e below T80 (mkF m 58 #[.val (.ref a), .val (.int (Int32.ofNat x)), .val (.int (Int32.ofNat P)), .val (.int (Int32.ofNat k)), .val (.int (Int32.ofNat (P / 64))), .val (.long ((f k (P / 64)) &&& (((-1 : Int64).toUInt64 >>> ((Int32.ofNat (63 - P % 64)) &&& 0x3f).toInt64.toUInt64).toInt64))), .second] [(.int ((63 : Int32) - nlz64 (((f k (P / 64)) &&& (((-1 : Int64).toUInt64 >>> ((Int32.ofNat (63 - P % 64)) &&& 0x3f).toInt64.toUInt64).toInt64))))), (.int (Int32.ofNat (64 * (P / 64))))]) _
          obtain ⟨b, hb1, hb2⟩ := own_top (f k (P / 64) &&& (((-1 : Int64).toUInt64 >>> (Int32.ofNat (63 - P % 64) &&& 0x3f).toInt64.toUInt64).toInt64)) (fun z => hc45 ((lw_eq _ _).mpr z))
          obtain ⟨d1, d2, d3⟩ := own_found (hR k hkM) hwz hmask hb2
          rw [hb1]
          show Go p e below T80 (mkF m 58 #[.val (.ref a), .val (.int (Int32.ofNat x)), .val (.int (Int32.ofNat P)), .val (.int (Int32.ofNat k)), .val (.int (Int32.ofNat (P / 64))), .val (.long ((f k (P / 64)) &&& (((-1 : Int64).toUInt64 >>> ((Int32.ofNat (63 - P % 64)) &&& 0x3f).toInt64.toUInt64).toInt64))), .second] [(.int (Int32.ofNat b)), (.int (Int32.ofNat (64 * (P / 64))))]) _
          refine Go.step (fun _ => XS.iadd X80.here hx rfl (hb hby d5_58) rfl) ?_
          show Go p e below T80 (mkF m 59 #[.val (.ref a), .val (.int (Int32.ofNat x)), .val (.int (Int32.ofNat P)), .val (.int (Int32.ofNat k)), .val (.int (Int32.ofNat (P / 64))), .val (.long ((f k (P / 64)) &&& (((-1 : Int64).toUInt64 >>> ((Int32.ofNat (63 - P % 64)) &&& 0x3f).toInt64.toUInt64).toInt64))), .second] [(.int ((Int32.ofNat (64 * (P / 64))) + (Int32.ofNat b)))]) _
          rw [own_add (64 * (P / 64)) b]
          show Go p e below T80 (mkF m 59 #[.val (.ref a), .val (.int (Int32.ofNat x)), .val (.int (Int32.ofNat P)), .val (.int (Int32.ofNat k)), .val (.int (Int32.ofNat (P / 64))), .val (.long ((f k (P / 64)) &&& (((-1 : Int64).toUInt64 >>> ((Int32.ofNat (63 - P % 64)) &&& 0x3f).toInt64.toUInt64).toInt64))), .second] [(.int (Int32.ofNat (64 * (P / 64) + b)))]) _
          refine Go.step (fun _ => XS.istoreN X80.here hx rfl (hb hby d5_59) rfl (l' := #[.val (.ref a), .val (.int (Int32.ofNat x)), .val (.int (Int32.ofNat (64 * (P / 64) + b))), .val (.int (Int32.ofNat k)), .val (.int (Int32.ofNat (P / 64))), .val (.long ((f k (P / 64)) &&& (((-1 : Int64).toUInt64 >>> ((Int32.ofNat (63 - P % 64)) &&& 0x3f).toInt64.toUInt64).toInt64))), .second]) rfl) ?_
          show Go p e below T80 (mkF m 60 #[.val (.ref a), .val (.int (Int32.ofNat x)), .val (.int (Int32.ofNat (64 * (P / 64) + b))), .val (.int (Int32.ofNat k)), .val (.int (Int32.ofNat (P / 64))), .val (.long ((f k (P / 64)) &&& (((-1 : Int64).toUInt64 >>> ((Int32.ofNat (63 - P % 64)) &&& 0x3f).toInt64.toUInt64).toInt64))), .second] []) _
          refine Go.step (fun _ => XS.goto X80.here hx rfl (pc0 := 60) (pc' := 87) rfl (hb hby d5_60) (by decide) (by decide)) ?_
          show Go p e below T80 (mkF m 87 #[.val (.ref a), .val (.int (Int32.ofNat x)), .val (.int (Int32.ofNat (64 * (P / 64) + b))), .val (.int (Int32.ofNat k)), .val (.int (Int32.ofNat (P / 64))), .val (.long ((f k (P / 64)) &&& (((-1 : Int64).toUInt64 >>> ((Int32.ofNat (63 - P % 64)) &&& 0x3f).toInt64.toUInt64).toInt64))), .second] []) _
          refine Go.step (fun _ => XS.iinc X80.here hx rfl (hb hby d5_87) rfl (l' := #[.val (.ref a), .val (.int (Int32.ofNat x)), .val (.int (Int32.ofNat (64 * (P / 64) + b))), .val (.int ((Int32.ofNat k) + (-1 : Int32))), .val (.int (Int32.ofNat (P / 64))), .val (.long ((f k (P / 64)) &&& (((-1 : Int64).toUInt64 >>> ((Int32.ofNat (63 - P % 64)) &&& 0x3f).toInt64.toUInt64).toInt64))), .second]) rfl) ?_
          show Go p e below T80 (mkF m 90 #[.val (.ref a), .val (.int (Int32.ofNat x)), .val (.int (Int32.ofNat (64 * (P / 64) + b))), .val (.int ((Int32.ofNat k) + (-1 : Int32))), .val (.int (Int32.ofNat (P / 64))), .val (.long ((f k (P / 64)) &&& (((-1 : Int64).toUInt64 >>> ((Int32.ofNat (63 - P % 64)) &&& 0x3f).toInt64.toUInt64).toInt64))), .second] []) _
          rw [own_dec]
          exact down k (64 * (P / 64) + b) hkM _ _ _ d1 (fun q q1 q2 => d3 q q1 (Nat.le_of_lt_succ ((iff q q1).mp q2))) (fun q q1 q2 => (iff q q1).mpr (by omega)) _ N80 _ X80 eh80
    | succ d ih =>
      intro k Y hk hY s4 s5 s6 o4 o56 iff hY2 T X eT
      have hkM : k < M := by omega
      rcases Nat.eq_zero_or_pos Y with rfl | hYp
      · skip
        show Go p e below T (mkF m 6 #[.val (.ref a), .val (.int (Int32.ofNat x)), .val (.int (Int32.ofNat 0 - 1)), .val (.int (Int32.ofNat k)), s4, s5, s6] []) _
        refine Go.step (fun _ => XS.iloadN X.here hx rfl (hb hby d5_6) rfl ) ?_
        show Go p e below T (mkF m 7 #[.val (.ref a), .val (.int (Int32.ofNat x)), .val (.int (Int32.ofNat 0 - 1)), .val (.int (Int32.ofNat k)), s4, s5, s6] [(.int (Int32.ofNat 0 - 1))]) _
        refine Go.step (fun _ => XS.ifNo X.here hx rfl (hb hby d5_7) rfl ((if0 _ _).trans (tlt own_m1).2.1)) ?_
        show Go p e below T (mkF m 10 #[.val (.ref a), .val (.int (Int32.ofNat x)), .val (.int (Int32.ofNat 0 - 1)), .val (.int (Int32.ofNat k)), s4, s5, s6] []) _
        refine Go.step (fun _ => XS.iconst X.here hx rfl (hb hby d5_10)) ?_
        show Go p e below T (mkF m 11 #[.val (.ref a), .val (.int (Int32.ofNat x)), .val (.int (Int32.ofNat 0 - 1)), .val (.int (Int32.ofNat k)), s4, s5, s6] [(.int (-1 : Int32))]) _
        refine Go.retI X hx hret hlk (hb hby d5_11) ?_ (by decide) (by decide)
        exact ⟨by rw [← hr _ (Or.inl ⟨rfl, fun q q1 q2 => absurd ((iff q q1).mp q2) (Nat.not_lt_zero _)⟩)], N0, eT⟩
      · skip
        obtain ⟨P, rfl⟩ : ∃ P, Y = P + 1 := ⟨Y - 1, by omega⟩
        show Go p e below T (mkF m 6 #[.val (.ref a), .val (.int (Int32.ofNat x)), .val (.int (Int32.ofNat (P + 1) - 1)), .val (.int (Int32.ofNat k)), s4, s5, s6] []) _
        rw [show Int32.ofNat (P + 1) - (1 : Int32) = Int32.ofNat P from own_sub P 1]
        have hPb : P < 2 ^ 24 := by have := hNb; omega
        have hwz : P / 64 < sz k := by
          have z := hsz (N - 1) (by omega) k hkM
          have z2 : P / 64 ≤ (N - 1) / 64 ^ k / 64 := Nat.div_le_div_right (by omega)
          omega
        have hmask : ∀ b, b < 64 → bitAt (((-1 : Int64).toUInt64 >>> (Int32.ofNat (63 - P % 64) &&& 0x3f).toInt64.toUInt64).toInt64) b = decide (b ≤ P % 64) := fun b hb => own_mask (Nat.mod_lt _ (by decide)) b hb
        show Go p e below T (mkF m 6 #[.val (.ref a), .val (.int (Int32.ofNat x)), .val (.int (Int32.ofNat P)), .val (.int (Int32.ofNat k)), s4, s5, s6] []) _
        refine Go.step (fun _ => XS.iloadN X.here hx rfl (hb hby d5_6) rfl ) ?_
        show Go p e below T (mkF m 7 #[.val (.ref a), .val (.int (Int32.ofNat x)), .val (.int (Int32.ofNat P)), .val (.int (Int32.ofNat k)), s4, s5, s6] [(.int (Int32.ofNat P))]) _
        refine Go.step (fun _ => XS.ifYes X.here hx rfl (pc0 := 7) (pc' := 12) rfl (hb hby d5_7) rfl ((if0 _ _).trans (flt (own_nn' (by omega))).2.1) (by decide) (by decide)) ?_
        show Go p e below T (mkF m 12 #[.val (.ref a), .val (.int (Int32.ofNat x)), .val (.int (Int32.ofNat P)), .val (.int (Int32.ofNat k)), s4, s5, s6] []) _
        refine Go.step (fun _ => XS.iloadN X.here hx rfl (hb hby d5_12) rfl ) ?_
        show Go p e below T (mkF m 13 #[.val (.ref a), .val (.int (Int32.ofNat x)), .val (.int (Int32.ofNat P)), .val (.int (Int32.ofNat k)), s4, s5, s6] [(.int (Int32.ofNat P))]) _
        refine Go.step (fun _ => XS.bipush X.here hx rfl (hb hby d5_13)) ?_
        show Go p e below T (mkF m 15 #[.val (.ref a), .val (.int (Int32.ofNat x)), .val (.int (Int32.ofNat P)), .val (.int (Int32.ofNat k)), s4, s5, s6] [(.int (6 : Int32)), (.int (Int32.ofNat P))]) _
        refine Go.step (fun _ => XS.iushr X.here hx rfl (hb hby d5_15) rfl) ?_
        show Go p e below T (mkF m 16 #[.val (.ref a), .val (.int (Int32.ofNat x)), .val (.int (Int32.ofNat P)), .val (.int (Int32.ofNat k)), s4, s5, s6] [(.int (((Int32.ofNat P).toUInt32 >>> ((6 : Int32) &&& 31).toUInt32).toInt32))]) _
        rw [own_shr6 (by omega)]
        show Go p e below T (mkF m 16 #[.val (.ref a), .val (.int (Int32.ofNat x)), .val (.int (Int32.ofNat P)), .val (.int (Int32.ofNat k)), s4, s5, s6] [(.int (Int32.ofNat (P / 64)))]) _
        refine Go.step (fun _ => XS.istore X.here hx rfl (hb hby d5_16) rfl (l' := #[.val (.ref a), .val (.int (Int32.ofNat x)), .val (.int (Int32.ofNat P)), .val (.int (Int32.ofNat k)), .val (.int (Int32.ofNat (P / 64))), s5, s6]) (XS.store1 rfl o4 rfl)) ?_
        show Go p e below T (mkF m 18 #[.val (.ref a), .val (.int (Int32.ofNat x)), .val (.int (Int32.ofNat P)), .val (.int (Int32.ofNat k)), .val (.int (Int32.ofNat (P / 64))), s5, s6] []) _
        refine Go.step (fun _ => XS.aloadN X.here hx rfl (hb hby d5_18) rfl rfl ) ?_
        show Go p e below T (mkF m 19 #[.val (.ref a), .val (.int (Int32.ofNat x)), .val (.int (Int32.ofNat P)), .val (.int (Int32.ofNat k)), .val (.int (Int32.ofNat (P / 64))), s5, s6] [(.ref a)]) _
        obtain ⟨T81, X81, e81, st81⟩ := getF X hx hZ hown (host := "") (Or.inl (hw _ (List.mem_of_getElem? (i := 13) rfl))) Via.refl eT T0.2.1 (g := (mkF m 19 #[.val (.ref a), .val (.int (Int32.ofNat x)), .val (.int (Int32.ofNat P)), .val (.int (Int32.ofNat k)), .val (.int (Int32.ofNat (P / 64))), s5, s6] [(.ref a)])) rfl rfl (hb hby d5_19)
        refine Go.step st81 ?_
        show Go p e below T81 (mkF m 22 #[.val (.ref a), .val (.int (Int32.ofNat x)), .val (.int (Int32.ofNat P)), .val (.int (Int32.ofNat k)), .val (.int (Int32.ofNat (P / 64))), s5, s6] [(.ref A)]) _
        refine Go.step (fun _ => XS.iloadN X81.here hx rfl (hb hby d5_22) rfl ) ?_
        show Go p e below T81 (mkF m 23 #[.val (.ref a), .val (.int (Int32.ofNat x)), .val (.int (Int32.ofNat P)), .val (.int (Int32.ofNat k)), .val (.int (Int32.ofNat (P / 64))), s5, s6] [(.int (Int32.ofNat k)), (.ref A)]) _
        obtain ⟨clA82, AA82, sA82, gA82⟩ := id Tr.2.2.1
        refine Go.step (fun _ => X81.aaload hx (j := (Int32.ofNat k)) (v := (.ref (lv k))) (by rw [e81]; exact AA82.1) (State.isArrayOf_alike hZ.alike AA82.2.1) rfl AA82.2.2 (own_in sA82 hkM (by omega)) (by rw [own_clamp (by omega)]; exact gA82 _ hkM) (g := (mkF m 23 #[.val (.ref a), .val (.int (Int32.ofNat x)), .val (.int (Int32.ofNat P)), .val (.int (Int32.ofNat k)), .val (.int (Int32.ofNat (P / 64))), s5, s6] [(.int (Int32.ofNat k)), (.ref A)])) rfl rfl (hb hby d5_23) _) ?_
        show Go p e below T81 (mkF m 24 #[.val (.ref a), .val (.int (Int32.ofNat x)), .val (.int (Int32.ofNat P)), .val (.int (Int32.ofNat k)), .val (.int (Int32.ofNat (P / 64))), s5, s6] [(.ref (lv k))]) _
        refine Go.step (fun _ => XS.iload X81.here hx rfl (hb hby d5_24) rfl ) ?_
        show Go p e below T81 (mkF m 26 #[.val (.ref a), .val (.int (Int32.ofNat x)), .val (.int (Int32.ofNat P)), .val (.int (Int32.ofNat k)), .val (.int (Int32.ofNat (P / 64))), s5, s6] [(.int (Int32.ofNat (P / 64))), (.ref (lv k))]) _
        obtain ⟨clk83, Ak83, sk83, gk83⟩ := id (Tr.2.2.2.1 _ hkM)
        refine Go.step (fun _ => X81.laload hx (j := (Int32.ofNat (P / 64))) (v := (.long (f k (P / 64)))) (by rw [e81]; exact Ak83.1) (State.isArrayOf_alike hZ.alike Ak83.2.1) Ak83.2.2 (own_in sk83 hwz (hszb _ hkM)) (by rw [own_clamp (Nat.lt_trans hwz (hszb _ hkM))]; exact gk83 _ hwz) (g := (mkF m 26 #[.val (.ref a), .val (.int (Int32.ofNat x)), .val (.int (Int32.ofNat P)), .val (.int (Int32.ofNat k)), .val (.int (Int32.ofNat (P / 64))), s5, s6] [(.int (Int32.ofNat (P / 64))), (.ref (lv k))])) rfl rfl (hb hby d5_26) _) ?_
        show Go p e below T81 (mkF m 27 #[.val (.ref a), .val (.int (Int32.ofNat x)), .val (.int (Int32.ofNat P)), .val (.int (Int32.ofNat k)), .val (.int (Int32.ofNat (P / 64))), s5, s6] [(.long (f k (P / 64)))]) _
        refine Go.step (fun _ => X81.ldc2Long hx hown (mvT hZ (hw _ (List.mem_of_getElem? (i := 35) rfl))) (g := (mkF m 27 #[.val (.ref a), .val (.int (Int32.ofNat x)), .val (.int (Int32.ofNat P)), .val (.int (Int32.ofNat k)), .val (.int (Int32.ofNat (P / 64))), s5, s6] [(.long (f k (P / 64)))])) rfl (hb hby d5_27) _) ?_
        show Go p e below T81 (mkF m 30 #[.val (.ref a), .val (.int (Int32.ofNat x)), .val (.int (Int32.ofNat P)), .val (.int (Int32.ofNat k)), .val (.int (Int32.ofNat (P / 64))), s5, s6] [(.long (-1 : Int64)), (.long (f k (P / 64)))]) _
        refine Go.step (fun _ => XS.bipush X81.here hx rfl (hb hby d5_30)) ?_
        show Go p e below T81 (mkF m 32 #[.val (.ref a), .val (.int (Int32.ofNat x)), .val (.int (Int32.ofNat P)), .val (.int (Int32.ofNat k)), .val (.int (Int32.ofNat (P / 64))), s5, s6] [(.int (63 : Int32)), (.long (-1 : Int64)), (.long (f k (P / 64)))]) _
        refine Go.step (fun _ => XS.iloadN X81.here hx rfl (hb hby d5_32) rfl ) ?_
        show Go p e below T81 (mkF m 33 #[.val (.ref a), .val (.int (Int32.ofNat x)), .val (.int (Int32.ofNat P)), .val (.int (Int32.ofNat k)), .val (.int (Int32.ofNat (P / 64))), s5, s6] [(.int (Int32.ofNat P)), (.int (63 : Int32)), (.long (-1 : Int64)), (.long (f k (P / 64)))]) _
        refine Go.step (fun _ => XS.bipush X81.here hx rfl (hb hby d5_33)) ?_
        show Go p e below T81 (mkF m 35 #[.val (.ref a), .val (.int (Int32.ofNat x)), .val (.int (Int32.ofNat P)), .val (.int (Int32.ofNat k)), .val (.int (Int32.ofNat (P / 64))), s5, s6] [(.int (63 : Int32)), (.int (Int32.ofNat P)), (.int (63 : Int32)), (.long (-1 : Int64)), (.long (f k (P / 64)))]) _
        refine Go.step (fun _ => XS.iand X81.here hx rfl (hb hby d5_35) rfl) ?_
        show Go p e below T81 (mkF m 36 #[.val (.ref a), .val (.int (Int32.ofNat x)), .val (.int (Int32.ofNat P)), .val (.int (Int32.ofNat k)), .val (.int (Int32.ofNat (P / 64))), s5, s6] [(.int ((Int32.ofNat P) &&& (63 : Int32))), (.int (63 : Int32)), (.long (-1 : Int64)), (.long (f k (P / 64)))]) _
        rw [own_and63 (by omega)]
        show Go p e below T81 (mkF m 36 #[.val (.ref a), .val (.int (Int32.ofNat x)), .val (.int (Int32.ofNat P)), .val (.int (Int32.ofNat k)), .val (.int (Int32.ofNat (P / 64))), s5, s6] [(.int (Int32.ofNat (P % 64))), (.int (63 : Int32)), (.long (-1 : Int64)), (.long (f k (P / 64)))]) _
        refine Go.step (fun _ => XS.isub X81.here hx rfl (hb hby d5_36) rfl) ?_
        show Go p e below T81 (mkF m 37 #[.val (.ref a), .val (.int (Int32.ofNat x)), .val (.int (Int32.ofNat P)), .val (.int (Int32.ofNat k)), .val (.int (Int32.ofNat (P / 64))), s5, s6] [(.int ((63 : Int32) - (Int32.ofNat (P % 64)))), (.long (-1 : Int64)), (.long (f k (P / 64)))]) _
        rw [own_63 (Nat.mod_lt _ (by decide))]
        show Go p e below T81 (mkF m 37 #[.val (.ref a), .val (.int (Int32.ofNat x)), .val (.int (Int32.ofNat P)), .val (.int (Int32.ofNat k)), .val (.int (Int32.ofNat (P / 64))), s5, s6] [(.int (Int32.ofNat (63 - P % 64))), (.long (-1 : Int64)), (.long (f k (P / 64)))]) _
        refine Go.step (fun _ => XS.lushr X81.here hx rfl (hb hby d5_37) rfl) ?_
        show Go p e below T81 (mkF m 38 #[.val (.ref a), .val (.int (Int32.ofNat x)), .val (.int (Int32.ofNat P)), .val (.int (Int32.ofNat k)), .val (.int (Int32.ofNat (P / 64))), s5, s6] [(.long (((-1 : Int64).toUInt64 >>> ((Int32.ofNat (63 - P % 64)) &&& 0x3f).toInt64.toUInt64).toInt64)), (.long (f k (P / 64)))]) _
        refine Go.step (fun _ => XS.land X81.here hx rfl (hb hby d5_38) rfl) ?_
        show Go p e below T81 (mkF m 39 #[.val (.ref a), .val (.int (Int32.ofNat x)), .val (.int (Int32.ofNat P)), .val (.int (Int32.ofNat k)), .val (.int (Int32.ofNat (P / 64))), s5, s6] [(.long ((f k (P / 64)) &&& (((-1 : Int64).toUInt64 >>> ((Int32.ofNat (63 - P % 64)) &&& 0x3f).toInt64.toUInt64).toInt64)))]) _
        refine Go.step (fun _ => XS.lstore X81.here hx rfl (hb hby d5_39) rfl (l' := #[.val (.ref a), .val (.int (Int32.ofNat x)), .val (.int (Int32.ofNat P)), .val (.int (Int32.ofNat k)), .val (.int (Int32.ofNat (P / 64))), .val (.long ((f k (P / 64)) &&& (((-1 : Int64).toUInt64 >>> ((Int32.ofNat (63 - P % 64)) &&& 0x3f).toInt64.toUInt64).toInt64))), .second]) (own_os5 o56)) ?_
        show Go p e below T81 (mkF m 41 #[.val (.ref a), .val (.int (Int32.ofNat x)), .val (.int (Int32.ofNat P)), .val (.int (Int32.ofNat k)), .val (.int (Int32.ofNat (P / 64))), .val (.long ((f k (P / 64)) &&& (((-1 : Int64).toUInt64 >>> ((Int32.ofNat (63 - P % 64)) &&& 0x3f).toInt64.toUInt64).toInt64))), .second] []) _
        refine Go.step (fun _ => XS.lload X81.here hx rfl (hb hby d5_41) rfl ) ?_
        show Go p e below T81 (mkF m 43 #[.val (.ref a), .val (.int (Int32.ofNat x)), .val (.int (Int32.ofNat P)), .val (.int (Int32.ofNat k)), .val (.int (Int32.ofNat (P / 64))), .val (.long ((f k (P / 64)) &&& (((-1 : Int64).toUInt64 >>> ((Int32.ofNat (63 - P % 64)) &&& 0x3f).toInt64.toUInt64).toInt64))), .second] [(.long ((f k (P / 64)) &&& (((-1 : Int64).toUInt64 >>> ((Int32.ofNat (63 - P % 64)) &&& 0x3f).toInt64.toUInt64).toInt64)))]) _
        refine Go.step (fun _ => XS.lconst X81.here hx rfl (hb hby d5_43)) ?_
        show Go p e below T81 (mkF m 44 #[.val (.ref a), .val (.int (Int32.ofNat x)), .val (.int (Int32.ofNat P)), .val (.int (Int32.ofNat k)), .val (.int (Int32.ofNat (P / 64))), .val (.long ((f k (P / 64)) &&& (((-1 : Int64).toUInt64 >>> ((Int32.ofNat (63 - P % 64)) &&& 0x3f).toInt64.toUInt64).toInt64))), .second] [(.long (0 : Int64)), (.long ((f k (P / 64)) &&& (((-1 : Int64).toUInt64 >>> ((Int32.ofNat (63 - P % 64)) &&& 0x3f).toInt64.toUInt64).toInt64)))]) _
        refine Go.step (fun _ => XS.lcmp X81.here hx rfl (hb hby d5_44) rfl) ?_
        show Go p e below T81 (mkF m 45 #[.val (.ref a), .val (.int (Int32.ofNat x)), .val (.int (Int32.ofNat P)), .val (.int (Int32.ofNat k)), .val (.int (Int32.ofNat (P / 64))), .val (.long ((f k (P / 64)) &&& (((-1 : Int64).toUInt64 >>> ((Int32.ofNat (63 - P % 64)) &&& 0x3f).toInt64.toUInt64).toInt64))), .second] [(.int (lcmpW ((f k (P / 64)) &&& (((-1 : Int64).toUInt64 >>> ((Int32.ofNat (63 - P % 64)) &&& 0x3f).toInt64.toUInt64).toInt64)) (0 : Int64)))]) _
        by_cases hc45 : (lcmpW ((f k (P / 64)) &&& (((-1 : Int64).toUInt64 >>> ((Int32.ofNat (63 - P % 64)) &&& 0x3f).toInt64.toUInt64).toInt64)) (0 : Int64)) = (0 : Int32)
        · skip
          refine Go.step (fun _ => XS.ifYes X81.here hx rfl (pc0 := 45) (pc' := 63) rfl (hb hby d5_45) rfl ((if0 _ _).trans (teq hc45).1) (by decide) (by decide)) ?_
          show Go p e below T81 (mkF m 63 #[.val (.ref a), .val (.int (Int32.ofNat x)), .val (.int (Int32.ofNat P)), .val (.int (Int32.ofNat k)), .val (.int (Int32.ofNat (P / 64))), .val (.long ((f k (P / 64)) &&& (((-1 : Int64).toUInt64 >>> ((Int32.ofNat (63 - P % 64)) &&& 0x3f).toInt64.toUInt64).toInt64))), .second] []) _
          refine Go.step (fun _ => XS.iloadN X81.here hx rfl (hb hby d5_63) rfl ) ?_
          show Go p e below T81 (mkF m 64 #[.val (.ref a), .val (.int (Int32.ofNat x)), .val (.int (Int32.ofNat P)), .val (.int (Int32.ofNat k)), .val (.int (Int32.ofNat (P / 64))), .val (.long ((f k (P / 64)) &&& (((-1 : Int64).toUInt64 >>> ((Int32.ofNat (63 - P % 64)) &&& 0x3f).toInt64.toUInt64).toInt64))), .second] [(.int (Int32.ofNat k))]) _
          refine Go.step (fun _ => XS.aloadN X81.here hx rfl (hb hby d5_64) rfl rfl ) ?_
          show Go p e below T81 (mkF m 65 #[.val (.ref a), .val (.int (Int32.ofNat x)), .val (.int (Int32.ofNat P)), .val (.int (Int32.ofNat k)), .val (.int (Int32.ofNat (P / 64))), .val (.long ((f k (P / 64)) &&& (((-1 : Int64).toUInt64 >>> ((Int32.ofNat (63 - P % 64)) &&& 0x3f).toInt64.toUInt64).toInt64))), .second] [(.ref a), (.int (Int32.ofNat k))]) _
          obtain ⟨T84, X84, e84, st84⟩ := getF X81 hx hZ hown (host := "") (Or.inl (hw _ (List.mem_of_getElem? (i := 13) rfl))) Via.refl e81 T0.2.1 (g := (mkF m 65 #[.val (.ref a), .val (.int (Int32.ofNat x)), .val (.int (Int32.ofNat P)), .val (.int (Int32.ofNat k)), .val (.int (Int32.ofNat (P / 64))), .val (.long ((f k (P / 64)) &&& (((-1 : Int64).toUInt64 >>> ((Int32.ofNat (63 - P % 64)) &&& 0x3f).toInt64.toUInt64).toInt64))), .second] [(.ref a), (.int (Int32.ofNat k))])) rfl rfl (hb hby d5_65)
          refine Go.step st84 ?_
          show Go p e below T84 (mkF m 68 #[.val (.ref a), .val (.int (Int32.ofNat x)), .val (.int (Int32.ofNat P)), .val (.int (Int32.ofNat k)), .val (.int (Int32.ofNat (P / 64))), .val (.long ((f k (P / 64)) &&& (((-1 : Int64).toUInt64 >>> ((Int32.ofNat (63 - P % 64)) &&& 0x3f).toInt64.toUInt64).toInt64))), .second] [(.ref A), (.int (Int32.ofNat k))]) _
          obtain ⟨clA85, AA85, sA85, gA85⟩ := id Tr.2.2.1
          refine Go.step (fun _ => X84.arraylength hx (by rw [e84]; exact AA85.1) (State.isArrayOf_alike hZ.alike AA85.2.1) (g := (mkF m 68 #[.val (.ref a), .val (.int (Int32.ofNat x)), .val (.int (Int32.ofNat P)), .val (.int (Int32.ofNat k)), .val (.int (Int32.ofNat (P / 64))), .val (.long ((f k (P / 64)) &&& (((-1 : Int64).toUInt64 >>> ((Int32.ofNat (63 - P % 64)) &&& 0x3f).toInt64.toUInt64).toInt64))), .second] [(.ref A), (.int (Int32.ofNat k))])) rfl rfl (hb hby d5_68) _) ?_
          rw [sA85]
          show Go p e below T84 (mkF m 69 #[.val (.ref a), .val (.int (Int32.ofNat x)), .val (.int (Int32.ofNat P)), .val (.int (Int32.ofNat k)), .val (.int (Int32.ofNat (P / 64))), .val (.long ((f k (P / 64)) &&& (((-1 : Int64).toUInt64 >>> ((Int32.ofNat (63 - P % 64)) &&& 0x3f).toInt64.toUInt64).toInt64))), .second] [(.int (Int32.ofNat M)), (.int (Int32.ofNat k))]) _
          refine Go.step (fun _ => XS.iconst X84.here hx rfl (hb hby d5_69)) ?_
          show Go p e below T84 (mkF m 70 #[.val (.ref a), .val (.int (Int32.ofNat x)), .val (.int (Int32.ofNat P)), .val (.int (Int32.ofNat k)), .val (.int (Int32.ofNat (P / 64))), .val (.long ((f k (P / 64)) &&& (((-1 : Int64).toUInt64 >>> ((Int32.ofNat (63 - P % 64)) &&& 0x3f).toInt64.toUInt64).toInt64))), .second] [(.int (1 : Int32)), (.int (Int32.ofNat M)), (.int (Int32.ofNat k))]) _
          refine Go.step (fun _ => XS.isub X84.here hx rfl (hb hby d5_70) rfl) ?_
          show Go p e below T84 (mkF m 71 #[.val (.ref a), .val (.int (Int32.ofNat x)), .val (.int (Int32.ofNat P)), .val (.int (Int32.ofNat k)), .val (.int (Int32.ofNat (P / 64))), .val (.long ((f k (P / 64)) &&& (((-1 : Int64).toUInt64 >>> ((Int32.ofNat (63 - P % 64)) &&& 0x3f).toInt64.toUInt64).toInt64))), .second] [(.int ((Int32.ofNat M) - (1 : Int32))), (.int (Int32.ofNat k))]) _
          rw [show Int32.ofNat M - (1 : Int32) = Int32.ofNat (M - 1) from by rw [show M = (M - 1) + 1 from by omega]; exact own_sub (M - 1) 1]
          show Go p e below T84 (mkF m 71 #[.val (.ref a), .val (.int (Int32.ofNat x)), .val (.int (Int32.ofNat P)), .val (.int (Int32.ofNat k)), .val (.int (Int32.ofNat (P / 64))), .val (.long ((f k (P / 64)) &&& (((-1 : Int64).toUInt64 >>> ((Int32.ofNat (63 - P % 64)) &&& 0x3f).toInt64.toUInt64).toInt64))), .second] [(.int (Int32.ofNat (M - 1))), (.int (Int32.ofNat k))]) _
          refine Go.step (fun _ => XS.icmpYes X84.here hx rfl (pc0 := 71) (pc' := 76) rfl (hb hby d5_71) rfl (feq (fun z => by have z2 := (own_inj (by omega) (by omega)).mp z; omega)).2 (by decide) (by decide)) ?_
          show Go p e below T84 (mkF m 76 #[.val (.ref a), .val (.int (Int32.ofNat x)), .val (.int (Int32.ofNat P)), .val (.int (Int32.ofNat k)), .val (.int (Int32.ofNat (P / 64))), .val (.long ((f k (P / 64)) &&& (((-1 : Int64).toUInt64 >>> ((Int32.ofNat (63 - P % 64)) &&& 0x3f).toInt64.toUInt64).toInt64))), .second] []) _
          refine Go.step (fun _ => XS.iload X84.here hx rfl (hb hby d5_76) rfl ) ?_
          show Go p e below T84 (mkF m 78 #[.val (.ref a), .val (.int (Int32.ofNat x)), .val (.int (Int32.ofNat P)), .val (.int (Int32.ofNat k)), .val (.int (Int32.ofNat (P / 64))), .val (.long ((f k (P / 64)) &&& (((-1 : Int64).toUInt64 >>> ((Int32.ofNat (63 - P % 64)) &&& 0x3f).toInt64.toUInt64).toInt64))), .second] [(.int (Int32.ofNat (P / 64)))]) _
          refine Go.step (fun _ => XS.iconst X84.here hx rfl (hb hby d5_78)) ?_
          show Go p e below T84 (mkF m 79 #[.val (.ref a), .val (.int (Int32.ofNat x)), .val (.int (Int32.ofNat P)), .val (.int (Int32.ofNat k)), .val (.int (Int32.ofNat (P / 64))), .val (.long ((f k (P / 64)) &&& (((-1 : Int64).toUInt64 >>> ((Int32.ofNat (63 - P % 64)) &&& 0x3f).toInt64.toUInt64).toInt64))), .second] [(.int (1 : Int32)), (.int (Int32.ofNat (P / 64)))]) _
          refine Go.step (fun _ => XS.isub X84.here hx rfl (hb hby d5_79) rfl) ?_
          show Go p e below T84 (mkF m 80 #[.val (.ref a), .val (.int (Int32.ofNat x)), .val (.int (Int32.ofNat P)), .val (.int (Int32.ofNat k)), .val (.int (Int32.ofNat (P / 64))), .val (.long ((f k (P / 64)) &&& (((-1 : Int64).toUInt64 >>> ((Int32.ofNat (63 - P % 64)) &&& 0x3f).toInt64.toUInt64).toInt64))), .second] [(.int ((Int32.ofNat (P / 64)) - (1 : Int32)))]) _
          refine Go.step (fun _ => XS.istoreN X84.here hx rfl (hb hby d5_80) rfl (l' := #[.val (.ref a), .val (.int (Int32.ofNat x)), .val (.int ((Int32.ofNat (P / 64)) - (1 : Int32))), .val (.int (Int32.ofNat k)), .val (.int (Int32.ofNat (P / 64))), .val (.long ((f k (P / 64)) &&& (((-1 : Int64).toUInt64 >>> ((Int32.ofNat (63 - P % 64)) &&& 0x3f).toInt64.toUInt64).toInt64))), .second]) rfl) ?_
          show Go p e below T84 (mkF m 81 #[.val (.ref a), .val (.int (Int32.ofNat x)), .val (.int ((Int32.ofNat (P / 64)) - (1 : Int32))), .val (.int (Int32.ofNat k)), .val (.int (Int32.ofNat (P / 64))), .val (.long ((f k (P / 64)) &&& (((-1 : Int64).toUInt64 >>> ((Int32.ofNat (63 - P % 64)) &&& 0x3f).toInt64.toUInt64).toInt64))), .second] []) _
          refine Go.step (fun _ => XS.iinc X84.here hx rfl (hb hby d5_81) rfl (l' := #[.val (.ref a), .val (.int (Int32.ofNat x)), .val (.int ((Int32.ofNat (P / 64)) - (1 : Int32))), .val (.int ((Int32.ofNat k) + (1 : Int32))), .val (.int (Int32.ofNat (P / 64))), .val (.long ((f k (P / 64)) &&& (((-1 : Int64).toUInt64 >>> ((Int32.ofNat (63 - P % 64)) &&& 0x3f).toInt64.toUInt64).toInt64))), .second]) rfl) ?_
          show Go p e below T84 (mkF m 84 #[.val (.ref a), .val (.int (Int32.ofNat x)), .val (.int ((Int32.ofNat (P / 64)) - (1 : Int32))), .val (.int ((Int32.ofNat k) + (1 : Int32))), .val (.int (Int32.ofNat (P / 64))), .val (.long ((f k (P / 64)) &&& (((-1 : Int64).toUInt64 >>> ((Int32.ofNat (63 - P % 64)) &&& 0x3f).toInt64.toUInt64).toInt64))), .second] []) _
          refine Go.step (fun _ => XS.goto X84.here hx rfl (pc0 := 84) (pc' := 6) rfl (hb hby d5_84) (by decide) (by decide)) ?_
          show Go p e below T84 (mkF m 6 #[.val (.ref a), .val (.int (Int32.ofNat x)), .val (.int ((Int32.ofNat (P / 64)) - (1 : Int32))), .val (.int ((Int32.ofNat k) + (1 : Int32))), .val (.int (Int32.ofNat (P / 64))), .val (.long ((f k (P / 64)) &&& (((-1 : Int64).toUInt64 >>> ((Int32.ofNat (63 - P % 64)) &&& 0x3f).toInt64.toUInt64).toInt64))), .second] []) _
          rw [show Int32.ofNat k + (1 : Int32) = Int32.ofNat (k + 1) from own_add k 1]
          exact ih (k + 1) (P / 64) (by omega) (by omega) _ _ _ (One.val rfl) (Or.inr ⟨_, rfl, rfl⟩) (fun q q1 => (iff q q1).trans (Iff.trans (by omega) (own_empty (hR k hkM) hwz hmask ((lw_eq _ _).mp hc45) q q1))) (by rw [own_up]; have z2 : P / 64 ≤ (N - 1) / 64 ^ k / 64 := Nat.div_le_div_right (by omega); omega) _ X84 e84
        · skip
          refine Go.step (fun _ => XS.ifNo X81.here hx rfl (hb hby d5_45) rfl ((if0 _ _).trans (feq hc45).1)) ?_
          show Go p e below T81 (mkF m 48 #[.val (.ref a), .val (.int (Int32.ofNat x)), .val (.int (Int32.ofNat P)), .val (.int (Int32.ofNat k)), .val (.int (Int32.ofNat (P / 64))), .val (.long ((f k (P / 64)) &&& (((-1 : Int64).toUInt64 >>> ((Int32.ofNat (63 - P % 64)) &&& 0x3f).toInt64.toUInt64).toInt64))), .second] []) _
          refine Go.step (fun _ => XS.iload X81.here hx rfl (hb hby d5_48) rfl ) ?_
          show Go p e below T81 (mkF m 50 #[.val (.ref a), .val (.int (Int32.ofNat x)), .val (.int (Int32.ofNat P)), .val (.int (Int32.ofNat k)), .val (.int (Int32.ofNat (P / 64))), .val (.long ((f k (P / 64)) &&& (((-1 : Int64).toUInt64 >>> ((Int32.ofNat (63 - P % 64)) &&& 0x3f).toInt64.toUInt64).toInt64))), .second] [(.int (Int32.ofNat (P / 64)))]) _
          refine Go.step (fun _ => XS.bipush X81.here hx rfl (hb hby d5_50)) ?_
          show Go p e below T81 (mkF m 52 #[.val (.ref a), .val (.int (Int32.ofNat x)), .val (.int (Int32.ofNat P)), .val (.int (Int32.ofNat k)), .val (.int (Int32.ofNat (P / 64))), .val (.long ((f k (P / 64)) &&& (((-1 : Int64).toUInt64 >>> ((Int32.ofNat (63 - P % 64)) &&& 0x3f).toInt64.toUInt64).toInt64))), .second] [(.int (6 : Int32)), (.int (Int32.ofNat (P / 64)))]) _
          refine Go.step (fun _ => XS.ishl X81.here hx rfl (hb hby d5_52) rfl) ?_
          show Go p e below T81 (mkF m 53 #[.val (.ref a), .val (.int (Int32.ofNat x)), .val (.int (Int32.ofNat P)), .val (.int (Int32.ofNat k)), .val (.int (Int32.ofNat (P / 64))), .val (.long ((f k (P / 64)) &&& (((-1 : Int64).toUInt64 >>> ((Int32.ofNat (63 - P % 64)) &&& 0x3f).toInt64.toUInt64).toInt64))), .second] [(.int ((Int32.ofNat (P / 64)) <<< ((6 : Int32) &&& 31)))]) _
          rw [own_shl6 (by omega)]
          show Go p e below T81 (mkF m 53 #[.val (.ref a), .val (.int (Int32.ofNat x)), .val (.int (Int32.ofNat P)), .val (.int (Int32.ofNat k)), .val (.int (Int32.ofNat (P / 64))), .val (.long ((f k (P / 64)) &&& (((-1 : Int64).toUInt64 >>> ((Int32.ofNat (63 - P % 64)) &&& 0x3f).toInt64.toUInt64).toInt64))), .second] [(.int (Int32.ofNat (64 * (P / 64))))]) _
          refine Go.step (fun _ => XS.lload X81.here hx rfl (hb hby d5_53) rfl ) ?_
          show Go p e below T81 (mkF m 55 #[.val (.ref a), .val (.int (Int32.ofNat x)), .val (.int (Int32.ofNat P)), .val (.int (Int32.ofNat k)), .val (.int (Int32.ofNat (P / 64))), .val (.long ((f k (P / 64)) &&& (((-1 : Int64).toUInt64 >>> ((Int32.ofNat (63 - P % 64)) &&& 0x3f).toInt64.toUInt64).toInt64))), .second] [(.long ((f k (P / 64)) &&& (((-1 : Int64).toUInt64 >>> ((Int32.ofNat (63 - P % 64)) &&& 0x3f).toInt64.toUInt64).toInt64))), (.int (Int32.ofNat (64 * (P / 64))))]) _
          obtain ⟨_, _, ⟨T86, L86, k86, n86⟩, -, X86, ⟨Lc86, hQ86, l86, y86, z86⟩, st86⟩ := Jvm.LawKit.callS X81 hx (y := (⟨"com/example/maxhue/maxhue/PointSet", "lastBit", "(J)I"⟩ : MethodName)) hown (mvT hZ (hw _ (List.mem_of_getElem? (i := 36) rfl))) (mvT hZ (hw _ (List.mem_of_getElem? (i := 37) rfl))) (mvT hZ (hw _ (List.mem_of_getElem? (i := 4) rfl))) (mvT hZ (hw _ (List.mem_of_getElem? (i := 38) rfl))) (by decide) (backOf (W := 1) (rmLB l Z a0 hw [] ((f k (P / 64)) &&& (((-1 : Int64).toUInt64 >>> ((Int32.ofNat (63 - P % 64)) &&& 0x3f).toInt64.toUInt64).toInt64)) h0 n0 Z0) hZ (hw _ (List.mem_of_getElem? (i := 38) rfl)) (hw _ (List.mem_of_getElem? (i := 4) rfl)) (by decide) (by decide)) (g := (mkF m 55 #[.val (.ref a), .val (.int (Int32.ofNat x)), .val (.int (Int32.ofNat P)), .val (.int (Int32.ofNat k)), .val (.int (Int32.ofNat (P / 64))), .val (.long ((f k (P / 64)) &&& (((-1 : Int64).toUInt64 >>> ((Int32.ofNat (63 - P % 64)) &&& 0x3f).toInt64.toUInt64).toInt64))), .second] [(.long ((f k (P / 64)) &&& (((-1 : Int64).toUInt64 >>> ((Int32.ofNat (63 - P % 64)) &&& 0x3f).toInt64.toUInt64).toInt64))), (.int (Int32.ofNat (64 * (P / 64))))])) rfl (by rw [hml]; rfl) (argsL := [(.long ((f k (P / 64)) &&& (((-1 : Int64).toUInt64 >>> ((Int32.ofNat (63 - P % 64)) &&& 0x3f).toInt64.toUInt64).toInt64)))]) (rest := [(.int (Int32.ofNat (64 * (P / 64))))]) (lenOf pd_1 rfl) rfl (by show 2 * 0 + _ ≤ _; exact Nat.le_of_eq rfl) (hb hby d5_55) (fun _ _ => ⟨rfl, e81, (by decide : 0 + 0 ≤ _), (by decide : 0 + 0 ≤ _)⟩)
          dsimp only [Pt.U, Pt.locs, Pt.cells, Pt.slots] at X86 l86 y86 z86 st86 hQ86
          subst l86 y86 z86
          obtain ⟨rfl, Nq86, eh86⟩ := hQ86
          have N86 := Fr.app N0 Nq86
          refine Go.step st86 ?_
          show Go p e below T86 (mkF m 58 #[.val (.ref a), .val (.int (Int32.ofNat x)), .val (.int (Int32.ofNat P)), .val (.int (Int32.ofNat k)), .val (.int (Int32.ofNat (P / 64))), .val (.long ((f k (P / 64)) &&& (((-1 : Int64).toUInt64 >>> ((Int32.ofNat (63 - P % 64)) &&& 0x3f).toInt64.toUInt64).toInt64))), .second] [(.int ((63 : Int32) - nlz64 (((f k (P / 64)) &&& (((-1 : Int64).toUInt64 >>> ((Int32.ofNat (63 - P % 64)) &&& 0x3f).toInt64.toUInt64).toInt64))))), (.int (Int32.ofNat (64 * (P / 64))))]) _
          obtain ⟨b, hb1, hb2⟩ := own_top (f k (P / 64) &&& (((-1 : Int64).toUInt64 >>> (Int32.ofNat (63 - P % 64) &&& 0x3f).toInt64.toUInt64).toInt64)) (fun z => hc45 ((lw_eq _ _).mpr z))
          obtain ⟨d1, d2, d3⟩ := own_found (hR k hkM) hwz hmask hb2
          rw [hb1]
          show Go p e below T86 (mkF m 58 #[.val (.ref a), .val (.int (Int32.ofNat x)), .val (.int (Int32.ofNat P)), .val (.int (Int32.ofNat k)), .val (.int (Int32.ofNat (P / 64))), .val (.long ((f k (P / 64)) &&& (((-1 : Int64).toUInt64 >>> ((Int32.ofNat (63 - P % 64)) &&& 0x3f).toInt64.toUInt64).toInt64))), .second] [(.int (Int32.ofNat b)), (.int (Int32.ofNat (64 * (P / 64))))]) _
          refine Go.step (fun _ => XS.iadd X86.here hx rfl (hb hby d5_58) rfl) ?_
          show Go p e below T86 (mkF m 59 #[.val (.ref a), .val (.int (Int32.ofNat x)), .val (.int (Int32.ofNat P)), .val (.int (Int32.ofNat k)), .val (.int (Int32.ofNat (P / 64))), .val (.long ((f k (P / 64)) &&& (((-1 : Int64).toUInt64 >>> ((Int32.ofNat (63 - P % 64)) &&& 0x3f).toInt64.toUInt64).toInt64))), .second] [(.int ((Int32.ofNat (64 * (P / 64))) + (Int32.ofNat b)))]) _
          rw [own_add (64 * (P / 64)) b]
          show Go p e below T86 (mkF m 59 #[.val (.ref a), .val (.int (Int32.ofNat x)), .val (.int (Int32.ofNat P)), .val (.int (Int32.ofNat k)), .val (.int (Int32.ofNat (P / 64))), .val (.long ((f k (P / 64)) &&& (((-1 : Int64).toUInt64 >>> ((Int32.ofNat (63 - P % 64)) &&& 0x3f).toInt64.toUInt64).toInt64))), .second] [(.int (Int32.ofNat (64 * (P / 64) + b)))]) _
          refine Go.step (fun _ => XS.istoreN X86.here hx rfl (hb hby d5_59) rfl (l' := #[.val (.ref a), .val (.int (Int32.ofNat x)), .val (.int (Int32.ofNat (64 * (P / 64) + b))), .val (.int (Int32.ofNat k)), .val (.int (Int32.ofNat (P / 64))), .val (.long ((f k (P / 64)) &&& (((-1 : Int64).toUInt64 >>> ((Int32.ofNat (63 - P % 64)) &&& 0x3f).toInt64.toUInt64).toInt64))), .second]) rfl) ?_
          show Go p e below T86 (mkF m 60 #[.val (.ref a), .val (.int (Int32.ofNat x)), .val (.int (Int32.ofNat (64 * (P / 64) + b))), .val (.int (Int32.ofNat k)), .val (.int (Int32.ofNat (P / 64))), .val (.long ((f k (P / 64)) &&& (((-1 : Int64).toUInt64 >>> ((Int32.ofNat (63 - P % 64)) &&& 0x3f).toInt64.toUInt64).toInt64))), .second] []) _
          refine Go.step (fun _ => XS.goto X86.here hx rfl (pc0 := 60) (pc' := 87) rfl (hb hby d5_60) (by decide) (by decide)) ?_
          show Go p e below T86 (mkF m 87 #[.val (.ref a), .val (.int (Int32.ofNat x)), .val (.int (Int32.ofNat (64 * (P / 64) + b))), .val (.int (Int32.ofNat k)), .val (.int (Int32.ofNat (P / 64))), .val (.long ((f k (P / 64)) &&& (((-1 : Int64).toUInt64 >>> ((Int32.ofNat (63 - P % 64)) &&& 0x3f).toInt64.toUInt64).toInt64))), .second] []) _
          refine Go.step (fun _ => XS.iinc X86.here hx rfl (hb hby d5_87) rfl (l' := #[.val (.ref a), .val (.int (Int32.ofNat x)), .val (.int (Int32.ofNat (64 * (P / 64) + b))), .val (.int ((Int32.ofNat k) + (-1 : Int32))), .val (.int (Int32.ofNat (P / 64))), .val (.long ((f k (P / 64)) &&& (((-1 : Int64).toUInt64 >>> ((Int32.ofNat (63 - P % 64)) &&& 0x3f).toInt64.toUInt64).toInt64))), .second]) rfl) ?_
          show Go p e below T86 (mkF m 90 #[.val (.ref a), .val (.int (Int32.ofNat x)), .val (.int (Int32.ofNat (64 * (P / 64) + b))), .val (.int ((Int32.ofNat k) + (-1 : Int32))), .val (.int (Int32.ofNat (P / 64))), .val (.long ((f k (P / 64)) &&& (((-1 : Int64).toUInt64 >>> ((Int32.ofNat (63 - P % 64)) &&& 0x3f).toInt64.toUInt64).toInt64))), .second] []) _
          rw [own_dec]
          exact down k (64 * (P / 64) + b) hkM _ _ _ d1 (fun q q1 q2 => d3 q q1 (Nat.le_of_lt_succ ((iff q q1).mp q2))) (fun q q1 q2 => (iff q q1).mpr (by omega)) _ N86 _ X86 eh86
  show Go p e below s₁ (mkF m 0 #[.val (.ref a), .val (.int (Int32.ofNat x)), .unset, .unset, .unset, .unset, .unset] []) _
  refine Go.step (fun _ => XS.iloadN X0.here hx rfl (hb hby d5_0) rfl ) ?_
  show Go p e below s₁ (mkF m 1 #[.val (.ref a), .val (.int (Int32.ofNat x)), .unset, .unset, .unset, .unset, .unset] [(.int (Int32.ofNat x))]) _
  refine Go.step (fun _ => XS.iconst X0.here hx rfl (hb hby d5_1)) ?_
  show Go p e below s₁ (mkF m 2 #[.val (.ref a), .val (.int (Int32.ofNat x)), .unset, .unset, .unset, .unset, .unset] [(.int (1 : Int32)), (.int (Int32.ofNat x))]) _
  refine Go.step (fun _ => XS.isub X0.here hx rfl (hb hby d5_2) rfl) ?_
  show Go p e below s₁ (mkF m 3 #[.val (.ref a), .val (.int (Int32.ofNat x)), .unset, .unset, .unset, .unset, .unset] [(.int ((Int32.ofNat x) - (1 : Int32)))]) _
  refine Go.step (fun _ => XS.istoreN X0.here hx rfl (hb hby d5_3) rfl (l' := #[.val (.ref a), .val (.int (Int32.ofNat x)), .val (.int ((Int32.ofNat x) - (1 : Int32))), .unset, .unset, .unset, .unset]) rfl) ?_
  show Go p e below s₁ (mkF m 4 #[.val (.ref a), .val (.int (Int32.ofNat x)), .val (.int ((Int32.ofNat x) - (1 : Int32))), .unset, .unset, .unset, .unset] []) _
  refine Go.step (fun _ => XS.iconst X0.here hx rfl (hb hby d5_4)) ?_
  show Go p e below s₁ (mkF m 5 #[.val (.ref a), .val (.int (Int32.ofNat x)), .val (.int ((Int32.ofNat x) - (1 : Int32))), .unset, .unset, .unset, .unset] [(.int (0 : Int32))]) _
  refine Go.step (fun _ => XS.istoreN X0.here hx rfl (hb hby d5_5) rfl (l' := #[.val (.ref a), .val (.int (Int32.ofNat x)), .val (.int ((Int32.ofNat x) - (1 : Int32))), .val (.int (0 : Int32)), .unset, .unset, .unset]) rfl) ?_
  show Go p e below s₁ (mkF m 6 #[.val (.ref a), .val (.int (Int32.ofNat x)), .val (.int ((Int32.ofNat x) - (1 : Int32))), .val (.int (0 : Int32)), .unset, .unset, .unset] []) _
  exact up (M - 1) 0 x (by omega) hx0 _ _ _ One.u (Or.inl ⟨rfl, rfl⟩) (fun q q1 => by rw [Nat.pow_zero, Nat.div_one]) (by rw [Nat.pow_zero, Nat.div_one]; omega) _ X0 e0
theorem d6_0 : decode method_2_code 0 = .ok (.iconst (-1), 1) := by decide +kernel
theorem d6_1 : decode method_2_code 1 = .ok (.istore 4, 2) := by decide +kernel
theorem d6_3 : decode method_2_code 3 = .ok (.iload_n 1, 1) := by decide +kernel
theorem d6_4 : decode method_2_code 4 = .ok (.iload_n 0, 1) := by decide +kernel
theorem d6_5 : decode method_2_code 5 = .ok (.if_icmp .ge 11, 3) := by decide +kernel
theorem d6_8 : decode method_2_code 8 = .ok (.iload 4, 2) := by decide +kernel
theorem d6_10 : decode method_2_code 10 = .ok (.iload_n 1, 1) := by decide +kernel
theorem d6_11 : decode method_2_code 11 = .ok (.invokestatic 7, 3) := by decide +kernel
theorem d6_14 : decode method_2_code 14 = .ok (.istore 4, 2) := by decide +kernel
theorem d6_16 : decode method_2_code 16 = .ok (.iload_n 2, 1) := by decide +kernel
theorem d6_17 : decode method_2_code 17 = .ok (.iload_n 0, 1) := by decide +kernel
theorem d6_18 : decode method_2_code 18 = .ok (.if_icmp .ge 11, 3) := by decide +kernel
theorem d6_21 : decode method_2_code 21 = .ok (.iload 4, 2) := by decide +kernel
theorem d6_23 : decode method_2_code 23 = .ok (.iload_n 2, 1) := by decide +kernel
theorem d6_24 : decode method_2_code 24 = .ok (.invokestatic 7, 3) := by decide +kernel
theorem d6_27 : decode method_2_code 27 = .ok (.istore 4, 2) := by decide +kernel
theorem d6_29 : decode method_2_code 29 = .ok (.iload_n 3, 1) := by decide +kernel
theorem d6_30 : decode method_2_code 30 = .ok (.iload_n 0, 1) := by decide +kernel
theorem d6_31 : decode method_2_code 31 = .ok (.if_icmp .ge 11, 3) := by decide +kernel
theorem d6_34 : decode method_2_code 34 = .ok (.iload 4, 2) := by decide +kernel
theorem d6_36 : decode method_2_code 36 = .ok (.iload_n 3, 1) := by decide +kernel
theorem d6_37 : decode method_2_code 37 = .ok (.invokestatic 7, 3) := by decide +kernel
theorem d6_40 : decode method_2_code 40 = .ok (.istore 4, 2) := by decide +kernel
theorem d6_42 : decode method_2_code 42 = .ok (.iload 4, 2) := by decide +kernel
theorem d6_44 : decode method_2_code 44 = .ok (.ireturn, 1) := by decide +kernel
theorem pn_3 : plainName "com/example/maxhue/maxhue/PointSetAddPinLaw" = true := by first | (simp [plainName, overriddenIn]; done) | decide +kernel
theorem ef_rmRef (m : MethodId) (x0 : Int32) (x1 : Int32) (x2 : Int32) (x3 : Int32) : entryFrame m #[(.int x0), (.int x1), (.int x2), (.int x3)] 5 = mkF m 0 #[.val (.int x0), .val (.int x1), .val (.int x2), .val (.int x3), .unset] [] := by first | (simp [entryFrame, mkF, argsToLocals, Value.category]; done) | rfl
def QRef (Z : State) (p0 p1 p2 p3 : Int32) (h0 : Heap) (n0 : Nat) (v : Option Value) (h : Heap) (L : List Loc) : Prop := v = some (.int (own_refI p0 p1 p2 p3)) ∧ Fr n0 L ∧ h = h0
set_option maxRecDepth 65536 in
set_option maxHeartbeats 40000000 in
theorem rmRef (l : Launch) (Z : State) (a0 : Array Value) (hw : ∀ d ∈ tables_1, d.before a0 Z = true) (ws : List Jvm.Cond) (p0 p1 p2 p3 : Int32) (h0 : Heap) (n0 : Nat) (Z0 : n0 ≤ h0.size)  :
    MetFree l (⟨"com/example/maxhue/maxhue/PointSetAddPinLaw", "ref", "(IIII)I"⟩ : MethodName) (head1 (Jvm.Cond.code (⟨"com/example/maxhue/maxhue/PointSetAddPinLaw", "ref", "(IIII)I"⟩ : MethodName) method_2_code 5 (some .int) :: ws) ({ frames := 1, cells := 0, slots := 0, locals := 16 } : Room)) (fun as' U => as' = #[(.int p0), (.int p1), (.int p2), (.int p3)] ∧ Z.Warmed39 U.vm ∧ U.heap = h0) (fun _ _ _ _ _ => True) (fun _ U o U' => ∃ v L, o = .returned v ∧ QRef Z p0 p1 p2 p3 h0 n0 v U'.heap L ∧ FrameEnd U o U' L ({ frames := 1, cells := 0, slots := 0, locals := 16 } : Room).cells ({ frames := 1, cells := 0, slots := 0, locals := 16 } : Room).slots) := by
  refine MetFree.of_bodySF (plainFor_of_name pn_3) hisR ?_
  intro p e s m args below meth c s₁ Bd hml0 hP hK
  obtain ⟨rfl, hZ, hh⟩ := hP
  have hx := Bd.exec
  have hby := Bd.bytes
  have hml : c.maxLocals = 5 := hml0
  have hown : s.vm.findClass "com/example/maxhue/maxhue/PointSetAddPinLaw" = some m.cls := findClass_of_methodNamed Bd.named
  have hnm := (name_of_methodNamed Bd.named Bd.method).1
  have hlk : meth.locks = false := Bd.notSynchronized
  have hret := Bd.returns
  have X0 : Stand p l e ({ frames := 1, cells := 0, slots := 0, locals := 16 } : Room) s m #[(.int p0), (.int p1), (.int p2), (.int p3)] below meth c s₁ [] 0 0 := Stand.of_body Bd
  have e0 : s₁.heap = h0 := by rw [← hh, Bd.state]; rfl
  have N0 := Fr.nil n0
  show Go p e below s₁ (entryFrame m #[(.int p0), (.int p1), (.int p2), (.int p3)] 5) (Fin s (QRef Z p0 p1 p2 p3 h0 n0) ({ frames := 1, cells := 0, slots := 0, locals := 16 } : Room).cells ({ frames := 1, cells := 0, slots := 0, locals := 16 } : Room).slots)
  rw [ef_rmRef]
  show Go p e below s₁ (mkF m 0 #[.val (.int p0), .val (.int p1), .val (.int p2), .val (.int p3), .unset] []) _
  refine Go.step (fun _ => XS.iconst X0.here hx rfl (hb hby d6_0)) ?_
  show Go p e below s₁ (mkF m 1 #[.val (.int p0), .val (.int p1), .val (.int p2), .val (.int p3), .unset] [(.int (-1 : Int32))]) _
  refine Go.step (fun _ => XS.istore X0.here hx rfl (hb hby d6_1) rfl (l' := #[.val (.int p0), .val (.int p1), .val (.int p2), .val (.int p3), .val (.int (-1 : Int32))]) rfl) ?_
  show Go p e below s₁ (mkF m 3 #[.val (.int p0), .val (.int p1), .val (.int p2), .val (.int p3), .val (.int (-1 : Int32))] []) _
  refine Go.step (fun _ => XS.iloadN X0.here hx rfl (hb hby d6_3) rfl ) ?_
  show Go p e below s₁ (mkF m 4 #[.val (.int p0), .val (.int p1), .val (.int p2), .val (.int p3), .val (.int (-1 : Int32))] [(.int p1)]) _
  refine Go.step (fun _ => XS.iloadN X0.here hx rfl (hb hby d6_4) rfl ) ?_
  show Go p e below s₁ (mkF m 5 #[.val (.int p0), .val (.int p1), .val (.int p2), .val (.int p3), .val (.int (-1 : Int32))] [(.int p0), (.int p1)]) _
  by_cases hc5 : p1 < p0
  · skip
    refine Go.step (fun _ => XS.icmpNo X0.here hx rfl (hb hby d6_5) rfl (tlt hc5).2.1) ?_
    show Go p e below s₁ (mkF m 8 #[.val (.int p0), .val (.int p1), .val (.int p2), .val (.int p3), .val (.int (-1 : Int32))] []) _
    refine Go.step (fun _ => XS.iload X0.here hx rfl (hb hby d6_8) rfl ) ?_
    show Go p e below s₁ (mkF m 10 #[.val (.int p0), .val (.int p1), .val (.int p2), .val (.int p3), .val (.int (-1 : Int32))] [(.int (-1 : Int32))]) _
    refine Go.step (fun _ => XS.iloadN X0.here hx rfl (hb hby d6_10) rfl ) ?_
    show Go p e below s₁ (mkF m 11 #[.val (.int p0), .val (.int p1), .val (.int p2), .val (.int p3), .val (.int (-1 : Int32))] [(.int p1), (.int (-1 : Int32))]) _
    obtain ⟨_, _, ⟨T87, L87, k87, n87⟩, -, X87, ⟨Lc87, hQ87, l87, y87, z87⟩, st87⟩ := Jvm.LawKit.callS X0 hx (y := (⟨"java/lang/Math", "max", "(II)I"⟩ : MethodName)) hown (mvT hZ (hw _ (List.mem_of_getElem? (i := 48) rfl))) (mvT hZ (hw _ (List.mem_of_getElem? (i := 16) rfl))) (mvT hZ (hw _ (List.mem_of_getElem? (i := 17) rfl))) (mvT hZ (hw _ (List.mem_of_getElem? (i := 18) rfl))) (by decide) (backOf (W := 0) (rmMx l Z a0 hw [] (-1 : Int32) p1 (own_mx (-1 : Int32) p1) h0 n0 Z0 rfl) hZ (hw _ (List.mem_of_getElem? (i := 18) rfl)) (hw _ (List.mem_of_getElem? (i := 17) rfl)) (by decide) (by decide)) (g := (mkF m 11 #[.val (.int p0), .val (.int p1), .val (.int p2), .val (.int p3), .val (.int (-1 : Int32))] [(.int p1), (.int (-1 : Int32))])) rfl (by rw [hml]; rfl) (argsL := [(.int (-1 : Int32)), (.int p1)]) (rest := []) (lenOf pd_2 rfl) rfl (by show 2 * 0 + _ ≤ _; exact Nat.le_of_eq rfl) (hb hby d6_11) (fun _ _ => ⟨rfl, e0, (by decide : 0 + 0 ≤ _), (by decide : 0 + 0 ≤ _)⟩)
    dsimp only [Pt.U, Pt.locs, Pt.cells, Pt.slots] at X87 l87 y87 z87 st87 hQ87
    subst l87 y87 z87
    obtain ⟨rfl, Nq87, eh87⟩ := hQ87
    have N87 := Fr.app N0 Nq87
    refine Go.step st87 ?_
    show Go p e below T87 (mkF m 14 #[.val (.int p0), .val (.int p1), .val (.int p2), .val (.int p3), .val (.int (-1 : Int32))] [(.int (own_mx (-1 : Int32) p1))]) _
    refine Go.step (fun _ => XS.istore X87.here hx rfl (hb hby d6_14) rfl (l' := #[.val (.int p0), .val (.int p1), .val (.int p2), .val (.int p3), .val (.int (own_mx (-1 : Int32) p1))]) rfl) ?_
    show Go p e below T87 (mkF m 16 #[.val (.int p0), .val (.int p1), .val (.int p2), .val (.int p3), .val (.int (own_mx (-1 : Int32) p1))] []) _
    refine Go.step (fun _ => XS.iloadN X87.here hx rfl (hb hby d6_16) rfl ) ?_
    show Go p e below T87 (mkF m 17 #[.val (.int p0), .val (.int p1), .val (.int p2), .val (.int p3), .val (.int (own_mx (-1 : Int32) p1))] [(.int p2)]) _
    refine Go.step (fun _ => XS.iloadN X87.here hx rfl (hb hby d6_17) rfl ) ?_
    show Go p e below T87 (mkF m 18 #[.val (.int p0), .val (.int p1), .val (.int p2), .val (.int p3), .val (.int (own_mx (-1 : Int32) p1))] [(.int p0), (.int p2)]) _
    by_cases hc18 : p2 < p0
    · skip
      refine Go.step (fun _ => XS.icmpNo X87.here hx rfl (hb hby d6_18) rfl (tlt hc18).2.1) ?_
      show Go p e below T87 (mkF m 21 #[.val (.int p0), .val (.int p1), .val (.int p2), .val (.int p3), .val (.int (own_mx (-1 : Int32) p1))] []) _
      refine Go.step (fun _ => XS.iload X87.here hx rfl (hb hby d6_21) rfl ) ?_
      show Go p e below T87 (mkF m 23 #[.val (.int p0), .val (.int p1), .val (.int p2), .val (.int p3), .val (.int (own_mx (-1 : Int32) p1))] [(.int (own_mx (-1 : Int32) p1))]) _
      refine Go.step (fun _ => XS.iloadN X87.here hx rfl (hb hby d6_23) rfl ) ?_
      show Go p e below T87 (mkF m 24 #[.val (.int p0), .val (.int p1), .val (.int p2), .val (.int p3), .val (.int (own_mx (-1 : Int32) p1))] [(.int p2), (.int (own_mx (-1 : Int32) p1))]) _
      obtain ⟨_, _, ⟨T88, L88, k88, n88⟩, -, X88, ⟨Lc88, hQ88, l88, y88, z88⟩, st88⟩ := Jvm.LawKit.callS X87 hx (y := (⟨"java/lang/Math", "max", "(II)I"⟩ : MethodName)) hown (mvT hZ (hw _ (List.mem_of_getElem? (i := 48) rfl))) (mvT hZ (hw _ (List.mem_of_getElem? (i := 16) rfl))) (mvT hZ (hw _ (List.mem_of_getElem? (i := 17) rfl))) (mvT hZ (hw _ (List.mem_of_getElem? (i := 18) rfl))) (by decide) (backOf (W := 0) (rmMx l Z a0 hw [] (own_mx (-1 : Int32) p1) p2 (own_mx (own_mx (-1 : Int32) p1) p2) h0 n0 Z0 rfl) hZ (hw _ (List.mem_of_getElem? (i := 18) rfl)) (hw _ (List.mem_of_getElem? (i := 17) rfl)) (by decide) (by decide)) (g := (mkF m 24 #[.val (.int p0), .val (.int p1), .val (.int p2), .val (.int p3), .val (.int (own_mx (-1 : Int32) p1))] [(.int p2), (.int (own_mx (-1 : Int32) p1))])) rfl (by rw [hml]; rfl) (argsL := [(.int (own_mx (-1 : Int32) p1)), (.int p2)]) (rest := []) (lenOf pd_2 rfl) rfl (by show 2 * 0 + _ ≤ _; exact Nat.le_of_eq rfl) (hb hby d6_24) (fun _ _ => ⟨rfl, eh87, (by decide : 0 + 0 + 0 ≤ _), (by decide : 0 + 0 + 0 ≤ _)⟩)
      dsimp only [Pt.U, Pt.locs, Pt.cells, Pt.slots] at X88 l88 y88 z88 st88 hQ88
      subst l88 y88 z88
      obtain ⟨rfl, Nq88, eh88⟩ := hQ88
      have N88 := Fr.app N87 Nq88
      refine Go.step st88 ?_
      show Go p e below T88 (mkF m 27 #[.val (.int p0), .val (.int p1), .val (.int p2), .val (.int p3), .val (.int (own_mx (-1 : Int32) p1))] [(.int (own_mx (own_mx (-1 : Int32) p1) p2))]) _
      refine Go.step (fun _ => XS.istore X88.here hx rfl (hb hby d6_27) rfl (l' := #[.val (.int p0), .val (.int p1), .val (.int p2), .val (.int p3), .val (.int (own_mx (own_mx (-1 : Int32) p1) p2))]) rfl) ?_
      show Go p e below T88 (mkF m 29 #[.val (.int p0), .val (.int p1), .val (.int p2), .val (.int p3), .val (.int (own_mx (own_mx (-1 : Int32) p1) p2))] []) _
      refine Go.step (fun _ => XS.iloadN X88.here hx rfl (hb hby d6_29) rfl ) ?_
      show Go p e below T88 (mkF m 30 #[.val (.int p0), .val (.int p1), .val (.int p2), .val (.int p3), .val (.int (own_mx (own_mx (-1 : Int32) p1) p2))] [(.int p3)]) _
      refine Go.step (fun _ => XS.iloadN X88.here hx rfl (hb hby d6_30) rfl ) ?_
      show Go p e below T88 (mkF m 31 #[.val (.int p0), .val (.int p1), .val (.int p2), .val (.int p3), .val (.int (own_mx (own_mx (-1 : Int32) p1) p2))] [(.int p0), (.int p3)]) _
      by_cases hc31 : p3 < p0
      · skip
        refine Go.step (fun _ => XS.icmpNo X88.here hx rfl (hb hby d6_31) rfl (tlt hc31).2.1) ?_
        show Go p e below T88 (mkF m 34 #[.val (.int p0), .val (.int p1), .val (.int p2), .val (.int p3), .val (.int (own_mx (own_mx (-1 : Int32) p1) p2))] []) _
        refine Go.step (fun _ => XS.iload X88.here hx rfl (hb hby d6_34) rfl ) ?_
        show Go p e below T88 (mkF m 36 #[.val (.int p0), .val (.int p1), .val (.int p2), .val (.int p3), .val (.int (own_mx (own_mx (-1 : Int32) p1) p2))] [(.int (own_mx (own_mx (-1 : Int32) p1) p2))]) _
        refine Go.step (fun _ => XS.iloadN X88.here hx rfl (hb hby d6_36) rfl ) ?_
        show Go p e below T88 (mkF m 37 #[.val (.int p0), .val (.int p1), .val (.int p2), .val (.int p3), .val (.int (own_mx (own_mx (-1 : Int32) p1) p2))] [(.int p3), (.int (own_mx (own_mx (-1 : Int32) p1) p2))]) _
        obtain ⟨_, _, ⟨T89, L89, k89, n89⟩, -, X89, ⟨Lc89, hQ89, l89, y89, z89⟩, st89⟩ := Jvm.LawKit.callS X88 hx (y := (⟨"java/lang/Math", "max", "(II)I"⟩ : MethodName)) hown (mvT hZ (hw _ (List.mem_of_getElem? (i := 48) rfl))) (mvT hZ (hw _ (List.mem_of_getElem? (i := 16) rfl))) (mvT hZ (hw _ (List.mem_of_getElem? (i := 17) rfl))) (mvT hZ (hw _ (List.mem_of_getElem? (i := 18) rfl))) (by decide) (backOf (W := 0) (rmMx l Z a0 hw [] (own_mx (own_mx (-1 : Int32) p1) p2) p3 (own_mx (own_mx (own_mx (-1 : Int32) p1) p2) p3) h0 n0 Z0 rfl) hZ (hw _ (List.mem_of_getElem? (i := 18) rfl)) (hw _ (List.mem_of_getElem? (i := 17) rfl)) (by decide) (by decide)) (g := (mkF m 37 #[.val (.int p0), .val (.int p1), .val (.int p2), .val (.int p3), .val (.int (own_mx (own_mx (-1 : Int32) p1) p2))] [(.int p3), (.int (own_mx (own_mx (-1 : Int32) p1) p2))])) rfl (by rw [hml]; rfl) (argsL := [(.int (own_mx (own_mx (-1 : Int32) p1) p2)), (.int p3)]) (rest := []) (lenOf pd_2 rfl) rfl (by show 2 * 0 + _ ≤ _; exact Nat.le_of_eq rfl) (hb hby d6_37) (fun _ _ => ⟨rfl, eh88, (by decide : 0 + 0 + 0 + 0 ≤ _), (by decide : 0 + 0 + 0 + 0 ≤ _)⟩)
        dsimp only [Pt.U, Pt.locs, Pt.cells, Pt.slots] at X89 l89 y89 z89 st89 hQ89
        subst l89 y89 z89
        obtain ⟨rfl, Nq89, eh89⟩ := hQ89
        have N89 := Fr.app N88 Nq89
        refine Go.step st89 ?_
        show Go p e below T89 (mkF m 40 #[.val (.int p0), .val (.int p1), .val (.int p2), .val (.int p3), .val (.int (own_mx (own_mx (-1 : Int32) p1) p2))] [(.int (own_mx (own_mx (own_mx (-1 : Int32) p1) p2) p3))]) _
        refine Go.step (fun _ => XS.istore X89.here hx rfl (hb hby d6_40) rfl (l' := #[.val (.int p0), .val (.int p1), .val (.int p2), .val (.int p3), .val (.int (own_mx (own_mx (own_mx (-1 : Int32) p1) p2) p3))]) rfl) ?_
        show Go p e below T89 (mkF m 42 #[.val (.int p0), .val (.int p1), .val (.int p2), .val (.int p3), .val (.int (own_mx (own_mx (own_mx (-1 : Int32) p1) p2) p3))] []) _
        refine Go.step (fun _ => XS.iload X89.here hx rfl (hb hby d6_42) rfl ) ?_
        show Go p e below T89 (mkF m 44 #[.val (.int p0), .val (.int p1), .val (.int p2), .val (.int p3), .val (.int (own_mx (own_mx (own_mx (-1 : Int32) p1) p2) p3))] [(.int (own_mx (own_mx (own_mx (-1 : Int32) p1) p2) p3))]) _
        refine Go.retI X89 hx hret hlk (hb hby d6_44) ?_ (by decide) (by decide)
        exact ⟨by simp only [own_refI, own_st, hc5, hc18, hc31, if_true, if_false], N89, eh89⟩
      · skip
        refine Go.step (fun _ => XS.icmpYes X88.here hx rfl (pc0 := 31) (pc' := 42) rfl (hb hby d6_31) rfl (flt hc31).2.1 (by decide) (by decide)) ?_
        show Go p e below T88 (mkF m 42 #[.val (.int p0), .val (.int p1), .val (.int p2), .val (.int p3), .val (.int (own_mx (own_mx (-1 : Int32) p1) p2))] []) _
        refine Go.step (fun _ => XS.iload X88.here hx rfl (hb hby d6_42) rfl ) ?_
        show Go p e below T88 (mkF m 44 #[.val (.int p0), .val (.int p1), .val (.int p2), .val (.int p3), .val (.int (own_mx (own_mx (-1 : Int32) p1) p2))] [(.int (own_mx (own_mx (-1 : Int32) p1) p2))]) _
        refine Go.retI X88 hx hret hlk (hb hby d6_44) ?_ (by decide) (by decide)
        exact ⟨by simp only [own_refI, own_st, hc5, hc18, hc31, if_true, if_false], N88, eh88⟩
    · skip
      refine Go.step (fun _ => XS.icmpYes X87.here hx rfl (pc0 := 18) (pc' := 29) rfl (hb hby d6_18) rfl (flt hc18).2.1 (by decide) (by decide)) ?_
      show Go p e below T87 (mkF m 29 #[.val (.int p0), .val (.int p1), .val (.int p2), .val (.int p3), .val (.int (own_mx (-1 : Int32) p1))] []) _
      refine Go.step (fun _ => XS.iloadN X87.here hx rfl (hb hby d6_29) rfl ) ?_
      show Go p e below T87 (mkF m 30 #[.val (.int p0), .val (.int p1), .val (.int p2), .val (.int p3), .val (.int (own_mx (-1 : Int32) p1))] [(.int p3)]) _
      refine Go.step (fun _ => XS.iloadN X87.here hx rfl (hb hby d6_30) rfl ) ?_
      show Go p e below T87 (mkF m 31 #[.val (.int p0), .val (.int p1), .val (.int p2), .val (.int p3), .val (.int (own_mx (-1 : Int32) p1))] [(.int p0), (.int p3)]) _
      by_cases hc31 : p3 < p0
      · skip
        refine Go.step (fun _ => XS.icmpNo X87.here hx rfl (hb hby d6_31) rfl (tlt hc31).2.1) ?_
        show Go p e below T87 (mkF m 34 #[.val (.int p0), .val (.int p1), .val (.int p2), .val (.int p3), .val (.int (own_mx (-1 : Int32) p1))] []) _
        refine Go.step (fun _ => XS.iload X87.here hx rfl (hb hby d6_34) rfl ) ?_
        show Go p e below T87 (mkF m 36 #[.val (.int p0), .val (.int p1), .val (.int p2), .val (.int p3), .val (.int (own_mx (-1 : Int32) p1))] [(.int (own_mx (-1 : Int32) p1))]) _
        refine Go.step (fun _ => XS.iloadN X87.here hx rfl (hb hby d6_36) rfl ) ?_
        show Go p e below T87 (mkF m 37 #[.val (.int p0), .val (.int p1), .val (.int p2), .val (.int p3), .val (.int (own_mx (-1 : Int32) p1))] [(.int p3), (.int (own_mx (-1 : Int32) p1))]) _
        obtain ⟨_, _, ⟨T90, L90, k90, n90⟩, -, X90, ⟨Lc90, hQ90, l90, y90, z90⟩, st90⟩ := Jvm.LawKit.callS X87 hx (y := (⟨"java/lang/Math", "max", "(II)I"⟩ : MethodName)) hown (mvT hZ (hw _ (List.mem_of_getElem? (i := 48) rfl))) (mvT hZ (hw _ (List.mem_of_getElem? (i := 16) rfl))) (mvT hZ (hw _ (List.mem_of_getElem? (i := 17) rfl))) (mvT hZ (hw _ (List.mem_of_getElem? (i := 18) rfl))) (by decide) (backOf (W := 0) (rmMx l Z a0 hw [] (own_mx (-1 : Int32) p1) p3 (own_mx (own_mx (-1 : Int32) p1) p3) h0 n0 Z0 rfl) hZ (hw _ (List.mem_of_getElem? (i := 18) rfl)) (hw _ (List.mem_of_getElem? (i := 17) rfl)) (by decide) (by decide)) (g := (mkF m 37 #[.val (.int p0), .val (.int p1), .val (.int p2), .val (.int p3), .val (.int (own_mx (-1 : Int32) p1))] [(.int p3), (.int (own_mx (-1 : Int32) p1))])) rfl (by rw [hml]; rfl) (argsL := [(.int (own_mx (-1 : Int32) p1)), (.int p3)]) (rest := []) (lenOf pd_2 rfl) rfl (by show 2 * 0 + _ ≤ _; exact Nat.le_of_eq rfl) (hb hby d6_37) (fun _ _ => ⟨rfl, eh87, (by decide : 0 + 0 + 0 ≤ _), (by decide : 0 + 0 + 0 ≤ _)⟩)
        dsimp only [Pt.U, Pt.locs, Pt.cells, Pt.slots] at X90 l90 y90 z90 st90 hQ90
        subst l90 y90 z90
        obtain ⟨rfl, Nq90, eh90⟩ := hQ90
        have N90 := Fr.app N87 Nq90
        refine Go.step st90 ?_
        show Go p e below T90 (mkF m 40 #[.val (.int p0), .val (.int p1), .val (.int p2), .val (.int p3), .val (.int (own_mx (-1 : Int32) p1))] [(.int (own_mx (own_mx (-1 : Int32) p1) p3))]) _
        refine Go.step (fun _ => XS.istore X90.here hx rfl (hb hby d6_40) rfl (l' := #[.val (.int p0), .val (.int p1), .val (.int p2), .val (.int p3), .val (.int (own_mx (own_mx (-1 : Int32) p1) p3))]) rfl) ?_
        show Go p e below T90 (mkF m 42 #[.val (.int p0), .val (.int p1), .val (.int p2), .val (.int p3), .val (.int (own_mx (own_mx (-1 : Int32) p1) p3))] []) _
        refine Go.step (fun _ => XS.iload X90.here hx rfl (hb hby d6_42) rfl ) ?_
        show Go p e below T90 (mkF m 44 #[.val (.int p0), .val (.int p1), .val (.int p2), .val (.int p3), .val (.int (own_mx (own_mx (-1 : Int32) p1) p3))] [(.int (own_mx (own_mx (-1 : Int32) p1) p3))]) _
        refine Go.retI X90 hx hret hlk (hb hby d6_44) ?_ (by decide) (by decide)
        exact ⟨by simp only [own_refI, own_st, hc5, hc18, hc31, if_true, if_false], N90, eh90⟩
      · skip
        refine Go.step (fun _ => XS.icmpYes X87.here hx rfl (pc0 := 31) (pc' := 42) rfl (hb hby d6_31) rfl (flt hc31).2.1 (by decide) (by decide)) ?_
        show Go p e below T87 (mkF m 42 #[.val (.int p0), .val (.int p1), .val (.int p2), .val (.int p3), .val (.int (own_mx (-1 : Int32) p1))] []) _
        refine Go.step (fun _ => XS.iload X87.here hx rfl (hb hby d6_42) rfl ) ?_
        show Go p e below T87 (mkF m 44 #[.val (.int p0), .val (.int p1), .val (.int p2), .val (.int p3), .val (.int (own_mx (-1 : Int32) p1))] [(.int (own_mx (-1 : Int32) p1))]) _
        refine Go.retI X87 hx hret hlk (hb hby d6_44) ?_ (by decide) (by decide)
        exact ⟨by simp only [own_refI, own_st, hc5, hc18, hc31, if_true, if_false], N87, eh87⟩
  · skip
    refine Go.step (fun _ => XS.icmpYes X0.here hx rfl (pc0 := 5) (pc' := 16) rfl (hb hby d6_5) rfl (flt hc5).2.1 (by decide) (by decide)) ?_
    show Go p e below s₁ (mkF m 16 #[.val (.int p0), .val (.int p1), .val (.int p2), .val (.int p3), .val (.int (-1 : Int32))] []) _
    refine Go.step (fun _ => XS.iloadN X0.here hx rfl (hb hby d6_16) rfl ) ?_
    show Go p e below s₁ (mkF m 17 #[.val (.int p0), .val (.int p1), .val (.int p2), .val (.int p3), .val (.int (-1 : Int32))] [(.int p2)]) _
    refine Go.step (fun _ => XS.iloadN X0.here hx rfl (hb hby d6_17) rfl ) ?_
    show Go p e below s₁ (mkF m 18 #[.val (.int p0), .val (.int p1), .val (.int p2), .val (.int p3), .val (.int (-1 : Int32))] [(.int p0), (.int p2)]) _
    by_cases hc18 : p2 < p0
    · skip
      refine Go.step (fun _ => XS.icmpNo X0.here hx rfl (hb hby d6_18) rfl (tlt hc18).2.1) ?_
      show Go p e below s₁ (mkF m 21 #[.val (.int p0), .val (.int p1), .val (.int p2), .val (.int p3), .val (.int (-1 : Int32))] []) _
      refine Go.step (fun _ => XS.iload X0.here hx rfl (hb hby d6_21) rfl ) ?_
      show Go p e below s₁ (mkF m 23 #[.val (.int p0), .val (.int p1), .val (.int p2), .val (.int p3), .val (.int (-1 : Int32))] [(.int (-1 : Int32))]) _
      refine Go.step (fun _ => XS.iloadN X0.here hx rfl (hb hby d6_23) rfl ) ?_
      show Go p e below s₁ (mkF m 24 #[.val (.int p0), .val (.int p1), .val (.int p2), .val (.int p3), .val (.int (-1 : Int32))] [(.int p2), (.int (-1 : Int32))]) _
      obtain ⟨_, _, ⟨T91, L91, k91, n91⟩, -, X91, ⟨Lc91, hQ91, l91, y91, z91⟩, st91⟩ := Jvm.LawKit.callS X0 hx (y := (⟨"java/lang/Math", "max", "(II)I"⟩ : MethodName)) hown (mvT hZ (hw _ (List.mem_of_getElem? (i := 48) rfl))) (mvT hZ (hw _ (List.mem_of_getElem? (i := 16) rfl))) (mvT hZ (hw _ (List.mem_of_getElem? (i := 17) rfl))) (mvT hZ (hw _ (List.mem_of_getElem? (i := 18) rfl))) (by decide) (backOf (W := 0) (rmMx l Z a0 hw [] (-1 : Int32) p2 (own_mx (-1 : Int32) p2) h0 n0 Z0 rfl) hZ (hw _ (List.mem_of_getElem? (i := 18) rfl)) (hw _ (List.mem_of_getElem? (i := 17) rfl)) (by decide) (by decide)) (g := (mkF m 24 #[.val (.int p0), .val (.int p1), .val (.int p2), .val (.int p3), .val (.int (-1 : Int32))] [(.int p2), (.int (-1 : Int32))])) rfl (by rw [hml]; rfl) (argsL := [(.int (-1 : Int32)), (.int p2)]) (rest := []) (lenOf pd_2 rfl) rfl (by show 2 * 0 + _ ≤ _; exact Nat.le_of_eq rfl) (hb hby d6_24) (fun _ _ => ⟨rfl, e0, (by decide : 0 + 0 ≤ _), (by decide : 0 + 0 ≤ _)⟩)
      dsimp only [Pt.U, Pt.locs, Pt.cells, Pt.slots] at X91 l91 y91 z91 st91 hQ91
      subst l91 y91 z91
      obtain ⟨rfl, Nq91, eh91⟩ := hQ91
      have N91 := Fr.app N0 Nq91
      refine Go.step st91 ?_
      show Go p e below T91 (mkF m 27 #[.val (.int p0), .val (.int p1), .val (.int p2), .val (.int p3), .val (.int (-1 : Int32))] [(.int (own_mx (-1 : Int32) p2))]) _
      refine Go.step (fun _ => XS.istore X91.here hx rfl (hb hby d6_27) rfl (l' := #[.val (.int p0), .val (.int p1), .val (.int p2), .val (.int p3), .val (.int (own_mx (-1 : Int32) p2))]) rfl) ?_
      show Go p e below T91 (mkF m 29 #[.val (.int p0), .val (.int p1), .val (.int p2), .val (.int p3), .val (.int (own_mx (-1 : Int32) p2))] []) _
      refine Go.step (fun _ => XS.iloadN X91.here hx rfl (hb hby d6_29) rfl ) ?_
      show Go p e below T91 (mkF m 30 #[.val (.int p0), .val (.int p1), .val (.int p2), .val (.int p3), .val (.int (own_mx (-1 : Int32) p2))] [(.int p3)]) _
      refine Go.step (fun _ => XS.iloadN X91.here hx rfl (hb hby d6_30) rfl ) ?_
      show Go p e below T91 (mkF m 31 #[.val (.int p0), .val (.int p1), .val (.int p2), .val (.int p3), .val (.int (own_mx (-1 : Int32) p2))] [(.int p0), (.int p3)]) _
      by_cases hc31 : p3 < p0
      · skip
        refine Go.step (fun _ => XS.icmpNo X91.here hx rfl (hb hby d6_31) rfl (tlt hc31).2.1) ?_
        show Go p e below T91 (mkF m 34 #[.val (.int p0), .val (.int p1), .val (.int p2), .val (.int p3), .val (.int (own_mx (-1 : Int32) p2))] []) _
        refine Go.step (fun _ => XS.iload X91.here hx rfl (hb hby d6_34) rfl ) ?_
        show Go p e below T91 (mkF m 36 #[.val (.int p0), .val (.int p1), .val (.int p2), .val (.int p3), .val (.int (own_mx (-1 : Int32) p2))] [(.int (own_mx (-1 : Int32) p2))]) _
        refine Go.step (fun _ => XS.iloadN X91.here hx rfl (hb hby d6_36) rfl ) ?_
        show Go p e below T91 (mkF m 37 #[.val (.int p0), .val (.int p1), .val (.int p2), .val (.int p3), .val (.int (own_mx (-1 : Int32) p2))] [(.int p3), (.int (own_mx (-1 : Int32) p2))]) _
        obtain ⟨_, _, ⟨T92, L92, k92, n92⟩, -, X92, ⟨Lc92, hQ92, l92, y92, z92⟩, st92⟩ := Jvm.LawKit.callS X91 hx (y := (⟨"java/lang/Math", "max", "(II)I"⟩ : MethodName)) hown (mvT hZ (hw _ (List.mem_of_getElem? (i := 48) rfl))) (mvT hZ (hw _ (List.mem_of_getElem? (i := 16) rfl))) (mvT hZ (hw _ (List.mem_of_getElem? (i := 17) rfl))) (mvT hZ (hw _ (List.mem_of_getElem? (i := 18) rfl))) (by decide) (backOf (W := 0) (rmMx l Z a0 hw [] (own_mx (-1 : Int32) p2) p3 (own_mx (own_mx (-1 : Int32) p2) p3) h0 n0 Z0 rfl) hZ (hw _ (List.mem_of_getElem? (i := 18) rfl)) (hw _ (List.mem_of_getElem? (i := 17) rfl)) (by decide) (by decide)) (g := (mkF m 37 #[.val (.int p0), .val (.int p1), .val (.int p2), .val (.int p3), .val (.int (own_mx (-1 : Int32) p2))] [(.int p3), (.int (own_mx (-1 : Int32) p2))])) rfl (by rw [hml]; rfl) (argsL := [(.int (own_mx (-1 : Int32) p2)), (.int p3)]) (rest := []) (lenOf pd_2 rfl) rfl (by show 2 * 0 + _ ≤ _; exact Nat.le_of_eq rfl) (hb hby d6_37) (fun _ _ => ⟨rfl, eh91, (by decide : 0 + 0 + 0 ≤ _), (by decide : 0 + 0 + 0 ≤ _)⟩)
        dsimp only [Pt.U, Pt.locs, Pt.cells, Pt.slots] at X92 l92 y92 z92 st92 hQ92
        subst l92 y92 z92
        obtain ⟨rfl, Nq92, eh92⟩ := hQ92
        have N92 := Fr.app N91 Nq92
        refine Go.step st92 ?_
        show Go p e below T92 (mkF m 40 #[.val (.int p0), .val (.int p1), .val (.int p2), .val (.int p3), .val (.int (own_mx (-1 : Int32) p2))] [(.int (own_mx (own_mx (-1 : Int32) p2) p3))]) _
        refine Go.step (fun _ => XS.istore X92.here hx rfl (hb hby d6_40) rfl (l' := #[.val (.int p0), .val (.int p1), .val (.int p2), .val (.int p3), .val (.int (own_mx (own_mx (-1 : Int32) p2) p3))]) rfl) ?_
        show Go p e below T92 (mkF m 42 #[.val (.int p0), .val (.int p1), .val (.int p2), .val (.int p3), .val (.int (own_mx (own_mx (-1 : Int32) p2) p3))] []) _
        refine Go.step (fun _ => XS.iload X92.here hx rfl (hb hby d6_42) rfl ) ?_
        show Go p e below T92 (mkF m 44 #[.val (.int p0), .val (.int p1), .val (.int p2), .val (.int p3), .val (.int (own_mx (own_mx (-1 : Int32) p2) p3))] [(.int (own_mx (own_mx (-1 : Int32) p2) p3))]) _
        refine Go.retI X92 hx hret hlk (hb hby d6_44) ?_ (by decide) (by decide)
        exact ⟨by simp only [own_refI, own_st, hc5, hc18, hc31, if_true, if_false], N92, eh92⟩
      · skip
        refine Go.step (fun _ => XS.icmpYes X91.here hx rfl (pc0 := 31) (pc' := 42) rfl (hb hby d6_31) rfl (flt hc31).2.1 (by decide) (by decide)) ?_
        show Go p e below T91 (mkF m 42 #[.val (.int p0), .val (.int p1), .val (.int p2), .val (.int p3), .val (.int (own_mx (-1 : Int32) p2))] []) _
        refine Go.step (fun _ => XS.iload X91.here hx rfl (hb hby d6_42) rfl ) ?_
        show Go p e below T91 (mkF m 44 #[.val (.int p0), .val (.int p1), .val (.int p2), .val (.int p3), .val (.int (own_mx (-1 : Int32) p2))] [(.int (own_mx (-1 : Int32) p2))]) _
        refine Go.retI X91 hx hret hlk (hb hby d6_44) ?_ (by decide) (by decide)
        exact ⟨by simp only [own_refI, own_st, hc5, hc18, hc31, if_true, if_false], N91, eh91⟩
    · skip
      refine Go.step (fun _ => XS.icmpYes X0.here hx rfl (pc0 := 18) (pc' := 29) rfl (hb hby d6_18) rfl (flt hc18).2.1 (by decide) (by decide)) ?_
      show Go p e below s₁ (mkF m 29 #[.val (.int p0), .val (.int p1), .val (.int p2), .val (.int p3), .val (.int (-1 : Int32))] []) _
      refine Go.step (fun _ => XS.iloadN X0.here hx rfl (hb hby d6_29) rfl ) ?_
      show Go p e below s₁ (mkF m 30 #[.val (.int p0), .val (.int p1), .val (.int p2), .val (.int p3), .val (.int (-1 : Int32))] [(.int p3)]) _
      refine Go.step (fun _ => XS.iloadN X0.here hx rfl (hb hby d6_30) rfl ) ?_
      show Go p e below s₁ (mkF m 31 #[.val (.int p0), .val (.int p1), .val (.int p2), .val (.int p3), .val (.int (-1 : Int32))] [(.int p0), (.int p3)]) _
      by_cases hc31 : p3 < p0
      · skip
        refine Go.step (fun _ => XS.icmpNo X0.here hx rfl (hb hby d6_31) rfl (tlt hc31).2.1) ?_
        show Go p e below s₁ (mkF m 34 #[.val (.int p0), .val (.int p1), .val (.int p2), .val (.int p3), .val (.int (-1 : Int32))] []) _
        refine Go.step (fun _ => XS.iload X0.here hx rfl (hb hby d6_34) rfl ) ?_
        show Go p e below s₁ (mkF m 36 #[.val (.int p0), .val (.int p1), .val (.int p2), .val (.int p3), .val (.int (-1 : Int32))] [(.int (-1 : Int32))]) _
        refine Go.step (fun _ => XS.iloadN X0.here hx rfl (hb hby d6_36) rfl ) ?_
        show Go p e below s₁ (mkF m 37 #[.val (.int p0), .val (.int p1), .val (.int p2), .val (.int p3), .val (.int (-1 : Int32))] [(.int p3), (.int (-1 : Int32))]) _
        obtain ⟨_, _, ⟨T93, L93, k93, n93⟩, -, X93, ⟨Lc93, hQ93, l93, y93, z93⟩, st93⟩ := Jvm.LawKit.callS X0 hx (y := (⟨"java/lang/Math", "max", "(II)I"⟩ : MethodName)) hown (mvT hZ (hw _ (List.mem_of_getElem? (i := 48) rfl))) (mvT hZ (hw _ (List.mem_of_getElem? (i := 16) rfl))) (mvT hZ (hw _ (List.mem_of_getElem? (i := 17) rfl))) (mvT hZ (hw _ (List.mem_of_getElem? (i := 18) rfl))) (by decide) (backOf (W := 0) (rmMx l Z a0 hw [] (-1 : Int32) p3 (own_mx (-1 : Int32) p3) h0 n0 Z0 rfl) hZ (hw _ (List.mem_of_getElem? (i := 18) rfl)) (hw _ (List.mem_of_getElem? (i := 17) rfl)) (by decide) (by decide)) (g := (mkF m 37 #[.val (.int p0), .val (.int p1), .val (.int p2), .val (.int p3), .val (.int (-1 : Int32))] [(.int p3), (.int (-1 : Int32))])) rfl (by rw [hml]; rfl) (argsL := [(.int (-1 : Int32)), (.int p3)]) (rest := []) (lenOf pd_2 rfl) rfl (by show 2 * 0 + _ ≤ _; exact Nat.le_of_eq rfl) (hb hby d6_37) (fun _ _ => ⟨rfl, e0, (by decide : 0 + 0 ≤ _), (by decide : 0 + 0 ≤ _)⟩)
        dsimp only [Pt.U, Pt.locs, Pt.cells, Pt.slots] at X93 l93 y93 z93 st93 hQ93
        subst l93 y93 z93
        obtain ⟨rfl, Nq93, eh93⟩ := hQ93
        have N93 := Fr.app N0 Nq93
        refine Go.step st93 ?_
        show Go p e below T93 (mkF m 40 #[.val (.int p0), .val (.int p1), .val (.int p2), .val (.int p3), .val (.int (-1 : Int32))] [(.int (own_mx (-1 : Int32) p3))]) _
        refine Go.step (fun _ => XS.istore X93.here hx rfl (hb hby d6_40) rfl (l' := #[.val (.int p0), .val (.int p1), .val (.int p2), .val (.int p3), .val (.int (own_mx (-1 : Int32) p3))]) rfl) ?_
        show Go p e below T93 (mkF m 42 #[.val (.int p0), .val (.int p1), .val (.int p2), .val (.int p3), .val (.int (own_mx (-1 : Int32) p3))] []) _
        refine Go.step (fun _ => XS.iload X93.here hx rfl (hb hby d6_42) rfl ) ?_
        show Go p e below T93 (mkF m 44 #[.val (.int p0), .val (.int p1), .val (.int p2), .val (.int p3), .val (.int (own_mx (-1 : Int32) p3))] [(.int (own_mx (-1 : Int32) p3))]) _
        refine Go.retI X93 hx hret hlk (hb hby d6_44) ?_ (by decide) (by decide)
        exact ⟨by simp only [own_refI, own_st, hc5, hc18, hc31, if_true, if_false], N93, eh93⟩
      · skip
        refine Go.step (fun _ => XS.icmpYes X0.here hx rfl (pc0 := 31) (pc' := 42) rfl (hb hby d6_31) rfl (flt hc31).2.1 (by decide) (by decide)) ?_
        show Go p e below s₁ (mkF m 42 #[.val (.int p0), .val (.int p1), .val (.int p2), .val (.int p3), .val (.int (-1 : Int32))] []) _
        refine Go.step (fun _ => XS.iload X0.here hx rfl (hb hby d6_42) rfl ) ?_
        show Go p e below s₁ (mkF m 44 #[.val (.int p0), .val (.int p1), .val (.int p2), .val (.int p3), .val (.int (-1 : Int32))] [(.int (-1 : Int32))]) _
        refine Go.retI X0 hx hret hlk (hb hby d6_44) ?_ (by decide) (by decide)
        exact ⟨by simp only [own_refI, own_st, hc5, hc18, hc31, if_true, if_false], N0, e0⟩
theorem pd_3 : parseMethodDescriptor "(I)V" = some ⟨[.int], none⟩ := by decide +kernel
theorem pd_4 : parseMethodDescriptor "(IIII)I" = some ⟨[.int, .int, .int, .int], some .int⟩ := by decide +kernel
theorem ef_rm0 (m : MethodId) (x0 : Int32) (x1 : Int32) (x2 : Int32) (x3 : Int32) (x4 : Int32) : entryFrame m #[(.int x0), (.int x1), (.int x2), (.int x3), (.int x4)] maxLocals = mkF m 0 #[.val (.int x0), .val (.int x1), .val (.int x2), .val (.int x3), .val (.int x4), .unset, .unset, .unset, .unset, .unset, .unset, .unset] [] := by first | (simp [entryFrame, mkF, argsToLocals, Value.category, maxLocals]; done) | rfl
def Q0 (Z : State) (p0 p1 p2 p3 p4 : Int32) (h0 : Heap) (n0 : Nat) (v : Option Value) (h : Heap) (L : List Loc) : Prop := v = some (.int 1) ∧ Fr n0 L
set_option maxRecDepth 65536 in
set_option maxHeartbeats 40000000 in
theorem rm0 (l : Launch) (Z : State) (a0 : Array Value) (hw : ∀ d ∈ tables_1, d.before a0 Z = true) (ws : List Jvm.Cond) (p0 p1 p2 p3 p4 : Int32) (h0 : Heap) (n0 : Nat) (Z0 : n0 ≤ h0.size)  :
    MetFree l x (head1 (Jvm.Cond.code x code maxLocals ret :: ws) room_1) (fun as' U => as' = #[(.int p0), (.int p1), (.int p2), (.int p3), (.int p4)] ∧ Z.Warmed39 U.vm ∧ U.heap = h0) (fun _ _ _ _ _ => True) (fun _ U o U' => ∃ v L, o = .returned v ∧ Q0 Z p0 p1 p2 p3 p4 h0 n0 v U'.heap L ∧ FrameEnd U o U' L 24 33408) := by
  refine MetFree.of_bodySF (plainFor_of_name pn_3) hisR ?_
  intro p e s m args below meth c s₁ Bd hml0 hP hK
  obtain ⟨rfl, hZ, hh⟩ := hP
  have hx := Bd.exec
  have hby := Bd.bytes
  have hml : c.maxLocals = 12 := hml0
  have hown : s.vm.findClass "com/example/maxhue/maxhue/PointSetAddPinLaw" = some m.cls := findClass_of_methodNamed Bd.named
  have hnm := (name_of_methodNamed Bd.named Bd.method).1
  have hlk : meth.locks = false := Bd.notSynchronized
  have hret := Bd.returns
  have X0 : Stand p l e room_1 s m #[(.int p0), (.int p1), (.int p2), (.int p3), (.int p4)] below meth c s₁ [] 0 0 := Stand.of_body Bd
  have e0 : s₁.heap = h0 := by rw [← hh, Bd.state]; rfl
  have N0 := Fr.nil n0
  show Go p e below s₁ (entryFrame m #[(.int p0), (.int p1), (.int p2), (.int p3), (.int p4)] maxLocals) (Fin s (Q0 Z p0 p1 p2 p3 p4 h0 n0) 24 33408)
  rw [ef_rm0]
  show Go p e below s₁ (mkF m 0 #[.val (.int p0), .val (.int p1), .val (.int p2), .val (.int p3), .val (.int p4), .unset, .unset, .unset, .unset, .unset, .unset, .unset] []) _
  refine Go.step (fun _ => XS.iconst X0.here hx rfl (hb hby at_0)) ?_
  show Go p e below s₁ (mkF m 1 #[.val (.int p0), .val (.int p1), .val (.int p2), .val (.int p3), .val (.int p4), .unset, .unset, .unset, .unset, .unset, .unset, .unset] [(.int (1 : Int32))]) _
  refine Go.step (fun _ => XS.iloadN X0.here hx rfl (hb hby at_1) rfl ) ?_
  show Go p e below s₁ (mkF m 2 #[.val (.int p0), .val (.int p1), .val (.int p2), .val (.int p3), .val (.int p4), .unset, .unset, .unset, .unset, .unset, .unset, .unset] [(.int p0), (.int (1 : Int32))]) _
  refine Go.step (fun _ => X0.ldcInt hx hown (mvT hZ (hw _ (List.mem_of_getElem? (i := 0) rfl))) (g := (mkF m 2 #[.val (.int p0), .val (.int p1), .val (.int p2), .val (.int p3), .val (.int p4), .unset, .unset, .unset, .unset, .unset, .unset, .unset] [(.int p0), (.int (1 : Int32))])) rfl (hb hby at_2) _) ?_
  show Go p e below s₁ (mkF m 4 #[.val (.int p0), .val (.int p1), .val (.int p2), .val (.int p3), .val (.int p4), .unset, .unset, .unset, .unset, .unset, .unset, .unset] [(.int (1048575 : Int32)), (.int p0), (.int (1 : Int32))]) _
  refine Go.step (fun _ => XS.iand X0.here hx rfl (hb hby at_4) rfl) ?_
  show Go p e below s₁ (mkF m 5 #[.val (.int p0), .val (.int p1), .val (.int p2), .val (.int p3), .val (.int p4), .unset, .unset, .unset, .unset, .unset, .unset, .unset] [(.int (p0 &&& (1048575 : Int32))), (.int (1 : Int32))]) _
  refine Go.step (fun _ => XS.iadd X0.here hx rfl (hb hby at_5) rfl) ?_
  show Go p e below s₁ (mkF m 6 #[.val (.int p0), .val (.int p1), .val (.int p2), .val (.int p3), .val (.int p4), .unset, .unset, .unset, .unset, .unset, .unset, .unset] [(.int ((1 : Int32) + (p0 &&& (1048575 : Int32))))]) _
  obtain ⟨N, hN1, hN2, hNe⟩ := own_cnt p0 1048575 20 (by decide) (by decide)
  rw [hNe]
  have hNb : N ≤ 1048576 := hN2
  clear hN2 hNe
  show Go p e below s₁ (mkF m 6 #[.val (.int p0), .val (.int p1), .val (.int p2), .val (.int p3), .val (.int p4), .unset, .unset, .unset, .unset, .unset, .unset, .unset] [(.int (Int32.ofNat N))]) _
  refine Go.step (fun _ => XS.istore X0.here hx rfl (hb hby at_6) rfl (l' := #[.val (.int p0), .val (.int p1), .val (.int p2), .val (.int p3), .val (.int p4), .val (.int (Int32.ofNat N)), .unset, .unset, .unset, .unset, .unset, .unset]) rfl) ?_
  show Go p e below s₁ (mkF m 8 #[.val (.int p0), .val (.int p1), .val (.int p2), .val (.int p3), .val (.int p4), .val (.int (Int32.ofNat N)), .unset, .unset, .unset, .unset, .unset, .unset] []) _
  refine Go.step (fun _ => XS.iloadN X0.here hx rfl (hb hby at_8) rfl ) ?_
  show Go p e below s₁ (mkF m 9 #[.val (.int p0), .val (.int p1), .val (.int p2), .val (.int p3), .val (.int p4), .val (.int (Int32.ofNat N)), .unset, .unset, .unset, .unset, .unset, .unset] [(.int p1)]) _
  refine Go.step (fun _ => X0.ldcInt hx hown (mvT hZ (hw _ (List.mem_of_getElem? (i := 1) rfl))) (g := (mkF m 9 #[.val (.int p0), .val (.int p1), .val (.int p2), .val (.int p3), .val (.int p4), .val (.int (Int32.ofNat N)), .unset, .unset, .unset, .unset, .unset, .unset] [(.int p1)])) rfl (hb hby at_9) _) ?_
  show Go p e below s₁ (mkF m 11 #[.val (.int p0), .val (.int p1), .val (.int p2), .val (.int p3), .val (.int p4), .val (.int (Int32.ofNat N)), .unset, .unset, .unset, .unset, .unset, .unset] [(.int (2147483647 : Int32)), (.int p1)]) _
  refine Go.step (fun _ => XS.iand X0.here hx rfl (hb hby at_11) rfl) ?_
  show Go p e below s₁ (mkF m 12 #[.val (.int p0), .val (.int p1), .val (.int p2), .val (.int p3), .val (.int p4), .val (.int (Int32.ofNat N)), .unset, .unset, .unset, .unset, .unset, .unset] [(.int (p1 &&& (2147483647 : Int32)))]) _
  refine Go.step (fun _ => XS.iload X0.here hx rfl (hb hby at_12) rfl ) ?_
  show Go p e below s₁ (mkF m 14 #[.val (.int p0), .val (.int p1), .val (.int p2), .val (.int p3), .val (.int p4), .val (.int (Int32.ofNat N)), .unset, .unset, .unset, .unset, .unset, .unset] [(.int (Int32.ofNat N)), (.int (p1 &&& (2147483647 : Int32)))]) _
  refine Go.step (fun _ => iremM X0 hx rfl (hb hby at_14) rfl (own_nz (by omega) (by omega))) ?_
  show Go p e below s₁ (mkF m 15 #[.val (.int p0), .val (.int p1), .val (.int p2), .val (.int p3), .val (.int p4), .val (.int (Int32.ofNat N)), .unset, .unset, .unset, .unset, .unset, .unset] [(.int ((p1 &&& (2147483647 : Int32)) % (Int32.ofNat N)))]) _
  obtain ⟨P1, hP1, hPe1⟩ := own_mod (x := p1) (n := N) (by omega) (by omega)
  rw [hPe1]
  clear hPe1
  show Go p e below s₁ (mkF m 15 #[.val (.int p0), .val (.int p1), .val (.int p2), .val (.int p3), .val (.int p4), .val (.int (Int32.ofNat N)), .unset, .unset, .unset, .unset, .unset, .unset] [(.int (Int32.ofNat P1))]) _
  refine Go.step (fun _ => XS.istore X0.here hx rfl (hb hby at_15) rfl (l' := #[.val (.int p0), .val (.int p1), .val (.int p2), .val (.int p3), .val (.int p4), .val (.int (Int32.ofNat N)), .val (.int (Int32.ofNat P1)), .unset, .unset, .unset, .unset, .unset]) rfl) ?_
  show Go p e below s₁ (mkF m 17 #[.val (.int p0), .val (.int p1), .val (.int p2), .val (.int p3), .val (.int p4), .val (.int (Int32.ofNat N)), .val (.int (Int32.ofNat P1)), .unset, .unset, .unset, .unset, .unset] []) _
  refine Go.step (fun _ => XS.iloadN X0.here hx rfl (hb hby at_17) rfl ) ?_
  show Go p e below s₁ (mkF m 18 #[.val (.int p0), .val (.int p1), .val (.int p2), .val (.int p3), .val (.int p4), .val (.int (Int32.ofNat N)), .val (.int (Int32.ofNat P1)), .unset, .unset, .unset, .unset, .unset] [(.int p2)]) _
  refine Go.step (fun _ => X0.ldcInt hx hown (mvT hZ (hw _ (List.mem_of_getElem? (i := 1) rfl))) (g := (mkF m 18 #[.val (.int p0), .val (.int p1), .val (.int p2), .val (.int p3), .val (.int p4), .val (.int (Int32.ofNat N)), .val (.int (Int32.ofNat P1)), .unset, .unset, .unset, .unset, .unset] [(.int p2)])) rfl (hb hby at_18) _) ?_
  show Go p e below s₁ (mkF m 20 #[.val (.int p0), .val (.int p1), .val (.int p2), .val (.int p3), .val (.int p4), .val (.int (Int32.ofNat N)), .val (.int (Int32.ofNat P1)), .unset, .unset, .unset, .unset, .unset] [(.int (2147483647 : Int32)), (.int p2)]) _
  refine Go.step (fun _ => XS.iand X0.here hx rfl (hb hby at_20) rfl) ?_
  show Go p e below s₁ (mkF m 21 #[.val (.int p0), .val (.int p1), .val (.int p2), .val (.int p3), .val (.int p4), .val (.int (Int32.ofNat N)), .val (.int (Int32.ofNat P1)), .unset, .unset, .unset, .unset, .unset] [(.int (p2 &&& (2147483647 : Int32)))]) _
  refine Go.step (fun _ => XS.iload X0.here hx rfl (hb hby at_21) rfl ) ?_
  show Go p e below s₁ (mkF m 23 #[.val (.int p0), .val (.int p1), .val (.int p2), .val (.int p3), .val (.int p4), .val (.int (Int32.ofNat N)), .val (.int (Int32.ofNat P1)), .unset, .unset, .unset, .unset, .unset] [(.int (Int32.ofNat N)), (.int (p2 &&& (2147483647 : Int32)))]) _
  refine Go.step (fun _ => iremM X0 hx rfl (hb hby at_23) rfl (own_nz (by omega) (by omega))) ?_
  show Go p e below s₁ (mkF m 24 #[.val (.int p0), .val (.int p1), .val (.int p2), .val (.int p3), .val (.int p4), .val (.int (Int32.ofNat N)), .val (.int (Int32.ofNat P1)), .unset, .unset, .unset, .unset, .unset] [(.int ((p2 &&& (2147483647 : Int32)) % (Int32.ofNat N)))]) _
  obtain ⟨P2, hP2, hPe2⟩ := own_mod (x := p2) (n := N) (by omega) (by omega)
  rw [hPe2]
  clear hPe2
  show Go p e below s₁ (mkF m 24 #[.val (.int p0), .val (.int p1), .val (.int p2), .val (.int p3), .val (.int p4), .val (.int (Int32.ofNat N)), .val (.int (Int32.ofNat P1)), .unset, .unset, .unset, .unset, .unset] [(.int (Int32.ofNat P2))]) _
  refine Go.step (fun _ => XS.istore X0.here hx rfl (hb hby at_24) rfl (l' := #[.val (.int p0), .val (.int p1), .val (.int p2), .val (.int p3), .val (.int p4), .val (.int (Int32.ofNat N)), .val (.int (Int32.ofNat P1)), .val (.int (Int32.ofNat P2)), .unset, .unset, .unset, .unset]) rfl) ?_
  show Go p e below s₁ (mkF m 26 #[.val (.int p0), .val (.int p1), .val (.int p2), .val (.int p3), .val (.int p4), .val (.int (Int32.ofNat N)), .val (.int (Int32.ofNat P1)), .val (.int (Int32.ofNat P2)), .unset, .unset, .unset, .unset] []) _
  refine Go.step (fun _ => XS.iloadN X0.here hx rfl (hb hby at_26) rfl ) ?_
  show Go p e below s₁ (mkF m 27 #[.val (.int p0), .val (.int p1), .val (.int p2), .val (.int p3), .val (.int p4), .val (.int (Int32.ofNat N)), .val (.int (Int32.ofNat P1)), .val (.int (Int32.ofNat P2)), .unset, .unset, .unset, .unset] [(.int p3)]) _
  refine Go.step (fun _ => X0.ldcInt hx hown (mvT hZ (hw _ (List.mem_of_getElem? (i := 1) rfl))) (g := (mkF m 27 #[.val (.int p0), .val (.int p1), .val (.int p2), .val (.int p3), .val (.int p4), .val (.int (Int32.ofNat N)), .val (.int (Int32.ofNat P1)), .val (.int (Int32.ofNat P2)), .unset, .unset, .unset, .unset] [(.int p3)])) rfl (hb hby at_27) _) ?_
  show Go p e below s₁ (mkF m 29 #[.val (.int p0), .val (.int p1), .val (.int p2), .val (.int p3), .val (.int p4), .val (.int (Int32.ofNat N)), .val (.int (Int32.ofNat P1)), .val (.int (Int32.ofNat P2)), .unset, .unset, .unset, .unset] [(.int (2147483647 : Int32)), (.int p3)]) _
  refine Go.step (fun _ => XS.iand X0.here hx rfl (hb hby at_29) rfl) ?_
  show Go p e below s₁ (mkF m 30 #[.val (.int p0), .val (.int p1), .val (.int p2), .val (.int p3), .val (.int p4), .val (.int (Int32.ofNat N)), .val (.int (Int32.ofNat P1)), .val (.int (Int32.ofNat P2)), .unset, .unset, .unset, .unset] [(.int (p3 &&& (2147483647 : Int32)))]) _
  refine Go.step (fun _ => XS.iload X0.here hx rfl (hb hby at_30) rfl ) ?_
  show Go p e below s₁ (mkF m 32 #[.val (.int p0), .val (.int p1), .val (.int p2), .val (.int p3), .val (.int p4), .val (.int (Int32.ofNat N)), .val (.int (Int32.ofNat P1)), .val (.int (Int32.ofNat P2)), .unset, .unset, .unset, .unset] [(.int (Int32.ofNat N)), (.int (p3 &&& (2147483647 : Int32)))]) _
  refine Go.step (fun _ => iremM X0 hx rfl (hb hby at_32) rfl (own_nz (by omega) (by omega))) ?_
  show Go p e below s₁ (mkF m 33 #[.val (.int p0), .val (.int p1), .val (.int p2), .val (.int p3), .val (.int p4), .val (.int (Int32.ofNat N)), .val (.int (Int32.ofNat P1)), .val (.int (Int32.ofNat P2)), .unset, .unset, .unset, .unset] [(.int ((p3 &&& (2147483647 : Int32)) % (Int32.ofNat N)))]) _
  obtain ⟨P3, hP3, hPe3⟩ := own_mod (x := p3) (n := N) (by omega) (by omega)
  rw [hPe3]
  clear hPe3
  show Go p e below s₁ (mkF m 33 #[.val (.int p0), .val (.int p1), .val (.int p2), .val (.int p3), .val (.int p4), .val (.int (Int32.ofNat N)), .val (.int (Int32.ofNat P1)), .val (.int (Int32.ofNat P2)), .unset, .unset, .unset, .unset] [(.int (Int32.ofNat P3))]) _
  refine Go.step (fun _ => XS.istore X0.here hx rfl (hb hby at_33) rfl (l' := #[.val (.int p0), .val (.int p1), .val (.int p2), .val (.int p3), .val (.int p4), .val (.int (Int32.ofNat N)), .val (.int (Int32.ofNat P1)), .val (.int (Int32.ofNat P2)), .val (.int (Int32.ofNat P3)), .unset, .unset, .unset]) rfl) ?_
  show Go p e below s₁ (mkF m 35 #[.val (.int p0), .val (.int p1), .val (.int p2), .val (.int p3), .val (.int p4), .val (.int (Int32.ofNat N)), .val (.int (Int32.ofNat P1)), .val (.int (Int32.ofNat P2)), .val (.int (Int32.ofNat P3)), .unset, .unset, .unset] []) _
  refine Go.step (fun _ => XS.iload X0.here hx rfl (hb hby at_35) rfl ) ?_
  show Go p e below s₁ (mkF m 37 #[.val (.int p0), .val (.int p1), .val (.int p2), .val (.int p3), .val (.int p4), .val (.int (Int32.ofNat N)), .val (.int (Int32.ofNat P1)), .val (.int (Int32.ofNat P2)), .val (.int (Int32.ofNat P3)), .unset, .unset, .unset] [(.int p4)]) _
  refine Go.step (fun _ => X0.ldcInt hx hown (mvT hZ (hw _ (List.mem_of_getElem? (i := 1) rfl))) (g := (mkF m 37 #[.val (.int p0), .val (.int p1), .val (.int p2), .val (.int p3), .val (.int p4), .val (.int (Int32.ofNat N)), .val (.int (Int32.ofNat P1)), .val (.int (Int32.ofNat P2)), .val (.int (Int32.ofNat P3)), .unset, .unset, .unset] [(.int p4)])) rfl (hb hby at_37) _) ?_
  show Go p e below s₁ (mkF m 39 #[.val (.int p0), .val (.int p1), .val (.int p2), .val (.int p3), .val (.int p4), .val (.int (Int32.ofNat N)), .val (.int (Int32.ofNat P1)), .val (.int (Int32.ofNat P2)), .val (.int (Int32.ofNat P3)), .unset, .unset, .unset] [(.int (2147483647 : Int32)), (.int p4)]) _
  refine Go.step (fun _ => XS.iand X0.here hx rfl (hb hby at_39) rfl) ?_
  show Go p e below s₁ (mkF m 40 #[.val (.int p0), .val (.int p1), .val (.int p2), .val (.int p3), .val (.int p4), .val (.int (Int32.ofNat N)), .val (.int (Int32.ofNat P1)), .val (.int (Int32.ofNat P2)), .val (.int (Int32.ofNat P3)), .unset, .unset, .unset] [(.int (p4 &&& (2147483647 : Int32)))]) _
  refine Go.step (fun _ => XS.iload X0.here hx rfl (hb hby at_40) rfl ) ?_
  show Go p e below s₁ (mkF m 42 #[.val (.int p0), .val (.int p1), .val (.int p2), .val (.int p3), .val (.int p4), .val (.int (Int32.ofNat N)), .val (.int (Int32.ofNat P1)), .val (.int (Int32.ofNat P2)), .val (.int (Int32.ofNat P3)), .unset, .unset, .unset] [(.int (Int32.ofNat N)), (.int (p4 &&& (2147483647 : Int32)))]) _
  refine Go.step (fun _ => XS.iconst X0.here hx rfl (hb hby at_42)) ?_
  show Go p e below s₁ (mkF m 43 #[.val (.int p0), .val (.int p1), .val (.int p2), .val (.int p3), .val (.int p4), .val (.int (Int32.ofNat N)), .val (.int (Int32.ofNat P1)), .val (.int (Int32.ofNat P2)), .val (.int (Int32.ofNat P3)), .unset, .unset, .unset] [(.int (1 : Int32)), (.int (Int32.ofNat N)), (.int (p4 &&& (2147483647 : Int32)))]) _
  refine Go.step (fun _ => XS.iadd X0.here hx rfl (hb hby at_43) rfl) ?_
  show Go p e below s₁ (mkF m 44 #[.val (.int p0), .val (.int p1), .val (.int p2), .val (.int p3), .val (.int p4), .val (.int (Int32.ofNat N)), .val (.int (Int32.ofNat P1)), .val (.int (Int32.ofNat P2)), .val (.int (Int32.ofNat P3)), .unset, .unset, .unset] [(.int ((Int32.ofNat N) + (1 : Int32))), (.int (p4 &&& (2147483647 : Int32)))]) _
  rw [show Int32.ofNat N + (1 : Int32) = Int32.ofNat (N + 1) from own_add N 1]
  show Go p e below s₁ (mkF m 44 #[.val (.int p0), .val (.int p1), .val (.int p2), .val (.int p3), .val (.int p4), .val (.int (Int32.ofNat N)), .val (.int (Int32.ofNat P1)), .val (.int (Int32.ofNat P2)), .val (.int (Int32.ofNat P3)), .unset, .unset, .unset] [(.int (Int32.ofNat (N + 1))), (.int (p4 &&& (2147483647 : Int32)))]) _
  refine Go.step (fun _ => iremM X0 hx rfl (hb hby at_44) rfl (own_nz (by omega) (by omega))) ?_
  show Go p e below s₁ (mkF m 45 #[.val (.int p0), .val (.int p1), .val (.int p2), .val (.int p3), .val (.int p4), .val (.int (Int32.ofNat N)), .val (.int (Int32.ofNat P1)), .val (.int (Int32.ofNat P2)), .val (.int (Int32.ofNat P3)), .unset, .unset, .unset] [(.int ((p4 &&& (2147483647 : Int32)) % (Int32.ofNat (N + 1))))]) _
  obtain ⟨Xq, hXq, hXe⟩ := own_mod (x := p4) (n := N + 1) (by omega) (by omega)
  rw [hXe]
  clear hXe
  show Go p e below s₁ (mkF m 45 #[.val (.int p0), .val (.int p1), .val (.int p2), .val (.int p3), .val (.int p4), .val (.int (Int32.ofNat N)), .val (.int (Int32.ofNat P1)), .val (.int (Int32.ofNat P2)), .val (.int (Int32.ofNat P3)), .unset, .unset, .unset] [(.int (Int32.ofNat Xq))]) _
  refine Go.step (fun _ => XS.istore X0.here hx rfl (hb hby at_45) rfl (l' := #[.val (.int p0), .val (.int p1), .val (.int p2), .val (.int p3), .val (.int p4), .val (.int (Int32.ofNat N)), .val (.int (Int32.ofNat P1)), .val (.int (Int32.ofNat P2)), .val (.int (Int32.ofNat P3)), .val (.int (Int32.ofNat Xq)), .unset, .unset]) rfl) ?_
  show Go p e below s₁ (mkF m 47 #[.val (.int p0), .val (.int p1), .val (.int p2), .val (.int p3), .val (.int p4), .val (.int (Int32.ofNat N)), .val (.int (Int32.ofNat P1)), .val (.int (Int32.ofNat P2)), .val (.int (Int32.ofNat P3)), .val (.int (Int32.ofNat Xq)), .unset, .unset] []) _
  obtain ⟨T94, h94, X94, e94, E94, A94, D94, -, st94⟩ := newO X0 hx hZ hown (hw _ (List.mem_of_getElem? (i := 2) rfl)) (hw _ (List.mem_of_getElem? (i := 3) rfl)) (hw _ (List.mem_of_getElem? (i := 4) rfl)) e0 (g := (mkF m 47 #[.val (.int p0), .val (.int p1), .val (.int p2), .val (.int p3), .val (.int p4), .val (.int (Int32.ofNat N)), .val (.int (Int32.ofNat P1)), .val (.int (Int32.ofNat P2)), .val (.int (Int32.ofNat P3)), .val (.int (Int32.ofNat Xq)), .unset, .unset] [])) rfl (hb hby at_47) (by decide) (by decide)
  obtain ⟨b94, g94⟩ : ∃ z, z = h0.size := ⟨_, rfl⟩
  rw [← g94] at A94 D94 st94
  have g_b94 : n0 ≤ b94 := Nat.le_trans Z0 (Nat.le_of_eq g94.symm)
  have Z94 : n0 ≤ h94.size := Nat.le_trans Z0 E94.1
  refine Go.step st94 ?_
  have F_levels_b94 : Fld Z h94 b94 "com/example/maxhue/maxhue/PointSet" "levels" "[[J" .null := D94 (Or.inr (hw _ (List.mem_of_getElem? (i := 14) rfl))) (ty := (.array (.array .long))) (by decide)
  show Go p e below T94 (mkF m 50 #[.val (.int p0), .val (.int p1), .val (.int p2), .val (.int p3), .val (.int p4), .val (.int (Int32.ofNat N)), .val (.int (Int32.ofNat P1)), .val (.int (Int32.ofNat P2)), .val (.int (Int32.ofNat P3)), .val (.int (Int32.ofNat Xq)), .unset, .unset] [(.ref b94)]) _
  refine Go.step (fun _ => XS.dup X94.here hx rfl (hb hby at_50) rfl rfl) ?_
  show Go p e below T94 (mkF m 51 #[.val (.int p0), .val (.int p1), .val (.int p2), .val (.int p3), .val (.int p4), .val (.int (Int32.ofNat N)), .val (.int (Int32.ofNat P1)), .val (.int (Int32.ofNat P2)), .val (.int (Int32.ofNat P3)), .val (.int (Int32.ofNat Xq)), .unset, .unset] [(.ref b94), (.ref b94)]) _
  refine Go.step (fun _ => XS.iload X94.here hx rfl (hb hby at_51) rfl ) ?_
  show Go p e below T94 (mkF m 53 #[.val (.int p0), .val (.int p1), .val (.int p2), .val (.int p3), .val (.int p4), .val (.int (Int32.ofNat N)), .val (.int (Int32.ofNat P1)), .val (.int (Int32.ofNat P2)), .val (.int (Int32.ofNat P3)), .val (.int (Int32.ofNat Xq)), .unset, .unset] [(.int (Int32.ofNat N)), (.ref b94), (.ref b94)]) _
  obtain ⟨_, _, ⟨T95, L95, k95, n95⟩, -, X95, ⟨Lc95, hQ95, l95, y95, z95⟩, st95⟩ := X94.specialBack hx (y := (⟨"com/example/maxhue/maxhue/PointSet", "<init>", "(I)V"⟩ : MethodName)) rfl hown (mvT hZ (hw _ (List.mem_of_getElem? (i := 5) rfl))) (mvT hZ (hw _ (List.mem_of_getElem? (i := 6) rfl))) (mvT hZ (hw _ (List.mem_of_getElem? (i := 7) rfl))) (by decide) (backOf (W := 1) (rmCtor l Z a0 hw [] b94 N h94 n0 Z94 hN1 hNb A94 F_levels_b94 g_b94) hZ (hw _ (List.mem_of_getElem? (i := 7) rfl)) (hw _ (List.mem_of_getElem? (i := 4) rfl)) (by decide) (by decide)) (g := (mkF m 53 #[.val (.int p0), .val (.int p1), .val (.int p2), .val (.int p3), .val (.int p4), .val (.int (Int32.ofNat N)), .val (.int (Int32.ofNat P1)), .val (.int (Int32.ofNat P2)), .val (.int (Int32.ofNat P3)), .val (.int (Int32.ofNat Xq)), .unset, .unset] [(.int (Int32.ofNat N)), (.ref b94), (.ref b94)])) rfl (by rw [hml]; rfl) (Steps.refl _) (a := b94) (argsL := [(.int (Int32.ofNat N))]) (rest := [(.ref b94)]) (lenOf pd_3 rfl) rfl (by show 2 * 0 + _ ≤ _; exact Nat.le_of_eq rfl) (hb hby at_53) (fun _ _ => ⟨rfl, e94, (by decide : 0 + 1 + 5 ≤ _), (by decide : 0 + 1 + 16649 ≤ _)⟩)
  dsimp only [Pt.U, Pt.locs, Pt.cells, Pt.slots] at X95 l95 y95 z95 st95 hQ95
  subst l95 y95 z95
  obtain ⟨rfl, Nq95, Zs95, A95, M95, lv95, hM1, hM4, Tr95, htop⟩ := hQ95
  have N95 := Fr.app N0 Nq95
  refine Go.call st95 ?_
  have hszb : ∀ k, k < M95 → szN N k < 2 ^ 31 := fun k _ => by have := own_szLe (N := N) k; omega
  show Go p e below T95 (mkF m 56 #[.val (.int p0), .val (.int p1), .val (.int p2), .val (.int p3), .val (.int p4), .val (.int (Int32.ofNat N)), .val (.int (Int32.ofNat P1)), .val (.int (Int32.ofNat P2)), .val (.int (Int32.ofNat P3)), .val (.int (Int32.ofNat Xq)), .unset, .unset] [(.ref b94)]) _
  refine Go.step (fun _ => XS.astore X95.here hx rfl (hb hby at_56) rfl rfl (l' := #[.val (.int p0), .val (.int p1), .val (.int p2), .val (.int p3), .val (.int p4), .val (.int (Int32.ofNat N)), .val (.int (Int32.ofNat P1)), .val (.int (Int32.ofNat P2)), .val (.int (Int32.ofNat P3)), .val (.int (Int32.ofNat Xq)), .val (.ref b94), .unset]) rfl) ?_
  show Go p e below T95 (mkF m 58 #[.val (.int p0), .val (.int p1), .val (.int p2), .val (.int p3), .val (.int p4), .val (.int (Int32.ofNat N)), .val (.int (Int32.ofNat P1)), .val (.int (Int32.ofNat P2)), .val (.int (Int32.ofNat P3)), .val (.int (Int32.ofNat Xq)), .val (.ref b94), .unset] []) _
  refine Go.step (fun _ => XS.aload X95.here hx rfl (hb hby at_58) rfl rfl ) ?_
  show Go p e below T95 (mkF m 60 #[.val (.int p0), .val (.int p1), .val (.int p2), .val (.int p3), .val (.int p4), .val (.int (Int32.ofNat N)), .val (.int (Int32.ofNat P1)), .val (.int (Int32.ofNat P2)), .val (.int (Int32.ofNat P3)), .val (.int (Int32.ofNat Xq)), .val (.ref b94), .unset] [(.ref b94)]) _
  refine Go.step (fun _ => XS.iload X95.here hx rfl (hb hby at_60) rfl ) ?_
  show Go p e below T95 (mkF m 62 #[.val (.int p0), .val (.int p1), .val (.int p2), .val (.int p3), .val (.int p4), .val (.int (Int32.ofNat N)), .val (.int (Int32.ofNat P1)), .val (.int (Int32.ofNat P2)), .val (.int (Int32.ofNat P3)), .val (.int (Int32.ofNat Xq)), .val (.ref b94), .unset] [(.int (Int32.ofNat P1)), (.ref b94)]) _
  obtain ⟨cq96, kq96, q96a, q96b, q96c⟩ := isOf hZ rfl Tr95.1
  obtain ⟨_, _, ⟨T96, L96, k96, n96⟩, -, X96, ⟨Lc96, hQ96, l96, y96, z96⟩, st96⟩ := X95.virtualBack hx (y := (⟨"com/example/maxhue/maxhue/PointSet", "add", "(I)V"⟩ : MethodName)) (z := (⟨"com/example/maxhue/maxhue/PointSet", "add", "(I)V"⟩ : MethodName)) hown (mvT hZ (hw _ (List.mem_of_getElem? (i := 21) rfl))) (mvT hZ (hw _ (List.mem_of_getElem? (i := 22) rfl))) (notFace_of_selects (args := #[]) (mvT hZ (hw _ (List.mem_of_getElem? (i := 24) rfl)))) (mvT hZ (hw _ (List.mem_of_getElem? (i := 24) rfl))) (mvT hZ (hw _ (List.mem_of_getElem? (i := 23) rfl))) (by decide) (backOf (W := 0) (rmAdd l Z a0 hw [] b94 A95 M95 lv95 (szN N) (fun _ _ => 0) _ P1 T95.heap n0 Zs95 Tr95 own_rep0 (by omega) hszb (by omega) (own_pt hP1 _)) hZ (hw _ (List.mem_of_getElem? (i := 25) rfl)) (hw _ (List.mem_of_getElem? (i := 4) rfl)) (by decide) (by decide)) q96a q96c (g := (mkF m 62 #[.val (.int p0), .val (.int p1), .val (.int p2), .val (.int p3), .val (.int p4), .val (.int (Int32.ofNat N)), .val (.int (Int32.ofNat P1)), .val (.int (Int32.ofNat P2)), .val (.int (Int32.ofNat P3)), .val (.int (Int32.ofNat Xq)), .val (.ref b94), .unset] [(.int (Int32.ofNat P1)), (.ref b94)])) rfl (by rw [hml]; rfl) (Steps.refl _) (argsL := [(.int (Int32.ofNat P1))]) (rest := []) (lenOf pd_3 rfl) rfl (by show 2 * 0 + _ ≤ _; exact Nat.le_of_eq rfl) (hb hby at_62) (fun _ _ => ⟨rfl, rfl, (by decide : 0 + 1 + 5 + 0 ≤ _), (by decide : 0 + 1 + 16649 + 0 ≤ _)⟩)
  dsimp only [Pt.U, Pt.locs, Pt.cells, Pt.slots] at X96 l96 y96 z96 st96 hQ96
  subst l96 y96 z96
  obtain ⟨rfl, Nq96, Zs96, f96, Tr96, R96⟩ := hQ96
  have N96 := Fr.app N95 Nq96
  refine Go.call st96 ?_
  show Go p e below T96 (mkF m 65 #[.val (.int p0), .val (.int p1), .val (.int p2), .val (.int p3), .val (.int p4), .val (.int (Int32.ofNat N)), .val (.int (Int32.ofNat P1)), .val (.int (Int32.ofNat P2)), .val (.int (Int32.ofNat P3)), .val (.int (Int32.ofNat Xq)), .val (.ref b94), .unset] []) _
  refine Go.step (fun _ => XS.aload X96.here hx rfl (hb hby at_65) rfl rfl ) ?_
  show Go p e below T96 (mkF m 67 #[.val (.int p0), .val (.int p1), .val (.int p2), .val (.int p3), .val (.int p4), .val (.int (Int32.ofNat N)), .val (.int (Int32.ofNat P1)), .val (.int (Int32.ofNat P2)), .val (.int (Int32.ofNat P3)), .val (.int (Int32.ofNat Xq)), .val (.ref b94), .unset] [(.ref b94)]) _
  refine Go.step (fun _ => XS.iload X96.here hx rfl (hb hby at_67) rfl ) ?_
  show Go p e below T96 (mkF m 69 #[.val (.int p0), .val (.int p1), .val (.int p2), .val (.int p3), .val (.int p4), .val (.int (Int32.ofNat N)), .val (.int (Int32.ofNat P1)), .val (.int (Int32.ofNat P2)), .val (.int (Int32.ofNat P3)), .val (.int (Int32.ofNat Xq)), .val (.ref b94), .unset] [(.int (Int32.ofNat P2)), (.ref b94)]) _
  obtain ⟨cq97, kq97, q97a, q97b, q97c⟩ := isOf hZ rfl Tr96.1
  obtain ⟨_, _, ⟨T97, L97, k97, n97⟩, -, X97, ⟨Lc97, hQ97, l97, y97, z97⟩, st97⟩ := X96.virtualBack hx (y := (⟨"com/example/maxhue/maxhue/PointSet", "add", "(I)V"⟩ : MethodName)) (z := (⟨"com/example/maxhue/maxhue/PointSet", "add", "(I)V"⟩ : MethodName)) hown (mvT hZ (hw _ (List.mem_of_getElem? (i := 21) rfl))) (mvT hZ (hw _ (List.mem_of_getElem? (i := 22) rfl))) (notFace_of_selects (args := #[]) (mvT hZ (hw _ (List.mem_of_getElem? (i := 24) rfl)))) (mvT hZ (hw _ (List.mem_of_getElem? (i := 24) rfl))) (mvT hZ (hw _ (List.mem_of_getElem? (i := 23) rfl))) (by decide) (backOf (W := 0) (rmAdd l Z a0 hw [] b94 A95 M95 lv95 (szN N) f96 _ P2 T96.heap n0 Zs96 Tr96 R96 (by omega) hszb (by omega) (own_pt hP2 _)) hZ (hw _ (List.mem_of_getElem? (i := 25) rfl)) (hw _ (List.mem_of_getElem? (i := 4) rfl)) (by decide) (by decide)) q97a q97c (g := (mkF m 69 #[.val (.int p0), .val (.int p1), .val (.int p2), .val (.int p3), .val (.int p4), .val (.int (Int32.ofNat N)), .val (.int (Int32.ofNat P1)), .val (.int (Int32.ofNat P2)), .val (.int (Int32.ofNat P3)), .val (.int (Int32.ofNat Xq)), .val (.ref b94), .unset] [(.int (Int32.ofNat P2)), (.ref b94)])) rfl (by rw [hml]; rfl) (Steps.refl _) (argsL := [(.int (Int32.ofNat P2))]) (rest := []) (lenOf pd_3 rfl) rfl (by show 2 * 0 + _ ≤ _; exact Nat.le_of_eq rfl) (hb hby at_69) (fun _ _ => ⟨rfl, rfl, (by decide : 0 + 1 + 5 + 0 + 0 ≤ _), (by decide : 0 + 1 + 16649 + 0 + 0 ≤ _)⟩)
  dsimp only [Pt.U, Pt.locs, Pt.cells, Pt.slots] at X97 l97 y97 z97 st97 hQ97
  subst l97 y97 z97
  obtain ⟨rfl, Nq97, Zs97, f97, Tr97, R97⟩ := hQ97
  have N97 := Fr.app N96 Nq97
  refine Go.call st97 ?_
  show Go p e below T97 (mkF m 72 #[.val (.int p0), .val (.int p1), .val (.int p2), .val (.int p3), .val (.int p4), .val (.int (Int32.ofNat N)), .val (.int (Int32.ofNat P1)), .val (.int (Int32.ofNat P2)), .val (.int (Int32.ofNat P3)), .val (.int (Int32.ofNat Xq)), .val (.ref b94), .unset] []) _
  refine Go.step (fun _ => XS.aload X97.here hx rfl (hb hby at_72) rfl rfl ) ?_
  show Go p e below T97 (mkF m 74 #[.val (.int p0), .val (.int p1), .val (.int p2), .val (.int p3), .val (.int p4), .val (.int (Int32.ofNat N)), .val (.int (Int32.ofNat P1)), .val (.int (Int32.ofNat P2)), .val (.int (Int32.ofNat P3)), .val (.int (Int32.ofNat Xq)), .val (.ref b94), .unset] [(.ref b94)]) _
  refine Go.step (fun _ => XS.iload X97.here hx rfl (hb hby at_74) rfl ) ?_
  show Go p e below T97 (mkF m 76 #[.val (.int p0), .val (.int p1), .val (.int p2), .val (.int p3), .val (.int p4), .val (.int (Int32.ofNat N)), .val (.int (Int32.ofNat P1)), .val (.int (Int32.ofNat P2)), .val (.int (Int32.ofNat P3)), .val (.int (Int32.ofNat Xq)), .val (.ref b94), .unset] [(.int (Int32.ofNat P3)), (.ref b94)]) _
  obtain ⟨cq98, kq98, q98a, q98b, q98c⟩ := isOf hZ rfl Tr97.1
  obtain ⟨_, _, ⟨T98, L98, k98, n98⟩, -, X98, ⟨Lc98, hQ98, l98, y98, z98⟩, st98⟩ := X97.virtualBack hx (y := (⟨"com/example/maxhue/maxhue/PointSet", "add", "(I)V"⟩ : MethodName)) (z := (⟨"com/example/maxhue/maxhue/PointSet", "add", "(I)V"⟩ : MethodName)) hown (mvT hZ (hw _ (List.mem_of_getElem? (i := 21) rfl))) (mvT hZ (hw _ (List.mem_of_getElem? (i := 22) rfl))) (notFace_of_selects (args := #[]) (mvT hZ (hw _ (List.mem_of_getElem? (i := 24) rfl)))) (mvT hZ (hw _ (List.mem_of_getElem? (i := 24) rfl))) (mvT hZ (hw _ (List.mem_of_getElem? (i := 23) rfl))) (by decide) (backOf (W := 0) (rmAdd l Z a0 hw [] b94 A95 M95 lv95 (szN N) f97 _ P3 T97.heap n0 Zs97 Tr97 R97 (by omega) hszb (by omega) (own_pt hP3 _)) hZ (hw _ (List.mem_of_getElem? (i := 25) rfl)) (hw _ (List.mem_of_getElem? (i := 4) rfl)) (by decide) (by decide)) q98a q98c (g := (mkF m 76 #[.val (.int p0), .val (.int p1), .val (.int p2), .val (.int p3), .val (.int p4), .val (.int (Int32.ofNat N)), .val (.int (Int32.ofNat P1)), .val (.int (Int32.ofNat P2)), .val (.int (Int32.ofNat P3)), .val (.int (Int32.ofNat Xq)), .val (.ref b94), .unset] [(.int (Int32.ofNat P3)), (.ref b94)])) rfl (by rw [hml]; rfl) (Steps.refl _) (argsL := [(.int (Int32.ofNat P3))]) (rest := []) (lenOf pd_3 rfl) rfl (by show 2 * 0 + _ ≤ _; exact Nat.le_of_eq rfl) (hb hby at_76) (fun _ _ => ⟨rfl, rfl, (by decide : 0 + 1 + 5 + 0 + 0 + 0 ≤ _), (by decide : 0 + 1 + 16649 + 0 + 0 + 0 ≤ _)⟩)
  dsimp only [Pt.U, Pt.locs, Pt.cells, Pt.slots] at X98 l98 y98 z98 st98 hQ98
  subst l98 y98 z98
  obtain ⟨rfl, Nq98, Zs98, f98, Tr98, R98⟩ := hQ98
  have N98 := Fr.app N97 Nq98
  refine Go.call st98 ?_
  show Go p e below T98 (mkF m 79 #[.val (.int p0), .val (.int p1), .val (.int p2), .val (.int p3), .val (.int p4), .val (.int (Int32.ofNat N)), .val (.int (Int32.ofNat P1)), .val (.int (Int32.ofNat P2)), .val (.int (Int32.ofNat P3)), .val (.int (Int32.ofNat Xq)), .val (.ref b94), .unset] []) _
  refine Go.step (fun _ => XS.aload X98.here hx rfl (hb hby at_79) rfl rfl ) ?_
  show Go p e below T98 (mkF m 81 #[.val (.int p0), .val (.int p1), .val (.int p2), .val (.int p3), .val (.int p4), .val (.int (Int32.ofNat N)), .val (.int (Int32.ofNat P1)), .val (.int (Int32.ofNat P2)), .val (.int (Int32.ofNat P3)), .val (.int (Int32.ofNat Xq)), .val (.ref b94), .unset] [(.ref b94)]) _
  refine Go.step (fun _ => XS.iload X98.here hx rfl (hb hby at_81) rfl ) ?_
  show Go p e below T98 (mkF m 83 #[.val (.int p0), .val (.int p1), .val (.int p2), .val (.int p3), .val (.int p4), .val (.int (Int32.ofNat N)), .val (.int (Int32.ofNat P1)), .val (.int (Int32.ofNat P2)), .val (.int (Int32.ofNat P3)), .val (.int (Int32.ofNat Xq)), .val (.ref b94), .unset] [(.int (Int32.ofNat Xq)), (.ref b94)]) _
  have hSN : ∀ q, (fun q => (fun q => (fun q => (fun _ => False) q ∨ q = P1) q ∨ q = P2) q ∨ q = P3) q → q < N := fun q z => by
    rcases z with ((z | z) | z) | z
    · exact z.elim
    all_goals omega
  obtain ⟨cq99, kq99, q99a, q99b, q99c⟩ := isOf hZ rfl Tr98.1
  obtain ⟨_, _, ⟨T99, L99, k99, n99⟩, -, X99, ⟨Lc99, hQ99, l99, y99, z99⟩, st99⟩ := X98.virtualBack hx (y := (⟨"com/example/maxhue/maxhue/PointSet", "lastBelow", "(I)I"⟩ : MethodName)) (z := (⟨"com/example/maxhue/maxhue/PointSet", "lastBelow", "(I)I"⟩ : MethodName)) hown (mvT hZ (hw _ (List.mem_of_getElem? (i := 26) rfl))) (mvT hZ (hw _ (List.mem_of_getElem? (i := 27) rfl))) (notFace_of_selects (args := #[]) (mvT hZ (hw _ (List.mem_of_getElem? (i := 29) rfl)))) (mvT hZ (hw _ (List.mem_of_getElem? (i := 29) rfl))) (mvT hZ (hw _ (List.mem_of_getElem? (i := 28) rfl))) (by decide) (backOf (W := 0) (rmLast l Z a0 hw [] b94 A95 M95 lv95 (szN N) f98 (fun q => (fun q => (fun q => (fun _ => False) q ∨ q = P1) q ∨ q = P2) q ∨ q = P3) N Xq (own_refI (Int32.ofNat Xq) (Int32.ofNat P1) (Int32.ofNat P2) (Int32.ofNat P3)) T98.heap n0 Zs98 Tr98 R98 (by omega) hszb (by omega) hN1 hM1 (by omega) hSN (fun q z => own_pt z _) (fun k hk P z => htop P (by rw [show M95 - 1 = k from by omega]; exact z)) (own_bestRef (by omega) (by omega) (by omega) (by omega))) hZ (hw _ (List.mem_of_getElem? (i := 30) rfl)) (hw _ (List.mem_of_getElem? (i := 4) rfl)) (by decide) (by decide)) q99a q99c (g := (mkF m 83 #[.val (.int p0), .val (.int p1), .val (.int p2), .val (.int p3), .val (.int p4), .val (.int (Int32.ofNat N)), .val (.int (Int32.ofNat P1)), .val (.int (Int32.ofNat P2)), .val (.int (Int32.ofNat P3)), .val (.int (Int32.ofNat Xq)), .val (.ref b94), .unset] [(.int (Int32.ofNat Xq)), (.ref b94)])) rfl (by rw [hml]; rfl) (Steps.refl _) (argsL := [(.int (Int32.ofNat Xq))]) (rest := []) (lenOf pd_0 rfl) rfl (by show 2 * 0 + _ ≤ _; exact Nat.le_of_eq rfl) (hb hby at_83) (fun _ _ => ⟨rfl, rfl, (by decide : 0 + 1 + 5 + 0 + 0 + 0 + 0 ≤ _), (by decide : 0 + 1 + 16649 + 0 + 0 + 0 + 0 ≤ _)⟩)
  dsimp only [Pt.U, Pt.locs, Pt.cells, Pt.slots] at X99 l99 y99 z99 st99 hQ99
  subst l99 y99 z99
  obtain ⟨rfl, Nq99, eh99⟩ := hQ99
  have N99 := Fr.app N98 Nq99
  refine Go.call st99 ?_
  show Go p e below T99 (mkF m 86 #[.val (.int p0), .val (.int p1), .val (.int p2), .val (.int p3), .val (.int p4), .val (.int (Int32.ofNat N)), .val (.int (Int32.ofNat P1)), .val (.int (Int32.ofNat P2)), .val (.int (Int32.ofNat P3)), .val (.int (Int32.ofNat Xq)), .val (.ref b94), .unset] [(.int (own_refI (Int32.ofNat Xq) (Int32.ofNat P1) (Int32.ofNat P2) (Int32.ofNat P3)))]) _
  refine Go.step (fun _ => XS.iload X99.here hx rfl (hb hby at_86) rfl ) ?_
  show Go p e below T99 (mkF m 88 #[.val (.int p0), .val (.int p1), .val (.int p2), .val (.int p3), .val (.int p4), .val (.int (Int32.ofNat N)), .val (.int (Int32.ofNat P1)), .val (.int (Int32.ofNat P2)), .val (.int (Int32.ofNat P3)), .val (.int (Int32.ofNat Xq)), .val (.ref b94), .unset] [(.int (Int32.ofNat Xq)), (.int (own_refI (Int32.ofNat Xq) (Int32.ofNat P1) (Int32.ofNat P2) (Int32.ofNat P3)))]) _
  refine Go.step (fun _ => XS.iload X99.here hx rfl (hb hby at_88) rfl ) ?_
  show Go p e below T99 (mkF m 90 #[.val (.int p0), .val (.int p1), .val (.int p2), .val (.int p3), .val (.int p4), .val (.int (Int32.ofNat N)), .val (.int (Int32.ofNat P1)), .val (.int (Int32.ofNat P2)), .val (.int (Int32.ofNat P3)), .val (.int (Int32.ofNat Xq)), .val (.ref b94), .unset] [(.int (Int32.ofNat P1)), (.int (Int32.ofNat Xq)), (.int (own_refI (Int32.ofNat Xq) (Int32.ofNat P1) (Int32.ofNat P2) (Int32.ofNat P3)))]) _
  refine Go.step (fun _ => XS.iload X99.here hx rfl (hb hby at_90) rfl ) ?_
  show Go p e below T99 (mkF m 92 #[.val (.int p0), .val (.int p1), .val (.int p2), .val (.int p3), .val (.int p4), .val (.int (Int32.ofNat N)), .val (.int (Int32.ofNat P1)), .val (.int (Int32.ofNat P2)), .val (.int (Int32.ofNat P3)), .val (.int (Int32.ofNat Xq)), .val (.ref b94), .unset] [(.int (Int32.ofNat P2)), (.int (Int32.ofNat P1)), (.int (Int32.ofNat Xq)), (.int (own_refI (Int32.ofNat Xq) (Int32.ofNat P1) (Int32.ofNat P2) (Int32.ofNat P3)))]) _
  refine Go.step (fun _ => XS.iload X99.here hx rfl (hb hby at_92) rfl ) ?_
  show Go p e below T99 (mkF m 94 #[.val (.int p0), .val (.int p1), .val (.int p2), .val (.int p3), .val (.int p4), .val (.int (Int32.ofNat N)), .val (.int (Int32.ofNat P1)), .val (.int (Int32.ofNat P2)), .val (.int (Int32.ofNat P3)), .val (.int (Int32.ofNat Xq)), .val (.ref b94), .unset] [(.int (Int32.ofNat P3)), (.int (Int32.ofNat P2)), (.int (Int32.ofNat P1)), (.int (Int32.ofNat Xq)), (.int (own_refI (Int32.ofNat Xq) (Int32.ofNat P1) (Int32.ofNat P2) (Int32.ofNat P3)))]) _
  obtain ⟨_, _, ⟨T100, L100, k100, n100⟩, -, X100, ⟨Lc100, hQ100, l100, y100, z100⟩, st100⟩ := Jvm.LawKit.callS X99 hx (y := (⟨"com/example/maxhue/maxhue/PointSetAddPinLaw", "ref", "(IIII)I"⟩ : MethodName)) hown (mvT hZ (hw _ (List.mem_of_getElem? (i := 31) rfl))) (mvT hZ (hw _ (List.mem_of_getElem? (i := 32) rfl))) (mvT hZ (hw _ (List.mem_of_getElem? (i := 33) rfl))) (mvT hZ (hw _ (List.mem_of_getElem? (i := 34) rfl))) (by decide) (backOf (W := 1) (rmRef l Z a0 hw [] (Int32.ofNat Xq) (Int32.ofNat P1) (Int32.ofNat P2) (Int32.ofNat P3) T98.heap n0 Zs98) hZ (hw _ (List.mem_of_getElem? (i := 34) rfl)) (hw _ (List.mem_of_getElem? (i := 33) rfl)) (by decide) (by decide)) (g := (mkF m 94 #[.val (.int p0), .val (.int p1), .val (.int p2), .val (.int p3), .val (.int p4), .val (.int (Int32.ofNat N)), .val (.int (Int32.ofNat P1)), .val (.int (Int32.ofNat P2)), .val (.int (Int32.ofNat P3)), .val (.int (Int32.ofNat Xq)), .val (.ref b94), .unset] [(.int (Int32.ofNat P3)), (.int (Int32.ofNat P2)), (.int (Int32.ofNat P1)), (.int (Int32.ofNat Xq)), (.int (own_refI (Int32.ofNat Xq) (Int32.ofNat P1) (Int32.ofNat P2) (Int32.ofNat P3)))])) rfl (by rw [hml]; rfl) (argsL := [(.int (Int32.ofNat Xq)), (.int (Int32.ofNat P1)), (.int (Int32.ofNat P2)), (.int (Int32.ofNat P3))]) (rest := [(.int (own_refI (Int32.ofNat Xq) (Int32.ofNat P1) (Int32.ofNat P2) (Int32.ofNat P3)))]) (lenOf pd_4 rfl) rfl (by show 2 * 0 + _ ≤ _; exact Nat.le_of_eq rfl) (hb hby at_94) (fun _ _ => ⟨rfl, eh99, (by decide : 0 + 1 + 5 + 0 + 0 + 0 + 0 + 0 ≤ _), (by decide : 0 + 1 + 16649 + 0 + 0 + 0 + 0 + 0 ≤ _)⟩)
  dsimp only [Pt.U, Pt.locs, Pt.cells, Pt.slots] at X100 l100 y100 z100 st100 hQ100
  subst l100 y100 z100
  obtain ⟨rfl, Nq100, ei100⟩ := hQ100
  have N100 := Fr.app N99 Nq100
  refine Go.step st100 ?_
  show Go p e below T100 (mkF m 97 #[.val (.int p0), .val (.int p1), .val (.int p2), .val (.int p3), .val (.int p4), .val (.int (Int32.ofNat N)), .val (.int (Int32.ofNat P1)), .val (.int (Int32.ofNat P2)), .val (.int (Int32.ofNat P3)), .val (.int (Int32.ofNat Xq)), .val (.ref b94), .unset] [(.int (own_refI (Int32.ofNat Xq) (Int32.ofNat P1) (Int32.ofNat P2) (Int32.ofNat P3))), (.int (own_refI (Int32.ofNat Xq) (Int32.ofNat P1) (Int32.ofNat P2) (Int32.ofNat P3)))]) _
  refine Go.step (fun _ => XS.icmpNo X100.here hx rfl (hb hby at_97) rfl (teq rfl).2) ?_
  show Go p e below T100 (mkF m 100 #[.val (.int p0), .val (.int p1), .val (.int p2), .val (.int p3), .val (.int p4), .val (.int (Int32.ofNat N)), .val (.int (Int32.ofNat P1)), .val (.int (Int32.ofNat P2)), .val (.int (Int32.ofNat P3)), .val (.int (Int32.ofNat Xq)), .val (.ref b94), .unset] []) _
  refine Go.step (fun _ => XS.iconst X100.here hx rfl (hb hby at_100)) ?_
  show Go p e below T100 (mkF m 101 #[.val (.int p0), .val (.int p1), .val (.int p2), .val (.int p3), .val (.int p4), .val (.int (Int32.ofNat N)), .val (.int (Int32.ofNat P1)), .val (.int (Int32.ofNat P2)), .val (.int (Int32.ofNat P3)), .val (.int (Int32.ofNat Xq)), .val (.ref b94), .unset] [(.int (1 : Int32))]) _
  refine Go.step (fun _ => XS.goto X100.here hx rfl (pc0 := 101) (pc' := 105) rfl (hb hby at_101) (by decide) (by decide)) ?_
  show Go p e below T100 (mkF m 105 #[.val (.int p0), .val (.int p1), .val (.int p2), .val (.int p3), .val (.int p4), .val (.int (Int32.ofNat N)), .val (.int (Int32.ofNat P1)), .val (.int (Int32.ofNat P2)), .val (.int (Int32.ofNat P3)), .val (.int (Int32.ofNat Xq)), .val (.ref b94), .unset] [(.int (1 : Int32))]) _
  refine Go.step (fun _ => XS.istore X100.here hx rfl (hb hby at_105) rfl (l' := #[.val (.int p0), .val (.int p1), .val (.int p2), .val (.int p3), .val (.int p4), .val (.int (Int32.ofNat N)), .val (.int (Int32.ofNat P1)), .val (.int (Int32.ofNat P2)), .val (.int (Int32.ofNat P3)), .val (.int (Int32.ofNat Xq)), .val (.ref b94), .val (.int (1 : Int32))]) rfl) ?_
  show Go p e below T100 (mkF m 107 #[.val (.int p0), .val (.int p1), .val (.int p2), .val (.int p3), .val (.int p4), .val (.int (Int32.ofNat N)), .val (.int (Int32.ofNat P1)), .val (.int (Int32.ofNat P2)), .val (.int (Int32.ofNat P3)), .val (.int (Int32.ofNat Xq)), .val (.ref b94), .val (.int (1 : Int32))] []) _
  refine Go.step (fun _ => XS.iload X100.here hx rfl (hb hby at_107) rfl ) ?_
  show Go p e below T100 (mkF m 109 #[.val (.int p0), .val (.int p1), .val (.int p2), .val (.int p3), .val (.int p4), .val (.int (Int32.ofNat N)), .val (.int (Int32.ofNat P1)), .val (.int (Int32.ofNat P2)), .val (.int (Int32.ofNat P3)), .val (.int (Int32.ofNat Xq)), .val (.ref b94), .val (.int (1 : Int32))] [(.int (1 : Int32))]) _
  refine Go.step (fun _ => XS.ifNo X100.here hx rfl (hb hby at_109) rfl ((if0 _ _).trans (feq (by decide)).1)) ?_
  show Go p e below T100 (mkF m 112 #[.val (.int p0), .val (.int p1), .val (.int p2), .val (.int p3), .val (.int p4), .val (.int (Int32.ofNat N)), .val (.int (Int32.ofNat P1)), .val (.int (Int32.ofNat P2)), .val (.int (Int32.ofNat P3)), .val (.int (Int32.ofNat Xq)), .val (.ref b94), .val (.int (1 : Int32))] []) _
  refine Go.step (fun _ => XS.aload X100.here hx rfl (hb hby at_112) rfl rfl ) ?_
  show Go p e below T100 (mkF m 114 #[.val (.int p0), .val (.int p1), .val (.int p2), .val (.int p3), .val (.int p4), .val (.int (Int32.ofNat N)), .val (.int (Int32.ofNat P1)), .val (.int (Int32.ofNat P2)), .val (.int (Int32.ofNat P3)), .val (.int (Int32.ofNat Xq)), .val (.ref b94), .val (.int (1 : Int32))] [(.ref b94)]) _
  refine Go.step (fun _ => XS.iload X100.here hx rfl (hb hby at_114) rfl ) ?_
  show Go p e below T100 (mkF m 116 #[.val (.int p0), .val (.int p1), .val (.int p2), .val (.int p3), .val (.int p4), .val (.int (Int32.ofNat N)), .val (.int (Int32.ofNat P1)), .val (.int (Int32.ofNat P2)), .val (.int (Int32.ofNat P3)), .val (.int (Int32.ofNat Xq)), .val (.ref b94), .val (.int (1 : Int32))] [(.int (Int32.ofNat P1)), (.ref b94)]) _
  refine Go.step (fun _ => XS.iconst X100.here hx rfl (hb hby at_116)) ?_
  show Go p e below T100 (mkF m 117 #[.val (.int p0), .val (.int p1), .val (.int p2), .val (.int p3), .val (.int p4), .val (.int (Int32.ofNat N)), .val (.int (Int32.ofNat P1)), .val (.int (Int32.ofNat P2)), .val (.int (Int32.ofNat P3)), .val (.int (Int32.ofNat Xq)), .val (.ref b94), .val (.int (1 : Int32))] [(.int (1 : Int32)), (.int (Int32.ofNat P1)), (.ref b94)]) _
  refine Go.step (fun _ => XS.iadd X100.here hx rfl (hb hby at_117) rfl) ?_
  show Go p e below T100 (mkF m 118 #[.val (.int p0), .val (.int p1), .val (.int p2), .val (.int p3), .val (.int p4), .val (.int (Int32.ofNat N)), .val (.int (Int32.ofNat P1)), .val (.int (Int32.ofNat P2)), .val (.int (Int32.ofNat P3)), .val (.int (Int32.ofNat Xq)), .val (.ref b94), .val (.int (1 : Int32))] [(.int ((Int32.ofNat P1) + (1 : Int32))), (.ref b94)]) _
  rw [show Int32.ofNat P1 + (1 : Int32) = Int32.ofNat (P1 + 1) from own_add P1 1]
  show Go p e below T100 (mkF m 118 #[.val (.int p0), .val (.int p1), .val (.int p2), .val (.int p3), .val (.int p4), .val (.int (Int32.ofNat N)), .val (.int (Int32.ofNat P1)), .val (.int (Int32.ofNat P2)), .val (.int (Int32.ofNat P3)), .val (.int (Int32.ofNat Xq)), .val (.ref b94), .val (.int (1 : Int32))] [(.int (Int32.ofNat (P1 + 1))), (.ref b94)]) _
  obtain ⟨cq101, kq101, q101a, q101b, q101c⟩ := isOf hZ ei100 Tr98.1
  obtain ⟨_, _, ⟨T101, L101, k101, n101⟩, -, X101, ⟨Lc101, hQ101, l101, y101, z101⟩, st101⟩ := X100.virtualBack hx (y := (⟨"com/example/maxhue/maxhue/PointSet", "lastBelow", "(I)I"⟩ : MethodName)) (z := (⟨"com/example/maxhue/maxhue/PointSet", "lastBelow", "(I)I"⟩ : MethodName)) hown (mvT hZ (hw _ (List.mem_of_getElem? (i := 26) rfl))) (mvT hZ (hw _ (List.mem_of_getElem? (i := 27) rfl))) (notFace_of_selects (args := #[]) (mvT hZ (hw _ (List.mem_of_getElem? (i := 29) rfl)))) (mvT hZ (hw _ (List.mem_of_getElem? (i := 29) rfl))) (mvT hZ (hw _ (List.mem_of_getElem? (i := 28) rfl))) (by decide) (backOf (W := 0) (rmLast l Z a0 hw [] b94 A95 M95 lv95 (szN N) f98 (fun q => (fun q => (fun q => (fun _ => False) q ∨ q = P1) q ∨ q = P2) q ∨ q = P3) N (P1 + 1) (own_refI (Int32.ofNat (P1 + 1)) (Int32.ofNat P1) (Int32.ofNat P2) (Int32.ofNat P3)) T98.heap n0 Zs98 Tr98 R98 (by omega) hszb (by omega) hN1 hM1 (by omega) hSN (fun q z => own_pt z _) (fun k hk P z => htop P (by rw [show M95 - 1 = k from by omega]; exact z)) (own_bestRef (by omega) (by omega) (by omega) (by omega))) hZ (hw _ (List.mem_of_getElem? (i := 30) rfl)) (hw _ (List.mem_of_getElem? (i := 4) rfl)) (by decide) (by decide)) q101a q101c (g := (mkF m 118 #[.val (.int p0), .val (.int p1), .val (.int p2), .val (.int p3), .val (.int p4), .val (.int (Int32.ofNat N)), .val (.int (Int32.ofNat P1)), .val (.int (Int32.ofNat P2)), .val (.int (Int32.ofNat P3)), .val (.int (Int32.ofNat Xq)), .val (.ref b94), .val (.int (1 : Int32))] [(.int (Int32.ofNat (P1 + 1))), (.ref b94)])) rfl (by rw [hml]; rfl) (Steps.refl _) (argsL := [(.int (Int32.ofNat (P1 + 1)))]) (rest := []) (lenOf pd_0 rfl) rfl (by show 2 * 0 + _ ≤ _; exact Nat.le_of_eq rfl) (hb hby at_118) (fun _ _ => ⟨rfl, ei100, (by decide : 0 + 1 + 5 + 0 + 0 + 0 + 0 + 0 + 0 ≤ _), (by decide : 0 + 1 + 16649 + 0 + 0 + 0 + 0 + 0 + 0 ≤ _)⟩)
  dsimp only [Pt.U, Pt.locs, Pt.cells, Pt.slots] at X101 l101 y101 z101 st101 hQ101
  subst l101 y101 z101
  obtain ⟨rfl, Nq101, eh101⟩ := hQ101
  have N101 := Fr.app N100 Nq101
  refine Go.call st101 ?_
  show Go p e below T101 (mkF m 121 #[.val (.int p0), .val (.int p1), .val (.int p2), .val (.int p3), .val (.int p4), .val (.int (Int32.ofNat N)), .val (.int (Int32.ofNat P1)), .val (.int (Int32.ofNat P2)), .val (.int (Int32.ofNat P3)), .val (.int (Int32.ofNat Xq)), .val (.ref b94), .val (.int (1 : Int32))] [(.int (own_refI (Int32.ofNat (P1 + 1)) (Int32.ofNat P1) (Int32.ofNat P2) (Int32.ofNat P3)))]) _
  refine Go.step (fun _ => XS.iload X101.here hx rfl (hb hby at_121) rfl ) ?_
  show Go p e below T101 (mkF m 123 #[.val (.int p0), .val (.int p1), .val (.int p2), .val (.int p3), .val (.int p4), .val (.int (Int32.ofNat N)), .val (.int (Int32.ofNat P1)), .val (.int (Int32.ofNat P2)), .val (.int (Int32.ofNat P3)), .val (.int (Int32.ofNat Xq)), .val (.ref b94), .val (.int (1 : Int32))] [(.int (Int32.ofNat P1)), (.int (own_refI (Int32.ofNat (P1 + 1)) (Int32.ofNat P1) (Int32.ofNat P2) (Int32.ofNat P3)))]) _
  refine Go.step (fun _ => XS.iconst X101.here hx rfl (hb hby at_123)) ?_
  show Go p e below T101 (mkF m 124 #[.val (.int p0), .val (.int p1), .val (.int p2), .val (.int p3), .val (.int p4), .val (.int (Int32.ofNat N)), .val (.int (Int32.ofNat P1)), .val (.int (Int32.ofNat P2)), .val (.int (Int32.ofNat P3)), .val (.int (Int32.ofNat Xq)), .val (.ref b94), .val (.int (1 : Int32))] [(.int (1 : Int32)), (.int (Int32.ofNat P1)), (.int (own_refI (Int32.ofNat (P1 + 1)) (Int32.ofNat P1) (Int32.ofNat P2) (Int32.ofNat P3)))]) _
  refine Go.step (fun _ => XS.iadd X101.here hx rfl (hb hby at_124) rfl) ?_
  show Go p e below T101 (mkF m 125 #[.val (.int p0), .val (.int p1), .val (.int p2), .val (.int p3), .val (.int p4), .val (.int (Int32.ofNat N)), .val (.int (Int32.ofNat P1)), .val (.int (Int32.ofNat P2)), .val (.int (Int32.ofNat P3)), .val (.int (Int32.ofNat Xq)), .val (.ref b94), .val (.int (1 : Int32))] [(.int ((Int32.ofNat P1) + (1 : Int32))), (.int (own_refI (Int32.ofNat (P1 + 1)) (Int32.ofNat P1) (Int32.ofNat P2) (Int32.ofNat P3)))]) _
  rw [show Int32.ofNat P1 + (1 : Int32) = Int32.ofNat (P1 + 1) from own_add P1 1]
  show Go p e below T101 (mkF m 125 #[.val (.int p0), .val (.int p1), .val (.int p2), .val (.int p3), .val (.int p4), .val (.int (Int32.ofNat N)), .val (.int (Int32.ofNat P1)), .val (.int (Int32.ofNat P2)), .val (.int (Int32.ofNat P3)), .val (.int (Int32.ofNat Xq)), .val (.ref b94), .val (.int (1 : Int32))] [(.int (Int32.ofNat (P1 + 1))), (.int (own_refI (Int32.ofNat (P1 + 1)) (Int32.ofNat P1) (Int32.ofNat P2) (Int32.ofNat P3)))]) _
  refine Go.step (fun _ => XS.iload X101.here hx rfl (hb hby at_125) rfl ) ?_
  show Go p e below T101 (mkF m 127 #[.val (.int p0), .val (.int p1), .val (.int p2), .val (.int p3), .val (.int p4), .val (.int (Int32.ofNat N)), .val (.int (Int32.ofNat P1)), .val (.int (Int32.ofNat P2)), .val (.int (Int32.ofNat P3)), .val (.int (Int32.ofNat Xq)), .val (.ref b94), .val (.int (1 : Int32))] [(.int (Int32.ofNat P1)), (.int (Int32.ofNat (P1 + 1))), (.int (own_refI (Int32.ofNat (P1 + 1)) (Int32.ofNat P1) (Int32.ofNat P2) (Int32.ofNat P3)))]) _
  refine Go.step (fun _ => XS.iload X101.here hx rfl (hb hby at_127) rfl ) ?_
  show Go p e below T101 (mkF m 129 #[.val (.int p0), .val (.int p1), .val (.int p2), .val (.int p3), .val (.int p4), .val (.int (Int32.ofNat N)), .val (.int (Int32.ofNat P1)), .val (.int (Int32.ofNat P2)), .val (.int (Int32.ofNat P3)), .val (.int (Int32.ofNat Xq)), .val (.ref b94), .val (.int (1 : Int32))] [(.int (Int32.ofNat P2)), (.int (Int32.ofNat P1)), (.int (Int32.ofNat (P1 + 1))), (.int (own_refI (Int32.ofNat (P1 + 1)) (Int32.ofNat P1) (Int32.ofNat P2) (Int32.ofNat P3)))]) _
  refine Go.step (fun _ => XS.iload X101.here hx rfl (hb hby at_129) rfl ) ?_
  show Go p e below T101 (mkF m 131 #[.val (.int p0), .val (.int p1), .val (.int p2), .val (.int p3), .val (.int p4), .val (.int (Int32.ofNat N)), .val (.int (Int32.ofNat P1)), .val (.int (Int32.ofNat P2)), .val (.int (Int32.ofNat P3)), .val (.int (Int32.ofNat Xq)), .val (.ref b94), .val (.int (1 : Int32))] [(.int (Int32.ofNat P3)), (.int (Int32.ofNat P2)), (.int (Int32.ofNat P1)), (.int (Int32.ofNat (P1 + 1))), (.int (own_refI (Int32.ofNat (P1 + 1)) (Int32.ofNat P1) (Int32.ofNat P2) (Int32.ofNat P3)))]) _
  obtain ⟨_, _, ⟨T102, L102, k102, n102⟩, -, X102, ⟨Lc102, hQ102, l102, y102, z102⟩, st102⟩ := Jvm.LawKit.callS X101 hx (y := (⟨"com/example/maxhue/maxhue/PointSetAddPinLaw", "ref", "(IIII)I"⟩ : MethodName)) hown (mvT hZ (hw _ (List.mem_of_getElem? (i := 31) rfl))) (mvT hZ (hw _ (List.mem_of_getElem? (i := 32) rfl))) (mvT hZ (hw _ (List.mem_of_getElem? (i := 33) rfl))) (mvT hZ (hw _ (List.mem_of_getElem? (i := 34) rfl))) (by decide) (backOf (W := 1) (rmRef l Z a0 hw [] (Int32.ofNat (P1 + 1)) (Int32.ofNat P1) (Int32.ofNat P2) (Int32.ofNat P3) T98.heap n0 Zs98) hZ (hw _ (List.mem_of_getElem? (i := 34) rfl)) (hw _ (List.mem_of_getElem? (i := 33) rfl)) (by decide) (by decide)) (g := (mkF m 131 #[.val (.int p0), .val (.int p1), .val (.int p2), .val (.int p3), .val (.int p4), .val (.int (Int32.ofNat N)), .val (.int (Int32.ofNat P1)), .val (.int (Int32.ofNat P2)), .val (.int (Int32.ofNat P3)), .val (.int (Int32.ofNat Xq)), .val (.ref b94), .val (.int (1 : Int32))] [(.int (Int32.ofNat P3)), (.int (Int32.ofNat P2)), (.int (Int32.ofNat P1)), (.int (Int32.ofNat (P1 + 1))), (.int (own_refI (Int32.ofNat (P1 + 1)) (Int32.ofNat P1) (Int32.ofNat P2) (Int32.ofNat P3)))])) rfl (by rw [hml]; rfl) (argsL := [(.int (Int32.ofNat (P1 + 1))), (.int (Int32.ofNat P1)), (.int (Int32.ofNat P2)), (.int (Int32.ofNat P3))]) (rest := [(.int (own_refI (Int32.ofNat (P1 + 1)) (Int32.ofNat P1) (Int32.ofNat P2) (Int32.ofNat P3)))]) (lenOf pd_4 rfl) rfl (by show 2 * 0 + _ ≤ _; exact Nat.le_of_eq rfl) (hb hby at_131) (fun _ _ => ⟨rfl, eh101, (by decide : 0 + 1 + 5 + 0 + 0 + 0 + 0 + 0 + 0 + 0 ≤ _), (by decide : 0 + 1 + 16649 + 0 + 0 + 0 + 0 + 0 + 0 + 0 ≤ _)⟩)
  dsimp only [Pt.U, Pt.locs, Pt.cells, Pt.slots] at X102 l102 y102 z102 st102 hQ102
  subst l102 y102 z102
  obtain ⟨rfl, Nq102, ei102⟩ := hQ102
  have N102 := Fr.app N101 Nq102
  refine Go.step st102 ?_
  show Go p e below T102 (mkF m 134 #[.val (.int p0), .val (.int p1), .val (.int p2), .val (.int p3), .val (.int p4), .val (.int (Int32.ofNat N)), .val (.int (Int32.ofNat P1)), .val (.int (Int32.ofNat P2)), .val (.int (Int32.ofNat P3)), .val (.int (Int32.ofNat Xq)), .val (.ref b94), .val (.int (1 : Int32))] [(.int (own_refI (Int32.ofNat (P1 + 1)) (Int32.ofNat P1) (Int32.ofNat P2) (Int32.ofNat P3))), (.int (own_refI (Int32.ofNat (P1 + 1)) (Int32.ofNat P1) (Int32.ofNat P2) (Int32.ofNat P3)))]) _
  refine Go.step (fun _ => XS.icmpNo X102.here hx rfl (hb hby at_134) rfl (teq rfl).2) ?_
  show Go p e below T102 (mkF m 137 #[.val (.int p0), .val (.int p1), .val (.int p2), .val (.int p3), .val (.int p4), .val (.int (Int32.ofNat N)), .val (.int (Int32.ofNat P1)), .val (.int (Int32.ofNat P2)), .val (.int (Int32.ofNat P3)), .val (.int (Int32.ofNat Xq)), .val (.ref b94), .val (.int (1 : Int32))] []) _
  refine Go.step (fun _ => XS.iconst X102.here hx rfl (hb hby at_137)) ?_
  show Go p e below T102 (mkF m 138 #[.val (.int p0), .val (.int p1), .val (.int p2), .val (.int p3), .val (.int p4), .val (.int (Int32.ofNat N)), .val (.int (Int32.ofNat P1)), .val (.int (Int32.ofNat P2)), .val (.int (Int32.ofNat P3)), .val (.int (Int32.ofNat Xq)), .val (.ref b94), .val (.int (1 : Int32))] [(.int (1 : Int32))]) _
  refine Go.step (fun _ => XS.goto X102.here hx rfl (pc0 := 138) (pc' := 142) rfl (hb hby at_138) (by decide) (by decide)) ?_
  show Go p e below T102 (mkF m 142 #[.val (.int p0), .val (.int p1), .val (.int p2), .val (.int p3), .val (.int p4), .val (.int (Int32.ofNat N)), .val (.int (Int32.ofNat P1)), .val (.int (Int32.ofNat P2)), .val (.int (Int32.ofNat P3)), .val (.int (Int32.ofNat Xq)), .val (.ref b94), .val (.int (1 : Int32))] [(.int (1 : Int32))]) _
  refine Go.step (fun _ => XS.istore X102.here hx rfl (hb hby at_142) rfl (l' := #[.val (.int p0), .val (.int p1), .val (.int p2), .val (.int p3), .val (.int p4), .val (.int (Int32.ofNat N)), .val (.int (Int32.ofNat P1)), .val (.int (Int32.ofNat P2)), .val (.int (Int32.ofNat P3)), .val (.int (Int32.ofNat Xq)), .val (.ref b94), .val (.int (1 : Int32))]) rfl) ?_
  show Go p e below T102 (mkF m 144 #[.val (.int p0), .val (.int p1), .val (.int p2), .val (.int p3), .val (.int p4), .val (.int (Int32.ofNat N)), .val (.int (Int32.ofNat P1)), .val (.int (Int32.ofNat P2)), .val (.int (Int32.ofNat P3)), .val (.int (Int32.ofNat Xq)), .val (.ref b94), .val (.int (1 : Int32))] []) _
  refine Go.step (fun _ => XS.iload X102.here hx rfl (hb hby at_144) rfl ) ?_
  show Go p e below T102 (mkF m 146 #[.val (.int p0), .val (.int p1), .val (.int p2), .val (.int p3), .val (.int p4), .val (.int (Int32.ofNat N)), .val (.int (Int32.ofNat P1)), .val (.int (Int32.ofNat P2)), .val (.int (Int32.ofNat P3)), .val (.int (Int32.ofNat Xq)), .val (.ref b94), .val (.int (1 : Int32))] [(.int (1 : Int32))]) _
  refine Go.step (fun _ => XS.ifNo X102.here hx rfl (hb hby at_146) rfl ((if0 _ _).trans (feq (by decide)).1)) ?_
  show Go p e below T102 (mkF m 149 #[.val (.int p0), .val (.int p1), .val (.int p2), .val (.int p3), .val (.int p4), .val (.int (Int32.ofNat N)), .val (.int (Int32.ofNat P1)), .val (.int (Int32.ofNat P2)), .val (.int (Int32.ofNat P3)), .val (.int (Int32.ofNat Xq)), .val (.ref b94), .val (.int (1 : Int32))] []) _
  refine Go.step (fun _ => XS.aload X102.here hx rfl (hb hby at_149) rfl rfl ) ?_
  show Go p e below T102 (mkF m 151 #[.val (.int p0), .val (.int p1), .val (.int p2), .val (.int p3), .val (.int p4), .val (.int (Int32.ofNat N)), .val (.int (Int32.ofNat P1)), .val (.int (Int32.ofNat P2)), .val (.int (Int32.ofNat P3)), .val (.int (Int32.ofNat Xq)), .val (.ref b94), .val (.int (1 : Int32))] [(.ref b94)]) _
  refine Go.step (fun _ => XS.iload X102.here hx rfl (hb hby at_151) rfl ) ?_
  show Go p e below T102 (mkF m 153 #[.val (.int p0), .val (.int p1), .val (.int p2), .val (.int p3), .val (.int p4), .val (.int (Int32.ofNat N)), .val (.int (Int32.ofNat P1)), .val (.int (Int32.ofNat P2)), .val (.int (Int32.ofNat P3)), .val (.int (Int32.ofNat Xq)), .val (.ref b94), .val (.int (1 : Int32))] [(.int (Int32.ofNat P2)), (.ref b94)]) _
  refine Go.step (fun _ => XS.iconst X102.here hx rfl (hb hby at_153)) ?_
  show Go p e below T102 (mkF m 154 #[.val (.int p0), .val (.int p1), .val (.int p2), .val (.int p3), .val (.int p4), .val (.int (Int32.ofNat N)), .val (.int (Int32.ofNat P1)), .val (.int (Int32.ofNat P2)), .val (.int (Int32.ofNat P3)), .val (.int (Int32.ofNat Xq)), .val (.ref b94), .val (.int (1 : Int32))] [(.int (1 : Int32)), (.int (Int32.ofNat P2)), (.ref b94)]) _
  refine Go.step (fun _ => XS.iadd X102.here hx rfl (hb hby at_154) rfl) ?_
  show Go p e below T102 (mkF m 155 #[.val (.int p0), .val (.int p1), .val (.int p2), .val (.int p3), .val (.int p4), .val (.int (Int32.ofNat N)), .val (.int (Int32.ofNat P1)), .val (.int (Int32.ofNat P2)), .val (.int (Int32.ofNat P3)), .val (.int (Int32.ofNat Xq)), .val (.ref b94), .val (.int (1 : Int32))] [(.int ((Int32.ofNat P2) + (1 : Int32))), (.ref b94)]) _
  rw [show Int32.ofNat P2 + (1 : Int32) = Int32.ofNat (P2 + 1) from own_add P2 1]
  show Go p e below T102 (mkF m 155 #[.val (.int p0), .val (.int p1), .val (.int p2), .val (.int p3), .val (.int p4), .val (.int (Int32.ofNat N)), .val (.int (Int32.ofNat P1)), .val (.int (Int32.ofNat P2)), .val (.int (Int32.ofNat P3)), .val (.int (Int32.ofNat Xq)), .val (.ref b94), .val (.int (1 : Int32))] [(.int (Int32.ofNat (P2 + 1))), (.ref b94)]) _
  obtain ⟨cq103, kq103, q103a, q103b, q103c⟩ := isOf hZ ei102 Tr98.1
  obtain ⟨_, _, ⟨T103, L103, k103, n103⟩, -, X103, ⟨Lc103, hQ103, l103, y103, z103⟩, st103⟩ := X102.virtualBack hx (y := (⟨"com/example/maxhue/maxhue/PointSet", "lastBelow", "(I)I"⟩ : MethodName)) (z := (⟨"com/example/maxhue/maxhue/PointSet", "lastBelow", "(I)I"⟩ : MethodName)) hown (mvT hZ (hw _ (List.mem_of_getElem? (i := 26) rfl))) (mvT hZ (hw _ (List.mem_of_getElem? (i := 27) rfl))) (notFace_of_selects (args := #[]) (mvT hZ (hw _ (List.mem_of_getElem? (i := 29) rfl)))) (mvT hZ (hw _ (List.mem_of_getElem? (i := 29) rfl))) (mvT hZ (hw _ (List.mem_of_getElem? (i := 28) rfl))) (by decide) (backOf (W := 0) (rmLast l Z a0 hw [] b94 A95 M95 lv95 (szN N) f98 (fun q => (fun q => (fun q => (fun _ => False) q ∨ q = P1) q ∨ q = P2) q ∨ q = P3) N (P2 + 1) (own_refI (Int32.ofNat (P2 + 1)) (Int32.ofNat P1) (Int32.ofNat P2) (Int32.ofNat P3)) T98.heap n0 Zs98 Tr98 R98 (by omega) hszb (by omega) hN1 hM1 (by omega) hSN (fun q z => own_pt z _) (fun k hk P z => htop P (by rw [show M95 - 1 = k from by omega]; exact z)) (own_bestRef (by omega) (by omega) (by omega) (by omega))) hZ (hw _ (List.mem_of_getElem? (i := 30) rfl)) (hw _ (List.mem_of_getElem? (i := 4) rfl)) (by decide) (by decide)) q103a q103c (g := (mkF m 155 #[.val (.int p0), .val (.int p1), .val (.int p2), .val (.int p3), .val (.int p4), .val (.int (Int32.ofNat N)), .val (.int (Int32.ofNat P1)), .val (.int (Int32.ofNat P2)), .val (.int (Int32.ofNat P3)), .val (.int (Int32.ofNat Xq)), .val (.ref b94), .val (.int (1 : Int32))] [(.int (Int32.ofNat (P2 + 1))), (.ref b94)])) rfl (by rw [hml]; rfl) (Steps.refl _) (argsL := [(.int (Int32.ofNat (P2 + 1)))]) (rest := []) (lenOf pd_0 rfl) rfl (by show 2 * 0 + _ ≤ _; exact Nat.le_of_eq rfl) (hb hby at_155) (fun _ _ => ⟨rfl, ei102, (by decide : 0 + 1 + 5 + 0 + 0 + 0 + 0 + 0 + 0 + 0 + 0 ≤ _), (by decide : 0 + 1 + 16649 + 0 + 0 + 0 + 0 + 0 + 0 + 0 + 0 ≤ _)⟩)
  dsimp only [Pt.U, Pt.locs, Pt.cells, Pt.slots] at X103 l103 y103 z103 st103 hQ103
  subst l103 y103 z103
  obtain ⟨rfl, Nq103, eh103⟩ := hQ103
  have N103 := Fr.app N102 Nq103
  refine Go.call st103 ?_
  show Go p e below T103 (mkF m 158 #[.val (.int p0), .val (.int p1), .val (.int p2), .val (.int p3), .val (.int p4), .val (.int (Int32.ofNat N)), .val (.int (Int32.ofNat P1)), .val (.int (Int32.ofNat P2)), .val (.int (Int32.ofNat P3)), .val (.int (Int32.ofNat Xq)), .val (.ref b94), .val (.int (1 : Int32))] [(.int (own_refI (Int32.ofNat (P2 + 1)) (Int32.ofNat P1) (Int32.ofNat P2) (Int32.ofNat P3)))]) _
  refine Go.step (fun _ => XS.iload X103.here hx rfl (hb hby at_158) rfl ) ?_
  show Go p e below T103 (mkF m 160 #[.val (.int p0), .val (.int p1), .val (.int p2), .val (.int p3), .val (.int p4), .val (.int (Int32.ofNat N)), .val (.int (Int32.ofNat P1)), .val (.int (Int32.ofNat P2)), .val (.int (Int32.ofNat P3)), .val (.int (Int32.ofNat Xq)), .val (.ref b94), .val (.int (1 : Int32))] [(.int (Int32.ofNat P2)), (.int (own_refI (Int32.ofNat (P2 + 1)) (Int32.ofNat P1) (Int32.ofNat P2) (Int32.ofNat P3)))]) _
  refine Go.step (fun _ => XS.iconst X103.here hx rfl (hb hby at_160)) ?_
  show Go p e below T103 (mkF m 161 #[.val (.int p0), .val (.int p1), .val (.int p2), .val (.int p3), .val (.int p4), .val (.int (Int32.ofNat N)), .val (.int (Int32.ofNat P1)), .val (.int (Int32.ofNat P2)), .val (.int (Int32.ofNat P3)), .val (.int (Int32.ofNat Xq)), .val (.ref b94), .val (.int (1 : Int32))] [(.int (1 : Int32)), (.int (Int32.ofNat P2)), (.int (own_refI (Int32.ofNat (P2 + 1)) (Int32.ofNat P1) (Int32.ofNat P2) (Int32.ofNat P3)))]) _
  refine Go.step (fun _ => XS.iadd X103.here hx rfl (hb hby at_161) rfl) ?_
  show Go p e below T103 (mkF m 162 #[.val (.int p0), .val (.int p1), .val (.int p2), .val (.int p3), .val (.int p4), .val (.int (Int32.ofNat N)), .val (.int (Int32.ofNat P1)), .val (.int (Int32.ofNat P2)), .val (.int (Int32.ofNat P3)), .val (.int (Int32.ofNat Xq)), .val (.ref b94), .val (.int (1 : Int32))] [(.int ((Int32.ofNat P2) + (1 : Int32))), (.int (own_refI (Int32.ofNat (P2 + 1)) (Int32.ofNat P1) (Int32.ofNat P2) (Int32.ofNat P3)))]) _
  rw [show Int32.ofNat P2 + (1 : Int32) = Int32.ofNat (P2 + 1) from own_add P2 1]
  show Go p e below T103 (mkF m 162 #[.val (.int p0), .val (.int p1), .val (.int p2), .val (.int p3), .val (.int p4), .val (.int (Int32.ofNat N)), .val (.int (Int32.ofNat P1)), .val (.int (Int32.ofNat P2)), .val (.int (Int32.ofNat P3)), .val (.int (Int32.ofNat Xq)), .val (.ref b94), .val (.int (1 : Int32))] [(.int (Int32.ofNat (P2 + 1))), (.int (own_refI (Int32.ofNat (P2 + 1)) (Int32.ofNat P1) (Int32.ofNat P2) (Int32.ofNat P3)))]) _
  refine Go.step (fun _ => XS.iload X103.here hx rfl (hb hby at_162) rfl ) ?_
  show Go p e below T103 (mkF m 164 #[.val (.int p0), .val (.int p1), .val (.int p2), .val (.int p3), .val (.int p4), .val (.int (Int32.ofNat N)), .val (.int (Int32.ofNat P1)), .val (.int (Int32.ofNat P2)), .val (.int (Int32.ofNat P3)), .val (.int (Int32.ofNat Xq)), .val (.ref b94), .val (.int (1 : Int32))] [(.int (Int32.ofNat P1)), (.int (Int32.ofNat (P2 + 1))), (.int (own_refI (Int32.ofNat (P2 + 1)) (Int32.ofNat P1) (Int32.ofNat P2) (Int32.ofNat P3)))]) _
  refine Go.step (fun _ => XS.iload X103.here hx rfl (hb hby at_164) rfl ) ?_
  show Go p e below T103 (mkF m 166 #[.val (.int p0), .val (.int p1), .val (.int p2), .val (.int p3), .val (.int p4), .val (.int (Int32.ofNat N)), .val (.int (Int32.ofNat P1)), .val (.int (Int32.ofNat P2)), .val (.int (Int32.ofNat P3)), .val (.int (Int32.ofNat Xq)), .val (.ref b94), .val (.int (1 : Int32))] [(.int (Int32.ofNat P2)), (.int (Int32.ofNat P1)), (.int (Int32.ofNat (P2 + 1))), (.int (own_refI (Int32.ofNat (P2 + 1)) (Int32.ofNat P1) (Int32.ofNat P2) (Int32.ofNat P3)))]) _
  refine Go.step (fun _ => XS.iload X103.here hx rfl (hb hby at_166) rfl ) ?_
  show Go p e below T103 (mkF m 168 #[.val (.int p0), .val (.int p1), .val (.int p2), .val (.int p3), .val (.int p4), .val (.int (Int32.ofNat N)), .val (.int (Int32.ofNat P1)), .val (.int (Int32.ofNat P2)), .val (.int (Int32.ofNat P3)), .val (.int (Int32.ofNat Xq)), .val (.ref b94), .val (.int (1 : Int32))] [(.int (Int32.ofNat P3)), (.int (Int32.ofNat P2)), (.int (Int32.ofNat P1)), (.int (Int32.ofNat (P2 + 1))), (.int (own_refI (Int32.ofNat (P2 + 1)) (Int32.ofNat P1) (Int32.ofNat P2) (Int32.ofNat P3)))]) _
  obtain ⟨_, _, ⟨T104, L104, k104, n104⟩, -, X104, ⟨Lc104, hQ104, l104, y104, z104⟩, st104⟩ := Jvm.LawKit.callS X103 hx (y := (⟨"com/example/maxhue/maxhue/PointSetAddPinLaw", "ref", "(IIII)I"⟩ : MethodName)) hown (mvT hZ (hw _ (List.mem_of_getElem? (i := 31) rfl))) (mvT hZ (hw _ (List.mem_of_getElem? (i := 32) rfl))) (mvT hZ (hw _ (List.mem_of_getElem? (i := 33) rfl))) (mvT hZ (hw _ (List.mem_of_getElem? (i := 34) rfl))) (by decide) (backOf (W := 1) (rmRef l Z a0 hw [] (Int32.ofNat (P2 + 1)) (Int32.ofNat P1) (Int32.ofNat P2) (Int32.ofNat P3) T98.heap n0 Zs98) hZ (hw _ (List.mem_of_getElem? (i := 34) rfl)) (hw _ (List.mem_of_getElem? (i := 33) rfl)) (by decide) (by decide)) (g := (mkF m 168 #[.val (.int p0), .val (.int p1), .val (.int p2), .val (.int p3), .val (.int p4), .val (.int (Int32.ofNat N)), .val (.int (Int32.ofNat P1)), .val (.int (Int32.ofNat P2)), .val (.int (Int32.ofNat P3)), .val (.int (Int32.ofNat Xq)), .val (.ref b94), .val (.int (1 : Int32))] [(.int (Int32.ofNat P3)), (.int (Int32.ofNat P2)), (.int (Int32.ofNat P1)), (.int (Int32.ofNat (P2 + 1))), (.int (own_refI (Int32.ofNat (P2 + 1)) (Int32.ofNat P1) (Int32.ofNat P2) (Int32.ofNat P3)))])) rfl (by rw [hml]; rfl) (argsL := [(.int (Int32.ofNat (P2 + 1))), (.int (Int32.ofNat P1)), (.int (Int32.ofNat P2)), (.int (Int32.ofNat P3))]) (rest := [(.int (own_refI (Int32.ofNat (P2 + 1)) (Int32.ofNat P1) (Int32.ofNat P2) (Int32.ofNat P3)))]) (lenOf pd_4 rfl) rfl (by show 2 * 0 + _ ≤ _; exact Nat.le_of_eq rfl) (hb hby at_168) (fun _ _ => ⟨rfl, eh103, (by decide : 0 + 1 + 5 + 0 + 0 + 0 + 0 + 0 + 0 + 0 + 0 + 0 ≤ _), (by decide : 0 + 1 + 16649 + 0 + 0 + 0 + 0 + 0 + 0 + 0 + 0 + 0 ≤ _)⟩)
  dsimp only [Pt.U, Pt.locs, Pt.cells, Pt.slots] at X104 l104 y104 z104 st104 hQ104
  subst l104 y104 z104
  obtain ⟨rfl, Nq104, ei104⟩ := hQ104
  have N104 := Fr.app N103 Nq104
  refine Go.step st104 ?_
  show Go p e below T104 (mkF m 171 #[.val (.int p0), .val (.int p1), .val (.int p2), .val (.int p3), .val (.int p4), .val (.int (Int32.ofNat N)), .val (.int (Int32.ofNat P1)), .val (.int (Int32.ofNat P2)), .val (.int (Int32.ofNat P3)), .val (.int (Int32.ofNat Xq)), .val (.ref b94), .val (.int (1 : Int32))] [(.int (own_refI (Int32.ofNat (P2 + 1)) (Int32.ofNat P1) (Int32.ofNat P2) (Int32.ofNat P3))), (.int (own_refI (Int32.ofNat (P2 + 1)) (Int32.ofNat P1) (Int32.ofNat P2) (Int32.ofNat P3)))]) _
  refine Go.step (fun _ => XS.icmpNo X104.here hx rfl (hb hby at_171) rfl (teq rfl).2) ?_
  show Go p e below T104 (mkF m 174 #[.val (.int p0), .val (.int p1), .val (.int p2), .val (.int p3), .val (.int p4), .val (.int (Int32.ofNat N)), .val (.int (Int32.ofNat P1)), .val (.int (Int32.ofNat P2)), .val (.int (Int32.ofNat P3)), .val (.int (Int32.ofNat Xq)), .val (.ref b94), .val (.int (1 : Int32))] []) _
  refine Go.step (fun _ => XS.iconst X104.here hx rfl (hb hby at_174)) ?_
  show Go p e below T104 (mkF m 175 #[.val (.int p0), .val (.int p1), .val (.int p2), .val (.int p3), .val (.int p4), .val (.int (Int32.ofNat N)), .val (.int (Int32.ofNat P1)), .val (.int (Int32.ofNat P2)), .val (.int (Int32.ofNat P3)), .val (.int (Int32.ofNat Xq)), .val (.ref b94), .val (.int (1 : Int32))] [(.int (1 : Int32))]) _
  refine Go.step (fun _ => XS.goto X104.here hx rfl (pc0 := 175) (pc' := 179) rfl (hb hby at_175) (by decide) (by decide)) ?_
  show Go p e below T104 (mkF m 179 #[.val (.int p0), .val (.int p1), .val (.int p2), .val (.int p3), .val (.int p4), .val (.int (Int32.ofNat N)), .val (.int (Int32.ofNat P1)), .val (.int (Int32.ofNat P2)), .val (.int (Int32.ofNat P3)), .val (.int (Int32.ofNat Xq)), .val (.ref b94), .val (.int (1 : Int32))] [(.int (1 : Int32))]) _
  refine Go.step (fun _ => XS.istore X104.here hx rfl (hb hby at_179) rfl (l' := #[.val (.int p0), .val (.int p1), .val (.int p2), .val (.int p3), .val (.int p4), .val (.int (Int32.ofNat N)), .val (.int (Int32.ofNat P1)), .val (.int (Int32.ofNat P2)), .val (.int (Int32.ofNat P3)), .val (.int (Int32.ofNat Xq)), .val (.ref b94), .val (.int (1 : Int32))]) rfl) ?_
  show Go p e below T104 (mkF m 181 #[.val (.int p0), .val (.int p1), .val (.int p2), .val (.int p3), .val (.int p4), .val (.int (Int32.ofNat N)), .val (.int (Int32.ofNat P1)), .val (.int (Int32.ofNat P2)), .val (.int (Int32.ofNat P3)), .val (.int (Int32.ofNat Xq)), .val (.ref b94), .val (.int (1 : Int32))] []) _
  refine Go.step (fun _ => XS.iload X104.here hx rfl (hb hby at_181) rfl ) ?_
  show Go p e below T104 (mkF m 183 #[.val (.int p0), .val (.int p1), .val (.int p2), .val (.int p3), .val (.int p4), .val (.int (Int32.ofNat N)), .val (.int (Int32.ofNat P1)), .val (.int (Int32.ofNat P2)), .val (.int (Int32.ofNat P3)), .val (.int (Int32.ofNat Xq)), .val (.ref b94), .val (.int (1 : Int32))] [(.int (1 : Int32))]) _
  refine Go.step (fun _ => XS.ifNo X104.here hx rfl (hb hby at_183) rfl ((if0 _ _).trans (feq (by decide)).1)) ?_
  show Go p e below T104 (mkF m 186 #[.val (.int p0), .val (.int p1), .val (.int p2), .val (.int p3), .val (.int p4), .val (.int (Int32.ofNat N)), .val (.int (Int32.ofNat P1)), .val (.int (Int32.ofNat P2)), .val (.int (Int32.ofNat P3)), .val (.int (Int32.ofNat Xq)), .val (.ref b94), .val (.int (1 : Int32))] []) _
  refine Go.step (fun _ => XS.aload X104.here hx rfl (hb hby at_186) rfl rfl ) ?_
  show Go p e below T104 (mkF m 188 #[.val (.int p0), .val (.int p1), .val (.int p2), .val (.int p3), .val (.int p4), .val (.int (Int32.ofNat N)), .val (.int (Int32.ofNat P1)), .val (.int (Int32.ofNat P2)), .val (.int (Int32.ofNat P3)), .val (.int (Int32.ofNat Xq)), .val (.ref b94), .val (.int (1 : Int32))] [(.ref b94)]) _
  refine Go.step (fun _ => XS.iload X104.here hx rfl (hb hby at_188) rfl ) ?_
  show Go p e below T104 (mkF m 190 #[.val (.int p0), .val (.int p1), .val (.int p2), .val (.int p3), .val (.int p4), .val (.int (Int32.ofNat N)), .val (.int (Int32.ofNat P1)), .val (.int (Int32.ofNat P2)), .val (.int (Int32.ofNat P3)), .val (.int (Int32.ofNat Xq)), .val (.ref b94), .val (.int (1 : Int32))] [(.int (Int32.ofNat P3)), (.ref b94)]) _
  refine Go.step (fun _ => XS.iconst X104.here hx rfl (hb hby at_190)) ?_
  show Go p e below T104 (mkF m 191 #[.val (.int p0), .val (.int p1), .val (.int p2), .val (.int p3), .val (.int p4), .val (.int (Int32.ofNat N)), .val (.int (Int32.ofNat P1)), .val (.int (Int32.ofNat P2)), .val (.int (Int32.ofNat P3)), .val (.int (Int32.ofNat Xq)), .val (.ref b94), .val (.int (1 : Int32))] [(.int (1 : Int32)), (.int (Int32.ofNat P3)), (.ref b94)]) _
  refine Go.step (fun _ => XS.iadd X104.here hx rfl (hb hby at_191) rfl) ?_
  show Go p e below T104 (mkF m 192 #[.val (.int p0), .val (.int p1), .val (.int p2), .val (.int p3), .val (.int p4), .val (.int (Int32.ofNat N)), .val (.int (Int32.ofNat P1)), .val (.int (Int32.ofNat P2)), .val (.int (Int32.ofNat P3)), .val (.int (Int32.ofNat Xq)), .val (.ref b94), .val (.int (1 : Int32))] [(.int ((Int32.ofNat P3) + (1 : Int32))), (.ref b94)]) _
  rw [show Int32.ofNat P3 + (1 : Int32) = Int32.ofNat (P3 + 1) from own_add P3 1]
  show Go p e below T104 (mkF m 192 #[.val (.int p0), .val (.int p1), .val (.int p2), .val (.int p3), .val (.int p4), .val (.int (Int32.ofNat N)), .val (.int (Int32.ofNat P1)), .val (.int (Int32.ofNat P2)), .val (.int (Int32.ofNat P3)), .val (.int (Int32.ofNat Xq)), .val (.ref b94), .val (.int (1 : Int32))] [(.int (Int32.ofNat (P3 + 1))), (.ref b94)]) _
  obtain ⟨cq105, kq105, q105a, q105b, q105c⟩ := isOf hZ ei104 Tr98.1
  obtain ⟨_, _, ⟨T105, L105, k105, n105⟩, -, X105, ⟨Lc105, hQ105, l105, y105, z105⟩, st105⟩ := X104.virtualBack hx (y := (⟨"com/example/maxhue/maxhue/PointSet", "lastBelow", "(I)I"⟩ : MethodName)) (z := (⟨"com/example/maxhue/maxhue/PointSet", "lastBelow", "(I)I"⟩ : MethodName)) hown (mvT hZ (hw _ (List.mem_of_getElem? (i := 26) rfl))) (mvT hZ (hw _ (List.mem_of_getElem? (i := 27) rfl))) (notFace_of_selects (args := #[]) (mvT hZ (hw _ (List.mem_of_getElem? (i := 29) rfl)))) (mvT hZ (hw _ (List.mem_of_getElem? (i := 29) rfl))) (mvT hZ (hw _ (List.mem_of_getElem? (i := 28) rfl))) (by decide) (backOf (W := 0) (rmLast l Z a0 hw [] b94 A95 M95 lv95 (szN N) f98 (fun q => (fun q => (fun q => (fun _ => False) q ∨ q = P1) q ∨ q = P2) q ∨ q = P3) N (P3 + 1) (own_refI (Int32.ofNat (P3 + 1)) (Int32.ofNat P1) (Int32.ofNat P2) (Int32.ofNat P3)) T98.heap n0 Zs98 Tr98 R98 (by omega) hszb (by omega) hN1 hM1 (by omega) hSN (fun q z => own_pt z _) (fun k hk P z => htop P (by rw [show M95 - 1 = k from by omega]; exact z)) (own_bestRef (by omega) (by omega) (by omega) (by omega))) hZ (hw _ (List.mem_of_getElem? (i := 30) rfl)) (hw _ (List.mem_of_getElem? (i := 4) rfl)) (by decide) (by decide)) q105a q105c (g := (mkF m 192 #[.val (.int p0), .val (.int p1), .val (.int p2), .val (.int p3), .val (.int p4), .val (.int (Int32.ofNat N)), .val (.int (Int32.ofNat P1)), .val (.int (Int32.ofNat P2)), .val (.int (Int32.ofNat P3)), .val (.int (Int32.ofNat Xq)), .val (.ref b94), .val (.int (1 : Int32))] [(.int (Int32.ofNat (P3 + 1))), (.ref b94)])) rfl (by rw [hml]; rfl) (Steps.refl _) (argsL := [(.int (Int32.ofNat (P3 + 1)))]) (rest := []) (lenOf pd_0 rfl) rfl (by show 2 * 0 + _ ≤ _; exact Nat.le_of_eq rfl) (hb hby at_192) (fun _ _ => ⟨rfl, ei104, (by decide : 0 + 1 + 5 + 0 + 0 + 0 + 0 + 0 + 0 + 0 + 0 + 0 + 0 ≤ _), (by decide : 0 + 1 + 16649 + 0 + 0 + 0 + 0 + 0 + 0 + 0 + 0 + 0 + 0 ≤ _)⟩)
  dsimp only [Pt.U, Pt.locs, Pt.cells, Pt.slots] at X105 l105 y105 z105 st105 hQ105
  subst l105 y105 z105
  obtain ⟨rfl, Nq105, eh105⟩ := hQ105
  have N105 := Fr.app N104 Nq105
  refine Go.call st105 ?_
  show Go p e below T105 (mkF m 195 #[.val (.int p0), .val (.int p1), .val (.int p2), .val (.int p3), .val (.int p4), .val (.int (Int32.ofNat N)), .val (.int (Int32.ofNat P1)), .val (.int (Int32.ofNat P2)), .val (.int (Int32.ofNat P3)), .val (.int (Int32.ofNat Xq)), .val (.ref b94), .val (.int (1 : Int32))] [(.int (own_refI (Int32.ofNat (P3 + 1)) (Int32.ofNat P1) (Int32.ofNat P2) (Int32.ofNat P3)))]) _
  refine Go.step (fun _ => XS.iload X105.here hx rfl (hb hby at_195) rfl ) ?_
  show Go p e below T105 (mkF m 197 #[.val (.int p0), .val (.int p1), .val (.int p2), .val (.int p3), .val (.int p4), .val (.int (Int32.ofNat N)), .val (.int (Int32.ofNat P1)), .val (.int (Int32.ofNat P2)), .val (.int (Int32.ofNat P3)), .val (.int (Int32.ofNat Xq)), .val (.ref b94), .val (.int (1 : Int32))] [(.int (Int32.ofNat P3)), (.int (own_refI (Int32.ofNat (P3 + 1)) (Int32.ofNat P1) (Int32.ofNat P2) (Int32.ofNat P3)))]) _
  refine Go.step (fun _ => XS.iconst X105.here hx rfl (hb hby at_197)) ?_
  show Go p e below T105 (mkF m 198 #[.val (.int p0), .val (.int p1), .val (.int p2), .val (.int p3), .val (.int p4), .val (.int (Int32.ofNat N)), .val (.int (Int32.ofNat P1)), .val (.int (Int32.ofNat P2)), .val (.int (Int32.ofNat P3)), .val (.int (Int32.ofNat Xq)), .val (.ref b94), .val (.int (1 : Int32))] [(.int (1 : Int32)), (.int (Int32.ofNat P3)), (.int (own_refI (Int32.ofNat (P3 + 1)) (Int32.ofNat P1) (Int32.ofNat P2) (Int32.ofNat P3)))]) _
  refine Go.step (fun _ => XS.iadd X105.here hx rfl (hb hby at_198) rfl) ?_
  show Go p e below T105 (mkF m 199 #[.val (.int p0), .val (.int p1), .val (.int p2), .val (.int p3), .val (.int p4), .val (.int (Int32.ofNat N)), .val (.int (Int32.ofNat P1)), .val (.int (Int32.ofNat P2)), .val (.int (Int32.ofNat P3)), .val (.int (Int32.ofNat Xq)), .val (.ref b94), .val (.int (1 : Int32))] [(.int ((Int32.ofNat P3) + (1 : Int32))), (.int (own_refI (Int32.ofNat (P3 + 1)) (Int32.ofNat P1) (Int32.ofNat P2) (Int32.ofNat P3)))]) _
  rw [show Int32.ofNat P3 + (1 : Int32) = Int32.ofNat (P3 + 1) from own_add P3 1]
  show Go p e below T105 (mkF m 199 #[.val (.int p0), .val (.int p1), .val (.int p2), .val (.int p3), .val (.int p4), .val (.int (Int32.ofNat N)), .val (.int (Int32.ofNat P1)), .val (.int (Int32.ofNat P2)), .val (.int (Int32.ofNat P3)), .val (.int (Int32.ofNat Xq)), .val (.ref b94), .val (.int (1 : Int32))] [(.int (Int32.ofNat (P3 + 1))), (.int (own_refI (Int32.ofNat (P3 + 1)) (Int32.ofNat P1) (Int32.ofNat P2) (Int32.ofNat P3)))]) _
  refine Go.step (fun _ => XS.iload X105.here hx rfl (hb hby at_199) rfl ) ?_
  show Go p e below T105 (mkF m 201 #[.val (.int p0), .val (.int p1), .val (.int p2), .val (.int p3), .val (.int p4), .val (.int (Int32.ofNat N)), .val (.int (Int32.ofNat P1)), .val (.int (Int32.ofNat P2)), .val (.int (Int32.ofNat P3)), .val (.int (Int32.ofNat Xq)), .val (.ref b94), .val (.int (1 : Int32))] [(.int (Int32.ofNat P1)), (.int (Int32.ofNat (P3 + 1))), (.int (own_refI (Int32.ofNat (P3 + 1)) (Int32.ofNat P1) (Int32.ofNat P2) (Int32.ofNat P3)))]) _
  refine Go.step (fun _ => XS.iload X105.here hx rfl (hb hby at_201) rfl ) ?_
  show Go p e below T105 (mkF m 203 #[.val (.int p0), .val (.int p1), .val (.int p2), .val (.int p3), .val (.int p4), .val (.int (Int32.ofNat N)), .val (.int (Int32.ofNat P1)), .val (.int (Int32.ofNat P2)), .val (.int (Int32.ofNat P3)), .val (.int (Int32.ofNat Xq)), .val (.ref b94), .val (.int (1 : Int32))] [(.int (Int32.ofNat P2)), (.int (Int32.ofNat P1)), (.int (Int32.ofNat (P3 + 1))), (.int (own_refI (Int32.ofNat (P3 + 1)) (Int32.ofNat P1) (Int32.ofNat P2) (Int32.ofNat P3)))]) _
  refine Go.step (fun _ => XS.iload X105.here hx rfl (hb hby at_203) rfl ) ?_
  show Go p e below T105 (mkF m 205 #[.val (.int p0), .val (.int p1), .val (.int p2), .val (.int p3), .val (.int p4), .val (.int (Int32.ofNat N)), .val (.int (Int32.ofNat P1)), .val (.int (Int32.ofNat P2)), .val (.int (Int32.ofNat P3)), .val (.int (Int32.ofNat Xq)), .val (.ref b94), .val (.int (1 : Int32))] [(.int (Int32.ofNat P3)), (.int (Int32.ofNat P2)), (.int (Int32.ofNat P1)), (.int (Int32.ofNat (P3 + 1))), (.int (own_refI (Int32.ofNat (P3 + 1)) (Int32.ofNat P1) (Int32.ofNat P2) (Int32.ofNat P3)))]) _
  obtain ⟨_, _, ⟨T106, L106, k106, n106⟩, -, X106, ⟨Lc106, hQ106, l106, y106, z106⟩, st106⟩ := Jvm.LawKit.callS X105 hx (y := (⟨"com/example/maxhue/maxhue/PointSetAddPinLaw", "ref", "(IIII)I"⟩ : MethodName)) hown (mvT hZ (hw _ (List.mem_of_getElem? (i := 31) rfl))) (mvT hZ (hw _ (List.mem_of_getElem? (i := 32) rfl))) (mvT hZ (hw _ (List.mem_of_getElem? (i := 33) rfl))) (mvT hZ (hw _ (List.mem_of_getElem? (i := 34) rfl))) (by decide) (backOf (W := 1) (rmRef l Z a0 hw [] (Int32.ofNat (P3 + 1)) (Int32.ofNat P1) (Int32.ofNat P2) (Int32.ofNat P3) T98.heap n0 Zs98) hZ (hw _ (List.mem_of_getElem? (i := 34) rfl)) (hw _ (List.mem_of_getElem? (i := 33) rfl)) (by decide) (by decide)) (g := (mkF m 205 #[.val (.int p0), .val (.int p1), .val (.int p2), .val (.int p3), .val (.int p4), .val (.int (Int32.ofNat N)), .val (.int (Int32.ofNat P1)), .val (.int (Int32.ofNat P2)), .val (.int (Int32.ofNat P3)), .val (.int (Int32.ofNat Xq)), .val (.ref b94), .val (.int (1 : Int32))] [(.int (Int32.ofNat P3)), (.int (Int32.ofNat P2)), (.int (Int32.ofNat P1)), (.int (Int32.ofNat (P3 + 1))), (.int (own_refI (Int32.ofNat (P3 + 1)) (Int32.ofNat P1) (Int32.ofNat P2) (Int32.ofNat P3)))])) rfl (by rw [hml]; rfl) (argsL := [(.int (Int32.ofNat (P3 + 1))), (.int (Int32.ofNat P1)), (.int (Int32.ofNat P2)), (.int (Int32.ofNat P3))]) (rest := [(.int (own_refI (Int32.ofNat (P3 + 1)) (Int32.ofNat P1) (Int32.ofNat P2) (Int32.ofNat P3)))]) (lenOf pd_4 rfl) rfl (by show 2 * 0 + _ ≤ _; exact Nat.le_of_eq rfl) (hb hby at_205) (fun _ _ => ⟨rfl, eh105, (by decide : 0 + 1 + 5 + 0 + 0 + 0 + 0 + 0 + 0 + 0 + 0 + 0 + 0 + 0 ≤ _), (by decide : 0 + 1 + 16649 + 0 + 0 + 0 + 0 + 0 + 0 + 0 + 0 + 0 + 0 + 0 ≤ _)⟩)
  dsimp only [Pt.U, Pt.locs, Pt.cells, Pt.slots] at X106 l106 y106 z106 st106 hQ106
  subst l106 y106 z106
  obtain ⟨rfl, Nq106, ei106⟩ := hQ106
  have N106 := Fr.app N105 Nq106
  refine Go.step st106 ?_
  show Go p e below T106 (mkF m 208 #[.val (.int p0), .val (.int p1), .val (.int p2), .val (.int p3), .val (.int p4), .val (.int (Int32.ofNat N)), .val (.int (Int32.ofNat P1)), .val (.int (Int32.ofNat P2)), .val (.int (Int32.ofNat P3)), .val (.int (Int32.ofNat Xq)), .val (.ref b94), .val (.int (1 : Int32))] [(.int (own_refI (Int32.ofNat (P3 + 1)) (Int32.ofNat P1) (Int32.ofNat P2) (Int32.ofNat P3))), (.int (own_refI (Int32.ofNat (P3 + 1)) (Int32.ofNat P1) (Int32.ofNat P2) (Int32.ofNat P3)))]) _
  refine Go.step (fun _ => XS.icmpNo X106.here hx rfl (hb hby at_208) rfl (teq rfl).2) ?_
  show Go p e below T106 (mkF m 211 #[.val (.int p0), .val (.int p1), .val (.int p2), .val (.int p3), .val (.int p4), .val (.int (Int32.ofNat N)), .val (.int (Int32.ofNat P1)), .val (.int (Int32.ofNat P2)), .val (.int (Int32.ofNat P3)), .val (.int (Int32.ofNat Xq)), .val (.ref b94), .val (.int (1 : Int32))] []) _
  refine Go.step (fun _ => XS.iconst X106.here hx rfl (hb hby at_211)) ?_
  show Go p e below T106 (mkF m 212 #[.val (.int p0), .val (.int p1), .val (.int p2), .val (.int p3), .val (.int p4), .val (.int (Int32.ofNat N)), .val (.int (Int32.ofNat P1)), .val (.int (Int32.ofNat P2)), .val (.int (Int32.ofNat P3)), .val (.int (Int32.ofNat Xq)), .val (.ref b94), .val (.int (1 : Int32))] [(.int (1 : Int32))]) _
  refine Go.step (fun _ => XS.goto X106.here hx rfl (pc0 := 212) (pc' := 216) rfl (hb hby at_212) (by decide) (by decide)) ?_
  show Go p e below T106 (mkF m 216 #[.val (.int p0), .val (.int p1), .val (.int p2), .val (.int p3), .val (.int p4), .val (.int (Int32.ofNat N)), .val (.int (Int32.ofNat P1)), .val (.int (Int32.ofNat P2)), .val (.int (Int32.ofNat P3)), .val (.int (Int32.ofNat Xq)), .val (.ref b94), .val (.int (1 : Int32))] [(.int (1 : Int32))]) _
  refine Go.step (fun _ => XS.istore X106.here hx rfl (hb hby at_216) rfl (l' := #[.val (.int p0), .val (.int p1), .val (.int p2), .val (.int p3), .val (.int p4), .val (.int (Int32.ofNat N)), .val (.int (Int32.ofNat P1)), .val (.int (Int32.ofNat P2)), .val (.int (Int32.ofNat P3)), .val (.int (Int32.ofNat Xq)), .val (.ref b94), .val (.int (1 : Int32))]) rfl) ?_
  show Go p e below T106 (mkF m 218 #[.val (.int p0), .val (.int p1), .val (.int p2), .val (.int p3), .val (.int p4), .val (.int (Int32.ofNat N)), .val (.int (Int32.ofNat P1)), .val (.int (Int32.ofNat P2)), .val (.int (Int32.ofNat P3)), .val (.int (Int32.ofNat Xq)), .val (.ref b94), .val (.int (1 : Int32))] []) _
  refine Go.step (fun _ => XS.iload X106.here hx rfl (hb hby at_218) rfl ) ?_
  show Go p e below T106 (mkF m 220 #[.val (.int p0), .val (.int p1), .val (.int p2), .val (.int p3), .val (.int p4), .val (.int (Int32.ofNat N)), .val (.int (Int32.ofNat P1)), .val (.int (Int32.ofNat P2)), .val (.int (Int32.ofNat P3)), .val (.int (Int32.ofNat Xq)), .val (.ref b94), .val (.int (1 : Int32))] [(.int (1 : Int32))]) _
  refine Go.retN (t := .boolean) (z' := (1 : Int32)) X106 hx hret (by simp) hlk (hb hby at_220) (by decide) ?_ (by decide) (by decide)
  exact ⟨rfl, N106⟩
set_option maxRecDepth 65536 in
set_option maxHeartbeats 40000000 in
theorem comes_1 {Post : Tables → Env → Array Value → State → Outcome → State → Prop} (hpost : ∀ tb e args s v u, (limb_1_1.after args s (.returned v) u = true ∧ limb_1_2.after args s (.returned v) u = true ∧ True) → FrameEnd s (.returned v) u (Jvm.fieldLocs frame_1_writes args s ++ Jvm.arrayLocs frame_1_arrays args s ++ Jvm.staticLocs frame_1_statics s) 24 33408 → Post tb e args s (.returned v) u) :
    ArmFor flags0 classFile x code maxLocals ret World_1 tables_1 room_1 Calls_1 rest_1 Pre_1 Post := by
  intro l hfl _ _ p e ha hc hk s m args below hf hA hF happ hP
  obtain ⟨hcalls, hrest, hpre⟩ := hP
  obtain ⟨-, -, -, hnamed, -, -, -, hat⟩ := (Spec.applies_iff hf).mp happ
  obtain ⟨hg, hn⟩ := and_e (Cond.before_iff.mp (show (Jvm.Cond.and given_1 narrow_1).before args s = true from hpre))
  obtain ⟨g1, g2⟩ := and_e hg
  obtain ⟨g3, g4⟩ := and_e g2
  obtain ⟨g5, g6⟩ := and_e g4
  obtain ⟨g7, g8⟩ := and_e g6
  obtain ⟨g9, g10⟩ := and_e g8
  obtain ⟨w0, w1, w2, w3, w4, rfl⟩ : ∃ w0 w1 w2 w3 w4 : Value, args = #[w0, w1, w2, w3, w4] := by
    have hs : args.size = 5 := by simpa [Cond.value, given_1] using g1
    obtain ⟨L⟩ := args
    match L, hs with
    | [w0, w1, w2, w3, w4], _ => exact ⟨w0, w1, w2, w3, w4, rfl⟩
  have hw := fun d (hd : d ∈ tables_1) => atoms_spec (ws := Jvm.Cond.code x code maxLocals ret :: tables_1) hat d (List.mem_cons_of_mem _ hd)
  have hfit : Fit s := fun {y c} hc i hi => by
    obtain ⟨ha, rfl⟩ := Array.getElem?_eq_some_iff.mp hc
    have q := List.all_eq_true.mp ((Array.all_eq_true_iff_forall_mem.mp hF) _ (Array.getElem_mem ha)) i (List.mem_range.mpr hi)
    simpa [Array.getElem?_eq_getElem hi] using q
  obtain ⟨i0, ei0⟩ := is_v g3
  obtain rfl : w0 = (.int i0) := Option.some.inj ei0
  obtain ⟨i1, ei1⟩ := is_v g5
  obtain rfl : w1 = (.int i1) := Option.some.inj ei1
  obtain ⟨i2, ei2⟩ := is_v g7
  obtain rfl : w2 = (.int i2) := Option.some.inj ei2
  obtain ⟨i3, ei3⟩ := is_v g9
  obtain rfl : w3 = (.int i3) := Option.some.inj ei3
  obtain ⟨i4, ei4⟩ := is_v g10
  obtain rfl : w4 = (.int i4) := Option.some.inj ei4
  obtain ⟨n, o, h1, h2, h3, _, L, rfl, ⟨rfl, N⟩, hq⟩ := rm0 l s _ hw tables_1 i0 i1 i2 i3 i4 s.heap s.heap.size (Nat.le_refl _) p e ha hc hk s m _ below hf ((Spec.applies_iff_loose hf).mp happ).1 ⟨rfl, State.Warmed39.refl s, rfl⟩ trivial
  exact ⟨n, _, h1, h2, h3, hpost _ _ _ _ _ _ ⟨Cond.after_iff.mpr rfl, Cond.after_iff.mpr (eq_i res_at (Term.int_eval (1)) rfl), trivial⟩ ⟨hq.1, hq.2.1, (hq.2.2.sift fun y hy => Or.inr (N y hy)).mono (by decide) (by decide)⟩⟩
theorem main_1_1 : Claimed_1_1 := comes_1 fun _ _ _ _ _ _ h hF => ⟨h.1, hF⟩
theorem main_1_2 : Claimed_1_2 := comes_1 fun _ _ _ _ _ _ h hF => ⟨h.2.1, hF⟩
end Jvm.Pilot.@@N@@
namespace Jvm.Pilot.@@N@@
open Jvm Jvm.ClassFile Sem Op Lib Jvm.Free Jvm.Stand Jvm.Pilot.@@N@@.Jvm.D
/-! MADE BY PROGRAM (witnessworld.py) out of the Statement's table words and the real class files: 19 classes; the members and pool entries that the words name. The judged class is class 1, her method 2. -/
namespace start1
open Jvm.ClassFile
def u (s : String) : CpInfo := .utf8 (stringToUtf16 s)
/-- a pool by its gaps: so many unusable entries, then the entry; so many at the end -/
def gap : Nat → List CpInfo → List CpInfo
  | 0, r => r
  | n + 1, r => .unusable :: gap n r
def poolList (es : List (Nat × CpInfo)) (last : Nat) : List CpInfo := es.foldr (fun e r => gap e.1 (e.2 :: r)) (gap last [])
def pool (es : List (Nat × CpInfo)) (last : Nat) : Array CpInfo := ⟨poolList es last⟩
def fileOf (pool : Array CpInfo) (this : Nat) (attrs : Array Attribute := #[]) (ms : Array MethodInfo := #[]) (fl : Nat := 33) (sup : Nat := 0) (ifs : Array Nat := #[]) (fds : Array FieldInfo := #[]) : ClassFile where
  minorVersion := 0
  majorVersion := 65
  constantPool := pool
  accessFlags := fl
  thisClass := this
  superClass := sup
  interfaces := ifs
  fields := fds
  methods := ms
  attributes := attrs
def plain (name : String) (sup : Option ClassId) : Class where
  name := name
  kind := .ordinary
  loader := none
  accessFlags := 33
  super := sup
  interfaces := #[]
  cf := none
  fields := #[]
  methods := #[]
  instanceTypes := #[]
  staticTypes := #[]
  resolved := #[]
  callSites := []
  init := .initialized
  statics := none
  mirror := none

def pool0 : Array CpInfo := pool [(5, u "<init>"), (0, u "()V"), (1, .class_ 10), (1, u "java/lang/Object")] 113

def k0c0 : Code := { maxStack := 0, maxLocals := 1, code := object_method_1_code, exceptionTable := #[], attributes := #[] }
def k0m0 : Method := { name := "<init>", desc := "()V", sig := { parameters := [], returnType := none }, accessFlags := 1, code := some k0c0 }
/-- java/lang/Object -/
def k0 : Class := { plain "java/lang/Object" none with
  accessFlags := 33
  interfaces := #[]
  cf := some (fileOf pool0 8 #[] #[{ accessFlags := 1, nameIndex := 5, descriptorIndex := 6, attributes := #[] }] 33 0 #[] #[])
  fields := #[]
  methods := #[k0m0]
  instanceTypes := #[]
  staticTypes := #[]
  resolved := Array.replicate 124 none
  statics := none }

def pool1 : Array CpInfo := pool [(2, .class_ 4), (1, u "java/lang/Object"), (0, u "<init>"), (0, u "()V"), (0, .methodref 8 9), (0, .class_ 10), (0, .nameAndType 11 12), (0, u "java/lang/Math"), (0, u "max"), (0, u "(II)I"), (0, .integer 1048575), (0, .integer 2147483647), (0, .class_ 16), (0, u "com/example/maxhue/maxhue/PointSet"), (0, .methodref 15 18), (0, .nameAndType 5 19), (0, u "(I)V"), (0, .methodref 15 21), (0, .nameAndType 22 19), (0, u "add"), (0, .methodref 15 24), (0, .nameAndType 25 26), (0, u "lastBelow"), (0, u "(I)I"), (0, .methodref 28 29), (0, .class_ 30), (0, .nameAndType 31 32), (0, u "com/example/maxhue/maxhue/PointSetAddPinLaw"), (0, u "ref"), (0, u "(IIII)I"), (3, u "law"), (0, u "(IIIII)Z")] 2

def k1m0 : Method := { name := "<init>", desc := "()V", sig := { parameters := [], returnType := none }, accessFlags := 1, code := none }
def k1c1 : Code := { maxStack := 2, maxLocals := 5, code := method_2_code, exceptionTable := #[], attributes := #[] }
def k1m1 : Method := { name := "ref", desc := "(IIII)I", sig := { parameters := [.int, .int, .int, .int], returnType := some .int }, accessFlags := 10, code := some k1c1 }
def k1c2 : Code := { maxStack := 5, maxLocals := 12, code := code, exceptionTable := #[], attributes := #[] }
def k1m2 : Method := { name := "law", desc := "(IIIII)Z", sig := { parameters := [.int, .int, .int, .int, .int], returnType := some .boolean }, accessFlags := 9, code := some k1c2 }
/-- com/example/maxhue/maxhue/PointSetAddPinLaw -/
def k1 : Class := { plain "com/example/maxhue/maxhue/PointSetAddPinLaw" (some 0) with
  accessFlags := 49
  interfaces := #[]
  cf := some (fileOf pool1 28 #[] #[{ accessFlags := 1, nameIndex := 5, descriptorIndex := 6, attributes := #[] }, { accessFlags := 10, nameIndex := 31, descriptorIndex := 32, attributes := #[] }, { accessFlags := 9, nameIndex := 36, descriptorIndex := 37, attributes := #[] }] 49 2 #[] #[])
  fields := #[]
  methods := #[k1m0, k1m1, k1m2]
  instanceTypes := #[]
  staticTypes := #[]
  resolved := Array.replicate 40 none
  statics := none }

def pool2 : Array CpInfo := pool [(1, .methodref 2 3), (0, .class_ 4), (0, .nameAndType 5 6), (0, u "java/lang/Object"), (0, u "<init>"), (0, u "()V"), (0, .class_ 8), (0, u "[J"), (0, .fieldref 10 11), (0, .class_ 12), (0, .nameAndType 13 14), (0, u "com/example/maxhue/maxhue/PointSet"), (0, u "levels"), (0, u "[[J"), (0, .methodref 16 17), (0, .class_ 18), (0, .nameAndType 19 20), (0, u "java/lang/Math"), (0, u "max"), (0, u "(II)I"), (0, .long 18446744073709551615), (1, .methodref 10 24), (0, .nameAndType 25 26), (0, u "lastBit"), (0, u "(J)I"), (0, .methodref 28 29), (0, .class_ 30), (0, .nameAndType 31 26), (0, u "java/lang/Long"), (0, u "numberOfLeadingZeros"), (0, u "(I)V"), (3, u "add"), (2, u "lastBelow"), (0, u "(I)I")] 2

def k2c0 : Code := { maxStack := 5, maxLocals := 5, code := prog_61_method_1_code, exceptionTable := #[], attributes := #[] }
def k2m0 : Method := { name := "<init>", desc := "(I)V", sig := { parameters := [.int], returnType := none }, accessFlags := 0, code := some k2c0 }
def k2c1 : Code := { maxStack := 7, maxLocals := 9, code := prog_61_method_2_code, exceptionTable := #[], attributes := #[] }
def k2m1 : Method := { name := "add", desc := "(I)V", sig := { parameters := [.int], returnType := none }, accessFlags := 0, code := some k2c1 }
def k2c2 : Code := { maxStack := 7, maxLocals := 7, code := prog_61_method_4_code, exceptionTable := #[], attributes := #[] }
def k2m2 : Method := { name := "lastBelow", desc := "(I)I", sig := { parameters := [.int], returnType := some .int }, accessFlags := 0, code := some k2c2 }
def k2c3 : Code := { maxStack := 3, maxLocals := 2, code := prog_61_method_5_code, exceptionTable := #[], attributes := #[] }
def k2m3 : Method := { name := "lastBit", desc := "(J)I", sig := { parameters := [.long], returnType := some .int }, accessFlags := 10, code := some k2c3 }
/-- com/example/maxhue/maxhue/PointSet -/
def k2 : Class := { plain "com/example/maxhue/maxhue/PointSet" (some 0) with
  accessFlags := 48
  interfaces := #[]
  cf := some (fileOf pool2 10 #[] #[{ accessFlags := 0, nameIndex := 5, descriptorIndex := 32, attributes := #[] }, { accessFlags := 0, nameIndex := 36, descriptorIndex := 32, attributes := #[] }, { accessFlags := 0, nameIndex := 39, descriptorIndex := 40, attributes := #[] }, { accessFlags := 10, nameIndex := 25, descriptorIndex := 26, attributes := #[] }] 48 2 #[] #[{ accessFlags := 18, nameIndex := 13, descriptorIndex := 14, attributes := #[] }])
  fields := #[{ name := "levels", type := (.array (.array .long)), accessFlags := 18, slot := 0, constantValue := 0 }]
  methods := #[k2m0, k2m1, k2m2, k2m3]
  instanceTypes := #[(.array (.array .long))]
  staticTypes := #[]
  resolved := Array.replicate 43 none
  statics := none }

def pool3 : Array CpInfo := pool [(1, .class_ 2), (0, u "java/lang/Math"), (1, .class_ 6), (1, u "java/lang/Object"), (0, u "<init>"), (0, u "()V"), (89, .class_ 100), (1, u "java/lang/Math$RandomNumberGeneratorHolder"), (71, u "negativeZeroFloatBits"), (0, u "J"), (2, u "negativeZeroDoubleBits"), (21, u "max"), (46, u "$assertionsDisabled"), (0, u "Z"), (88, u "(II)I"), (2, u "twoToTheDoubleScaleDown"), (0, u "D"), (4, u "twoToTheDoubleScaleUp"), (9, u "E"), (3, u "PI"), (2, u "TAU"), (2, u "DEGREES_TO_RADIANS"), (0, u "RADIANS_TO_DEGREES")] 94

def k3m0 : Method := { name := "<init>", desc := "()V", sig := { parameters := [], returnType := none }, accessFlags := 2, code := none }
def k3c1 : Code := { maxStack := 2, maxLocals := 2, code := jdk_29_method_65_code, exceptionTable := #[], attributes := #[] }
def k3m1 : Method := { name := "max", desc := "(II)I", sig := { parameters := [.int, .int], returnType := some .int }, accessFlags := 9, code := some k3c1 }
/-- java/lang/Math -/
def k3 : Class := { plain "java/lang/Math" (some 0) with
  accessFlags := 49
  interfaces := #[]
  cf := some (fileOf pool3 1 #[.nestMembers #[98]] #[{ accessFlags := 2, nameIndex := 7, descriptorIndex := 8, attributes := #[] }, { accessFlags := 9, nameIndex := 198, descriptorIndex := 335, attributes := #[] }] 49 4 #[] #[{ accessFlags := 25, nameIndex := 354, descriptorIndex := 339, attributes := #[] }, { accessFlags := 25, nameIndex := 358, descriptorIndex := 339, attributes := #[] }, { accessFlags := 25, nameIndex := 361, descriptorIndex := 339, attributes := #[] }, { accessFlags := 26, nameIndex := 364, descriptorIndex := 339, attributes := #[] }, { accessFlags := 26, nameIndex := 365, descriptorIndex := 339, attributes := #[] }, { accessFlags := 26, nameIndex := 172, descriptorIndex := 173, attributes := #[] }, { accessFlags := 26, nameIndex := 176, descriptorIndex := 173, attributes := #[] }, { accessFlags := 8, nameIndex := 344, descriptorIndex := 339, attributes := #[] }, { accessFlags := 8, nameIndex := 338, descriptorIndex := 339, attributes := #[] }, { accessFlags := 4120, nameIndex := 245, descriptorIndex := 246, attributes := #[] }])
  fields := #[{ name := "E", type := .double, accessFlags := 25, slot := 0, constantValue := 0 }, { name := "PI", type := .double, accessFlags := 25, slot := 1, constantValue := 0 }, { name := "TAU", type := .double, accessFlags := 25, slot := 2, constantValue := 0 }, { name := "DEGREES_TO_RADIANS", type := .double, accessFlags := 26, slot := 3, constantValue := 0 }, { name := "RADIANS_TO_DEGREES", type := .double, accessFlags := 26, slot := 4, constantValue := 0 }, { name := "negativeZeroFloatBits", type := .long, accessFlags := 26, slot := 5, constantValue := 0 }, { name := "negativeZeroDoubleBits", type := .long, accessFlags := 26, slot := 6, constantValue := 0 }, { name := "twoToTheDoubleScaleUp", type := .double, accessFlags := 8, slot := 7, constantValue := 0 }, { name := "twoToTheDoubleScaleDown", type := .double, accessFlags := 8, slot := 8, constantValue := 0 }, { name := "$assertionsDisabled", type := .boolean, accessFlags := 4120, slot := 9, constantValue := 0 }]
  methods := #[k3m0, k3m1]
  instanceTypes := #[]
  staticTypes := #[.double, .double, .double, .double, .double, .long, .long, .double, .double, .boolean]
  resolved := Array.replicate 460 none
  statics := none }

def pool4 : Array CpInfo := pool [(1, .class_ 2), (0, u "java/io/Serializable"), (0, .class_ 4), (0, u "java/lang/Object")] 2

/-- java/io/Serializable -/
def k4 : Class := { plain "java/io/Serializable" (some 0) with
  accessFlags := 1537
  interfaces := #[]
  cf := some (fileOf pool4 1 #[] #[] 1537 3 #[] #[])
  fields := #[]
  methods := #[]
  instanceTypes := #[]
  staticTypes := #[]
  resolved := Array.replicate 7 none
  statics := none }

def pool5 : Array CpInfo := pool [(2, .class_ 4), (1, u "java/lang/Object"), (0, u "<init>"), (0, u "()V"), (1, .class_ 10), (1, u "java/lang/Number"), (2, .class_ 14), (0, u "java/io/Serializable"), (0, u "serialVersionUID"), (0, u "J")] 20

def k5m0 : Method := { name := "<init>", desc := "()V", sig := { parameters := [], returnType := none }, accessFlags := 1, code := none }
/-- java/lang/Number -/
def k5 : Class := { plain "java/lang/Number" (some 0) with
  accessFlags := 1057
  interfaces := #[4]
  cf := some (fileOf pool5 8 #[] #[{ accessFlags := 1, nameIndex := 5, descriptorIndex := 6, attributes := #[] }] 1057 2 #[13] #[{ accessFlags := 26, nameIndex := 15, descriptorIndex := 16, attributes := #[] }])
  fields := #[{ name := "serialVersionUID", type := .long, accessFlags := 26, slot := 0, constantValue := 0 }]
  methods := #[k5m0]
  instanceTypes := #[]
  staticTypes := #[.long]
  resolved := Array.replicate 37 none
  statics := none }

def pool6 : Array CpInfo := pool [(1, .class_ 2), (0, u "java/lang/Comparable"), (0, .class_ 4), (0, u "java/lang/Object")] 7

/-- java/lang/Comparable -/
def k6 : Class := { plain "java/lang/Comparable" (some 0) with
  accessFlags := 1537
  interfaces := #[]
  cf := some (fileOf pool6 1 #[] #[] 1537 3 #[] #[])
  fields := #[]
  methods := #[]
  instanceTypes := #[]
  staticTypes := #[]
  resolved := Array.replicate 12 none
  statics := none }

def pool7 : Array CpInfo := pool [(1, .class_ 2), (0, u "java/lang/constant/Constable"), (0, .class_ 4), (0, u "java/lang/Object")] 6

/-- java/lang/constant/Constable -/
def k7 : Class := { plain "java/lang/constant/Constable" (some 0) with
  accessFlags := 1537
  interfaces := #[]
  cf := some (fileOf pool7 1 #[] #[] 1537 3 #[] #[])
  fields := #[]
  methods := #[]
  instanceTypes := #[]
  staticTypes := #[]
  resolved := Array.replicate 11 none
  statics := none }

def pool8 : Array CpInfo := pool [(1, .class_ 2), (0, u "java/lang/constant/ConstantDesc"), (0, .class_ 4), (0, u "java/lang/Object")] 32

/-- java/lang/constant/ConstantDesc -/
def k8 : Class := { plain "java/lang/constant/ConstantDesc" (some 0) with
  accessFlags := 1537
  interfaces := #[]
  cf := some (fileOf pool8 1 #[] #[] 1537 3 #[] #[])
  fields := #[]
  methods := #[]
  instanceTypes := #[]
  staticTypes := #[]
  resolved := Array.replicate 37 none
  statics := none }

def pool9 : Array CpInfo := pool [(1, .class_ 2), (0, u "java/lang/Long"), (15, .class_ 20), (1, u "java/lang/Integer"), (79, u "numberOfLeadingZeros"), (0, u "(J)I"), (133, .class_ 237), (1, u "java/lang/Long$LongCache"), (33, .class_ 272), (0, u "java/lang/Number"), (2, u "value"), (0, u "J"), (31, .methodref 18 309), (0, .nameAndType 100 310), (0, u "(I)I"), (50, u "TYPE"), (0, u "Ljava/lang/Class;"), (0, .class_ 364), (0, u "java/lang/Comparable"), (0, .class_ 366), (0, u "java/lang/constant/Constable"), (0, .class_ 368), (0, u "java/lang/constant/ConstantDesc"), (0, u "MIN_VALUE"), (1, u "MAX_VALUE"), (4, u "SIZE"), (0, u "I"), (1, u "BYTES"), (1, u "serialVersionUID")] 142

def k9c0 : Code := { maxStack := 3, maxLocals := 3, code := jdk_35_method_48_code, exceptionTable := #[], attributes := #[] }
def k9m0 : Method := { name := "numberOfLeadingZeros", desc := "(J)I", sig := { parameters := [.long], returnType := some .int }, accessFlags := 9, code := some k9c0 }
/-- java/lang/Long -/
def k9 : Class := { plain "java/lang/Long" (some 5) with
  accessFlags := 49
  interfaces := #[6, 7, 8]
  cf := some (fileOf pool9 1 #[.nestMembers #[235]] #[{ accessFlags := 9, nameIndex := 100, descriptorIndex := 101, attributes := #[] }] 49 271 #[363, 365, 367] #[{ accessFlags := 25, nameIndex := 369, descriptorIndex := 276, attributes := #[] }, { accessFlags := 25, nameIndex := 371, descriptorIndex := 276, attributes := #[] }, { accessFlags := 25, nameIndex := 361, descriptorIndex := 362, attributes := #[] }, { accessFlags := 18, nameIndex := 275, descriptorIndex := 276, attributes := #[] }, { accessFlags := 25, nameIndex := 376, descriptorIndex := 377, attributes := #[] }, { accessFlags := 25, nameIndex := 379, descriptorIndex := 377, attributes := #[] }, { accessFlags := 26, nameIndex := 381, descriptorIndex := 276, attributes := #[] }])
  fields := #[{ name := "MIN_VALUE", type := .long, accessFlags := 25, slot := 0, constantValue := 0 }, { name := "MAX_VALUE", type := .long, accessFlags := 25, slot := 1, constantValue := 0 }, { name := "TYPE", type := (.object "java/lang/Class"), accessFlags := 25, slot := 2, constantValue := 0 }, { name := "value", type := .long, accessFlags := 18, slot := 0, constantValue := 0 }, { name := "SIZE", type := .int, accessFlags := 25, slot := 3, constantValue := 0 }, { name := "BYTES", type := .int, accessFlags := 25, slot := 4, constantValue := 0 }, { name := "serialVersionUID", type := .long, accessFlags := 26, slot := 5, constantValue := 0 }]
  methods := #[k9m0]
  instanceTypes := #[.long]
  staticTypes := #[.long, .long, (.object "java/lang/Class"), .int, .int, .long]
  resolved := Array.replicate 524 none
  statics := none }

def pool10 : Array CpInfo := pool [(1, .class_ 2), (0, u "java/lang/Integer"), (16, u "digits"), (0, u "[C"), (32, u "numberOfLeadingZeros"), (0, u "(I)I"), (30, u "DigitOnes"), (0, u "[B"), (2, u "DigitTens"), (99, .class_ 190), (0, u "java/lang/Integer$IntegerCache"), (3, u "I"), (8, .class_ 204), (0, u "java/lang/Number"), (2, u "value"), (56, .integer 65536), (37, u "TYPE"), (0, u "Ljava/lang/Class;"), (0, .class_ 305), (0, u "java/lang/Comparable"), (0, .class_ 307), (0, u "java/lang/constant/Constable"), (0, .class_ 309), (0, u "java/lang/constant/ConstantDesc"), (0, u "MIN_VALUE"), (1, u "MAX_VALUE"), (3, u "SIZE"), (1, u "BYTES"), (1, u "serialVersionUID"), (0, u "J")] 131

def k10c0 : Code := { maxStack := 3, maxLocals := 2, code := jdk_33_method_47_code, exceptionTable := #[], attributes := #[] }
def k10m0 : Method := { name := "numberOfLeadingZeros", desc := "(I)I", sig := { parameters := [.int], returnType := some .int }, accessFlags := 9, code := some k10c0 }
/-- java/lang/Integer -/
def k10 : Class := { plain "java/lang/Integer" (some 5) with
  accessFlags := 49
  interfaces := #[6, 7, 8]
  cf := some (fileOf pool10 1 #[.nestMembers #[189]] #[{ accessFlags := 9, nameIndex := 53, descriptorIndex := 54, attributes := #[] }] 49 203 #[304, 306, 308] #[{ accessFlags := 25, nameIndex := 310, descriptorIndex := 194, attributes := #[] }, { accessFlags := 25, nameIndex := 312, descriptorIndex := 194, attributes := #[] }, { accessFlags := 25, nameIndex := 302, descriptorIndex := 303, attributes := #[] }, { accessFlags := 24, nameIndex := 19, descriptorIndex := 20, attributes := #[] }, { accessFlags := 24, nameIndex := 89, descriptorIndex := 86, attributes := #[] }, { accessFlags := 24, nameIndex := 85, descriptorIndex := 86, attributes := #[] }, { accessFlags := 18, nameIndex := 207, descriptorIndex := 194, attributes := #[] }, { accessFlags := 25, nameIndex := 316, descriptorIndex := 194, attributes := #[] }, { accessFlags := 25, nameIndex := 318, descriptorIndex := 194, attributes := #[] }, { accessFlags := 26, nameIndex := 320, descriptorIndex := 321, attributes := #[] }])
  fields := #[{ name := "MIN_VALUE", type := .int, accessFlags := 25, slot := 0, constantValue := 0 }, { name := "MAX_VALUE", type := .int, accessFlags := 25, slot := 1, constantValue := 0 }, { name := "TYPE", type := (.object "java/lang/Class"), accessFlags := 25, slot := 2, constantValue := 0 }, { name := "digits", type := (.array .char), accessFlags := 24, slot := 3, constantValue := 0 }, { name := "DigitTens", type := (.array .byte), accessFlags := 24, slot := 4, constantValue := 0 }, { name := "DigitOnes", type := (.array .byte), accessFlags := 24, slot := 5, constantValue := 0 }, { name := "value", type := .int, accessFlags := 18, slot := 0, constantValue := 0 }, { name := "SIZE", type := .int, accessFlags := 25, slot := 6, constantValue := 0 }, { name := "BYTES", type := .int, accessFlags := 25, slot := 7, constantValue := 0 }, { name := "serialVersionUID", type := .long, accessFlags := 26, slot := 8, constantValue := 0 }]
  methods := #[k10m0]
  instanceTypes := #[.int]
  staticTypes := #[.int, .int, (.object "java/lang/Class"), (.array .char), (.array .byte), (.array .byte), .int, .int, .long]
  resolved := Array.replicate 453 none
  statics := none }

def pool11 : Array CpInfo := pool [(1, u "java/lang/Cloneable"), (0, .class_ 1), (0, u "java/lang/Object"), (0, .class_ 3)] 3

/-- java/lang/Cloneable -/
def k11 : Class := { plain "java/lang/Cloneable" (some 0) with
  accessFlags := 1537
  interfaces := #[]
  cf := some (fileOf pool11 2 #[] #[] 1537 4 #[] #[])
  fields := #[]
  methods := #[]
  instanceTypes := #[]
  staticTypes := #[]
  resolved := Array.replicate 8 none
  statics := none }

/-- the primitive byte -/
def k12 : Class := { plain "byte" none with kind := .primitive 'B', accessFlags := 0x411 }
/-- [B -/
def k13 : Class := { plain "[B" (some 0) with kind := .array 12 .byte, interfaces := #[11, 4], accessFlags := 1041 }

/-- the primitive int -/
def k14 : Class := { plain "int" none with kind := .primitive 'I', accessFlags := 0x411 }
/-- [I -/
def k15 : Class := { plain "[I" (some 0) with kind := .array 14 .int, interfaces := #[11, 4], accessFlags := 1041 }

/-- the primitive long -/
def k16 : Class := { plain "long" none with kind := .primitive 'J', accessFlags := 0x411 }
/-- [J -/
def k17 : Class := { plain "[J" (some 0) with kind := .array 16 .long, interfaces := #[11, 4], accessFlags := 1041 }

/-- [L[J; -/
def k18 : Class := { plain "[[J" (some 0) with kind := .array 17 (.array .long), interfaces := #[11, 4], accessFlags := 1041 }

def heap : Heap := #[{ cls := 18, slots := #[.null], vm := .none }]
def classes : Array Class := #[k0, k1, k2, k3, k4, k5, k6, k7, k8, k9, k10, k11, k12, k13, k14, k15, k16, k17, k18]
def interned : List (Array UInt16 × Addr) := []
def slotsUsed : Nat := 1
def theMethod : MethodId := ⟨1, 2⟩
def args0 : Array Value := #[.int 5, .int 3, .int 3, .int 3, .int 3]
def aboutOver (below : List Frame) : State where
  vm := { classes := classes, interned := interned.toArray }
  heap := heap
  slotsUsed := slotsUsed
  threads := #[{ frames := .invoking theMethod args0 :: below }]
def below0 : List Frame := [.native { method := ⟨0, 0⟩, args := #[] }]
def about1 : State := aboutOver below0
def p0 : Program := .bare "" "" ""
def e0 : Env := launch0.env 0 0 0
theorem w_frames : about1.frames = Frame.invoking theMethod args0 :: below0 := rfl
set_option maxRecDepth 65536 in
theorem w_args : argsFit about1.vm theMethod args0 = true := by decide +kernel
set_option maxRecDepth 65536 in
theorem w_heap : heapFits about1 = true := by decide +kernel
set_option maxRecDepth 65536 in
theorem w_runnable : about1.curStatus? = some .runnable := by decide +kernel
set_option maxRecDepth 65536 in
theorem w_alone : about1.alone = true := by decide +kernel
set_option maxRecDepth 65536 in
theorem w_named : about1.methodNamed? x = some theMethod := by decide +kernel
set_option maxRecDepth 65536 in
theorem w_hears : about1.hears theMethod below0 = true := by decide +kernel
set_option maxRecDepth 65536 in
theorem w_ripe : about1.ripe theMethod args0 below0 = true := by decide +kernel
theorem w_running : about1.status = .running := rfl
set_option maxRecDepth 65536 in
theorem w_room : about1.hasRoom e0.platform room_1 = true :=
  launch0.hasRoom_least _ room_1 (by decide +kernel) (by decide +kernel) (by decide +kernel) (by decide +kernel) (by decide +kernel) (by decide +kernel)
theorem allAtoms_all (ts : List Jvm.Cond) (a : Array Jvm.Value) (st : Jvm.State) : (allAtoms ts).before a st = ts.all (fun c => c.before a st) := by
  induction ts with
  | nil => rfl
  | cons c t ih =>
    show (Jvm.Cond.and c (allAtoms t)).before a st = _
    rw [Jvm.Cond.before_and, ih, List.all_cons]
def words1 : List Jvm.Cond := Jvm.Cond.code x code maxLocals ret :: tables_1
/-- a 'code' word, met by the world's own term for the bytes: nothing is compared byte by byte -/
theorem code_word {y : MethodName} {bytes : ByteArray} {mx : Nat} {rt : Option FieldType} {a : Array Value} {s : State} {m : MethodId} {meth : Method} {c : Code} (h1 : s.methodNamed? y = some m) (h2 : s.vm.method? m = some meth) (h3 : meth.code = some c) (h4 : c.code = bytes)
    (h5 : (c.maxLocals == mx && c.exceptionTable.isEmpty && decide (c.maxStack ≤ mostOperands) && decide (meth.sig.returnType = rt) && !meth.locks && decide (parseMethodDescriptor y.desc = some meth.sig)) = true) : (Jvm.Cond.code y bytes mx rt).before a s = true := by
  simp only [Bool.and_eq_true, beq_iff_eq, Bool.not_eq_true', decide_eq_true_eq] at h5
  obtain ⟨⟨⟨⟨⟨g1, g2⟩, g3⟩, g4⟩, g5⟩, g6⟩ := h5
  simp [Cond.before, Cond.holds, Cond.value, h1, h2, h3, h4, g1, g2, g3, g4, g5, g6]
def isCode : Jvm.Cond → Bool
  | .code _ _ _ _ => true
  | _ => false
theorem all_split {L : List Jvm.Cond} {P : Jvm.Cond → Bool} (h1 : L.all (fun c => isCode c || P c) = true) (h2 : ∀ c ∈ L.filter isCode, P c = true) : L.all P = true := by
  refine List.all_eq_true.mpr fun c hc => ?_
  have h := List.all_eq_true.mp h1 c hc
  rcases Bool.eq_false_or_eq_true (isCode c) with hi | hi
  · exact h2 c (List.mem_filter.mpr ⟨hc, hi⟩)
  · simpa [hi] using h
set_option maxRecDepth 65536 in
theorem w_c0 : (Jvm.Cond.code x code maxLocals ret).before args0 about1 = true := code_word (m := ⟨1, 2⟩) (meth := k1m2) (c := k1c2) (by decide +kernel) rfl rfl rfl (by decide +kernel)
set_option maxRecDepth 65536 in
theorem w_c1 : (Jvm.Cond.code ({ cls := "com/example/maxhue/maxhue/PointSet", name := "<init>", desc := "(I)V" } : Jvm.MethodName) prog_61_method_1_code (5 : Nat) (Option.none : Option Jvm.ClassFile.FieldType)).before args0 about1 = true := code_word (m := ⟨2, 0⟩) (meth := k2m0) (c := k2c0) (by decide +kernel) rfl rfl rfl (by decide +kernel)
set_option maxRecDepth 65536 in
theorem w_c2 : (Jvm.Cond.code ({ cls := "java/lang/Object", name := "<init>", desc := "()V" } : Jvm.MethodName) object_method_1_code (1 : Nat) (Option.none : Option Jvm.ClassFile.FieldType)).before args0 about1 = true := code_word (m := ⟨0, 0⟩) (meth := k0m0) (c := k0c0) (by decide +kernel) rfl rfl rfl (by decide +kernel)
set_option maxRecDepth 65536 in
theorem w_c3 : (Jvm.Cond.code ({ cls := "java/lang/Math", name := "max", desc := "(II)I" } : Jvm.MethodName) jdk_29_method_65_code (2 : Nat) (Option.some Jvm.ClassFile.FieldType.int)).before args0 about1 = true := code_word (m := ⟨3, 1⟩) (meth := k3m1) (c := k3c1) (by decide +kernel) rfl rfl rfl (by decide +kernel)
set_option maxRecDepth 65536 in
theorem w_c4 : (Jvm.Cond.code ({ cls := "com/example/maxhue/maxhue/PointSet", name := "add", desc := "(I)V" } : Jvm.MethodName) prog_61_method_2_code (9 : Nat) (Option.none : Option Jvm.ClassFile.FieldType)).before args0 about1 = true := code_word (m := ⟨2, 1⟩) (meth := k2m1) (c := k2c1) (by decide +kernel) rfl rfl rfl (by decide +kernel)
set_option maxRecDepth 65536 in
theorem w_c5 : (Jvm.Cond.code ({ cls := "com/example/maxhue/maxhue/PointSet", name := "lastBelow", desc := "(I)I" } : Jvm.MethodName) prog_61_method_4_code (7 : Nat) (Option.some Jvm.ClassFile.FieldType.int)).before args0 about1 = true := code_word (m := ⟨2, 2⟩) (meth := k2m2) (c := k2c2) (by decide +kernel) rfl rfl rfl (by decide +kernel)
set_option maxRecDepth 65536 in
theorem w_c6 : (Jvm.Cond.code ({ cls := "com/example/maxhue/maxhue/PointSetAddPinLaw", name := "ref", desc := "(IIII)I" } : Jvm.MethodName) method_2_code (5 : Nat) (Option.some Jvm.ClassFile.FieldType.int)).before args0 about1 = true := code_word (m := ⟨1, 1⟩) (meth := k1m1) (c := k1c1) (by decide +kernel) rfl rfl rfl (by decide +kernel)
set_option maxRecDepth 65536 in
theorem w_c7 : (Jvm.Cond.code ({ cls := "com/example/maxhue/maxhue/PointSet", name := "lastBit", desc := "(J)I" } : Jvm.MethodName) prog_61_method_5_code (2 : Nat) (Option.some Jvm.ClassFile.FieldType.int)).before args0 about1 = true := code_word (m := ⟨2, 3⟩) (meth := k2m3) (c := k2c3) (by decide +kernel) rfl rfl rfl (by decide +kernel)
set_option maxRecDepth 65536 in
theorem w_c8 : (Jvm.Cond.code ({ cls := "java/lang/Long", name := "numberOfLeadingZeros", desc := "(J)I" } : Jvm.MethodName) jdk_35_method_48_code (3 : Nat) (Option.some Jvm.ClassFile.FieldType.int)).before args0 about1 = true := code_word (m := ⟨9, 0⟩) (meth := k9m0) (c := k9c0) (by decide +kernel) rfl rfl rfl (by decide +kernel)
set_option maxRecDepth 65536 in
theorem w_c9 : (Jvm.Cond.code ({ cls := "java/lang/Integer", name := "numberOfLeadingZeros", desc := "(I)I" } : Jvm.MethodName) jdk_33_method_47_code (2 : Nat) (Option.some Jvm.ClassFile.FieldType.int)).before args0 about1 = true := code_word (m := ⟨10, 0⟩) (meth := k10m0) (c := k10c0) (by decide +kernel) rfl rfl rfl (by decide +kernel)
def codes1 : List Jvm.Cond := [Jvm.Cond.code x code maxLocals ret, Jvm.Cond.code ({ cls := "com/example/maxhue/maxhue/PointSet", name := "<init>", desc := "(I)V" } : Jvm.MethodName) prog_61_method_1_code (5 : Nat) (Option.none : Option Jvm.ClassFile.FieldType), Jvm.Cond.code ({ cls := "java/lang/Object", name := "<init>", desc := "()V" } : Jvm.MethodName) object_method_1_code (1 : Nat) (Option.none : Option Jvm.ClassFile.FieldType), Jvm.Cond.code ({ cls := "java/lang/Math", name := "max", desc := "(II)I" } : Jvm.MethodName) jdk_29_method_65_code (2 : Nat) (Option.some Jvm.ClassFile.FieldType.int), Jvm.Cond.code ({ cls := "com/example/maxhue/maxhue/PointSet", name := "add", desc := "(I)V" } : Jvm.MethodName) prog_61_method_2_code (9 : Nat) (Option.none : Option Jvm.ClassFile.FieldType), Jvm.Cond.code ({ cls := "com/example/maxhue/maxhue/PointSet", name := "lastBelow", desc := "(I)I" } : Jvm.MethodName) prog_61_method_4_code (7 : Nat) (Option.some Jvm.ClassFile.FieldType.int), Jvm.Cond.code ({ cls := "com/example/maxhue/maxhue/PointSetAddPinLaw", name := "ref", desc := "(IIII)I" } : Jvm.MethodName) method_2_code (5 : Nat) (Option.some Jvm.ClassFile.FieldType.int), Jvm.Cond.code ({ cls := "com/example/maxhue/maxhue/PointSet", name := "lastBit", desc := "(J)I" } : Jvm.MethodName) prog_61_method_5_code (2 : Nat) (Option.some Jvm.ClassFile.FieldType.int), Jvm.Cond.code ({ cls := "java/lang/Long", name := "numberOfLeadingZeros", desc := "(J)I" } : Jvm.MethodName) jdk_35_method_48_code (3 : Nat) (Option.some Jvm.ClassFile.FieldType.int), Jvm.Cond.code ({ cls := "java/lang/Integer", name := "numberOfLeadingZeros", desc := "(I)I" } : Jvm.MethodName) jdk_33_method_47_code (2 : Nat) (Option.some Jvm.ClassFile.FieldType.int)]
set_option maxRecDepth 65536 in
theorem codes_eq : words1.filter isCode = codes1 := rfl
theorem w_codes : ∀ c ∈ words1.filter isCode, c.before args0 about1 = true := by
  rw [codes_eq]
  intro c hc
  simp only [codes1, List.mem_cons, List.not_mem_nil, or_false] at hc
  rcases hc with rfl | rfl | rfl | rfl | rfl | rfl | rfl | rfl | rfl | rfl
  · exact w_c0
  · exact w_c1
  · exact w_c2
  · exact w_c3
  · exact w_c4
  · exact w_c5
  · exact w_c6
  · exact w_c7
  · exact w_c8
  · exact w_c9
set_option maxRecDepth 65536 in
theorem w_t1 : (words1.take 24).all (fun c => isCode c || c.before args0 about1) = true := by decide +kernel
set_option maxRecDepth 65536 in
theorem w_t2 : ((words1.drop 24).take 24).all (fun c => isCode c || c.before args0 about1) = true := by decide +kernel
set_option maxRecDepth 65536 in
theorem w_t3 : ((words1.drop 24).drop 24).all (fun c => isCode c || c.before args0 about1) = true := by decide +kernel
theorem w_tables : (allAtoms (Jvm.Cond.code x code maxLocals ret :: tables_1)).before args0 about1 = true := by
  rw [allAtoms_all]
  show words1.all (fun c => c.before args0 about1) = true
  refine all_split ?_ w_codes
  rw [← List.take_append_drop 24 words1, List.all_append, w_t1, ← List.take_append_drop 24 (words1.drop 24), List.all_append, w_t2, w_t3]
  rfl
set_option maxRecDepth 65536 in
theorem w_case : (Jvm.Cond.and given_1 narrow_1).before args0 about1 = true := by decide +kernel
theorem w_applies : (headSpec (Jvm.Cond.code x code maxLocals ret :: tables_1) room_1).applies x e0.platform about1 = true :=
  (Spec.applies_iff w_frames).mpr ⟨w_running, w_runnable, w_alone, w_named, w_hears, w_ripe, w_room, w_tables⟩
theorem atStart : AtStart classFile x code maxLocals ret World_1 tables_1 room_1 Calls_1 rest_1 Pre_1 launch0 p0 e0 about1 theMethod args0 below0 :=
  ⟨lists_1, trivial, launch0.admits_env _ _ _, launch0.least_env, fairChoices_fair.cas, fairChoices_fair.clock, w_frames, w_args, w_heap, w_applies, trivial, trivial, w_case⟩
end start1
theorem witness_1 : WitnessClaimed_1 := ⟨start1.p0, start1.e0, start1.about1, start1.theMethod, start1.args0, start1.below0, start1.atStart⟩
end Jvm.Pilot.@@N@@
