import JvmDerived
import JvmDerived.Pilot.@@N@@Statement
import JvmDerived.Pilot.@@N@@Code
set_option linter.unusedVariables false
set_option linter.unusedSimpArgs false
namespace Jvm.OwnKit
open Sem ClassFile Op Lib Jvm.Stand Jvm.Free Jvm.LawKit Jvm.RoadKit
section New
variable {p : Program} {l : Launch} {e : Env} {R : Room} {s : State} {m : MethodId} {args : Array Value} {below : List Frame} {meth : Method} {c : Code} {T T' : State} {locs : List Loc} {cells slots : Nat} {g g' : JFrame} {F : Outcome → State → Prop}
/-- from here the body runs to its end, and F says what is there -/
def Go (p : Program) (e : Env) (below : List Frame) (T : State) (g : JFrame) (F : Outcome → State → Prop) : Prop :=
  ∃ s₂ o, Steps p.tables e below (T.setTop g) s₂ ∧ s₂.status = .running ∧ Ended s₂ below o ∧ F o s₂
theorem Go.step (st : ∀ t, Steps p.tables e below (T'.setTop g') t → Steps p.tables e below (T.setTop g) t) (k : Go p e below T' g' F) : Go p e below T g F := by
  obtain ⟨a, o, h1, h2⟩ := k
  exact ⟨a, o, st _ h1, h2⟩
theorem Go.call (st : Steps p.tables e below (T.setTop g) (T'.setTop g')) (k : Go p e below T' g' F) : Go p e below T g F := by
  obtain ⟨a, o, h1, h2⟩ := k
  exact ⟨a, o, st.trans h1, h2⟩
abbrev Fin (s : State) (Q : Option Value → Heap → List Loc → Prop) (C S : Nat) : Outcome → State → Prop := fun o U' => ∃ v L, o = .returned v ∧ Q v U'.heap L ∧ FrameEnd s o U' L C S
variable {Q : Option Value → Heap → List Loc → Prop} {C S : Nat}
theorem Go.ret0 (X : Stand p l e R s m args below meth c T locs cells slots) (hx : p.tables.exec = Jvm.exec) {pc : Nat} {Ls : Array Slot} (hret : meth.sig.returnType = none) (hlk : meth.locks = false) (hd : decode c.code pc = .ok (.return_, 1))
    (hQ : Q none T.heap locs) (h1 : cells ≤ C) (h2 : slots ≤ S) : Go p e below T (mkF m pc Ls []) (Fin s Q C S) := by
  obtain ⟨fs, hr, hrun, hended, hW, hsame⟩ := X.leave (v := none) (fun _ => rfl) hlk
  exact ⟨_, _, X.returnOut hx hret hd hr, hrun, hended, _, _, rfl, hQ, ⟨_, rfl⟩, hW, hsame.mono h1 h2⟩
theorem Go.retI (X : Stand p l e R s m args below meth c T locs cells slots) (hx : p.tables.exec = Jvm.exec) {pc : Nat} {Ls : Array Slot} {z : Int32} {rest : List Value} (hret : meth.sig.returnType = some .int) (hlk : meth.locks = false) (hd : decode c.code pc = .ok (.ireturn, 1))
    (hQ : Q (some (.int z)) T.heap locs) (h1 : cells ≤ C) (h2 : slots ≤ S) : Go p e below T (mkF m pc Ls (.int z :: rest)) (Fin s Q C S) := by
  obtain ⟨fs, hr, hrun, hended, hW, hsame⟩ := X.leave (v := some (.int z)) (fun h => by rw [hret] at h; cases h) hlk
  exact ⟨_, _, retOut X hx hret rfl (Or.inl ⟨rfl, Or.inl rfl, _, rfl⟩) hd hr, hrun, hended, _, _, rfl, hQ, ⟨_, rfl⟩, hW, hsame.mono h1 h2⟩
theorem Go.retL (X : Stand p l e R s m args below meth c T locs cells slots) (hx : p.tables.exec = Jvm.exec) {pc : Nat} {Ls : Array Slot} {z : Int64} {rest : List Value} (hret : meth.sig.returnType = some .long) (hlk : meth.locks = false) (hd : decode c.code pc = .ok (.lreturn, 1))
    (hQ : Q (some (.long z)) T.heap locs) (h1 : cells ≤ C) (h2 : slots ≤ S) : Go p e below T (mkF m pc Ls (.long z :: rest)) (Fin s Q C S) := by
  obtain ⟨fs, hr, hrun, hended, hW, hsame⟩ := X.leave (v := some (.long z)) (fun h => by rw [hret] at h; cases h) hlk
  exact ⟨_, _, retOut X hx hret rfl (Or.inr (Or.inl ⟨rfl, rfl, _, rfl⟩)) hd hr, hrun, hended, _, _, rfl, hQ, ⟨_, rfl⟩, hW, hsame.mono h1 h2⟩
theorem Go.retA (X : Stand p l e R s m args below meth c T locs cells slots) (hx : p.tables.exec = Jvm.exec) {pc : Nat} {Ls : Array Slot} {w : Value} {t : FieldType} {rest : List Value} (hret : meth.sig.returnType = some t) (ht : t.isReference = true) (hv : w.isRef = true) (hlk : meth.locks = false) (hd : decode c.code pc = .ok (.areturn, 1))
    (hQ : Q (some w) T.heap locs) (h1 : cells ≤ C) (h2 : slots ≤ S) : Go p e below T (mkF m pc Ls (w :: rest)) (Fin s Q C S) := by
  obtain ⟨fs, hr, hrun, hended, hW, hsame⟩ := X.leave (v := some w) (fun h => by rw [hret] at h; cases h) hlk
  have hn : narrow t w = w := by cases w <;> cases t <;> simp_all [narrow, Value.isRef, FieldType.isReference]
  exact ⟨_, _, retOut X hx hret hn (Or.inr (Or.inr (Or.inr (Or.inr ⟨rfl, ht, hv⟩)))) hd hr, hrun, hended, _, _, rfl, hQ, ⟨_, rfl⟩, hW, hsame.mono h1 h2⟩
theorem Go.retN {t : FieldType} (X : Stand p l e R s m args below meth c T locs cells slots) (hx : p.tables.exec = Jvm.exec) {pc : Nat} {Ls : Array Slot} {z z' : Int32} {rest : List Value} (hret : meth.sig.returnType = some t) (ht : t = .boolean ∨ t = .byte ∨ t = .char ∨ t = .short) (hlk : meth.locks = false) (hd : decode c.code pc = .ok (.ireturn, 1))
    (hz : nar t z = z') (hQ : Q (some (.int z')) T.heap locs) (h1 : cells ≤ C) (h2 : slots ≤ S) : Go p e below T (mkF m pc Ls (.int z :: rest)) (Fin s Q C S) := by
  subst hz
  obtain ⟨fs, hr, hrun, hended, hW, hsame⟩ := X.leave (v := some (.int (nar t z))) (fun h => by rw [hret] at h; cases h) hlk
  exact ⟨_, _, Jvm.RoadKit.retN X hx hret ht hd hr, hrun, hended, _, _, rfl, hQ, ⟨_, rfl⟩, hW, hsame.mono h1 h2⟩
theorem own_fitsRef {t : FieldType} {v : Value} (ht : t.isReference = true) (h : v.isRef = true) : fits t v = true := by cases t <;> cases v <;> simp_all [fits, Value.isRef, FieldType.isReference]
theorem own_narrowRef {t : FieldType} {v : Value} (ht : t.isReference = true) (h : v.isRef = true) : narrow t v = v := by cases v <;> cases t <;> simp_all [narrow, Value.isRef, FieldType.isReference]
theorem own_staKeep {Z : State} {h h' : Heap} {C n d : String} {v : Value} {ws : List Addr} (F : Sta Z h C n d v) (K : Keep h h' ws) (q : ∀ x ∈ ws, ∀ cell : Cell, h[x]? = some cell → cell.vm.isStatics = false) : Sta Z h' C n d v := by
  obtain ⟨cf, i, k, f, st, cell, h1, h2, h3, h4, h5, h6, h7⟩ := F
  exact ⟨cf, i, k, f, st, cell, h1, h2, h3, h4, K.2.1 st cell h5 (fun m => by rw [q st m cell h5] at h6; cases h6), h6, h7⟩
theorem own_arrKeep {Z : State} {h h' : Heap} {a : Addr} {cl : Cell} {ty : FieldType} {ws : List Addr} (F : Arr Z h a cl ty) (K : Keep h h' ws) (q : a ∉ ws) : Arr Z h' a cl ty := ⟨K.2.1 a cl F.1 q, F.2⟩
theorem own_plainE {Z : State} {h : Heap} {a : Addr} {C : String} (E : Exa Z h a C) : ∀ cell : Cell, h[a]? = some cell → cell.vm.isStatics = false := fun cell hc => by
  obtain ⟨c2, k, h1, -, -, h4, -⟩ := E
  cases hc.symm.trans h1
  exact h4
theorem own_plainV {Z : State} {h : Heap} {a : Addr} {k : ClassId} {ty : FieldType} {z : Int32} {vs : List Value} {dv : Value} (V : Arv Z h a k ty z vs dv) : ∀ cell : Cell, h[a]? = some cell → cell.vm.isStatics = false := fun cell hc => by
  obtain ⟨c2, A, -⟩ := V
  cases hc.symm.trans A.1
  exact A.plain
end New
end Jvm.OwnKit

namespace Jvm.OwnKit
open Sem ClassFile Op Lib Jvm.Stand Jvm.Free Jvm.LawKit Jvm.RoadKit
def bitAt (x : Int64) (b : Nat) : Bool := x.toBitVec.toNat.testBit b
theorem own_ofNatB {P : Nat} (h : P < 2 ^ 31) : (Int32.ofNat P).toBitVec.toNat = P := by
  show (BitVec.ofNat 32 P).toNat = P
  rw [BitVec.toNat_ofNat]; omega
theorem own_toInt {P : Nat} (h : P < 2 ^ 31) : (Int32.ofNat P).toInt = P := len_toInt h
theorem own_clamp {i : Nat} (h : i < 2 ^ 31) : (Int32.ofNat i).toNatClampNeg = i := by
  have h1 := own_toInt h
  show (Int32.ofNat i).toInt.toNat = i
  omega
theorem own_ltI {i n : Nat} (hi : i < 2 ^ 31) (hn : n < 2 ^ 31) : Int32.ofNat i < Int32.ofNat n ↔ i < n := by
  rw [Int32.lt_iff_toInt_lt, own_toInt hi, own_toInt hn]; omega
theorem own_inj {i n : Nat} (hi : i < 2 ^ 31) (hn : n < 2 ^ 31) : Int32.ofNat i = Int32.ofNat n ↔ i = n := by
  rw [← Int32.toInt_inj, own_toInt hi, own_toInt hn]; omega
theorem own_nn {i : Nat} (hi : i < 2 ^ 31) : ¬ Int32.ofNat i < 0 := by
  rw [Int32.lt_iff_toInt_lt, own_toInt hi]; have : (0 : Int32).toInt = 0 := by decide
  omega
theorem own_nn' {i : Nat} (hi : i < 2 ^ 31) : ¬ Int32.ofNat i < (0 : Int32) := own_nn hi
theorem own_add (k c : Nat) : Int32.ofNat k + Int32.ofNat c = Int32.ofNat (k + c) := (Int32.ofNat_add k c).symm
theorem own_sub (k c : Nat) : Int32.ofNat (k + c) - Int32.ofNat c = Int32.ofNat k := by rw [Int32.ofNat_add, Int32.add_sub_cancel]
theorem own_in {i n : Nat} {cl : Cell} (hs : cl.slots.size = n) (hi : i < n) (hn : n < 2 ^ 31) : ¬ (Int32.ofNat i < 0 ∨ cl.slots.size ≤ (Int32.ofNat i).toNatClampNeg) := by
  rw [hs]; exact idx_in hi hn
theorem own_div64 {n : Nat} (h : n < 2 ^ 30) : (Int32.ofNat n + (63 : Int32)) / (64 : Int32) = Int32.ofNat ((n + 63) / 64) := by
  rw [show Int32.ofNat n + (63 : Int32) = Int32.ofNat (n + 63) from own_add n 63]
  apply Int32.toInt_inj.mp
  have h1 := (c_idiv (Int32.ofNat (n + 63)) 64 64 (by decide) (by decide)).1 (by rw [own_toInt (by omega)]; omega)
  rw [h1, own_toInt (by omega), own_toInt (by omega)]; omega
theorem own_shr6 {n : Nat} (h : n < 2 ^ 31) : ((Int32.ofNat n).toUInt32 >>> ((6 : Int32) &&& 31).toUInt32).toInt32 = Int32.ofNat (n / 64) := by
  apply Int32.toInt_inj.mp
  have h1 := c_iushr (Int32.ofNat n) 6 6 (by decide) (by decide)
  rw [h1, own_toInt h, own_toInt (by omega)]
  show ((n : Int) % 4294967296) / ((2 ^ 6 : Nat) : Int) = _
  rw [show ((2 ^ 6 : Nat) : Int) = 64 from rfl]
  omega
theorem own_shl6 {n : Nat} (h : n < 2 ^ 24) : (Int32.ofNat n) <<< ((6 : Int32) &&& 31) = Int32.ofNat (64 * n) := by
  apply Int32.toInt_inj.mp
  have h1 := c_ishl (Int32.ofNat n) 6 6 (by decide)
  have h2 := rng32 ((Int32.ofNat n) <<< ((6 : Int32) &&& 31))
  rw [own_toInt (by omega)] at h1
  rw [own_toInt (by omega)]
  rw [show ((2 ^ 6 : Nat) : Int) = 64 from rfl] at h1
  omega
theorem own_and63 {n : Nat} (h : n < 2 ^ 31) : Int32.ofNat n &&& (63 : Int32) = Int32.ofNat (n % 64) := by
  apply Int32.toInt_inj.mp
  rw [c_mask (Int32.ofNat n) 63 6 (by decide) (by decide), own_toInt h, own_toInt (by omega)]
  show (n : Int) % ((2 ^ 6 : Nat) : Int) = _
  rw [show ((2 ^ 6 : Nat) : Int) = 64 from rfl]
  omega
theorem own_63 {n : Nat} (h : n < 64) : (63 : Int32) - Int32.ofNat n = Int32.ofNat (63 - n) := by
  rw [show (63 : Int32) = Int32.ofNat ((63 - n) + n) from by rw [show 63 - n + n = 63 from by omega]; rfl]
  exact own_sub _ _
theorem own_shlB (x : Int64) (q : Int32) (k : Nat) (hk : q.toBitVec.toNat % 64 = k) : (x <<< (q &&& 0x3f).toInt64).toBitVec = x.toBitVec <<< k := by
  show (x.toBitVec <<< ((q &&& 0x3f).toInt64.toBitVec.smod 64)) = _
  rw [BitVec.shiftLeft_eq', (sm64 q k hk).1, smod64 k (sm64 q k hk).2]
theorem own_ushrB (x : Int64) (q : Int32) (k : Nat) (hk : q.toBitVec.toNat % 64 = k) : ((x.toUInt64 >>> (q &&& 0x3f).toInt64.toUInt64).toInt64).toBitVec.toNat = x.toBitVec.toNat / 2 ^ k := by
  have h5 := (sm64 q k hk).2
  show (x.toBitVec >>> ((q &&& 0x3f).toInt64.toBitVec % 64)).toNat = x.toBitVec.toNat / 2 ^ k
  rw [BitVec.ushiftRight_eq', BitVec.toNat_ushiftRight, Nat.shiftRight_eq_div_pow, BitVec.toNat_umod, (sm64 q k hk).1, BitVec.toNat_ofNat]; congr 2; show k % 2 ^ 64 % 64 = k; omega
/-- the bit of a position -/
theorem own_one {P : Nat} (h : P < 2 ^ 31) (b : Nat) (hb : b < 64) : bitAt ((1 : Int64) <<< (Int32.ofNat P &&& 0x3f).toInt64) b = decide (b = P % 64) := by
  unfold bitAt
  rw [own_shlB 1 (Int32.ofNat P) (P % 64) (by rw [own_ofNatB h])]
  rw [show (BitVec.toNat ((1 : Int64).toBitVec <<< (P % 64))).testBit b = ((1 : Int64).toBitVec <<< (P % 64)).getLsbD b from rfl, BitVec.getLsbD_shiftLeft]
  have e1 : ∀ i, (1 : Int64).toBitVec.getLsbD i = decide (i = 0) := fun i => by
    show (BitVec.ofNat 64 1).getLsbD i = _
    rw [BitVec.getLsbD_ofNat]
    by_cases hi : i = 0
    · subst hi; decide
    · simp only [hi, decide_false, Bool.and_eq_false_imp]
      intro _
      rw [Nat.testBit_eq_decide_div_mod_eq]
      have : 1 / 2 ^ i = 0 := Nat.div_eq_of_lt (Nat.one_lt_two_pow hi)
      simp [this]
  rw [e1]
  by_cases h1 : b < P % 64
  · have : ¬ b = P % 64 := by omega
    simp [h1, this, hb]
  · have : (b - P % 64 = 0) ↔ (b = P % 64) := by omega
    simp [h1, hb, this]
theorem own_orb (x y : Int64) (b : Nat) : bitAt (x ||| y) b = (bitAt x b || bitAt y b) := by
  unfold bitAt
  show (x.toBitVec ||| y.toBitVec).toNat.testBit b = _
  rw [BitVec.toNat_or, Nat.testBit_or]
theorem own_andb (x y : Int64) (b : Nat) : bitAt (x &&& y) b = (bitAt x b && bitAt y b) := by
  unfold bitAt
  show (x.toBitVec &&& y.toBitVec).toNat.testBit b = _
  rw [BitVec.toNat_and, Nat.testBit_and]
theorem own_notb (x : Int64) (b : Nat) (hb : b < 64) : bitAt (x ^^^ (-1)) b = !(bitAt x b) := by
  unfold bitAt
  show (x.toBitVec ^^^ (-1 : Int64).toBitVec).toNat.testBit b = _
  rw [BitVec.toNat_xor, Nat.testBit_xor]
  have : (-1 : Int64).toBitVec.toNat.testBit b = true := by
    rw [show (-1 : Int64).toBitVec.toNat = 2 ^ 64 - 1 from by decide, Nat.testBit_two_pow_sub_one]; simp [hb]
  rw [this, Bool.xor_true]
/-- the mask up to a position -/
theorem own_mask {P : Nat} (h : P < 64) (b : Nat) (hb : b < 64) : bitAt (((-1 : Int64).toUInt64 >>> (Int32.ofNat (63 - P) &&& 0x3f).toInt64.toUInt64).toInt64) b = decide (b ≤ P) := by
  unfold bitAt
  rw [own_ushrB (-1) (Int32.ofNat (63 - P)) (63 - P) (by rw [own_ofNatB (by omega)]; omega), show (-1 : Int64).toBitVec.toNat = 2 ^ 64 - 1 from by decide, ← Nat.shiftRight_eq_div_pow, Nat.testBit_shiftRight, Nat.testBit_two_pow_sub_one]
  by_cases q : b ≤ P
  · simp [q]; omega
  · simp [q]; omega
theorem own_zero (x : Int64) : x = 0 ↔ ∀ b, b < 64 → bitAt x b = false := by
  constructor
  · rintro rfl b _
    unfold bitAt
    rw [show (0 : Int64).toBitVec.toNat = 0 from by decide]; exact Nat.zero_testBit b
  · intro h
    apply Int64.toBitVec_inj.mp
    apply BitVec.eq_of_getLsbD_eq
    intro i hi
    have := h i hi
    unfold bitAt at this
    rw [show x.toBitVec.getLsbD i = x.toBitVec.toNat.testBit i from rfl, this]
    exact (BitVec.getLsbD_zero).symm
def Top (x : Int64) (t : Nat) : Prop := t < 64 ∧ bitAt x t = true ∧ ∀ b, t < b → b < 64 → bitAt x b = false
theorem own_topOf {x : Int64} {t : Nat} (h : t < 64) (h1 : 2 ^ t ≤ x.toBitVec.toNat) (h2 : x.toBitVec.toNat < 2 ^ (t + 1)) : Top x t := by
  refine ⟨h, ?_, fun b b1 b2 => ?_⟩
  · unfold bitAt
    rw [Nat.testBit_eq_decide_div_mod_eq]
    have : x.toBitVec.toNat / 2 ^ t = 1 := by
      apply Nat.div_eq_of_lt_le
      · omega
      · rw [Nat.pow_succ] at h2; omega
    simp [this]
  · unfold bitAt
    exact Nat.testBit_lt_two_pow (Nat.lt_of_lt_of_le h2 (Nat.pow_le_pow_right (by decide) b1))
open Jvm.Free.BdW in
theorem own_ush {x : Int32} {n : Nat} (k : Int32) (kk : Nat) (hk : k.toBitVec.toNat % 32 = kk) (h0 : 0 < kk) (hx : x = Int32.ofNat n) (hn : n < 2 ^ 31) : ush x k = Int32.ofNat (n / 2 ^ kk) := by
  subst hx
  unfold ush
  apply Int32.toInt_inj.mp
  rw [c_iushr _ k kk hk h0, own_toInt hn, own_toInt (Nat.lt_of_le_of_lt (Nat.div_le_self _ _) hn)]
  rw [show (n : Int) % 4294967296 = n from by omega]
  exact (Int.natCast_ediv _ _).symm
open Jvm.Free.BdW in
theorem own_blk (lim sh dn : Int32) (k e : Nat) (L : Nat) (hk : sh.toBitVec.toNat % 32 = k) (h0 : 0 < k) (hdn : dn = Int32.ofInt (-(k : Int))) (hL : lim = Int32.ofNat L) (hL2 : L < 2 ^ 31) {y : Nat} (hy : y < 2 ^ 31) (he : e + k ≤ 31) :
    blk lim sh dn (Int32.ofNat y, Int32.ofNat (31 - e)) = if y < L then (Int32.ofNat y, Int32.ofNat (31 - e)) else (Int32.ofNat (y / 2 ^ k), Int32.ofNat (31 - (e + k))) := by
  unfold blk
  subst hL hdn
  by_cases q : y < L
  · rw [if_pos q, if_pos ((own_ltI hy hL2).mpr q)]
  · rw [if_neg q, if_neg (fun z => q ((own_ltI hy hL2).mp z))]
    refine Prod.ext (own_ush sh k hk h0 rfl hy) ?_
    show Int32.ofNat (31 - e) + Int32.ofInt (-(k : Int)) = _
    apply Int32.toInt_inj.mp
    have a := c_iadd (Int32.ofNat (31 - e)) (Int32.ofInt (-(k : Int)))
    have b := rng32 (Int32.ofNat (31 - e) + Int32.ofInt (-(k : Int)))
    rw [own_toInt (by omega), Int32.toInt_ofInt_of_le (by omega) (by omega)] at a
    rw [own_toInt (by omega)]
    omega
open Jvm.Free.BdW in
theorem own_nlz32 {x : Nat} (h0 : 0 < x) (h1 : x < 2 ^ 31) : ∃ t, t < 31 ∧ nlz32 (Int32.ofNat x) = Int32.ofNat (31 - t) ∧ 2 ^ t ≤ x ∧ x < 2 ^ (t + 1) := by
  have hp : (Int32.ofNat x) > 0 := by
    show (0 : Int32) < Int32.ofNat x
    rw [Int32.lt_iff_toInt_lt, own_toInt h1]; have : (0 : Int32).toInt = 0 := by decide
    omega
  have fin : ∀ (y e : Nat), 0 < y → y < 4 → e ≤ 30 → y = x / 2 ^ e → nlz32 (Int32.ofNat x) = Int32.ofNat (31 - e) - ush (Int32.ofNat y) 1 → ∃ t, t < 31 ∧ nlz32 (Int32.ofNat x) = Int32.ofNat (31 - t) ∧ 2 ^ t ≤ x ∧ x < 2 ^ (t + 1) := by
    intro y e y0 y4 he hy hn
    rw [own_ush 1 1 (by decide) (by decide) rfl (by omega)] at hn
    have d1 := Nat.div_add_mod x (2 ^ e)
    have d2 := Nat.mod_lt x (Nat.two_pow_pos e)
    rw [← hy] at d1
    by_cases q : y = 1
    · subst q
      refine ⟨e, by omega, ?_, by omega, by rw [Nat.pow_succ]; omega⟩
      rw [hn]
      apply Int32.toInt_inj.mp
      have a := c_isub (Int32.ofNat (31 - e)) (Int32.ofNat (1 / 2 ^ 1)); have b := rng32 (Int32.ofNat (31 - e) - Int32.ofNat (1 / 2 ^ 1))
      rw [own_toInt (by omega), own_toInt (by omega)] at a
      rw [own_toInt (by omega)]; omega
    · have q1 : y / 2 ^ 1 = 1 := by omega
      rw [q1] at hn
      have d3 : 2 ^ e * 2 ≤ 2 ^ e * y := Nat.mul_le_mul_left _ (by omega)
      have d4 : 2 ^ e * y ≤ 2 ^ e * 3 := Nat.mul_le_mul_left _ (by omega)
      have d5 : 2 ^ (e + 1) < 2 ^ 31 := by rw [Nat.pow_succ]; omega
      have d6 : e + 1 < 31 := (Nat.pow_lt_pow_iff_right (by decide)).mp d5
      refine ⟨e + 1, d6, ?_, by rw [Nat.pow_succ]; omega, by rw [Nat.pow_succ, Nat.pow_succ]; omega⟩
      rw [hn]
      apply Int32.toInt_inj.mp
      have a := c_isub (Int32.ofNat (31 - e)) (Int32.ofNat 1); have b := rng32 (Int32.ofNat (31 - e) - Int32.ofNat 1)
      rw [own_toInt (by omega), own_toInt (by omega)] at a
      rw [own_toInt (by omega)]; omega
  have e0 : nlz32 (Int32.ofNat x) = (blk 4 2 (-2) (blk 16 4 (-4) (blk 256 8 (-8) (blk 65536 16 (-16) (Int32.ofNat x, 31))))).2 - ush (blk 4 2 (-2) (blk 16 4 (-4) (blk 256 8 (-8) (blk 65536 16 (-16) (Int32.ofNat x, 31))))).1 1 := by
    show (if Int32.ofNat x > 0 then _ else _) = _
    rw [if_pos hp]
  have b1 := own_blk 65536 16 (-16) 16 0 65536 (by decide) (by decide) (by decide) (by decide) (by decide) h1 (by decide)
  rw [show Int32.ofNat (31 - 0) = 31 from rfl] at b1
  rw [b1] at e0
  have s1 : ∀ (y e : Nat), y < 65536 → 0 < y → e ≤ 16 → y = x / 2 ^ e → nlz32 (Int32.ofNat x) = (blk 4 2 (-2) (blk 16 4 (-4) (blk 256 8 (-8) (Int32.ofNat y, Int32.ofNat (31 - e))))).2 - ush (blk 4 2 (-2) (blk 16 4 (-4) (blk 256 8 (-8) (Int32.ofNat y, Int32.ofNat (31 - e))))).1 1 → ∃ t, t < 31 ∧ nlz32 (Int32.ofNat x) = Int32.ofNat (31 - t) ∧ 2 ^ t ≤ x ∧ x < 2 ^ (t + 1) := by
    intro y e y1 y0 he hy hn
    rw [own_blk 256 8 (-8) 8 e 256 (by decide) (by decide) (by decide) (by decide) (by decide) (by omega) (by omega)] at hn
    have s2 : ∀ (y e : Nat), y < 256 → 0 < y → e ≤ 24 → y = x / 2 ^ e → nlz32 (Int32.ofNat x) = (blk 4 2 (-2) (blk 16 4 (-4) (Int32.ofNat y, Int32.ofNat (31 - e)))).2 - ush (blk 4 2 (-2) (blk 16 4 (-4) (Int32.ofNat y, Int32.ofNat (31 - e)))).1 1 → ∃ t, t < 31 ∧ nlz32 (Int32.ofNat x) = Int32.ofNat (31 - t) ∧ 2 ^ t ≤ x ∧ x < 2 ^ (t + 1) := by
      intro y e y1 y0 he hy hn
      have he2 : e ≤ 24 := he
      rw [own_blk 16 4 (-4) 4 e 16 (by decide) (by decide) (by decide) (by decide) (by decide) (by omega) (by omega)] at hn
      have s3 : ∀ (y e : Nat), y < 16 → 0 < y → e ≤ 28 → y = x / 2 ^ e → nlz32 (Int32.ofNat x) = (blk 4 2 (-2) (Int32.ofNat y, Int32.ofNat (31 - e))).2 - ush (blk 4 2 (-2) (Int32.ofNat y, Int32.ofNat (31 - e))).1 1 → ∃ t, t < 31 ∧ nlz32 (Int32.ofNat x) = Int32.ofNat (31 - t) ∧ 2 ^ t ≤ x ∧ x < 2 ^ (t + 1) := by
        intro y e y1 y0 he hy hn
        rw [own_blk 4 2 (-2) 2 e 4 (by decide) (by decide) (by decide) (by decide) (by decide) (by omega) (by omega)] at hn
        by_cases q : y < 4
        · rw [if_pos q] at hn; exact fin y e y0 q (by omega) hy hn
        · rw [if_neg q] at hn
          have z1 : y / 2 ^ 2 = x / 2 ^ (e + 2) := by rw [hy, Nat.div_div_eq_div_mul, ← Nat.pow_add]
          have z2 : e + 2 ≤ 30 := by omega
          exact fin (y / 2 ^ 2) (e + 2) (by omega) (by omega) z2 z1 hn
      by_cases q : y < 16
      · rw [if_pos q] at hn; exact s3 y e q y0 (by omega) hy hn
      · rw [if_neg q] at hn
        exact s3 (y / 2 ^ 4) (e + 4) (by omega) (by omega) (by omega) (by rw [hy, Nat.div_div_eq_div_mul, ← Nat.pow_add]) hn
    by_cases q : y < 256
    · rw [if_pos q] at hn; exact s2 y e q y0 (by omega) hy hn
    · rw [if_neg q] at hn
      exact s2 (y / 2 ^ 8) (e + 8) (by omega) (by omega) (by omega) (by rw [hy, Nat.div_div_eq_div_mul, ← Nat.pow_add]) hn
  by_cases q : x < 65536
  · rw [if_pos q] at e0; exact s1 x 0 q h0 (by decide) (by simp) e0
  · rw [if_neg q] at e0
    exact s1 (x / 2 ^ 16) 16 (by omega) (by omega) (by decide) rfl e0
end Jvm.OwnKit

namespace Jvm.OwnKit
open Sem ClassFile Op Lib Jvm.Stand Jvm.Free Jvm.LawKit Jvm.RoadKit
open Jvm.Free.BdW in
theorem own_hi (v : Int64) : ∃ n : Nat, n = v.toBitVec.toNat / 2 ^ 32 ∧ (hi32 v).toBitVec.toNat = n := by
  refine ⟨_, rfl, ?_⟩
  unfold hi32
  have h := own_ushrB v 32 32 (by decide)
  show ((((v.toUInt64 >>> ((32 : Int32) &&& 0x3f).toInt64.toUInt64).toInt64)).toInt32).toBitVec.toNat = _
  rw [Int64.toBitVec_toInt32, BitVec.signExtend_eq_setWidth_of_le _ (by decide), BitVec.toNat_setWidth, h]
  have := v.toBitVec.isLt
  omega
theorem own_i32 (x : Int32) (h : x.toBitVec.toNat < 2 ^ 31) : x = Int32.ofNat x.toBitVec.toNat := by
  apply Int32.toBitVec_inj.mp
  apply BitVec.eq_of_toNat_eq
  rw [own_ofNatB h]
open Jvm.Free.BdW in
theorem own_nlzNeg (x : Int32) (h : 2 ^ 31 ≤ x.toBitVec.toNat) : nlz32 x = 0 := by
  have hx : x.toInt < 0 := by
    show x.toBitVec.toInt < 0
    rw [BitVec.toInt_eq_toNat_cond]
    have := x.toBitVec.isLt
    split <;> omega
  have h1 : ¬ (x > 0) := by
    show ¬ (0 : Int32) < x
    rw [Int32.lt_iff_toInt_lt]; have : (0 : Int32).toInt = 0 := by decide
    omega
  have h2 : ¬ (x = 0) := fun q => by subst q; exact absurd h (by decide)
  show (if x > 0 then _ else if x = 0 then 32 else 0) = (0 : Int32)
  rw [if_neg h1, if_neg h2]
open Jvm.Free.BdW in
theorem own_nlzAny (x : Int32) (h : 0 < x.toBitVec.toNat) : ∃ t, t < 32 ∧ nlz32 x = Int32.ofNat (31 - t) ∧ 2 ^ t ≤ x.toBitVec.toNat ∧ x.toBitVec.toNat < 2 ^ (t + 1) := by
  by_cases q : x.toBitVec.toNat < 2 ^ 31
  · obtain ⟨t, t1, t2, t3, t4⟩ := own_nlz32 h q
    rw [← own_i32 x q] at t2
    exact ⟨t, by omega, t2, t3, t4⟩
  · refine ⟨31, by decide, own_nlzNeg x (by omega), by omega, x.toBitVec.isLt⟩
open Jvm.Free.BdW in
theorem own_top (v : Int64) (hv : v ≠ 0) : ∃ t, (63 : Int32) - nlz64 v = Int32.ofNat t ∧ Top v t := by
  obtain ⟨n, hn, hh⟩ := own_hi v
  have hlt := v.toBitVec.isLt
  have sub : ∀ t, t < 64 → (63 : Int32) - Int32.ofNat (63 - t) = Int32.ofNat t := fun t ht => by
    rw [own_63 (by omega)]; congr 1; omega
  by_cases q : hi32 v = 0
  · have n0 : n = 0 := by rw [← hh, q]; decide
    have lo : v.toBitVec.toNat < 2 ^ 32 := by omega
    have lv : v.toInt32.toBitVec.toNat = v.toBitVec.toNat := by
      rw [Int64.toBitVec_toInt32, BitVec.signExtend_eq_setWidth_of_le _ (by decide), BitVec.toNat_setWidth]; omega
    have nz : 0 < v.toBitVec.toNat := Nat.pos_of_ne_zero fun z => hv (Int64.toBitVec_inj.mp (BitVec.eq_of_toNat_eq (by rw [z]; decide)))
    obtain ⟨t, t1, t2, t3, t4⟩ := own_nlzAny v.toInt32 (by rw [lv]; exact nz)
    rw [lv] at t3 t4
    refine ⟨t, ?_, own_topOf (by omega) t3 t4⟩
    show (63 : Int32) - (if hi32 v = 0 then 32 + nlz32 v.toInt32 else nlz32 (hi32 v)) = _
    rw [if_pos q, t2, show (32 : Int32) + Int32.ofNat (31 - t) = Int32.ofNat (63 - t) from by rw [show (63 - t) = 32 + (31 - t) from by omega]; exact own_add 32 (31 - t)]
    exact sub t (by omega)
  · have nz : 0 < (hi32 v).toBitVec.toNat := Nat.pos_of_ne_zero fun z => q (Int32.toBitVec_inj.mp (BitVec.eq_of_toNat_eq (by rw [z]; decide)))
    obtain ⟨t, t1, t2, t3, t4⟩ := own_nlzAny (hi32 v) nz
    rw [hh, hn] at t3 t4
    have e1 : 2 ^ (t + 32) = 2 ^ t * 2 ^ 32 := Nat.pow_add _ _ _
    have e2 : 2 ^ (t + 32 + 1) = 2 ^ (t + 1) * 2 ^ 32 := by rw [show t + 32 + 1 = (t + 1) + 32 from by omega]; exact Nat.pow_add _ _ _
    refine ⟨t + 32, ?_, own_topOf (by omega) ?_ ?_⟩
    · show (63 : Int32) - (if hi32 v = 0 then 32 + nlz32 v.toInt32 else nlz32 (hi32 v)) = _
      rw [if_neg q, t2, show 31 - t = 63 - (t + 32) from by omega]
      exact sub (t + 32) (by omega)
    · rw [e1]; exact (Nat.le_div_iff_mul_le (by decide)).mp t3
    · rw [e2]; exact (Nat.div_lt_iff_lt_mul (by decide)).mp t4
/-- arrays by functions -/
def Af (Z : State) (h : Heap) (a : Addr) (n : Nat) (f : Nat → Int64) : Prop := ∃ cl : Cell, Arr Z h a cl .long ∧ cl.slots.size = n ∧ ∀ i, i < n → cl.slots[i]? = some (.long (f i))
def Ag (Z : State) (h : Heap) (a : Addr) (n : Nat) (g : Nat → Addr) : Prop := ∃ cl : Cell, Arr Z h a cl (.array .long) ∧ cl.slots.size = n ∧ ∀ i, i < n → cl.slots[i]? = some (.ref (g i))
section Fun
variable {Z : State} {h h' : Heap} {a b : Addr} {n j sl : Nat} {f : Nat → Int64} {g : Nat → Addr} {v : Value} {x : Int64}
theorem Af.other (F : Af Z h a n f) (W : Wr h h' b sl v) (q : a ≠ b) : Af Z h' a n f := by obtain ⟨c, A, r⟩ := F; exact ⟨c, A.other W q, r⟩
theorem Ag.other (F : Ag Z h a n g) (W : Wr h h' b sl v) (q : a ≠ b) : Ag Z h' a n g := by obtain ⟨c, A, r⟩ := F; exact ⟨c, A.other W q, r⟩
theorem Af.ext (F : Af Z h a n f) (E : Ext h h') : Af Z h' a n f := by obtain ⟨c, A, r⟩ := F; exact ⟨c, A.ext E, r⟩
theorem Ag.ext (F : Ag Z h a n g) (E : Ext h h') : Ag Z h' a n g := by obtain ⟨c, A, r⟩ := F; exact ⟨c, A.ext E, r⟩
theorem Af.set (F : Af Z h a n f) (W : Wr h h' a j (.long x)) (hj : j < n) : Af Z h' a n (fun i => if i = j then x else f i) := by
  obtain ⟨c, A, s1, s2⟩ := F
  refine ⟨_, A.same W, by rw [sz_set]; exact s1, fun i hi => ?_⟩
  show _ = some (Value.long (if i = j then x else f i))
  by_cases q : i = j
  · subst q
    rw [if_pos rfl]
    simp [Cell.setSlot, s1, hi]
  · rw [if_neg q, ← s2 i hi]
    simp [Cell.setSlot, Array.getElem?_setIfInBounds, Ne.symm q]
end Fun
def PS : String := "com/example/maxhue/maxhue/PointSet"
def Tree (Z : State) (h : Heap) (n0 : Nat) (a A : Addr) (m : Nat) (lv : Nat → Addr) (sz : Nat → Nat) (f : Nat → Nat → Int64) : Prop :=
  Exa Z h a PS ∧ Fld Z h a PS "levels" "[[J" (.ref A) ∧ Ag Z h A m lv ∧ (∀ k, k < m → Af Z h (lv k) (sz k) (f k)) ∧ (∀ k, k < m → n0 ≤ lv k ∧ a ≠ lv k ∧ A ≠ lv k) ∧ (∀ i j, i < m → j < m → i ≠ j → lv i ≠ lv j)
theorem Tree.set {Z : State} {h h' : Heap} {n0 : Nat} {a A : Addr} {m : Nat} {lv : Nat → Addr} {sz : Nat → Nat} {f : Nat → Nat → Int64} (F : Tree Z h n0 a A m lv sz f) {k j : Nat} {x : Int64} (hk : k < m) (hj : j < sz k) (W : Wr h h' (lv k) j (.long x)) : Tree Z h' n0 a A m lv sz (fun k' i => if k' = k ∧ i = j then x else f k' i) := by
  obtain ⟨E, L, G, H, N, D⟩ := F
  refine ⟨E.wr W, L.other W (Or.inl (N k hk).2.1), G.other W (N k hk).2.2, fun k' hk' => ?_, N, D⟩
  by_cases q : k' = k
  · subst q
    have := (H k' hk').set W hj
    simpa using this
  · have := (H k' hk').other W (D k' k hk' hk q)
    simpa [q] using this
/-- the sizes of the levels -/
def szN (N : Nat) : Nat → Nat
  | 0 => (N + 63) / 64
  | k + 1 => (szN N k + 63) / 64
theorem own_szLt {N q : Nat} (h : q < N) : ∀ k, q / 64 ^ k / 64 < szN N k
  | 0 => by simp only [szN, Nat.pow_zero, Nat.div_one]; omega
  | k + 1 => by
    have := own_szLt h k
    simp only [szN]
    rw [Nat.pow_succ, ← Nat.div_div_eq_div_mul]
    omega
theorem own_szLe {N : Nat} : ∀ k, szN N k ≤ N + 1
  | 0 => by simp only [szN]; omega
  | k + 1 => by have := own_szLe (N := N) k; simp only [szN]; omega
/-- which points the words stand for: level k's word i has bit b iff some point q has q / 64 ^ k = 64 i + b -/
def RepAt (sz : Nat → Nat) (f : Nat → Nat → Int64) (S : Nat → Prop) (k : Nat) : Prop := ∀ i, i < sz k → ∀ b, b < 64 → (bitAt (f k i) b = true ↔ ∃ q, S q ∧ q / 64 ^ k = 64 * i + b)
def Rep (m : Nat) (sz : Nat → Nat) (f : Nat → Nat → Int64) (S : Nat → Prop) : Prop := ∀ k, k < m → RepAt sz f S k
theorem own_split {p P : Nat} (h : P = p) (i b : Nat) (hb : b < 64) : p = 64 * i + b ↔ (i = P / 64 ∧ b = P % 64) := by subst h; omega
theorem own_up (q k : Nat) : q / 64 ^ (k + 1) = q / 64 ^ k / 64 := by rw [Nat.pow_succ, ← Nat.div_div_eq_div_mul]
theorem own_same {p q k : Nat} (h : q / 64 ^ k = p / 64 ^ k) : ∀ d, q / 64 ^ (k + d) = p / 64 ^ (k + d) := fun d => by
  rw [Nat.pow_add, ← Nat.div_div_eq_div_mul, ← Nat.div_div_eq_div_mul, h]
/-- one turn of add: level k gains p's bit -/
theorem own_addTurn {sz : Nat → Nat} {f : Nat → Nat → Int64} {S : Nat → Prop} {p k : Nat} (hp : p / 64 ^ k < 2 ^ 31) (hS : RepAt sz f S k) :
    RepAt sz (fun k' i => if k' = k ∧ i = p / 64 ^ k / 64 then f k (p / 64 ^ k / 64) ||| (1 : Int64) <<< (Int32.ofNat (p / 64 ^ k) &&& 0x3f).toInt64 else f k' i) (fun q => S q ∨ q = p) k := by
  intro i hi b hb
  have old := hS i hi b hb
  by_cases q : i = p / 64 ^ k / 64
  · subst q
    simp only [and_self, if_true]
    rw [own_orb, own_one hp b hb, Bool.or_eq_true, old, decide_eq_true_iff]
    constructor
    · rintro (⟨q, h1, h2⟩ | h)
      · exact ⟨q, Or.inl h1, h2⟩
      · exact ⟨p, Or.inr rfl, by omega⟩
    · rintro ⟨q, h1 | rfl, h2⟩
      · exact Or.inl ⟨q, h1, h2⟩
      · exact Or.inr (by omega)
  · simp only [q, and_false, if_false]
    rw [old]
    constructor
    · rintro ⟨z, h1, h2⟩; exact ⟨z, Or.inl h1, h2⟩
    · rintro ⟨z, h1 | rfl, h2⟩
      · exact ⟨z, h1, h2⟩
      · exact absurd (show i = z / 64 ^ k / 64 by omega) q
theorem own_other {sz : Nat → Nat} {f : Nat → Nat → Int64} {S : Nat → Prop} {k j i0 : Nat} {x : Int64} (h : RepAt sz f S j) (q : j ≠ k) : RepAt sz (fun k' i => if k' = k ∧ i = i0 then x else f k' i) S j := by
  intro i hi b hb
  simp only [q, false_and, if_false]
  exact h i hi b hb
/-- above a level that had a point beside p already nothing changes -/
theorem own_above {sz : Nat → Nat} {f : Nat → Nat → Int64} {S : Nat → Prop} {p k j : Nat} (q0 : ∃ q, S q ∧ q / 64 ^ (k + 1) = p / 64 ^ (k + 1)) (hj : k < j) (h : RepAt sz f S j) : RepAt sz f (fun q => S q ∨ q = p) j := by
  intro i hi b hb
  rw [h i hi b hb]
  obtain ⟨q, h1, h2⟩ := q0
  have h3 := own_same h2 (j - (k + 1))
  rw [show k + 1 + (j - (k + 1)) = j from by omega] at h3
  constructor
  · rintro ⟨z, z1, z2⟩; exact ⟨z, Or.inl z1, z2⟩
  · rintro ⟨z, z1 | rfl, z2⟩
    · exact ⟨z, z1, z2⟩
    · exact ⟨q, h1, by rw [h3]; exact z2⟩
theorem own_word {sz : Nat → Nat} {f : Nat → Nat → Int64} {S : Nat → Prop} {k i : Nat} (h : RepAt sz f S k) (hi : i < sz k) : (¬ f k i = 0) ↔ ∃ q, S q ∧ q / 64 ^ (k + 1) = i := by
  rw [own_zero]
  constructor
  · intro z
    have : ∃ b, b < 64 ∧ bitAt (f k i) b = true := by
      refine Classical.byContradiction fun no => z fun b hb => ?_
      cases e : bitAt (f k i) b
      · rfl
      · exact absurd ⟨b, hb, e⟩ no
    obtain ⟨b, hb, e⟩ := this
    obtain ⟨q, q1, q2⟩ := (h i hi b hb).mp e
    exact ⟨q, q1, by rw [own_up]; omega⟩
  · rintro ⟨q, q1, q2⟩ z
    rw [own_up] at q2
    have := (h i hi (q / 64 ^ k % 64) (by omega)).mpr ⟨q, q1, by omega⟩
    rw [z _ (by omega)] at this
    cases this
/-- one turn of remove: level k loses r's bit, where nothing else of S stands at it -/
theorem own_remTurn {sz : Nat → Nat} {f : Nat → Nat → Int64} {S : Nat → Prop} {r k : Nat} (hr : r / 64 ^ k < 2 ^ 31) (hS : RepAt sz f S k) (hno : ∀ q, S q → q ≠ r → q / 64 ^ k ≠ r / 64 ^ k) :
    RepAt sz (fun k' i => if k' = k ∧ i = r / 64 ^ k / 64 then f k (r / 64 ^ k / 64) &&& (((1 : Int64) <<< (Int32.ofNat (r / 64 ^ k) &&& 0x3f).toInt64) ^^^ (-1)) else f k' i) (fun q => S q ∧ q ≠ r) k := by
  intro i hi b hb
  have old := hS i hi b hb
  by_cases q : i = r / 64 ^ k / 64
  · subst q
    simp only [and_self, if_true]
    rw [own_andb, own_notb _ b hb, own_one hr b hb, Bool.and_eq_true, old, Bool.not_eq_true', decide_eq_false_iff_not]
    constructor
    · rintro ⟨⟨q, h1, h2⟩, h⟩
      exact ⟨q, ⟨h1, fun e => by subst e; omega⟩, h2⟩
    · rintro ⟨q, ⟨h1, h2⟩, h3⟩
      refine ⟨⟨q, h1, h3⟩, fun e => hno q h1 h2 (by omega)⟩
  · simp only [q, and_false, if_false]
    rw [old]
    constructor
    · rintro ⟨z, h1, h2⟩; exact ⟨z, ⟨h1, fun e => by subst e; exact q (by omega)⟩, h2⟩
    · rintro ⟨z, ⟨h1, _⟩, h2⟩; exact ⟨z, h1, h2⟩
theorem own_remAbove {sz : Nat → Nat} {f : Nat → Nat → Int64} {S : Nat → Prop} {r k j : Nat} (q0 : ∃ q, (S q ∧ q ≠ r) ∧ q / 64 ^ (k + 1) = r / 64 ^ (k + 1)) (hj : k < j) (h : RepAt sz f S j) : RepAt sz f (fun q => S q ∧ q ≠ r) j := by
  intro i hi b hb
  rw [h i hi b hb]
  obtain ⟨q, h1, h2⟩ := q0
  have h3 := own_same h2 (j - (k + 1))
  rw [show k + 1 + (j - (k + 1)) = j from by omega] at h3
  constructor
  · rintro ⟨z, z1, z2⟩
    by_cases e : z = r
    · subst e; exact ⟨q, h1, by rw [h3]; exact z2⟩
    · exact ⟨z, ⟨z1, e⟩, z2⟩
  · rintro ⟨z, ⟨z1, _⟩, z2⟩; exact ⟨z, z1, z2⟩
/-- the greatest point below x -/
def Best (S : Nat → Prop) (x : Nat) (r : Int32) : Prop := (r = -1 ∧ ∀ q, S q → ¬ q < x) ∨ ∃ t, S t ∧ t < x ∧ r = Int32.ofNat t ∧ ∀ q, S q → q < x → q ≤ t
theorem Best.unique {S : Nat → Prop} {x : Nat} {r r' : Int32} (h : Best S x r) (h' : Best S x r') : r = r' := by
  rcases h with ⟨rfl, a⟩ | ⟨t, t1, t2, rfl, t4⟩ <;> rcases h' with ⟨rfl, b⟩ | ⟨u, u1, u2, rfl, u4⟩
  · rfl
  · exact absurd u2 (a u u1)
  · exact absurd t2 (b t t1)
  · rw [show t = u from Nat.le_antisymm (u4 t t1 t2) (t4 u u1 u2)]
/-- a word whose bits up to the position hold something: the greatest of S's places up to it -/
theorem own_found {sz : Nat → Nat} {f : Nat → Nat → Int64} {S : Nat → Prop} {k P t : Nat} (hS : RepAt sz f S k) (hi : P / 64 < sz k) {y : Int64} (hy : ∀ b, b < 64 → bitAt y b = decide (b ≤ P % 64)) (ht : Top (f k (P / 64) &&& y) t) :
    (∃ q, S q ∧ q / 64 ^ k = 64 * (P / 64) + t) ∧ 64 * (P / 64) + t ≤ P ∧ ∀ q, S q → q / 64 ^ k ≤ P → q / 64 ^ k ≤ 64 * (P / 64) + t := by
  obtain ⟨t1, t2, t3⟩ := ht
  rw [own_andb, Bool.and_eq_true, hy t t1, decide_eq_true_iff] at t2
  refine ⟨(hS _ hi t t1).mp t2.1, by omega, fun q q1 q2 => ?_⟩
  refine Classical.byContradiction fun no => ?_
  have e : q / 64 ^ k = 64 * (P / 64) + q / 64 ^ k % 64 := by omega
  have b1 := (hS _ hi (q / 64 ^ k % 64) (by omega)).mpr ⟨q, q1, e⟩
  have b2 := t3 (q / 64 ^ k % 64) (by omega) (by omega)
  rw [own_andb, b1, hy _ (by omega)] at b2
  simp at b2
  omega
theorem own_empty {sz : Nat → Nat} {f : Nat → Nat → Int64} {S : Nat → Prop} {k P : Nat} (hS : RepAt sz f S k) (hi : P / 64 < sz k) {y : Int64} (hy : ∀ b, b < 64 → bitAt y b = decide (b ≤ P % 64)) (hz : f k (P / 64) &&& y = 0) : ∀ q, S q → (q / 64 ^ k ≤ P ↔ q / 64 ^ (k + 1) < P / 64) := by
  intro q q1
  rw [own_up]
  constructor
  · intro q2
    refine Classical.byContradiction fun no => ?_
    have e : q / 64 ^ k = 64 * (P / 64) + q / 64 ^ k % 64 := by omega
    have b1 := (hS _ hi (q / 64 ^ k % 64) (by omega)).mpr ⟨q, q1, e⟩
    have b2 := (own_zero _).mp hz (q / 64 ^ k % 64) (by omega)
    rw [own_andb, b1, hy _ (by omega)] at b2
    simp at b2
    omega
  · intro; omega
theorem own_down {sz : Nat → Nat} {f : Nat → Nat → Int64} {S : Nat → Prop} {k i t : Nat} (hS : RepAt sz f S k) (hi : i < sz k) (ht : Top (f k i) t) :
    (∃ q, S q ∧ q / 64 ^ k = 64 * i + t) ∧ ∀ q, S q → q / 64 ^ (k + 1) ≤ i → q / 64 ^ k ≤ 64 * i + t := by
  obtain ⟨t1, t2, t3⟩ := ht
  refine ⟨(hS _ hi t t1).mp t2, fun q q1 q2 => ?_⟩
  rw [own_up] at q2
  refine Classical.byContradiction fun no => ?_
  have e : q / 64 ^ k = 64 * i + q / 64 ^ k % 64 := by omega
  have b1 := (hS _ hi (q / 64 ^ k % 64) (by omega)).mpr ⟨q, q1, e⟩
  rw [t3 (q / 64 ^ k % 64) (by omega) (by omega)] at b1
  cases b1
end Jvm.OwnKit

namespace Jvm.OwnKit
open Sem ClassFile Op Lib Jvm.Stand Jvm.Free Jvm.LawKit Jvm.RoadKit
def own_mx (a b : Int32) : Int32 := if a < b then b else a
def Two (s t : Slot) : Prop := (s = .unset ∧ t = .unset) ∨ ∃ y, s = .val (.long y) ∧ t = .second
theorem own_os5 {s0 s1 s2 s3 s4 s5 s6 : Slot} {v : Int64} (h : Two s5 s6) : storeLocals #[s0, s1, s2, s3, s4, s5, s6] 5 (.long v) = some #[s0, s1, s2, s3, s4, .val (.long v), .second] := by
  rcases h with ⟨rfl, rfl⟩ | ⟨y, rfl, rfl⟩ <;> rfl
theorem own_dec (x : Int32) : x + (-1 : Int32) = x - 1 := (Int32.sub_eq_add_neg x 1).symm
theorem own_mod {x : Int32} {n : Nat} (h0 : 0 < n) (h1 : n < 2 ^ 31) : ∃ P, P < n ∧ (x &&& (2147483647 : Int32)) % Int32.ofNat n = Int32.ofNat P := by
  have a := c_and x 2147483647 (by decide)
  have b := (c_iremV (x &&& 2147483647) (Int32.ofNat n)).1 a.1 (by rw [own_toInt h1]; omega)
  rw [own_toInt h1] at b
  refine ⟨((x &&& 2147483647) % Int32.ofNat n).toInt.toNat, by omega, ?_⟩
  apply Int32.toInt_inj.mp
  rw [own_toInt (by omega)]; omega
theorem own_nz {n : Nat} (h0 : 0 < n) (h1 : n < 2 ^ 31) : Int32.ofNat n ≠ 0 := fun q => by
  have := congrArg Int32.toInt q
  rw [own_toInt h1] at this
  have z : (0 : Int32).toInt = 0 := by decide
  omega
theorem own_cnt (x m : Int32) (k : Nat) (hk : k ≤ 30) (hm : m.toBitVec.toNat = 2 ^ k - 1) : ∃ N, 1 ≤ N ∧ N ≤ 2 ^ k ∧ (1 : Int32) + (x &&& m) = Int32.ofNat N := by
  have a := c_mask x m k (by omega) hm
  have p : 2 ^ k ≤ 2 ^ 30 := Nat.pow_le_pow_right (by decide) hk
  have q0 : 0 < 2 ^ k := Nat.two_pow_pos k
  have b := Int.emod_nonneg x.toInt (show ((2 ^ k : Nat) : Int) ≠ 0 by omega)
  have c := Int.emod_lt_of_pos x.toInt (show (0 : Int) < ((2 ^ k : Nat) : Int) by omega)
  rw [← a] at b c
  refine ⟨1 + (x &&& m).toInt.toNat, by omega, by omega, ?_⟩
  apply Int32.toInt_inj.mp
  have d := c_iadd 1 (x &&& m)
  have r := rng32 (1 + (x &&& m))
  rw [show (1 : Int32).toInt = 1 from by decide] at d
  rw [own_toInt (by omega)]
  omega
theorem own_mx1 {s : Nat} (h : 1 ≤ s) (h1 : s < 2 ^ 31) : Int32.ofNat s = own_mx 1 (Int32.ofNat s) := by
  unfold own_mx
  by_cases q : (1 : Int32) < Int32.ofNat s
  · rw [if_pos q]
  · rw [if_neg q]
    have : ¬ 1 < s := fun z => q ((own_ltI (i := 1) (by decide) h1).mpr z)
    obtain rfl : s = 1 := by omega
    rfl
theorem Af.lt {Z : State} {h : Heap} {a : Addr} {n : Nat} {f : Nat → Int64} (F : Af Z h a n f) : a < h.size := by obtain ⟨c, A, -⟩ := F; exact A.lt
theorem Af.new {Z : State} {h : Heap} {a : Addr} {k : ClassId} {n : Nat} (A : Arr Z h a (newA k .long (Int32.ofNat n)) .long) (hn : n < 2 ^ 31) : Af Z h a n (fun _ => 0) := by
  refine ⟨_, A, by rw [sz_new]; exact own_clamp hn, fun i hi => ?_⟩
  have q : (newA k .long (Int32.ofNat n)).slots.size = n := by rw [sz_new]; exact own_clamp hn
  show (Array.replicate _ (defaultValue .long))[i]? = _
  rw [own_clamp hn, Array.getElem?_replicate, if_pos hi]
  rfl
theorem own_rep0 {M : Nat} {sz : Nat → Nat} : Rep M sz (fun _ _ => 0) (fun _ => False) := by
  intro k hk i hi b hb
  constructor
  · intro q
    rw [(own_zero 0).mp rfl b hb] at q
    cases q
  · rintro ⟨q, z, -⟩
    exact z.elim
theorem own_pt {N q : Nat} (h : q < N) (M : Nat) : ∀ k, k < M → q / 64 ^ k / 64 < szN N k := fun k _ => own_szLt h k
theorem own_m1 : (Int32.ofNat 0 - 1 : Int32) < (0 : Int32) := by decide
end Jvm.OwnKit

namespace Jvm.OwnKit
open Jvm.RoadKit
def own_st2 (b q x bq : Int32) : Int32 := if bq = 0 then b else if q < x then (if b < q then q else b) else b
def own_r1 (bp p x : Int32) : Int32 := if bp = 0 then -1 else if p < x then p else -1
def own_ref2 (bp p bq q x : Int32) : Int32 := own_st2 (own_r1 bp p x) q x bq
theorem own_ref2_eq {P : Nat} (h : P < 2 ^ 31) (bp bq q x : Int32) : own_ref2 bp (Int32.ofNat P) bq q x = own_st2 (own_st2 (-1) (Int32.ofNat P) x bp) q x bq := by
  have e : own_r1 bp (Int32.ofNat P) x = own_st2 (-1) (Int32.ofNat P) x bp := by
    unfold own_r1 own_st2
    have z : (-1 : Int32) < Int32.ofNat P := by
      rw [Int32.lt_iff_toInt_lt, own_toInt h, show (-1 : Int32).toInt = -1 from by decide]; omega
    rw [if_pos z]
  unfold own_ref2
  rw [e]
theorem own_st2Best {S : Nat → Prop} {x Q R : Nat} {b bq : Int32} (hx : x < 2 ^ 31) (hQ : Q < 2 ^ 31) (hb : bq ≠ 0 ↔ Q ≠ R) (h : Best S x b) : Best (fun z => S z ∨ (z = Q ∧ Q ≠ R)) x (own_st2 b (Int32.ofNat Q) (Int32.ofNat x) bq) := by
  unfold own_st2
  by_cases w : bq = 0
  · rw [if_pos w]
    have hn : ¬ Q ≠ R := fun z => hb.mpr z w
    rcases h with ⟨rfl, a⟩ | ⟨t, t1, t2, rfl, t4⟩
    · exact Or.inl ⟨rfl, fun z z1 z2 => z1.elim (fun y => a z y z2) (fun y => hn y.2)⟩
    · exact Or.inr ⟨t, Or.inl t1, t2, rfl, fun z z1 z2 => z1.elim (fun y => t4 z y z2) (fun y => absurd y.2 hn)⟩
  · rw [if_neg w]
    have hn := hb.mp w
    by_cases q : Q < x
    · rw [if_pos ((own_ltI hQ hx).mpr q)]
      rcases h with ⟨rfl, a⟩ | ⟨t, t1, t2, rfl, t4⟩
      · have z : (-1 : Int32) < Int32.ofNat Q := by
          rw [Int32.lt_iff_toInt_lt, own_toInt hQ, show (-1 : Int32).toInt = -1 from by decide]; omega
        rw [if_pos z]
        exact Or.inr ⟨Q, Or.inr ⟨rfl, hn⟩, q, rfl, fun z z1 z2 => z1.elim (fun y => absurd z2 (a z y)) (fun e => Nat.le_of_eq e.1)⟩
      · by_cases v : t < Q
        · rw [if_pos ((own_ltI (by omega) hQ).mpr v)]
          exact Or.inr ⟨Q, Or.inr ⟨rfl, hn⟩, q, rfl, fun z z1 z2 => z1.elim (fun y => Nat.le_trans (t4 z y z2) (Nat.le_of_lt v)) (fun e => Nat.le_of_eq e.1)⟩
        · rw [if_neg (fun y => v ((own_ltI (by omega) hQ).mp y))]
          exact Or.inr ⟨t, Or.inl t1, t2, rfl, fun z z1 z2 => z1.elim (fun y => t4 z y z2) (fun e => by have := e.1; omega)⟩
    · rw [if_neg (fun z => q ((own_ltI hQ hx).mp z))]
      rcases h with ⟨rfl, a⟩ | ⟨t, t1, t2, rfl, t4⟩
      · exact Or.inl ⟨rfl, fun z z1 z2 => z1.elim (fun y => a z y z2) (fun e => q (e.1 ▸ z2))⟩
      · exact Or.inr ⟨t, Or.inl t1, t2, rfl, fun z z1 z2 => z1.elim (fun y => t4 z y z2) (fun e => absurd (e.1 ▸ z2) q)⟩
theorem Best.congr {S S' : Nat → Prop} {x : Nat} {r : Int32} (e : ∀ z, S z ↔ S' z) (h : Best S x r) : Best S' x r := by
  rcases h with ⟨h1, a⟩ | ⟨t, t1, t2, h1, t4⟩
  · exact Or.inl ⟨h1, fun z z1 => a z ((e z).mpr z1)⟩
  · exact Or.inr ⟨t, (e t).mp t1, t2, h1, fun z z1 => t4 z ((e z).mpr z1)⟩
theorem own_best2 {x P Q R : Nat} {bp bq : Int32} (hx : x < 2 ^ 31) (hP : P < 2 ^ 31) (hQ : Q < 2 ^ 31) (hp : bp ≠ 0 ↔ P ≠ R) (hq : bq ≠ 0 ↔ Q ≠ R) :
    ∀ t, Best (fun q => (fun q => (fun q => (fun _ => False) q ∨ q = P) q ∨ q = Q) q ∧ q ≠ R) x t → t = own_ref2 bp (Int32.ofNat P) bq (Int32.ofNat Q) (Int32.ofNat x) := fun t h => by
  rw [own_ref2_eq hP]
  refine h.unique (Best.congr (fun z => ?_) (own_st2Best hx hQ hq (own_st2Best hx hP hp (S := fun _ => False) (Or.inl ⟨rfl, fun _ z => z.elim⟩))))
  constructor
  · rintro ((a | ⟨rfl, b⟩) | ⟨rfl, b⟩)
    · exact a.elim
    · exact ⟨Or.inl (Or.inr rfl), b⟩
    · exact ⟨Or.inr rfl, b⟩
  · rintro ⟨(a | rfl) | rfl, b⟩
    · exact a.elim
    · exact Or.inl (Or.inr ⟨rfl, b⟩)
    · exact Or.inr ⟨rfl, b⟩
theorem own_qof {x sp : Int32} {P n : Nat} (hP : P < n) (hn : n ≤ 8192) (h0 : 0 ≤ sp.toInt) (h1 : sp.toInt ≤ 65535) : ∃ Q, Q < n ∧ (Int32.ofNat P + (x &&& sp)) % Int32.ofNat n = Int32.ofNat Q := by
  have a := c_and x sp h0
  have b := c_iadd (Int32.ofNat P) (x &&& sp)
  have r := rng32 (Int32.ofNat P + (x &&& sp))
  rw [own_toInt (by omega)] at b
  have c := (c_iremV (Int32.ofNat P + (x &&& sp)) (Int32.ofNat n)).1 (by omega) (by rw [own_toInt (by omega)]; omega)
  rw [own_toInt (show n < 2 ^ 31 by omega)] at c
  refine ⟨((Int32.ofNat P + (x &&& sp)) % Int32.ofNat n).toInt.toNat, by omega, ?_⟩
  apply Int32.toInt_inj.mp
  rw [own_toInt (by omega)]; omega
end Jvm.OwnKit
namespace Jvm.Pilot.@@N@@
open Jvm Jvm.ClassFile Sem Op Lib Jvm.Free Jvm.Stand Jvm.LawKit Jvm.RoadKit Jvm.OwnKit Bundle Jvm.Pilot.@@N@@.Jvm.D
open Jvm.Free.BdW (nlz32 nlz64 hi32 blk ush)
theorem d3_0 : decode jdk_29_method_65_code 0 = .ok (.iload_n 0, 1) := by decide +kernel
theorem d3_1 : decode jdk_29_method_65_code 1 = .ok (.iload_n 1, 1) := by decide +kernel
theorem d3_2 : decode jdk_29_method_65_code 2 = .ok (.if_icmp .lt 7, 3) := by decide +kernel
theorem d3_5 : decode jdk_29_method_65_code 5 = .ok (.iload_n 0, 1) := by decide +kernel
theorem d3_6 : decode jdk_29_method_65_code 6 = .ok (.goto 4, 3) := by decide +kernel
theorem d3_9 : decode jdk_29_method_65_code 9 = .ok (.iload_n 1, 1) := by decide +kernel
theorem d3_10 : decode jdk_29_method_65_code 10 = .ok (.ireturn, 1) := by decide +kernel
theorem ef_rmMx (m : MethodId) (x0 : Int32) (x1 : Int32) : entryFrame m #[(.int x0), (.int x1)] 2 = mkF m 0 #[.val (.int x0), .val (.int x1)] [] := by first | (simp [entryFrame, mkF, argsToLocals, Value.category]; done) | rfl
def QMx (Z : State) (p0 p1 r : Int32) (h0 : Heap) (n0 : Nat) (v : Option Value) (h : Heap) (L : List Loc) : Prop := v = some (.int r) ∧ Fr n0 L ∧ h = h0
set_option maxRecDepth 65536 in
set_option maxHeartbeats 40000000 in
theorem rmMx (l : Launch) (Z : State) (a0 : Array Value) (hw : ∀ d ∈ tables_1, d.before a0 Z = true) (ws : List Jvm.Cond) (p0 p1 r : Int32) (h0 : Heap) (n0 : Nat) (Z0 : n0 ≤ h0.size) (hr : r = own_mx p0 p1) :
    MetFree l (⟨"java/lang/Math", "max", "(II)I"⟩ : MethodName) (head1 (Jvm.Cond.code (⟨"java/lang/Math", "max", "(II)I"⟩ : MethodName) jdk_29_method_65_code 2 (some .int) :: ws) ({ frames := 0, cells := 0, slots := 0, locals := 0 } : Room)) (fun as' U => as' = #[(.int p0), (.int p1)] ∧ Z.Warmed39 U.vm ∧ U.heap = h0) (fun _ _ _ _ _ => True) (fun _ U o U' => ∃ v L, o = .returned v ∧ QMx Z p0 p1 r h0 n0 v U'.heap L ∧ FrameEnd U o U' L ({ frames := 0, cells := 0, slots := 0, locals := 0 } : Room).cells ({ frames := 0, cells := 0, slots := 0, locals := 0 } : Room).slots) := by
  refine MetFree.of_bodySF (Jvm.Free.JP.mathPlain rfl (by decide +kernel)) hisR ?_
  intro p e s m args below meth c s₁ Bd hml0 hP hK
  obtain ⟨rfl, hZ, hh⟩ := hP
  have hx := Bd.exec
  have hby := Bd.bytes
  have hml : c.maxLocals = 2 := hml0
  have hown : s.vm.findClass "java/lang/Math" = some m.cls := findClass_of_methodNamed Bd.named
  have hnm := (name_of_methodNamed Bd.named Bd.method).1
  have hlk : meth.locks = false := Bd.notSynchronized
  have hret := Bd.returns
  have X0 : Stand p l e ({ frames := 0, cells := 0, slots := 0, locals := 0 } : Room) s m #[(.int p0), (.int p1)] below meth c s₁ [] 0 0 := Stand.of_body Bd
  have e0 : s₁.heap = h0 := by rw [← hh, Bd.state]; rfl
  have N0 := Fr.nil n0
  show Go p e below s₁ (entryFrame m #[(.int p0), (.int p1)] 2) (Fin s (QMx Z p0 p1 r h0 n0) ({ frames := 0, cells := 0, slots := 0, locals := 0 } : Room).cells ({ frames := 0, cells := 0, slots := 0, locals := 0 } : Room).slots)
  rw [ef_rmMx]
  show Go p e below s₁ (mkF m 0 #[.val (.int p0), .val (.int p1)] []) _
  refine Go.step (fun _ => XS.iloadN X0.here hx rfl (hb hby d3_0) rfl ) ?_
  show Go p e below s₁ (mkF m 1 #[.val (.int p0), .val (.int p1)] [(.int p0)]) _
  refine Go.step (fun _ => XS.iloadN X0.here hx rfl (hb hby d3_1) rfl ) ?_
  show Go p e below s₁ (mkF m 2 #[.val (.int p0), .val (.int p1)] [(.int p1), (.int p0)]) _
  by_cases hc2 : p0 < p1
  · skip
    refine Go.step (fun _ => XS.icmpYes X0.here hx rfl (pc0 := 2) (pc' := 9) rfl (hb hby d3_2) rfl (tlt hc2).1 (by decide) (by decide)) ?_
    show Go p e below s₁ (mkF m 9 #[.val (.int p0), .val (.int p1)] []) _
    refine Go.step (fun _ => XS.iloadN X0.here hx rfl (hb hby d3_9) rfl ) ?_
    show Go p e below s₁ (mkF m 10 #[.val (.int p0), .val (.int p1)] [(.int p1)]) _
    refine Go.retI X0 hx hret hlk (hb hby d3_10) ?_ (by decide) (by decide)
    exact ⟨by rw [hr, own_mx, if_pos hc2], N0, e0⟩
  · skip
    refine Go.step (fun _ => XS.icmpNo X0.here hx rfl (hb hby d3_2) rfl (flt hc2).1) ?_
    show Go p e below s₁ (mkF m 5 #[.val (.int p0), .val (.int p1)] []) _
    refine Go.step (fun _ => XS.iloadN X0.here hx rfl (hb hby d3_5) rfl ) ?_
    show Go p e below s₁ (mkF m 6 #[.val (.int p0), .val (.int p1)] [(.int p0)]) _
    refine Go.step (fun _ => XS.goto X0.here hx rfl (pc0 := 6) (pc' := 10) rfl (hb hby d3_6) (by decide) (by decide)) ?_
    show Go p e below s₁ (mkF m 10 #[.val (.int p0), .val (.int p1)] [(.int p0)]) _
    refine Go.retI X0 hx hret hlk (hb hby d3_10) ?_ (by decide) (by decide)
    exact ⟨by rw [hr, own_mx, if_neg hc2], N0, e0⟩
theorem d10_0 : decode jdk_33_method_47_code 0 = .ok (.iload_n 0, 1) := by decide +kernel
theorem d10_1 : decode jdk_33_method_47_code 1 = .ok (.ifCond .gt 14, 3) := by decide +kernel
theorem d10_4 : decode jdk_33_method_47_code 4 = .ok (.iload_n 0, 1) := by decide +kernel
theorem d10_5 : decode jdk_33_method_47_code 5 = .ok (.ifCond .ne 8, 3) := by decide +kernel
theorem d10_8 : decode jdk_33_method_47_code 8 = .ok (.bipush 32, 2) := by decide +kernel
theorem d10_10 : decode jdk_33_method_47_code 10 = .ok (.goto 4, 3) := by decide +kernel
theorem d10_13 : decode jdk_33_method_47_code 13 = .ok (.iconst 0, 1) := by decide +kernel
theorem d10_14 : decode jdk_33_method_47_code 14 = .ok (.ireturn, 1) := by decide +kernel
theorem d10_15 : decode jdk_33_method_47_code 15 = .ok (.bipush 31, 2) := by decide +kernel
theorem d10_17 : decode jdk_33_method_47_code 17 = .ok (.istore_n 1, 1) := by decide +kernel
theorem d10_18 : decode jdk_33_method_47_code 18 = .ok (.iload_n 0, 1) := by decide +kernel
theorem d10_19 : decode jdk_33_method_47_code 19 = .ok (.ldc_w 264, 3) := by decide +kernel
theorem d10_22 : decode jdk_33_method_47_code 22 = .ok (.if_icmp .lt 11, 3) := by decide +kernel
theorem d10_25 : decode jdk_33_method_47_code 25 = .ok (.iinc 1 (-16), 3) := by decide +kernel
theorem d10_28 : decode jdk_33_method_47_code 28 = .ok (.iload_n 0, 1) := by decide +kernel
theorem d10_29 : decode jdk_33_method_47_code 29 = .ok (.bipush 16, 2) := by decide +kernel
theorem d10_31 : decode jdk_33_method_47_code 31 = .ok (.iushr, 1) := by decide +kernel
theorem d10_32 : decode jdk_33_method_47_code 32 = .ok (.istore_n 0, 1) := by decide +kernel
theorem d10_33 : decode jdk_33_method_47_code 33 = .ok (.iload_n 0, 1) := by decide +kernel
theorem d10_34 : decode jdk_33_method_47_code 34 = .ok (.sipush 256, 3) := by decide +kernel
theorem d10_37 : decode jdk_33_method_47_code 37 = .ok (.if_icmp .lt 11, 3) := by decide +kernel
theorem d10_40 : decode jdk_33_method_47_code 40 = .ok (.iinc 1 (-8), 3) := by decide +kernel
theorem d10_43 : decode jdk_33_method_47_code 43 = .ok (.iload_n 0, 1) := by decide +kernel
theorem d10_44 : decode jdk_33_method_47_code 44 = .ok (.bipush 8, 2) := by decide +kernel
theorem d10_46 : decode jdk_33_method_47_code 46 = .ok (.iushr, 1) := by decide +kernel
theorem d10_47 : decode jdk_33_method_47_code 47 = .ok (.istore_n 0, 1) := by decide +kernel
theorem d10_48 : decode jdk_33_method_47_code 48 = .ok (.iload_n 0, 1) := by decide +kernel
theorem d10_49 : decode jdk_33_method_47_code 49 = .ok (.bipush 16, 2) := by decide +kernel
theorem d10_51 : decode jdk_33_method_47_code 51 = .ok (.if_icmp .lt 10, 3) := by decide +kernel
theorem d10_54 : decode jdk_33_method_47_code 54 = .ok (.iinc 1 (-4), 3) := by decide +kernel
theorem d10_57 : decode jdk_33_method_47_code 57 = .ok (.iload_n 0, 1) := by decide +kernel
theorem d10_58 : decode jdk_33_method_47_code 58 = .ok (.iconst 4, 1) := by decide +kernel
theorem d10_59 : decode jdk_33_method_47_code 59 = .ok (.iushr, 1) := by decide +kernel
theorem d10_60 : decode jdk_33_method_47_code 60 = .ok (.istore_n 0, 1) := by decide +kernel
theorem d10_61 : decode jdk_33_method_47_code 61 = .ok (.iload_n 0, 1) := by decide +kernel
theorem d10_62 : decode jdk_33_method_47_code 62 = .ok (.iconst 4, 1) := by decide +kernel
theorem d10_63 : decode jdk_33_method_47_code 63 = .ok (.if_icmp .lt 10, 3) := by decide +kernel
theorem d10_66 : decode jdk_33_method_47_code 66 = .ok (.iinc 1 (-2), 3) := by decide +kernel
theorem d10_69 : decode jdk_33_method_47_code 69 = .ok (.iload_n 0, 1) := by decide +kernel
theorem d10_70 : decode jdk_33_method_47_code 70 = .ok (.iconst 2, 1) := by decide +kernel
theorem d10_71 : decode jdk_33_method_47_code 71 = .ok (.iushr, 1) := by decide +kernel
theorem d10_72 : decode jdk_33_method_47_code 72 = .ok (.istore_n 0, 1) := by decide +kernel
theorem d10_73 : decode jdk_33_method_47_code 73 = .ok (.iload_n 1, 1) := by decide +kernel
theorem d10_74 : decode jdk_33_method_47_code 74 = .ok (.iload_n 0, 1) := by decide +kernel
theorem d10_75 : decode jdk_33_method_47_code 75 = .ok (.iconst 1, 1) := by decide +kernel
theorem d10_76 : decode jdk_33_method_47_code 76 = .ok (.iushr, 1) := by decide +kernel
theorem d10_77 : decode jdk_33_method_47_code 77 = .ok (.isub, 1) := by decide +kernel
theorem d10_78 : decode jdk_33_method_47_code 78 = .ok (.ireturn, 1) := by decide +kernel
theorem pn_0 : plainName "java/lang/Integer" = true := by first | (simp [plainName, overriddenIn]; done) | decide +kernel
theorem ef_rmN32 (m : MethodId) (x0 : Int32) : entryFrame m #[(.int x0)] 2 = mkF m 0 #[.val (.int x0), .unset] [] := by first | (simp [entryFrame, mkF, argsToLocals, Value.category]; done) | rfl
def QN32 (Z : State) (p0 : Int32) (h0 : Heap) (n0 : Nat) (v : Option Value) (h : Heap) (L : List Loc) : Prop := v = some (.int (nlz32 p0)) ∧ Fr n0 L ∧ h = h0
set_option maxRecDepth 65536 in
set_option maxHeartbeats 40000000 in
theorem rmN32 (l : Launch) (Z : State) (a0 : Array Value) (hw : ∀ d ∈ tables_1, d.before a0 Z = true) (ws : List Jvm.Cond) (p0 : Int32) (h0 : Heap) (n0 : Nat) (Z0 : n0 ≤ h0.size)  :
    MetFree l (⟨"java/lang/Integer", "numberOfLeadingZeros", "(I)I"⟩ : MethodName) (head1 (Jvm.Cond.code (⟨"java/lang/Integer", "numberOfLeadingZeros", "(I)I"⟩ : MethodName) jdk_33_method_47_code 2 (some .int) :: ws) ({ frames := 0, cells := 0, slots := 0, locals := 0 } : Room)) (fun as' U => as' = #[(.int p0)] ∧ Z.Warmed39 U.vm ∧ U.heap = h0) (fun _ _ _ _ _ => True) (fun _ U o U' => ∃ v L, o = .returned v ∧ QN32 Z p0 h0 n0 v U'.heap L ∧ FrameEnd U o U' L ({ frames := 0, cells := 0, slots := 0, locals := 0 } : Room).cells ({ frames := 0, cells := 0, slots := 0, locals := 0 } : Room).slots) := by
  refine MetFree.of_bodySF (plainFor_of_name pn_0) hisR ?_
  intro p e s m args below meth c s₁ Bd hml0 hP hK
  obtain ⟨rfl, hZ, hh⟩ := hP
  have hx := Bd.exec
  have hby := Bd.bytes
  have hml : c.maxLocals = 2 := hml0
  have hown : s.vm.findClass "java/lang/Integer" = some m.cls := findClass_of_methodNamed Bd.named
  have hnm := (name_of_methodNamed Bd.named Bd.method).1
  have hlk : meth.locks = false := Bd.notSynchronized
  have hret := Bd.returns
  have X0 : Stand p l e ({ frames := 0, cells := 0, slots := 0, locals := 0 } : Room) s m #[(.int p0)] below meth c s₁ [] 0 0 := Stand.of_body Bd
  have e0 : s₁.heap = h0 := by rw [← hh, Bd.state]; rfl
  have N0 := Fr.nil n0
  show Go p e below s₁ (entryFrame m #[(.int p0)] 2) (Fin s (QN32 Z p0 h0 n0) ({ frames := 0, cells := 0, slots := 0, locals := 0 } : Room).cells ({ frames := 0, cells := 0, slots := 0, locals := 0 } : Room).slots)
  rw [ef_rmN32]
  have hB : (0 : Int32) < p0 → nlz32 p0 = ((blk 4 2 (-2) (blk 16 4 (-4) (blk 256 8 (-8) (blk 65536 16 (-16) (p0, (31 : Int32))))))).2 - ush ((blk 4 2 (-2) (blk 16 4 (-4) (blk 256 8 (-8) (blk 65536 16 (-16) (p0, (31 : Int32))))))).1 1 := fun q => if_pos q
  by_cases hp : (0 : Int32) < p0
  · skip
    have J73 : ∀ (i n : Int32) (hq73 : (i, n) = (blk 4 2 (-2) (blk 16 4 (-4) (blk 256 8 (-8) (blk 65536 16 (-16) (p0, (31 : Int32))))))), Go p e below s₁ (mkF m 73 #[.val (.int i), .val (.int n)] []) (Fin s (QN32 Z p0 h0 n0) ({ frames := 0, cells := 0, slots := 0, locals := 0 } : Room).cells ({ frames := 0, cells := 0, slots := 0, locals := 0 } : Room).slots) := by
      intro i n hq73
      show Go p e below s₁ (mkF m 73 #[.val (.int i), .val (.int n)] []) _
      refine Go.step (fun _ => XS.iloadN X0.here hx rfl (hb hby d10_73) rfl ) ?_
      show Go p e below s₁ (mkF m 74 #[.val (.int i), .val (.int n)] [(.int n)]) _
      refine Go.step (fun _ => XS.iloadN X0.here hx rfl (hb hby d10_74) rfl ) ?_
      show Go p e below s₁ (mkF m 75 #[.val (.int i), .val (.int n)] [(.int i), (.int n)]) _
      refine Go.step (fun _ => XS.iconst X0.here hx rfl (hb hby d10_75)) ?_
      show Go p e below s₁ (mkF m 76 #[.val (.int i), .val (.int n)] [(.int (1 : Int32)), (.int i), (.int n)]) _
      refine Go.step (fun _ => XS.iushr X0.here hx rfl (hb hby d10_76) rfl) ?_
      show Go p e below s₁ (mkF m 77 #[.val (.int i), .val (.int n)] [(.int ((i.toUInt32 >>> ((1 : Int32) &&& 31).toUInt32).toInt32)), (.int n)]) _
      refine Go.step (fun _ => XS.isub X0.here hx rfl (hb hby d10_77) rfl) ?_
      show Go p e below s₁ (mkF m 78 #[.val (.int i), .val (.int n)] [(.int (n - ((i.toUInt32 >>> ((1 : Int32) &&& 31).toUInt32).toInt32)))]) _
      refine Go.retI X0 hx hret hlk (hb hby d10_78) ?_ (by decide) (by decide)
      refine ⟨?_, N0, e0⟩
      rw [hB hp, ← hq73]
      rfl
    have J61 : ∀ (i n : Int32) (hq61 : (i, n) = (blk 16 4 (-4) (blk 256 8 (-8) (blk 65536 16 (-16) (p0, (31 : Int32)))))), Go p e below s₁ (mkF m 61 #[.val (.int i), .val (.int n)] []) (Fin s (QN32 Z p0 h0 n0) ({ frames := 0, cells := 0, slots := 0, locals := 0 } : Room).cells ({ frames := 0, cells := 0, slots := 0, locals := 0 } : Room).slots) := by
      intro i n hq61
      show Go p e below s₁ (mkF m 61 #[.val (.int i), .val (.int n)] []) _
      refine Go.step (fun _ => XS.iloadN X0.here hx rfl (hb hby d10_61) rfl ) ?_
      show Go p e below s₁ (mkF m 62 #[.val (.int i), .val (.int n)] [(.int i)]) _
      refine Go.step (fun _ => XS.iconst X0.here hx rfl (hb hby d10_62)) ?_
      show Go p e below s₁ (mkF m 63 #[.val (.int i), .val (.int n)] [(.int (4 : Int32)), (.int i)]) _
      by_cases hc63 : i < (4 : Int32)
      · skip
        refine Go.step (fun _ => XS.icmpYes X0.here hx rfl (pc0 := 63) (pc' := 73) rfl (hb hby d10_63) rfl (tlt hc63).1 (by decide) (by decide)) ?_
        show Go p e below s₁ (mkF m 73 #[.val (.int i), .val (.int n)] []) _
        exact J73 _ _ (by rw [← hq61]; exact (if_pos hc63).symm)
      · skip
        refine Go.step (fun _ => XS.icmpNo X0.here hx rfl (hb hby d10_63) rfl (flt hc63).1) ?_
        show Go p e below s₁ (mkF m 66 #[.val (.int i), .val (.int n)] []) _
        refine Go.step (fun _ => XS.iinc X0.here hx rfl (hb hby d10_66) rfl (l' := #[.val (.int i), .val (.int (n + (-2 : Int32)))]) rfl) ?_
        show Go p e below s₁ (mkF m 69 #[.val (.int i), .val (.int (n + (-2 : Int32)))] []) _
        refine Go.step (fun _ => XS.iloadN X0.here hx rfl (hb hby d10_69) rfl ) ?_
        show Go p e below s₁ (mkF m 70 #[.val (.int i), .val (.int (n + (-2 : Int32)))] [(.int i)]) _
        refine Go.step (fun _ => XS.iconst X0.here hx rfl (hb hby d10_70)) ?_
        show Go p e below s₁ (mkF m 71 #[.val (.int i), .val (.int (n + (-2 : Int32)))] [(.int (2 : Int32)), (.int i)]) _
        refine Go.step (fun _ => XS.iushr X0.here hx rfl (hb hby d10_71) rfl) ?_
        show Go p e below s₁ (mkF m 72 #[.val (.int i), .val (.int (n + (-2 : Int32)))] [(.int ((i.toUInt32 >>> ((2 : Int32) &&& 31).toUInt32).toInt32))]) _
        refine Go.step (fun _ => XS.istoreN X0.here hx rfl (hb hby d10_72) rfl (l' := #[.val (.int ((i.toUInt32 >>> ((2 : Int32) &&& 31).toUInt32).toInt32)), .val (.int (n + (-2 : Int32)))]) rfl) ?_
        show Go p e below s₁ (mkF m 73 #[.val (.int ((i.toUInt32 >>> ((2 : Int32) &&& 31).toUInt32).toInt32)), .val (.int (n + (-2 : Int32)))] []) _
        exact J73 _ _ (by rw [← hq61]; exact (if_neg hc63).symm)
    have J48 : ∀ (i n : Int32) (hq48 : (i, n) = (blk 256 8 (-8) (blk 65536 16 (-16) (p0, (31 : Int32))))), Go p e below s₁ (mkF m 48 #[.val (.int i), .val (.int n)] []) (Fin s (QN32 Z p0 h0 n0) ({ frames := 0, cells := 0, slots := 0, locals := 0 } : Room).cells ({ frames := 0, cells := 0, slots := 0, locals := 0 } : Room).slots) := by
      intro i n hq48
      show Go p e below s₁ (mkF m 48 #[.val (.int i), .val (.int n)] []) _
      refine Go.step (fun _ => XS.iloadN X0.here hx rfl (hb hby d10_48) rfl ) ?_
      show Go p e below s₁ (mkF m 49 #[.val (.int i), .val (.int n)] [(.int i)]) _
      refine Go.step (fun _ => XS.bipush X0.here hx rfl (hb hby d10_49)) ?_
      show Go p e below s₁ (mkF m 51 #[.val (.int i), .val (.int n)] [(.int (16 : Int32)), (.int i)]) _
      by_cases hc51 : i < (16 : Int32)
      · skip
        refine Go.step (fun _ => XS.icmpYes X0.here hx rfl (pc0 := 51) (pc' := 61) rfl (hb hby d10_51) rfl (tlt hc51).1 (by decide) (by decide)) ?_
        show Go p e below s₁ (mkF m 61 #[.val (.int i), .val (.int n)] []) _
        exact J61 _ _ (by rw [← hq48]; exact (if_pos hc51).symm)
      · skip
        refine Go.step (fun _ => XS.icmpNo X0.here hx rfl (hb hby d10_51) rfl (flt hc51).1) ?_
        show Go p e below s₁ (mkF m 54 #[.val (.int i), .val (.int n)] []) _
        refine Go.step (fun _ => XS.iinc X0.here hx rfl (hb hby d10_54) rfl (l' := #[.val (.int i), .val (.int (n + (-4 : Int32)))]) rfl) ?_
        show Go p e below s₁ (mkF m 57 #[.val (.int i), .val (.int (n + (-4 : Int32)))] []) _
        refine Go.step (fun _ => XS.iloadN X0.here hx rfl (hb hby d10_57) rfl ) ?_
        show Go p e below s₁ (mkF m 58 #[.val (.int i), .val (.int (n + (-4 : Int32)))] [(.int i)]) _
        refine Go.step (fun _ => XS.iconst X0.here hx rfl (hb hby d10_58)) ?_
        show Go p e below s₁ (mkF m 59 #[.val (.int i), .val (.int (n + (-4 : Int32)))] [(.int (4 : Int32)), (.int i)]) _
        refine Go.step (fun _ => XS.iushr X0.here hx rfl (hb hby d10_59) rfl) ?_
        show Go p e below s₁ (mkF m 60 #[.val (.int i), .val (.int (n + (-4 : Int32)))] [(.int ((i.toUInt32 >>> ((4 : Int32) &&& 31).toUInt32).toInt32))]) _
        refine Go.step (fun _ => XS.istoreN X0.here hx rfl (hb hby d10_60) rfl (l' := #[.val (.int ((i.toUInt32 >>> ((4 : Int32) &&& 31).toUInt32).toInt32)), .val (.int (n + (-4 : Int32)))]) rfl) ?_
        show Go p e below s₁ (mkF m 61 #[.val (.int ((i.toUInt32 >>> ((4 : Int32) &&& 31).toUInt32).toInt32)), .val (.int (n + (-4 : Int32)))] []) _
        exact J61 _ _ (by rw [← hq48]; exact (if_neg hc51).symm)
    have J33 : ∀ (i n : Int32) (hq33 : (i, n) = (blk 65536 16 (-16) (p0, (31 : Int32)))), Go p e below s₁ (mkF m 33 #[.val (.int i), .val (.int n)] []) (Fin s (QN32 Z p0 h0 n0) ({ frames := 0, cells := 0, slots := 0, locals := 0 } : Room).cells ({ frames := 0, cells := 0, slots := 0, locals := 0 } : Room).slots) := by
      intro i n hq33
      show Go p e below s₁ (mkF m 33 #[.val (.int i), .val (.int n)] []) _
      refine Go.step (fun _ => XS.iloadN X0.here hx rfl (hb hby d10_33) rfl ) ?_
      show Go p e below s₁ (mkF m 34 #[.val (.int i), .val (.int n)] [(.int i)]) _
      refine Go.step (fun _ => XS.sipush X0.here hx rfl (hb hby d10_34)) ?_
      show Go p e below s₁ (mkF m 37 #[.val (.int i), .val (.int n)] [(.int (256 : Int32)), (.int i)]) _
      by_cases hc37 : i < (256 : Int32)
      · skip
        refine Go.step (fun _ => XS.icmpYes X0.here hx rfl (pc0 := 37) (pc' := 48) rfl (hb hby d10_37) rfl (tlt hc37).1 (by decide) (by decide)) ?_
        show Go p e below s₁ (mkF m 48 #[.val (.int i), .val (.int n)] []) _
        exact J48 _ _ (by rw [← hq33]; exact (if_pos hc37).symm)
      · skip
        refine Go.step (fun _ => XS.icmpNo X0.here hx rfl (hb hby d10_37) rfl (flt hc37).1) ?_
        show Go p e below s₁ (mkF m 40 #[.val (.int i), .val (.int n)] []) _
        refine Go.step (fun _ => XS.iinc X0.here hx rfl (hb hby d10_40) rfl (l' := #[.val (.int i), .val (.int (n + (-8 : Int32)))]) rfl) ?_
        show Go p e below s₁ (mkF m 43 #[.val (.int i), .val (.int (n + (-8 : Int32)))] []) _
        refine Go.step (fun _ => XS.iloadN X0.here hx rfl (hb hby d10_43) rfl ) ?_
        show Go p e below s₁ (mkF m 44 #[.val (.int i), .val (.int (n + (-8 : Int32)))] [(.int i)]) _
        refine Go.step (fun _ => XS.bipush X0.here hx rfl (hb hby d10_44)) ?_
        show Go p e below s₁ (mkF m 46 #[.val (.int i), .val (.int (n + (-8 : Int32)))] [(.int (8 : Int32)), (.int i)]) _
        refine Go.step (fun _ => XS.iushr X0.here hx rfl (hb hby d10_46) rfl) ?_
        show Go p e below s₁ (mkF m 47 #[.val (.int i), .val (.int (n + (-8 : Int32)))] [(.int ((i.toUInt32 >>> ((8 : Int32) &&& 31).toUInt32).toInt32))]) _
        refine Go.step (fun _ => XS.istoreN X0.here hx rfl (hb hby d10_47) rfl (l' := #[.val (.int ((i.toUInt32 >>> ((8 : Int32) &&& 31).toUInt32).toInt32)), .val (.int (n + (-8 : Int32)))]) rfl) ?_
        show Go p e below s₁ (mkF m 48 #[.val (.int ((i.toUInt32 >>> ((8 : Int32) &&& 31).toUInt32).toInt32)), .val (.int (n + (-8 : Int32)))] []) _
        exact J48 _ _ (by rw [← hq33]; exact (if_neg hc37).symm)
    show Go p e below s₁ (mkF m 0 #[.val (.int p0), .unset] []) _
    refine Go.step (fun _ => XS.iloadN X0.here hx rfl (hb hby d10_0) rfl ) ?_
    show Go p e below s₁ (mkF m 1 #[.val (.int p0), .unset] [(.int p0)]) _
    refine Go.step (fun _ => XS.ifYes X0.here hx rfl (pc0 := 1) (pc' := 15) rfl (hb hby d10_1) rfl ((if0 _ _).trans (tlt hp).2.2.1) (by decide) (by decide)) ?_
    show Go p e below s₁ (mkF m 15 #[.val (.int p0), .unset] []) _
    refine Go.step (fun _ => XS.bipush X0.here hx rfl (hb hby d10_15)) ?_
    show Go p e below s₁ (mkF m 17 #[.val (.int p0), .unset] [(.int (31 : Int32))]) _
    refine Go.step (fun _ => XS.istoreN X0.here hx rfl (hb hby d10_17) rfl (l' := #[.val (.int p0), .val (.int (31 : Int32))]) rfl) ?_
    show Go p e below s₁ (mkF m 18 #[.val (.int p0), .val (.int (31 : Int32))] []) _
    refine Go.step (fun _ => XS.iloadN X0.here hx rfl (hb hby d10_18) rfl ) ?_
    show Go p e below s₁ (mkF m 19 #[.val (.int p0), .val (.int (31 : Int32))] [(.int p0)]) _
    refine Go.step (fun _ => X0.ldcwInt hx hown (mvT hZ (hw _ (List.mem_of_getElem? (i := 52) rfl))) (g := (mkF m 19 #[.val (.int p0), .val (.int (31 : Int32))] [(.int p0)])) rfl (hb hby d10_19) _) ?_
    show Go p e below s₁ (mkF m 22 #[.val (.int p0), .val (.int (31 : Int32))] [(.int (65536 : Int32)), (.int p0)]) _
    by_cases hc22 : p0 < (65536 : Int32)
    · skip
      refine Go.step (fun _ => XS.icmpYes X0.here hx rfl (pc0 := 22) (pc' := 33) rfl (hb hby d10_22) rfl (tlt hc22).1 (by decide) (by decide)) ?_
      show Go p e below s₁ (mkF m 33 #[.val (.int p0), .val (.int (31 : Int32))] []) _
      exact J33 _ _ (by exact (if_pos hc22).symm)
    · skip
      refine Go.step (fun _ => XS.icmpNo X0.here hx rfl (hb hby d10_22) rfl (flt hc22).1) ?_
      show Go p e below s₁ (mkF m 25 #[.val (.int p0), .val (.int (31 : Int32))] []) _
      refine Go.step (fun _ => XS.iinc X0.here hx rfl (hb hby d10_25) rfl (l' := #[.val (.int p0), .val (.int (15 : Int32))]) rfl) ?_
      show Go p e below s₁ (mkF m 28 #[.val (.int p0), .val (.int (15 : Int32))] []) _
      refine Go.step (fun _ => XS.iloadN X0.here hx rfl (hb hby d10_28) rfl ) ?_
      show Go p e below s₁ (mkF m 29 #[.val (.int p0), .val (.int (15 : Int32))] [(.int p0)]) _
      refine Go.step (fun _ => XS.bipush X0.here hx rfl (hb hby d10_29)) ?_
      show Go p e below s₁ (mkF m 31 #[.val (.int p0), .val (.int (15 : Int32))] [(.int (16 : Int32)), (.int p0)]) _
      refine Go.step (fun _ => XS.iushr X0.here hx rfl (hb hby d10_31) rfl) ?_
      show Go p e below s₁ (mkF m 32 #[.val (.int p0), .val (.int (15 : Int32))] [(.int ((p0.toUInt32 >>> ((16 : Int32) &&& 31).toUInt32).toInt32))]) _
      refine Go.step (fun _ => XS.istoreN X0.here hx rfl (hb hby d10_32) rfl (l' := #[.val (.int ((p0.toUInt32 >>> ((16 : Int32) &&& 31).toUInt32).toInt32)), .val (.int (15 : Int32))]) rfl) ?_
      show Go p e below s₁ (mkF m 33 #[.val (.int ((p0.toUInt32 >>> ((16 : Int32) &&& 31).toUInt32).toInt32)), .val (.int (15 : Int32))] []) _
      exact J33 _ _ (by rw [show (15 : Int32) = 31 + (-16) from by decide]; exact (if_neg hc22).symm)
  · skip
    show Go p e below s₁ (mkF m 0 #[.val (.int p0), .unset] []) _
    refine Go.step (fun _ => XS.iloadN X0.here hx rfl (hb hby d10_0) rfl ) ?_
    show Go p e below s₁ (mkF m 1 #[.val (.int p0), .unset] [(.int p0)]) _
    refine Go.step (fun _ => XS.ifNo X0.here hx rfl (hb hby d10_1) rfl ((if0 _ _).trans (flt hp).2.2.1)) ?_
    show Go p e below s₁ (mkF m 4 #[.val (.int p0), .unset] []) _
    refine Go.step (fun _ => XS.iloadN X0.here hx rfl (hb hby d10_4) rfl ) ?_
    show Go p e below s₁ (mkF m 5 #[.val (.int p0), .unset] [(.int p0)]) _
    by_cases hc5 : p0 = (0 : Int32)
    · skip
      refine Go.step (fun _ => XS.ifNo X0.here hx rfl (hb hby d10_5) rfl ((if0 _ _).trans (teq hc5).2)) ?_
      show Go p e below s₁ (mkF m 8 #[.val (.int p0), .unset] []) _
      refine Go.step (fun _ => XS.bipush X0.here hx rfl (hb hby d10_8)) ?_
      show Go p e below s₁ (mkF m 10 #[.val (.int p0), .unset] [(.int (32 : Int32))]) _
      refine Go.step (fun _ => XS.goto X0.here hx rfl (pc0 := 10) (pc' := 14) rfl (hb hby d10_10) (by decide) (by decide)) ?_
      show Go p e below s₁ (mkF m 14 #[.val (.int p0), .unset] [(.int (32 : Int32))]) _
      refine Go.retI X0 hx hret hlk (hb hby d10_14) ?_ (by decide) (by decide)
      refine ⟨?_, N0, e0⟩
      show _ = some (Value.int (if p0 > 0 then _ else if p0 = 0 then 32 else 0))
      rw [if_neg (show ¬ p0 > 0 from hp), if_pos hc5]
    · skip
      refine Go.step (fun _ => XS.ifYes X0.here hx rfl (pc0 := 5) (pc' := 13) rfl (hb hby d10_5) rfl ((if0 _ _).trans (feq hc5).2) (by decide) (by decide)) ?_
      show Go p e below s₁ (mkF m 13 #[.val (.int p0), .unset] []) _
      refine Go.step (fun _ => XS.iconst X0.here hx rfl (hb hby d10_13)) ?_
      show Go p e below s₁ (mkF m 14 #[.val (.int p0), .unset] [(.int (0 : Int32))]) _
      refine Go.retI X0 hx hret hlk (hb hby d10_14) ?_ (by decide) (by decide)
      refine ⟨?_, N0, e0⟩
      show _ = some (Value.int (if p0 > 0 then _ else if p0 = 0 then 32 else 0))
      rw [if_neg (show ¬ p0 > 0 from hp), if_neg hc5]
theorem d9_0 : decode jdk_35_method_48_code 0 = .ok (.lload_n 0, 1) := by decide +kernel
theorem d9_1 : decode jdk_35_method_48_code 1 = .ok (.bipush 32, 2) := by decide +kernel
theorem d9_3 : decode jdk_35_method_48_code 3 = .ok (.lushr, 1) := by decide +kernel
theorem d9_4 : decode jdk_35_method_48_code 4 = .ok (.l2i, 1) := by decide +kernel
theorem d9_5 : decode jdk_35_method_48_code 5 = .ok (.istore_n 2, 1) := by decide +kernel
theorem d9_6 : decode jdk_35_method_48_code 6 = .ok (.iload_n 2, 1) := by decide +kernel
theorem d9_7 : decode jdk_35_method_48_code 7 = .ok (.ifCond .ne 14, 3) := by decide +kernel
theorem d9_10 : decode jdk_35_method_48_code 10 = .ok (.bipush 32, 2) := by decide +kernel
theorem d9_12 : decode jdk_35_method_48_code 12 = .ok (.lload_n 0, 1) := by decide +kernel
theorem d9_13 : decode jdk_35_method_48_code 13 = .ok (.l2i, 1) := by decide +kernel
theorem d9_14 : decode jdk_35_method_48_code 14 = .ok (.invokestatic 308, 3) := by decide +kernel
theorem d9_17 : decode jdk_35_method_48_code 17 = .ok (.iadd, 1) := by decide +kernel
theorem d9_18 : decode jdk_35_method_48_code 18 = .ok (.goto 7, 3) := by decide +kernel
theorem d9_21 : decode jdk_35_method_48_code 21 = .ok (.iload_n 2, 1) := by decide +kernel
theorem d9_22 : decode jdk_35_method_48_code 22 = .ok (.invokestatic 308, 3) := by decide +kernel
theorem d9_25 : decode jdk_35_method_48_code 25 = .ok (.ireturn, 1) := by decide +kernel
theorem pn_1 : plainName "java/lang/Long" = true := by first | (simp [plainName, overriddenIn]; done) | decide +kernel
theorem pd_0 : parseMethodDescriptor "(I)I" = some ⟨[.int], some .int⟩ := by decide +kernel
theorem ef_rmN64 (m : MethodId) (x0 : Int64) : entryFrame m #[(.long x0)] 3 = mkF m 0 #[.val (.long x0), .second, .unset] [] := by first | (simp [entryFrame, mkF, argsToLocals, Value.category]; done) | rfl
def QN64 (Z : State) (q0 : Int64) (h0 : Heap) (n0 : Nat) (v : Option Value) (h : Heap) (L : List Loc) : Prop := v = some (.int (nlz64 q0)) ∧ Fr n0 L ∧ h = h0
set_option maxRecDepth 65536 in
set_option maxHeartbeats 40000000 in
theorem rmN64 (l : Launch) (Z : State) (a0 : Array Value) (hw : ∀ d ∈ tables_1, d.before a0 Z = true) (ws : List Jvm.Cond) (q0 : Int64) (h0 : Heap) (n0 : Nat) (Z0 : n0 ≤ h0.size)  :
    MetFree l (⟨"java/lang/Long", "numberOfLeadingZeros", "(J)I"⟩ : MethodName) (head1 (Jvm.Cond.code (⟨"java/lang/Long", "numberOfLeadingZeros", "(J)I"⟩ : MethodName) jdk_35_method_48_code 3 (some .int) :: ws) ({ frames := 1, cells := 0, slots := 0, locals := 20 } : Room)) (fun as' U => as' = #[(.long q0)] ∧ Z.Warmed39 U.vm ∧ U.heap = h0) (fun _ _ _ _ _ => True) (fun _ U o U' => ∃ v L, o = .returned v ∧ QN64 Z q0 h0 n0 v U'.heap L ∧ FrameEnd U o U' L ({ frames := 1, cells := 0, slots := 0, locals := 20 } : Room).cells ({ frames := 1, cells := 0, slots := 0, locals := 20 } : Room).slots) := by
  refine MetFree.of_bodySF (plainFor_of_name pn_1) hisR ?_
  intro p e s m args below meth c s₁ Bd hml0 hP hK
  obtain ⟨rfl, hZ, hh⟩ := hP
  have hx := Bd.exec
  have hby := Bd.bytes
  have hml : c.maxLocals = 3 := hml0
  have hown : s.vm.findClass "java/lang/Long" = some m.cls := findClass_of_methodNamed Bd.named
  have hnm := (name_of_methodNamed Bd.named Bd.method).1
  have hlk : meth.locks = false := Bd.notSynchronized
  have hret := Bd.returns
  have X0 : Stand p l e ({ frames := 1, cells := 0, slots := 0, locals := 20 } : Room) s m #[(.long q0)] below meth c s₁ [] 0 0 := Stand.of_body Bd
  have e0 : s₁.heap = h0 := by rw [← hh, Bd.state]; rfl
  have N0 := Fr.nil n0
  show Go p e below s₁ (entryFrame m #[(.long q0)] 3) (Fin s (QN64 Z q0 h0 n0) ({ frames := 1, cells := 0, slots := 0, locals := 20 } : Room).cells ({ frames := 1, cells := 0, slots := 0, locals := 20 } : Room).slots)
  rw [ef_rmN64]
  show Go p e below s₁ (mkF m 0 #[.val (.long q0), .second, .unset] []) _
  refine Go.step (fun _ => XS.lloadN X0.here hx rfl (hb hby d9_0) rfl ) ?_
  show Go p e below s₁ (mkF m 1 #[.val (.long q0), .second, .unset] [(.long q0)]) _
  refine Go.step (fun _ => XS.bipush X0.here hx rfl (hb hby d9_1)) ?_
  show Go p e below s₁ (mkF m 3 #[.val (.long q0), .second, .unset] [(.int (32 : Int32)), (.long q0)]) _
  refine Go.step (fun _ => XS.lushr X0.here hx rfl (hb hby d9_3) rfl) ?_
  show Go p e below s₁ (mkF m 4 #[.val (.long q0), .second, .unset] [(.long ((q0.toUInt64 >>> ((32 : Int32) &&& 0x3f).toInt64.toUInt64).toInt64))]) _
  refine Go.step (fun _ => XS.l2i X0.here hx rfl (hb hby d9_4) rfl) ?_
  show Go p e below s₁ (mkF m 5 #[.val (.long q0), .second, .unset] [(.int (hi32 q0))]) _
  show Go p e below s₁ (mkF m 5 #[.val (.long q0), .second, .unset] [(.int (hi32 q0))]) _
  refine Go.step (fun _ => XS.istoreN X0.here hx rfl (hb hby d9_5) rfl (l' := #[.val (.long q0), .second, .val (.int (hi32 q0))]) rfl) ?_
  show Go p e below s₁ (mkF m 6 #[.val (.long q0), .second, .val (.int (hi32 q0))] []) _
  refine Go.step (fun _ => XS.iloadN X0.here hx rfl (hb hby d9_6) rfl ) ?_
  show Go p e below s₁ (mkF m 7 #[.val (.long q0), .second, .val (.int (hi32 q0))] [(.int (hi32 q0))]) _
  by_cases hc7 : (hi32 q0) = (0 : Int32)
  · skip
    refine Go.step (fun _ => XS.ifNo X0.here hx rfl (hb hby d9_7) rfl ((if0 _ _).trans (teq hc7).2)) ?_
    show Go p e below s₁ (mkF m 10 #[.val (.long q0), .second, .val (.int (hi32 q0))] []) _
    refine Go.step (fun _ => XS.bipush X0.here hx rfl (hb hby d9_10)) ?_
    show Go p e below s₁ (mkF m 12 #[.val (.long q0), .second, .val (.int (hi32 q0))] [(.int (32 : Int32))]) _
    refine Go.step (fun _ => XS.lloadN X0.here hx rfl (hb hby d9_12) rfl ) ?_
    show Go p e below s₁ (mkF m 13 #[.val (.long q0), .second, .val (.int (hi32 q0))] [(.long q0), (.int (32 : Int32))]) _
    refine Go.step (fun _ => XS.l2i X0.here hx rfl (hb hby d9_13) rfl) ?_
    show Go p e below s₁ (mkF m 14 #[.val (.long q0), .second, .val (.int (hi32 q0))] [(.int (q0.toInt32)), (.int (32 : Int32))]) _
    obtain ⟨_, _, ⟨T1, L1, k1, n1⟩, -, X1, ⟨Lc1, hQ1, l1, y1, z1⟩, st1⟩ := Jvm.LawKit.callS X0 hx (y := (⟨"java/lang/Integer", "numberOfLeadingZeros", "(I)I"⟩ : MethodName)) hown (mvT hZ (hw _ (List.mem_of_getElem? (i := 48) rfl))) (mvT hZ (hw _ (List.mem_of_getElem? (i := 49) rfl))) (mvT hZ (hw _ (List.mem_of_getElem? (i := 50) rfl))) (mvT hZ (hw _ (List.mem_of_getElem? (i := 51) rfl))) (by decide) (backOf (W := 1) (rmN32 l Z a0 hw [] (q0.toInt32) h0 n0 Z0) hZ (hw _ (List.mem_of_getElem? (i := 51) rfl)) (hw _ (List.mem_of_getElem? (i := 50) rfl)) (by decide) (by decide)) (g := (mkF m 14 #[.val (.long q0), .second, .val (.int (hi32 q0))] [(.int (q0.toInt32)), (.int (32 : Int32))])) rfl (by rw [hml]; rfl) (argsL := [(.int (q0.toInt32))]) (rest := [(.int (32 : Int32))]) (lenOf pd_0 rfl) rfl (by show 2 * 0 + _ ≤ _; exact Nat.le_of_eq rfl) (hb hby d9_14) (fun _ _ => ⟨rfl, e0, (by decide : 0 + 0 ≤ _), (by decide : 0 + 0 ≤ _)⟩)
    dsimp only [Pt.U, Pt.locs, Pt.cells, Pt.slots] at X1 l1 y1 z1 st1 hQ1
    subst l1 y1 z1
    obtain ⟨rfl, Nq1, eh1⟩ := hQ1
    have N1 := Fr.app N0 Nq1
    refine Go.step st1 ?_
    show Go p e below T1 (mkF m 17 #[.val (.long q0), .second, .val (.int (hi32 q0))] [(.int (nlz32 (q0.toInt32))), (.int (32 : Int32))]) _
    refine Go.step (fun _ => XS.iadd X1.here hx rfl (hb hby d9_17) rfl) ?_
    show Go p e below T1 (mkF m 18 #[.val (.long q0), .second, .val (.int (hi32 q0))] [(.int ((32 : Int32) + (nlz32 (q0.toInt32))))]) _
    refine Go.step (fun _ => XS.goto X1.here hx rfl (pc0 := 18) (pc' := 25) rfl (hb hby d9_18) (by decide) (by decide)) ?_
    show Go p e below T1 (mkF m 25 #[.val (.long q0), .second, .val (.int (hi32 q0))] [(.int ((32 : Int32) + (nlz32 (q0.toInt32))))]) _
    refine Go.retI X1 hx hret hlk (hb hby d9_25) ?_ (by decide) (by decide)
    exact ⟨by rw [nlz64, if_pos hc7], N1, eh1⟩
  · skip
    refine Go.step (fun _ => XS.ifYes X0.here hx rfl (pc0 := 7) (pc' := 21) rfl (hb hby d9_7) rfl ((if0 _ _).trans (feq hc7).2) (by decide) (by decide)) ?_
    show Go p e below s₁ (mkF m 21 #[.val (.long q0), .second, .val (.int (hi32 q0))] []) _
    refine Go.step (fun _ => XS.iloadN X0.here hx rfl (hb hby d9_21) rfl ) ?_
    show Go p e below s₁ (mkF m 22 #[.val (.long q0), .second, .val (.int (hi32 q0))] [(.int (hi32 q0))]) _
    obtain ⟨_, _, ⟨T2, L2, k2, n2⟩, -, X2, ⟨Lc2, hQ2, l2, y2, z2⟩, st2⟩ := Jvm.LawKit.callS X0 hx (y := (⟨"java/lang/Integer", "numberOfLeadingZeros", "(I)I"⟩ : MethodName)) hown (mvT hZ (hw _ (List.mem_of_getElem? (i := 48) rfl))) (mvT hZ (hw _ (List.mem_of_getElem? (i := 49) rfl))) (mvT hZ (hw _ (List.mem_of_getElem? (i := 50) rfl))) (mvT hZ (hw _ (List.mem_of_getElem? (i := 51) rfl))) (by decide) (backOf (W := 0) (rmN32 l Z a0 hw [] (hi32 q0) h0 n0 Z0) hZ (hw _ (List.mem_of_getElem? (i := 51) rfl)) (hw _ (List.mem_of_getElem? (i := 50) rfl)) (by decide) (by decide)) (g := (mkF m 22 #[.val (.long q0), .second, .val (.int (hi32 q0))] [(.int (hi32 q0))])) rfl (by rw [hml]; rfl) (argsL := [(.int (hi32 q0))]) (rest := []) (lenOf pd_0 rfl) rfl (by show 2 * 0 + _ ≤ _; exact Nat.le_of_eq rfl) (hb hby d9_22) (fun _ _ => ⟨rfl, e0, (by decide : 0 + 0 ≤ _), (by decide : 0 + 0 ≤ _)⟩)
    dsimp only [Pt.U, Pt.locs, Pt.cells, Pt.slots] at X2 l2 y2 z2 st2 hQ2
    subst l2 y2 z2
    obtain ⟨rfl, Nq2, eh2⟩ := hQ2
    have N2 := Fr.app N0 Nq2
    refine Go.step st2 ?_
    show Go p e below T2 (mkF m 25 #[.val (.long q0), .second, .val (.int (hi32 q0))] [(.int (nlz32 (hi32 q0)))]) _
    refine Go.retI X2 hx hret hlk (hb hby d9_25) ?_ (by decide) (by decide)
    exact ⟨by rw [nlz64, if_neg hc7], N2, eh2⟩
theorem d8_0 : decode prog_61_method_5_code 0 = .ok (.bipush 63, 2) := by decide +kernel
theorem d8_2 : decode prog_61_method_5_code 2 = .ok (.lload_n 0, 1) := by decide +kernel
theorem d8_3 : decode prog_61_method_5_code 3 = .ok (.invokestatic 27, 3) := by decide +kernel
theorem d8_6 : decode prog_61_method_5_code 6 = .ok (.isub, 1) := by decide +kernel
theorem d8_7 : decode prog_61_method_5_code 7 = .ok (.ireturn, 1) := by decide +kernel
theorem pn_2 : plainName "com/example/maxhue/maxhue/PointSet" = true := by first | (simp [plainName, overriddenIn]; done) | decide +kernel
theorem pd_1 : parseMethodDescriptor "(J)I" = some ⟨[.long], some .int⟩ := by decide +kernel
theorem ef_rmLB (m : MethodId) (x0 : Int64) : entryFrame m #[(.long x0)] 2 = mkF m 0 #[.val (.long x0), .second] [] := by first | (simp [entryFrame, mkF, argsToLocals, Value.category]; done) | rfl
def QLB (Z : State) (q0 : Int64) (h0 : Heap) (n0 : Nat) (v : Option Value) (h : Heap) (L : List Loc) : Prop := v = some (.int ((63 : Int32) - nlz64 q0)) ∧ Fr n0 L ∧ h = h0
set_option maxRecDepth 65536 in
set_option maxHeartbeats 40000000 in
theorem rmLB (l : Launch) (Z : State) (a0 : Array Value) (hw : ∀ d ∈ tables_1, d.before a0 Z = true) (ws : List Jvm.Cond) (q0 : Int64) (h0 : Heap) (n0 : Nat) (Z0 : n0 ≤ h0.size)  :
    MetFree l (⟨"com/example/maxhue/maxhue/PointSet", "lastBit", "(J)I"⟩ : MethodName) (head1 (Jvm.Cond.code (⟨"com/example/maxhue/maxhue/PointSet", "lastBit", "(J)I"⟩ : MethodName) prog_61_method_5_code 2 (some .int) :: ws) ({ frames := 2, cells := 0, slots := 0, locals := 40 } : Room)) (fun as' U => as' = #[(.long q0)] ∧ Z.Warmed39 U.vm ∧ U.heap = h0) (fun _ _ _ _ _ => True) (fun _ U o U' => ∃ v L, o = .returned v ∧ QLB Z q0 h0 n0 v U'.heap L ∧ FrameEnd U o U' L ({ frames := 2, cells := 0, slots := 0, locals := 40 } : Room).cells ({ frames := 2, cells := 0, slots := 0, locals := 40 } : Room).slots) := by
  refine MetFree.of_bodySF (plainFor_of_name pn_2) hisR ?_
  intro p e s m args below meth c s₁ Bd hml0 hP hK
  obtain ⟨rfl, hZ, hh⟩ := hP
  have hx := Bd.exec
  have hby := Bd.bytes
  have hml : c.maxLocals = 2 := hml0
  have hown : s.vm.findClass "com/example/maxhue/maxhue/PointSet" = some m.cls := findClass_of_methodNamed Bd.named
  have hnm := (name_of_methodNamed Bd.named Bd.method).1
  have hlk : meth.locks = false := Bd.notSynchronized
  have hret := Bd.returns
  have X0 : Stand p l e ({ frames := 2, cells := 0, slots := 0, locals := 40 } : Room) s m #[(.long q0)] below meth c s₁ [] 0 0 := Stand.of_body Bd
  have e0 : s₁.heap = h0 := by rw [← hh, Bd.state]; rfl
  have N0 := Fr.nil n0
  show Go p e below s₁ (entryFrame m #[(.long q0)] 2) (Fin s (QLB Z q0 h0 n0) ({ frames := 2, cells := 0, slots := 0, locals := 40 } : Room).cells ({ frames := 2, cells := 0, slots := 0, locals := 40 } : Room).slots)
  rw [ef_rmLB]
  show Go p e below s₁ (mkF m 0 #[.val (.long q0), .second] []) _
  refine Go.step (fun _ => XS.bipush X0.here hx rfl (hb hby d8_0)) ?_
  show Go p e below s₁ (mkF m 2 #[.val (.long q0), .second] [(.int (63 : Int32))]) _
  refine Go.step (fun _ => XS.lloadN X0.here hx rfl (hb hby d8_2) rfl ) ?_
  show Go p e below s₁ (mkF m 3 #[.val (.long q0), .second] [(.long q0), (.int (63 : Int32))]) _
  obtain ⟨_, _, ⟨T3, L3, k3, n3⟩, -, X3, ⟨Lc3, hQ3, l3, y3, z3⟩, st3⟩ := Jvm.LawKit.callS X0 hx (y := (⟨"java/lang/Long", "numberOfLeadingZeros", "(J)I"⟩ : MethodName)) hown (mvT hZ (hw _ (List.mem_of_getElem? (i := 44) rfl))) (mvT hZ (hw _ (List.mem_of_getElem? (i := 45) rfl))) (mvT hZ (hw _ (List.mem_of_getElem? (i := 46) rfl))) (mvT hZ (hw _ (List.mem_of_getElem? (i := 47) rfl))) (by decide) (backOf (W := 1) (rmN64 l Z a0 hw [] q0 h0 n0 Z0) hZ (hw _ (List.mem_of_getElem? (i := 47) rfl)) (hw _ (List.mem_of_getElem? (i := 46) rfl)) (by decide) (by decide)) (g := (mkF m 3 #[.val (.long q0), .second] [(.long q0), (.int (63 : Int32))])) rfl (by rw [hml]; rfl) (argsL := [(.long q0)]) (rest := [(.int (63 : Int32))]) (lenOf pd_1 rfl) rfl (by show 2 * 0 + _ ≤ _; exact Nat.le_of_eq rfl) (hb hby d8_3) (fun _ _ => ⟨rfl, e0, (by decide : 0 + 0 ≤ _), (by decide : 0 + 0 ≤ _)⟩)
  dsimp only [Pt.U, Pt.locs, Pt.cells, Pt.slots] at X3 l3 y3 z3 st3 hQ3
  subst l3 y3 z3
  obtain ⟨rfl, Nq3, eh3⟩ := hQ3
  have N3 := Fr.app N0 Nq3
  refine Go.step st3 ?_
  show Go p e below T3 (mkF m 6 #[.val (.long q0), .second] [(.int (nlz64 q0)), (.int (63 : Int32))]) _
  refine Go.step (fun _ => XS.isub X3.here hx rfl (hb hby d8_6) rfl) ?_
  show Go p e below T3 (mkF m 7 #[.val (.long q0), .second] [(.int ((63 : Int32) - (nlz64 q0)))]) _
  refine Go.retI X3 hx hret hlk (hb hby d8_7) ?_ (by decide) (by decide)
  exact ⟨rfl, N3, eh3⟩
theorem d1_0 : decode prog_61_method_1_code 0 = .ok (.aload_n 0, 1) := by decide +kernel
theorem d1_1 : decode prog_61_method_1_code 1 = .ok (.invokespecial 1, 3) := by decide +kernel
theorem d1_4 : decode prog_61_method_1_code 4 = .ok (.iconst 1, 1) := by decide +kernel
theorem d1_5 : decode prog_61_method_1_code 5 = .ok (.istore_n 2, 1) := by decide +kernel
theorem d1_6 : decode prog_61_method_1_code 6 = .ok (.iload_n 1, 1) := by decide +kernel
theorem d1_7 : decode prog_61_method_1_code 7 = .ok (.istore_n 3, 1) := by decide +kernel
theorem d1_8 : decode prog_61_method_1_code 8 = .ok (.iload_n 3, 1) := by decide +kernel
theorem d1_9 : decode prog_61_method_1_code 9 = .ok (.bipush 64, 2) := by decide +kernel
theorem d1_11 : decode prog_61_method_1_code 11 = .ok (.if_icmp .le 17, 3) := by decide +kernel
theorem d1_14 : decode prog_61_method_1_code 14 = .ok (.iinc 2 1, 3) := by decide +kernel
theorem d1_17 : decode prog_61_method_1_code 17 = .ok (.iload_n 3, 1) := by decide +kernel
theorem d1_18 : decode prog_61_method_1_code 18 = .ok (.bipush 63, 2) := by decide +kernel
theorem d1_20 : decode prog_61_method_1_code 20 = .ok (.iadd, 1) := by decide +kernel
theorem d1_21 : decode prog_61_method_1_code 21 = .ok (.bipush 64, 2) := by decide +kernel
theorem d1_23 : decode prog_61_method_1_code 23 = .ok (.idiv, 1) := by decide +kernel
theorem d1_24 : decode prog_61_method_1_code 24 = .ok (.istore_n 3, 1) := by decide +kernel
theorem d1_25 : decode prog_61_method_1_code 25 = .ok (.goto (-17), 3) := by decide +kernel
theorem d1_28 : decode prog_61_method_1_code 28 = .ok (.aload_n 0, 1) := by decide +kernel
theorem d1_29 : decode prog_61_method_1_code 29 = .ok (.iload_n 2, 1) := by decide +kernel
theorem d1_30 : decode prog_61_method_1_code 30 = .ok (.anewarray 7, 3) := by decide +kernel
theorem d1_33 : decode prog_61_method_1_code 33 = .ok (.putfield 9, 3) := by decide +kernel
theorem d1_36 : decode prog_61_method_1_code 36 = .ok (.iload_n 1, 1) := by decide +kernel
theorem d1_37 : decode prog_61_method_1_code 37 = .ok (.istore_n 3, 1) := by decide +kernel
theorem d1_38 : decode prog_61_method_1_code 38 = .ok (.iconst 0, 1) := by decide +kernel
theorem d1_39 : decode prog_61_method_1_code 39 = .ok (.istore 4, 2) := by decide +kernel
theorem d1_41 : decode prog_61_method_1_code 41 = .ok (.iload 4, 2) := by decide +kernel
theorem d1_43 : decode prog_61_method_1_code 43 = .ok (.iload_n 2, 1) := by decide +kernel
theorem d1_44 : decode prog_61_method_1_code 44 = .ok (.if_icmp .ge 37, 3) := by decide +kernel
theorem d1_47 : decode prog_61_method_1_code 47 = .ok (.aload_n 0, 1) := by decide +kernel
theorem d1_48 : decode prog_61_method_1_code 48 = .ok (.getfield 9, 3) := by decide +kernel
theorem d1_51 : decode prog_61_method_1_code 51 = .ok (.iload 4, 2) := by decide +kernel
theorem d1_53 : decode prog_61_method_1_code 53 = .ok (.iconst 1, 1) := by decide +kernel
theorem d1_54 : decode prog_61_method_1_code 54 = .ok (.iload_n 3, 1) := by decide +kernel
theorem d1_55 : decode prog_61_method_1_code 55 = .ok (.bipush 63, 2) := by decide +kernel
theorem d1_57 : decode prog_61_method_1_code 57 = .ok (.iadd, 1) := by decide +kernel
theorem d1_58 : decode prog_61_method_1_code 58 = .ok (.bipush 64, 2) := by decide +kernel
theorem d1_60 : decode prog_61_method_1_code 60 = .ok (.idiv, 1) := by decide +kernel
theorem d1_61 : decode prog_61_method_1_code 61 = .ok (.invokestatic 15, 3) := by decide +kernel
theorem d1_64 : decode prog_61_method_1_code 64 = .ok (.newarray .long, 2) := by decide +kernel
theorem d1_66 : decode prog_61_method_1_code 66 = .ok (.aastore, 1) := by decide +kernel
theorem d1_67 : decode prog_61_method_1_code 67 = .ok (.iload_n 3, 1) := by decide +kernel
theorem d1_68 : decode prog_61_method_1_code 68 = .ok (.bipush 63, 2) := by decide +kernel
theorem d1_70 : decode prog_61_method_1_code 70 = .ok (.iadd, 1) := by decide +kernel
theorem d1_71 : decode prog_61_method_1_code 71 = .ok (.bipush 64, 2) := by decide +kernel
theorem d1_73 : decode prog_61_method_1_code 73 = .ok (.idiv, 1) := by decide +kernel
theorem d1_74 : decode prog_61_method_1_code 74 = .ok (.istore_n 3, 1) := by decide +kernel
theorem d1_75 : decode prog_61_method_1_code 75 = .ok (.iinc 4 1, 3) := by decide +kernel
theorem d1_78 : decode prog_61_method_1_code 78 = .ok (.goto (-37), 3) := by decide +kernel
theorem d1_81 : decode prog_61_method_1_code 81 = .ok (.return_, 1) := by decide +kernel
theorem pd_2 : parseMethodDescriptor "(II)I" = some ⟨[.int, .int], some .int⟩ := by decide +kernel
theorem ef_rmCtor (m : MethodId) (x0 : Addr) (x1 : Int32) : entryFrame m #[(.ref x0), (.int x1)] 5 = mkF m 0 #[.val (.ref x0), .val (.int x1), .unset, .unset, .unset] [] := by first | (simp [entryFrame, mkF, argsToLocals, Value.category]; done) | rfl
def QCtor (Z : State) (a1 : Addr) (N : Nat) (h0 : Heap) (n0 : Nat) (v : Option Value) (h : Heap) (L : List Loc) : Prop := v = none ∧ Fr n0 L ∧ n0 ≤ h.size ∧ ∃ A M lv, 1 ≤ M ∧ M ≤ 3 ∧ Tree Z h n0 a1 A M lv (szN N) (fun _ _ => 0) ∧ ∀ P, P / 64 < szN N (M - 1) → P / 64 = 0
set_option maxRecDepth 65536 in
set_option maxHeartbeats 40000000 in
theorem rmCtor (l : Launch) (Z : State) (a0 : Array Value) (hw : ∀ d ∈ tables_1, d.before a0 Z = true) (ws : List Jvm.Cond) (a1 : Addr) (N : Nat) (h0 : Heap) (n0 : Nat) (Z0 : n0 ≤ h0.size) (hN1 : 1 ≤ N) (hNb : N ≤ 8192) (E1 : Exa Z h0 a1 "com/example/maxhue/maxhue/PointSet") (F1 : Fld Z h0 a1 "com/example/maxhue/maxhue/PointSet" "levels" "[[J" .null) (g1 : n0 ≤ a1) :
    MetFree l (⟨"com/example/maxhue/maxhue/PointSet", "<init>", "(I)V"⟩ : MethodName) (head1 (Jvm.Cond.code (⟨"com/example/maxhue/maxhue/PointSet", "<init>", "(I)V"⟩ : MethodName) prog_61_method_1_code 5 none :: ws) ({ frames := 1, cells := 4, slots := 134, locals := 20 } : Room)) (fun as' U => as' = #[(.ref a1), (.int (Int32.ofNat N))] ∧ Z.Warmed39 U.vm ∧ U.heap = h0) (fun _ _ _ _ _ => True) (fun _ U o U' => ∃ v L, o = .returned v ∧ QCtor Z a1 N h0 n0 v U'.heap L ∧ FrameEnd U o U' L ({ frames := 1, cells := 4, slots := 134, locals := 20 } : Room).cells ({ frames := 1, cells := 4, slots := 134, locals := 20 } : Room).slots) := by
  refine MetFree.of_bodySF (plainFor_of_name pn_2) hisR ?_
  intro p e s m args below meth c s₁ Bd hml0 hP hK
  obtain ⟨rfl, hZ, hh⟩ := hP
  have hx := Bd.exec
  have hby := Bd.bytes
  have hml : c.maxLocals = 5 := hml0
  have hown : s.vm.findClass "com/example/maxhue/maxhue/PointSet" = some m.cls := findClass_of_methodNamed Bd.named
  have hnm := (name_of_methodNamed Bd.named Bd.method).1
  have hlk : meth.locks = false := Bd.notSynchronized
  have hret := Bd.returns
  have X0 : Stand p l e ({ frames := 1, cells := 4, slots := 134, locals := 20 } : Room) s m #[(.ref a1), (.int (Int32.ofNat N))] below meth c s₁ [] 0 0 := Stand.of_body Bd
  have e0 : s₁.heap = h0 := by rw [← hh, Bd.state]; rfl
  have N0 := Fr.nil n0
  show Go p e below s₁ (entryFrame m #[(.ref a1), (.int (Int32.ofNat N))] 5) (Fin s (QCtor Z a1 N h0 n0) ({ frames := 1, cells := 4, slots := 134, locals := 20 } : Room).cells ({ frames := 1, cells := 4, slots := 134, locals := 20 } : Room).slots)
  rw [ef_rmCtor]
  show Go p e below s₁ (mkF m 0 #[.val (.ref a1), .val (.int (Int32.ofNat N)), .unset, .unset, .unset] []) _
  refine Go.step (fun _ => XS.aloadN X0.here hx rfl (hb hby d1_0) rfl rfl ) ?_
  show Go p e below s₁ (mkF m 1 #[.val (.ref a1), .val (.int (Int32.ofNat N)), .unset, .unset, .unset] [(.ref a1)]) _
  obtain ⟨T4, X4, e4, st4⟩ := initO X0 hx hZ hown (hw _ (List.mem_of_getElem? (i := 8) rfl)) (hw _ (List.mem_of_getElem? (i := 9) rfl)) (hw _ (List.mem_of_getElem? (i := 10) rfl)) e0 (g := (mkF m 1 #[.val (.ref a1), .val (.int (Int32.ofNat N)), .unset, .unset, .unset] [(.ref a1)])) rfl (by rw [hml]; rfl) rfl (hb hby d1_1) (by decide) (W := 0) (by show 2 * 0 + _ ≤ _; exact Nat.le_of_eq rfl) (by decide)
  refine Go.step st4 ?_
  show Go p e below T4 (mkF m 4 #[.val (.ref a1), .val (.int (Int32.ofNat N)), .unset, .unset, .unset] []) _
  refine Go.step (fun _ => XS.iconst X4.here hx rfl (hb hby d1_4)) ?_
  show Go p e below T4 (mkF m 5 #[.val (.ref a1), .val (.int (Int32.ofNat N)), .unset, .unset, .unset] [(.int (1 : Int32))]) _
  refine Go.step (fun _ => XS.istoreN X4.here hx rfl (hb hby d1_5) rfl (l' := #[.val (.ref a1), .val (.int (Int32.ofNat N)), .val (.int (1 : Int32)), .unset, .unset]) rfl) ?_
  show Go p e below T4 (mkF m 6 #[.val (.ref a1), .val (.int (Int32.ofNat N)), .val (.int (1 : Int32)), .unset, .unset] []) _
  refine Go.step (fun _ => XS.iloadN X4.here hx rfl (hb hby d1_6) rfl ) ?_
  show Go p e below T4 (mkF m 7 #[.val (.ref a1), .val (.int (Int32.ofNat N)), .val (.int (1 : Int32)), .unset, .unset] [(.int (Int32.ofNat N))]) _
  refine Go.step (fun _ => XS.istoreN X4.here hx rfl (hb hby d1_7) rfl (l' := #[.val (.ref a1), .val (.int (Int32.ofNat N)), .val (.int (1 : Int32)), .val (.int (Int32.ofNat N)), .unset]) rfl) ?_
  show Go p e below T4 (mkF m 8 #[.val (.ref a1), .val (.int (Int32.ofNat N)), .val (.int (1 : Int32)), .val (.int (Int32.ofNat N)), .unset] []) _
  refine Go.step (fun _ => XS.iloadN X4.here hx rfl (hb hby d1_8) rfl ) ?_
  show Go p e below T4 (mkF m 9 #[.val (.ref a1), .val (.int (Int32.ofNat N)), .val (.int (1 : Int32)), .val (.int (Int32.ofNat N)), .unset] [(.int (Int32.ofNat N))]) _
  refine Go.step (fun _ => XS.bipush X4.here hx rfl (hb hby d1_9)) ?_
  show Go p e below T4 (mkF m 11 #[.val (.ref a1), .val (.int (Int32.ofNat N)), .val (.int (1 : Int32)), .val (.int (Int32.ofNat N)), .unset] [(.int (64 : Int32)), (.int (Int32.ofNat N))]) _
  by_cases hb0 : (64 : Int32) < (Int32.ofNat N)
  · skip
    refine Go.step (fun _ => XS.icmpNo X4.here hx rfl (hb hby d1_11) rfl (tlt hb0).2.2.2) ?_
    show Go p e below T4 (mkF m 14 #[.val (.ref a1), .val (.int (Int32.ofNat N)), .val (.int (1 : Int32)), .val (.int (Int32.ofNat N)), .unset] []) _
    refine Go.step (fun _ => XS.iinc X4.here hx rfl (hb hby d1_14) rfl (l' := #[.val (.ref a1), .val (.int (Int32.ofNat N)), .val (.int (2 : Int32)), .val (.int (Int32.ofNat N)), .unset]) rfl) ?_
    show Go p e below T4 (mkF m 17 #[.val (.ref a1), .val (.int (Int32.ofNat N)), .val (.int (2 : Int32)), .val (.int (Int32.ofNat N)), .unset] []) _
    refine Go.step (fun _ => XS.iloadN X4.here hx rfl (hb hby d1_17) rfl ) ?_
    show Go p e below T4 (mkF m 18 #[.val (.ref a1), .val (.int (Int32.ofNat N)), .val (.int (2 : Int32)), .val (.int (Int32.ofNat N)), .unset] [(.int (Int32.ofNat N))]) _
    refine Go.step (fun _ => XS.bipush X4.here hx rfl (hb hby d1_18)) ?_
    show Go p e below T4 (mkF m 20 #[.val (.ref a1), .val (.int (Int32.ofNat N)), .val (.int (2 : Int32)), .val (.int (Int32.ofNat N)), .unset] [(.int (63 : Int32)), (.int (Int32.ofNat N))]) _
    refine Go.step (fun _ => XS.iadd X4.here hx rfl (hb hby d1_20) rfl) ?_
    show Go p e below T4 (mkF m 21 #[.val (.ref a1), .val (.int (Int32.ofNat N)), .val (.int (2 : Int32)), .val (.int (Int32.ofNat N)), .unset] [(.int ((Int32.ofNat N) + (63 : Int32)))]) _
    refine Go.step (fun _ => XS.bipush X4.here hx rfl (hb hby d1_21)) ?_
    show Go p e below T4 (mkF m 23 #[.val (.ref a1), .val (.int (Int32.ofNat N)), .val (.int (2 : Int32)), .val (.int (Int32.ofNat N)), .unset] [(.int (64 : Int32)), (.int ((Int32.ofNat N) + (63 : Int32)))]) _
    refine Go.step (fun _ => XS.idiv X4.here hx rfl (hb hby d1_23) rfl (by decide)) ?_
    show Go p e below T4 (mkF m 24 #[.val (.ref a1), .val (.int (Int32.ofNat N)), .val (.int (2 : Int32)), .val (.int (Int32.ofNat N)), .unset] [(.int (((Int32.ofNat N) + (63 : Int32)) / (64 : Int32)))]) _
    rw [show (Int32.ofNat N + (63 : Int32)) / (64 : Int32) = Int32.ofNat (szN N 0) from own_div64 (by omega)]
    show Go p e below T4 (mkF m 24 #[.val (.ref a1), .val (.int (Int32.ofNat N)), .val (.int (2 : Int32)), .val (.int (Int32.ofNat N)), .unset] [(.int (Int32.ofNat (szN N 0)))]) _
    refine Go.step (fun _ => XS.istoreN X4.here hx rfl (hb hby d1_24) rfl (l' := #[.val (.ref a1), .val (.int (Int32.ofNat N)), .val (.int (2 : Int32)), .val (.int (Int32.ofNat (szN N 0))), .unset]) rfl) ?_
    show Go p e below T4 (mkF m 25 #[.val (.ref a1), .val (.int (Int32.ofNat N)), .val (.int (2 : Int32)), .val (.int (Int32.ofNat (szN N 0))), .unset] []) _
    refine Go.step (fun _ => XS.goto X4.here hx rfl (pc0 := 25) (pc' := 8) rfl (hb hby d1_25) (by decide) (by decide)) ?_
    show Go p e below T4 (mkF m 8 #[.val (.ref a1), .val (.int (Int32.ofNat N)), .val (.int (2 : Int32)), .val (.int (Int32.ofNat (szN N 0))), .unset] []) _
    refine Go.step (fun _ => XS.iloadN X4.here hx rfl (hb hby d1_8) rfl ) ?_
    show Go p e below T4 (mkF m 9 #[.val (.ref a1), .val (.int (Int32.ofNat N)), .val (.int (2 : Int32)), .val (.int (Int32.ofNat (szN N 0))), .unset] [(.int (Int32.ofNat (szN N 0)))]) _
    refine Go.step (fun _ => XS.bipush X4.here hx rfl (hb hby d1_9)) ?_
    show Go p e below T4 (mkF m 11 #[.val (.ref a1), .val (.int (Int32.ofNat N)), .val (.int (2 : Int32)), .val (.int (Int32.ofNat (szN N 0))), .unset] [(.int (64 : Int32)), (.int (Int32.ofNat (szN N 0)))]) _
    by_cases hb1 : (64 : Int32) < (Int32.ofNat (szN N 0))
    · skip
      refine Go.step (fun _ => XS.icmpNo X4.here hx rfl (hb hby d1_11) rfl (tlt hb1).2.2.2) ?_
      show Go p e below T4 (mkF m 14 #[.val (.ref a1), .val (.int (Int32.ofNat N)), .val (.int (2 : Int32)), .val (.int (Int32.ofNat (szN N 0))), .unset] []) _
      refine Go.step (fun _ => XS.iinc X4.here hx rfl (hb hby d1_14) rfl (l' := #[.val (.ref a1), .val (.int (Int32.ofNat N)), .val (.int (3 : Int32)), .val (.int (Int32.ofNat (szN N 0))), .unset]) rfl) ?_
      show Go p e below T4 (mkF m 17 #[.val (.ref a1), .val (.int (Int32.ofNat N)), .val (.int (3 : Int32)), .val (.int (Int32.ofNat (szN N 0))), .unset] []) _
      refine Go.step (fun _ => XS.iloadN X4.here hx rfl (hb hby d1_17) rfl ) ?_
      show Go p e below T4 (mkF m 18 #[.val (.ref a1), .val (.int (Int32.ofNat N)), .val (.int (3 : Int32)), .val (.int (Int32.ofNat (szN N 0))), .unset] [(.int (Int32.ofNat (szN N 0)))]) _
      refine Go.step (fun _ => XS.bipush X4.here hx rfl (hb hby d1_18)) ?_
      show Go p e below T4 (mkF m 20 #[.val (.ref a1), .val (.int (Int32.ofNat N)), .val (.int (3 : Int32)), .val (.int (Int32.ofNat (szN N 0))), .unset] [(.int (63 : Int32)), (.int (Int32.ofNat (szN N 0)))]) _
      refine Go.step (fun _ => XS.iadd X4.here hx rfl (hb hby d1_20) rfl) ?_
      show Go p e below T4 (mkF m 21 #[.val (.ref a1), .val (.int (Int32.ofNat N)), .val (.int (3 : Int32)), .val (.int (Int32.ofNat (szN N 0))), .unset] [(.int ((Int32.ofNat (szN N 0)) + (63 : Int32)))]) _
      refine Go.step (fun _ => XS.bipush X4.here hx rfl (hb hby d1_21)) ?_
      show Go p e below T4 (mkF m 23 #[.val (.ref a1), .val (.int (Int32.ofNat N)), .val (.int (3 : Int32)), .val (.int (Int32.ofNat (szN N 0))), .unset] [(.int (64 : Int32)), (.int ((Int32.ofNat (szN N 0)) + (63 : Int32)))]) _
      refine Go.step (fun _ => XS.idiv X4.here hx rfl (hb hby d1_23) rfl (by decide)) ?_
      show Go p e below T4 (mkF m 24 #[.val (.ref a1), .val (.int (Int32.ofNat N)), .val (.int (3 : Int32)), .val (.int (Int32.ofNat (szN N 0))), .unset] [(.int (((Int32.ofNat (szN N 0)) + (63 : Int32)) / (64 : Int32)))]) _
      rw [show (Int32.ofNat (szN N 0) + (63 : Int32)) / (64 : Int32) = Int32.ofNat (szN N 1) from own_div64 (by have := own_szLe (N := N) 0; omega)]
      show Go p e below T4 (mkF m 24 #[.val (.ref a1), .val (.int (Int32.ofNat N)), .val (.int (3 : Int32)), .val (.int (Int32.ofNat (szN N 0))), .unset] [(.int (Int32.ofNat (szN N 1)))]) _
      refine Go.step (fun _ => XS.istoreN X4.here hx rfl (hb hby d1_24) rfl (l' := #[.val (.ref a1), .val (.int (Int32.ofNat N)), .val (.int (3 : Int32)), .val (.int (Int32.ofNat (szN N 1))), .unset]) rfl) ?_
      show Go p e below T4 (mkF m 25 #[.val (.ref a1), .val (.int (Int32.ofNat N)), .val (.int (3 : Int32)), .val (.int (Int32.ofNat (szN N 1))), .unset] []) _
      refine Go.step (fun _ => XS.goto X4.here hx rfl (pc0 := 25) (pc' := 8) rfl (hb hby d1_25) (by decide) (by decide)) ?_
      show Go p e below T4 (mkF m 8 #[.val (.ref a1), .val (.int (Int32.ofNat N)), .val (.int (3 : Int32)), .val (.int (Int32.ofNat (szN N 1))), .unset] []) _
      refine Go.step (fun _ => XS.iloadN X4.here hx rfl (hb hby d1_8) rfl ) ?_
      show Go p e below T4 (mkF m 9 #[.val (.ref a1), .val (.int (Int32.ofNat N)), .val (.int (3 : Int32)), .val (.int (Int32.ofNat (szN N 1))), .unset] [(.int (Int32.ofNat (szN N 1)))]) _
      refine Go.step (fun _ => XS.bipush X4.here hx rfl (hb hby d1_9)) ?_
      show Go p e below T4 (mkF m 11 #[.val (.ref a1), .val (.int (Int32.ofNat N)), .val (.int (3 : Int32)), .val (.int (Int32.ofNat (szN N 1))), .unset] [(.int (64 : Int32)), (.int (Int32.ofNat (szN N 1)))]) _
      refine Go.step (fun _ => XS.icmpYes X4.here hx rfl (pc0 := 11) (pc' := 28) rfl (hb hby d1_11) rfl (flt (fun q => by have z := (own_ltI (i := 64) (by decide) (by have := own_szLe (N := N) 1; omega)).mp q; simp only [szN] at z; omega)).2.2.2 (by decide) (by decide)) ?_
      show Go p e below T4 (mkF m 28 #[.val (.ref a1), .val (.int (Int32.ofNat N)), .val (.int (3 : Int32)), .val (.int (Int32.ofNat (szN N 1))), .unset] []) _
      refine Go.step (fun _ => XS.aloadN X4.here hx rfl (hb hby d1_28) rfl rfl ) ?_
      show Go p e below T4 (mkF m 29 #[.val (.ref a1), .val (.int (Int32.ofNat N)), .val (.int (3 : Int32)), .val (.int (Int32.ofNat (szN N 1))), .unset] [(.ref a1)]) _
      refine Go.step (fun _ => XS.iloadN X4.here hx rfl (hb hby d1_29) rfl ) ?_
      show Go p e below T4 (mkF m 30 #[.val (.ref a1), .val (.int (Int32.ofNat N)), .val (.int (3 : Int32)), .val (.int (Int32.ofNat (szN N 1))), .unset] [(.int (3 : Int32)), (.ref a1)]) _
      obtain ⟨T5, h5, k5, X5, e5, E5, A5, B5, O5, st5⟩ := newRA X4 hx hZ hown (C := "[J") (ty := .long) (by decide) (hw _ (List.mem_of_getElem? (i := 11) rfl)) (hw _ (List.mem_of_getElem? (i := 12) rfl)) e4 (g := (mkF m 30 #[.val (.ref a1), .val (.int (Int32.ofNat N)), .val (.int (3 : Int32)), .val (.int (Int32.ofNat (szN N 1))), .unset] [(.int (3 : Int32)), (.ref a1)])) rfl (hb hby d1_30) rfl (by decide) (cap := 3) (by decide) (by decide) (by decide) (by decide) (ad := "[[J") (by decide)
      obtain ⟨b5, g5⟩ : ∃ z, z = h0.size := ⟨_, rfl⟩
      rw [← g5] at A5 B5 st5
      have ne_a1_b5 : a1 ≠ b5 := Nat.ne_of_lt (Nat.lt_of_lt_of_le E1.lt (Nat.le_of_eq g5.symm))
      have g_b5 : n0 ≤ b5 := Nat.le_trans Z0 (Nat.le_of_eq g5.symm)
      have E1_q5 := E1.ext E5
      have F1_q5 := F1.ext E5
      have Z5 : n0 ≤ h5.size := Nat.le_trans Z0 E5.1
      refine Go.step st5 ?_
      have V_b5 : Arv Z h5 b5 k5 (.array .long) (3 : Int32) [.null, .null, .null] .null := (Arv.new A5 (by decide)).pad (pad_rep [] .null 3)
      have sl5 : ∀ j, szN N j ≤ N + 1 := fun j => own_szLe j
      show Go p e below T5 (mkF m 33 #[.val (.ref a1), .val (.int (Int32.ofNat N)), .val (.int (3 : Int32)), .val (.int (Int32.ofNat (szN N 1))), .unset] [(.ref b5), (.ref a1)]) _
      obtain ⟨T6, h6, X6, e6, W6, st6⟩ := putF X5 hx hZ hown (host := "") (Or.inl (hw _ (List.mem_of_getElem? (i := 13) rfl))) Via.refl e5 F1_q5 E1_q5 (Or.inr ⟨(hw _ (List.mem_of_getElem? (i := 14) rfl)), rfl, hnm⟩) (hw _ (List.mem_of_getElem? (i := 3) rfl)) (ty := (.array (.array .long))) (by decide) rfl rfl (g := (mkF m 33 #[.val (.ref a1), .val (.int (Int32.ofNat N)), .val (.int (3 : Int32)), .val (.int (Int32.ofNat (szN N 1))), .unset] [(.ref b5), (.ref a1)])) rfl rfl (hb hby d1_33)
      refine Go.step st6 ?_
      have N6 := Fr.snoc X6 N0 g1
      have F_levels_a1_q6 := F1_q5.same W6
      have E1_q6 := E1_q5.wr W6
      have V_b5_q6 := V_b5.other W6 (Ne.symm ne_a1_b5)
      have Z6 : n0 ≤ h6.size := by rw [W6.size]; exact Z5
      show Go p e below T6 (mkF m 36 #[.val (.ref a1), .val (.int (Int32.ofNat N)), .val (.int (3 : Int32)), .val (.int (Int32.ofNat (szN N 1))), .unset] []) _
      refine Go.step (fun _ => XS.iloadN X6.here hx rfl (hb hby d1_36) rfl ) ?_
      show Go p e below T6 (mkF m 37 #[.val (.ref a1), .val (.int (Int32.ofNat N)), .val (.int (3 : Int32)), .val (.int (Int32.ofNat (szN N 1))), .unset] [(.int (Int32.ofNat N))]) _
      refine Go.step (fun _ => XS.istoreN X6.here hx rfl (hb hby d1_37) rfl (l' := #[.val (.ref a1), .val (.int (Int32.ofNat N)), .val (.int (3 : Int32)), .val (.int (Int32.ofNat N)), .unset]) rfl) ?_
      show Go p e below T6 (mkF m 38 #[.val (.ref a1), .val (.int (Int32.ofNat N)), .val (.int (3 : Int32)), .val (.int (Int32.ofNat N)), .unset] []) _
      refine Go.step (fun _ => XS.iconst X6.here hx rfl (hb hby d1_38)) ?_
      show Go p e below T6 (mkF m 39 #[.val (.ref a1), .val (.int (Int32.ofNat N)), .val (.int (3 : Int32)), .val (.int (Int32.ofNat N)), .unset] [(.int (0 : Int32))]) _
      refine Go.step (fun _ => XS.istore X6.here hx rfl (hb hby d1_39) rfl (l' := #[.val (.ref a1), .val (.int (Int32.ofNat N)), .val (.int (3 : Int32)), .val (.int (Int32.ofNat N)), .val (.int (0 : Int32))]) rfl) ?_
      show Go p e below T6 (mkF m 41 #[.val (.ref a1), .val (.int (Int32.ofNat N)), .val (.int (3 : Int32)), .val (.int (Int32.ofNat N)), .val (.int (0 : Int32))] []) _
      refine Go.step (fun _ => XS.iload X6.here hx rfl (hb hby d1_41) rfl ) ?_
      show Go p e below T6 (mkF m 43 #[.val (.ref a1), .val (.int (Int32.ofNat N)), .val (.int (3 : Int32)), .val (.int (Int32.ofNat N)), .val (.int (0 : Int32))] [(.int (0 : Int32))]) _
      refine Go.step (fun _ => XS.iloadN X6.here hx rfl (hb hby d1_43) rfl ) ?_
      show Go p e below T6 (mkF m 44 #[.val (.ref a1), .val (.int (Int32.ofNat N)), .val (.int (3 : Int32)), .val (.int (Int32.ofNat N)), .val (.int (0 : Int32))] [(.int (3 : Int32)), (.int (0 : Int32))]) _
      refine Go.step (fun _ => XS.icmpNo X6.here hx rfl (hb hby d1_44) rfl (tlt (by decide)).2.1) ?_
      show Go p e below T6 (mkF m 47 #[.val (.ref a1), .val (.int (Int32.ofNat N)), .val (.int (3 : Int32)), .val (.int (Int32.ofNat N)), .val (.int (0 : Int32))] []) _
      refine Go.step (fun _ => XS.aloadN X6.here hx rfl (hb hby d1_47) rfl rfl ) ?_
      show Go p e below T6 (mkF m 48 #[.val (.ref a1), .val (.int (Int32.ofNat N)), .val (.int (3 : Int32)), .val (.int (Int32.ofNat N)), .val (.int (0 : Int32))] [(.ref a1)]) _
      obtain ⟨T7, X7, e7, st7⟩ := getF X6 hx hZ hown (host := "") (Or.inl (hw _ (List.mem_of_getElem? (i := 13) rfl))) Via.refl e6 F_levels_a1_q6 (g := (mkF m 48 #[.val (.ref a1), .val (.int (Int32.ofNat N)), .val (.int (3 : Int32)), .val (.int (Int32.ofNat N)), .val (.int (0 : Int32))] [(.ref a1)])) rfl rfl (hb hby d1_48)
      refine Go.step st7 ?_
      show Go p e below T7 (mkF m 51 #[.val (.ref a1), .val (.int (Int32.ofNat N)), .val (.int (3 : Int32)), .val (.int (Int32.ofNat N)), .val (.int (0 : Int32))] [(.ref b5)]) _
      refine Go.step (fun _ => XS.iload X7.here hx rfl (hb hby d1_51) rfl ) ?_
      show Go p e below T7 (mkF m 53 #[.val (.ref a1), .val (.int (Int32.ofNat N)), .val (.int (3 : Int32)), .val (.int (Int32.ofNat N)), .val (.int (0 : Int32))] [(.int (0 : Int32)), (.ref b5)]) _
      refine Go.step (fun _ => XS.iconst X7.here hx rfl (hb hby d1_53)) ?_
      show Go p e below T7 (mkF m 54 #[.val (.ref a1), .val (.int (Int32.ofNat N)), .val (.int (3 : Int32)), .val (.int (Int32.ofNat N)), .val (.int (0 : Int32))] [(.int (1 : Int32)), (.int (0 : Int32)), (.ref b5)]) _
      refine Go.step (fun _ => XS.iloadN X7.here hx rfl (hb hby d1_54) rfl ) ?_
      show Go p e below T7 (mkF m 55 #[.val (.ref a1), .val (.int (Int32.ofNat N)), .val (.int (3 : Int32)), .val (.int (Int32.ofNat N)), .val (.int (0 : Int32))] [(.int (Int32.ofNat N)), (.int (1 : Int32)), (.int (0 : Int32)), (.ref b5)]) _
      refine Go.step (fun _ => XS.bipush X7.here hx rfl (hb hby d1_55)) ?_
      show Go p e below T7 (mkF m 57 #[.val (.ref a1), .val (.int (Int32.ofNat N)), .val (.int (3 : Int32)), .val (.int (Int32.ofNat N)), .val (.int (0 : Int32))] [(.int (63 : Int32)), (.int (Int32.ofNat N)), (.int (1 : Int32)), (.int (0 : Int32)), (.ref b5)]) _
      refine Go.step (fun _ => XS.iadd X7.here hx rfl (hb hby d1_57) rfl) ?_
      show Go p e below T7 (mkF m 58 #[.val (.ref a1), .val (.int (Int32.ofNat N)), .val (.int (3 : Int32)), .val (.int (Int32.ofNat N)), .val (.int (0 : Int32))] [(.int ((Int32.ofNat N) + (63 : Int32))), (.int (1 : Int32)), (.int (0 : Int32)), (.ref b5)]) _
      refine Go.step (fun _ => XS.bipush X7.here hx rfl (hb hby d1_58)) ?_
      show Go p e below T7 (mkF m 60 #[.val (.ref a1), .val (.int (Int32.ofNat N)), .val (.int (3 : Int32)), .val (.int (Int32.ofNat N)), .val (.int (0 : Int32))] [(.int (64 : Int32)), (.int ((Int32.ofNat N) + (63 : Int32))), (.int (1 : Int32)), (.int (0 : Int32)), (.ref b5)]) _
      refine Go.step (fun _ => XS.idiv X7.here hx rfl (hb hby d1_60) rfl (by decide)) ?_
      show Go p e below T7 (mkF m 61 #[.val (.ref a1), .val (.int (Int32.ofNat N)), .val (.int (3 : Int32)), .val (.int (Int32.ofNat N)), .val (.int (0 : Int32))] [(.int (((Int32.ofNat N) + (63 : Int32)) / (64 : Int32))), (.int (1 : Int32)), (.int (0 : Int32)), (.ref b5)]) _
      rw [show (Int32.ofNat N + (63 : Int32)) / (64 : Int32) = Int32.ofNat (szN N 0) from own_div64 (by omega)]
      show Go p e below T7 (mkF m 61 #[.val (.ref a1), .val (.int (Int32.ofNat N)), .val (.int (3 : Int32)), .val (.int (Int32.ofNat N)), .val (.int (0 : Int32))] [(.int (Int32.ofNat (szN N 0))), (.int (1 : Int32)), (.int (0 : Int32)), (.ref b5)]) _
      obtain ⟨_, _, ⟨T8, L8, k8, n8⟩, -, X8, ⟨Lc8, hQ8, l8, y8, z8⟩, st8⟩ := Jvm.LawKit.callS X7 hx (y := (⟨"java/lang/Math", "max", "(II)I"⟩ : MethodName)) hown (mvT hZ (hw _ (List.mem_of_getElem? (i := 15) rfl))) (mvT hZ (hw _ (List.mem_of_getElem? (i := 16) rfl))) (mvT hZ (hw _ (List.mem_of_getElem? (i := 17) rfl))) (mvT hZ (hw _ (List.mem_of_getElem? (i := 18) rfl))) (by decide) (backOf (W := 2) (rmMx l Z a0 hw [] (1 : Int32) (Int32.ofNat (szN N 0)) (Int32.ofNat (szN N 0)) h6 n0 Z6 (own_mx1 (by simp only [szN]; omega) (by have := own_szLe (N := N) 0; omega))) hZ (hw _ (List.mem_of_getElem? (i := 18) rfl)) (hw _ (List.mem_of_getElem? (i := 17) rfl)) (by decide) (by decide)) (g := (mkF m 61 #[.val (.ref a1), .val (.int (Int32.ofNat N)), .val (.int (3 : Int32)), .val (.int (Int32.ofNat N)), .val (.int (0 : Int32))] [(.int (Int32.ofNat (szN N 0))), (.int (1 : Int32)), (.int (0 : Int32)), (.ref b5)])) rfl (by rw [hml]; rfl) (argsL := [(.int (1 : Int32)), (.int (Int32.ofNat (szN N 0)))]) (rest := [(.int (0 : Int32)), (.ref b5)]) (lenOf pd_2 rfl) rfl (by show 2 * 0 + _ ≤ _; exact Nat.le_of_eq rfl) (hb hby d1_61) (fun _ _ => ⟨rfl, e7, (by decide : 0 + 1 + 0 ≤ _), (by decide : 0 + 3 + 0 ≤ _)⟩)
      dsimp only [Pt.U, Pt.locs, Pt.cells, Pt.slots] at X8 l8 y8 z8 st8 hQ8
      subst l8 y8 z8
      obtain ⟨rfl, Nq8, eh8⟩ := hQ8
      have N8 := Fr.app N6 Nq8
      refine Go.step st8 ?_
      show Go p e below T8 (mkF m 64 #[.val (.ref a1), .val (.int (Int32.ofNat N)), .val (.int (3 : Int32)), .val (.int (Int32.ofNat N)), .val (.int (0 : Int32))] [(.int (Int32.ofNat (szN N 0))), (.int (0 : Int32)), (.ref b5)]) _
      obtain ⟨T9, h9, k9, X9, e9, E9, A9, B9, st9⟩ := newPE X8 hx hZ (hw _ (List.mem_of_getElem? (i := 19) rfl)) eh8 (g := (mkF m 64 #[.val (.ref a1), .val (.int (Int32.ofNat N)), .val (.int (3 : Int32)), .val (.int (Int32.ofNat N)), .val (.int (0 : Int32))] [(.int (Int32.ofNat (szN N 0))), (.int (0 : Int32)), (.ref b5)])) rfl (hb hby d1_64) rfl (own_nn (by have := own_szLe (N := N) 0; omega)) (cap := 128) (by rw [own_clamp (by have := own_szLe (N := N) 0; omega)]; simp only [szN]; omega) (by decide) (by decide) (by decide) (ad := "[J") (by decide)
      obtain ⟨b9, g9⟩ : ∃ z, z = h6.size := ⟨_, rfl⟩
      rw [← g9] at A9 B9 st9
      have ne_a1_b9 : a1 ≠ b9 := Nat.ne_of_lt (Nat.lt_of_lt_of_le E1_q6.lt (Nat.le_of_eq g9.symm))
      have ne_b5_b9 : b5 ≠ b9 := Nat.ne_of_lt (Nat.lt_of_lt_of_le V_b5_q6.lt (Nat.le_of_eq g9.symm))
      have g_b9 : n0 ≤ b9 := Nat.le_trans Z6 (Nat.le_of_eq g9.symm)
      have E1_q9 := E1_q6.ext E9
      have V_b5_q9 := V_b5_q6.ext E9
      have F_levels_a1_q9 := F_levels_a1_q6.ext E9
      have Z9 : n0 ≤ h9.size := Nat.le_trans Z6 E9.1
      refine Go.step st9 ?_
      have V_b9 : Af Z h9 b9 (szN N 0) (fun _ => 0) := Af.new A9 (by have := own_szLe (N := N) 0; omega)
      show Go p e below T9 (mkF m 66 #[.val (.ref a1), .val (.int (Int32.ofNat N)), .val (.int (3 : Int32)), .val (.int (Int32.ofNat N)), .val (.int (0 : Int32))] [(.ref b9), (.int (0 : Int32)), (.ref b5)]) _
      obtain ⟨cl10, Ar10, qa10, Sz10, Nz10, Ha10, Ga10⟩ := V_b5_q9
      obtain ⟨T11, h11, X11, e11, W11, st11⟩ := stR X9 hx hZ e9 Ar10 (j := (0 : Int32)) (inb_of Sz10 ⟨by decide, by decide⟩) rfl (Sto.ofVA Ar10 qa10 O5 (Ins.self B9)) (g := (mkF m 66 #[.val (.ref a1), .val (.int (Int32.ofNat N)), .val (.int (3 : Int32)), .val (.int (Int32.ofNat N)), .val (.int (0 : Int32))] [(.ref b9), (.int (0 : Int32)), (.ref b5)])) rfl rfl (hb hby d1_66)
      refine Go.step st11 ?_
      have N11 := Fr.snoc X11 N8 g_b5
      have V_b5_q11 : Arv Z h11 b5 k5 (.array .long) (3 : Int32) [(.ref b9), .null, .null] .null := Arv.set Ar10 qa10 Sz10 Nz10 Ha10 Ga10 rfl W11 0 rfl (Nat.le_of_ble_eq_true rfl)
      have E1_q11 := E1_q9.wr W11
      have F_levels_a1_q11 := F_levels_a1_q9.other W11 (Or.inl ne_a1_b5)
      have V_b9_q11 := V_b9.other W11 (Ne.symm ne_b5_b9)
      have Z11 : n0 ≤ h11.size := by rw [W11.size]; exact Z9
      show Go p e below T11 (mkF m 67 #[.val (.ref a1), .val (.int (Int32.ofNat N)), .val (.int (3 : Int32)), .val (.int (Int32.ofNat N)), .val (.int (0 : Int32))] []) _
      refine Go.step (fun _ => XS.iloadN X11.here hx rfl (hb hby d1_67) rfl ) ?_
      show Go p e below T11 (mkF m 68 #[.val (.ref a1), .val (.int (Int32.ofNat N)), .val (.int (3 : Int32)), .val (.int (Int32.ofNat N)), .val (.int (0 : Int32))] [(.int (Int32.ofNat N))]) _
      refine Go.step (fun _ => XS.bipush X11.here hx rfl (hb hby d1_68)) ?_
      show Go p e below T11 (mkF m 70 #[.val (.ref a1), .val (.int (Int32.ofNat N)), .val (.int (3 : Int32)), .val (.int (Int32.ofNat N)), .val (.int (0 : Int32))] [(.int (63 : Int32)), (.int (Int32.ofNat N))]) _
      refine Go.step (fun _ => XS.iadd X11.here hx rfl (hb hby d1_70) rfl) ?_
      show Go p e below T11 (mkF m 71 #[.val (.ref a1), .val (.int (Int32.ofNat N)), .val (.int (3 : Int32)), .val (.int (Int32.ofNat N)), .val (.int (0 : Int32))] [(.int ((Int32.ofNat N) + (63 : Int32)))]) _
      refine Go.step (fun _ => XS.bipush X11.here hx rfl (hb hby d1_71)) ?_
      show Go p e below T11 (mkF m 73 #[.val (.ref a1), .val (.int (Int32.ofNat N)), .val (.int (3 : Int32)), .val (.int (Int32.ofNat N)), .val (.int (0 : Int32))] [(.int (64 : Int32)), (.int ((Int32.ofNat N) + (63 : Int32)))]) _
      refine Go.step (fun _ => XS.idiv X11.here hx rfl (hb hby d1_73) rfl (by decide)) ?_
      show Go p e below T11 (mkF m 74 #[.val (.ref a1), .val (.int (Int32.ofNat N)), .val (.int (3 : Int32)), .val (.int (Int32.ofNat N)), .val (.int (0 : Int32))] [(.int (((Int32.ofNat N) + (63 : Int32)) / (64 : Int32)))]) _
      rw [show (Int32.ofNat N + (63 : Int32)) / (64 : Int32) = Int32.ofNat (szN N 0) from own_div64 (by omega)]
      show Go p e below T11 (mkF m 74 #[.val (.ref a1), .val (.int (Int32.ofNat N)), .val (.int (3 : Int32)), .val (.int (Int32.ofNat N)), .val (.int (0 : Int32))] [(.int (Int32.ofNat (szN N 0)))]) _
      refine Go.step (fun _ => XS.istoreN X11.here hx rfl (hb hby d1_74) rfl (l' := #[.val (.ref a1), .val (.int (Int32.ofNat N)), .val (.int (3 : Int32)), .val (.int (Int32.ofNat (szN N 0))), .val (.int (0 : Int32))]) rfl) ?_
      show Go p e below T11 (mkF m 75 #[.val (.ref a1), .val (.int (Int32.ofNat N)), .val (.int (3 : Int32)), .val (.int (Int32.ofNat (szN N 0))), .val (.int (0 : Int32))] []) _
      refine Go.step (fun _ => XS.iinc X11.here hx rfl (hb hby d1_75) rfl (l' := #[.val (.ref a1), .val (.int (Int32.ofNat N)), .val (.int (3 : Int32)), .val (.int (Int32.ofNat (szN N 0))), .val (.int (1 : Int32))]) rfl) ?_
      show Go p e below T11 (mkF m 78 #[.val (.ref a1), .val (.int (Int32.ofNat N)), .val (.int (3 : Int32)), .val (.int (Int32.ofNat (szN N 0))), .val (.int (1 : Int32))] []) _
      refine Go.step (fun _ => XS.goto X11.here hx rfl (pc0 := 78) (pc' := 41) rfl (hb hby d1_78) (by decide) (by decide)) ?_
      show Go p e below T11 (mkF m 41 #[.val (.ref a1), .val (.int (Int32.ofNat N)), .val (.int (3 : Int32)), .val (.int (Int32.ofNat (szN N 0))), .val (.int (1 : Int32))] []) _
      refine Go.step (fun _ => XS.iload X11.here hx rfl (hb hby d1_41) rfl ) ?_
      show Go p e below T11 (mkF m 43 #[.val (.ref a1), .val (.int (Int32.ofNat N)), .val (.int (3 : Int32)), .val (.int (Int32.ofNat (szN N 0))), .val (.int (1 : Int32))] [(.int (1 : Int32))]) _
      refine Go.step (fun _ => XS.iloadN X11.here hx rfl (hb hby d1_43) rfl ) ?_
      show Go p e below T11 (mkF m 44 #[.val (.ref a1), .val (.int (Int32.ofNat N)), .val (.int (3 : Int32)), .val (.int (Int32.ofNat (szN N 0))), .val (.int (1 : Int32))] [(.int (3 : Int32)), (.int (1 : Int32))]) _
      refine Go.step (fun _ => XS.icmpNo X11.here hx rfl (hb hby d1_44) rfl (tlt (by decide)).2.1) ?_
      show Go p e below T11 (mkF m 47 #[.val (.ref a1), .val (.int (Int32.ofNat N)), .val (.int (3 : Int32)), .val (.int (Int32.ofNat (szN N 0))), .val (.int (1 : Int32))] []) _
      refine Go.step (fun _ => XS.aloadN X11.here hx rfl (hb hby d1_47) rfl rfl ) ?_
      show Go p e below T11 (mkF m 48 #[.val (.ref a1), .val (.int (Int32.ofNat N)), .val (.int (3 : Int32)), .val (.int (Int32.ofNat (szN N 0))), .val (.int (1 : Int32))] [(.ref a1)]) _
      obtain ⟨T12, X12, e12, st12⟩ := getF X11 hx hZ hown (host := "") (Or.inl (hw _ (List.mem_of_getElem? (i := 13) rfl))) Via.refl e11 F_levels_a1_q11 (g := (mkF m 48 #[.val (.ref a1), .val (.int (Int32.ofNat N)), .val (.int (3 : Int32)), .val (.int (Int32.ofNat (szN N 0))), .val (.int (1 : Int32))] [(.ref a1)])) rfl rfl (hb hby d1_48)
      refine Go.step st12 ?_
      show Go p e below T12 (mkF m 51 #[.val (.ref a1), .val (.int (Int32.ofNat N)), .val (.int (3 : Int32)), .val (.int (Int32.ofNat (szN N 0))), .val (.int (1 : Int32))] [(.ref b5)]) _
      refine Go.step (fun _ => XS.iload X12.here hx rfl (hb hby d1_51) rfl ) ?_
      show Go p e below T12 (mkF m 53 #[.val (.ref a1), .val (.int (Int32.ofNat N)), .val (.int (3 : Int32)), .val (.int (Int32.ofNat (szN N 0))), .val (.int (1 : Int32))] [(.int (1 : Int32)), (.ref b5)]) _
      refine Go.step (fun _ => XS.iconst X12.here hx rfl (hb hby d1_53)) ?_
      show Go p e below T12 (mkF m 54 #[.val (.ref a1), .val (.int (Int32.ofNat N)), .val (.int (3 : Int32)), .val (.int (Int32.ofNat (szN N 0))), .val (.int (1 : Int32))] [(.int (1 : Int32)), (.int (1 : Int32)), (.ref b5)]) _
      refine Go.step (fun _ => XS.iloadN X12.here hx rfl (hb hby d1_54) rfl ) ?_
      show Go p e below T12 (mkF m 55 #[.val (.ref a1), .val (.int (Int32.ofNat N)), .val (.int (3 : Int32)), .val (.int (Int32.ofNat (szN N 0))), .val (.int (1 : Int32))] [(.int (Int32.ofNat (szN N 0))), (.int (1 : Int32)), (.int (1 : Int32)), (.ref b5)]) _
      refine Go.step (fun _ => XS.bipush X12.here hx rfl (hb hby d1_55)) ?_
      show Go p e below T12 (mkF m 57 #[.val (.ref a1), .val (.int (Int32.ofNat N)), .val (.int (3 : Int32)), .val (.int (Int32.ofNat (szN N 0))), .val (.int (1 : Int32))] [(.int (63 : Int32)), (.int (Int32.ofNat (szN N 0))), (.int (1 : Int32)), (.int (1 : Int32)), (.ref b5)]) _
      refine Go.step (fun _ => XS.iadd X12.here hx rfl (hb hby d1_57) rfl) ?_
      show Go p e below T12 (mkF m 58 #[.val (.ref a1), .val (.int (Int32.ofNat N)), .val (.int (3 : Int32)), .val (.int (Int32.ofNat (szN N 0))), .val (.int (1 : Int32))] [(.int ((Int32.ofNat (szN N 0)) + (63 : Int32))), (.int (1 : Int32)), (.int (1 : Int32)), (.ref b5)]) _
      refine Go.step (fun _ => XS.bipush X12.here hx rfl (hb hby d1_58)) ?_
      show Go p e below T12 (mkF m 60 #[.val (.ref a1), .val (.int (Int32.ofNat N)), .val (.int (3 : Int32)), .val (.int (Int32.ofNat (szN N 0))), .val (.int (1 : Int32))] [(.int (64 : Int32)), (.int ((Int32.ofNat (szN N 0)) + (63 : Int32))), (.int (1 : Int32)), (.int (1 : Int32)), (.ref b5)]) _
      refine Go.step (fun _ => XS.idiv X12.here hx rfl (hb hby d1_60) rfl (by decide)) ?_
      show Go p e below T12 (mkF m 61 #[.val (.ref a1), .val (.int (Int32.ofNat N)), .val (.int (3 : Int32)), .val (.int (Int32.ofNat (szN N 0))), .val (.int (1 : Int32))] [(.int (((Int32.ofNat (szN N 0)) + (63 : Int32)) / (64 : Int32))), (.int (1 : Int32)), (.int (1 : Int32)), (.ref b5)]) _
      rw [show (Int32.ofNat (szN N 0) + (63 : Int32)) / (64 : Int32) = Int32.ofNat (szN N 1) from own_div64 (by have := own_szLe (N := N) 0; omega)]
      show Go p e below T12 (mkF m 61 #[.val (.ref a1), .val (.int (Int32.ofNat N)), .val (.int (3 : Int32)), .val (.int (Int32.ofNat (szN N 0))), .val (.int (1 : Int32))] [(.int (Int32.ofNat (szN N 1))), (.int (1 : Int32)), (.int (1 : Int32)), (.ref b5)]) _
      obtain ⟨_, _, ⟨T13, L13, k13, n13⟩, -, X13, ⟨Lc13, hQ13, l13, y13, z13⟩, st13⟩ := Jvm.LawKit.callS X12 hx (y := (⟨"java/lang/Math", "max", "(II)I"⟩ : MethodName)) hown (mvT hZ (hw _ (List.mem_of_getElem? (i := 15) rfl))) (mvT hZ (hw _ (List.mem_of_getElem? (i := 16) rfl))) (mvT hZ (hw _ (List.mem_of_getElem? (i := 17) rfl))) (mvT hZ (hw _ (List.mem_of_getElem? (i := 18) rfl))) (by decide) (backOf (W := 2) (rmMx l Z a0 hw [] (1 : Int32) (Int32.ofNat (szN N 1)) (Int32.ofNat (szN N 1)) h11 n0 Z11 (own_mx1 (by simp only [szN]; omega) (by have := own_szLe (N := N) 1; omega))) hZ (hw _ (List.mem_of_getElem? (i := 18) rfl)) (hw _ (List.mem_of_getElem? (i := 17) rfl)) (by decide) (by decide)) (g := (mkF m 61 #[.val (.ref a1), .val (.int (Int32.ofNat N)), .val (.int (3 : Int32)), .val (.int (Int32.ofNat (szN N 0))), .val (.int (1 : Int32))] [(.int (Int32.ofNat (szN N 1))), (.int (1 : Int32)), (.int (1 : Int32)), (.ref b5)])) rfl (by rw [hml]; rfl) (argsL := [(.int (1 : Int32)), (.int (Int32.ofNat (szN N 1)))]) (rest := [(.int (1 : Int32)), (.ref b5)]) (lenOf pd_2 rfl) rfl (by show 2 * 0 + _ ≤ _; exact Nat.le_of_eq rfl) (hb hby d1_61) (fun _ _ => ⟨rfl, e12, (by decide : 0 + 1 + 0 + 1 + 0 ≤ _), (by decide : 0 + 3 + 0 + 128 + 0 ≤ _)⟩)
      dsimp only [Pt.U, Pt.locs, Pt.cells, Pt.slots] at X13 l13 y13 z13 st13 hQ13
      subst l13 y13 z13
      obtain ⟨rfl, Nq13, eh13⟩ := hQ13
      have N13 := Fr.app N11 Nq13
      refine Go.step st13 ?_
      show Go p e below T13 (mkF m 64 #[.val (.ref a1), .val (.int (Int32.ofNat N)), .val (.int (3 : Int32)), .val (.int (Int32.ofNat (szN N 0))), .val (.int (1 : Int32))] [(.int (Int32.ofNat (szN N 1))), (.int (1 : Int32)), (.ref b5)]) _
      obtain ⟨T14, h14, k14, X14, e14, E14, A14, B14, st14⟩ := newPE X13 hx hZ (hw _ (List.mem_of_getElem? (i := 19) rfl)) eh13 (g := (mkF m 64 #[.val (.ref a1), .val (.int (Int32.ofNat N)), .val (.int (3 : Int32)), .val (.int (Int32.ofNat (szN N 0))), .val (.int (1 : Int32))] [(.int (Int32.ofNat (szN N 1))), (.int (1 : Int32)), (.ref b5)])) rfl (hb hby d1_64) rfl (own_nn (by have := own_szLe (N := N) 1; omega)) (cap := 2) (by rw [own_clamp (by have := own_szLe (N := N) 1; omega)]; simp only [szN]; omega) (by decide) (by decide) (by decide) (ad := "[J") (by decide)
      obtain ⟨b14, g14⟩ : ∃ z, z = h11.size := ⟨_, rfl⟩
      rw [← g14] at A14 B14 st14
      have ne_a1_b14 : a1 ≠ b14 := Nat.ne_of_lt (Nat.lt_of_lt_of_le E1_q11.lt (Nat.le_of_eq g14.symm))
      have ne_b9_b14 : b9 ≠ b14 := Nat.ne_of_lt (Nat.lt_of_lt_of_le V_b9_q11.lt (Nat.le_of_eq g14.symm))
      have ne_b5_b14 : b5 ≠ b14 := Nat.ne_of_lt (Nat.lt_of_lt_of_le V_b5_q11.lt (Nat.le_of_eq g14.symm))
      have g_b14 : n0 ≤ b14 := Nat.le_trans Z11 (Nat.le_of_eq g14.symm)
      have E1_q14 := E1_q11.ext E14
      have F_levels_a1_q14 := F_levels_a1_q11.ext E14
      have V_b9_q14 := V_b9_q11.ext E14
      have V_b5_q14 := V_b5_q11.ext E14
      have Z14 : n0 ≤ h14.size := Nat.le_trans Z11 E14.1
      refine Go.step st14 ?_
      have V_b14 : Af Z h14 b14 (szN N 1) (fun _ => 0) := Af.new A14 (by have := own_szLe (N := N) 1; omega)
      show Go p e below T14 (mkF m 66 #[.val (.ref a1), .val (.int (Int32.ofNat N)), .val (.int (3 : Int32)), .val (.int (Int32.ofNat (szN N 0))), .val (.int (1 : Int32))] [(.ref b14), (.int (1 : Int32)), (.ref b5)]) _
      obtain ⟨cl15, Ar15, qa15, Sz15, Nz15, Ha15, Ga15⟩ := V_b5_q14
      obtain ⟨T16, h16, X16, e16, W16, st16⟩ := stR X14 hx hZ e14 Ar15 (j := (1 : Int32)) (inb_of Sz15 ⟨by decide, by decide⟩) rfl (Sto.ofVA Ar15 qa15 O5 (Ins.self B14)) (g := (mkF m 66 #[.val (.ref a1), .val (.int (Int32.ofNat N)), .val (.int (3 : Int32)), .val (.int (Int32.ofNat (szN N 0))), .val (.int (1 : Int32))] [(.ref b14), (.int (1 : Int32)), (.ref b5)])) rfl rfl (hb hby d1_66)
      refine Go.step st16 ?_
      have N16 := Fr.snoc X16 N13 g_b5
      have V_b5_q16 : Arv Z h16 b5 k5 (.array .long) (3 : Int32) [(.ref b9), (.ref b14), .null] .null := Arv.set Ar15 qa15 Sz15 Nz15 Ha15 Ga15 rfl W16 1 rfl (Nat.le_of_ble_eq_true rfl)
      have E1_q16 := E1_q14.wr W16
      have F_levels_a1_q16 := F_levels_a1_q14.other W16 (Or.inl ne_a1_b5)
      have V_b9_q16 := V_b9_q14.other W16 (Ne.symm ne_b5_b9)
      have V_b14_q16 := V_b14.other W16 (Ne.symm ne_b5_b14)
      have Z16 : n0 ≤ h16.size := by rw [W16.size]; exact Z14
      show Go p e below T16 (mkF m 67 #[.val (.ref a1), .val (.int (Int32.ofNat N)), .val (.int (3 : Int32)), .val (.int (Int32.ofNat (szN N 0))), .val (.int (1 : Int32))] []) _
      refine Go.step (fun _ => XS.iloadN X16.here hx rfl (hb hby d1_67) rfl ) ?_
      show Go p e below T16 (mkF m 68 #[.val (.ref a1), .val (.int (Int32.ofNat N)), .val (.int (3 : Int32)), .val (.int (Int32.ofNat (szN N 0))), .val (.int (1 : Int32))] [(.int (Int32.ofNat (szN N 0)))]) _
      refine Go.step (fun _ => XS.bipush X16.here hx rfl (hb hby d1_68)) ?_
      show Go p e below T16 (mkF m 70 #[.val (.ref a1), .val (.int (Int32.ofNat N)), .val (.int (3 : Int32)), .val (.int (Int32.ofNat (szN N 0))), .val (.int (1 : Int32))] [(.int (63 : Int32)), (.int (Int32.ofNat (szN N 0)))]) _
      refine Go.step (fun _ => XS.iadd X16.here hx rfl (hb hby d1_70) rfl) ?_
      show Go p e below T16 (mkF m 71 #[.val (.ref a1), .val (.int (Int32.ofNat N)), .val (.int (3 : Int32)), .val (.int (Int32.ofNat (szN N 0))), .val (.int (1 : Int32))] [(.int ((Int32.ofNat (szN N 0)) + (63 : Int32)))]) _
      refine Go.step (fun _ => XS.bipush X16.here hx rfl (hb hby d1_71)) ?_
      show Go p e below T16 (mkF m 73 #[.val (.ref a1), .val (.int (Int32.ofNat N)), .val (.int (3 : Int32)), .val (.int (Int32.ofNat (szN N 0))), .val (.int (1 : Int32))] [(.int (64 : Int32)), (.int ((Int32.ofNat (szN N 0)) + (63 : Int32)))]) _
      refine Go.step (fun _ => XS.idiv X16.here hx rfl (hb hby d1_73) rfl (by decide)) ?_
      show Go p e below T16 (mkF m 74 #[.val (.ref a1), .val (.int (Int32.ofNat N)), .val (.int (3 : Int32)), .val (.int (Int32.ofNat (szN N 0))), .val (.int (1 : Int32))] [(.int (((Int32.ofNat (szN N 0)) + (63 : Int32)) / (64 : Int32)))]) _
      rw [show (Int32.ofNat (szN N 0) + (63 : Int32)) / (64 : Int32) = Int32.ofNat (szN N 1) from own_div64 (by have := own_szLe (N := N) 0; omega)]
      show Go p e below T16 (mkF m 74 #[.val (.ref a1), .val (.int (Int32.ofNat N)), .val (.int (3 : Int32)), .val (.int (Int32.ofNat (szN N 0))), .val (.int (1 : Int32))] [(.int (Int32.ofNat (szN N 1)))]) _
      refine Go.step (fun _ => XS.istoreN X16.here hx rfl (hb hby d1_74) rfl (l' := #[.val (.ref a1), .val (.int (Int32.ofNat N)), .val (.int (3 : Int32)), .val (.int (Int32.ofNat (szN N 1))), .val (.int (1 : Int32))]) rfl) ?_
      show Go p e below T16 (mkF m 75 #[.val (.ref a1), .val (.int (Int32.ofNat N)), .val (.int (3 : Int32)), .val (.int (Int32.ofNat (szN N 1))), .val (.int (1 : Int32))] []) _
      refine Go.step (fun _ => XS.iinc X16.here hx rfl (hb hby d1_75) rfl (l' := #[.val (.ref a1), .val (.int (Int32.ofNat N)), .val (.int (3 : Int32)), .val (.int (Int32.ofNat (szN N 1))), .val (.int (2 : Int32))]) rfl) ?_
      show Go p e below T16 (mkF m 78 #[.val (.ref a1), .val (.int (Int32.ofNat N)), .val (.int (3 : Int32)), .val (.int (Int32.ofNat (szN N 1))), .val (.int (2 : Int32))] []) _
      refine Go.step (fun _ => XS.goto X16.here hx rfl (pc0 := 78) (pc' := 41) rfl (hb hby d1_78) (by decide) (by decide)) ?_
      show Go p e below T16 (mkF m 41 #[.val (.ref a1), .val (.int (Int32.ofNat N)), .val (.int (3 : Int32)), .val (.int (Int32.ofNat (szN N 1))), .val (.int (2 : Int32))] []) _
      refine Go.step (fun _ => XS.iload X16.here hx rfl (hb hby d1_41) rfl ) ?_
      show Go p e below T16 (mkF m 43 #[.val (.ref a1), .val (.int (Int32.ofNat N)), .val (.int (3 : Int32)), .val (.int (Int32.ofNat (szN N 1))), .val (.int (2 : Int32))] [(.int (2 : Int32))]) _
      refine Go.step (fun _ => XS.iloadN X16.here hx rfl (hb hby d1_43) rfl ) ?_
      show Go p e below T16 (mkF m 44 #[.val (.ref a1), .val (.int (Int32.ofNat N)), .val (.int (3 : Int32)), .val (.int (Int32.ofNat (szN N 1))), .val (.int (2 : Int32))] [(.int (3 : Int32)), (.int (2 : Int32))]) _
      refine Go.step (fun _ => XS.icmpNo X16.here hx rfl (hb hby d1_44) rfl (tlt (by decide)).2.1) ?_
      show Go p e below T16 (mkF m 47 #[.val (.ref a1), .val (.int (Int32.ofNat N)), .val (.int (3 : Int32)), .val (.int (Int32.ofNat (szN N 1))), .val (.int (2 : Int32))] []) _
      refine Go.step (fun _ => XS.aloadN X16.here hx rfl (hb hby d1_47) rfl rfl ) ?_
      show Go p e below T16 (mkF m 48 #[.val (.ref a1), .val (.int (Int32.ofNat N)), .val (.int (3 : Int32)), .val (.int (Int32.ofNat (szN N 1))), .val (.int (2 : Int32))] [(.ref a1)]) _
      obtain ⟨T17, X17, e17, st17⟩ := getF X16 hx hZ hown (host := "") (Or.inl (hw _ (List.mem_of_getElem? (i := 13) rfl))) Via.refl e16 F_levels_a1_q16 (g := (mkF m 48 #[.val (.ref a1), .val (.int (Int32.ofNat N)), .val (.int (3 : Int32)), .val (.int (Int32.ofNat (szN N 1))), .val (.int (2 : Int32))] [(.ref a1)])) rfl rfl (hb hby d1_48)
      refine Go.step st17 ?_
      show Go p e below T17 (mkF m 51 #[.val (.ref a1), .val (.int (Int32.ofNat N)), .val (.int (3 : Int32)), .val (.int (Int32.ofNat (szN N 1))), .val (.int (2 : Int32))] [(.ref b5)]) _
      refine Go.step (fun _ => XS.iload X17.here hx rfl (hb hby d1_51) rfl ) ?_
      show Go p e below T17 (mkF m 53 #[.val (.ref a1), .val (.int (Int32.ofNat N)), .val (.int (3 : Int32)), .val (.int (Int32.ofNat (szN N 1))), .val (.int (2 : Int32))] [(.int (2 : Int32)), (.ref b5)]) _
      refine Go.step (fun _ => XS.iconst X17.here hx rfl (hb hby d1_53)) ?_
      show Go p e below T17 (mkF m 54 #[.val (.ref a1), .val (.int (Int32.ofNat N)), .val (.int (3 : Int32)), .val (.int (Int32.ofNat (szN N 1))), .val (.int (2 : Int32))] [(.int (1 : Int32)), (.int (2 : Int32)), (.ref b5)]) _
      refine Go.step (fun _ => XS.iloadN X17.here hx rfl (hb hby d1_54) rfl ) ?_
      show Go p e below T17 (mkF m 55 #[.val (.ref a1), .val (.int (Int32.ofNat N)), .val (.int (3 : Int32)), .val (.int (Int32.ofNat (szN N 1))), .val (.int (2 : Int32))] [(.int (Int32.ofNat (szN N 1))), (.int (1 : Int32)), (.int (2 : Int32)), (.ref b5)]) _
      refine Go.step (fun _ => XS.bipush X17.here hx rfl (hb hby d1_55)) ?_
      show Go p e below T17 (mkF m 57 #[.val (.ref a1), .val (.int (Int32.ofNat N)), .val (.int (3 : Int32)), .val (.int (Int32.ofNat (szN N 1))), .val (.int (2 : Int32))] [(.int (63 : Int32)), (.int (Int32.ofNat (szN N 1))), (.int (1 : Int32)), (.int (2 : Int32)), (.ref b5)]) _
      refine Go.step (fun _ => XS.iadd X17.here hx rfl (hb hby d1_57) rfl) ?_
      show Go p e below T17 (mkF m 58 #[.val (.ref a1), .val (.int (Int32.ofNat N)), .val (.int (3 : Int32)), .val (.int (Int32.ofNat (szN N 1))), .val (.int (2 : Int32))] [(.int ((Int32.ofNat (szN N 1)) + (63 : Int32))), (.int (1 : Int32)), (.int (2 : Int32)), (.ref b5)]) _
      refine Go.step (fun _ => XS.bipush X17.here hx rfl (hb hby d1_58)) ?_
      show Go p e below T17 (mkF m 60 #[.val (.ref a1), .val (.int (Int32.ofNat N)), .val (.int (3 : Int32)), .val (.int (Int32.ofNat (szN N 1))), .val (.int (2 : Int32))] [(.int (64 : Int32)), (.int ((Int32.ofNat (szN N 1)) + (63 : Int32))), (.int (1 : Int32)), (.int (2 : Int32)), (.ref b5)]) _
      refine Go.step (fun _ => XS.idiv X17.here hx rfl (hb hby d1_60) rfl (by decide)) ?_
      show Go p e below T17 (mkF m 61 #[.val (.ref a1), .val (.int (Int32.ofNat N)), .val (.int (3 : Int32)), .val (.int (Int32.ofNat (szN N 1))), .val (.int (2 : Int32))] [(.int (((Int32.ofNat (szN N 1)) + (63 : Int32)) / (64 : Int32))), (.int (1 : Int32)), (.int (2 : Int32)), (.ref b5)]) _
      rw [show (Int32.ofNat (szN N 1) + (63 : Int32)) / (64 : Int32) = Int32.ofNat (szN N 2) from own_div64 (by have := own_szLe (N := N) 1; omega)]
      show Go p e below T17 (mkF m 61 #[.val (.ref a1), .val (.int (Int32.ofNat N)), .val (.int (3 : Int32)), .val (.int (Int32.ofNat (szN N 1))), .val (.int (2 : Int32))] [(.int (Int32.ofNat (szN N 2))), (.int (1 : Int32)), (.int (2 : Int32)), (.ref b5)]) _
      obtain ⟨_, _, ⟨T18, L18, k18, n18⟩, -, X18, ⟨Lc18, hQ18, l18, y18, z18⟩, st18⟩ := Jvm.LawKit.callS X17 hx (y := (⟨"java/lang/Math", "max", "(II)I"⟩ : MethodName)) hown (mvT hZ (hw _ (List.mem_of_getElem? (i := 15) rfl))) (mvT hZ (hw _ (List.mem_of_getElem? (i := 16) rfl))) (mvT hZ (hw _ (List.mem_of_getElem? (i := 17) rfl))) (mvT hZ (hw _ (List.mem_of_getElem? (i := 18) rfl))) (by decide) (backOf (W := 2) (rmMx l Z a0 hw [] (1 : Int32) (Int32.ofNat (szN N 2)) (Int32.ofNat (szN N 2)) h16 n0 Z16 (own_mx1 (by simp only [szN]; omega) (by have := own_szLe (N := N) 2; omega))) hZ (hw _ (List.mem_of_getElem? (i := 18) rfl)) (hw _ (List.mem_of_getElem? (i := 17) rfl)) (by decide) (by decide)) (g := (mkF m 61 #[.val (.ref a1), .val (.int (Int32.ofNat N)), .val (.int (3 : Int32)), .val (.int (Int32.ofNat (szN N 1))), .val (.int (2 : Int32))] [(.int (Int32.ofNat (szN N 2))), (.int (1 : Int32)), (.int (2 : Int32)), (.ref b5)])) rfl (by rw [hml]; rfl) (argsL := [(.int (1 : Int32)), (.int (Int32.ofNat (szN N 2)))]) (rest := [(.int (2 : Int32)), (.ref b5)]) (lenOf pd_2 rfl) rfl (by show 2 * 0 + _ ≤ _; exact Nat.le_of_eq rfl) (hb hby d1_61) (fun _ _ => ⟨rfl, e17, (by decide : 0 + 1 + 0 + 1 + 0 + 1 + 0 ≤ _), (by decide : 0 + 3 + 0 + 128 + 0 + 2 + 0 ≤ _)⟩)
      dsimp only [Pt.U, Pt.locs, Pt.cells, Pt.slots] at X18 l18 y18 z18 st18 hQ18
      subst l18 y18 z18
      obtain ⟨rfl, Nq18, eh18⟩ := hQ18
      have N18 := Fr.app N16 Nq18
      refine Go.step st18 ?_
      show Go p e below T18 (mkF m 64 #[.val (.ref a1), .val (.int (Int32.ofNat N)), .val (.int (3 : Int32)), .val (.int (Int32.ofNat (szN N 1))), .val (.int (2 : Int32))] [(.int (Int32.ofNat (szN N 2))), (.int (2 : Int32)), (.ref b5)]) _
      obtain ⟨T19, h19, k19, X19, e19, E19, A19, B19, st19⟩ := newPE X18 hx hZ (hw _ (List.mem_of_getElem? (i := 19) rfl)) eh18 (g := (mkF m 64 #[.val (.ref a1), .val (.int (Int32.ofNat N)), .val (.int (3 : Int32)), .val (.int (Int32.ofNat (szN N 1))), .val (.int (2 : Int32))] [(.int (Int32.ofNat (szN N 2))), (.int (2 : Int32)), (.ref b5)])) rfl (hb hby d1_64) rfl (own_nn (by have := own_szLe (N := N) 2; omega)) (cap := 1) (by rw [own_clamp (by have := own_szLe (N := N) 2; omega)]; simp only [szN]; omega) (by decide) (by decide) (by decide) (ad := "[J") (by decide)
      obtain ⟨b19, g19⟩ : ∃ z, z = h16.size := ⟨_, rfl⟩
      rw [← g19] at A19 B19 st19
      have ne_a1_b19 : a1 ≠ b19 := Nat.ne_of_lt (Nat.lt_of_lt_of_le E1_q16.lt (Nat.le_of_eq g19.symm))
      have ne_b9_b19 : b9 ≠ b19 := Nat.ne_of_lt (Nat.lt_of_lt_of_le V_b9_q16.lt (Nat.le_of_eq g19.symm))
      have ne_b14_b19 : b14 ≠ b19 := Nat.ne_of_lt (Nat.lt_of_lt_of_le V_b14_q16.lt (Nat.le_of_eq g19.symm))
      have ne_b5_b19 : b5 ≠ b19 := Nat.ne_of_lt (Nat.lt_of_lt_of_le V_b5_q16.lt (Nat.le_of_eq g19.symm))
      have g_b19 : n0 ≤ b19 := Nat.le_trans Z16 (Nat.le_of_eq g19.symm)
      have E1_q19 := E1_q16.ext E19
      have F_levels_a1_q19 := F_levels_a1_q16.ext E19
      have V_b9_q19 := V_b9_q16.ext E19
      have V_b14_q19 := V_b14_q16.ext E19
      have V_b5_q19 := V_b5_q16.ext E19
      have Z19 : n0 ≤ h19.size := Nat.le_trans Z16 E19.1
      refine Go.step st19 ?_
      have V_b19 : Af Z h19 b19 (szN N 2) (fun _ => 0) := Af.new A19 (by have := own_szLe (N := N) 2; omega)
      show Go p e below T19 (mkF m 66 #[.val (.ref a1), .val (.int (Int32.ofNat N)), .val (.int (3 : Int32)), .val (.int (Int32.ofNat (szN N 1))), .val (.int (2 : Int32))] [(.ref b19), (.int (2 : Int32)), (.ref b5)]) _
      obtain ⟨cl20, Ar20, qa20, Sz20, Nz20, Ha20, Ga20⟩ := V_b5_q19
      obtain ⟨T21, h21, X21, e21, W21, st21⟩ := stR X19 hx hZ e19 Ar20 (j := (2 : Int32)) (inb_of Sz20 ⟨by decide, by decide⟩) rfl (Sto.ofVA Ar20 qa20 O5 (Ins.self B19)) (g := (mkF m 66 #[.val (.ref a1), .val (.int (Int32.ofNat N)), .val (.int (3 : Int32)), .val (.int (Int32.ofNat (szN N 1))), .val (.int (2 : Int32))] [(.ref b19), (.int (2 : Int32)), (.ref b5)])) rfl rfl (hb hby d1_66)
      refine Go.step st21 ?_
      have N21 := Fr.snoc X21 N18 g_b5
      have V_b5_q21 : Arv Z h21 b5 k5 (.array .long) (3 : Int32) [(.ref b9), (.ref b14), (.ref b19)] .null := Arv.set Ar20 qa20 Sz20 Nz20 Ha20 Ga20 rfl W21 2 rfl (Nat.le_of_ble_eq_true rfl)
      have E1_q21 := E1_q19.wr W21
      have F_levels_a1_q21 := F_levels_a1_q19.other W21 (Or.inl ne_a1_b5)
      have V_b9_q21 := V_b9_q19.other W21 (Ne.symm ne_b5_b9)
      have V_b14_q21 := V_b14_q19.other W21 (Ne.symm ne_b5_b14)
      have V_b19_q21 := V_b19.other W21 (Ne.symm ne_b5_b19)
      have Z21 : n0 ≤ h21.size := by rw [W21.size]; exact Z19
      show Go p e below T21 (mkF m 67 #[.val (.ref a1), .val (.int (Int32.ofNat N)), .val (.int (3 : Int32)), .val (.int (Int32.ofNat (szN N 1))), .val (.int (2 : Int32))] []) _
      refine Go.step (fun _ => XS.iloadN X21.here hx rfl (hb hby d1_67) rfl ) ?_
      show Go p e below T21 (mkF m 68 #[.val (.ref a1), .val (.int (Int32.ofNat N)), .val (.int (3 : Int32)), .val (.int (Int32.ofNat (szN N 1))), .val (.int (2 : Int32))] [(.int (Int32.ofNat (szN N 1)))]) _
      refine Go.step (fun _ => XS.bipush X21.here hx rfl (hb hby d1_68)) ?_
      show Go p e below T21 (mkF m 70 #[.val (.ref a1), .val (.int (Int32.ofNat N)), .val (.int (3 : Int32)), .val (.int (Int32.ofNat (szN N 1))), .val (.int (2 : Int32))] [(.int (63 : Int32)), (.int (Int32.ofNat (szN N 1)))]) _
      refine Go.step (fun _ => XS.iadd X21.here hx rfl (hb hby d1_70) rfl) ?_
      show Go p e below T21 (mkF m 71 #[.val (.ref a1), .val (.int (Int32.ofNat N)), .val (.int (3 : Int32)), .val (.int (Int32.ofNat (szN N 1))), .val (.int (2 : Int32))] [(.int ((Int32.ofNat (szN N 1)) + (63 : Int32)))]) _
      refine Go.step (fun _ => XS.bipush X21.here hx rfl (hb hby d1_71)) ?_
      show Go p e below T21 (mkF m 73 #[.val (.ref a1), .val (.int (Int32.ofNat N)), .val (.int (3 : Int32)), .val (.int (Int32.ofNat (szN N 1))), .val (.int (2 : Int32))] [(.int (64 : Int32)), (.int ((Int32.ofNat (szN N 1)) + (63 : Int32)))]) _
      refine Go.step (fun _ => XS.idiv X21.here hx rfl (hb hby d1_73) rfl (by decide)) ?_
      show Go p e below T21 (mkF m 74 #[.val (.ref a1), .val (.int (Int32.ofNat N)), .val (.int (3 : Int32)), .val (.int (Int32.ofNat (szN N 1))), .val (.int (2 : Int32))] [(.int (((Int32.ofNat (szN N 1)) + (63 : Int32)) / (64 : Int32)))]) _
      rw [show (Int32.ofNat (szN N 1) + (63 : Int32)) / (64 : Int32) = Int32.ofNat (szN N 2) from own_div64 (by have := own_szLe (N := N) 1; omega)]
      show Go p e below T21 (mkF m 74 #[.val (.ref a1), .val (.int (Int32.ofNat N)), .val (.int (3 : Int32)), .val (.int (Int32.ofNat (szN N 1))), .val (.int (2 : Int32))] [(.int (Int32.ofNat (szN N 2)))]) _
      refine Go.step (fun _ => XS.istoreN X21.here hx rfl (hb hby d1_74) rfl (l' := #[.val (.ref a1), .val (.int (Int32.ofNat N)), .val (.int (3 : Int32)), .val (.int (Int32.ofNat (szN N 2))), .val (.int (2 : Int32))]) rfl) ?_
      show Go p e below T21 (mkF m 75 #[.val (.ref a1), .val (.int (Int32.ofNat N)), .val (.int (3 : Int32)), .val (.int (Int32.ofNat (szN N 2))), .val (.int (2 : Int32))] []) _
      refine Go.step (fun _ => XS.iinc X21.here hx rfl (hb hby d1_75) rfl (l' := #[.val (.ref a1), .val (.int (Int32.ofNat N)), .val (.int (3 : Int32)), .val (.int (Int32.ofNat (szN N 2))), .val (.int (3 : Int32))]) rfl) ?_
      show Go p e below T21 (mkF m 78 #[.val (.ref a1), .val (.int (Int32.ofNat N)), .val (.int (3 : Int32)), .val (.int (Int32.ofNat (szN N 2))), .val (.int (3 : Int32))] []) _
      refine Go.step (fun _ => XS.goto X21.here hx rfl (pc0 := 78) (pc' := 41) rfl (hb hby d1_78) (by decide) (by decide)) ?_
      show Go p e below T21 (mkF m 41 #[.val (.ref a1), .val (.int (Int32.ofNat N)), .val (.int (3 : Int32)), .val (.int (Int32.ofNat (szN N 2))), .val (.int (3 : Int32))] []) _
      refine Go.step (fun _ => XS.iload X21.here hx rfl (hb hby d1_41) rfl ) ?_
      show Go p e below T21 (mkF m 43 #[.val (.ref a1), .val (.int (Int32.ofNat N)), .val (.int (3 : Int32)), .val (.int (Int32.ofNat (szN N 2))), .val (.int (3 : Int32))] [(.int (3 : Int32))]) _
      refine Go.step (fun _ => XS.iloadN X21.here hx rfl (hb hby d1_43) rfl ) ?_
      show Go p e below T21 (mkF m 44 #[.val (.ref a1), .val (.int (Int32.ofNat N)), .val (.int (3 : Int32)), .val (.int (Int32.ofNat (szN N 2))), .val (.int (3 : Int32))] [(.int (3 : Int32)), (.int (3 : Int32))]) _
      refine Go.step (fun _ => XS.icmpYes X21.here hx rfl (pc0 := 44) (pc' := 81) rfl (hb hby d1_44) rfl (flt (by decide)).2.1 (by decide) (by decide)) ?_
      show Go p e below T21 (mkF m 81 #[.val (.ref a1), .val (.int (Int32.ofNat N)), .val (.int (3 : Int32)), .val (.int (Int32.ofNat (szN N 2))), .val (.int (3 : Int32))] []) _
      refine Go.ret0 X21 hx hret hlk (hb hby d1_81) ?_ (by decide) (by decide)
      rw [e21]
      obtain ⟨clZ, ArZ, -, SzZ, -, HaZ, -⟩ := id V_b5_q21
      have G1 : Ag Z h21 b5 3 (fun k => ([b9, b14, b19] : List Addr).getD k 0) := ⟨clZ, ArZ, SzZ, fun k hk => match k, hk with
        | 0, _ => HaZ 0 (by rw [SzZ]; decide)
        | 1, _ => HaZ 1 (by rw [SzZ]; decide)
        | 2, _ => HaZ 2 (by rw [SzZ]; decide)
        | n + 3, q => absurd q (by omega)⟩
      have G2 : ∀ k, k < 3 → Af Z h21 (([b9, b14, b19] : List Addr).getD k 0) (szN N k) ((fun _ _ => 0 : Nat → Nat → Int64) k) := fun k hk => match k, hk with
        | 0, _ => V_b9_q21
        | 1, _ => V_b14_q21
        | 2, _ => V_b19_q21
        | n + 3, q => absurd q (by omega)
      have G3 : ∀ k, k < 3 → n0 ≤ ([b9, b14, b19] : List Addr).getD k 0 ∧ a1 ≠ ([b9, b14, b19] : List Addr).getD k 0 ∧ b5 ≠ ([b9, b14, b19] : List Addr).getD k 0 := fun k hk => match k, hk with
        | 0, _ => ⟨g_b9, ne_a1_b9, ne_b5_b9⟩
        | 1, _ => ⟨g_b14, ne_a1_b14, ne_b5_b14⟩
        | 2, _ => ⟨g_b19, ne_a1_b19, ne_b5_b19⟩
        | n + 3, q => absurd q (by omega)
      have G4 : ∀ i j, i < 3 → j < 3 → i ≠ j → ([b9, b14, b19] : List Addr).getD i 0 ≠ ([b9, b14, b19] : List Addr).getD j 0 := fun i j hi hj q => match i, j, hi, hj, q with
        | 0, 0, _, _, q => absurd rfl q
        | 0, 1, _, _, q => ne_b9_b14
        | 0, 2, _, _, q => ne_b9_b19
        | 1, 0, _, _, q => (Ne.symm ne_b9_b14)
        | 1, 1, _, _, q => absurd rfl q
        | 1, 2, _, _, q => ne_b14_b19
        | 2, 0, _, _, q => (Ne.symm ne_b9_b19)
        | 2, 1, _, _, q => (Ne.symm ne_b14_b19)
        | 2, 2, _, _, q => absurd rfl q
        | n + 3, _, q, _, _ => absurd q (by omega)
        | _, n + 3, _, q, _ => absurd q (by omega)
      have G5z : szN N (3 - 1) = 1 := by
        show szN N 2 = 1
        simp only [szN]
        omega
      have G5 : ∀ P, P / 64 < szN N (3 - 1) → P / 64 = 0 := fun P q => by rw [G5z] at q; omega
      exact ⟨rfl, N21, Z21, b5, 3, _, by decide, by decide, ⟨E1_q21, F_levels_a1_q21, G1, G2, G3, G4⟩, G5⟩
    · skip
      refine Go.step (fun _ => XS.icmpYes X4.here hx rfl (pc0 := 11) (pc' := 28) rfl (hb hby d1_11) rfl (flt hb1).2.2.2 (by decide) (by decide)) ?_
      show Go p e below T4 (mkF m 28 #[.val (.ref a1), .val (.int (Int32.ofNat N)), .val (.int (2 : Int32)), .val (.int (Int32.ofNat (szN N 0))), .unset] []) _
      refine Go.step (fun _ => XS.aloadN X4.here hx rfl (hb hby d1_28) rfl rfl ) ?_
      show Go p e below T4 (mkF m 29 #[.val (.ref a1), .val (.int (Int32.ofNat N)), .val (.int (2 : Int32)), .val (.int (Int32.ofNat (szN N 0))), .unset] [(.ref a1)]) _
      refine Go.step (fun _ => XS.iloadN X4.here hx rfl (hb hby d1_29) rfl ) ?_
      show Go p e below T4 (mkF m 30 #[.val (.ref a1), .val (.int (Int32.ofNat N)), .val (.int (2 : Int32)), .val (.int (Int32.ofNat (szN N 0))), .unset] [(.int (2 : Int32)), (.ref a1)]) _
      obtain ⟨T22, h22, k22, X22, e22, E22, A22, B22, O22, st22⟩ := newRA X4 hx hZ hown (C := "[J") (ty := .long) (by decide) (hw _ (List.mem_of_getElem? (i := 11) rfl)) (hw _ (List.mem_of_getElem? (i := 12) rfl)) e4 (g := (mkF m 30 #[.val (.ref a1), .val (.int (Int32.ofNat N)), .val (.int (2 : Int32)), .val (.int (Int32.ofNat (szN N 0))), .unset] [(.int (2 : Int32)), (.ref a1)])) rfl (hb hby d1_30) rfl (by decide) (cap := 2) (by decide) (by decide) (by decide) (by decide) (ad := "[[J") (by decide)
      obtain ⟨b22, g22⟩ : ∃ z, z = h0.size := ⟨_, rfl⟩
      rw [← g22] at A22 B22 st22
      have ne_a1_b22 : a1 ≠ b22 := Nat.ne_of_lt (Nat.lt_of_lt_of_le E1.lt (Nat.le_of_eq g22.symm))
      have g_b22 : n0 ≤ b22 := Nat.le_trans Z0 (Nat.le_of_eq g22.symm)
      have E1_q22 := E1.ext E22
      have F1_q22 := F1.ext E22
      have Z22 : n0 ≤ h22.size := Nat.le_trans Z0 E22.1
      refine Go.step st22 ?_
      have V_b22 : Arv Z h22 b22 k22 (.array .long) (2 : Int32) [.null, .null] .null := (Arv.new A22 (by decide)).pad (pad_rep [] .null 2)
      have sl22 : ∀ j, szN N j ≤ N + 1 := fun j => own_szLe j
      show Go p e below T22 (mkF m 33 #[.val (.ref a1), .val (.int (Int32.ofNat N)), .val (.int (2 : Int32)), .val (.int (Int32.ofNat (szN N 0))), .unset] [(.ref b22), (.ref a1)]) _
      obtain ⟨T23, h23, X23, e23, W23, st23⟩ := putF X22 hx hZ hown (host := "") (Or.inl (hw _ (List.mem_of_getElem? (i := 13) rfl))) Via.refl e22 F1_q22 E1_q22 (Or.inr ⟨(hw _ (List.mem_of_getElem? (i := 14) rfl)), rfl, hnm⟩) (hw _ (List.mem_of_getElem? (i := 3) rfl)) (ty := (.array (.array .long))) (by decide) rfl rfl (g := (mkF m 33 #[.val (.ref a1), .val (.int (Int32.ofNat N)), .val (.int (2 : Int32)), .val (.int (Int32.ofNat (szN N 0))), .unset] [(.ref b22), (.ref a1)])) rfl rfl (hb hby d1_33)
      refine Go.step st23 ?_
      have N23 := Fr.snoc X23 N0 g1
      have F_levels_a1_q23 := F1_q22.same W23
      have E1_q23 := E1_q22.wr W23
      have V_b22_q23 := V_b22.other W23 (Ne.symm ne_a1_b22)
      have Z23 : n0 ≤ h23.size := by rw [W23.size]; exact Z22
      show Go p e below T23 (mkF m 36 #[.val (.ref a1), .val (.int (Int32.ofNat N)), .val (.int (2 : Int32)), .val (.int (Int32.ofNat (szN N 0))), .unset] []) _
      refine Go.step (fun _ => XS.iloadN X23.here hx rfl (hb hby d1_36) rfl ) ?_
      show Go p e below T23 (mkF m 37 #[.val (.ref a1), .val (.int (Int32.ofNat N)), .val (.int (2 : Int32)), .val (.int (Int32.ofNat (szN N 0))), .unset] [(.int (Int32.ofNat N))]) _
      refine Go.step (fun _ => XS.istoreN X23.here hx rfl (hb hby d1_37) rfl (l' := #[.val (.ref a1), .val (.int (Int32.ofNat N)), .val (.int (2 : Int32)), .val (.int (Int32.ofNat N)), .unset]) rfl) ?_
      show Go p e below T23 (mkF m 38 #[.val (.ref a1), .val (.int (Int32.ofNat N)), .val (.int (2 : Int32)), .val (.int (Int32.ofNat N)), .unset] []) _
      refine Go.step (fun _ => XS.iconst X23.here hx rfl (hb hby d1_38)) ?_
      show Go p e below T23 (mkF m 39 #[.val (.ref a1), .val (.int (Int32.ofNat N)), .val (.int (2 : Int32)), .val (.int (Int32.ofNat N)), .unset] [(.int (0 : Int32))]) _
      refine Go.step (fun _ => XS.istore X23.here hx rfl (hb hby d1_39) rfl (l' := #[.val (.ref a1), .val (.int (Int32.ofNat N)), .val (.int (2 : Int32)), .val (.int (Int32.ofNat N)), .val (.int (0 : Int32))]) rfl) ?_
      show Go p e below T23 (mkF m 41 #[.val (.ref a1), .val (.int (Int32.ofNat N)), .val (.int (2 : Int32)), .val (.int (Int32.ofNat N)), .val (.int (0 : Int32))] []) _
      refine Go.step (fun _ => XS.iload X23.here hx rfl (hb hby d1_41) rfl ) ?_
      show Go p e below T23 (mkF m 43 #[.val (.ref a1), .val (.int (Int32.ofNat N)), .val (.int (2 : Int32)), .val (.int (Int32.ofNat N)), .val (.int (0 : Int32))] [(.int (0 : Int32))]) _
      refine Go.step (fun _ => XS.iloadN X23.here hx rfl (hb hby d1_43) rfl ) ?_
      show Go p e below T23 (mkF m 44 #[.val (.ref a1), .val (.int (Int32.ofNat N)), .val (.int (2 : Int32)), .val (.int (Int32.ofNat N)), .val (.int (0 : Int32))] [(.int (2 : Int32)), (.int (0 : Int32))]) _
      refine Go.step (fun _ => XS.icmpNo X23.here hx rfl (hb hby d1_44) rfl (tlt (by decide)).2.1) ?_
      show Go p e below T23 (mkF m 47 #[.val (.ref a1), .val (.int (Int32.ofNat N)), .val (.int (2 : Int32)), .val (.int (Int32.ofNat N)), .val (.int (0 : Int32))] []) _
      refine Go.step (fun _ => XS.aloadN X23.here hx rfl (hb hby d1_47) rfl rfl ) ?_
      show Go p e below T23 (mkF m 48 #[.val (.ref a1), .val (.int (Int32.ofNat N)), .val (.int (2 : Int32)), .val (.int (Int32.ofNat N)), .val (.int (0 : Int32))] [(.ref a1)]) _
      obtain ⟨T24, X24, e24, st24⟩ := getF X23 hx hZ hown (host := "") (Or.inl (hw _ (List.mem_of_getElem? (i := 13) rfl))) Via.refl e23 F_levels_a1_q23 (g := (mkF m 48 #[.val (.ref a1), .val (.int (Int32.ofNat N)), .val (.int (2 : Int32)), .val (.int (Int32.ofNat N)), .val (.int (0 : Int32))] [(.ref a1)])) rfl rfl (hb hby d1_48)
      refine Go.step st24 ?_
      show Go p e below T24 (mkF m 51 #[.val (.ref a1), .val (.int (Int32.ofNat N)), .val (.int (2 : Int32)), .val (.int (Int32.ofNat N)), .val (.int (0 : Int32))] [(.ref b22)]) _
      refine Go.step (fun _ => XS.iload X24.here hx rfl (hb hby d1_51) rfl ) ?_
      show Go p e below T24 (mkF m 53 #[.val (.ref a1), .val (.int (Int32.ofNat N)), .val (.int (2 : Int32)), .val (.int (Int32.ofNat N)), .val (.int (0 : Int32))] [(.int (0 : Int32)), (.ref b22)]) _
      refine Go.step (fun _ => XS.iconst X24.here hx rfl (hb hby d1_53)) ?_
      show Go p e below T24 (mkF m 54 #[.val (.ref a1), .val (.int (Int32.ofNat N)), .val (.int (2 : Int32)), .val (.int (Int32.ofNat N)), .val (.int (0 : Int32))] [(.int (1 : Int32)), (.int (0 : Int32)), (.ref b22)]) _
      refine Go.step (fun _ => XS.iloadN X24.here hx rfl (hb hby d1_54) rfl ) ?_
      show Go p e below T24 (mkF m 55 #[.val (.ref a1), .val (.int (Int32.ofNat N)), .val (.int (2 : Int32)), .val (.int (Int32.ofNat N)), .val (.int (0 : Int32))] [(.int (Int32.ofNat N)), (.int (1 : Int32)), (.int (0 : Int32)), (.ref b22)]) _
      refine Go.step (fun _ => XS.bipush X24.here hx rfl (hb hby d1_55)) ?_
      show Go p e below T24 (mkF m 57 #[.val (.ref a1), .val (.int (Int32.ofNat N)), .val (.int (2 : Int32)), .val (.int (Int32.ofNat N)), .val (.int (0 : Int32))] [(.int (63 : Int32)), (.int (Int32.ofNat N)), (.int (1 : Int32)), (.int (0 : Int32)), (.ref b22)]) _
      refine Go.step (fun _ => XS.iadd X24.here hx rfl (hb hby d1_57) rfl) ?_
      show Go p e below T24 (mkF m 58 #[.val (.ref a1), .val (.int (Int32.ofNat N)), .val (.int (2 : Int32)), .val (.int (Int32.ofNat N)), .val (.int (0 : Int32))] [(.int ((Int32.ofNat N) + (63 : Int32))), (.int (1 : Int32)), (.int (0 : Int32)), (.ref b22)]) _
      refine Go.step (fun _ => XS.bipush X24.here hx rfl (hb hby d1_58)) ?_
      show Go p e below T24 (mkF m 60 #[.val (.ref a1), .val (.int (Int32.ofNat N)), .val (.int (2 : Int32)), .val (.int (Int32.ofNat N)), .val (.int (0 : Int32))] [(.int (64 : Int32)), (.int ((Int32.ofNat N) + (63 : Int32))), (.int (1 : Int32)), (.int (0 : Int32)), (.ref b22)]) _
      refine Go.step (fun _ => XS.idiv X24.here hx rfl (hb hby d1_60) rfl (by decide)) ?_
      show Go p e below T24 (mkF m 61 #[.val (.ref a1), .val (.int (Int32.ofNat N)), .val (.int (2 : Int32)), .val (.int (Int32.ofNat N)), .val (.int (0 : Int32))] [(.int (((Int32.ofNat N) + (63 : Int32)) / (64 : Int32))), (.int (1 : Int32)), (.int (0 : Int32)), (.ref b22)]) _
      rw [show (Int32.ofNat N + (63 : Int32)) / (64 : Int32) = Int32.ofNat (szN N 0) from own_div64 (by omega)]
      show Go p e below T24 (mkF m 61 #[.val (.ref a1), .val (.int (Int32.ofNat N)), .val (.int (2 : Int32)), .val (.int (Int32.ofNat N)), .val (.int (0 : Int32))] [(.int (Int32.ofNat (szN N 0))), (.int (1 : Int32)), (.int (0 : Int32)), (.ref b22)]) _
      obtain ⟨_, _, ⟨T25, L25, k25, n25⟩, -, X25, ⟨Lc25, hQ25, l25, y25, z25⟩, st25⟩ := Jvm.LawKit.callS X24 hx (y := (⟨"java/lang/Math", "max", "(II)I"⟩ : MethodName)) hown (mvT hZ (hw _ (List.mem_of_getElem? (i := 15) rfl))) (mvT hZ (hw _ (List.mem_of_getElem? (i := 16) rfl))) (mvT hZ (hw _ (List.mem_of_getElem? (i := 17) rfl))) (mvT hZ (hw _ (List.mem_of_getElem? (i := 18) rfl))) (by decide) (backOf (W := 2) (rmMx l Z a0 hw [] (1 : Int32) (Int32.ofNat (szN N 0)) (Int32.ofNat (szN N 0)) h23 n0 Z23 (own_mx1 (by simp only [szN]; omega) (by have := own_szLe (N := N) 0; omega))) hZ (hw _ (List.mem_of_getElem? (i := 18) rfl)) (hw _ (List.mem_of_getElem? (i := 17) rfl)) (by decide) (by decide)) (g := (mkF m 61 #[.val (.ref a1), .val (.int (Int32.ofNat N)), .val (.int (2 : Int32)), .val (.int (Int32.ofNat N)), .val (.int (0 : Int32))] [(.int (Int32.ofNat (szN N 0))), (.int (1 : Int32)), (.int (0 : Int32)), (.ref b22)])) rfl (by rw [hml]; rfl) (argsL := [(.int (1 : Int32)), (.int (Int32.ofNat (szN N 0)))]) (rest := [(.int (0 : Int32)), (.ref b22)]) (lenOf pd_2 rfl) rfl (by show 2 * 0 + _ ≤ _; exact Nat.le_of_eq rfl) (hb hby d1_61) (fun _ _ => ⟨rfl, e24, (by decide : 0 + 1 + 0 ≤ _), (by decide : 0 + 2 + 0 ≤ _)⟩)
      dsimp only [Pt.U, Pt.locs, Pt.cells, Pt.slots] at X25 l25 y25 z25 st25 hQ25
      subst l25 y25 z25
      obtain ⟨rfl, Nq25, eh25⟩ := hQ25
      have N25 := Fr.app N23 Nq25
      refine Go.step st25 ?_
      show Go p e below T25 (mkF m 64 #[.val (.ref a1), .val (.int (Int32.ofNat N)), .val (.int (2 : Int32)), .val (.int (Int32.ofNat N)), .val (.int (0 : Int32))] [(.int (Int32.ofNat (szN N 0))), (.int (0 : Int32)), (.ref b22)]) _
      obtain ⟨T26, h26, k26, X26, e26, E26, A26, B26, st26⟩ := newPE X25 hx hZ (hw _ (List.mem_of_getElem? (i := 19) rfl)) eh25 (g := (mkF m 64 #[.val (.ref a1), .val (.int (Int32.ofNat N)), .val (.int (2 : Int32)), .val (.int (Int32.ofNat N)), .val (.int (0 : Int32))] [(.int (Int32.ofNat (szN N 0))), (.int (0 : Int32)), (.ref b22)])) rfl (hb hby d1_64) rfl (own_nn (by have := own_szLe (N := N) 0; omega)) (cap := 128) (by rw [own_clamp (by have := own_szLe (N := N) 0; omega)]; simp only [szN]; omega) (by decide) (by decide) (by decide) (ad := "[J") (by decide)
      obtain ⟨b26, g26⟩ : ∃ z, z = h23.size := ⟨_, rfl⟩
      rw [← g26] at A26 B26 st26
      have ne_a1_b26 : a1 ≠ b26 := Nat.ne_of_lt (Nat.lt_of_lt_of_le E1_q23.lt (Nat.le_of_eq g26.symm))
      have ne_b22_b26 : b22 ≠ b26 := Nat.ne_of_lt (Nat.lt_of_lt_of_le V_b22_q23.lt (Nat.le_of_eq g26.symm))
      have g_b26 : n0 ≤ b26 := Nat.le_trans Z23 (Nat.le_of_eq g26.symm)
      have E1_q26 := E1_q23.ext E26
      have V_b22_q26 := V_b22_q23.ext E26
      have F_levels_a1_q26 := F_levels_a1_q23.ext E26
      have Z26 : n0 ≤ h26.size := Nat.le_trans Z23 E26.1
      refine Go.step st26 ?_
      have V_b26 : Af Z h26 b26 (szN N 0) (fun _ => 0) := Af.new A26 (by have := own_szLe (N := N) 0; omega)
      show Go p e below T26 (mkF m 66 #[.val (.ref a1), .val (.int (Int32.ofNat N)), .val (.int (2 : Int32)), .val (.int (Int32.ofNat N)), .val (.int (0 : Int32))] [(.ref b26), (.int (0 : Int32)), (.ref b22)]) _
      obtain ⟨cl27, Ar27, qa27, Sz27, Nz27, Ha27, Ga27⟩ := V_b22_q26
      obtain ⟨T28, h28, X28, e28, W28, st28⟩ := stR X26 hx hZ e26 Ar27 (j := (0 : Int32)) (inb_of Sz27 ⟨by decide, by decide⟩) rfl (Sto.ofVA Ar27 qa27 O22 (Ins.self B26)) (g := (mkF m 66 #[.val (.ref a1), .val (.int (Int32.ofNat N)), .val (.int (2 : Int32)), .val (.int (Int32.ofNat N)), .val (.int (0 : Int32))] [(.ref b26), (.int (0 : Int32)), (.ref b22)])) rfl rfl (hb hby d1_66)
      refine Go.step st28 ?_
      have N28 := Fr.snoc X28 N25 g_b22
      have V_b22_q28 : Arv Z h28 b22 k22 (.array .long) (2 : Int32) [(.ref b26), .null] .null := Arv.set Ar27 qa27 Sz27 Nz27 Ha27 Ga27 rfl W28 0 rfl (Nat.le_of_ble_eq_true rfl)
      have E1_q28 := E1_q26.wr W28
      have F_levels_a1_q28 := F_levels_a1_q26.other W28 (Or.inl ne_a1_b22)
      have V_b26_q28 := V_b26.other W28 (Ne.symm ne_b22_b26)
      have Z28 : n0 ≤ h28.size := by rw [W28.size]; exact Z26
      show Go p e below T28 (mkF m 67 #[.val (.ref a1), .val (.int (Int32.ofNat N)), .val (.int (2 : Int32)), .val (.int (Int32.ofNat N)), .val (.int (0 : Int32))] []) _
      refine Go.step (fun _ => XS.iloadN X28.here hx rfl (hb hby d1_67) rfl ) ?_
      show Go p e below T28 (mkF m 68 #[.val (.ref a1), .val (.int (Int32.ofNat N)), .val (.int (2 : Int32)), .val (.int (Int32.ofNat N)), .val (.int (0 : Int32))] [(.int (Int32.ofNat N))]) _
      refine Go.step (fun _ => XS.bipush X28.here hx rfl (hb hby d1_68)) ?_
      show Go p e below T28 (mkF m 70 #[.val (.ref a1), .val (.int (Int32.ofNat N)), .val (.int (2 : Int32)), .val (.int (Int32.ofNat N)), .val (.int (0 : Int32))] [(.int (63 : Int32)), (.int (Int32.ofNat N))]) _
      refine Go.step (fun _ => XS.iadd X28.here hx rfl (hb hby d1_70) rfl) ?_
      show Go p e below T28 (mkF m 71 #[.val (.ref a1), .val (.int (Int32.ofNat N)), .val (.int (2 : Int32)), .val (.int (Int32.ofNat N)), .val (.int (0 : Int32))] [(.int ((Int32.ofNat N) + (63 : Int32)))]) _
      refine Go.step (fun _ => XS.bipush X28.here hx rfl (hb hby d1_71)) ?_
      show Go p e below T28 (mkF m 73 #[.val (.ref a1), .val (.int (Int32.ofNat N)), .val (.int (2 : Int32)), .val (.int (Int32.ofNat N)), .val (.int (0 : Int32))] [(.int (64 : Int32)), (.int ((Int32.ofNat N) + (63 : Int32)))]) _
      refine Go.step (fun _ => XS.idiv X28.here hx rfl (hb hby d1_73) rfl (by decide)) ?_
      show Go p e below T28 (mkF m 74 #[.val (.ref a1), .val (.int (Int32.ofNat N)), .val (.int (2 : Int32)), .val (.int (Int32.ofNat N)), .val (.int (0 : Int32))] [(.int (((Int32.ofNat N) + (63 : Int32)) / (64 : Int32)))]) _
      rw [show (Int32.ofNat N + (63 : Int32)) / (64 : Int32) = Int32.ofNat (szN N 0) from own_div64 (by omega)]
      show Go p e below T28 (mkF m 74 #[.val (.ref a1), .val (.int (Int32.ofNat N)), .val (.int (2 : Int32)), .val (.int (Int32.ofNat N)), .val (.int (0 : Int32))] [(.int (Int32.ofNat (szN N 0)))]) _
      refine Go.step (fun _ => XS.istoreN X28.here hx rfl (hb hby d1_74) rfl (l' := #[.val (.ref a1), .val (.int (Int32.ofNat N)), .val (.int (2 : Int32)), .val (.int (Int32.ofNat (szN N 0))), .val (.int (0 : Int32))]) rfl) ?_
      show Go p e below T28 (mkF m 75 #[.val (.ref a1), .val (.int (Int32.ofNat N)), .val (.int (2 : Int32)), .val (.int (Int32.ofNat (szN N 0))), .val (.int (0 : Int32))] []) _
      refine Go.step (fun _ => XS.iinc X28.here hx rfl (hb hby d1_75) rfl (l' := #[.val (.ref a1), .val (.int (Int32.ofNat N)), .val (.int (2 : Int32)), .val (.int (Int32.ofNat (szN N 0))), .val (.int (1 : Int32))]) rfl) ?_
      show Go p e below T28 (mkF m 78 #[.val (.ref a1), .val (.int (Int32.ofNat N)), .val (.int (2 : Int32)), .val (.int (Int32.ofNat (szN N 0))), .val (.int (1 : Int32))] []) _
      refine Go.step (fun _ => XS.goto X28.here hx rfl (pc0 := 78) (pc' := 41) rfl (hb hby d1_78) (by decide) (by decide)) ?_
      show Go p e below T28 (mkF m 41 #[.val (.ref a1), .val (.int (Int32.ofNat N)), .val (.int (2 : Int32)), .val (.int (Int32.ofNat (szN N 0))), .val (.int (1 : Int32))] []) _
      refine Go.step (fun _ => XS.iload X28.here hx rfl (hb hby d1_41) rfl ) ?_
      show Go p e below T28 (mkF m 43 #[.val (.ref a1), .val (.int (Int32.ofNat N)), .val (.int (2 : Int32)), .val (.int (Int32.ofNat (szN N 0))), .val (.int (1 : Int32))] [(.int (1 : Int32))]) _
      refine Go.step (fun _ => XS.iloadN X28.here hx rfl (hb hby d1_43) rfl ) ?_
      show Go p e below T28 (mkF m 44 #[.val (.ref a1), .val (.int (Int32.ofNat N)), .val (.int (2 : Int32)), .val (.int (Int32.ofNat (szN N 0))), .val (.int (1 : Int32))] [(.int (2 : Int32)), (.int (1 : Int32))]) _
      refine Go.step (fun _ => XS.icmpNo X28.here hx rfl (hb hby d1_44) rfl (tlt (by decide)).2.1) ?_
      show Go p e below T28 (mkF m 47 #[.val (.ref a1), .val (.int (Int32.ofNat N)), .val (.int (2 : Int32)), .val (.int (Int32.ofNat (szN N 0))), .val (.int (1 : Int32))] []) _
      refine Go.step (fun _ => XS.aloadN X28.here hx rfl (hb hby d1_47) rfl rfl ) ?_
      show Go p e below T28 (mkF m 48 #[.val (.ref a1), .val (.int (Int32.ofNat N)), .val (.int (2 : Int32)), .val (.int (Int32.ofNat (szN N 0))), .val (.int (1 : Int32))] [(.ref a1)]) _
      obtain ⟨T29, X29, e29, st29⟩ := getF X28 hx hZ hown (host := "") (Or.inl (hw _ (List.mem_of_getElem? (i := 13) rfl))) Via.refl e28 F_levels_a1_q28 (g := (mkF m 48 #[.val (.ref a1), .val (.int (Int32.ofNat N)), .val (.int (2 : Int32)), .val (.int (Int32.ofNat (szN N 0))), .val (.int (1 : Int32))] [(.ref a1)])) rfl rfl (hb hby d1_48)
      refine Go.step st29 ?_
      show Go p e below T29 (mkF m 51 #[.val (.ref a1), .val (.int (Int32.ofNat N)), .val (.int (2 : Int32)), .val (.int (Int32.ofNat (szN N 0))), .val (.int (1 : Int32))] [(.ref b22)]) _
      refine Go.step (fun _ => XS.iload X29.here hx rfl (hb hby d1_51) rfl ) ?_
      show Go p e below T29 (mkF m 53 #[.val (.ref a1), .val (.int (Int32.ofNat N)), .val (.int (2 : Int32)), .val (.int (Int32.ofNat (szN N 0))), .val (.int (1 : Int32))] [(.int (1 : Int32)), (.ref b22)]) _
      refine Go.step (fun _ => XS.iconst X29.here hx rfl (hb hby d1_53)) ?_
      show Go p e below T29 (mkF m 54 #[.val (.ref a1), .val (.int (Int32.ofNat N)), .val (.int (2 : Int32)), .val (.int (Int32.ofNat (szN N 0))), .val (.int (1 : Int32))] [(.int (1 : Int32)), (.int (1 : Int32)), (.ref b22)]) _
      refine Go.step (fun _ => XS.iloadN X29.here hx rfl (hb hby d1_54) rfl ) ?_
      show Go p e below T29 (mkF m 55 #[.val (.ref a1), .val (.int (Int32.ofNat N)), .val (.int (2 : Int32)), .val (.int (Int32.ofNat (szN N 0))), .val (.int (1 : Int32))] [(.int (Int32.ofNat (szN N 0))), (.int (1 : Int32)), (.int (1 : Int32)), (.ref b22)]) _
      refine Go.step (fun _ => XS.bipush X29.here hx rfl (hb hby d1_55)) ?_
      show Go p e below T29 (mkF m 57 #[.val (.ref a1), .val (.int (Int32.ofNat N)), .val (.int (2 : Int32)), .val (.int (Int32.ofNat (szN N 0))), .val (.int (1 : Int32))] [(.int (63 : Int32)), (.int (Int32.ofNat (szN N 0))), (.int (1 : Int32)), (.int (1 : Int32)), (.ref b22)]) _
      refine Go.step (fun _ => XS.iadd X29.here hx rfl (hb hby d1_57) rfl) ?_
      show Go p e below T29 (mkF m 58 #[.val (.ref a1), .val (.int (Int32.ofNat N)), .val (.int (2 : Int32)), .val (.int (Int32.ofNat (szN N 0))), .val (.int (1 : Int32))] [(.int ((Int32.ofNat (szN N 0)) + (63 : Int32))), (.int (1 : Int32)), (.int (1 : Int32)), (.ref b22)]) _
      refine Go.step (fun _ => XS.bipush X29.here hx rfl (hb hby d1_58)) ?_
      show Go p e below T29 (mkF m 60 #[.val (.ref a1), .val (.int (Int32.ofNat N)), .val (.int (2 : Int32)), .val (.int (Int32.ofNat (szN N 0))), .val (.int (1 : Int32))] [(.int (64 : Int32)), (.int ((Int32.ofNat (szN N 0)) + (63 : Int32))), (.int (1 : Int32)), (.int (1 : Int32)), (.ref b22)]) _
      refine Go.step (fun _ => XS.idiv X29.here hx rfl (hb hby d1_60) rfl (by decide)) ?_
      show Go p e below T29 (mkF m 61 #[.val (.ref a1), .val (.int (Int32.ofNat N)), .val (.int (2 : Int32)), .val (.int (Int32.ofNat (szN N 0))), .val (.int (1 : Int32))] [(.int (((Int32.ofNat (szN N 0)) + (63 : Int32)) / (64 : Int32))), (.int (1 : Int32)), (.int (1 : Int32)), (.ref b22)]) _
      rw [show (Int32.ofNat (szN N 0) + (63 : Int32)) / (64 : Int32) = Int32.ofNat (szN N 1) from own_div64 (by have := own_szLe (N := N) 0; omega)]
      show Go p e below T29 (mkF m 61 #[.val (.ref a1), .val (.int (Int32.ofNat N)), .val (.int (2 : Int32)), .val (.int (Int32.ofNat (szN N 0))), .val (.int (1 : Int32))] [(.int (Int32.ofNat (szN N 1))), (.int (1 : Int32)), (.int (1 : Int32)), (.ref b22)]) _
      obtain ⟨_, _, ⟨T30, L30, k30, n30⟩, -, X30, ⟨Lc30, hQ30, l30, y30, z30⟩, st30⟩ := Jvm.LawKit.callS X29 hx (y := (⟨"java/lang/Math", "max", "(II)I"⟩ : MethodName)) hown (mvT hZ (hw _ (List.mem_of_getElem? (i := 15) rfl))) (mvT hZ (hw _ (List.mem_of_getElem? (i := 16) rfl))) (mvT hZ (hw _ (List.mem_of_getElem? (i := 17) rfl))) (mvT hZ (hw _ (List.mem_of_getElem? (i := 18) rfl))) (by decide) (backOf (W := 2) (rmMx l Z a0 hw [] (1 : Int32) (Int32.ofNat (szN N 1)) (Int32.ofNat (szN N 1)) h28 n0 Z28 (own_mx1 (by simp only [szN]; omega) (by have := own_szLe (N := N) 1; omega))) hZ (hw _ (List.mem_of_getElem? (i := 18) rfl)) (hw _ (List.mem_of_getElem? (i := 17) rfl)) (by decide) (by decide)) (g := (mkF m 61 #[.val (.ref a1), .val (.int (Int32.ofNat N)), .val (.int (2 : Int32)), .val (.int (Int32.ofNat (szN N 0))), .val (.int (1 : Int32))] [(.int (Int32.ofNat (szN N 1))), (.int (1 : Int32)), (.int (1 : Int32)), (.ref b22)])) rfl (by rw [hml]; rfl) (argsL := [(.int (1 : Int32)), (.int (Int32.ofNat (szN N 1)))]) (rest := [(.int (1 : Int32)), (.ref b22)]) (lenOf pd_2 rfl) rfl (by show 2 * 0 + _ ≤ _; exact Nat.le_of_eq rfl) (hb hby d1_61) (fun _ _ => ⟨rfl, e29, (by decide : 0 + 1 + 0 + 1 + 0 ≤ _), (by decide : 0 + 2 + 0 + 128 + 0 ≤ _)⟩)
      dsimp only [Pt.U, Pt.locs, Pt.cells, Pt.slots] at X30 l30 y30 z30 st30 hQ30
      subst l30 y30 z30
      obtain ⟨rfl, Nq30, eh30⟩ := hQ30
      have N30 := Fr.app N28 Nq30
      refine Go.step st30 ?_
      show Go p e below T30 (mkF m 64 #[.val (.ref a1), .val (.int (Int32.ofNat N)), .val (.int (2 : Int32)), .val (.int (Int32.ofNat (szN N 0))), .val (.int (1 : Int32))] [(.int (Int32.ofNat (szN N 1))), (.int (1 : Int32)), (.ref b22)]) _
      obtain ⟨T31, h31, k31, X31, e31, E31, A31, B31, st31⟩ := newPE X30 hx hZ (hw _ (List.mem_of_getElem? (i := 19) rfl)) eh30 (g := (mkF m 64 #[.val (.ref a1), .val (.int (Int32.ofNat N)), .val (.int (2 : Int32)), .val (.int (Int32.ofNat (szN N 0))), .val (.int (1 : Int32))] [(.int (Int32.ofNat (szN N 1))), (.int (1 : Int32)), (.ref b22)])) rfl (hb hby d1_64) rfl (own_nn (by have := own_szLe (N := N) 1; omega)) (cap := 2) (by rw [own_clamp (by have := own_szLe (N := N) 1; omega)]; simp only [szN]; omega) (by decide) (by decide) (by decide) (ad := "[J") (by decide)
      obtain ⟨b31, g31⟩ : ∃ z, z = h28.size := ⟨_, rfl⟩
      rw [← g31] at A31 B31 st31
      have ne_a1_b31 : a1 ≠ b31 := Nat.ne_of_lt (Nat.lt_of_lt_of_le E1_q28.lt (Nat.le_of_eq g31.symm))
      have ne_b26_b31 : b26 ≠ b31 := Nat.ne_of_lt (Nat.lt_of_lt_of_le V_b26_q28.lt (Nat.le_of_eq g31.symm))
      have ne_b22_b31 : b22 ≠ b31 := Nat.ne_of_lt (Nat.lt_of_lt_of_le V_b22_q28.lt (Nat.le_of_eq g31.symm))
      have g_b31 : n0 ≤ b31 := Nat.le_trans Z28 (Nat.le_of_eq g31.symm)
      have E1_q31 := E1_q28.ext E31
      have F_levels_a1_q31 := F_levels_a1_q28.ext E31
      have V_b26_q31 := V_b26_q28.ext E31
      have V_b22_q31 := V_b22_q28.ext E31
      have Z31 : n0 ≤ h31.size := Nat.le_trans Z28 E31.1
      refine Go.step st31 ?_
      have V_b31 : Af Z h31 b31 (szN N 1) (fun _ => 0) := Af.new A31 (by have := own_szLe (N := N) 1; omega)
      show Go p e below T31 (mkF m 66 #[.val (.ref a1), .val (.int (Int32.ofNat N)), .val (.int (2 : Int32)), .val (.int (Int32.ofNat (szN N 0))), .val (.int (1 : Int32))] [(.ref b31), (.int (1 : Int32)), (.ref b22)]) _
      obtain ⟨cl32, Ar32, qa32, Sz32, Nz32, Ha32, Ga32⟩ := V_b22_q31
      obtain ⟨T33, h33, X33, e33, W33, st33⟩ := stR X31 hx hZ e31 Ar32 (j := (1 : Int32)) (inb_of Sz32 ⟨by decide, by decide⟩) rfl (Sto.ofVA Ar32 qa32 O22 (Ins.self B31)) (g := (mkF m 66 #[.val (.ref a1), .val (.int (Int32.ofNat N)), .val (.int (2 : Int32)), .val (.int (Int32.ofNat (szN N 0))), .val (.int (1 : Int32))] [(.ref b31), (.int (1 : Int32)), (.ref b22)])) rfl rfl (hb hby d1_66)
      refine Go.step st33 ?_
      have N33 := Fr.snoc X33 N30 g_b22
      have V_b22_q33 : Arv Z h33 b22 k22 (.array .long) (2 : Int32) [(.ref b26), (.ref b31)] .null := Arv.set Ar32 qa32 Sz32 Nz32 Ha32 Ga32 rfl W33 1 rfl (Nat.le_of_ble_eq_true rfl)
      have E1_q33 := E1_q31.wr W33
      have F_levels_a1_q33 := F_levels_a1_q31.other W33 (Or.inl ne_a1_b22)
      have V_b26_q33 := V_b26_q31.other W33 (Ne.symm ne_b22_b26)
      have V_b31_q33 := V_b31.other W33 (Ne.symm ne_b22_b31)
      have Z33 : n0 ≤ h33.size := by rw [W33.size]; exact Z31
      show Go p e below T33 (mkF m 67 #[.val (.ref a1), .val (.int (Int32.ofNat N)), .val (.int (2 : Int32)), .val (.int (Int32.ofNat (szN N 0))), .val (.int (1 : Int32))] []) _
      refine Go.step (fun _ => XS.iloadN X33.here hx rfl (hb hby d1_67) rfl ) ?_
      show Go p e below T33 (mkF m 68 #[.val (.ref a1), .val (.int (Int32.ofNat N)), .val (.int (2 : Int32)), .val (.int (Int32.ofNat (szN N 0))), .val (.int (1 : Int32))] [(.int (Int32.ofNat (szN N 0)))]) _
      refine Go.step (fun _ => XS.bipush X33.here hx rfl (hb hby d1_68)) ?_
      show Go p e below T33 (mkF m 70 #[.val (.ref a1), .val (.int (Int32.ofNat N)), .val (.int (2 : Int32)), .val (.int (Int32.ofNat (szN N 0))), .val (.int (1 : Int32))] [(.int (63 : Int32)), (.int (Int32.ofNat (szN N 0)))]) _
      refine Go.step (fun _ => XS.iadd X33.here hx rfl (hb hby d1_70) rfl) ?_
      show Go p e below T33 (mkF m 71 #[.val (.ref a1), .val (.int (Int32.ofNat N)), .val (.int (2 : Int32)), .val (.int (Int32.ofNat (szN N 0))), .val (.int (1 : Int32))] [(.int ((Int32.ofNat (szN N 0)) + (63 : Int32)))]) _
      refine Go.step (fun _ => XS.bipush X33.here hx rfl (hb hby d1_71)) ?_
      show Go p e below T33 (mkF m 73 #[.val (.ref a1), .val (.int (Int32.ofNat N)), .val (.int (2 : Int32)), .val (.int (Int32.ofNat (szN N 0))), .val (.int (1 : Int32))] [(.int (64 : Int32)), (.int ((Int32.ofNat (szN N 0)) + (63 : Int32)))]) _
      refine Go.step (fun _ => XS.idiv X33.here hx rfl (hb hby d1_73) rfl (by decide)) ?_
      show Go p e below T33 (mkF m 74 #[.val (.ref a1), .val (.int (Int32.ofNat N)), .val (.int (2 : Int32)), .val (.int (Int32.ofNat (szN N 0))), .val (.int (1 : Int32))] [(.int (((Int32.ofNat (szN N 0)) + (63 : Int32)) / (64 : Int32)))]) _
      rw [show (Int32.ofNat (szN N 0) + (63 : Int32)) / (64 : Int32) = Int32.ofNat (szN N 1) from own_div64 (by have := own_szLe (N := N) 0; omega)]
      show Go p e below T33 (mkF m 74 #[.val (.ref a1), .val (.int (Int32.ofNat N)), .val (.int (2 : Int32)), .val (.int (Int32.ofNat (szN N 0))), .val (.int (1 : Int32))] [(.int (Int32.ofNat (szN N 1)))]) _
      refine Go.step (fun _ => XS.istoreN X33.here hx rfl (hb hby d1_74) rfl (l' := #[.val (.ref a1), .val (.int (Int32.ofNat N)), .val (.int (2 : Int32)), .val (.int (Int32.ofNat (szN N 1))), .val (.int (1 : Int32))]) rfl) ?_
      show Go p e below T33 (mkF m 75 #[.val (.ref a1), .val (.int (Int32.ofNat N)), .val (.int (2 : Int32)), .val (.int (Int32.ofNat (szN N 1))), .val (.int (1 : Int32))] []) _
      refine Go.step (fun _ => XS.iinc X33.here hx rfl (hb hby d1_75) rfl (l' := #[.val (.ref a1), .val (.int (Int32.ofNat N)), .val (.int (2 : Int32)), .val (.int (Int32.ofNat (szN N 1))), .val (.int (2 : Int32))]) rfl) ?_
      show Go p e below T33 (mkF m 78 #[.val (.ref a1), .val (.int (Int32.ofNat N)), .val (.int (2 : Int32)), .val (.int (Int32.ofNat (szN N 1))), .val (.int (2 : Int32))] []) _
      refine Go.step (fun _ => XS.goto X33.here hx rfl (pc0 := 78) (pc' := 41) rfl (hb hby d1_78) (by decide) (by decide)) ?_
      show Go p e below T33 (mkF m 41 #[.val (.ref a1), .val (.int (Int32.ofNat N)), .val (.int (2 : Int32)), .val (.int (Int32.ofNat (szN N 1))), .val (.int (2 : Int32))] []) _
      refine Go.step (fun _ => XS.iload X33.here hx rfl (hb hby d1_41) rfl ) ?_
      show Go p e below T33 (mkF m 43 #[.val (.ref a1), .val (.int (Int32.ofNat N)), .val (.int (2 : Int32)), .val (.int (Int32.ofNat (szN N 1))), .val (.int (2 : Int32))] [(.int (2 : Int32))]) _
      refine Go.step (fun _ => XS.iloadN X33.here hx rfl (hb hby d1_43) rfl ) ?_
      show Go p e below T33 (mkF m 44 #[.val (.ref a1), .val (.int (Int32.ofNat N)), .val (.int (2 : Int32)), .val (.int (Int32.ofNat (szN N 1))), .val (.int (2 : Int32))] [(.int (2 : Int32)), (.int (2 : Int32))]) _
      refine Go.step (fun _ => XS.icmpYes X33.here hx rfl (pc0 := 44) (pc' := 81) rfl (hb hby d1_44) rfl (flt (by decide)).2.1 (by decide) (by decide)) ?_
      show Go p e below T33 (mkF m 81 #[.val (.ref a1), .val (.int (Int32.ofNat N)), .val (.int (2 : Int32)), .val (.int (Int32.ofNat (szN N 1))), .val (.int (2 : Int32))] []) _
      refine Go.ret0 X33 hx hret hlk (hb hby d1_81) ?_ (by decide) (by decide)
      rw [e33]
      obtain ⟨clZ, ArZ, -, SzZ, -, HaZ, -⟩ := id V_b22_q33
      have G1 : Ag Z h33 b22 2 (fun k => ([b26, b31] : List Addr).getD k 0) := ⟨clZ, ArZ, SzZ, fun k hk => match k, hk with
        | 0, _ => HaZ 0 (by rw [SzZ]; decide)
        | 1, _ => HaZ 1 (by rw [SzZ]; decide)
        | n + 2, q => absurd q (by omega)⟩
      have G2 : ∀ k, k < 2 → Af Z h33 (([b26, b31] : List Addr).getD k 0) (szN N k) ((fun _ _ => 0 : Nat → Nat → Int64) k) := fun k hk => match k, hk with
        | 0, _ => V_b26_q33
        | 1, _ => V_b31_q33
        | n + 2, q => absurd q (by omega)
      have G3 : ∀ k, k < 2 → n0 ≤ ([b26, b31] : List Addr).getD k 0 ∧ a1 ≠ ([b26, b31] : List Addr).getD k 0 ∧ b22 ≠ ([b26, b31] : List Addr).getD k 0 := fun k hk => match k, hk with
        | 0, _ => ⟨g_b26, ne_a1_b26, ne_b22_b26⟩
        | 1, _ => ⟨g_b31, ne_a1_b31, ne_b22_b31⟩
        | n + 2, q => absurd q (by omega)
      have G4 : ∀ i j, i < 2 → j < 2 → i ≠ j → ([b26, b31] : List Addr).getD i 0 ≠ ([b26, b31] : List Addr).getD j 0 := fun i j hi hj q => match i, j, hi, hj, q with
        | 0, 0, _, _, q => absurd rfl q
        | 0, 1, _, _, q => ne_b26_b31
        | 1, 0, _, _, q => (Ne.symm ne_b26_b31)
        | 1, 1, _, _, q => absurd rfl q
        | n + 2, _, q, _, _ => absurd q (by omega)
        | _, n + 2, _, q, _ => absurd q (by omega)
      have G5z : szN N (2 - 1) = 1 := by
        have e1 : (szN N 0) ≤ 64 := Nat.le_of_not_lt fun q => hb1 ((own_ltI (i := 64) (by decide) (by have := own_szLe (N := N) 0; omega)).mpr q)
        show szN N 1 = 1
        simp only [szN] at e1 ⊢
        omega
      have G5 : ∀ P, P / 64 < szN N (2 - 1) → P / 64 = 0 := fun P q => by rw [G5z] at q; omega
      exact ⟨rfl, N33, Z33, b22, 2, _, by decide, by decide, ⟨E1_q33, F_levels_a1_q33, G1, G2, G3, G4⟩, G5⟩
  · skip
    refine Go.step (fun _ => XS.icmpYes X4.here hx rfl (pc0 := 11) (pc' := 28) rfl (hb hby d1_11) rfl (flt hb0).2.2.2 (by decide) (by decide)) ?_
    show Go p e below T4 (mkF m 28 #[.val (.ref a1), .val (.int (Int32.ofNat N)), .val (.int (1 : Int32)), .val (.int (Int32.ofNat N)), .unset] []) _
    refine Go.step (fun _ => XS.aloadN X4.here hx rfl (hb hby d1_28) rfl rfl ) ?_
    show Go p e below T4 (mkF m 29 #[.val (.ref a1), .val (.int (Int32.ofNat N)), .val (.int (1 : Int32)), .val (.int (Int32.ofNat N)), .unset] [(.ref a1)]) _
    refine Go.step (fun _ => XS.iloadN X4.here hx rfl (hb hby d1_29) rfl ) ?_
    show Go p e below T4 (mkF m 30 #[.val (.ref a1), .val (.int (Int32.ofNat N)), .val (.int (1 : Int32)), .val (.int (Int32.ofNat N)), .unset] [(.int (1 : Int32)), (.ref a1)]) _
    obtain ⟨T34, h34, k34, X34, e34, E34, A34, B34, O34, st34⟩ := newRA X4 hx hZ hown (C := "[J") (ty := .long) (by decide) (hw _ (List.mem_of_getElem? (i := 11) rfl)) (hw _ (List.mem_of_getElem? (i := 12) rfl)) e4 (g := (mkF m 30 #[.val (.ref a1), .val (.int (Int32.ofNat N)), .val (.int (1 : Int32)), .val (.int (Int32.ofNat N)), .unset] [(.int (1 : Int32)), (.ref a1)])) rfl (hb hby d1_30) rfl (by decide) (cap := 1) (by decide) (by decide) (by decide) (by decide) (ad := "[[J") (by decide)
    obtain ⟨b34, g34⟩ : ∃ z, z = h0.size := ⟨_, rfl⟩
    rw [← g34] at A34 B34 st34
    have ne_a1_b34 : a1 ≠ b34 := Nat.ne_of_lt (Nat.lt_of_lt_of_le E1.lt (Nat.le_of_eq g34.symm))
    have g_b34 : n0 ≤ b34 := Nat.le_trans Z0 (Nat.le_of_eq g34.symm)
    have E1_q34 := E1.ext E34
    have F1_q34 := F1.ext E34
    have Z34 : n0 ≤ h34.size := Nat.le_trans Z0 E34.1
    refine Go.step st34 ?_
    have V_b34 : Arv Z h34 b34 k34 (.array .long) (1 : Int32) [.null] .null := (Arv.new A34 (by decide)).pad (pad_rep [] .null 1)
    have sl34 : ∀ j, szN N j ≤ N + 1 := fun j => own_szLe j
    show Go p e below T34 (mkF m 33 #[.val (.ref a1), .val (.int (Int32.ofNat N)), .val (.int (1 : Int32)), .val (.int (Int32.ofNat N)), .unset] [(.ref b34), (.ref a1)]) _
    obtain ⟨T35, h35, X35, e35, W35, st35⟩ := putF X34 hx hZ hown (host := "") (Or.inl (hw _ (List.mem_of_getElem? (i := 13) rfl))) Via.refl e34 F1_q34 E1_q34 (Or.inr ⟨(hw _ (List.mem_of_getElem? (i := 14) rfl)), rfl, hnm⟩) (hw _ (List.mem_of_getElem? (i := 3) rfl)) (ty := (.array (.array .long))) (by decide) rfl rfl (g := (mkF m 33 #[.val (.ref a1), .val (.int (Int32.ofNat N)), .val (.int (1 : Int32)), .val (.int (Int32.ofNat N)), .unset] [(.ref b34), (.ref a1)])) rfl rfl (hb hby d1_33)
    refine Go.step st35 ?_
    have N35 := Fr.snoc X35 N0 g1
    have F_levels_a1_q35 := F1_q34.same W35
    have E1_q35 := E1_q34.wr W35
    have V_b34_q35 := V_b34.other W35 (Ne.symm ne_a1_b34)
    have Z35 : n0 ≤ h35.size := by rw [W35.size]; exact Z34
    show Go p e below T35 (mkF m 36 #[.val (.ref a1), .val (.int (Int32.ofNat N)), .val (.int (1 : Int32)), .val (.int (Int32.ofNat N)), .unset] []) _
    refine Go.step (fun _ => XS.iloadN X35.here hx rfl (hb hby d1_36) rfl ) ?_
    show Go p e below T35 (mkF m 37 #[.val (.ref a1), .val (.int (Int32.ofNat N)), .val (.int (1 : Int32)), .val (.int (Int32.ofNat N)), .unset] [(.int (Int32.ofNat N))]) _
    refine Go.step (fun _ => XS.istoreN X35.here hx rfl (hb hby d1_37) rfl (l' := #[.val (.ref a1), .val (.int (Int32.ofNat N)), .val (.int (1 : Int32)), .val (.int (Int32.ofNat N)), .unset]) rfl) ?_
    show Go p e below T35 (mkF m 38 #[.val (.ref a1), .val (.int (Int32.ofNat N)), .val (.int (1 : Int32)), .val (.int (Int32.ofNat N)), .unset] []) _
    refine Go.step (fun _ => XS.iconst X35.here hx rfl (hb hby d1_38)) ?_
    show Go p e below T35 (mkF m 39 #[.val (.ref a1), .val (.int (Int32.ofNat N)), .val (.int (1 : Int32)), .val (.int (Int32.ofNat N)), .unset] [(.int (0 : Int32))]) _
    refine Go.step (fun _ => XS.istore X35.here hx rfl (hb hby d1_39) rfl (l' := #[.val (.ref a1), .val (.int (Int32.ofNat N)), .val (.int (1 : Int32)), .val (.int (Int32.ofNat N)), .val (.int (0 : Int32))]) rfl) ?_
    show Go p e below T35 (mkF m 41 #[.val (.ref a1), .val (.int (Int32.ofNat N)), .val (.int (1 : Int32)), .val (.int (Int32.ofNat N)), .val (.int (0 : Int32))] []) _
    refine Go.step (fun _ => XS.iload X35.here hx rfl (hb hby d1_41) rfl ) ?_
    show Go p e below T35 (mkF m 43 #[.val (.ref a1), .val (.int (Int32.ofNat N)), .val (.int (1 : Int32)), .val (.int (Int32.ofNat N)), .val (.int (0 : Int32))] [(.int (0 : Int32))]) _
    refine Go.step (fun _ => XS.iloadN X35.here hx rfl (hb hby d1_43) rfl ) ?_
    show Go p e below T35 (mkF m 44 #[.val (.ref a1), .val (.int (Int32.ofNat N)), .val (.int (1 : Int32)), .val (.int (Int32.ofNat N)), .val (.int (0 : Int32))] [(.int (1 : Int32)), (.int (0 : Int32))]) _
    refine Go.step (fun _ => XS.icmpNo X35.here hx rfl (hb hby d1_44) rfl (tlt (by decide)).2.1) ?_
    show Go p e below T35 (mkF m 47 #[.val (.ref a1), .val (.int (Int32.ofNat N)), .val (.int (1 : Int32)), .val (.int (Int32.ofNat N)), .val (.int (0 : Int32))] []) _
    refine Go.step (fun _ => XS.aloadN X35.here hx rfl (hb hby d1_47) rfl rfl ) ?_
    show Go p e below T35 (mkF m 48 #[.val (.ref a1), .val (.int (Int32.ofNat N)), .val (.int (1 : Int32)), .val (.int (Int32.ofNat N)), .val (.int (0 : Int32))] [(.ref a1)]) _
    obtain ⟨T36, X36, e36, st36⟩ := getF X35 hx hZ hown (host := "") (Or.inl (hw _ (List.mem_of_getElem? (i := 13) rfl))) Via.refl e35 F_levels_a1_q35 (g := (mkF m 48 #[.val (.ref a1), .val (.int (Int32.ofNat N)), .val (.int (1 : Int32)), .val (.int (Int32.ofNat N)), .val (.int (0 : Int32))] [(.ref a1)])) rfl rfl (hb hby d1_48)
    refine Go.step st36 ?_
    show Go p e below T36 (mkF m 51 #[.val (.ref a1), .val (.int (Int32.ofNat N)), .val (.int (1 : Int32)), .val (.int (Int32.ofNat N)), .val (.int (0 : Int32))] [(.ref b34)]) _
    refine Go.step (fun _ => XS.iload X36.here hx rfl (hb hby d1_51) rfl ) ?_
    show Go p e below T36 (mkF m 53 #[.val (.ref a1), .val (.int (Int32.ofNat N)), .val (.int (1 : Int32)), .val (.int (Int32.ofNat N)), .val (.int (0 : Int32))] [(.int (0 : Int32)), (.ref b34)]) _
    refine Go.step (fun _ => XS.iconst X36.here hx rfl (hb hby d1_53)) ?_
    show Go p e below T36 (mkF m 54 #[.val (.ref a1), .val (.int (Int32.ofNat N)), .val (.int (1 : Int32)), .val (.int (Int32.ofNat N)), .val (.int (0 : Int32))] [(.int (1 : Int32)), (.int (0 : Int32)), (.ref b34)]) _
    refine Go.step (fun _ => XS.iloadN X36.here hx rfl (hb hby d1_54) rfl ) ?_
    show Go p e below T36 (mkF m 55 #[.val (.ref a1), .val (.int (Int32.ofNat N)), .val (.int (1 : Int32)), .val (.int (Int32.ofNat N)), .val (.int (0 : Int32))] [(.int (Int32.ofNat N)), (.int (1 : Int32)), (.int (0 : Int32)), (.ref b34)]) _
    refine Go.step (fun _ => XS.bipush X36.here hx rfl (hb hby d1_55)) ?_
    show Go p e below T36 (mkF m 57 #[.val (.ref a1), .val (.int (Int32.ofNat N)), .val (.int (1 : Int32)), .val (.int (Int32.ofNat N)), .val (.int (0 : Int32))] [(.int (63 : Int32)), (.int (Int32.ofNat N)), (.int (1 : Int32)), (.int (0 : Int32)), (.ref b34)]) _
    refine Go.step (fun _ => XS.iadd X36.here hx rfl (hb hby d1_57) rfl) ?_
    show Go p e below T36 (mkF m 58 #[.val (.ref a1), .val (.int (Int32.ofNat N)), .val (.int (1 : Int32)), .val (.int (Int32.ofNat N)), .val (.int (0 : Int32))] [(.int ((Int32.ofNat N) + (63 : Int32))), (.int (1 : Int32)), (.int (0 : Int32)), (.ref b34)]) _
    refine Go.step (fun _ => XS.bipush X36.here hx rfl (hb hby d1_58)) ?_
    show Go p e below T36 (mkF m 60 #[.val (.ref a1), .val (.int (Int32.ofNat N)), .val (.int (1 : Int32)), .val (.int (Int32.ofNat N)), .val (.int (0 : Int32))] [(.int (64 : Int32)), (.int ((Int32.ofNat N) + (63 : Int32))), (.int (1 : Int32)), (.int (0 : Int32)), (.ref b34)]) _
    refine Go.step (fun _ => XS.idiv X36.here hx rfl (hb hby d1_60) rfl (by decide)) ?_
    show Go p e below T36 (mkF m 61 #[.val (.ref a1), .val (.int (Int32.ofNat N)), .val (.int (1 : Int32)), .val (.int (Int32.ofNat N)), .val (.int (0 : Int32))] [(.int (((Int32.ofNat N) + (63 : Int32)) / (64 : Int32))), (.int (1 : Int32)), (.int (0 : Int32)), (.ref b34)]) _
    rw [show (Int32.ofNat N + (63 : Int32)) / (64 : Int32) = Int32.ofNat (szN N 0) from own_div64 (by omega)]
    show Go p e below T36 (mkF m 61 #[.val (.ref a1), .val (.int (Int32.ofNat N)), .val (.int (1 : Int32)), .val (.int (Int32.ofNat N)), .val (.int (0 : Int32))] [(.int (Int32.ofNat (szN N 0))), (.int (1 : Int32)), (.int (0 : Int32)), (.ref b34)]) _
    obtain ⟨_, _, ⟨T37, L37, k37, n37⟩, -, X37, ⟨Lc37, hQ37, l37, y37, z37⟩, st37⟩ := Jvm.LawKit.callS X36 hx (y := (⟨"java/lang/Math", "max", "(II)I"⟩ : MethodName)) hown (mvT hZ (hw _ (List.mem_of_getElem? (i := 15) rfl))) (mvT hZ (hw _ (List.mem_of_getElem? (i := 16) rfl))) (mvT hZ (hw _ (List.mem_of_getElem? (i := 17) rfl))) (mvT hZ (hw _ (List.mem_of_getElem? (i := 18) rfl))) (by decide) (backOf (W := 2) (rmMx l Z a0 hw [] (1 : Int32) (Int32.ofNat (szN N 0)) (Int32.ofNat (szN N 0)) h35 n0 Z35 (own_mx1 (by simp only [szN]; omega) (by have := own_szLe (N := N) 0; omega))) hZ (hw _ (List.mem_of_getElem? (i := 18) rfl)) (hw _ (List.mem_of_getElem? (i := 17) rfl)) (by decide) (by decide)) (g := (mkF m 61 #[.val (.ref a1), .val (.int (Int32.ofNat N)), .val (.int (1 : Int32)), .val (.int (Int32.ofNat N)), .val (.int (0 : Int32))] [(.int (Int32.ofNat (szN N 0))), (.int (1 : Int32)), (.int (0 : Int32)), (.ref b34)])) rfl (by rw [hml]; rfl) (argsL := [(.int (1 : Int32)), (.int (Int32.ofNat (szN N 0)))]) (rest := [(.int (0 : Int32)), (.ref b34)]) (lenOf pd_2 rfl) rfl (by show 2 * 0 + _ ≤ _; exact Nat.le_of_eq rfl) (hb hby d1_61) (fun _ _ => ⟨rfl, e36, (by decide : 0 + 1 + 0 ≤ _), (by decide : 0 + 1 + 0 ≤ _)⟩)
    dsimp only [Pt.U, Pt.locs, Pt.cells, Pt.slots] at X37 l37 y37 z37 st37 hQ37
    subst l37 y37 z37
    obtain ⟨rfl, Nq37, eh37⟩ := hQ37
    have N37 := Fr.app N35 Nq37
    refine Go.step st37 ?_
    show Go p e below T37 (mkF m 64 #[.val (.ref a1), .val (.int (Int32.ofNat N)), .val (.int (1 : Int32)), .val (.int (Int32.ofNat N)), .val (.int (0 : Int32))] [(.int (Int32.ofNat (szN N 0))), (.int (0 : Int32)), (.ref b34)]) _
    obtain ⟨T38, h38, k38, X38, e38, E38, A38, B38, st38⟩ := newPE X37 hx hZ (hw _ (List.mem_of_getElem? (i := 19) rfl)) eh37 (g := (mkF m 64 #[.val (.ref a1), .val (.int (Int32.ofNat N)), .val (.int (1 : Int32)), .val (.int (Int32.ofNat N)), .val (.int (0 : Int32))] [(.int (Int32.ofNat (szN N 0))), (.int (0 : Int32)), (.ref b34)])) rfl (hb hby d1_64) rfl (own_nn (by have := own_szLe (N := N) 0; omega)) (cap := 128) (by rw [own_clamp (by have := own_szLe (N := N) 0; omega)]; simp only [szN]; omega) (by decide) (by decide) (by decide) (ad := "[J") (by decide)
    obtain ⟨b38, g38⟩ : ∃ z, z = h35.size := ⟨_, rfl⟩
    rw [← g38] at A38 B38 st38
    have ne_a1_b38 : a1 ≠ b38 := Nat.ne_of_lt (Nat.lt_of_lt_of_le E1_q35.lt (Nat.le_of_eq g38.symm))
    have ne_b34_b38 : b34 ≠ b38 := Nat.ne_of_lt (Nat.lt_of_lt_of_le V_b34_q35.lt (Nat.le_of_eq g38.symm))
    have g_b38 : n0 ≤ b38 := Nat.le_trans Z35 (Nat.le_of_eq g38.symm)
    have E1_q38 := E1_q35.ext E38
    have V_b34_q38 := V_b34_q35.ext E38
    have F_levels_a1_q38 := F_levels_a1_q35.ext E38
    have Z38 : n0 ≤ h38.size := Nat.le_trans Z35 E38.1
    refine Go.step st38 ?_
    have V_b38 : Af Z h38 b38 (szN N 0) (fun _ => 0) := Af.new A38 (by have := own_szLe (N := N) 0; omega)
    show Go p e below T38 (mkF m 66 #[.val (.ref a1), .val (.int (Int32.ofNat N)), .val (.int (1 : Int32)), .val (.int (Int32.ofNat N)), .val (.int (0 : Int32))] [(.ref b38), (.int (0 : Int32)), (.ref b34)]) _
    obtain ⟨cl39, Ar39, qa39, Sz39, Nz39, Ha39, Ga39⟩ := V_b34_q38
    obtain ⟨T40, h40, X40, e40, W40, st40⟩ := stR X38 hx hZ e38 Ar39 (j := (0 : Int32)) (inb_of Sz39 ⟨by decide, by decide⟩) rfl (Sto.ofVA Ar39 qa39 O34 (Ins.self B38)) (g := (mkF m 66 #[.val (.ref a1), .val (.int (Int32.ofNat N)), .val (.int (1 : Int32)), .val (.int (Int32.ofNat N)), .val (.int (0 : Int32))] [(.ref b38), (.int (0 : Int32)), (.ref b34)])) rfl rfl (hb hby d1_66)
    refine Go.step st40 ?_
    have N40 := Fr.snoc X40 N37 g_b34
    have V_b34_q40 : Arv Z h40 b34 k34 (.array .long) (1 : Int32) [(.ref b38)] .null := Arv.set Ar39 qa39 Sz39 Nz39 Ha39 Ga39 rfl W40 0 rfl (Nat.le_of_ble_eq_true rfl)
    have E1_q40 := E1_q38.wr W40
    have F_levels_a1_q40 := F_levels_a1_q38.other W40 (Or.inl ne_a1_b34)
    have V_b38_q40 := V_b38.other W40 (Ne.symm ne_b34_b38)
    have Z40 : n0 ≤ h40.size := by rw [W40.size]; exact Z38
    show Go p e below T40 (mkF m 67 #[.val (.ref a1), .val (.int (Int32.ofNat N)), .val (.int (1 : Int32)), .val (.int (Int32.ofNat N)), .val (.int (0 : Int32))] []) _
    refine Go.step (fun _ => XS.iloadN X40.here hx rfl (hb hby d1_67) rfl ) ?_
    show Go p e below T40 (mkF m 68 #[.val (.ref a1), .val (.int (Int32.ofNat N)), .val (.int (1 : Int32)), .val (.int (Int32.ofNat N)), .val (.int (0 : Int32))] [(.int (Int32.ofNat N))]) _
    refine Go.step (fun _ => XS.bipush X40.here hx rfl (hb hby d1_68)) ?_
    show Go p e below T40 (mkF m 70 #[.val (.ref a1), .val (.int (Int32.ofNat N)), .val (.int (1 : Int32)), .val (.int (Int32.ofNat N)), .val (.int (0 : Int32))] [(.int (63 : Int32)), (.int (Int32.ofNat N))]) _
    refine Go.step (fun _ => XS.iadd X40.here hx rfl (hb hby d1_70) rfl) ?_
    show Go p e below T40 (mkF m 71 #[.val (.ref a1), .val (.int (Int32.ofNat N)), .val (.int (1 : Int32)), .val (.int (Int32.ofNat N)), .val (.int (0 : Int32))] [(.int ((Int32.ofNat N) + (63 : Int32)))]) _
    refine Go.step (fun _ => XS.bipush X40.here hx rfl (hb hby d1_71)) ?_
    show Go p e below T40 (mkF m 73 #[.val (.ref a1), .val (.int (Int32.ofNat N)), .val (.int (1 : Int32)), .val (.int (Int32.ofNat N)), .val (.int (0 : Int32))] [(.int (64 : Int32)), (.int ((Int32.ofNat N) + (63 : Int32)))]) _
    refine Go.step (fun _ => XS.idiv X40.here hx rfl (hb hby d1_73) rfl (by decide)) ?_
    show Go p e below T40 (mkF m 74 #[.val (.ref a1), .val (.int (Int32.ofNat N)), .val (.int (1 : Int32)), .val (.int (Int32.ofNat N)), .val (.int (0 : Int32))] [(.int (((Int32.ofNat N) + (63 : Int32)) / (64 : Int32)))]) _
    rw [show (Int32.ofNat N + (63 : Int32)) / (64 : Int32) = Int32.ofNat (szN N 0) from own_div64 (by omega)]
    show Go p e below T40 (mkF m 74 #[.val (.ref a1), .val (.int (Int32.ofNat N)), .val (.int (1 : Int32)), .val (.int (Int32.ofNat N)), .val (.int (0 : Int32))] [(.int (Int32.ofNat (szN N 0)))]) _
    refine Go.step (fun _ => XS.istoreN X40.here hx rfl (hb hby d1_74) rfl (l' := #[.val (.ref a1), .val (.int (Int32.ofNat N)), .val (.int (1 : Int32)), .val (.int (Int32.ofNat (szN N 0))), .val (.int (0 : Int32))]) rfl) ?_
    show Go p e below T40 (mkF m 75 #[.val (.ref a1), .val (.int (Int32.ofNat N)), .val (.int (1 : Int32)), .val (.int (Int32.ofNat (szN N 0))), .val (.int (0 : Int32))] []) _
    refine Go.step (fun _ => XS.iinc X40.here hx rfl (hb hby d1_75) rfl (l' := #[.val (.ref a1), .val (.int (Int32.ofNat N)), .val (.int (1 : Int32)), .val (.int (Int32.ofNat (szN N 0))), .val (.int (1 : Int32))]) rfl) ?_
    show Go p e below T40 (mkF m 78 #[.val (.ref a1), .val (.int (Int32.ofNat N)), .val (.int (1 : Int32)), .val (.int (Int32.ofNat (szN N 0))), .val (.int (1 : Int32))] []) _
    refine Go.step (fun _ => XS.goto X40.here hx rfl (pc0 := 78) (pc' := 41) rfl (hb hby d1_78) (by decide) (by decide)) ?_
    show Go p e below T40 (mkF m 41 #[.val (.ref a1), .val (.int (Int32.ofNat N)), .val (.int (1 : Int32)), .val (.int (Int32.ofNat (szN N 0))), .val (.int (1 : Int32))] []) _
    refine Go.step (fun _ => XS.iload X40.here hx rfl (hb hby d1_41) rfl ) ?_
    show Go p e below T40 (mkF m 43 #[.val (.ref a1), .val (.int (Int32.ofNat N)), .val (.int (1 : Int32)), .val (.int (Int32.ofNat (szN N 0))), .val (.int (1 : Int32))] [(.int (1 : Int32))]) _
    refine Go.step (fun _ => XS.iloadN X40.here hx rfl (hb hby d1_43) rfl ) ?_
    show Go p e below T40 (mkF m 44 #[.val (.ref a1), .val (.int (Int32.ofNat N)), .val (.int (1 : Int32)), .val (.int (Int32.ofNat (szN N 0))), .val (.int (1 : Int32))] [(.int (1 : Int32)), (.int (1 : Int32))]) _
    refine Go.step (fun _ => XS.icmpYes X40.here hx rfl (pc0 := 44) (pc' := 81) rfl (hb hby d1_44) rfl (flt (by decide)).2.1 (by decide) (by decide)) ?_
    show Go p e below T40 (mkF m 81 #[.val (.ref a1), .val (.int (Int32.ofNat N)), .val (.int (1 : Int32)), .val (.int (Int32.ofNat (szN N 0))), .val (.int (1 : Int32))] []) _
    refine Go.ret0 X40 hx hret hlk (hb hby d1_81) ?_ (by decide) (by decide)
    rw [e40]
    obtain ⟨clZ, ArZ, -, SzZ, -, HaZ, -⟩ := id V_b34_q40
    have G1 : Ag Z h40 b34 1 (fun k => ([b38] : List Addr).getD k 0) := ⟨clZ, ArZ, SzZ, fun k hk => match k, hk with
      | 0, _ => HaZ 0 (by rw [SzZ]; decide)
      | n + 1, q => absurd q (by omega)⟩
    have G2 : ∀ k, k < 1 → Af Z h40 (([b38] : List Addr).getD k 0) (szN N k) ((fun _ _ => 0 : Nat → Nat → Int64) k) := fun k hk => match k, hk with
      | 0, _ => V_b38_q40
      | n + 1, q => absurd q (by omega)
    have G3 : ∀ k, k < 1 → n0 ≤ ([b38] : List Addr).getD k 0 ∧ a1 ≠ ([b38] : List Addr).getD k 0 ∧ b34 ≠ ([b38] : List Addr).getD k 0 := fun k hk => match k, hk with
      | 0, _ => ⟨g_b38, ne_a1_b38, ne_b34_b38⟩
      | n + 1, q => absurd q (by omega)
    have G4 : ∀ i j, i < 1 → j < 1 → i ≠ j → ([b38] : List Addr).getD i 0 ≠ ([b38] : List Addr).getD j 0 := fun i j hi hj q => match i, j, hi, hj, q with
      | 0, 0, _, _, q => absurd rfl q
      | n + 1, _, q, _, _ => absurd q (by omega)
      | _, n + 1, _, q, _ => absurd q (by omega)
    have G5z : szN N (1 - 1) = 1 := by
      have e1 : N ≤ 64 := Nat.le_of_not_lt fun q => hb0 ((own_ltI (i := 64) (by decide) (by omega)).mpr q)
      show szN N 0 = 1
      simp only [szN] at e1 ⊢
      omega
    have G5 : ∀ P, P / 64 < szN N (1 - 1) → P / 64 = 0 := fun P q => by rw [G5z] at q; omega
    exact ⟨rfl, N40, Z40, b34, 1, _, by decide, by decide, ⟨E1_q40, F_levels_a1_q40, G1, G2, G3, G4⟩, G5⟩
theorem d4_0 : decode prog_61_method_2_code 0 = .ok (.iload_n 1, 1) := by decide +kernel
theorem d4_1 : decode prog_61_method_2_code 1 = .ok (.istore_n 2, 1) := by decide +kernel
theorem d4_2 : decode prog_61_method_2_code 2 = .ok (.aload_n 0, 1) := by decide +kernel
theorem d4_3 : decode prog_61_method_2_code 3 = .ok (.getfield 9, 3) := by decide +kernel
theorem d4_6 : decode prog_61_method_2_code 6 = .ok (.astore_n 3, 1) := by decide +kernel
theorem d4_7 : decode prog_61_method_2_code 7 = .ok (.aload_n 3, 1) := by decide +kernel
theorem d4_8 : decode prog_61_method_2_code 8 = .ok (.arraylength, 1) := by decide +kernel
theorem d4_9 : decode prog_61_method_2_code 9 = .ok (.istore 4, 2) := by decide +kernel
theorem d4_11 : decode prog_61_method_2_code 11 = .ok (.iconst 0, 1) := by decide +kernel
theorem d4_12 : decode prog_61_method_2_code 12 = .ok (.istore 5, 2) := by decide +kernel
theorem d4_14 : decode prog_61_method_2_code 14 = .ok (.iload 5, 2) := by decide +kernel
theorem d4_16 : decode prog_61_method_2_code 16 = .ok (.iload 4, 2) := by decide +kernel
theorem d4_18 : decode prog_61_method_2_code 18 = .ok (.if_icmp .ge 58, 3) := by decide +kernel
theorem d4_21 : decode prog_61_method_2_code 21 = .ok (.aload_n 3, 1) := by decide +kernel
theorem d4_22 : decode prog_61_method_2_code 22 = .ok (.iload 5, 2) := by decide +kernel
theorem d4_24 : decode prog_61_method_2_code 24 = .ok (.aaload, 1) := by decide +kernel
theorem d4_25 : decode prog_61_method_2_code 25 = .ok (.astore 6, 2) := by decide +kernel
theorem d4_27 : decode prog_61_method_2_code 27 = .ok (.iload_n 2, 1) := by decide +kernel
theorem d4_28 : decode prog_61_method_2_code 28 = .ok (.bipush 6, 2) := by decide +kernel
theorem d4_30 : decode prog_61_method_2_code 30 = .ok (.iushr, 1) := by decide +kernel
theorem d4_31 : decode prog_61_method_2_code 31 = .ok (.istore 7, 2) := by decide +kernel
theorem d4_33 : decode prog_61_method_2_code 33 = .ok (.aload 6, 2) := by decide +kernel
theorem d4_35 : decode prog_61_method_2_code 35 = .ok (.iload 7, 2) := by decide +kernel
theorem d4_37 : decode prog_61_method_2_code 37 = .ok (.laload, 1) := by decide +kernel
theorem d4_38 : decode prog_61_method_2_code 38 = .ok (.lconst 0, 1) := by decide +kernel
theorem d4_39 : decode prog_61_method_2_code 39 = .ok (.lcmp, 1) := by decide +kernel
theorem d4_40 : decode prog_61_method_2_code 40 = .ok (.ifCond .ne 7, 3) := by decide +kernel
theorem d4_43 : decode prog_61_method_2_code 43 = .ok (.iconst 1, 1) := by decide +kernel
theorem d4_44 : decode prog_61_method_2_code 44 = .ok (.goto 4, 3) := by decide +kernel
theorem d4_47 : decode prog_61_method_2_code 47 = .ok (.iconst 0, 1) := by decide +kernel
theorem d4_48 : decode prog_61_method_2_code 48 = .ok (.istore 8, 2) := by decide +kernel
theorem d4_50 : decode prog_61_method_2_code 50 = .ok (.aload 6, 2) := by decide +kernel
theorem d4_52 : decode prog_61_method_2_code 52 = .ok (.iload 7, 2) := by decide +kernel
theorem d4_54 : decode prog_61_method_2_code 54 = .ok (.dup2, 1) := by decide +kernel
theorem d4_55 : decode prog_61_method_2_code 55 = .ok (.laload, 1) := by decide +kernel
theorem d4_56 : decode prog_61_method_2_code 56 = .ok (.lconst 1, 1) := by decide +kernel
theorem d4_57 : decode prog_61_method_2_code 57 = .ok (.iload_n 2, 1) := by decide +kernel
theorem d4_58 : decode prog_61_method_2_code 58 = .ok (.lshl, 1) := by decide +kernel
theorem d4_59 : decode prog_61_method_2_code 59 = .ok (.lor, 1) := by decide +kernel
theorem d4_60 : decode prog_61_method_2_code 60 = .ok (.lastore, 1) := by decide +kernel
theorem d4_61 : decode prog_61_method_2_code 61 = .ok (.iload 8, 2) := by decide +kernel
theorem d4_63 : decode prog_61_method_2_code 63 = .ok (.ifCond .ne 4, 3) := by decide +kernel
theorem d4_66 : decode prog_61_method_2_code 66 = .ok (.return_, 1) := by decide +kernel
theorem d4_67 : decode prog_61_method_2_code 67 = .ok (.iload 7, 2) := by decide +kernel
theorem d4_69 : decode prog_61_method_2_code 69 = .ok (.istore_n 2, 1) := by decide +kernel
theorem d4_70 : decode prog_61_method_2_code 70 = .ok (.iinc 5 1, 3) := by decide +kernel
theorem d4_73 : decode prog_61_method_2_code 73 = .ok (.goto (-59), 3) := by decide +kernel
theorem d4_76 : decode prog_61_method_2_code 76 = .ok (.return_, 1) := by decide +kernel
theorem ef_rmAdd (m : MethodId) (x0 : Addr) (x1 : Int32) : entryFrame m #[(.ref x0), (.int x1)] 9 = mkF m 0 #[.val (.ref x0), .val (.int x1), .unset, .unset, .unset, .unset, .unset, .unset, .unset] [] := by first | (simp [entryFrame, mkF, argsToLocals, Value.category]; done) | rfl
def QAdd (Z : State) (a A : Addr) (M : Nat) (lv : Nat → Addr) (sz : Nat → Nat) (f : Nat → Nat → Int64) (S : Nat → Prop) (P : Nat) (h0 : Heap) (n0 : Nat) (v : Option Value) (h : Heap) (L : List Loc) : Prop := v = none ∧ Fr n0 L ∧ n0 ≤ h.size ∧ ∃ f', Tree Z h n0 a A M lv sz f' ∧ Rep M sz f' (fun q => S q ∨ q = P)
set_option maxRecDepth 65536 in
set_option maxHeartbeats 40000000 in
theorem rmAdd (l : Launch) (Z : State) (a0 : Array Value) (hw : ∀ d ∈ tables_1, d.before a0 Z = true) (ws : List Jvm.Cond) (a A : Addr) (M : Nat) (lv : Nat → Addr) (sz : Nat → Nat) (f : Nat → Nat → Int64) (S : Nat → Prop) (P : Nat) (h0 : Heap) (n0 : Nat) (Z0 : n0 ≤ h0.size) (T0 : Tree Z h0 n0 a A M lv sz f) (hR : Rep M sz f S) (hM : M ≤ 8) (hszb : ∀ k, k < M → sz k < 2 ^ 31) (hP : P < 2 ^ 31) (hsz : ∀ k, k < M → P / 64 ^ k / 64 < sz k) :
    MetFree l (⟨"com/example/maxhue/maxhue/PointSet", "add", "(I)V"⟩ : MethodName) (head1 (Jvm.Cond.code (⟨"com/example/maxhue/maxhue/PointSet", "add", "(I)V"⟩ : MethodName) prog_61_method_2_code 9 none :: ws) ({ frames := 0, cells := 0, slots := 0, locals := 0 } : Room)) (fun as' U => as' = #[(.ref a), (.int (Int32.ofNat P))] ∧ Z.Warmed39 U.vm ∧ U.heap = h0) (fun _ _ _ _ _ => True) (fun _ U o U' => ∃ v L, o = .returned v ∧ QAdd Z a A M lv sz f S P h0 n0 v U'.heap L ∧ FrameEnd U o U' L ({ frames := 0, cells := 0, slots := 0, locals := 0 } : Room).cells ({ frames := 0, cells := 0, slots := 0, locals := 0 } : Room).slots) := by
  refine MetFree.of_bodySF (plainFor_of_name pn_2) hisR ?_
  intro p e s m args below meth c s₁ Bd hml0 hP hK
  obtain ⟨rfl, hZ, hh⟩ := hP
  have hx := Bd.exec
  have hby := Bd.bytes
  have hml : c.maxLocals = 9 := hml0
  have hown : s.vm.findClass "com/example/maxhue/maxhue/PointSet" = some m.cls := findClass_of_methodNamed Bd.named
  have hnm := (name_of_methodNamed Bd.named Bd.method).1
  have hlk : meth.locks = false := Bd.notSynchronized
  have hret := Bd.returns
  have X0 : Stand p l e ({ frames := 0, cells := 0, slots := 0, locals := 0 } : Room) s m #[(.ref a), (.int (Int32.ofNat P))] below meth c s₁ [] 0 0 := Stand.of_body Bd
  have e0 : s₁.heap = h0 := by rw [← hh, Bd.state]; rfl
  have N0 := Fr.nil n0
  show Go p e below s₁ (entryFrame m #[(.ref a), (.int (Int32.ofNat P))] 9) (Fin s (QAdd Z a A M lv sz f S P h0 n0) ({ frames := 0, cells := 0, slots := 0, locals := 0 } : Room).cells ({ frames := 0, cells := 0, slots := 0, locals := 0 } : Room).slots)
  rw [ef_rmAdd]
  have Tr := T0
  have loop : ∀ (r k : Nat) (hk : k + r = M) (f : Nat → Nat → Int64) (s6 s7 s8 : Slot) (o6 : One s6) (o7 : One s7) (o8 : One s8) (hlo : ∀ j, j < k → RepAt sz f (fun q => S q ∨ q = P) j) (hhi : ∀ j, k ≤ j → j < M → RepAt sz f S j) (hp : Heap) (locs : List Loc) (N : Fr n0 locs) (T : State) (X : Stand p l e ({ frames := 0, cells := 0, slots := 0, locals := 0 } : Room) s m #[(.ref a), (.int (Int32.ofNat P))] below meth c T locs 0 0) (eT : T.heap = hp) (hZs : n0 ≤ hp.size) (Tr : Tree Z hp n0 a A M lv sz f), Go p e below T (mkF m 14 #[.val (.ref a), .val (.int (Int32.ofNat P)), .val (.int (Int32.ofNat (P / 64 ^ k))), .val (.ref A), .val (.int (Int32.ofNat M)), .val (.int (Int32.ofNat k)), s6, s7, s8] []) (Fin s (QAdd Z a A M lv sz f S P h0 n0) ({ frames := 0, cells := 0, slots := 0, locals := 0 } : Room).cells ({ frames := 0, cells := 0, slots := 0, locals := 0 } : Room).slots) := by
    clear Tr T0 hR
    intro r
    induction r with
    | zero =>
      intro k hk f s6 s7 s8 o6 o7 o8 hlo hhi hp locs N T X eT hZs Tr
      obtain rfl : k = M := by omega
      show Go p e below T (mkF m 14 #[.val (.ref a), .val (.int (Int32.ofNat P)), .val (.int (Int32.ofNat (P / 64 ^ k))), .val (.ref A), .val (.int (Int32.ofNat k)), .val (.int (Int32.ofNat k)), s6, s7, s8] []) _
      refine Go.step (fun _ => XS.iload X.here hx rfl (hb hby d4_14) rfl ) ?_
      show Go p e below T (mkF m 16 #[.val (.ref a), .val (.int (Int32.ofNat P)), .val (.int (Int32.ofNat (P / 64 ^ k))), .val (.ref A), .val (.int (Int32.ofNat k)), .val (.int (Int32.ofNat k)), s6, s7, s8] [(.int (Int32.ofNat k))]) _
      refine Go.step (fun _ => XS.iload X.here hx rfl (hb hby d4_16) rfl ) ?_
      show Go p e below T (mkF m 18 #[.val (.ref a), .val (.int (Int32.ofNat P)), .val (.int (Int32.ofNat (P / 64 ^ k))), .val (.ref A), .val (.int (Int32.ofNat k)), .val (.int (Int32.ofNat k)), s6, s7, s8] [(.int (Int32.ofNat k)), (.int (Int32.ofNat k))]) _
      refine Go.step (fun _ => XS.icmpYes X.here hx rfl (pc0 := 18) (pc' := 76) rfl (hb hby d4_18) rfl (flt (fun q => absurd ((own_ltI (by omega) (by omega)).mp q) (Nat.lt_irrefl _))).2.1 (by decide) (by decide)) ?_
      show Go p e below T (mkF m 76 #[.val (.ref a), .val (.int (Int32.ofNat P)), .val (.int (Int32.ofNat (P / 64 ^ k))), .val (.ref A), .val (.int (Int32.ofNat k)), .val (.int (Int32.ofNat k)), s6, s7, s8] []) _
      refine Go.ret0 X hx hret hlk (hb hby d4_76) ?_ (by decide) (by decide)
      rw [eT]
      exact ⟨rfl, N, hZs, f, Tr, fun j q => hlo j q⟩
    | succ r ih =>
      intro k hk f s6 s7 s8 o6 o7 o8 hlo hhi hp locs N T X eT hZs Tr
      have hkM : k < M := by omega
      have hwz : P / 64 ^ k / 64 < sz k := hsz k hkM
      have hKb : P / 64 ^ k < 2 ^ 31 := Nat.lt_of_le_of_lt (Nat.div_le_self _ _) hP
      show Go p e below T (mkF m 14 #[.val (.ref a), .val (.int (Int32.ofNat P)), .val (.int (Int32.ofNat (P / 64 ^ k))), .val (.ref A), .val (.int (Int32.ofNat M)), .val (.int (Int32.ofNat k)), s6, s7, s8] []) _
      refine Go.step (fun _ => XS.iload X.here hx rfl (hb hby d4_14) rfl ) ?_
      show Go p e below T (mkF m 16 #[.val (.ref a), .val (.int (Int32.ofNat P)), .val (.int (Int32.ofNat (P / 64 ^ k))), .val (.ref A), .val (.int (Int32.ofNat M)), .val (.int (Int32.ofNat k)), s6, s7, s8] [(.int (Int32.ofNat k))]) _
      refine Go.step (fun _ => XS.iload X.here hx rfl (hb hby d4_16) rfl ) ?_
      show Go p e below T (mkF m 18 #[.val (.ref a), .val (.int (Int32.ofNat P)), .val (.int (Int32.ofNat (P / 64 ^ k))), .val (.ref A), .val (.int (Int32.ofNat M)), .val (.int (Int32.ofNat k)), s6, s7, s8] [(.int (Int32.ofNat M)), (.int (Int32.ofNat k))]) _
      refine Go.step (fun _ => XS.icmpNo X.here hx rfl (hb hby d4_18) rfl (tlt ((own_ltI (by omega) (by omega)).mpr hkM)).2.1) ?_
      show Go p e below T (mkF m 21 #[.val (.ref a), .val (.int (Int32.ofNat P)), .val (.int (Int32.ofNat (P / 64 ^ k))), .val (.ref A), .val (.int (Int32.ofNat M)), .val (.int (Int32.ofNat k)), s6, s7, s8] []) _
      refine Go.step (fun _ => XS.aloadN X.here hx rfl (hb hby d4_21) rfl rfl ) ?_
      show Go p e below T (mkF m 22 #[.val (.ref a), .val (.int (Int32.ofNat P)), .val (.int (Int32.ofNat (P / 64 ^ k))), .val (.ref A), .val (.int (Int32.ofNat M)), .val (.int (Int32.ofNat k)), s6, s7, s8] [(.ref A)]) _
      refine Go.step (fun _ => XS.iload X.here hx rfl (hb hby d4_22) rfl ) ?_
      show Go p e below T (mkF m 24 #[.val (.ref a), .val (.int (Int32.ofNat P)), .val (.int (Int32.ofNat (P / 64 ^ k))), .val (.ref A), .val (.int (Int32.ofNat M)), .val (.int (Int32.ofNat k)), s6, s7, s8] [(.int (Int32.ofNat k)), (.ref A)]) _
      obtain ⟨clA41, AA41, sA41, gA41⟩ := id Tr.2.2.1
      refine Go.step (fun _ => X.aaload hx (j := (Int32.ofNat k)) (v := (.ref (lv k))) (by rw [eT]; exact AA41.1) (State.isArrayOf_alike hZ.alike AA41.2.1) rfl AA41.2.2 (own_in sA41 hkM (by omega)) (by rw [own_clamp (by omega)]; exact gA41 _ hkM) (g := (mkF m 24 #[.val (.ref a), .val (.int (Int32.ofNat P)), .val (.int (Int32.ofNat (P / 64 ^ k))), .val (.ref A), .val (.int (Int32.ofNat M)), .val (.int (Int32.ofNat k)), s6, s7, s8] [(.int (Int32.ofNat k)), (.ref A)])) rfl rfl (hb hby d4_24) _) ?_
      show Go p e below T (mkF m 25 #[.val (.ref a), .val (.int (Int32.ofNat P)), .val (.int (Int32.ofNat (P / 64 ^ k))), .val (.ref A), .val (.int (Int32.ofNat M)), .val (.int (Int32.ofNat k)), s6, s7, s8] [(.ref (lv k))]) _
      refine Go.step (fun _ => XS.astore X.here hx rfl (hb hby d4_25) rfl rfl (l' := #[.val (.ref a), .val (.int (Int32.ofNat P)), .val (.int (Int32.ofNat (P / 64 ^ k))), .val (.ref A), .val (.int (Int32.ofNat M)), .val (.int (Int32.ofNat k)), .val (.ref (lv k)), s7, s8]) (XS.store1 rfl o6 rfl)) ?_
      show Go p e below T (mkF m 27 #[.val (.ref a), .val (.int (Int32.ofNat P)), .val (.int (Int32.ofNat (P / 64 ^ k))), .val (.ref A), .val (.int (Int32.ofNat M)), .val (.int (Int32.ofNat k)), .val (.ref (lv k)), s7, s8] []) _
      refine Go.step (fun _ => XS.iloadN X.here hx rfl (hb hby d4_27) rfl ) ?_
      show Go p e below T (mkF m 28 #[.val (.ref a), .val (.int (Int32.ofNat P)), .val (.int (Int32.ofNat (P / 64 ^ k))), .val (.ref A), .val (.int (Int32.ofNat M)), .val (.int (Int32.ofNat k)), .val (.ref (lv k)), s7, s8] [(.int (Int32.ofNat (P / 64 ^ k)))]) _
      refine Go.step (fun _ => XS.bipush X.here hx rfl (hb hby d4_28)) ?_
      show Go p e below T (mkF m 30 #[.val (.ref a), .val (.int (Int32.ofNat P)), .val (.int (Int32.ofNat (P / 64 ^ k))), .val (.ref A), .val (.int (Int32.ofNat M)), .val (.int (Int32.ofNat k)), .val (.ref (lv k)), s7, s8] [(.int (6 : Int32)), (.int (Int32.ofNat (P / 64 ^ k)))]) _
      refine Go.step (fun _ => XS.iushr X.here hx rfl (hb hby d4_30) rfl) ?_
      show Go p e below T (mkF m 31 #[.val (.ref a), .val (.int (Int32.ofNat P)), .val (.int (Int32.ofNat (P / 64 ^ k))), .val (.ref A), .val (.int (Int32.ofNat M)), .val (.int (Int32.ofNat k)), .val (.ref (lv k)), s7, s8] [(.int (((Int32.ofNat (P / 64 ^ k)).toUInt32 >>> ((6 : Int32) &&& 31).toUInt32).toInt32))]) _
      rw [own_shr6 hKb]
      show Go p e below T (mkF m 31 #[.val (.ref a), .val (.int (Int32.ofNat P)), .val (.int (Int32.ofNat (P / 64 ^ k))), .val (.ref A), .val (.int (Int32.ofNat M)), .val (.int (Int32.ofNat k)), .val (.ref (lv k)), s7, s8] [(.int (Int32.ofNat (P / 64 ^ k / 64)))]) _
      refine Go.step (fun _ => XS.istore X.here hx rfl (hb hby d4_31) rfl (l' := #[.val (.ref a), .val (.int (Int32.ofNat P)), .val (.int (Int32.ofNat (P / 64 ^ k))), .val (.ref A), .val (.int (Int32.ofNat M)), .val (.int (Int32.ofNat k)), .val (.ref (lv k)), .val (.int (Int32.ofNat (P / 64 ^ k / 64))), s8]) (XS.store1 rfl o7 rfl)) ?_
      show Go p e below T (mkF m 33 #[.val (.ref a), .val (.int (Int32.ofNat P)), .val (.int (Int32.ofNat (P / 64 ^ k))), .val (.ref A), .val (.int (Int32.ofNat M)), .val (.int (Int32.ofNat k)), .val (.ref (lv k)), .val (.int (Int32.ofNat (P / 64 ^ k / 64))), s8] []) _
      refine Go.step (fun _ => XS.aload X.here hx rfl (hb hby d4_33) rfl rfl ) ?_
      show Go p e below T (mkF m 35 #[.val (.ref a), .val (.int (Int32.ofNat P)), .val (.int (Int32.ofNat (P / 64 ^ k))), .val (.ref A), .val (.int (Int32.ofNat M)), .val (.int (Int32.ofNat k)), .val (.ref (lv k)), .val (.int (Int32.ofNat (P / 64 ^ k / 64))), s8] [(.ref (lv k))]) _
      refine Go.step (fun _ => XS.iload X.here hx rfl (hb hby d4_35) rfl ) ?_
      show Go p e below T (mkF m 37 #[.val (.ref a), .val (.int (Int32.ofNat P)), .val (.int (Int32.ofNat (P / 64 ^ k))), .val (.ref A), .val (.int (Int32.ofNat M)), .val (.int (Int32.ofNat k)), .val (.ref (lv k)), .val (.int (Int32.ofNat (P / 64 ^ k / 64))), s8] [(.int (Int32.ofNat (P / 64 ^ k / 64))), (.ref (lv k))]) _
      obtain ⟨clk42, Ak42, sk42, gk42⟩ := id (Tr.2.2.2.1 _ hkM)
      refine Go.step (fun _ => X.laload hx (j := (Int32.ofNat (P / 64 ^ k / 64))) (v := (.long (f k (P / 64 ^ k / 64)))) (by rw [eT]; exact Ak42.1) (State.isArrayOf_alike hZ.alike Ak42.2.1) Ak42.2.2 (own_in sk42 hwz (hszb _ hkM)) (by rw [own_clamp (Nat.lt_trans hwz (hszb _ hkM))]; exact gk42 _ hwz) (g := (mkF m 37 #[.val (.ref a), .val (.int (Int32.ofNat P)), .val (.int (Int32.ofNat (P / 64 ^ k))), .val (.ref A), .val (.int (Int32.ofNat M)), .val (.int (Int32.ofNat k)), .val (.ref (lv k)), .val (.int (Int32.ofNat (P / 64 ^ k / 64))), s8] [(.int (Int32.ofNat (P / 64 ^ k / 64))), (.ref (lv k))])) rfl rfl (hb hby d4_37) _) ?_
      show Go p e below T (mkF m 38 #[.val (.ref a), .val (.int (Int32.ofNat P)), .val (.int (Int32.ofNat (P / 64 ^ k))), .val (.ref A), .val (.int (Int32.ofNat M)), .val (.int (Int32.ofNat k)), .val (.ref (lv k)), .val (.int (Int32.ofNat (P / 64 ^ k / 64))), s8] [(.long (f k (P / 64 ^ k / 64)))]) _
      refine Go.step (fun _ => XS.lconst X.here hx rfl (hb hby d4_38)) ?_
      show Go p e below T (mkF m 39 #[.val (.ref a), .val (.int (Int32.ofNat P)), .val (.int (Int32.ofNat (P / 64 ^ k))), .val (.ref A), .val (.int (Int32.ofNat M)), .val (.int (Int32.ofNat k)), .val (.ref (lv k)), .val (.int (Int32.ofNat (P / 64 ^ k / 64))), s8] [(.long (0 : Int64)), (.long (f k (P / 64 ^ k / 64)))]) _
      refine Go.step (fun _ => XS.lcmp X.here hx rfl (hb hby d4_39) rfl) ?_
      show Go p e below T (mkF m 40 #[.val (.ref a), .val (.int (Int32.ofNat P)), .val (.int (Int32.ofNat (P / 64 ^ k))), .val (.ref A), .val (.int (Int32.ofNat M)), .val (.int (Int32.ofNat k)), .val (.ref (lv k)), .val (.int (Int32.ofNat (P / 64 ^ k / 64))), s8] [(.int (lcmpW (f k (P / 64 ^ k / 64)) (0 : Int64)))]) _
      by_cases hc40 : (lcmpW (f k (P / 64 ^ k / 64)) (0 : Int64)) = (0 : Int32)
      · skip
        refine Go.step (fun _ => XS.ifNo X.here hx rfl (hb hby d4_40) rfl ((if0 _ _).trans (teq hc40).2)) ?_
        show Go p e below T (mkF m 43 #[.val (.ref a), .val (.int (Int32.ofNat P)), .val (.int (Int32.ofNat (P / 64 ^ k))), .val (.ref A), .val (.int (Int32.ofNat M)), .val (.int (Int32.ofNat k)), .val (.ref (lv k)), .val (.int (Int32.ofNat (P / 64 ^ k / 64))), s8] []) _
        refine Go.step (fun _ => XS.iconst X.here hx rfl (hb hby d4_43)) ?_
        show Go p e below T (mkF m 44 #[.val (.ref a), .val (.int (Int32.ofNat P)), .val (.int (Int32.ofNat (P / 64 ^ k))), .val (.ref A), .val (.int (Int32.ofNat M)), .val (.int (Int32.ofNat k)), .val (.ref (lv k)), .val (.int (Int32.ofNat (P / 64 ^ k / 64))), s8] [(.int (1 : Int32))]) _
        refine Go.step (fun _ => XS.goto X.here hx rfl (pc0 := 44) (pc' := 48) rfl (hb hby d4_44) (by decide) (by decide)) ?_
        show Go p e below T (mkF m 48 #[.val (.ref a), .val (.int (Int32.ofNat P)), .val (.int (Int32.ofNat (P / 64 ^ k))), .val (.ref A), .val (.int (Int32.ofNat M)), .val (.int (Int32.ofNat k)), .val (.ref (lv k)), .val (.int (Int32.ofNat (P / 64 ^ k / 64))), s8] [(.int (1 : Int32))]) _
        refine Go.step (fun _ => XS.istore X.here hx rfl (hb hby d4_48) rfl (l' := #[.val (.ref a), .val (.int (Int32.ofNat P)), .val (.int (Int32.ofNat (P / 64 ^ k))), .val (.ref A), .val (.int (Int32.ofNat M)), .val (.int (Int32.ofNat k)), .val (.ref (lv k)), .val (.int (Int32.ofNat (P / 64 ^ k / 64))), .val (.int (1 : Int32))]) (XS.store1 rfl o8 rfl)) ?_
        show Go p e below T (mkF m 50 #[.val (.ref a), .val (.int (Int32.ofNat P)), .val (.int (Int32.ofNat (P / 64 ^ k))), .val (.ref A), .val (.int (Int32.ofNat M)), .val (.int (Int32.ofNat k)), .val (.ref (lv k)), .val (.int (Int32.ofNat (P / 64 ^ k / 64))), .val (.int (1 : Int32))] []) _
        refine Go.step (fun _ => XS.aload X.here hx rfl (hb hby d4_50) rfl rfl ) ?_
        show Go p e below T (mkF m 52 #[.val (.ref a), .val (.int (Int32.ofNat P)), .val (.int (Int32.ofNat (P / 64 ^ k))), .val (.ref A), .val (.int (Int32.ofNat M)), .val (.int (Int32.ofNat k)), .val (.ref (lv k)), .val (.int (Int32.ofNat (P / 64 ^ k / 64))), .val (.int (1 : Int32))] [(.ref (lv k))]) _
        refine Go.step (fun _ => XS.iload X.here hx rfl (hb hby d4_52) rfl ) ?_
        show Go p e below T (mkF m 54 #[.val (.ref a), .val (.int (Int32.ofNat P)), .val (.int (Int32.ofNat (P / 64 ^ k))), .val (.ref A), .val (.int (Int32.ofNat M)), .val (.int (Int32.ofNat k)), .val (.ref (lv k)), .val (.int (Int32.ofNat (P / 64 ^ k / 64))), .val (.int (1 : Int32))] [(.int (Int32.ofNat (P / 64 ^ k / 64))), (.ref (lv k))]) _
        refine Go.step (fun _ => XT.dup2 X.here hx rfl (hb hby d4_54) rfl rfl rfl) ?_
        show Go p e below T (mkF m 55 #[.val (.ref a), .val (.int (Int32.ofNat P)), .val (.int (Int32.ofNat (P / 64 ^ k))), .val (.ref A), .val (.int (Int32.ofNat M)), .val (.int (Int32.ofNat k)), .val (.ref (lv k)), .val (.int (Int32.ofNat (P / 64 ^ k / 64))), .val (.int (1 : Int32))] [(.int (Int32.ofNat (P / 64 ^ k / 64))), (.ref (lv k)), (.int (Int32.ofNat (P / 64 ^ k / 64))), (.ref (lv k))]) _
        obtain ⟨clk43, Ak43, sk43, gk43⟩ := id (Tr.2.2.2.1 _ hkM)
        refine Go.step (fun _ => X.laload hx (j := (Int32.ofNat (P / 64 ^ k / 64))) (v := (.long (f k (P / 64 ^ k / 64)))) (by rw [eT]; exact Ak43.1) (State.isArrayOf_alike hZ.alike Ak43.2.1) Ak43.2.2 (own_in sk43 hwz (hszb _ hkM)) (by rw [own_clamp (Nat.lt_trans hwz (hszb _ hkM))]; exact gk43 _ hwz) (g := (mkF m 55 #[.val (.ref a), .val (.int (Int32.ofNat P)), .val (.int (Int32.ofNat (P / 64 ^ k))), .val (.ref A), .val (.int (Int32.ofNat M)), .val (.int (Int32.ofNat k)), .val (.ref (lv k)), .val (.int (Int32.ofNat (P / 64 ^ k / 64))), .val (.int (1 : Int32))] [(.int (Int32.ofNat (P / 64 ^ k / 64))), (.ref (lv k)), (.int (Int32.ofNat (P / 64 ^ k / 64))), (.ref (lv k))])) rfl rfl (hb hby d4_55) _) ?_
        show Go p e below T (mkF m 56 #[.val (.ref a), .val (.int (Int32.ofNat P)), .val (.int (Int32.ofNat (P / 64 ^ k))), .val (.ref A), .val (.int (Int32.ofNat M)), .val (.int (Int32.ofNat k)), .val (.ref (lv k)), .val (.int (Int32.ofNat (P / 64 ^ k / 64))), .val (.int (1 : Int32))] [(.long (f k (P / 64 ^ k / 64))), (.int (Int32.ofNat (P / 64 ^ k / 64))), (.ref (lv k))]) _
        refine Go.step (fun _ => XS.lconst X.here hx rfl (hb hby d4_56)) ?_
        show Go p e below T (mkF m 57 #[.val (.ref a), .val (.int (Int32.ofNat P)), .val (.int (Int32.ofNat (P / 64 ^ k))), .val (.ref A), .val (.int (Int32.ofNat M)), .val (.int (Int32.ofNat k)), .val (.ref (lv k)), .val (.int (Int32.ofNat (P / 64 ^ k / 64))), .val (.int (1 : Int32))] [(.long (1 : Int64)), (.long (f k (P / 64 ^ k / 64))), (.int (Int32.ofNat (P / 64 ^ k / 64))), (.ref (lv k))]) _
        refine Go.step (fun _ => XS.iloadN X.here hx rfl (hb hby d4_57) rfl ) ?_
        show Go p e below T (mkF m 58 #[.val (.ref a), .val (.int (Int32.ofNat P)), .val (.int (Int32.ofNat (P / 64 ^ k))), .val (.ref A), .val (.int (Int32.ofNat M)), .val (.int (Int32.ofNat k)), .val (.ref (lv k)), .val (.int (Int32.ofNat (P / 64 ^ k / 64))), .val (.int (1 : Int32))] [(.int (Int32.ofNat (P / 64 ^ k))), (.long (1 : Int64)), (.long (f k (P / 64 ^ k / 64))), (.int (Int32.ofNat (P / 64 ^ k / 64))), (.ref (lv k))]) _
        refine Go.step (fun _ => XS.lshl X.here hx rfl (hb hby d4_58) rfl) ?_
        show Go p e below T (mkF m 59 #[.val (.ref a), .val (.int (Int32.ofNat P)), .val (.int (Int32.ofNat (P / 64 ^ k))), .val (.ref A), .val (.int (Int32.ofNat M)), .val (.int (Int32.ofNat k)), .val (.ref (lv k)), .val (.int (Int32.ofNat (P / 64 ^ k / 64))), .val (.int (1 : Int32))] [(.long ((1 : Int64) <<< ((Int32.ofNat (P / 64 ^ k)) &&& 0x3f).toInt64)), (.long (f k (P / 64 ^ k / 64))), (.int (Int32.ofNat (P / 64 ^ k / 64))), (.ref (lv k))]) _
        refine Go.step (fun _ => XS.lor X.here hx rfl (hb hby d4_59) rfl) ?_
        show Go p e below T (mkF m 60 #[.val (.ref a), .val (.int (Int32.ofNat P)), .val (.int (Int32.ofNat (P / 64 ^ k))), .val (.ref A), .val (.int (Int32.ofNat M)), .val (.int (Int32.ofNat k)), .val (.ref (lv k)), .val (.int (Int32.ofNat (P / 64 ^ k / 64))), .val (.int (1 : Int32))] [(.long ((f k (P / 64 ^ k / 64)) ||| ((1 : Int64) <<< ((Int32.ofNat (P / 64 ^ k)) &&& 0x3f).toInt64))), (.int (Int32.ofNat (P / 64 ^ k / 64))), (.ref (lv k))]) _
        obtain ⟨T44, h44, X44, e44, W44, st44⟩ := stJ X hx hZ eT Ak43 (j := (Int32.ofNat (P / 64 ^ k / 64))) (own_in sk43 hwz (hszb _ hkM)) (g := (mkF m 60 #[.val (.ref a), .val (.int (Int32.ofNat P)), .val (.int (Int32.ofNat (P / 64 ^ k))), .val (.ref A), .val (.int (Int32.ofNat M)), .val (.int (Int32.ofNat k)), .val (.ref (lv k)), .val (.int (Int32.ofNat (P / 64 ^ k / 64))), .val (.int (1 : Int32))] [(.long ((f k (P / 64 ^ k / 64)) ||| ((1 : Int64) <<< ((Int32.ofNat (P / 64 ^ k)) &&& 0x3f).toInt64))), (.int (Int32.ofNat (P / 64 ^ k / 64))), (.ref (lv k))])) rfl rfl (hb hby d4_60)
        refine Go.step st44 ?_
        have N44 := Fr.snoc X44 N (Tr.2.2.2.2.1 k hkM).1
        rw [own_clamp (Nat.lt_trans hwz (hszb _ hkM))] at W44
        have Tr2 := Tr.set hkM hwz W44
        have hZ2 : n0 ≤ h44.size := by rw [W44.size]; exact hZs
        have R1 : RepAt sz (fun k' i => if k' = k ∧ i = P / 64 ^ k / 64 then f k (P / 64 ^ k / 64) ||| (1 : Int64) <<< (Int32.ofNat (P / 64 ^ k) &&& 0x3f).toInt64 else f k' i) (fun q => S q ∨ q = P) k := own_addTurn (Nat.lt_of_le_of_lt (Nat.div_le_self _ _) hP) (hhi k (Nat.le_refl _) hkM)
        have R2 : ∀ j, j < k → RepAt sz (fun k' i => if k' = k ∧ i = P / 64 ^ k / 64 then f k (P / 64 ^ k / 64) ||| (1 : Int64) <<< (Int32.ofNat (P / 64 ^ k) &&& 0x3f).toInt64 else f k' i) (fun q => S q ∨ q = P) j := fun j q => own_other (hlo j q) (Nat.ne_of_lt q)
        have R3 : ∀ j, k + 1 ≤ j → j < M → RepAt sz (fun k' i => if k' = k ∧ i = P / 64 ^ k / 64 then f k (P / 64 ^ k / 64) ||| (1 : Int64) <<< (Int32.ofNat (P / 64 ^ k) &&& 0x3f).toInt64 else f k' i) S j := fun j q q2 => own_other (hhi j (Nat.le_of_succ_le q) q2) (Nat.ne_of_gt q)
        show Go p e below T44 (mkF m 61 #[.val (.ref a), .val (.int (Int32.ofNat P)), .val (.int (Int32.ofNat (P / 64 ^ k))), .val (.ref A), .val (.int (Int32.ofNat M)), .val (.int (Int32.ofNat k)), .val (.ref (lv k)), .val (.int (Int32.ofNat (P / 64 ^ k / 64))), .val (.int (1 : Int32))] []) _
        refine Go.step (fun _ => XS.iload X44.here hx rfl (hb hby d4_61) rfl ) ?_
        show Go p e below T44 (mkF m 63 #[.val (.ref a), .val (.int (Int32.ofNat P)), .val (.int (Int32.ofNat (P / 64 ^ k))), .val (.ref A), .val (.int (Int32.ofNat M)), .val (.int (Int32.ofNat k)), .val (.ref (lv k)), .val (.int (Int32.ofNat (P / 64 ^ k / 64))), .val (.int (1 : Int32))] [(.int (1 : Int32))]) _
        refine Go.step (fun _ => XS.ifYes X44.here hx rfl (pc0 := 63) (pc' := 67) rfl (hb hby d4_63) rfl ((if0 _ _).trans (feq (by decide)).2) (by decide) (by decide)) ?_
        show Go p e below T44 (mkF m 67 #[.val (.ref a), .val (.int (Int32.ofNat P)), .val (.int (Int32.ofNat (P / 64 ^ k))), .val (.ref A), .val (.int (Int32.ofNat M)), .val (.int (Int32.ofNat k)), .val (.ref (lv k)), .val (.int (Int32.ofNat (P / 64 ^ k / 64))), .val (.int (1 : Int32))] []) _
        refine Go.step (fun _ => XS.iload X44.here hx rfl (hb hby d4_67) rfl ) ?_
        show Go p e below T44 (mkF m 69 #[.val (.ref a), .val (.int (Int32.ofNat P)), .val (.int (Int32.ofNat (P / 64 ^ k))), .val (.ref A), .val (.int (Int32.ofNat M)), .val (.int (Int32.ofNat k)), .val (.ref (lv k)), .val (.int (Int32.ofNat (P / 64 ^ k / 64))), .val (.int (1 : Int32))] [(.int (Int32.ofNat (P / 64 ^ k / 64)))]) _
        refine Go.step (fun _ => XS.istoreN X44.here hx rfl (hb hby d4_69) rfl (l' := #[.val (.ref a), .val (.int (Int32.ofNat P)), .val (.int (Int32.ofNat (P / 64 ^ k / 64))), .val (.ref A), .val (.int (Int32.ofNat M)), .val (.int (Int32.ofNat k)), .val (.ref (lv k)), .val (.int (Int32.ofNat (P / 64 ^ k / 64))), .val (.int (1 : Int32))]) rfl) ?_
        show Go p e below T44 (mkF m 70 #[.val (.ref a), .val (.int (Int32.ofNat P)), .val (.int (Int32.ofNat (P / 64 ^ k / 64))), .val (.ref A), .val (.int (Int32.ofNat M)), .val (.int (Int32.ofNat k)), .val (.ref (lv k)), .val (.int (Int32.ofNat (P / 64 ^ k / 64))), .val (.int (1 : Int32))] []) _
        refine Go.step (fun _ => XS.iinc X44.here hx rfl (hb hby d4_70) rfl (l' := #[.val (.ref a), .val (.int (Int32.ofNat P)), .val (.int (Int32.ofNat (P / 64 ^ k / 64))), .val (.ref A), .val (.int (Int32.ofNat M)), .val (.int ((Int32.ofNat k) + (1 : Int32))), .val (.ref (lv k)), .val (.int (Int32.ofNat (P / 64 ^ k / 64))), .val (.int (1 : Int32))]) rfl) ?_
        show Go p e below T44 (mkF m 73 #[.val (.ref a), .val (.int (Int32.ofNat P)), .val (.int (Int32.ofNat (P / 64 ^ k / 64))), .val (.ref A), .val (.int (Int32.ofNat M)), .val (.int ((Int32.ofNat k) + (1 : Int32))), .val (.ref (lv k)), .val (.int (Int32.ofNat (P / 64 ^ k / 64))), .val (.int (1 : Int32))] []) _
        refine Go.step (fun _ => XS.goto X44.here hx rfl (pc0 := 73) (pc' := 14) rfl (hb hby d4_73) (by decide) (by decide)) ?_
        show Go p e below T44 (mkF m 14 #[.val (.ref a), .val (.int (Int32.ofNat P)), .val (.int (Int32.ofNat (P / 64 ^ k / 64))), .val (.ref A), .val (.int (Int32.ofNat M)), .val (.int ((Int32.ofNat k) + (1 : Int32))), .val (.ref (lv k)), .val (.int (Int32.ofNat (P / 64 ^ k / 64))), .val (.int (1 : Int32))] []) _
        rw [show Int32.ofNat k + (1 : Int32) = Int32.ofNat (k + 1) from own_add k 1, show P / 64 ^ k / 64 = P / 64 ^ (k + 1) from (own_up P k).symm]
        exact ih (k + 1) (by omega) _ _ _ _ (One.val rfl) (One.val rfl) (One.val rfl) (fun j q => (Nat.lt_or_eq_of_le (Nat.le_of_lt_succ q)).elim (R2 j) (fun e => e ▸ R1)) R3 _ _ N44 _ X44 e44 hZ2 Tr2
      · skip
        refine Go.step (fun _ => XS.ifYes X.here hx rfl (pc0 := 40) (pc' := 47) rfl (hb hby d4_40) rfl ((if0 _ _).trans (feq hc40).2) (by decide) (by decide)) ?_
        show Go p e below T (mkF m 47 #[.val (.ref a), .val (.int (Int32.ofNat P)), .val (.int (Int32.ofNat (P / 64 ^ k))), .val (.ref A), .val (.int (Int32.ofNat M)), .val (.int (Int32.ofNat k)), .val (.ref (lv k)), .val (.int (Int32.ofNat (P / 64 ^ k / 64))), s8] []) _
        refine Go.step (fun _ => XS.iconst X.here hx rfl (hb hby d4_47)) ?_
        show Go p e below T (mkF m 48 #[.val (.ref a), .val (.int (Int32.ofNat P)), .val (.int (Int32.ofNat (P / 64 ^ k))), .val (.ref A), .val (.int (Int32.ofNat M)), .val (.int (Int32.ofNat k)), .val (.ref (lv k)), .val (.int (Int32.ofNat (P / 64 ^ k / 64))), s8] [(.int (0 : Int32))]) _
        refine Go.step (fun _ => XS.istore X.here hx rfl (hb hby d4_48) rfl (l' := #[.val (.ref a), .val (.int (Int32.ofNat P)), .val (.int (Int32.ofNat (P / 64 ^ k))), .val (.ref A), .val (.int (Int32.ofNat M)), .val (.int (Int32.ofNat k)), .val (.ref (lv k)), .val (.int (Int32.ofNat (P / 64 ^ k / 64))), .val (.int (0 : Int32))]) (XS.store1 rfl o8 rfl)) ?_
        show Go p e below T (mkF m 50 #[.val (.ref a), .val (.int (Int32.ofNat P)), .val (.int (Int32.ofNat (P / 64 ^ k))), .val (.ref A), .val (.int (Int32.ofNat M)), .val (.int (Int32.ofNat k)), .val (.ref (lv k)), .val (.int (Int32.ofNat (P / 64 ^ k / 64))), .val (.int (0 : Int32))] []) _
        refine Go.step (fun _ => XS.aload X.here hx rfl (hb hby d4_50) rfl rfl ) ?_
        show Go p e below T (mkF m 52 #[.val (.ref a), .val (.int (Int32.ofNat P)), .val (.int (Int32.ofNat (P / 64 ^ k))), .val (.ref A), .val (.int (Int32.ofNat M)), .val (.int (Int32.ofNat k)), .val (.ref (lv k)), .val (.int (Int32.ofNat (P / 64 ^ k / 64))), .val (.int (0 : Int32))] [(.ref (lv k))]) _
        refine Go.step (fun _ => XS.iload X.here hx rfl (hb hby d4_52) rfl ) ?_
        show Go p e below T (mkF m 54 #[.val (.ref a), .val (.int (Int32.ofNat P)), .val (.int (Int32.ofNat (P / 64 ^ k))), .val (.ref A), .val (.int (Int32.ofNat M)), .val (.int (Int32.ofNat k)), .val (.ref (lv k)), .val (.int (Int32.ofNat (P / 64 ^ k / 64))), .val (.int (0 : Int32))] [(.int (Int32.ofNat (P / 64 ^ k / 64))), (.ref (lv k))]) _
        refine Go.step (fun _ => XT.dup2 X.here hx rfl (hb hby d4_54) rfl rfl rfl) ?_
        show Go p e below T (mkF m 55 #[.val (.ref a), .val (.int (Int32.ofNat P)), .val (.int (Int32.ofNat (P / 64 ^ k))), .val (.ref A), .val (.int (Int32.ofNat M)), .val (.int (Int32.ofNat k)), .val (.ref (lv k)), .val (.int (Int32.ofNat (P / 64 ^ k / 64))), .val (.int (0 : Int32))] [(.int (Int32.ofNat (P / 64 ^ k / 64))), (.ref (lv k)), (.int (Int32.ofNat (P / 64 ^ k / 64))), (.ref (lv k))]) _
        obtain ⟨clk45, Ak45, sk45, gk45⟩ := id (Tr.2.2.2.1 _ hkM)
        refine Go.step (fun _ => X.laload hx (j := (Int32.ofNat (P / 64 ^ k / 64))) (v := (.long (f k (P / 64 ^ k / 64)))) (by rw [eT]; exact Ak45.1) (State.isArrayOf_alike hZ.alike Ak45.2.1) Ak45.2.2 (own_in sk45 hwz (hszb _ hkM)) (by rw [own_clamp (Nat.lt_trans hwz (hszb _ hkM))]; exact gk45 _ hwz) (g := (mkF m 55 #[.val (.ref a), .val (.int (Int32.ofNat P)), .val (.int (Int32.ofNat (P / 64 ^ k))), .val (.ref A), .val (.int (Int32.ofNat M)), .val (.int (Int32.ofNat k)), .val (.ref (lv k)), .val (.int (Int32.ofNat (P / 64 ^ k / 64))), .val (.int (0 : Int32))] [(.int (Int32.ofNat (P / 64 ^ k / 64))), (.ref (lv k)), (.int (Int32.ofNat (P / 64 ^ k / 64))), (.ref (lv k))])) rfl rfl (hb hby d4_55) _) ?_
        show Go p e below T (mkF m 56 #[.val (.ref a), .val (.int (Int32.ofNat P)), .val (.int (Int32.ofNat (P / 64 ^ k))), .val (.ref A), .val (.int (Int32.ofNat M)), .val (.int (Int32.ofNat k)), .val (.ref (lv k)), .val (.int (Int32.ofNat (P / 64 ^ k / 64))), .val (.int (0 : Int32))] [(.long (f k (P / 64 ^ k / 64))), (.int (Int32.ofNat (P / 64 ^ k / 64))), (.ref (lv k))]) _
        refine Go.step (fun _ => XS.lconst X.here hx rfl (hb hby d4_56)) ?_
        show Go p e below T (mkF m 57 #[.val (.ref a), .val (.int (Int32.ofNat P)), .val (.int (Int32.ofNat (P / 64 ^ k))), .val (.ref A), .val (.int (Int32.ofNat M)), .val (.int (Int32.ofNat k)), .val (.ref (lv k)), .val (.int (Int32.ofNat (P / 64 ^ k / 64))), .val (.int (0 : Int32))] [(.long (1 : Int64)), (.long (f k (P / 64 ^ k / 64))), (.int (Int32.ofNat (P / 64 ^ k / 64))), (.ref (lv k))]) _
        refine Go.step (fun _ => XS.iloadN X.here hx rfl (hb hby d4_57) rfl ) ?_
        show Go p e below T (mkF m 58 #[.val (.ref a), .val (.int (Int32.ofNat P)), .val (.int (Int32.ofNat (P / 64 ^ k))), .val (.ref A), .val (.int (Int32.ofNat M)), .val (.int (Int32.ofNat k)), .val (.ref (lv k)), .val (.int (Int32.ofNat (P / 64 ^ k / 64))), .val (.int (0 : Int32))] [(.int (Int32.ofNat (P / 64 ^ k))), (.long (1 : Int64)), (.long (f k (P / 64 ^ k / 64))), (.int (Int32.ofNat (P / 64 ^ k / 64))), (.ref (lv k))]) _
        refine Go.step (fun _ => XS.lshl X.here hx rfl (hb hby d4_58) rfl) ?_
        show Go p e below T (mkF m 59 #[.val (.ref a), .val (.int (Int32.ofNat P)), .val (.int (Int32.ofNat (P / 64 ^ k))), .val (.ref A), .val (.int (Int32.ofNat M)), .val (.int (Int32.ofNat k)), .val (.ref (lv k)), .val (.int (Int32.ofNat (P / 64 ^ k / 64))), .val (.int (0 : Int32))] [(.long ((1 : Int64) <<< ((Int32.ofNat (P / 64 ^ k)) &&& 0x3f).toInt64)), (.long (f k (P / 64 ^ k / 64))), (.int (Int32.ofNat (P / 64 ^ k / 64))), (.ref (lv k))]) _
        refine Go.step (fun _ => XS.lor X.here hx rfl (hb hby d4_59) rfl) ?_
        show Go p e below T (mkF m 60 #[.val (.ref a), .val (.int (Int32.ofNat P)), .val (.int (Int32.ofNat (P / 64 ^ k))), .val (.ref A), .val (.int (Int32.ofNat M)), .val (.int (Int32.ofNat k)), .val (.ref (lv k)), .val (.int (Int32.ofNat (P / 64 ^ k / 64))), .val (.int (0 : Int32))] [(.long ((f k (P / 64 ^ k / 64)) ||| ((1 : Int64) <<< ((Int32.ofNat (P / 64 ^ k)) &&& 0x3f).toInt64))), (.int (Int32.ofNat (P / 64 ^ k / 64))), (.ref (lv k))]) _
        obtain ⟨T46, h46, X46, e46, W46, st46⟩ := stJ X hx hZ eT Ak45 (j := (Int32.ofNat (P / 64 ^ k / 64))) (own_in sk45 hwz (hszb _ hkM)) (g := (mkF m 60 #[.val (.ref a), .val (.int (Int32.ofNat P)), .val (.int (Int32.ofNat (P / 64 ^ k))), .val (.ref A), .val (.int (Int32.ofNat M)), .val (.int (Int32.ofNat k)), .val (.ref (lv k)), .val (.int (Int32.ofNat (P / 64 ^ k / 64))), .val (.int (0 : Int32))] [(.long ((f k (P / 64 ^ k / 64)) ||| ((1 : Int64) <<< ((Int32.ofNat (P / 64 ^ k)) &&& 0x3f).toInt64))), (.int (Int32.ofNat (P / 64 ^ k / 64))), (.ref (lv k))])) rfl rfl (hb hby d4_60)
        refine Go.step st46 ?_
        have N46 := Fr.snoc X46 N (Tr.2.2.2.2.1 k hkM).1
        rw [own_clamp (Nat.lt_trans hwz (hszb _ hkM))] at W46
        have Tr2 := Tr.set hkM hwz W46
        have hZ2 : n0 ≤ h46.size := by rw [W46.size]; exact hZs
        have R1 : RepAt sz (fun k' i => if k' = k ∧ i = P / 64 ^ k / 64 then f k (P / 64 ^ k / 64) ||| (1 : Int64) <<< (Int32.ofNat (P / 64 ^ k) &&& 0x3f).toInt64 else f k' i) (fun q => S q ∨ q = P) k := own_addTurn (Nat.lt_of_le_of_lt (Nat.div_le_self _ _) hP) (hhi k (Nat.le_refl _) hkM)
        have R2 : ∀ j, j < k → RepAt sz (fun k' i => if k' = k ∧ i = P / 64 ^ k / 64 then f k (P / 64 ^ k / 64) ||| (1 : Int64) <<< (Int32.ofNat (P / 64 ^ k) &&& 0x3f).toInt64 else f k' i) (fun q => S q ∨ q = P) j := fun j q => own_other (hlo j q) (Nat.ne_of_lt q)
        have R3 : ∀ j, k + 1 ≤ j → j < M → RepAt sz (fun k' i => if k' = k ∧ i = P / 64 ^ k / 64 then f k (P / 64 ^ k / 64) ||| (1 : Int64) <<< (Int32.ofNat (P / 64 ^ k) &&& 0x3f).toInt64 else f k' i) S j := fun j q q2 => own_other (hhi j (Nat.le_of_succ_le q) q2) (Nat.ne_of_gt q)
        show Go p e below T46 (mkF m 61 #[.val (.ref a), .val (.int (Int32.ofNat P)), .val (.int (Int32.ofNat (P / 64 ^ k))), .val (.ref A), .val (.int (Int32.ofNat M)), .val (.int (Int32.ofNat k)), .val (.ref (lv k)), .val (.int (Int32.ofNat (P / 64 ^ k / 64))), .val (.int (0 : Int32))] []) _
        refine Go.step (fun _ => XS.iload X46.here hx rfl (hb hby d4_61) rfl ) ?_
        show Go p e below T46 (mkF m 63 #[.val (.ref a), .val (.int (Int32.ofNat P)), .val (.int (Int32.ofNat (P / 64 ^ k))), .val (.ref A), .val (.int (Int32.ofNat M)), .val (.int (Int32.ofNat k)), .val (.ref (lv k)), .val (.int (Int32.ofNat (P / 64 ^ k / 64))), .val (.int (0 : Int32))] [(.int (0 : Int32))]) _
        refine Go.step (fun _ => XS.ifNo X46.here hx rfl (hb hby d4_63) rfl ((if0 _ _).trans (teq (by decide)).2)) ?_
        show Go p e below T46 (mkF m 66 #[.val (.ref a), .val (.int (Int32.ofNat P)), .val (.int (Int32.ofNat (P / 64 ^ k))), .val (.ref A), .val (.int (Int32.ofNat M)), .val (.int (Int32.ofNat k)), .val (.ref (lv k)), .val (.int (Int32.ofNat (P / 64 ^ k / 64))), .val (.int (0 : Int32))] []) _
        refine Go.ret0 X46 hx hret hlk (hb hby d4_66) ?_ (by decide) (by decide)
        have ex : ∃ q, S q ∧ q / 64 ^ (k + 1) = P / 64 ^ (k + 1) := by
          obtain ⟨q, q1, q2⟩ := (own_word (hhi k (Nat.le_refl _) hkM) hwz).mp (fun z => hc40 ((lw_eq _ _).mpr z))
          exact ⟨q, q1, by rw [q2, own_up]⟩
        rw [e46]
        exact ⟨rfl, N46, hZ2, _, Tr2, fun j q => (Nat.lt_trichotomy j k).elim (R2 j) (fun z => z.elim (fun e => e ▸ R1) (fun g => own_above ex g (R3 j g q)))⟩
  show Go p e below s₁ (mkF m 0 #[.val (.ref a), .val (.int (Int32.ofNat P)), .unset, .unset, .unset, .unset, .unset, .unset, .unset] []) _
  refine Go.step (fun _ => XS.iloadN X0.here hx rfl (hb hby d4_0) rfl ) ?_
  show Go p e below s₁ (mkF m 1 #[.val (.ref a), .val (.int (Int32.ofNat P)), .unset, .unset, .unset, .unset, .unset, .unset, .unset] [(.int (Int32.ofNat P))]) _
  refine Go.step (fun _ => XS.istoreN X0.here hx rfl (hb hby d4_1) rfl (l' := #[.val (.ref a), .val (.int (Int32.ofNat P)), .val (.int (Int32.ofNat P)), .unset, .unset, .unset, .unset, .unset, .unset]) rfl) ?_
  show Go p e below s₁ (mkF m 2 #[.val (.ref a), .val (.int (Int32.ofNat P)), .val (.int (Int32.ofNat P)), .unset, .unset, .unset, .unset, .unset, .unset] []) _
  refine Go.step (fun _ => XS.aloadN X0.here hx rfl (hb hby d4_2) rfl rfl ) ?_
  show Go p e below s₁ (mkF m 3 #[.val (.ref a), .val (.int (Int32.ofNat P)), .val (.int (Int32.ofNat P)), .unset, .unset, .unset, .unset, .unset, .unset] [(.ref a)]) _
  obtain ⟨T47, X47, e47, st47⟩ := getF X0 hx hZ hown (host := "") (Or.inl (hw _ (List.mem_of_getElem? (i := 13) rfl))) Via.refl e0 T0.2.1 (g := (mkF m 3 #[.val (.ref a), .val (.int (Int32.ofNat P)), .val (.int (Int32.ofNat P)), .unset, .unset, .unset, .unset, .unset, .unset] [(.ref a)])) rfl rfl (hb hby d4_3)
  refine Go.step st47 ?_
  show Go p e below T47 (mkF m 6 #[.val (.ref a), .val (.int (Int32.ofNat P)), .val (.int (Int32.ofNat P)), .unset, .unset, .unset, .unset, .unset, .unset] [(.ref A)]) _
  refine Go.step (fun _ => XS.astoreN X47.here hx rfl (hb hby d4_6) rfl rfl (l' := #[.val (.ref a), .val (.int (Int32.ofNat P)), .val (.int (Int32.ofNat P)), .val (.ref A), .unset, .unset, .unset, .unset, .unset]) rfl) ?_
  show Go p e below T47 (mkF m 7 #[.val (.ref a), .val (.int (Int32.ofNat P)), .val (.int (Int32.ofNat P)), .val (.ref A), .unset, .unset, .unset, .unset, .unset] []) _
  refine Go.step (fun _ => XS.aloadN X47.here hx rfl (hb hby d4_7) rfl rfl ) ?_
  show Go p e below T47 (mkF m 8 #[.val (.ref a), .val (.int (Int32.ofNat P)), .val (.int (Int32.ofNat P)), .val (.ref A), .unset, .unset, .unset, .unset, .unset] [(.ref A)]) _
  obtain ⟨clA48, AA48, sA48, gA48⟩ := id Tr.2.2.1
  refine Go.step (fun _ => X47.arraylength hx (by rw [e47]; exact AA48.1) (State.isArrayOf_alike hZ.alike AA48.2.1) (g := (mkF m 8 #[.val (.ref a), .val (.int (Int32.ofNat P)), .val (.int (Int32.ofNat P)), .val (.ref A), .unset, .unset, .unset, .unset, .unset] [(.ref A)])) rfl rfl (hb hby d4_8) _) ?_
  rw [sA48]
  show Go p e below T47 (mkF m 9 #[.val (.ref a), .val (.int (Int32.ofNat P)), .val (.int (Int32.ofNat P)), .val (.ref A), .unset, .unset, .unset, .unset, .unset] [(.int (Int32.ofNat M))]) _
  refine Go.step (fun _ => XS.istore X47.here hx rfl (hb hby d4_9) rfl (l' := #[.val (.ref a), .val (.int (Int32.ofNat P)), .val (.int (Int32.ofNat P)), .val (.ref A), .val (.int (Int32.ofNat M)), .unset, .unset, .unset, .unset]) rfl) ?_
  show Go p e below T47 (mkF m 11 #[.val (.ref a), .val (.int (Int32.ofNat P)), .val (.int (Int32.ofNat P)), .val (.ref A), .val (.int (Int32.ofNat M)), .unset, .unset, .unset, .unset] []) _
  refine Go.step (fun _ => XS.iconst X47.here hx rfl (hb hby d4_11)) ?_
  show Go p e below T47 (mkF m 12 #[.val (.ref a), .val (.int (Int32.ofNat P)), .val (.int (Int32.ofNat P)), .val (.ref A), .val (.int (Int32.ofNat M)), .unset, .unset, .unset, .unset] [(.int (0 : Int32))]) _
  refine Go.step (fun _ => XS.istore X47.here hx rfl (hb hby d4_12) rfl (l' := #[.val (.ref a), .val (.int (Int32.ofNat P)), .val (.int (Int32.ofNat P)), .val (.ref A), .val (.int (Int32.ofNat M)), .val (.int (0 : Int32)), .unset, .unset, .unset]) rfl) ?_
  show Go p e below T47 (mkF m 14 #[.val (.ref a), .val (.int (Int32.ofNat P)), .val (.int (Int32.ofNat P)), .val (.ref A), .val (.int (Int32.ofNat M)), .val (.int (0 : Int32)), .unset, .unset, .unset] []) _
  have q0 : P / 64 ^ 0 = P := by rw [Nat.pow_zero, Nat.div_one]
  have g0 := loop M 0 (by omega) f .unset .unset .unset One.u One.u One.u (fun j q => absurd q (Nat.not_lt_zero _)) (fun j _ q => hR j q) _ _ N0 _ X47 e47 Z0 Tr
  rw [q0] at g0
  exact g0
theorem d5_0 : decode prog_61_method_3_code 0 = .ok (.iload_n 1, 1) := by decide +kernel
theorem d5_1 : decode prog_61_method_3_code 1 = .ok (.istore_n 2, 1) := by decide +kernel
theorem d5_2 : decode prog_61_method_3_code 2 = .ok (.aload_n 0, 1) := by decide +kernel
theorem d5_3 : decode prog_61_method_3_code 3 = .ok (.getfield 9, 3) := by decide +kernel
theorem d5_6 : decode prog_61_method_3_code 6 = .ok (.astore_n 3, 1) := by decide +kernel
theorem d5_7 : decode prog_61_method_3_code 7 = .ok (.aload_n 3, 1) := by decide +kernel
theorem d5_8 : decode prog_61_method_3_code 8 = .ok (.arraylength, 1) := by decide +kernel
theorem d5_9 : decode prog_61_method_3_code 9 = .ok (.istore 4, 2) := by decide +kernel
theorem d5_11 : decode prog_61_method_3_code 11 = .ok (.iconst 0, 1) := by decide +kernel
theorem d5_12 : decode prog_61_method_3_code 12 = .ok (.istore 5, 2) := by decide +kernel
theorem d5_14 : decode prog_61_method_3_code 14 = .ok (.iload 5, 2) := by decide +kernel
theorem d5_16 : decode prog_61_method_3_code 16 = .ok (.iload 4, 2) := by decide +kernel
theorem d5_18 : decode prog_61_method_3_code 18 = .ok (.if_icmp .ge 50, 3) := by decide +kernel
theorem d5_21 : decode prog_61_method_3_code 21 = .ok (.aload_n 3, 1) := by decide +kernel
theorem d5_22 : decode prog_61_method_3_code 22 = .ok (.iload 5, 2) := by decide +kernel
theorem d5_24 : decode prog_61_method_3_code 24 = .ok (.aaload, 1) := by decide +kernel
theorem d5_25 : decode prog_61_method_3_code 25 = .ok (.astore 6, 2) := by decide +kernel
theorem d5_27 : decode prog_61_method_3_code 27 = .ok (.iload_n 2, 1) := by decide +kernel
theorem d5_28 : decode prog_61_method_3_code 28 = .ok (.bipush 6, 2) := by decide +kernel
theorem d5_30 : decode prog_61_method_3_code 30 = .ok (.iushr, 1) := by decide +kernel
theorem d5_31 : decode prog_61_method_3_code 31 = .ok (.istore 7, 2) := by decide +kernel
theorem d5_33 : decode prog_61_method_3_code 33 = .ok (.aload 6, 2) := by decide +kernel
theorem d5_35 : decode prog_61_method_3_code 35 = .ok (.iload 7, 2) := by decide +kernel
theorem d5_37 : decode prog_61_method_3_code 37 = .ok (.dup2, 1) := by decide +kernel
theorem d5_38 : decode prog_61_method_3_code 38 = .ok (.laload, 1) := by decide +kernel
theorem d5_39 : decode prog_61_method_3_code 39 = .ok (.lconst 1, 1) := by decide +kernel
theorem d5_40 : decode prog_61_method_3_code 40 = .ok (.iload_n 2, 1) := by decide +kernel
theorem d5_41 : decode prog_61_method_3_code 41 = .ok (.lshl, 1) := by decide +kernel
theorem d5_42 : decode prog_61_method_3_code 42 = .ok (.ldc2_w 21, 3) := by decide +kernel
theorem d5_45 : decode prog_61_method_3_code 45 = .ok (.lxor, 1) := by decide +kernel
theorem d5_46 : decode prog_61_method_3_code 46 = .ok (.land, 1) := by decide +kernel
theorem d5_47 : decode prog_61_method_3_code 47 = .ok (.lastore, 1) := by decide +kernel
theorem d5_48 : decode prog_61_method_3_code 48 = .ok (.aload 6, 2) := by decide +kernel
theorem d5_50 : decode prog_61_method_3_code 50 = .ok (.iload 7, 2) := by decide +kernel
theorem d5_52 : decode prog_61_method_3_code 52 = .ok (.laload, 1) := by decide +kernel
theorem d5_53 : decode prog_61_method_3_code 53 = .ok (.lconst 0, 1) := by decide +kernel
theorem d5_54 : decode prog_61_method_3_code 54 = .ok (.lcmp, 1) := by decide +kernel
theorem d5_55 : decode prog_61_method_3_code 55 = .ok (.ifCond .eq 4, 3) := by decide +kernel
theorem d5_58 : decode prog_61_method_3_code 58 = .ok (.return_, 1) := by decide +kernel
theorem d5_59 : decode prog_61_method_3_code 59 = .ok (.iload 7, 2) := by decide +kernel
theorem d5_61 : decode prog_61_method_3_code 61 = .ok (.istore_n 2, 1) := by decide +kernel
theorem d5_62 : decode prog_61_method_3_code 62 = .ok (.iinc 5 1, 3) := by decide +kernel
theorem d5_65 : decode prog_61_method_3_code 65 = .ok (.goto (-51), 3) := by decide +kernel
theorem d5_68 : decode prog_61_method_3_code 68 = .ok (.return_, 1) := by decide +kernel
theorem ef_rmRemove (m : MethodId) (x0 : Addr) (x1 : Int32) : entryFrame m #[(.ref x0), (.int x1)] 8 = mkF m 0 #[.val (.ref x0), .val (.int x1), .unset, .unset, .unset, .unset, .unset, .unset] [] := by first | (simp [entryFrame, mkF, argsToLocals, Value.category]; done) | rfl
def QRemove (Z : State) (a A : Addr) (M : Nat) (lv : Nat → Addr) (sz : Nat → Nat) (f : Nat → Nat → Int64) (S : Nat → Prop) (P : Nat) (h0 : Heap) (n0 : Nat) (v : Option Value) (h : Heap) (L : List Loc) : Prop := v = none ∧ Fr n0 L ∧ n0 ≤ h.size ∧ ∃ f', Tree Z h n0 a A M lv sz f' ∧ Rep M sz f' (fun q => S q ∧ q ≠ P)
set_option maxRecDepth 65536 in
set_option maxHeartbeats 40000000 in
theorem rmRemove (l : Launch) (Z : State) (a0 : Array Value) (hw : ∀ d ∈ tables_1, d.before a0 Z = true) (ws : List Jvm.Cond) (a A : Addr) (M : Nat) (lv : Nat → Addr) (sz : Nat → Nat) (f : Nat → Nat → Int64) (S : Nat → Prop) (P : Nat) (h0 : Heap) (n0 : Nat) (Z0 : n0 ≤ h0.size) (T0 : Tree Z h0 n0 a A M lv sz f) (hR : Rep M sz f S) (hM : M ≤ 8) (hszb : ∀ k, k < M → sz k < 2 ^ 31) (hP : P < 2 ^ 31) (hsz : ∀ k, k < M → P / 64 ^ k / 64 < sz k) :
    MetFree l (⟨"com/example/maxhue/maxhue/PointSet", "remove", "(I)V"⟩ : MethodName) (head1 (Jvm.Cond.code (⟨"com/example/maxhue/maxhue/PointSet", "remove", "(I)V"⟩ : MethodName) prog_61_method_3_code 8 none :: ws) ({ frames := 0, cells := 0, slots := 0, locals := 0 } : Room)) (fun as' U => as' = #[(.ref a), (.int (Int32.ofNat P))] ∧ Z.Warmed39 U.vm ∧ U.heap = h0) (fun _ _ _ _ _ => True) (fun _ U o U' => ∃ v L, o = .returned v ∧ QRemove Z a A M lv sz f S P h0 n0 v U'.heap L ∧ FrameEnd U o U' L ({ frames := 0, cells := 0, slots := 0, locals := 0 } : Room).cells ({ frames := 0, cells := 0, slots := 0, locals := 0 } : Room).slots) := by
  refine MetFree.of_bodySF (plainFor_of_name pn_2) hisR ?_
  intro p e s m args below meth c s₁ Bd hml0 hP hK
  obtain ⟨rfl, hZ, hh⟩ := hP
  have hx := Bd.exec
  have hby := Bd.bytes
  have hml : c.maxLocals = 8 := hml0
  have hown : s.vm.findClass "com/example/maxhue/maxhue/PointSet" = some m.cls := findClass_of_methodNamed Bd.named
  have hnm := (name_of_methodNamed Bd.named Bd.method).1
  have hlk : meth.locks = false := Bd.notSynchronized
  have hret := Bd.returns
  have X0 : Stand p l e ({ frames := 0, cells := 0, slots := 0, locals := 0 } : Room) s m #[(.ref a), (.int (Int32.ofNat P))] below meth c s₁ [] 0 0 := Stand.of_body Bd
  have e0 : s₁.heap = h0 := by rw [← hh, Bd.state]; rfl
  have N0 := Fr.nil n0
  show Go p e below s₁ (entryFrame m #[(.ref a), (.int (Int32.ofNat P))] 8) (Fin s (QRemove Z a A M lv sz f S P h0 n0) ({ frames := 0, cells := 0, slots := 0, locals := 0 } : Room).cells ({ frames := 0, cells := 0, slots := 0, locals := 0 } : Room).slots)
  rw [ef_rmRemove]
  have Tr := T0
  have loop : ∀ (r k : Nat) (hk : k + r = M) (f : Nat → Nat → Int64) (s6 s7 : Slot) (o6 : One s6) (o7 : One s7) (hlo : ∀ j, j < k → RepAt sz f (fun q => S q ∧ q ≠ P) j) (hhi : ∀ j, k ≤ j → j < M → RepAt sz f S j) (hno : ∀ q, S q → q ≠ P → q / 64 ^ k ≠ P / 64 ^ k) (hp : Heap) (locs : List Loc) (N : Fr n0 locs) (T : State) (X : Stand p l e ({ frames := 0, cells := 0, slots := 0, locals := 0 } : Room) s m #[(.ref a), (.int (Int32.ofNat P))] below meth c T locs 0 0) (eT : T.heap = hp) (hZs : n0 ≤ hp.size) (Tr : Tree Z hp n0 a A M lv sz f), Go p e below T (mkF m 14 #[.val (.ref a), .val (.int (Int32.ofNat P)), .val (.int (Int32.ofNat (P / 64 ^ k))), .val (.ref A), .val (.int (Int32.ofNat M)), .val (.int (Int32.ofNat k)), s6, s7] []) (Fin s (QRemove Z a A M lv sz f S P h0 n0) ({ frames := 0, cells := 0, slots := 0, locals := 0 } : Room).cells ({ frames := 0, cells := 0, slots := 0, locals := 0 } : Room).slots) := by
    clear Tr T0 hR
    intro r
    induction r with
    | zero =>
      intro k hk f s6 s7 o6 o7 hlo hhi hno hp locs N T X eT hZs Tr
      obtain rfl : k = M := by omega
      show Go p e below T (mkF m 14 #[.val (.ref a), .val (.int (Int32.ofNat P)), .val (.int (Int32.ofNat (P / 64 ^ k))), .val (.ref A), .val (.int (Int32.ofNat k)), .val (.int (Int32.ofNat k)), s6, s7] []) _
      refine Go.step (fun _ => XS.iload X.here hx rfl (hb hby d5_14) rfl ) ?_
      show Go p e below T (mkF m 16 #[.val (.ref a), .val (.int (Int32.ofNat P)), .val (.int (Int32.ofNat (P / 64 ^ k))), .val (.ref A), .val (.int (Int32.ofNat k)), .val (.int (Int32.ofNat k)), s6, s7] [(.int (Int32.ofNat k))]) _
      refine Go.step (fun _ => XS.iload X.here hx rfl (hb hby d5_16) rfl ) ?_
      show Go p e below T (mkF m 18 #[.val (.ref a), .val (.int (Int32.ofNat P)), .val (.int (Int32.ofNat (P / 64 ^ k))), .val (.ref A), .val (.int (Int32.ofNat k)), .val (.int (Int32.ofNat k)), s6, s7] [(.int (Int32.ofNat k)), (.int (Int32.ofNat k))]) _
      refine Go.step (fun _ => XS.icmpYes X.here hx rfl (pc0 := 18) (pc' := 68) rfl (hb hby d5_18) rfl (flt (fun q => absurd ((own_ltI (by omega) (by omega)).mp q) (Nat.lt_irrefl _))).2.1 (by decide) (by decide)) ?_
      show Go p e below T (mkF m 68 #[.val (.ref a), .val (.int (Int32.ofNat P)), .val (.int (Int32.ofNat (P / 64 ^ k))), .val (.ref A), .val (.int (Int32.ofNat k)), .val (.int (Int32.ofNat k)), s6, s7] []) _
      refine Go.ret0 X hx hret hlk (hb hby d5_68) ?_ (by decide) (by decide)
      rw [eT]
      exact ⟨rfl, N, hZs, f, Tr, fun j q => hlo j q⟩
    | succ r ih =>
      intro k hk f s6 s7 o6 o7 hlo hhi hno hp locs N T X eT hZs Tr
      have hkM : k < M := by omega
      have hwz : P / 64 ^ k / 64 < sz k := hsz k hkM
      have hKb : P / 64 ^ k < 2 ^ 31 := Nat.lt_of_le_of_lt (Nat.div_le_self _ _) hP
      show Go p e below T (mkF m 14 #[.val (.ref a), .val (.int (Int32.ofNat P)), .val (.int (Int32.ofNat (P / 64 ^ k))), .val (.ref A), .val (.int (Int32.ofNat M)), .val (.int (Int32.ofNat k)), s6, s7] []) _
      refine Go.step (fun _ => XS.iload X.here hx rfl (hb hby d5_14) rfl ) ?_
      show Go p e below T (mkF m 16 #[.val (.ref a), .val (.int (Int32.ofNat P)), .val (.int (Int32.ofNat (P / 64 ^ k))), .val (.ref A), .val (.int (Int32.ofNat M)), .val (.int (Int32.ofNat k)), s6, s7] [(.int (Int32.ofNat k))]) _
      refine Go.step (fun _ => XS.iload X.here hx rfl (hb hby d5_16) rfl ) ?_
      show Go p e below T (mkF m 18 #[.val (.ref a), .val (.int (Int32.ofNat P)), .val (.int (Int32.ofNat (P / 64 ^ k))), .val (.ref A), .val (.int (Int32.ofNat M)), .val (.int (Int32.ofNat k)), s6, s7] [(.int (Int32.ofNat M)), (.int (Int32.ofNat k))]) _
      refine Go.step (fun _ => XS.icmpNo X.here hx rfl (hb hby d5_18) rfl (tlt ((own_ltI (by omega) (by omega)).mpr hkM)).2.1) ?_
      show Go p e below T (mkF m 21 #[.val (.ref a), .val (.int (Int32.ofNat P)), .val (.int (Int32.ofNat (P / 64 ^ k))), .val (.ref A), .val (.int (Int32.ofNat M)), .val (.int (Int32.ofNat k)), s6, s7] []) _
      refine Go.step (fun _ => XS.aloadN X.here hx rfl (hb hby d5_21) rfl rfl ) ?_
      show Go p e below T (mkF m 22 #[.val (.ref a), .val (.int (Int32.ofNat P)), .val (.int (Int32.ofNat (P / 64 ^ k))), .val (.ref A), .val (.int (Int32.ofNat M)), .val (.int (Int32.ofNat k)), s6, s7] [(.ref A)]) _
      refine Go.step (fun _ => XS.iload X.here hx rfl (hb hby d5_22) rfl ) ?_
      show Go p e below T (mkF m 24 #[.val (.ref a), .val (.int (Int32.ofNat P)), .val (.int (Int32.ofNat (P / 64 ^ k))), .val (.ref A), .val (.int (Int32.ofNat M)), .val (.int (Int32.ofNat k)), s6, s7] [(.int (Int32.ofNat k)), (.ref A)]) _
      obtain ⟨clA49, AA49, sA49, gA49⟩ := id Tr.2.2.1
      refine Go.step (fun _ => X.aaload hx (j := (Int32.ofNat k)) (v := (.ref (lv k))) (by rw [eT]; exact AA49.1) (State.isArrayOf_alike hZ.alike AA49.2.1) rfl AA49.2.2 (own_in sA49 hkM (by omega)) (by rw [own_clamp (by omega)]; exact gA49 _ hkM) (g := (mkF m 24 #[.val (.ref a), .val (.int (Int32.ofNat P)), .val (.int (Int32.ofNat (P / 64 ^ k))), .val (.ref A), .val (.int (Int32.ofNat M)), .val (.int (Int32.ofNat k)), s6, s7] [(.int (Int32.ofNat k)), (.ref A)])) rfl rfl (hb hby d5_24) _) ?_
      show Go p e below T (mkF m 25 #[.val (.ref a), .val (.int (Int32.ofNat P)), .val (.int (Int32.ofNat (P / 64 ^ k))), .val (.ref A), .val (.int (Int32.ofNat M)), .val (.int (Int32.ofNat k)), s6, s7] [(.ref (lv k))]) _
      refine Go.step (fun _ => XS.astore X.here hx rfl (hb hby d5_25) rfl rfl (l' := #[.val (.ref a), .val (.int (Int32.ofNat P)), .val (.int (Int32.ofNat (P / 64 ^ k))), .val (.ref A), .val (.int (Int32.ofNat M)), .val (.int (Int32.ofNat k)), .val (.ref (lv k)), s7]) (XS.store1 rfl o6 rfl)) ?_
      show Go p e below T (mkF m 27 #[.val (.ref a), .val (.int (Int32.ofNat P)), .val (.int (Int32.ofNat (P / 64 ^ k))), .val (.ref A), .val (.int (Int32.ofNat M)), .val (.int (Int32.ofNat k)), .val (.ref (lv k)), s7] []) _
      refine Go.step (fun _ => XS.iloadN X.here hx rfl (hb hby d5_27) rfl ) ?_
      show Go p e below T (mkF m 28 #[.val (.ref a), .val (.int (Int32.ofNat P)), .val (.int (Int32.ofNat (P / 64 ^ k))), .val (.ref A), .val (.int (Int32.ofNat M)), .val (.int (Int32.ofNat k)), .val (.ref (lv k)), s7] [(.int (Int32.ofNat (P / 64 ^ k)))]) _
      refine Go.step (fun _ => XS.bipush X.here hx rfl (hb hby d5_28)) ?_
      show Go p e below T (mkF m 30 #[.val (.ref a), .val (.int (Int32.ofNat P)), .val (.int (Int32.ofNat (P / 64 ^ k))), .val (.ref A), .val (.int (Int32.ofNat M)), .val (.int (Int32.ofNat k)), .val (.ref (lv k)), s7] [(.int (6 : Int32)), (.int (Int32.ofNat (P / 64 ^ k)))]) _
      refine Go.step (fun _ => XS.iushr X.here hx rfl (hb hby d5_30) rfl) ?_
      show Go p e below T (mkF m 31 #[.val (.ref a), .val (.int (Int32.ofNat P)), .val (.int (Int32.ofNat (P / 64 ^ k))), .val (.ref A), .val (.int (Int32.ofNat M)), .val (.int (Int32.ofNat k)), .val (.ref (lv k)), s7] [(.int (((Int32.ofNat (P / 64 ^ k)).toUInt32 >>> ((6 : Int32) &&& 31).toUInt32).toInt32))]) _
      rw [own_shr6 hKb]
      show Go p e below T (mkF m 31 #[.val (.ref a), .val (.int (Int32.ofNat P)), .val (.int (Int32.ofNat (P / 64 ^ k))), .val (.ref A), .val (.int (Int32.ofNat M)), .val (.int (Int32.ofNat k)), .val (.ref (lv k)), s7] [(.int (Int32.ofNat (P / 64 ^ k / 64)))]) _
      refine Go.step (fun _ => XS.istore X.here hx rfl (hb hby d5_31) rfl (l' := #[.val (.ref a), .val (.int (Int32.ofNat P)), .val (.int (Int32.ofNat (P / 64 ^ k))), .val (.ref A), .val (.int (Int32.ofNat M)), .val (.int (Int32.ofNat k)), .val (.ref (lv k)), .val (.int (Int32.ofNat (P / 64 ^ k / 64)))]) (XS.store1 rfl o7 rfl)) ?_
      show Go p e below T (mkF m 33 #[.val (.ref a), .val (.int (Int32.ofNat P)), .val (.int (Int32.ofNat (P / 64 ^ k))), .val (.ref A), .val (.int (Int32.ofNat M)), .val (.int (Int32.ofNat k)), .val (.ref (lv k)), .val (.int (Int32.ofNat (P / 64 ^ k / 64)))] []) _
      refine Go.step (fun _ => XS.aload X.here hx rfl (hb hby d5_33) rfl rfl ) ?_
      show Go p e below T (mkF m 35 #[.val (.ref a), .val (.int (Int32.ofNat P)), .val (.int (Int32.ofNat (P / 64 ^ k))), .val (.ref A), .val (.int (Int32.ofNat M)), .val (.int (Int32.ofNat k)), .val (.ref (lv k)), .val (.int (Int32.ofNat (P / 64 ^ k / 64)))] [(.ref (lv k))]) _
      refine Go.step (fun _ => XS.iload X.here hx rfl (hb hby d5_35) rfl ) ?_
      show Go p e below T (mkF m 37 #[.val (.ref a), .val (.int (Int32.ofNat P)), .val (.int (Int32.ofNat (P / 64 ^ k))), .val (.ref A), .val (.int (Int32.ofNat M)), .val (.int (Int32.ofNat k)), .val (.ref (lv k)), .val (.int (Int32.ofNat (P / 64 ^ k / 64)))] [(.int (Int32.ofNat (P / 64 ^ k / 64))), (.ref (lv k))]) _
      refine Go.step (fun _ => XT.dup2 X.here hx rfl (hb hby d5_37) rfl rfl rfl) ?_
      show Go p e below T (mkF m 38 #[.val (.ref a), .val (.int (Int32.ofNat P)), .val (.int (Int32.ofNat (P / 64 ^ k))), .val (.ref A), .val (.int (Int32.ofNat M)), .val (.int (Int32.ofNat k)), .val (.ref (lv k)), .val (.int (Int32.ofNat (P / 64 ^ k / 64)))] [(.int (Int32.ofNat (P / 64 ^ k / 64))), (.ref (lv k)), (.int (Int32.ofNat (P / 64 ^ k / 64))), (.ref (lv k))]) _
      obtain ⟨clk50, Ak50, sk50, gk50⟩ := id (Tr.2.2.2.1 _ hkM)
      refine Go.step (fun _ => X.laload hx (j := (Int32.ofNat (P / 64 ^ k / 64))) (v := (.long (f k (P / 64 ^ k / 64)))) (by rw [eT]; exact Ak50.1) (State.isArrayOf_alike hZ.alike Ak50.2.1) Ak50.2.2 (own_in sk50 hwz (hszb _ hkM)) (by rw [own_clamp (Nat.lt_trans hwz (hszb _ hkM))]; exact gk50 _ hwz) (g := (mkF m 38 #[.val (.ref a), .val (.int (Int32.ofNat P)), .val (.int (Int32.ofNat (P / 64 ^ k))), .val (.ref A), .val (.int (Int32.ofNat M)), .val (.int (Int32.ofNat k)), .val (.ref (lv k)), .val (.int (Int32.ofNat (P / 64 ^ k / 64)))] [(.int (Int32.ofNat (P / 64 ^ k / 64))), (.ref (lv k)), (.int (Int32.ofNat (P / 64 ^ k / 64))), (.ref (lv k))])) rfl rfl (hb hby d5_38) _) ?_
      show Go p e below T (mkF m 39 #[.val (.ref a), .val (.int (Int32.ofNat P)), .val (.int (Int32.ofNat (P / 64 ^ k))), .val (.ref A), .val (.int (Int32.ofNat M)), .val (.int (Int32.ofNat k)), .val (.ref (lv k)), .val (.int (Int32.ofNat (P / 64 ^ k / 64)))] [(.long (f k (P / 64 ^ k / 64))), (.int (Int32.ofNat (P / 64 ^ k / 64))), (.ref (lv k))]) _
      refine Go.step (fun _ => XS.lconst X.here hx rfl (hb hby d5_39)) ?_
      show Go p e below T (mkF m 40 #[.val (.ref a), .val (.int (Int32.ofNat P)), .val (.int (Int32.ofNat (P / 64 ^ k))), .val (.ref A), .val (.int (Int32.ofNat M)), .val (.int (Int32.ofNat k)), .val (.ref (lv k)), .val (.int (Int32.ofNat (P / 64 ^ k / 64)))] [(.long (1 : Int64)), (.long (f k (P / 64 ^ k / 64))), (.int (Int32.ofNat (P / 64 ^ k / 64))), (.ref (lv k))]) _
      refine Go.step (fun _ => XS.iloadN X.here hx rfl (hb hby d5_40) rfl ) ?_
      show Go p e below T (mkF m 41 #[.val (.ref a), .val (.int (Int32.ofNat P)), .val (.int (Int32.ofNat (P / 64 ^ k))), .val (.ref A), .val (.int (Int32.ofNat M)), .val (.int (Int32.ofNat k)), .val (.ref (lv k)), .val (.int (Int32.ofNat (P / 64 ^ k / 64)))] [(.int (Int32.ofNat (P / 64 ^ k))), (.long (1 : Int64)), (.long (f k (P / 64 ^ k / 64))), (.int (Int32.ofNat (P / 64 ^ k / 64))), (.ref (lv k))]) _
      refine Go.step (fun _ => XS.lshl X.here hx rfl (hb hby d5_41) rfl) ?_
      show Go p e below T (mkF m 42 #[.val (.ref a), .val (.int (Int32.ofNat P)), .val (.int (Int32.ofNat (P / 64 ^ k))), .val (.ref A), .val (.int (Int32.ofNat M)), .val (.int (Int32.ofNat k)), .val (.ref (lv k)), .val (.int (Int32.ofNat (P / 64 ^ k / 64)))] [(.long ((1 : Int64) <<< ((Int32.ofNat (P / 64 ^ k)) &&& 0x3f).toInt64)), (.long (f k (P / 64 ^ k / 64))), (.int (Int32.ofNat (P / 64 ^ k / 64))), (.ref (lv k))]) _
      refine Go.step (fun _ => X.ldc2Long hx hown (mvT hZ (hw _ (List.mem_of_getElem? (i := 31) rfl))) (g := (mkF m 42 #[.val (.ref a), .val (.int (Int32.ofNat P)), .val (.int (Int32.ofNat (P / 64 ^ k))), .val (.ref A), .val (.int (Int32.ofNat M)), .val (.int (Int32.ofNat k)), .val (.ref (lv k)), .val (.int (Int32.ofNat (P / 64 ^ k / 64)))] [(.long ((1 : Int64) <<< ((Int32.ofNat (P / 64 ^ k)) &&& 0x3f).toInt64)), (.long (f k (P / 64 ^ k / 64))), (.int (Int32.ofNat (P / 64 ^ k / 64))), (.ref (lv k))])) rfl (hb hby d5_42) _) ?_
      show Go p e below T (mkF m 45 #[.val (.ref a), .val (.int (Int32.ofNat P)), .val (.int (Int32.ofNat (P / 64 ^ k))), .val (.ref A), .val (.int (Int32.ofNat M)), .val (.int (Int32.ofNat k)), .val (.ref (lv k)), .val (.int (Int32.ofNat (P / 64 ^ k / 64)))] [(.long (-1 : Int64)), (.long ((1 : Int64) <<< ((Int32.ofNat (P / 64 ^ k)) &&& 0x3f).toInt64)), (.long (f k (P / 64 ^ k / 64))), (.int (Int32.ofNat (P / 64 ^ k / 64))), (.ref (lv k))]) _
      refine Go.step (fun _ => XS.lxor X.here hx rfl (hb hby d5_45) rfl) ?_
      show Go p e below T (mkF m 46 #[.val (.ref a), .val (.int (Int32.ofNat P)), .val (.int (Int32.ofNat (P / 64 ^ k))), .val (.ref A), .val (.int (Int32.ofNat M)), .val (.int (Int32.ofNat k)), .val (.ref (lv k)), .val (.int (Int32.ofNat (P / 64 ^ k / 64)))] [(.long (((1 : Int64) <<< ((Int32.ofNat (P / 64 ^ k)) &&& 0x3f).toInt64) ^^^ (-1 : Int64))), (.long (f k (P / 64 ^ k / 64))), (.int (Int32.ofNat (P / 64 ^ k / 64))), (.ref (lv k))]) _
      refine Go.step (fun _ => XS.land X.here hx rfl (hb hby d5_46) rfl) ?_
      show Go p e below T (mkF m 47 #[.val (.ref a), .val (.int (Int32.ofNat P)), .val (.int (Int32.ofNat (P / 64 ^ k))), .val (.ref A), .val (.int (Int32.ofNat M)), .val (.int (Int32.ofNat k)), .val (.ref (lv k)), .val (.int (Int32.ofNat (P / 64 ^ k / 64)))] [(.long ((f k (P / 64 ^ k / 64)) &&& (((1 : Int64) <<< ((Int32.ofNat (P / 64 ^ k)) &&& 0x3f).toInt64) ^^^ (-1 : Int64)))), (.int (Int32.ofNat (P / 64 ^ k / 64))), (.ref (lv k))]) _
      obtain ⟨T51, h51, X51, e51, W51, st51⟩ := stJ X hx hZ eT Ak50 (j := (Int32.ofNat (P / 64 ^ k / 64))) (own_in sk50 hwz (hszb _ hkM)) (g := (mkF m 47 #[.val (.ref a), .val (.int (Int32.ofNat P)), .val (.int (Int32.ofNat (P / 64 ^ k))), .val (.ref A), .val (.int (Int32.ofNat M)), .val (.int (Int32.ofNat k)), .val (.ref (lv k)), .val (.int (Int32.ofNat (P / 64 ^ k / 64)))] [(.long ((f k (P / 64 ^ k / 64)) &&& (((1 : Int64) <<< ((Int32.ofNat (P / 64 ^ k)) &&& 0x3f).toInt64) ^^^ (-1 : Int64)))), (.int (Int32.ofNat (P / 64 ^ k / 64))), (.ref (lv k))])) rfl rfl (hb hby d5_47)
      refine Go.step st51 ?_
      have N51 := Fr.snoc X51 N (Tr.2.2.2.2.1 k hkM).1
      rw [own_clamp (Nat.lt_trans hwz (hszb _ hkM))] at W51
      have Tr2 := Tr.set hkM hwz W51
      have hZ2 : n0 ≤ h51.size := by rw [W51.size]; exact hZs
      have R1 : RepAt sz (fun k' i => if k' = k ∧ i = P / 64 ^ k / 64 then f k (P / 64 ^ k / 64) &&& (((1 : Int64) <<< (Int32.ofNat (P / 64 ^ k) &&& 0x3f).toInt64) ^^^ (-1 : Int64)) else f k' i) (fun q => S q ∧ q ≠ P) k := own_remTurn (Nat.lt_of_le_of_lt (Nat.div_le_self _ _) hP) (hhi k (Nat.le_refl _) hkM) hno
      have R2 : ∀ j, j < k → RepAt sz (fun k' i => if k' = k ∧ i = P / 64 ^ k / 64 then f k (P / 64 ^ k / 64) &&& (((1 : Int64) <<< (Int32.ofNat (P / 64 ^ k) &&& 0x3f).toInt64) ^^^ (-1 : Int64)) else f k' i) (fun q => S q ∧ q ≠ P) j := fun j q => own_other (hlo j q) (Nat.ne_of_lt q)
      have R3 : ∀ j, k + 1 ≤ j → j < M → RepAt sz (fun k' i => if k' = k ∧ i = P / 64 ^ k / 64 then f k (P / 64 ^ k / 64) &&& (((1 : Int64) <<< (Int32.ofNat (P / 64 ^ k) &&& 0x3f).toInt64) ^^^ (-1 : Int64)) else f k' i) S j := fun j q q2 => own_other (hhi j (Nat.le_of_succ_le q) q2) (Nat.ne_of_gt q)
      show Go p e below T51 (mkF m 48 #[.val (.ref a), .val (.int (Int32.ofNat P)), .val (.int (Int32.ofNat (P / 64 ^ k))), .val (.ref A), .val (.int (Int32.ofNat M)), .val (.int (Int32.ofNat k)), .val (.ref (lv k)), .val (.int (Int32.ofNat (P / 64 ^ k / 64)))] []) _
      refine Go.step (fun _ => XS.aload X51.here hx rfl (hb hby d5_48) rfl rfl ) ?_
      show Go p e below T51 (mkF m 50 #[.val (.ref a), .val (.int (Int32.ofNat P)), .val (.int (Int32.ofNat (P / 64 ^ k))), .val (.ref A), .val (.int (Int32.ofNat M)), .val (.int (Int32.ofNat k)), .val (.ref (lv k)), .val (.int (Int32.ofNat (P / 64 ^ k / 64)))] [(.ref (lv k))]) _
      refine Go.step (fun _ => XS.iload X51.here hx rfl (hb hby d5_50) rfl ) ?_
      show Go p e below T51 (mkF m 52 #[.val (.ref a), .val (.int (Int32.ofNat P)), .val (.int (Int32.ofNat (P / 64 ^ k))), .val (.ref A), .val (.int (Int32.ofNat M)), .val (.int (Int32.ofNat k)), .val (.ref (lv k)), .val (.int (Int32.ofNat (P / 64 ^ k / 64)))] [(.int (Int32.ofNat (P / 64 ^ k / 64))), (.ref (lv k))]) _
      obtain ⟨clk52, Ak52, sk52, gk52⟩ := id (Tr2.2.2.2.1 _ hkM)
      have ek52 : (fun k' i => if k' = k ∧ i = P / 64 ^ k / 64 then f k (P / 64 ^ k / 64) &&& (((1 : Int64) <<< (Int32.ofNat (P / 64 ^ k) &&& 0x3f).toInt64) ^^^ (-1 : Int64)) else f k' i) k (P / 64 ^ k / 64) = f k (P / 64 ^ k / 64) &&& (((1 : Int64) <<< (Int32.ofNat (P / 64 ^ k) &&& 0x3f).toInt64) ^^^ (-1 : Int64)) := by simp only [and_self, if_true]
      refine Go.step (fun _ => X51.laload hx (j := (Int32.ofNat (P / 64 ^ k / 64))) (v := (.long (f k (P / 64 ^ k / 64) &&& (((1 : Int64) <<< (Int32.ofNat (P / 64 ^ k) &&& 0x3f).toInt64) ^^^ (-1 : Int64))))) (by rw [e51]; exact Ak52.1) (State.isArrayOf_alike hZ.alike Ak52.2.1) Ak52.2.2 (own_in sk52 hwz (hszb _ hkM)) (by rw [own_clamp (Nat.lt_trans hwz (hszb _ hkM)), gk52 _ hwz, ek52]) (g := (mkF m 52 #[.val (.ref a), .val (.int (Int32.ofNat P)), .val (.int (Int32.ofNat (P / 64 ^ k))), .val (.ref A), .val (.int (Int32.ofNat M)), .val (.int (Int32.ofNat k)), .val (.ref (lv k)), .val (.int (Int32.ofNat (P / 64 ^ k / 64)))] [(.int (Int32.ofNat (P / 64 ^ k / 64))), (.ref (lv k))])) rfl rfl (hb hby d5_52) _) ?_
      show Go p e below T51 (mkF m 53 #[.val (.ref a), .val (.int (Int32.ofNat P)), .val (.int (Int32.ofNat (P / 64 ^ k))), .val (.ref A), .val (.int (Int32.ofNat M)), .val (.int (Int32.ofNat k)), .val (.ref (lv k)), .val (.int (Int32.ofNat (P / 64 ^ k / 64)))] [(.long (f k (P / 64 ^ k / 64) &&& (((1 : Int64) <<< (Int32.ofNat (P / 64 ^ k) &&& 0x3f).toInt64) ^^^ (-1 : Int64))))]) _
      refine Go.step (fun _ => XS.lconst X51.here hx rfl (hb hby d5_53)) ?_
      show Go p e below T51 (mkF m 54 #[.val (.ref a), .val (.int (Int32.ofNat P)), .val (.int (Int32.ofNat (P / 64 ^ k))), .val (.ref A), .val (.int (Int32.ofNat M)), .val (.int (Int32.ofNat k)), .val (.ref (lv k)), .val (.int (Int32.ofNat (P / 64 ^ k / 64)))] [(.long (0 : Int64)), (.long (f k (P / 64 ^ k / 64) &&& (((1 : Int64) <<< (Int32.ofNat (P / 64 ^ k) &&& 0x3f).toInt64) ^^^ (-1 : Int64))))]) _
      refine Go.step (fun _ => XS.lcmp X51.here hx rfl (hb hby d5_54) rfl) ?_
      show Go p e below T51 (mkF m 55 #[.val (.ref a), .val (.int (Int32.ofNat P)), .val (.int (Int32.ofNat (P / 64 ^ k))), .val (.ref A), .val (.int (Int32.ofNat M)), .val (.int (Int32.ofNat k)), .val (.ref (lv k)), .val (.int (Int32.ofNat (P / 64 ^ k / 64)))] [(.int (lcmpW (f k (P / 64 ^ k / 64) &&& (((1 : Int64) <<< (Int32.ofNat (P / 64 ^ k) &&& 0x3f).toInt64) ^^^ (-1 : Int64))) (0 : Int64)))]) _
      by_cases hcW : (lcmpW (f k (P / 64 ^ k / 64) &&& (((1 : Int64) <<< (Int32.ofNat (P / 64 ^ k) &&& 0x3f).toInt64) ^^^ (-1 : Int64))) (0 : Int64)) = (0 : Int32)
      · skip
        refine Go.step (fun _ => XS.ifYes X51.here hx rfl (pc0 := 55) (pc' := 59) rfl (hb hby d5_55) rfl ((if0 _ _).trans (teq hcW).1) (by decide) (by decide)) ?_
        show Go p e below T51 (mkF m 59 #[.val (.ref a), .val (.int (Int32.ofNat P)), .val (.int (Int32.ofNat (P / 64 ^ k))), .val (.ref A), .val (.int (Int32.ofNat M)), .val (.int (Int32.ofNat k)), .val (.ref (lv k)), .val (.int (Int32.ofNat (P / 64 ^ k / 64)))] []) _
        refine Go.step (fun _ => XS.iload X51.here hx rfl (hb hby d5_59) rfl ) ?_
        show Go p e below T51 (mkF m 61 #[.val (.ref a), .val (.int (Int32.ofNat P)), .val (.int (Int32.ofNat (P / 64 ^ k))), .val (.ref A), .val (.int (Int32.ofNat M)), .val (.int (Int32.ofNat k)), .val (.ref (lv k)), .val (.int (Int32.ofNat (P / 64 ^ k / 64)))] [(.int (Int32.ofNat (P / 64 ^ k / 64)))]) _
        refine Go.step (fun _ => XS.istoreN X51.here hx rfl (hb hby d5_61) rfl (l' := #[.val (.ref a), .val (.int (Int32.ofNat P)), .val (.int (Int32.ofNat (P / 64 ^ k / 64))), .val (.ref A), .val (.int (Int32.ofNat M)), .val (.int (Int32.ofNat k)), .val (.ref (lv k)), .val (.int (Int32.ofNat (P / 64 ^ k / 64)))]) rfl) ?_
        show Go p e below T51 (mkF m 62 #[.val (.ref a), .val (.int (Int32.ofNat P)), .val (.int (Int32.ofNat (P / 64 ^ k / 64))), .val (.ref A), .val (.int (Int32.ofNat M)), .val (.int (Int32.ofNat k)), .val (.ref (lv k)), .val (.int (Int32.ofNat (P / 64 ^ k / 64)))] []) _
        refine Go.step (fun _ => XS.iinc X51.here hx rfl (hb hby d5_62) rfl (l' := #[.val (.ref a), .val (.int (Int32.ofNat P)), .val (.int (Int32.ofNat (P / 64 ^ k / 64))), .val (.ref A), .val (.int (Int32.ofNat M)), .val (.int ((Int32.ofNat k) + (1 : Int32))), .val (.ref (lv k)), .val (.int (Int32.ofNat (P / 64 ^ k / 64)))]) rfl) ?_
        show Go p e below T51 (mkF m 65 #[.val (.ref a), .val (.int (Int32.ofNat P)), .val (.int (Int32.ofNat (P / 64 ^ k / 64))), .val (.ref A), .val (.int (Int32.ofNat M)), .val (.int ((Int32.ofNat k) + (1 : Int32))), .val (.ref (lv k)), .val (.int (Int32.ofNat (P / 64 ^ k / 64)))] []) _
        refine Go.step (fun _ => XS.goto X51.here hx rfl (pc0 := 65) (pc' := 14) rfl (hb hby d5_65) (by decide) (by decide)) ?_
        show Go p e below T51 (mkF m 14 #[.val (.ref a), .val (.int (Int32.ofNat P)), .val (.int (Int32.ofNat (P / 64 ^ k / 64))), .val (.ref A), .val (.int (Int32.ofNat M)), .val (.int ((Int32.ofNat k) + (1 : Int32))), .val (.ref (lv k)), .val (.int (Int32.ofNat (P / 64 ^ k / 64)))] []) _
        rw [show Int32.ofNat k + (1 : Int32) = Int32.ofNat (k + 1) from own_add k 1, show P / 64 ^ k / 64 = P / 64 ^ (k + 1) from (own_up P k).symm]
        have hno2 : ∀ q, S q → q ≠ P → q / 64 ^ (k + 1) ≠ P / 64 ^ (k + 1) := fun q q1 q2 q3 => by
          have z := (own_word R1 hwz).mpr ⟨q, ⟨q1, q2⟩, by rw [q3, own_up]⟩
          simp only [and_self, if_true] at z
          exact z ((lw_eq _ _).mp hcW)
        exact ih (k + 1) (by omega) _ _ _ (One.val rfl) (One.val rfl) (fun j q => (Nat.lt_or_eq_of_le (Nat.le_of_lt_succ q)).elim (R2 j) (fun e => e ▸ R1)) R3 hno2 _ _ N51 _ X51 e51 hZ2 Tr2
      · skip
        refine Go.step (fun _ => XS.ifNo X51.here hx rfl (hb hby d5_55) rfl ((if0 _ _).trans (feq hcW).1)) ?_
        show Go p e below T51 (mkF m 58 #[.val (.ref a), .val (.int (Int32.ofNat P)), .val (.int (Int32.ofNat (P / 64 ^ k))), .val (.ref A), .val (.int (Int32.ofNat M)), .val (.int (Int32.ofNat k)), .val (.ref (lv k)), .val (.int (Int32.ofNat (P / 64 ^ k / 64)))] []) _
        refine Go.ret0 X51 hx hret hlk (hb hby d5_58) ?_ (by decide) (by decide)
        have ex : ∃ q, (S q ∧ q ≠ P) ∧ q / 64 ^ (k + 1) = P / 64 ^ (k + 1) := by
          obtain ⟨q, q1, q2⟩ := (own_word R1 hwz).mp (by simp only [and_self, if_true]; exact fun z => hcW ((lw_eq _ _).mpr z))
          exact ⟨q, q1, by rw [q2, own_up]⟩
        rw [e51]
        exact ⟨rfl, N51, hZ2, _, Tr2, fun j q => (Nat.lt_trichotomy j k).elim (R2 j) (fun z => z.elim (fun e => e ▸ R1) (fun g => own_remAbove ex g (R3 j g q)))⟩
  show Go p e below s₁ (mkF m 0 #[.val (.ref a), .val (.int (Int32.ofNat P)), .unset, .unset, .unset, .unset, .unset, .unset] []) _
  refine Go.step (fun _ => XS.iloadN X0.here hx rfl (hb hby d5_0) rfl ) ?_
  show Go p e below s₁ (mkF m 1 #[.val (.ref a), .val (.int (Int32.ofNat P)), .unset, .unset, .unset, .unset, .unset, .unset] [(.int (Int32.ofNat P))]) _
  refine Go.step (fun _ => XS.istoreN X0.here hx rfl (hb hby d5_1) rfl (l' := #[.val (.ref a), .val (.int (Int32.ofNat P)), .val (.int (Int32.ofNat P)), .unset, .unset, .unset, .unset, .unset]) rfl) ?_
  show Go p e below s₁ (mkF m 2 #[.val (.ref a), .val (.int (Int32.ofNat P)), .val (.int (Int32.ofNat P)), .unset, .unset, .unset, .unset, .unset] []) _
  refine Go.step (fun _ => XS.aloadN X0.here hx rfl (hb hby d5_2) rfl rfl ) ?_
  show Go p e below s₁ (mkF m 3 #[.val (.ref a), .val (.int (Int32.ofNat P)), .val (.int (Int32.ofNat P)), .unset, .unset, .unset, .unset, .unset] [(.ref a)]) _
  obtain ⟨T53, X53, e53, st53⟩ := getF X0 hx hZ hown (host := "") (Or.inl (hw _ (List.mem_of_getElem? (i := 13) rfl))) Via.refl e0 T0.2.1 (g := (mkF m 3 #[.val (.ref a), .val (.int (Int32.ofNat P)), .val (.int (Int32.ofNat P)), .unset, .unset, .unset, .unset, .unset] [(.ref a)])) rfl rfl (hb hby d5_3)
  refine Go.step st53 ?_
  show Go p e below T53 (mkF m 6 #[.val (.ref a), .val (.int (Int32.ofNat P)), .val (.int (Int32.ofNat P)), .unset, .unset, .unset, .unset, .unset] [(.ref A)]) _
  refine Go.step (fun _ => XS.astoreN X53.here hx rfl (hb hby d5_6) rfl rfl (l' := #[.val (.ref a), .val (.int (Int32.ofNat P)), .val (.int (Int32.ofNat P)), .val (.ref A), .unset, .unset, .unset, .unset]) rfl) ?_
  show Go p e below T53 (mkF m 7 #[.val (.ref a), .val (.int (Int32.ofNat P)), .val (.int (Int32.ofNat P)), .val (.ref A), .unset, .unset, .unset, .unset] []) _
  refine Go.step (fun _ => XS.aloadN X53.here hx rfl (hb hby d5_7) rfl rfl ) ?_
  show Go p e below T53 (mkF m 8 #[.val (.ref a), .val (.int (Int32.ofNat P)), .val (.int (Int32.ofNat P)), .val (.ref A), .unset, .unset, .unset, .unset] [(.ref A)]) _
  obtain ⟨clA54, AA54, sA54, gA54⟩ := id Tr.2.2.1
  refine Go.step (fun _ => X53.arraylength hx (by rw [e53]; exact AA54.1) (State.isArrayOf_alike hZ.alike AA54.2.1) (g := (mkF m 8 #[.val (.ref a), .val (.int (Int32.ofNat P)), .val (.int (Int32.ofNat P)), .val (.ref A), .unset, .unset, .unset, .unset] [(.ref A)])) rfl rfl (hb hby d5_8) _) ?_
  rw [sA54]
  show Go p e below T53 (mkF m 9 #[.val (.ref a), .val (.int (Int32.ofNat P)), .val (.int (Int32.ofNat P)), .val (.ref A), .unset, .unset, .unset, .unset] [(.int (Int32.ofNat M))]) _
  refine Go.step (fun _ => XS.istore X53.here hx rfl (hb hby d5_9) rfl (l' := #[.val (.ref a), .val (.int (Int32.ofNat P)), .val (.int (Int32.ofNat P)), .val (.ref A), .val (.int (Int32.ofNat M)), .unset, .unset, .unset]) rfl) ?_
  show Go p e below T53 (mkF m 11 #[.val (.ref a), .val (.int (Int32.ofNat P)), .val (.int (Int32.ofNat P)), .val (.ref A), .val (.int (Int32.ofNat M)), .unset, .unset, .unset] []) _
  refine Go.step (fun _ => XS.iconst X53.here hx rfl (hb hby d5_11)) ?_
  show Go p e below T53 (mkF m 12 #[.val (.ref a), .val (.int (Int32.ofNat P)), .val (.int (Int32.ofNat P)), .val (.ref A), .val (.int (Int32.ofNat M)), .unset, .unset, .unset] [(.int (0 : Int32))]) _
  refine Go.step (fun _ => XS.istore X53.here hx rfl (hb hby d5_12) rfl (l' := #[.val (.ref a), .val (.int (Int32.ofNat P)), .val (.int (Int32.ofNat P)), .val (.ref A), .val (.int (Int32.ofNat M)), .val (.int (0 : Int32)), .unset, .unset]) rfl) ?_
  show Go p e below T53 (mkF m 14 #[.val (.ref a), .val (.int (Int32.ofNat P)), .val (.int (Int32.ofNat P)), .val (.ref A), .val (.int (Int32.ofNat M)), .val (.int (0 : Int32)), .unset, .unset] []) _
  have q0 : P / 64 ^ 0 = P := by rw [Nat.pow_zero, Nat.div_one]
  have g0 := loop M 0 (by omega) f .unset .unset One.u One.u (fun j q => absurd q (Nat.not_lt_zero _)) (fun j _ q => hR j q) (fun q q1 q2 q3 => q2 (by simpa using q3)) _ _ N0 _ X53 e53 Z0 Tr
  rw [q0] at g0
  exact g0
theorem d6_0 : decode prog_61_method_4_code 0 = .ok (.iload_n 1, 1) := by decide +kernel
theorem d6_1 : decode prog_61_method_4_code 1 = .ok (.iconst 1, 1) := by decide +kernel
theorem d6_2 : decode prog_61_method_4_code 2 = .ok (.isub, 1) := by decide +kernel
theorem d6_3 : decode prog_61_method_4_code 3 = .ok (.istore_n 2, 1) := by decide +kernel
theorem d6_4 : decode prog_61_method_4_code 4 = .ok (.iconst 0, 1) := by decide +kernel
theorem d6_5 : decode prog_61_method_4_code 5 = .ok (.istore_n 3, 1) := by decide +kernel
theorem d6_6 : decode prog_61_method_4_code 6 = .ok (.iload_n 2, 1) := by decide +kernel
theorem d6_7 : decode prog_61_method_4_code 7 = .ok (.ifCond .ge 5, 3) := by decide +kernel
theorem d6_10 : decode prog_61_method_4_code 10 = .ok (.iconst (-1), 1) := by decide +kernel
theorem d6_11 : decode prog_61_method_4_code 11 = .ok (.ireturn, 1) := by decide +kernel
theorem d6_12 : decode prog_61_method_4_code 12 = .ok (.iload_n 2, 1) := by decide +kernel
theorem d6_13 : decode prog_61_method_4_code 13 = .ok (.bipush 6, 2) := by decide +kernel
theorem d6_15 : decode prog_61_method_4_code 15 = .ok (.iushr, 1) := by decide +kernel
theorem d6_16 : decode prog_61_method_4_code 16 = .ok (.istore 4, 2) := by decide +kernel
theorem d6_18 : decode prog_61_method_4_code 18 = .ok (.aload_n 0, 1) := by decide +kernel
theorem d6_19 : decode prog_61_method_4_code 19 = .ok (.getfield 9, 3) := by decide +kernel
theorem d6_22 : decode prog_61_method_4_code 22 = .ok (.iload_n 3, 1) := by decide +kernel
theorem d6_23 : decode prog_61_method_4_code 23 = .ok (.aaload, 1) := by decide +kernel
theorem d6_24 : decode prog_61_method_4_code 24 = .ok (.iload 4, 2) := by decide +kernel
theorem d6_26 : decode prog_61_method_4_code 26 = .ok (.laload, 1) := by decide +kernel
theorem d6_27 : decode prog_61_method_4_code 27 = .ok (.ldc2_w 21, 3) := by decide +kernel
theorem d6_30 : decode prog_61_method_4_code 30 = .ok (.bipush 63, 2) := by decide +kernel
theorem d6_32 : decode prog_61_method_4_code 32 = .ok (.iload_n 2, 1) := by decide +kernel
theorem d6_33 : decode prog_61_method_4_code 33 = .ok (.bipush 63, 2) := by decide +kernel
theorem d6_35 : decode prog_61_method_4_code 35 = .ok (.iand, 1) := by decide +kernel
theorem d6_36 : decode prog_61_method_4_code 36 = .ok (.isub, 1) := by decide +kernel
theorem d6_37 : decode prog_61_method_4_code 37 = .ok (.lushr, 1) := by decide +kernel
theorem d6_38 : decode prog_61_method_4_code 38 = .ok (.land, 1) := by decide +kernel
theorem d6_39 : decode prog_61_method_4_code 39 = .ok (.lstore 5, 2) := by decide +kernel
theorem d6_41 : decode prog_61_method_4_code 41 = .ok (.lload 5, 2) := by decide +kernel
theorem d6_43 : decode prog_61_method_4_code 43 = .ok (.lconst 0, 1) := by decide +kernel
theorem d6_44 : decode prog_61_method_4_code 44 = .ok (.lcmp, 1) := by decide +kernel
theorem d6_45 : decode prog_61_method_4_code 45 = .ok (.ifCond .eq 18, 3) := by decide +kernel
theorem d6_48 : decode prog_61_method_4_code 48 = .ok (.iload 4, 2) := by decide +kernel
theorem d6_50 : decode prog_61_method_4_code 50 = .ok (.bipush 6, 2) := by decide +kernel
theorem d6_52 : decode prog_61_method_4_code 52 = .ok (.ishl, 1) := by decide +kernel
theorem d6_53 : decode prog_61_method_4_code 53 = .ok (.lload 5, 2) := by decide +kernel
theorem d6_55 : decode prog_61_method_4_code 55 = .ok (.invokestatic 23, 3) := by decide +kernel
theorem d6_58 : decode prog_61_method_4_code 58 = .ok (.iadd, 1) := by decide +kernel
theorem d6_59 : decode prog_61_method_4_code 59 = .ok (.istore_n 2, 1) := by decide +kernel
theorem d6_60 : decode prog_61_method_4_code 60 = .ok (.goto 27, 3) := by decide +kernel
theorem d6_63 : decode prog_61_method_4_code 63 = .ok (.iload_n 3, 1) := by decide +kernel
theorem d6_64 : decode prog_61_method_4_code 64 = .ok (.aload_n 0, 1) := by decide +kernel
theorem d6_65 : decode prog_61_method_4_code 65 = .ok (.getfield 9, 3) := by decide +kernel
theorem d6_68 : decode prog_61_method_4_code 68 = .ok (.arraylength, 1) := by decide +kernel
theorem d6_69 : decode prog_61_method_4_code 69 = .ok (.iconst 1, 1) := by decide +kernel
theorem d6_70 : decode prog_61_method_4_code 70 = .ok (.isub, 1) := by decide +kernel
theorem d6_71 : decode prog_61_method_4_code 71 = .ok (.if_icmp .ne 5, 3) := by decide +kernel
theorem d6_74 : decode prog_61_method_4_code 74 = .ok (.iconst (-1), 1) := by decide +kernel
theorem d6_75 : decode prog_61_method_4_code 75 = .ok (.ireturn, 1) := by decide +kernel
theorem d6_76 : decode prog_61_method_4_code 76 = .ok (.iload 4, 2) := by decide +kernel
theorem d6_78 : decode prog_61_method_4_code 78 = .ok (.iconst 1, 1) := by decide +kernel
theorem d6_79 : decode prog_61_method_4_code 79 = .ok (.isub, 1) := by decide +kernel
theorem d6_80 : decode prog_61_method_4_code 80 = .ok (.istore_n 2, 1) := by decide +kernel
theorem d6_81 : decode prog_61_method_4_code 81 = .ok (.iinc 3 1, 3) := by decide +kernel
theorem d6_84 : decode prog_61_method_4_code 84 = .ok (.goto (-78), 3) := by decide +kernel
theorem d6_87 : decode prog_61_method_4_code 87 = .ok (.iinc 3 (-1), 3) := by decide +kernel
theorem d6_90 : decode prog_61_method_4_code 90 = .ok (.iload_n 3, 1) := by decide +kernel
theorem d6_91 : decode prog_61_method_4_code 91 = .ok (.ifCond .lt 26, 3) := by decide +kernel
theorem d6_94 : decode prog_61_method_4_code 94 = .ok (.iload_n 2, 1) := by decide +kernel
theorem d6_95 : decode prog_61_method_4_code 95 = .ok (.bipush 6, 2) := by decide +kernel
theorem d6_97 : decode prog_61_method_4_code 97 = .ok (.ishl, 1) := by decide +kernel
theorem d6_98 : decode prog_61_method_4_code 98 = .ok (.aload_n 0, 1) := by decide +kernel
theorem d6_99 : decode prog_61_method_4_code 99 = .ok (.getfield 9, 3) := by decide +kernel
theorem d6_102 : decode prog_61_method_4_code 102 = .ok (.iload_n 3, 1) := by decide +kernel
theorem d6_103 : decode prog_61_method_4_code 103 = .ok (.aaload, 1) := by decide +kernel
theorem d6_104 : decode prog_61_method_4_code 104 = .ok (.iload_n 2, 1) := by decide +kernel
theorem d6_105 : decode prog_61_method_4_code 105 = .ok (.laload, 1) := by decide +kernel
theorem d6_106 : decode prog_61_method_4_code 106 = .ok (.invokestatic 23, 3) := by decide +kernel
theorem d6_109 : decode prog_61_method_4_code 109 = .ok (.iadd, 1) := by decide +kernel
theorem d6_110 : decode prog_61_method_4_code 110 = .ok (.istore_n 2, 1) := by decide +kernel
theorem d6_111 : decode prog_61_method_4_code 111 = .ok (.iinc 3 (-1), 3) := by decide +kernel
theorem d6_114 : decode prog_61_method_4_code 114 = .ok (.goto (-24), 3) := by decide +kernel
theorem d6_117 : decode prog_61_method_4_code 117 = .ok (.iload_n 2, 1) := by decide +kernel
theorem d6_118 : decode prog_61_method_4_code 118 = .ok (.ireturn, 1) := by decide +kernel
theorem ef_rmLast (m : MethodId) (x0 : Addr) (x1 : Int32) : entryFrame m #[(.ref x0), (.int x1)] 7 = mkF m 0 #[.val (.ref x0), .val (.int x1), .unset, .unset, .unset, .unset, .unset] [] := by first | (simp [entryFrame, mkF, argsToLocals, Value.category]; done) | rfl
def QLast (Z : State) (a A : Addr) (M : Nat) (lv : Nat → Addr) (sz : Nat → Nat) (f : Nat → Nat → Int64) (S : Nat → Prop) (N x : Nat) (r : Int32) (h0 : Heap) (n0 : Nat) (v : Option Value) (h : Heap) (L : List Loc) : Prop := v = some (.int r) ∧ Fr n0 L ∧ h = h0
set_option maxRecDepth 65536 in
set_option maxHeartbeats 40000000 in
theorem rmLast (l : Launch) (Z : State) (a0 : Array Value) (hw : ∀ d ∈ tables_1, d.before a0 Z = true) (ws : List Jvm.Cond) (a A : Addr) (M : Nat) (lv : Nat → Addr) (sz : Nat → Nat) (f : Nat → Nat → Int64) (S : Nat → Prop) (N x : Nat) (r : Int32) (h0 : Heap) (n0 : Nat) (Z0 : n0 ≤ h0.size) (T0 : Tree Z h0 n0 a A M lv sz f) (hR : Rep M sz f S) (hM : M ≤ 8) (hszb : ∀ k, k < M → sz k < 2 ^ 31) (hNb : N < 2 ^ 24) (hN1 : 1 ≤ N) (hM1 : 1 ≤ M) (hx0 : x ≤ N) (hS : ∀ q, S q → q < N) (hsz : ∀ q, q < N → ∀ k, k < M → q / 64 ^ k / 64 < sz k) (htop : ∀ k, k + 0 + 1 = M → (∀ P, P / 64 < sz k → P / 64 = 0)) (hr : ∀ t, Best S x t → t = r) :
    MetFree l (⟨"com/example/maxhue/maxhue/PointSet", "lastBelow", "(I)I"⟩ : MethodName) (head1 (Jvm.Cond.code (⟨"com/example/maxhue/maxhue/PointSet", "lastBelow", "(I)I"⟩ : MethodName) prog_61_method_4_code 7 (some .int) :: ws) ({ frames := 3, cells := 0, slots := 0, locals := 60 } : Room)) (fun as' U => as' = #[(.ref a), (.int (Int32.ofNat x))] ∧ Z.Warmed39 U.vm ∧ U.heap = h0) (fun _ _ _ _ _ => True) (fun _ U o U' => ∃ v L, o = .returned v ∧ QLast Z a A M lv sz f S N x r h0 n0 v U'.heap L ∧ FrameEnd U o U' L ({ frames := 3, cells := 0, slots := 0, locals := 60 } : Room).cells ({ frames := 3, cells := 0, slots := 0, locals := 60 } : Room).slots) := by
  refine MetFree.of_bodySF (plainFor_of_name pn_2) hisR ?_
  intro p e s m args below meth c s₁ Bd hml0 hP hK
  obtain ⟨rfl, hZ, hh⟩ := hP
  have hx := Bd.exec
  have hby := Bd.bytes
  have hml : c.maxLocals = 7 := hml0
  have hown : s.vm.findClass "com/example/maxhue/maxhue/PointSet" = some m.cls := findClass_of_methodNamed Bd.named
  have hnm := (name_of_methodNamed Bd.named Bd.method).1
  have hlk : meth.locks = false := Bd.notSynchronized
  have hret := Bd.returns
  have X0 : Stand p l e ({ frames := 3, cells := 0, slots := 0, locals := 60 } : Room) s m #[(.ref a), (.int (Int32.ofNat x))] below meth c s₁ [] 0 0 := Stand.of_body Bd
  have e0 : s₁.heap = h0 := by rw [← hh, Bd.state]; rfl
  have N0 := Fr.nil n0
  show Go p e below s₁ (entryFrame m #[(.ref a), (.int (Int32.ofNat x))] 7) (Fin s (QLast Z a A M lv sz f S N x r h0 n0) ({ frames := 3, cells := 0, slots := 0, locals := 60 } : Room).cells ({ frames := 3, cells := 0, slots := 0, locals := 60 } : Room).slots)
  rw [ef_rmLast]
  have Tr := T0
  have down : ∀ (K t : Nat) (hK : K < M) (s4 s5 s6 : Slot) (hA : ∃ q, S q ∧ q / 64 ^ K = t) (hB : ∀ q, S q → q < x → q / 64 ^ K ≤ t) (hC : ∀ q, S q → q / 64 ^ K = t → q < x) (locs : List Loc) (NL : Fr n0 locs) (T : State) (X : Stand p l e ({ frames := 3, cells := 0, slots := 0, locals := 60 } : Room) s m #[(.ref a), (.int (Int32.ofNat x))] below meth c T locs 0 0) (eT : T.heap = h0), Go p e below T (mkF m 90 #[.val (.ref a), .val (.int (Int32.ofNat x)), .val (.int (Int32.ofNat t)), .val (.int (Int32.ofNat K - 1)), s4, s5, s6] []) (Fin s (QLast Z a A M lv sz f S N x r h0 n0) ({ frames := 3, cells := 0, slots := 0, locals := 60 } : Room).cells ({ frames := 3, cells := 0, slots := 0, locals := 60 } : Room).slots) := by
    intro K
    induction K with
    | zero =>
      intro t hK s4 s5 s6 hA hB hC locs NL T X eT
      show Go p e below T (mkF m 90 #[.val (.ref a), .val (.int (Int32.ofNat x)), .val (.int (Int32.ofNat t)), .val (.int (Int32.ofNat 0 - 1)), s4, s5, s6] []) _
      refine Go.step (fun _ => XS.iloadN X.here hx rfl (hb hby d6_90) rfl ) ?_
      show Go p e below T (mkF m 91 #[.val (.ref a), .val (.int (Int32.ofNat x)), .val (.int (Int32.ofNat t)), .val (.int (Int32.ofNat 0 - 1)), s4, s5, s6] [(.int (Int32.ofNat 0 - 1))]) _
      refine Go.step (fun _ => XS.ifYes X.here hx rfl (pc0 := 91) (pc' := 117) rfl (hb hby d6_91) rfl ((if0 _ _).trans (tlt own_m1).1) (by decide) (by decide)) ?_
      show Go p e below T (mkF m 117 #[.val (.ref a), .val (.int (Int32.ofNat x)), .val (.int (Int32.ofNat t)), .val (.int (Int32.ofNat 0 - 1)), s4, s5, s6] []) _
      refine Go.step (fun _ => XS.iloadN X.here hx rfl (hb hby d6_117) rfl ) ?_
      show Go p e below T (mkF m 118 #[.val (.ref a), .val (.int (Int32.ofNat x)), .val (.int (Int32.ofNat t)), .val (.int (Int32.ofNat 0 - 1)), s4, s5, s6] [(.int (Int32.ofNat t))]) _
      refine Go.retI X hx hret hlk (hb hby d6_118) ?_ (by decide) (by decide)
      refine ⟨?_, NL, eT⟩
      obtain ⟨q, q1, q2⟩ := hA
      rw [Nat.pow_zero, Nat.div_one] at q2
      subst q2
      rw [← hr _ (Or.inr ⟨q, q1, hC q q1 (by rw [Nat.pow_zero, Nat.div_one]), rfl, fun z z1 z2 => by simpa using hB z z1 z2⟩)]
    | succ K ih =>
      intro t hK s4 s5 s6 hA hB hC locs NL T X eT
      have hkM : K < M := by omega
      obtain ⟨q0, qa, qb⟩ := id hA
      have hwz : t < sz K := by rw [← qb, own_up]; exact hsz q0 (hS q0 qa) K hkM
      have htb : t < 2 ^ 24 := by
        rw [← qb, own_up]
        have := hNb; have := hS q0 qa; have := Nat.div_le_self q0 (64 ^ K); omega
      show Go p e below T (mkF m 90 #[.val (.ref a), .val (.int (Int32.ofNat x)), .val (.int (Int32.ofNat t)), .val (.int (Int32.ofNat (K + 1) - 1)), s4, s5, s6] []) _
      rw [show Int32.ofNat (K + 1) - (1 : Int32) = Int32.ofNat K from own_sub K 1]
      show Go p e below T (mkF m 90 #[.val (.ref a), .val (.int (Int32.ofNat x)), .val (.int (Int32.ofNat t)), .val (.int (Int32.ofNat K)), s4, s5, s6] []) _
      refine Go.step (fun _ => XS.iloadN X.here hx rfl (hb hby d6_90) rfl ) ?_
      show Go p e below T (mkF m 91 #[.val (.ref a), .val (.int (Int32.ofNat x)), .val (.int (Int32.ofNat t)), .val (.int (Int32.ofNat K)), s4, s5, s6] [(.int (Int32.ofNat K))]) _
      refine Go.step (fun _ => XS.ifNo X.here hx rfl (hb hby d6_91) rfl ((if0 _ _).trans (flt (own_nn' (by omega))).1)) ?_
      show Go p e below T (mkF m 94 #[.val (.ref a), .val (.int (Int32.ofNat x)), .val (.int (Int32.ofNat t)), .val (.int (Int32.ofNat K)), s4, s5, s6] []) _
      refine Go.step (fun _ => XS.iloadN X.here hx rfl (hb hby d6_94) rfl ) ?_
      show Go p e below T (mkF m 95 #[.val (.ref a), .val (.int (Int32.ofNat x)), .val (.int (Int32.ofNat t)), .val (.int (Int32.ofNat K)), s4, s5, s6] [(.int (Int32.ofNat t))]) _
      refine Go.step (fun _ => XS.bipush X.here hx rfl (hb hby d6_95)) ?_
      show Go p e below T (mkF m 97 #[.val (.ref a), .val (.int (Int32.ofNat x)), .val (.int (Int32.ofNat t)), .val (.int (Int32.ofNat K)), s4, s5, s6] [(.int (6 : Int32)), (.int (Int32.ofNat t))]) _
      refine Go.step (fun _ => XS.ishl X.here hx rfl (hb hby d6_97) rfl) ?_
      show Go p e below T (mkF m 98 #[.val (.ref a), .val (.int (Int32.ofNat x)), .val (.int (Int32.ofNat t)), .val (.int (Int32.ofNat K)), s4, s5, s6] [(.int ((Int32.ofNat t) <<< ((6 : Int32) &&& 31)))]) _
      rw [own_shl6 htb]
      show Go p e below T (mkF m 98 #[.val (.ref a), .val (.int (Int32.ofNat x)), .val (.int (Int32.ofNat t)), .val (.int (Int32.ofNat K)), s4, s5, s6] [(.int (Int32.ofNat (64 * t)))]) _
      refine Go.step (fun _ => XS.aloadN X.here hx rfl (hb hby d6_98) rfl rfl ) ?_
      show Go p e below T (mkF m 99 #[.val (.ref a), .val (.int (Int32.ofNat x)), .val (.int (Int32.ofNat t)), .val (.int (Int32.ofNat K)), s4, s5, s6] [(.ref a), (.int (Int32.ofNat (64 * t)))]) _
      obtain ⟨T55, X55, e55, st55⟩ := getF X hx hZ hown (host := "") (Or.inl (hw _ (List.mem_of_getElem? (i := 13) rfl))) Via.refl eT T0.2.1 (g := (mkF m 99 #[.val (.ref a), .val (.int (Int32.ofNat x)), .val (.int (Int32.ofNat t)), .val (.int (Int32.ofNat K)), s4, s5, s6] [(.ref a), (.int (Int32.ofNat (64 * t)))])) rfl rfl (hb hby d6_99)
      refine Go.step st55 ?_
      show Go p e below T55 (mkF m 102 #[.val (.ref a), .val (.int (Int32.ofNat x)), .val (.int (Int32.ofNat t)), .val (.int (Int32.ofNat K)), s4, s5, s6] [(.ref A), (.int (Int32.ofNat (64 * t)))]) _
      refine Go.step (fun _ => XS.iloadN X55.here hx rfl (hb hby d6_102) rfl ) ?_
      show Go p e below T55 (mkF m 103 #[.val (.ref a), .val (.int (Int32.ofNat x)), .val (.int (Int32.ofNat t)), .val (.int (Int32.ofNat K)), s4, s5, s6] [(.int (Int32.ofNat K)), (.ref A), (.int (Int32.ofNat (64 * t)))]) _
      obtain ⟨clA56, AA56, sA56, gA56⟩ := id Tr.2.2.1
      refine Go.step (fun _ => X55.aaload hx (j := (Int32.ofNat K)) (v := (.ref (lv K))) (by rw [e55]; exact AA56.1) (State.isArrayOf_alike hZ.alike AA56.2.1) rfl AA56.2.2 (own_in sA56 hkM (by omega)) (by rw [own_clamp (by omega)]; exact gA56 _ hkM) (g := (mkF m 103 #[.val (.ref a), .val (.int (Int32.ofNat x)), .val (.int (Int32.ofNat t)), .val (.int (Int32.ofNat K)), s4, s5, s6] [(.int (Int32.ofNat K)), (.ref A), (.int (Int32.ofNat (64 * t)))])) rfl rfl (hb hby d6_103) _) ?_
      show Go p e below T55 (mkF m 104 #[.val (.ref a), .val (.int (Int32.ofNat x)), .val (.int (Int32.ofNat t)), .val (.int (Int32.ofNat K)), s4, s5, s6] [(.ref (lv K)), (.int (Int32.ofNat (64 * t)))]) _
      refine Go.step (fun _ => XS.iloadN X55.here hx rfl (hb hby d6_104) rfl ) ?_
      show Go p e below T55 (mkF m 105 #[.val (.ref a), .val (.int (Int32.ofNat x)), .val (.int (Int32.ofNat t)), .val (.int (Int32.ofNat K)), s4, s5, s6] [(.int (Int32.ofNat t)), (.ref (lv K)), (.int (Int32.ofNat (64 * t)))]) _
      obtain ⟨clk57, Ak57, sk57, gk57⟩ := id (Tr.2.2.2.1 _ hkM)
      refine Go.step (fun _ => X55.laload hx (j := (Int32.ofNat t)) (v := (.long (f K (t)))) (by rw [e55]; exact Ak57.1) (State.isArrayOf_alike hZ.alike Ak57.2.1) Ak57.2.2 (own_in sk57 hwz (hszb _ hkM)) (by rw [own_clamp (Nat.lt_trans hwz (hszb _ hkM))]; exact gk57 _ hwz) (g := (mkF m 105 #[.val (.ref a), .val (.int (Int32.ofNat x)), .val (.int (Int32.ofNat t)), .val (.int (Int32.ofNat K)), s4, s5, s6] [(.int (Int32.ofNat t)), (.ref (lv K)), (.int (Int32.ofNat (64 * t)))])) rfl rfl (hb hby d6_105) _) ?_
      show Go p e below T55 (mkF m 106 #[.val (.ref a), .val (.int (Int32.ofNat x)), .val (.int (Int32.ofNat t)), .val (.int (Int32.ofNat K)), s4, s5, s6] [(.long (f K (t))), (.int (Int32.ofNat (64 * t)))]) _
      obtain ⟨_, _, ⟨T58, L58, k58, n58⟩, -, X58, ⟨Lc58, hQ58, l58, y58, z58⟩, st58⟩ := Jvm.LawKit.callS X55 hx (y := (⟨"com/example/maxhue/maxhue/PointSet", "lastBit", "(J)I"⟩ : MethodName)) hown (mvT hZ (hw _ (List.mem_of_getElem? (i := 41) rfl))) (mvT hZ (hw _ (List.mem_of_getElem? (i := 42) rfl))) (mvT hZ (hw _ (List.mem_of_getElem? (i := 4) rfl))) (mvT hZ (hw _ (List.mem_of_getElem? (i := 43) rfl))) (by decide) (backOf (W := 1) (rmLB l Z a0 hw [] (f K (t)) h0 n0 Z0) hZ (hw _ (List.mem_of_getElem? (i := 43) rfl)) (hw _ (List.mem_of_getElem? (i := 4) rfl)) (by decide) (by decide)) (g := (mkF m 106 #[.val (.ref a), .val (.int (Int32.ofNat x)), .val (.int (Int32.ofNat t)), .val (.int (Int32.ofNat K)), s4, s5, s6] [(.long (f K (t))), (.int (Int32.ofNat (64 * t)))])) rfl (by rw [hml]; rfl) (argsL := [(.long (f K (t)))]) (rest := [(.int (Int32.ofNat (64 * t)))]) (lenOf pd_1 rfl) rfl (by show 2 * 0 + _ ≤ _; exact Nat.le_of_eq rfl) (hb hby d6_106) (fun _ _ => ⟨rfl, e55, (by decide : 0 + 0 ≤ _), (by decide : 0 + 0 ≤ _)⟩)
      dsimp only [Pt.U, Pt.locs, Pt.cells, Pt.slots] at X58 l58 y58 z58 st58 hQ58
      subst l58 y58 z58
      obtain ⟨rfl, Nq58, eh58⟩ := hQ58
      have N58 := Fr.app NL Nq58
      refine Go.step st58 ?_
      show Go p e below T58 (mkF m 109 #[.val (.ref a), .val (.int (Int32.ofNat x)), .val (.int (Int32.ofNat t)), .val (.int (Int32.ofNat K)), s4, s5, s6] [(.int ((63 : Int32) - nlz64 ((f K (t))))), (.int (Int32.ofNat (64 * t)))]) _
      have hnz : f K t ≠ 0 := (own_word (hR K hkM) hwz).mpr ⟨q0, qa, qb⟩
      obtain ⟨b, hb1, hb2⟩ := own_top (f K t) hnz
      obtain ⟨d1, d2⟩ := own_down (hR K hkM) hwz hb2
      rw [hb1]
      show Go p e below T58 (mkF m 109 #[.val (.ref a), .val (.int (Int32.ofNat x)), .val (.int (Int32.ofNat t)), .val (.int (Int32.ofNat K)), s4, s5, s6] [(.int (Int32.ofNat b)), (.int (Int32.ofNat (64 * t)))]) _
      refine Go.step (fun _ => XS.iadd X58.here hx rfl (hb hby d6_109) rfl) ?_
      show Go p e below T58 (mkF m 110 #[.val (.ref a), .val (.int (Int32.ofNat x)), .val (.int (Int32.ofNat t)), .val (.int (Int32.ofNat K)), s4, s5, s6] [(.int ((Int32.ofNat (64 * t)) + (Int32.ofNat b)))]) _
      rw [own_add (64 * t) b]
      show Go p e below T58 (mkF m 110 #[.val (.ref a), .val (.int (Int32.ofNat x)), .val (.int (Int32.ofNat t)), .val (.int (Int32.ofNat K)), s4, s5, s6] [(.int (Int32.ofNat (64 * t + b)))]) _
      refine Go.step (fun _ => XS.istoreN X58.here hx rfl (hb hby d6_110) rfl (l' := #[.val (.ref a), .val (.int (Int32.ofNat x)), .val (.int (Int32.ofNat (64 * t + b))), .val (.int (Int32.ofNat K)), s4, s5, s6]) rfl) ?_
      show Go p e below T58 (mkF m 111 #[.val (.ref a), .val (.int (Int32.ofNat x)), .val (.int (Int32.ofNat (64 * t + b))), .val (.int (Int32.ofNat K)), s4, s5, s6] []) _
      refine Go.step (fun _ => XS.iinc X58.here hx rfl (hb hby d6_111) rfl (l' := #[.val (.ref a), .val (.int (Int32.ofNat x)), .val (.int (Int32.ofNat (64 * t + b))), .val (.int ((Int32.ofNat K) + (-1 : Int32))), s4, s5, s6]) rfl) ?_
      show Go p e below T58 (mkF m 114 #[.val (.ref a), .val (.int (Int32.ofNat x)), .val (.int (Int32.ofNat (64 * t + b))), .val (.int ((Int32.ofNat K) + (-1 : Int32))), s4, s5, s6] []) _
      refine Go.step (fun _ => XS.goto X58.here hx rfl (pc0 := 114) (pc' := 90) rfl (hb hby d6_114) (by decide) (by decide)) ?_
      show Go p e below T58 (mkF m 90 #[.val (.ref a), .val (.int (Int32.ofNat x)), .val (.int (Int32.ofNat (64 * t + b))), .val (.int ((Int32.ofNat K) + (-1 : Int32))), s4, s5, s6] []) _
      rw [own_dec]
      exact ih (64 * t + b) (by omega) _ _ _ d1 (fun q q1 q2 => d2 q q1 (hB q q1 q2)) (fun q q1 q2 => hC q q1 (by have z := hb2.1; rw [own_up]; omega)) _ N58 _ X58 eh58
  have up : ∀ (d k Y : Nat) (hk : k + d + 1 = M) (hY : Y ≤ N) (s4 s5 s6 : Slot) (o4 : One s4) (o56 : Two s5 s6) (iff : ∀ q, S q → (q < x ↔ q / 64 ^ k < Y)) (hY2 : Y ≤ (N - 1) / 64 ^ k + 1) (T : State) (X : Stand p l e ({ frames := 3, cells := 0, slots := 0, locals := 60 } : Room) s m #[(.ref a), (.int (Int32.ofNat x))] below meth c T [] 0 0) (eT : T.heap = h0), Go p e below T (mkF m 6 #[.val (.ref a), .val (.int (Int32.ofNat x)), .val (.int (Int32.ofNat Y - 1)), .val (.int (Int32.ofNat k)), s4, s5, s6] []) (Fin s (QLast Z a A M lv sz f S N x r h0 n0) ({ frames := 3, cells := 0, slots := 0, locals := 60 } : Room).cells ({ frames := 3, cells := 0, slots := 0, locals := 60 } : Room).slots) := by
    intro d
    induction d with
    | zero =>
      intro k Y hk hY s4 s5 s6 o4 o56 iff hY2 T X eT
      have hkM : k < M := by omega
      rcases Nat.eq_zero_or_pos Y with rfl | hYp
      · skip
        show Go p e below T (mkF m 6 #[.val (.ref a), .val (.int (Int32.ofNat x)), .val (.int (Int32.ofNat 0 - 1)), .val (.int (Int32.ofNat k)), s4, s5, s6] []) _
        refine Go.step (fun _ => XS.iloadN X.here hx rfl (hb hby d6_6) rfl ) ?_
        show Go p e below T (mkF m 7 #[.val (.ref a), .val (.int (Int32.ofNat x)), .val (.int (Int32.ofNat 0 - 1)), .val (.int (Int32.ofNat k)), s4, s5, s6] [(.int (Int32.ofNat 0 - 1))]) _
        refine Go.step (fun _ => XS.ifNo X.here hx rfl (hb hby d6_7) rfl ((if0 _ _).trans (tlt own_m1).2.1)) ?_
        show Go p e below T (mkF m 10 #[.val (.ref a), .val (.int (Int32.ofNat x)), .val (.int (Int32.ofNat 0 - 1)), .val (.int (Int32.ofNat k)), s4, s5, s6] []) _
        refine Go.step (fun _ => XS.iconst X.here hx rfl (hb hby d6_10)) ?_
        show Go p e below T (mkF m 11 #[.val (.ref a), .val (.int (Int32.ofNat x)), .val (.int (Int32.ofNat 0 - 1)), .val (.int (Int32.ofNat k)), s4, s5, s6] [(.int (-1 : Int32))]) _
        refine Go.retI X hx hret hlk (hb hby d6_11) ?_ (by decide) (by decide)
        exact ⟨by rw [← hr _ (Or.inl ⟨rfl, fun q q1 q2 => absurd ((iff q q1).mp q2) (Nat.not_lt_zero _)⟩)], N0, eT⟩
      · skip
        obtain ⟨P, rfl⟩ : ∃ P, Y = P + 1 := ⟨Y - 1, by omega⟩
        show Go p e below T (mkF m 6 #[.val (.ref a), .val (.int (Int32.ofNat x)), .val (.int (Int32.ofNat (P + 1) - 1)), .val (.int (Int32.ofNat k)), s4, s5, s6] []) _
        rw [show Int32.ofNat (P + 1) - (1 : Int32) = Int32.ofNat P from own_sub P 1]
        have hPb : P < 2 ^ 24 := by have := hNb; omega
        have hwz : P / 64 < sz k := by
          have z := hsz (N - 1) (by omega) k hkM
          have z2 : P / 64 ≤ (N - 1) / 64 ^ k / 64 := Nat.div_le_div_right (by omega)
          omega
        have hmask : ∀ b, b < 64 → bitAt (((-1 : Int64).toUInt64 >>> (Int32.ofNat (63 - P % 64) &&& 0x3f).toInt64.toUInt64).toInt64) b = decide (b ≤ P % 64) := fun b hb => own_mask (Nat.mod_lt _ (by decide)) b hb
        show Go p e below T (mkF m 6 #[.val (.ref a), .val (.int (Int32.ofNat x)), .val (.int (Int32.ofNat P)), .val (.int (Int32.ofNat k)), s4, s5, s6] []) _
        refine Go.step (fun _ => XS.iloadN X.here hx rfl (hb hby d6_6) rfl ) ?_
        show Go p e below T (mkF m 7 #[.val (.ref a), .val (.int (Int32.ofNat x)), .val (.int (Int32.ofNat P)), .val (.int (Int32.ofNat k)), s4, s5, s6] [(.int (Int32.ofNat P))]) _
        refine Go.step (fun _ => XS.ifYes X.here hx rfl (pc0 := 7) (pc' := 12) rfl (hb hby d6_7) rfl ((if0 _ _).trans (flt (own_nn' (by omega))).2.1) (by decide) (by decide)) ?_
        show Go p e below T (mkF m 12 #[.val (.ref a), .val (.int (Int32.ofNat x)), .val (.int (Int32.ofNat P)), .val (.int (Int32.ofNat k)), s4, s5, s6] []) _
        refine Go.step (fun _ => XS.iloadN X.here hx rfl (hb hby d6_12) rfl ) ?_
        show Go p e below T (mkF m 13 #[.val (.ref a), .val (.int (Int32.ofNat x)), .val (.int (Int32.ofNat P)), .val (.int (Int32.ofNat k)), s4, s5, s6] [(.int (Int32.ofNat P))]) _
        refine Go.step (fun _ => XS.bipush X.here hx rfl (hb hby d6_13)) ?_
        show Go p e below T (mkF m 15 #[.val (.ref a), .val (.int (Int32.ofNat x)), .val (.int (Int32.ofNat P)), .val (.int (Int32.ofNat k)), s4, s5, s6] [(.int (6 : Int32)), (.int (Int32.ofNat P))]) _
        refine Go.step (fun _ => XS.iushr X.here hx rfl (hb hby d6_15) rfl) ?_
        show Go p e below T (mkF m 16 #[.val (.ref a), .val (.int (Int32.ofNat x)), .val (.int (Int32.ofNat P)), .val (.int (Int32.ofNat k)), s4, s5, s6] [(.int (((Int32.ofNat P).toUInt32 >>> ((6 : Int32) &&& 31).toUInt32).toInt32))]) _
        rw [own_shr6 (by omega)]
        show Go p e below T (mkF m 16 #[.val (.ref a), .val (.int (Int32.ofNat x)), .val (.int (Int32.ofNat P)), .val (.int (Int32.ofNat k)), s4, s5, s6] [(.int (Int32.ofNat (P / 64)))]) _
        refine Go.step (fun _ => XS.istore X.here hx rfl (hb hby d6_16) rfl (l' := #[.val (.ref a), .val (.int (Int32.ofNat x)), .val (.int (Int32.ofNat P)), .val (.int (Int32.ofNat k)), .val (.int (Int32.ofNat (P / 64))), s5, s6]) (XS.store1 rfl o4 rfl)) ?_
        show Go p e below T (mkF m 18 #[.val (.ref a), .val (.int (Int32.ofNat x)), .val (.int (Int32.ofNat P)), .val (.int (Int32.ofNat k)), .val (.int (Int32.ofNat (P / 64))), s5, s6] []) _
        refine Go.step (fun _ => XS.aloadN X.here hx rfl (hb hby d6_18) rfl rfl ) ?_
        show Go p e below T (mkF m 19 #[.val (.ref a), .val (.int (Int32.ofNat x)), .val (.int (Int32.ofNat P)), .val (.int (Int32.ofNat k)), .val (.int (Int32.ofNat (P / 64))), s5, s6] [(.ref a)]) _
        obtain ⟨T59, X59, e59, st59⟩ := getF X hx hZ hown (host := "") (Or.inl (hw _ (List.mem_of_getElem? (i := 13) rfl))) Via.refl eT T0.2.1 (g := (mkF m 19 #[.val (.ref a), .val (.int (Int32.ofNat x)), .val (.int (Int32.ofNat P)), .val (.int (Int32.ofNat k)), .val (.int (Int32.ofNat (P / 64))), s5, s6] [(.ref a)])) rfl rfl (hb hby d6_19)
        refine Go.step st59 ?_
        show Go p e below T59 (mkF m 22 #[.val (.ref a), .val (.int (Int32.ofNat x)), .val (.int (Int32.ofNat P)), .val (.int (Int32.ofNat k)), .val (.int (Int32.ofNat (P / 64))), s5, s6] [(.ref A)]) _
        refine Go.step (fun _ => XS.iloadN X59.here hx rfl (hb hby d6_22) rfl ) ?_
        show Go p e below T59 (mkF m 23 #[.val (.ref a), .val (.int (Int32.ofNat x)), .val (.int (Int32.ofNat P)), .val (.int (Int32.ofNat k)), .val (.int (Int32.ofNat (P / 64))), s5, s6] [(.int (Int32.ofNat k)), (.ref A)]) _
        obtain ⟨clA60, AA60, sA60, gA60⟩ := id Tr.2.2.1
        refine Go.step (fun _ => X59.aaload hx (j := (Int32.ofNat k)) (v := (.ref (lv k))) (by rw [e59]; exact AA60.1) (State.isArrayOf_alike hZ.alike AA60.2.1) rfl AA60.2.2 (own_in sA60 hkM (by omega)) (by rw [own_clamp (by omega)]; exact gA60 _ hkM) (g := (mkF m 23 #[.val (.ref a), .val (.int (Int32.ofNat x)), .val (.int (Int32.ofNat P)), .val (.int (Int32.ofNat k)), .val (.int (Int32.ofNat (P / 64))), s5, s6] [(.int (Int32.ofNat k)), (.ref A)])) rfl rfl (hb hby d6_23) _) ?_
        show Go p e below T59 (mkF m 24 #[.val (.ref a), .val (.int (Int32.ofNat x)), .val (.int (Int32.ofNat P)), .val (.int (Int32.ofNat k)), .val (.int (Int32.ofNat (P / 64))), s5, s6] [(.ref (lv k))]) _
        refine Go.step (fun _ => XS.iload X59.here hx rfl (hb hby d6_24) rfl ) ?_
        show Go p e below T59 (mkF m 26 #[.val (.ref a), .val (.int (Int32.ofNat x)), .val (.int (Int32.ofNat P)), .val (.int (Int32.ofNat k)), .val (.int (Int32.ofNat (P / 64))), s5, s6] [(.int (Int32.ofNat (P / 64))), (.ref (lv k))]) _
        obtain ⟨clk61, Ak61, sk61, gk61⟩ := id (Tr.2.2.2.1 _ hkM)
        refine Go.step (fun _ => X59.laload hx (j := (Int32.ofNat (P / 64))) (v := (.long (f k (P / 64)))) (by rw [e59]; exact Ak61.1) (State.isArrayOf_alike hZ.alike Ak61.2.1) Ak61.2.2 (own_in sk61 hwz (hszb _ hkM)) (by rw [own_clamp (Nat.lt_trans hwz (hszb _ hkM))]; exact gk61 _ hwz) (g := (mkF m 26 #[.val (.ref a), .val (.int (Int32.ofNat x)), .val (.int (Int32.ofNat P)), .val (.int (Int32.ofNat k)), .val (.int (Int32.ofNat (P / 64))), s5, s6] [(.int (Int32.ofNat (P / 64))), (.ref (lv k))])) rfl rfl (hb hby d6_26) _) ?_
        show Go p e below T59 (mkF m 27 #[.val (.ref a), .val (.int (Int32.ofNat x)), .val (.int (Int32.ofNat P)), .val (.int (Int32.ofNat k)), .val (.int (Int32.ofNat (P / 64))), s5, s6] [(.long (f k (P / 64)))]) _
        refine Go.step (fun _ => X59.ldc2Long hx hown (mvT hZ (hw _ (List.mem_of_getElem? (i := 31) rfl))) (g := (mkF m 27 #[.val (.ref a), .val (.int (Int32.ofNat x)), .val (.int (Int32.ofNat P)), .val (.int (Int32.ofNat k)), .val (.int (Int32.ofNat (P / 64))), s5, s6] [(.long (f k (P / 64)))])) rfl (hb hby d6_27) _) ?_
        show Go p e below T59 (mkF m 30 #[.val (.ref a), .val (.int (Int32.ofNat x)), .val (.int (Int32.ofNat P)), .val (.int (Int32.ofNat k)), .val (.int (Int32.ofNat (P / 64))), s5, s6] [(.long (-1 : Int64)), (.long (f k (P / 64)))]) _
        refine Go.step (fun _ => XS.bipush X59.here hx rfl (hb hby d6_30)) ?_
        show Go p e below T59 (mkF m 32 #[.val (.ref a), .val (.int (Int32.ofNat x)), .val (.int (Int32.ofNat P)), .val (.int (Int32.ofNat k)), .val (.int (Int32.ofNat (P / 64))), s5, s6] [(.int (63 : Int32)), (.long (-1 : Int64)), (.long (f k (P / 64)))]) _
        refine Go.step (fun _ => XS.iloadN X59.here hx rfl (hb hby d6_32) rfl ) ?_
        show Go p e below T59 (mkF m 33 #[.val (.ref a), .val (.int (Int32.ofNat x)), .val (.int (Int32.ofNat P)), .val (.int (Int32.ofNat k)), .val (.int (Int32.ofNat (P / 64))), s5, s6] [(.int (Int32.ofNat P)), (.int (63 : Int32)), (.long (-1 : Int64)), (.long (f k (P / 64)))]) _
        refine Go.step (fun _ => XS.bipush X59.here hx rfl (hb hby d6_33)) ?_
        show Go p e below T59 (mkF m 35 #[.val (.ref a), .val (.int (Int32.ofNat x)), .val (.int (Int32.ofNat P)), .val (.int (Int32.ofNat k)), .val (.int (Int32.ofNat (P / 64))), s5, s6] [(.int (63 : Int32)), (.int (Int32.ofNat P)), (.int (63 : Int32)), (.long (-1 : Int64)), (.long (f k (P / 64)))]) _
        refine Go.step (fun _ => XS.iand X59.here hx rfl (hb hby d6_35) rfl) ?_
        show Go p e below T59 (mkF m 36 #[.val (.ref a), .val (.int (Int32.ofNat x)), .val (.int (Int32.ofNat P)), .val (.int (Int32.ofNat k)), .val (.int (Int32.ofNat (P / 64))), s5, s6] [(.int ((Int32.ofNat P) &&& (63 : Int32))), (.int (63 : Int32)), (.long (-1 : Int64)), (.long (f k (P / 64)))]) _
        rw [own_and63 (by omega)]
        show Go p e below T59 (mkF m 36 #[.val (.ref a), .val (.int (Int32.ofNat x)), .val (.int (Int32.ofNat P)), .val (.int (Int32.ofNat k)), .val (.int (Int32.ofNat (P / 64))), s5, s6] [(.int (Int32.ofNat (P % 64))), (.int (63 : Int32)), (.long (-1 : Int64)), (.long (f k (P / 64)))]) _
        refine Go.step (fun _ => XS.isub X59.here hx rfl (hb hby d6_36) rfl) ?_
        show Go p e below T59 (mkF m 37 #[.val (.ref a), .val (.int (Int32.ofNat x)), .val (.int (Int32.ofNat P)), .val (.int (Int32.ofNat k)), .val (.int (Int32.ofNat (P / 64))), s5, s6] [(.int ((63 : Int32) - (Int32.ofNat (P % 64)))), (.long (-1 : Int64)), (.long (f k (P / 64)))]) _
        rw [own_63 (Nat.mod_lt _ (by decide))]
        show Go p e below T59 (mkF m 37 #[.val (.ref a), .val (.int (Int32.ofNat x)), .val (.int (Int32.ofNat P)), .val (.int (Int32.ofNat k)), .val (.int (Int32.ofNat (P / 64))), s5, s6] [(.int (Int32.ofNat (63 - P % 64))), (.long (-1 : Int64)), (.long (f k (P / 64)))]) _
        refine Go.step (fun _ => XS.lushr X59.here hx rfl (hb hby d6_37) rfl) ?_
        show Go p e below T59 (mkF m 38 #[.val (.ref a), .val (.int (Int32.ofNat x)), .val (.int (Int32.ofNat P)), .val (.int (Int32.ofNat k)), .val (.int (Int32.ofNat (P / 64))), s5, s6] [(.long (((-1 : Int64).toUInt64 >>> ((Int32.ofNat (63 - P % 64)) &&& 0x3f).toInt64.toUInt64).toInt64)), (.long (f k (P / 64)))]) _
        refine Go.step (fun _ => XS.land X59.here hx rfl (hb hby d6_38) rfl) ?_
        show Go p e below T59 (mkF m 39 #[.val (.ref a), .val (.int (Int32.ofNat x)), .val (.int (Int32.ofNat P)), .val (.int (Int32.ofNat k)), .val (.int (Int32.ofNat (P / 64))), s5, s6] [(.long ((f k (P / 64)) &&& (((-1 : Int64).toUInt64 >>> ((Int32.ofNat (63 - P % 64)) &&& 0x3f).toInt64.toUInt64).toInt64)))]) _
        refine Go.step (fun _ => XS.lstore X59.here hx rfl (hb hby d6_39) rfl (l' := #[.val (.ref a), .val (.int (Int32.ofNat x)), .val (.int (Int32.ofNat P)), .val (.int (Int32.ofNat k)), .val (.int (Int32.ofNat (P / 64))), .val (.long ((f k (P / 64)) &&& (((-1 : Int64).toUInt64 >>> ((Int32.ofNat (63 - P % 64)) &&& 0x3f).toInt64.toUInt64).toInt64))), .second]) (own_os5 o56)) ?_
        show Go p e below T59 (mkF m 41 #[.val (.ref a), .val (.int (Int32.ofNat x)), .val (.int (Int32.ofNat P)), .val (.int (Int32.ofNat k)), .val (.int (Int32.ofNat (P / 64))), .val (.long ((f k (P / 64)) &&& (((-1 : Int64).toUInt64 >>> ((Int32.ofNat (63 - P % 64)) &&& 0x3f).toInt64.toUInt64).toInt64))), .second] []) _
        refine Go.step (fun _ => XS.lload X59.here hx rfl (hb hby d6_41) rfl ) ?_
        show Go p e below T59 (mkF m 43 #[.val (.ref a), .val (.int (Int32.ofNat x)), .val (.int (Int32.ofNat P)), .val (.int (Int32.ofNat k)), .val (.int (Int32.ofNat (P / 64))), .val (.long ((f k (P / 64)) &&& (((-1 : Int64).toUInt64 >>> ((Int32.ofNat (63 - P % 64)) &&& 0x3f).toInt64.toUInt64).toInt64))), .second] [(.long ((f k (P / 64)) &&& (((-1 : Int64).toUInt64 >>> ((Int32.ofNat (63 - P % 64)) &&& 0x3f).toInt64.toUInt64).toInt64)))]) _
        refine Go.step (fun _ => XS.lconst X59.here hx rfl (hb hby d6_43)) ?_
        show Go p e below T59 (mkF m 44 #[.val (.ref a), .val (.int (Int32.ofNat x)), .val (.int (Int32.ofNat P)), .val (.int (Int32.ofNat k)), .val (.int (Int32.ofNat (P / 64))), .val (.long ((f k (P / 64)) &&& (((-1 : Int64).toUInt64 >>> ((Int32.ofNat (63 - P % 64)) &&& 0x3f).toInt64.toUInt64).toInt64))), .second] [(.long (0 : Int64)), (.long ((f k (P / 64)) &&& (((-1 : Int64).toUInt64 >>> ((Int32.ofNat (63 - P % 64)) &&& 0x3f).toInt64.toUInt64).toInt64)))]) _
        refine Go.step (fun _ => XS.lcmp X59.here hx rfl (hb hby d6_44) rfl) ?_
        show Go p e below T59 (mkF m 45 #[.val (.ref a), .val (.int (Int32.ofNat x)), .val (.int (Int32.ofNat P)), .val (.int (Int32.ofNat k)), .val (.int (Int32.ofNat (P / 64))), .val (.long ((f k (P / 64)) &&& (((-1 : Int64).toUInt64 >>> ((Int32.ofNat (63 - P % 64)) &&& 0x3f).toInt64.toUInt64).toInt64))), .second] [(.int (lcmpW ((f k (P / 64)) &&& (((-1 : Int64).toUInt64 >>> ((Int32.ofNat (63 - P % 64)) &&& 0x3f).toInt64.toUInt64).toInt64)) (0 : Int64)))]) _
        by_cases hc45 : (lcmpW ((f k (P / 64)) &&& (((-1 : Int64).toUInt64 >>> ((Int32.ofNat (63 - P % 64)) &&& 0x3f).toInt64.toUInt64).toInt64)) (0 : Int64)) = (0 : Int32)
        · skip
          refine Go.step (fun _ => XS.ifYes X59.here hx rfl (pc0 := 45) (pc' := 63) rfl (hb hby d6_45) rfl ((if0 _ _).trans (teq hc45).1) (by decide) (by decide)) ?_
          show Go p e below T59 (mkF m 63 #[.val (.ref a), .val (.int (Int32.ofNat x)), .val (.int (Int32.ofNat P)), .val (.int (Int32.ofNat k)), .val (.int (Int32.ofNat (P / 64))), .val (.long ((f k (P / 64)) &&& (((-1 : Int64).toUInt64 >>> ((Int32.ofNat (63 - P % 64)) &&& 0x3f).toInt64.toUInt64).toInt64))), .second] []) _
          refine Go.step (fun _ => XS.iloadN X59.here hx rfl (hb hby d6_63) rfl ) ?_
          show Go p e below T59 (mkF m 64 #[.val (.ref a), .val (.int (Int32.ofNat x)), .val (.int (Int32.ofNat P)), .val (.int (Int32.ofNat k)), .val (.int (Int32.ofNat (P / 64))), .val (.long ((f k (P / 64)) &&& (((-1 : Int64).toUInt64 >>> ((Int32.ofNat (63 - P % 64)) &&& 0x3f).toInt64.toUInt64).toInt64))), .second] [(.int (Int32.ofNat k))]) _
          refine Go.step (fun _ => XS.aloadN X59.here hx rfl (hb hby d6_64) rfl rfl ) ?_
          show Go p e below T59 (mkF m 65 #[.val (.ref a), .val (.int (Int32.ofNat x)), .val (.int (Int32.ofNat P)), .val (.int (Int32.ofNat k)), .val (.int (Int32.ofNat (P / 64))), .val (.long ((f k (P / 64)) &&& (((-1 : Int64).toUInt64 >>> ((Int32.ofNat (63 - P % 64)) &&& 0x3f).toInt64.toUInt64).toInt64))), .second] [(.ref a), (.int (Int32.ofNat k))]) _
          obtain ⟨T62, X62, e62, st62⟩ := getF X59 hx hZ hown (host := "") (Or.inl (hw _ (List.mem_of_getElem? (i := 13) rfl))) Via.refl e59 T0.2.1 (g := (mkF m 65 #[.val (.ref a), .val (.int (Int32.ofNat x)), .val (.int (Int32.ofNat P)), .val (.int (Int32.ofNat k)), .val (.int (Int32.ofNat (P / 64))), .val (.long ((f k (P / 64)) &&& (((-1 : Int64).toUInt64 >>> ((Int32.ofNat (63 - P % 64)) &&& 0x3f).toInt64.toUInt64).toInt64))), .second] [(.ref a), (.int (Int32.ofNat k))])) rfl rfl (hb hby d6_65)
          refine Go.step st62 ?_
          show Go p e below T62 (mkF m 68 #[.val (.ref a), .val (.int (Int32.ofNat x)), .val (.int (Int32.ofNat P)), .val (.int (Int32.ofNat k)), .val (.int (Int32.ofNat (P / 64))), .val (.long ((f k (P / 64)) &&& (((-1 : Int64).toUInt64 >>> ((Int32.ofNat (63 - P % 64)) &&& 0x3f).toInt64.toUInt64).toInt64))), .second] [(.ref A), (.int (Int32.ofNat k))]) _
          obtain ⟨clA63, AA63, sA63, gA63⟩ := id Tr.2.2.1
          refine Go.step (fun _ => X62.arraylength hx (by rw [e62]; exact AA63.1) (State.isArrayOf_alike hZ.alike AA63.2.1) (g := (mkF m 68 #[.val (.ref a), .val (.int (Int32.ofNat x)), .val (.int (Int32.ofNat P)), .val (.int (Int32.ofNat k)), .val (.int (Int32.ofNat (P / 64))), .val (.long ((f k (P / 64)) &&& (((-1 : Int64).toUInt64 >>> ((Int32.ofNat (63 - P % 64)) &&& 0x3f).toInt64.toUInt64).toInt64))), .second] [(.ref A), (.int (Int32.ofNat k))])) rfl rfl (hb hby d6_68) _) ?_
          rw [sA63]
          show Go p e below T62 (mkF m 69 #[.val (.ref a), .val (.int (Int32.ofNat x)), .val (.int (Int32.ofNat P)), .val (.int (Int32.ofNat k)), .val (.int (Int32.ofNat (P / 64))), .val (.long ((f k (P / 64)) &&& (((-1 : Int64).toUInt64 >>> ((Int32.ofNat (63 - P % 64)) &&& 0x3f).toInt64.toUInt64).toInt64))), .second] [(.int (Int32.ofNat M)), (.int (Int32.ofNat k))]) _
          refine Go.step (fun _ => XS.iconst X62.here hx rfl (hb hby d6_69)) ?_
          show Go p e below T62 (mkF m 70 #[.val (.ref a), .val (.int (Int32.ofNat x)), .val (.int (Int32.ofNat P)), .val (.int (Int32.ofNat k)), .val (.int (Int32.ofNat (P / 64))), .val (.long ((f k (P / 64)) &&& (((-1 : Int64).toUInt64 >>> ((Int32.ofNat (63 - P % 64)) &&& 0x3f).toInt64.toUInt64).toInt64))), .second] [(.int (1 : Int32)), (.int (Int32.ofNat M)), (.int (Int32.ofNat k))]) _
          refine Go.step (fun _ => XS.isub X62.here hx rfl (hb hby d6_70) rfl) ?_
          show Go p e below T62 (mkF m 71 #[.val (.ref a), .val (.int (Int32.ofNat x)), .val (.int (Int32.ofNat P)), .val (.int (Int32.ofNat k)), .val (.int (Int32.ofNat (P / 64))), .val (.long ((f k (P / 64)) &&& (((-1 : Int64).toUInt64 >>> ((Int32.ofNat (63 - P % 64)) &&& 0x3f).toInt64.toUInt64).toInt64))), .second] [(.int ((Int32.ofNat M) - (1 : Int32))), (.int (Int32.ofNat k))]) _
          rw [show Int32.ofNat M - (1 : Int32) = Int32.ofNat (M - 1) from by rw [show M = (M - 1) + 1 from by omega]; exact own_sub (M - 1) 1]
          show Go p e below T62 (mkF m 71 #[.val (.ref a), .val (.int (Int32.ofNat x)), .val (.int (Int32.ofNat P)), .val (.int (Int32.ofNat k)), .val (.int (Int32.ofNat (P / 64))), .val (.long ((f k (P / 64)) &&& (((-1 : Int64).toUInt64 >>> ((Int32.ofNat (63 - P % 64)) &&& 0x3f).toInt64.toUInt64).toInt64))), .second] [(.int (Int32.ofNat (M - 1))), (.int (Int32.ofNat k))]) _
          refine Go.step (fun _ => XS.icmpNo X62.here hx rfl (hb hby d6_71) rfl (teq (by rw [show k = M - 1 from by omega])).2) ?_
          show Go p e below T62 (mkF m 74 #[.val (.ref a), .val (.int (Int32.ofNat x)), .val (.int (Int32.ofNat P)), .val (.int (Int32.ofNat k)), .val (.int (Int32.ofNat (P / 64))), .val (.long ((f k (P / 64)) &&& (((-1 : Int64).toUInt64 >>> ((Int32.ofNat (63 - P % 64)) &&& 0x3f).toInt64.toUInt64).toInt64))), .second] []) _
          refine Go.step (fun _ => XS.iconst X62.here hx rfl (hb hby d6_74)) ?_
          show Go p e below T62 (mkF m 75 #[.val (.ref a), .val (.int (Int32.ofNat x)), .val (.int (Int32.ofNat P)), .val (.int (Int32.ofNat k)), .val (.int (Int32.ofNat (P / 64))), .val (.long ((f k (P / 64)) &&& (((-1 : Int64).toUInt64 >>> ((Int32.ofNat (63 - P % 64)) &&& 0x3f).toInt64.toUInt64).toInt64))), .second] [(.int (-1 : Int32))]) _
          refine Go.retI X62 hx hret hlk (hb hby d6_75) ?_ (by decide) (by decide)
          exact ⟨by rw [← hr _ (Or.inl ⟨rfl, fun q q1 q2 => by have z := (own_empty (hR k hkM) hwz hmask ((lw_eq _ _).mp hc45) q q1).mp (Nat.le_of_lt_succ ((iff q q1).mp q2)); have y := htop k hk P hwz; rw [y] at z; exact absurd z (Nat.not_lt_zero _)⟩)], N0, e62⟩
        · skip
          refine Go.step (fun _ => XS.ifNo X59.here hx rfl (hb hby d6_45) rfl ((if0 _ _).trans (feq hc45).1)) ?_
          show Go p e below T59 (mkF m 48 #[.val (.ref a), .val (.int (Int32.ofNat x)), .val (.int (Int32.ofNat P)), .val (.int (Int32.ofNat k)), .val (.int (Int32.ofNat (P / 64))), .val (.long ((f k (P / 64)) &&& (((-1 : Int64).toUInt64 >>> ((Int32.ofNat (63 - P % 64)) &&& 0x3f).toInt64.toUInt64).toInt64))), .second] []) _
          refine Go.step (fun _ => XS.iload X59.here hx rfl (hb hby d6_48) rfl ) ?_
          show Go p e below T59 (mkF m 50 #[.val (.ref a), .val (.int (Int32.ofNat x)), .val (.int (Int32.ofNat P)), .val (.int (Int32.ofNat k)), .val (.int (Int32.ofNat (P / 64))), .val (.long ((f k (P / 64)) &&& (((-1 : Int64).toUInt64 >>> ((Int32.ofNat (63 - P % 64)) &&& 0x3f).toInt64.toUInt64).toInt64))), .second] [(.int (Int32.ofNat (P / 64)))]) _
          refine Go.step (fun _ => XS.bipush X59.here hx rfl (hb hby d6_50)) ?_
          show Go p e below T59 (mkF m 52 #[.val (.ref a), .val (.int (Int32.ofNat x)), .val (.int (Int32.ofNat P)), .val (.int (Int32.ofNat k)), .val (.int (Int32.ofNat (P / 64))), .val (.long ((f k (P / 64)) &&& (((-1 : Int64).toUInt64 >>> ((Int32.ofNat (63 - P % 64)) &&& 0x3f).toInt64.toUInt64).toInt64))), .second] [(.int (6 : Int32)), (.int (Int32.ofNat (P / 64)))]) _
          refine Go.step (fun _ => XS.ishl X59.here hx rfl (hb hby d6_52) rfl) ?_
          show Go p e below T59 (mkF m 53 #[.val (.ref a), .val (.int (Int32.ofNat x)), .val (.int (Int32.ofNat P)), .val (.int (Int32.ofNat k)), .val (.int (Int32.ofNat (P / 64))), .val (.long ((f k (P / 64)) &&& (((-1 : Int64).toUInt64 >>> ((Int32.ofNat (63 - P % 64)) &&& 0x3f).toInt64.toUInt64).toInt64))), .second] [(.int ((Int32.ofNat (P / 64)) <<< ((6 : Int32) &&& 31)))]) _
          rw [own_shl6 (by omega)]
          show Go p e below T59 (mkF m 53 #[.val (.ref a), .val (.int (Int32.ofNat x)), .val (.int (Int32.ofNat P)), .val (.int (Int32.ofNat k)), .val (.int (Int32.ofNat (P / 64))), .val (.long ((f k (P / 64)) &&& (((-1 : Int64).toUInt64 >>> ((Int32.ofNat (63 - P % 64)) &&& 0x3f).toInt64.toUInt64).toInt64))), .second] [(.int (Int32.ofNat (64 * (P / 64))))]) _
          refine Go.step (fun _ => XS.lload X59.here hx rfl (hb hby d6_53) rfl ) ?_
          show Go p e below T59 (mkF m 55 #[.val (.ref a), .val (.int (Int32.ofNat x)), .val (.int (Int32.ofNat P)), .val (.int (Int32.ofNat k)), .val (.int (Int32.ofNat (P / 64))), .val (.long ((f k (P / 64)) &&& (((-1 : Int64).toUInt64 >>> ((Int32.ofNat (63 - P % 64)) &&& 0x3f).toInt64.toUInt64).toInt64))), .second] [(.long ((f k (P / 64)) &&& (((-1 : Int64).toUInt64 >>> ((Int32.ofNat (63 - P % 64)) &&& 0x3f).toInt64.toUInt64).toInt64))), (.int (Int32.ofNat (64 * (P / 64))))]) _
          obtain ⟨_, _, ⟨T64, L64, k64, n64⟩, -, X64, ⟨Lc64, hQ64, l64, y64, z64⟩, st64⟩ := Jvm.LawKit.callS X59 hx (y := (⟨"com/example/maxhue/maxhue/PointSet", "lastBit", "(J)I"⟩ : MethodName)) hown (mvT hZ (hw _ (List.mem_of_getElem? (i := 41) rfl))) (mvT hZ (hw _ (List.mem_of_getElem? (i := 42) rfl))) (mvT hZ (hw _ (List.mem_of_getElem? (i := 4) rfl))) (mvT hZ (hw _ (List.mem_of_getElem? (i := 43) rfl))) (by decide) (backOf (W := 1) (rmLB l Z a0 hw [] ((f k (P / 64)) &&& (((-1 : Int64).toUInt64 >>> ((Int32.ofNat (63 - P % 64)) &&& 0x3f).toInt64.toUInt64).toInt64)) h0 n0 Z0) hZ (hw _ (List.mem_of_getElem? (i := 43) rfl)) (hw _ (List.mem_of_getElem? (i := 4) rfl)) (by decide) (by decide)) (g := (mkF m 55 #[.val (.ref a), .val (.int (Int32.ofNat x)), .val (.int (Int32.ofNat P)), .val (.int (Int32.ofNat k)), .val (.int (Int32.ofNat (P / 64))), .val (.long ((f k (P / 64)) &&& (((-1 : Int64).toUInt64 >>> ((Int32.ofNat (63 - P % 64)) &&& 0x3f).toInt64.toUInt64).toInt64))), .second] [(.long ((f k (P / 64)) &&& (((-1 : Int64).toUInt64 >>> ((Int32.ofNat (63 - P % 64)) &&& 0x3f).toInt64.toUInt64).toInt64))), (.int (Int32.ofNat (64 * (P / 64))))])) rfl (by rw [hml]; rfl) (argsL := [(.long ((f k (P / 64)) &&& (((-1 : Int64).toUInt64 >>> ((Int32.ofNat (63 - P % 64)) &&& 0x3f).toInt64.toUInt64).toInt64)))]) (rest := [(.int (Int32.ofNat (64 * (P / 64))))]) (lenOf pd_1 rfl) rfl (by show 2 * 0 + _ ≤ _; exact Nat.le_of_eq rfl) (hb hby d6_55) (fun _ _ => ⟨rfl, e59, (by decide : 0 + 0 ≤ _), (by decide : 0 + 0 ≤ _)⟩)
          dsimp only [Pt.U, Pt.locs, Pt.cells, Pt.slots] at X64 l64 y64 z64 st64 hQ64
          subst l64 y64 z64
          obtain ⟨rfl, Nq64, eh64⟩ := hQ64
          have N64 := Fr.app N0 Nq64
          refine Go.step st64 ?_
          show Go p e below T64 (mkF m 58 #[.val (.ref a), .val (.int (Int32.ofNat x)), .val (.int (Int32.ofNat P)), .val (.int (Int32.ofNat k)), .val (.int (Int32.ofNat (P / 64))), .val (.long ((f k (P / 64)) &&& (((-1 : Int64).toUInt64 >>> ((Int32.ofNat (63 - P % 64)) &&& 0x3f).toInt64.toUInt64).toInt64))), .second] [(.int ((63 : Int32) - nlz64 (((f k (P / 64)) &&& (((-1 : Int64).toUInt64 >>> ((Int32.ofNat (63 - P % 64)) &&& 0x3f).toInt64.toUInt64).toInt64))))), (.int (Int32.ofNat (64 * (P / 64))))]) _
          obtain ⟨b, hb1, hb2⟩ := own_top (f k (P / 64) &&& (((-1 : Int64).toUInt64 >>> (Int32.ofNat (63 - P % 64) &&& 0x3f).toInt64.toUInt64).toInt64)) (fun z => hc45 ((lw_eq _ _).mpr z))
          obtain ⟨d1, d2, d3⟩ := own_found (hR k hkM) hwz hmask hb2
          rw [hb1]
          show Go p e below T64 (mkF m 58 #[.val (.ref a), .val (.int (Int32.ofNat x)), .val (.int (Int32.ofNat P)), .val (.int (Int32.ofNat k)), .val (.int (Int32.ofNat (P / 64))), .val (.long ((f k (P / 64)) &&& (((-1 : Int64).toUInt64 >>> ((Int32.ofNat (63 - P % 64)) &&& 0x3f).toInt64.toUInt64).toInt64))), .second] [(.int (Int32.ofNat b)), (.int (Int32.ofNat (64 * (P / 64))))]) _
          refine Go.step (fun _ => XS.iadd X64.here hx rfl (hb hby d6_58) rfl) ?_
          show Go p e below T64 (mkF m 59 #[.val (.ref a), .val (.int (Int32.ofNat x)), .val (.int (Int32.ofNat P)), .val (.int (Int32.ofNat k)), .val (.int (Int32.ofNat (P / 64))), .val (.long ((f k (P / 64)) &&& (((-1 : Int64).toUInt64 >>> ((Int32.ofNat (63 - P % 64)) &&& 0x3f).toInt64.toUInt64).toInt64))), .second] [(.int ((Int32.ofNat (64 * (P / 64))) + (Int32.ofNat b)))]) _
          rw [own_add (64 * (P / 64)) b]
          show Go p e below T64 (mkF m 59 #[.val (.ref a), .val (.int (Int32.ofNat x)), .val (.int (Int32.ofNat P)), .val (.int (Int32.ofNat k)), .val (.int (Int32.ofNat (P / 64))), .val (.long ((f k (P / 64)) &&& (((-1 : Int64).toUInt64 >>> ((Int32.ofNat (63 - P % 64)) &&& 0x3f).toInt64.toUInt64).toInt64))), .second] [(.int (Int32.ofNat (64 * (P / 64) + b)))]) _
          refine Go.step (fun _ => XS.istoreN X64.here hx rfl (hb hby d6_59) rfl (l' := #[.val (.ref a), .val (.int (Int32.ofNat x)), .val (.int (Int32.ofNat (64 * (P / 64) + b))), .val (.int (Int32.ofNat k)), .val (.int (Int32.ofNat (P / 64))), .val (.long ((f k (P / 64)) &&& (((-1 : Int64).toUInt64 >>> ((Int32.ofNat (63 - P % 64)) &&& 0x3f).toInt64.toUInt64).toInt64))), .second]) rfl) ?_
          show Go p e below T64 (mkF m 60 #[.val (.ref a), .val (.int (Int32.ofNat x)), .val (.int (Int32.ofNat (64 * (P / 64) + b))), .val (.int (Int32.ofNat k)), .val (.int (Int32.ofNat (P / 64))), .val (.long ((f k (P / 64)) &&& (((-1 : Int64).toUInt64 >>> ((Int32.ofNat (63 - P % 64)) &&& 0x3f).toInt64.toUInt64).toInt64))), .second] []) _
          refine Go.step (fun _ => XS.goto X64.here hx rfl (pc0 := 60) (pc' := 87) rfl (hb hby d6_60) (by decide) (by decide)) ?_
          show Go p e below T64 (mkF m 87 #[.val (.ref a), .val (.int (Int32.ofNat x)), .val (.int (Int32.ofNat (64 * (P / 64) + b))), .val (.int (Int32.ofNat k)), .val (.int (Int32.ofNat (P / 64))), .val (.long ((f k (P / 64)) &&& (((-1 : Int64).toUInt64 >>> ((Int32.ofNat (63 - P % 64)) &&& 0x3f).toInt64.toUInt64).toInt64))), .second] []) _
          refine Go.step (fun _ => XS.iinc X64.here hx rfl (hb hby d6_87) rfl (l' := #[.val (.ref a), .val (.int (Int32.ofNat x)), .val (.int (Int32.ofNat (64 * (P / 64) + b))), .val (.int ((Int32.ofNat k) + (-1 : Int32))), .val (.int (Int32.ofNat (P / 64))), .val (.long ((f k (P / 64)) &&& (((-1 : Int64).toUInt64 >>> ((Int32.ofNat (63 - P % 64)) &&& 0x3f).toInt64.toUInt64).toInt64))), .second]) rfl) ?_
          show Go p e below T64 (mkF m 90 #[.val (.ref a), .val (.int (Int32.ofNat x)), .val (.int (Int32.ofNat (64 * (P / 64) + b))), .val (.int ((Int32.ofNat k) + (-1 : Int32))), .val (.int (Int32.ofNat (P / 64))), .val (.long ((f k (P / 64)) &&& (((-1 : Int64).toUInt64 >>> ((Int32.ofNat (63 - P % 64)) &&& 0x3f).toInt64.toUInt64).toInt64))), .second] []) _
          rw [own_dec]
          exact down k (64 * (P / 64) + b) hkM _ _ _ d1 (fun q q1 q2 => d3 q q1 (Nat.le_of_lt_succ ((iff q q1).mp q2))) (fun q q1 q2 => (iff q q1).mpr (by omega)) _ N64 _ X64 eh64
    | succ d ih =>
      intro k Y hk hY s4 s5 s6 o4 o56 iff hY2 T X eT
      have hkM : k < M := by omega
      rcases Nat.eq_zero_or_pos Y with rfl | hYp
      · skip
        show Go p e below T (mkF m 6 #[.val (.ref a), .val (.int (Int32.ofNat x)), .val (.int (Int32.ofNat 0 - 1)), .val (.int (Int32.ofNat k)), s4, s5, s6] []) _
        refine Go.step (fun _ => XS.iloadN X.here hx rfl (hb hby d6_6) rfl ) ?_
        show Go p e below T (mkF m 7 #[.val (.ref a), .val (.int (Int32.ofNat x)), .val (.int (Int32.ofNat 0 - 1)), .val (.int (Int32.ofNat k)), s4, s5, s6] [(.int (Int32.ofNat 0 - 1))]) _
        refine Go.step (fun _ => XS.ifNo X.here hx rfl (hb hby d6_7) rfl ((if0 _ _).trans (tlt own_m1).2.1)) ?_
        show Go p e below T (mkF m 10 #[.val (.ref a), .val (.int (Int32.ofNat x)), .val (.int (Int32.ofNat 0 - 1)), .val (.int (Int32.ofNat k)), s4, s5, s6] []) _
        refine Go.step (fun _ => XS.iconst X.here hx rfl (hb hby d6_10)) ?_
        show Go p e below T (mkF m 11 #[.val (.ref a), .val (.int (Int32.ofNat x)), .val (.int (Int32.ofNat 0 - 1)), .val (.int (Int32.ofNat k)), s4, s5, s6] [(.int (-1 : Int32))]) _
        refine Go.retI X hx hret hlk (hb hby d6_11) ?_ (by decide) (by decide)
        exact ⟨by rw [← hr _ (Or.inl ⟨rfl, fun q q1 q2 => absurd ((iff q q1).mp q2) (Nat.not_lt_zero _)⟩)], N0, eT⟩
      · skip
        obtain ⟨P, rfl⟩ : ∃ P, Y = P + 1 := ⟨Y - 1, by omega⟩
        show Go p e below T (mkF m 6 #[.val (.ref a), .val (.int (Int32.ofNat x)), .val (.int (Int32.ofNat (P + 1) - 1)), .val (.int (Int32.ofNat k)), s4, s5, s6] []) _
        rw [show Int32.ofNat (P + 1) - (1 : Int32) = Int32.ofNat P from own_sub P 1]
        have hPb : P < 2 ^ 24 := by have := hNb; omega
        have hwz : P / 64 < sz k := by
          have z := hsz (N - 1) (by omega) k hkM
          have z2 : P / 64 ≤ (N - 1) / 64 ^ k / 64 := Nat.div_le_div_right (by omega)
          omega
        have hmask : ∀ b, b < 64 → bitAt (((-1 : Int64).toUInt64 >>> (Int32.ofNat (63 - P % 64) &&& 0x3f).toInt64.toUInt64).toInt64) b = decide (b ≤ P % 64) := fun b hb => own_mask (Nat.mod_lt _ (by decide)) b hb
        show Go p e below T (mkF m 6 #[.val (.ref a), .val (.int (Int32.ofNat x)), .val (.int (Int32.ofNat P)), .val (.int (Int32.ofNat k)), s4, s5, s6] []) _
        refine Go.step (fun _ => XS.iloadN X.here hx rfl (hb hby d6_6) rfl ) ?_
        show Go p e below T (mkF m 7 #[.val (.ref a), .val (.int (Int32.ofNat x)), .val (.int (Int32.ofNat P)), .val (.int (Int32.ofNat k)), s4, s5, s6] [(.int (Int32.ofNat P))]) _
        refine Go.step (fun _ => XS.ifYes X.here hx rfl (pc0 := 7) (pc' := 12) rfl (hb hby d6_7) rfl ((if0 _ _).trans (flt (own_nn' (by omega))).2.1) (by decide) (by decide)) ?_
        show Go p e below T (mkF m 12 #[.val (.ref a), .val (.int (Int32.ofNat x)), .val (.int (Int32.ofNat P)), .val (.int (Int32.ofNat k)), s4, s5, s6] []) _
        refine Go.step (fun _ => XS.iloadN X.here hx rfl (hb hby d6_12) rfl ) ?_
        show Go p e below T (mkF m 13 #[.val (.ref a), .val (.int (Int32.ofNat x)), .val (.int (Int32.ofNat P)), .val (.int (Int32.ofNat k)), s4, s5, s6] [(.int (Int32.ofNat P))]) _
        refine Go.step (fun _ => XS.bipush X.here hx rfl (hb hby d6_13)) ?_
        show Go p e below T (mkF m 15 #[.val (.ref a), .val (.int (Int32.ofNat x)), .val (.int (Int32.ofNat P)), .val (.int (Int32.ofNat k)), s4, s5, s6] [(.int (6 : Int32)), (.int (Int32.ofNat P))]) _
        refine Go.step (fun _ => XS.iushr X.here hx rfl (hb hby d6_15) rfl) ?_
        show Go p e below T (mkF m 16 #[.val (.ref a), .val (.int (Int32.ofNat x)), .val (.int (Int32.ofNat P)), .val (.int (Int32.ofNat k)), s4, s5, s6] [(.int (((Int32.ofNat P).toUInt32 >>> ((6 : Int32) &&& 31).toUInt32).toInt32))]) _
        rw [own_shr6 (by omega)]
        show Go p e below T (mkF m 16 #[.val (.ref a), .val (.int (Int32.ofNat x)), .val (.int (Int32.ofNat P)), .val (.int (Int32.ofNat k)), s4, s5, s6] [(.int (Int32.ofNat (P / 64)))]) _
        refine Go.step (fun _ => XS.istore X.here hx rfl (hb hby d6_16) rfl (l' := #[.val (.ref a), .val (.int (Int32.ofNat x)), .val (.int (Int32.ofNat P)), .val (.int (Int32.ofNat k)), .val (.int (Int32.ofNat (P / 64))), s5, s6]) (XS.store1 rfl o4 rfl)) ?_
        show Go p e below T (mkF m 18 #[.val (.ref a), .val (.int (Int32.ofNat x)), .val (.int (Int32.ofNat P)), .val (.int (Int32.ofNat k)), .val (.int (Int32.ofNat (P / 64))), s5, s6] []) _
        refine Go.step (fun _ => XS.aloadN X.here hx rfl (hb hby d6_18) rfl rfl ) ?_
        show Go p e below T (mkF m 19 #[.val (.ref a), .val (.int (Int32.ofNat x)), .val (.int (Int32.ofNat P)), .val (.int (Int32.ofNat k)), .val (.int (Int32.ofNat (P / 64))), s5, s6] [(.ref a)]) _
        obtain ⟨T65, X65, e65, st65⟩ := getF X hx hZ hown (host := "") (Or.inl (hw _ (List.mem_of_getElem? (i := 13) rfl))) Via.refl eT T0.2.1 (g := (mkF m 19 #[.val (.ref a), .val (.int (Int32.ofNat x)), .val (.int (Int32.ofNat P)), .val (.int (Int32.ofNat k)), .val (.int (Int32.ofNat (P / 64))), s5, s6] [(.ref a)])) rfl rfl (hb hby d6_19)
        refine Go.step st65 ?_
        show Go p e below T65 (mkF m 22 #[.val (.ref a), .val (.int (Int32.ofNat x)), .val (.int (Int32.ofNat P)), .val (.int (Int32.ofNat k)), .val (.int (Int32.ofNat (P / 64))), s5, s6] [(.ref A)]) _
        refine Go.step (fun _ => XS.iloadN X65.here hx rfl (hb hby d6_22) rfl ) ?_
        show Go p e below T65 (mkF m 23 #[.val (.ref a), .val (.int (Int32.ofNat x)), .val (.int (Int32.ofNat P)), .val (.int (Int32.ofNat k)), .val (.int (Int32.ofNat (P / 64))), s5, s6] [(.int (Int32.ofNat k)), (.ref A)]) _
        obtain ⟨clA66, AA66, sA66, gA66⟩ := id Tr.2.2.1
        refine Go.step (fun _ => X65.aaload hx (j := (Int32.ofNat k)) (v := (.ref (lv k))) (by rw [e65]; exact AA66.1) (State.isArrayOf_alike hZ.alike AA66.2.1) rfl AA66.2.2 (own_in sA66 hkM (by omega)) (by rw [own_clamp (by omega)]; exact gA66 _ hkM) (g := (mkF m 23 #[.val (.ref a), .val (.int (Int32.ofNat x)), .val (.int (Int32.ofNat P)), .val (.int (Int32.ofNat k)), .val (.int (Int32.ofNat (P / 64))), s5, s6] [(.int (Int32.ofNat k)), (.ref A)])) rfl rfl (hb hby d6_23) _) ?_
        show Go p e below T65 (mkF m 24 #[.val (.ref a), .val (.int (Int32.ofNat x)), .val (.int (Int32.ofNat P)), .val (.int (Int32.ofNat k)), .val (.int (Int32.ofNat (P / 64))), s5, s6] [(.ref (lv k))]) _
        refine Go.step (fun _ => XS.iload X65.here hx rfl (hb hby d6_24) rfl ) ?_
        show Go p e below T65 (mkF m 26 #[.val (.ref a), .val (.int (Int32.ofNat x)), .val (.int (Int32.ofNat P)), .val (.int (Int32.ofNat k)), .val (.int (Int32.ofNat (P / 64))), s5, s6] [(.int (Int32.ofNat (P / 64))), (.ref (lv k))]) _
        obtain ⟨clk67, Ak67, sk67, gk67⟩ := id (Tr.2.2.2.1 _ hkM)
        refine Go.step (fun _ => X65.laload hx (j := (Int32.ofNat (P / 64))) (v := (.long (f k (P / 64)))) (by rw [e65]; exact Ak67.1) (State.isArrayOf_alike hZ.alike Ak67.2.1) Ak67.2.2 (own_in sk67 hwz (hszb _ hkM)) (by rw [own_clamp (Nat.lt_trans hwz (hszb _ hkM))]; exact gk67 _ hwz) (g := (mkF m 26 #[.val (.ref a), .val (.int (Int32.ofNat x)), .val (.int (Int32.ofNat P)), .val (.int (Int32.ofNat k)), .val (.int (Int32.ofNat (P / 64))), s5, s6] [(.int (Int32.ofNat (P / 64))), (.ref (lv k))])) rfl rfl (hb hby d6_26) _) ?_
        show Go p e below T65 (mkF m 27 #[.val (.ref a), .val (.int (Int32.ofNat x)), .val (.int (Int32.ofNat P)), .val (.int (Int32.ofNat k)), .val (.int (Int32.ofNat (P / 64))), s5, s6] [(.long (f k (P / 64)))]) _
        refine Go.step (fun _ => X65.ldc2Long hx hown (mvT hZ (hw _ (List.mem_of_getElem? (i := 31) rfl))) (g := (mkF m 27 #[.val (.ref a), .val (.int (Int32.ofNat x)), .val (.int (Int32.ofNat P)), .val (.int (Int32.ofNat k)), .val (.int (Int32.ofNat (P / 64))), s5, s6] [(.long (f k (P / 64)))])) rfl (hb hby d6_27) _) ?_
        show Go p e below T65 (mkF m 30 #[.val (.ref a), .val (.int (Int32.ofNat x)), .val (.int (Int32.ofNat P)), .val (.int (Int32.ofNat k)), .val (.int (Int32.ofNat (P / 64))), s5, s6] [(.long (-1 : Int64)), (.long (f k (P / 64)))]) _
        refine Go.step (fun _ => XS.bipush X65.here hx rfl (hb hby d6_30)) ?_
        show Go p e below T65 (mkF m 32 #[.val (.ref a), .val (.int (Int32.ofNat x)), .val (.int (Int32.ofNat P)), .val (.int (Int32.ofNat k)), .val (.int (Int32.ofNat (P / 64))), s5, s6] [(.int (63 : Int32)), (.long (-1 : Int64)), (.long (f k (P / 64)))]) _
        refine Go.step (fun _ => XS.iloadN X65.here hx rfl (hb hby d6_32) rfl ) ?_
        show Go p e below T65 (mkF m 33 #[.val (.ref a), .val (.int (Int32.ofNat x)), .val (.int (Int32.ofNat P)), .val (.int (Int32.ofNat k)), .val (.int (Int32.ofNat (P / 64))), s5, s6] [(.int (Int32.ofNat P)), (.int (63 : Int32)), (.long (-1 : Int64)), (.long (f k (P / 64)))]) _
        refine Go.step (fun _ => XS.bipush X65.here hx rfl (hb hby d6_33)) ?_
        show Go p e below T65 (mkF m 35 #[.val (.ref a), .val (.int (Int32.ofNat x)), .val (.int (Int32.ofNat P)), .val (.int (Int32.ofNat k)), .val (.int (Int32.ofNat (P / 64))), s5, s6] [(.int (63 : Int32)), (.int (Int32.ofNat P)), (.int (63 : Int32)), (.long (-1 : Int64)), (.long (f k (P / 64)))]) _
        refine Go.step (fun _ => XS.iand X65.here hx rfl (hb hby d6_35) rfl) ?_
        show Go p e below T65 (mkF m 36 #[.val (.ref a), .val (.int (Int32.ofNat x)), .val (.int (Int32.ofNat P)), .val (.int (Int32.ofNat k)), .val (.int (Int32.ofNat (P / 64))), s5, s6] [(.int ((Int32.ofNat P) &&& (63 : Int32))), (.int (63 : Int32)), (.long (-1 : Int64)), (.long (f k (P / 64)))]) _
        rw [own_and63 (by omega)]
        show Go p e below T65 (mkF m 36 #[.val (.ref a), .val (.int (Int32.ofNat x)), .val (.int (Int32.ofNat P)), .val (.int (Int32.ofNat k)), .val (.int (Int32.ofNat (P / 64))), s5, s6] [(.int (Int32.ofNat (P % 64))), (.int (63 : Int32)), (.long (-1 : Int64)), (.long (f k (P / 64)))]) _
        refine Go.step (fun _ => XS.isub X65.here hx rfl (hb hby d6_36) rfl) ?_
        show Go p e below T65 (mkF m 37 #[.val (.ref a), .val (.int (Int32.ofNat x)), .val (.int (Int32.ofNat P)), .val (.int (Int32.ofNat k)), .val (.int (Int32.ofNat (P / 64))), s5, s6] [(.int ((63 : Int32) - (Int32.ofNat (P % 64)))), (.long (-1 : Int64)), (.long (f k (P / 64)))]) _
        rw [own_63 (Nat.mod_lt _ (by decide))]
        show Go p e below T65 (mkF m 37 #[.val (.ref a), .val (.int (Int32.ofNat x)), .val (.int (Int32.ofNat P)), .val (.int (Int32.ofNat k)), .val (.int (Int32.ofNat (P / 64))), s5, s6] [(.int (Int32.ofNat (63 - P % 64))), (.long (-1 : Int64)), (.long (f k (P / 64)))]) _
        refine Go.step (fun _ => XS.lushr X65.here hx rfl (hb hby d6_37) rfl) ?_
        show Go p e below T65 (mkF m 38 #[.val (.ref a), .val (.int (Int32.ofNat x)), .val (.int (Int32.ofNat P)), .val (.int (Int32.ofNat k)), .val (.int (Int32.ofNat (P / 64))), s5, s6] [(.long (((-1 : Int64).toUInt64 >>> ((Int32.ofNat (63 - P % 64)) &&& 0x3f).toInt64.toUInt64).toInt64)), (.long (f k (P / 64)))]) _
        refine Go.step (fun _ => XS.land X65.here hx rfl (hb hby d6_38) rfl) ?_
        show Go p e below T65 (mkF m 39 #[.val (.ref a), .val (.int (Int32.ofNat x)), .val (.int (Int32.ofNat P)), .val (.int (Int32.ofNat k)), .val (.int (Int32.ofNat (P / 64))), s5, s6] [(.long ((f k (P / 64)) &&& (((-1 : Int64).toUInt64 >>> ((Int32.ofNat (63 - P % 64)) &&& 0x3f).toInt64.toUInt64).toInt64)))]) _
        refine Go.step (fun _ => XS.lstore X65.here hx rfl (hb hby d6_39) rfl (l' := #[.val (.ref a), .val (.int (Int32.ofNat x)), .val (.int (Int32.ofNat P)), .val (.int (Int32.ofNat k)), .val (.int (Int32.ofNat (P / 64))), .val (.long ((f k (P / 64)) &&& (((-1 : Int64).toUInt64 >>> ((Int32.ofNat (63 - P % 64)) &&& 0x3f).toInt64.toUInt64).toInt64))), .second]) (own_os5 o56)) ?_
        show Go p e below T65 (mkF m 41 #[.val (.ref a), .val (.int (Int32.ofNat x)), .val (.int (Int32.ofNat P)), .val (.int (Int32.ofNat k)), .val (.int (Int32.ofNat (P / 64))), .val (.long ((f k (P / 64)) &&& (((-1 : Int64).toUInt64 >>> ((Int32.ofNat (63 - P % 64)) &&& 0x3f).toInt64.toUInt64).toInt64))), .second] []) _
        refine Go.step (fun _ => XS.lload X65.here hx rfl (hb hby d6_41) rfl ) ?_
        show Go p e below T65 (mkF m 43 #[.val (.ref a), .val (.int (Int32.ofNat x)), .val (.int (Int32.ofNat P)), .val (.int (Int32.ofNat k)), .val (.int (Int32.ofNat (P / 64))), .val (.long ((f k (P / 64)) &&& (((-1 : Int64).toUInt64 >>> ((Int32.ofNat (63 - P % 64)) &&& 0x3f).toInt64.toUInt64).toInt64))), .second] [(.long ((f k (P / 64)) &&& (((-1 : Int64).toUInt64 >>> ((Int32.ofNat (63 - P % 64)) &&& 0x3f).toInt64.toUInt64).toInt64)))]) _
        refine Go.step (fun _ => XS.lconst X65.here hx rfl (hb hby d6_43)) ?_
        show Go p e below T65 (mkF m 44 #[.val (.ref a), .val (.int (Int32.ofNat x)), .val (.int (Int32.ofNat P)), .val (.int (Int32.ofNat k)), .val (.int (Int32.ofNat (P / 64))), .val (.long ((f k (P / 64)) &&& (((-1 : Int64).toUInt64 >>> ((Int32.ofNat (63 - P % 64)) &&& 0x3f).toInt64.toUInt64).toInt64))), .second] [(.long (0 : Int64)), (.long ((f k (P / 64)) &&& (((-1 : Int64).toUInt64 >>> ((Int32.ofNat (63 - P % 64)) &&& 0x3f).toInt64.toUInt64).toInt64)))]) _
        refine Go.step (fun _ => XS.lcmp X65.here hx rfl (hb hby d6_44) rfl) ?_
        show Go p e below T65 (mkF m 45 #[.val (.ref a), .val (.int (Int32.ofNat x)), .val (.int (Int32.ofNat P)), .val (.int (Int32.ofNat k)), .val (.int (Int32.ofNat (P / 64))), .val (.long ((f k (P / 64)) &&& (((-1 : Int64).toUInt64 >>> ((Int32.ofNat (63 - P % 64)) &&& 0x3f).toInt64.toUInt64).toInt64))), .second] [(.int (lcmpW ((f k (P / 64)) &&& (((-1 : Int64).toUInt64 >>> ((Int32.ofNat (63 - P % 64)) &&& 0x3f).toInt64.toUInt64).toInt64)) (0 : Int64)))]) _
        by_cases hc45 : (lcmpW ((f k (P / 64)) &&& (((-1 : Int64).toUInt64 >>> ((Int32.ofNat (63 - P % 64)) &&& 0x3f).toInt64.toUInt64).toInt64)) (0 : Int64)) = (0 : Int32)
        · skip
          refine Go.step (fun _ => XS.ifYes X65.here hx rfl (pc0 := 45) (pc' := 63) rfl (hb hby d6_45) rfl ((if0 _ _).trans (teq hc45).1) (by decide) (by decide)) ?_
          show Go p e below T65 (mkF m 63 #[.val (.ref a), .val (.int (Int32.ofNat x)), .val (.int (Int32.ofNat P)), .val (.int (Int32.ofNat k)), .val (.int (Int32.ofNat (P / 64))), .val (.long ((f k (P / 64)) &&& (((-1 : Int64).toUInt64 >>> ((Int32.ofNat (63 - P % 64)) &&& 0x3f).toInt64.toUInt64).toInt64))), .second] []) _
          refine Go.step (fun _ => XS.iloadN X65.here hx rfl (hb hby d6_63) rfl ) ?_
          show Go p e below T65 (mkF m 64 #[.val (.ref a), .val (.int (Int32.ofNat x)), .val (.int (Int32.ofNat P)), .val (.int (Int32.ofNat k)), .val (.int (Int32.ofNat (P / 64))), .val (.long ((f k (P / 64)) &&& (((-1 : Int64).toUInt64 >>> ((Int32.ofNat (63 - P % 64)) &&& 0x3f).toInt64.toUInt64).toInt64))), .second] [(.int (Int32.ofNat k))]) _
          refine Go.step (fun _ => XS.aloadN X65.here hx rfl (hb hby d6_64) rfl rfl ) ?_
          show Go p e below T65 (mkF m 65 #[.val (.ref a), .val (.int (Int32.ofNat x)), .val (.int (Int32.ofNat P)), .val (.int (Int32.ofNat k)), .val (.int (Int32.ofNat (P / 64))), .val (.long ((f k (P / 64)) &&& (((-1 : Int64).toUInt64 >>> ((Int32.ofNat (63 - P % 64)) &&& 0x3f).toInt64.toUInt64).toInt64))), .second] [(.ref a), (.int (Int32.ofNat k))]) _
          obtain ⟨T68, X68, e68, st68⟩ := getF X65 hx hZ hown (host := "") (Or.inl (hw _ (List.mem_of_getElem? (i := 13) rfl))) Via.refl e65 T0.2.1 (g := (mkF m 65 #[.val (.ref a), .val (.int (Int32.ofNat x)), .val (.int (Int32.ofNat P)), .val (.int (Int32.ofNat k)), .val (.int (Int32.ofNat (P / 64))), .val (.long ((f k (P / 64)) &&& (((-1 : Int64).toUInt64 >>> ((Int32.ofNat (63 - P % 64)) &&& 0x3f).toInt64.toUInt64).toInt64))), .second] [(.ref a), (.int (Int32.ofNat k))])) rfl rfl (hb hby d6_65)
          refine Go.step st68 ?_
          show Go p e below T68 (mkF m 68 #[.val (.ref a), .val (.int (Int32.ofNat x)), .val (.int (Int32.ofNat P)), .val (.int (Int32.ofNat k)), .val (.int (Int32.ofNat (P / 64))), .val (.long ((f k (P / 64)) &&& (((-1 : Int64).toUInt64 >>> ((Int32.ofNat (63 - P % 64)) &&& 0x3f).toInt64.toUInt64).toInt64))), .second] [(.ref A), (.int (Int32.ofNat k))]) _
          obtain ⟨clA69, AA69, sA69, gA69⟩ := id Tr.2.2.1
          refine Go.step (fun _ => X68.arraylength hx (by rw [e68]; exact AA69.1) (State.isArrayOf_alike hZ.alike AA69.2.1) (g := (mkF m 68 #[.val (.ref a), .val (.int (Int32.ofNat x)), .val (.int (Int32.ofNat P)), .val (.int (Int32.ofNat k)), .val (.int (Int32.ofNat (P / 64))), .val (.long ((f k (P / 64)) &&& (((-1 : Int64).toUInt64 >>> ((Int32.ofNat (63 - P % 64)) &&& 0x3f).toInt64.toUInt64).toInt64))), .second] [(.ref A), (.int (Int32.ofNat k))])) rfl rfl (hb hby d6_68) _) ?_
          rw [sA69]
          show Go p e below T68 (mkF m 69 #[.val (.ref a), .val (.int (Int32.ofNat x)), .val (.int (Int32.ofNat P)), .val (.int (Int32.ofNat k)), .val (.int (Int32.ofNat (P / 64))), .val (.long ((f k (P / 64)) &&& (((-1 : Int64).toUInt64 >>> ((Int32.ofNat (63 - P % 64)) &&& 0x3f).toInt64.toUInt64).toInt64))), .second] [(.int (Int32.ofNat M)), (.int (Int32.ofNat k))]) _
          refine Go.step (fun _ => XS.iconst X68.here hx rfl (hb hby d6_69)) ?_
          show Go p e below T68 (mkF m 70 #[.val (.ref a), .val (.int (Int32.ofNat x)), .val (.int (Int32.ofNat P)), .val (.int (Int32.ofNat k)), .val (.int (Int32.ofNat (P / 64))), .val (.long ((f k (P / 64)) &&& (((-1 : Int64).toUInt64 >>> ((Int32.ofNat (63 - P % 64)) &&& 0x3f).toInt64.toUInt64).toInt64))), .second] [(.int (1 : Int32)), (.int (Int32.ofNat M)), (.int (Int32.ofNat k))]) _
          refine Go.step (fun _ => XS.isub X68.here hx rfl (hb hby d6_70) rfl) ?_
          show Go p e below T68 (mkF m 71 #[.val (.ref a), .val (.int (Int32.ofNat x)), .val (.int (Int32.ofNat P)), .val (.int (Int32.ofNat k)), .val (.int (Int32.ofNat (P / 64))), .val (.long ((f k (P / 64)) &&& (((-1 : Int64).toUInt64 >>> ((Int32.ofNat (63 - P % 64)) &&& 0x3f).toInt64.toUInt64).toInt64))), .second] [(.int ((Int32.ofNat M) - (1 : Int32))), (.int (Int32.ofNat k))]) _
          rw [show Int32.ofNat M - (1 : Int32) = Int32.ofNat (M - 1) from by rw [show M = (M - 1) + 1 from by omega]; exact own_sub (M - 1) 1]
          show Go p e below T68 (mkF m 71 #[.val (.ref a), .val (.int (Int32.ofNat x)), .val (.int (Int32.ofNat P)), .val (.int (Int32.ofNat k)), .val (.int (Int32.ofNat (P / 64))), .val (.long ((f k (P / 64)) &&& (((-1 : Int64).toUInt64 >>> ((Int32.ofNat (63 - P % 64)) &&& 0x3f).toInt64.toUInt64).toInt64))), .second] [(.int (Int32.ofNat (M - 1))), (.int (Int32.ofNat k))]) _
          refine Go.step (fun _ => XS.icmpYes X68.here hx rfl (pc0 := 71) (pc' := 76) rfl (hb hby d6_71) rfl (feq (fun z => by have z2 := (own_inj (by omega) (by omega)).mp z; omega)).2 (by decide) (by decide)) ?_
          show Go p e below T68 (mkF m 76 #[.val (.ref a), .val (.int (Int32.ofNat x)), .val (.int (Int32.ofNat P)), .val (.int (Int32.ofNat k)), .val (.int (Int32.ofNat (P / 64))), .val (.long ((f k (P / 64)) &&& (((-1 : Int64).toUInt64 >>> ((Int32.ofNat (63 - P % 64)) &&& 0x3f).toInt64.toUInt64).toInt64))), .second] []) _
          refine Go.step (fun _ => XS.iload X68.here hx rfl (hb hby d6_76) rfl ) ?_
          show Go p e below T68 (mkF m 78 #[.val (.ref a), .val (.int (Int32.ofNat x)), .val (.int (Int32.ofNat P)), .val (.int (Int32.ofNat k)), .val (.int (Int32.ofNat (P / 64))), .val (.long ((f k (P / 64)) &&& (((-1 : Int64).toUInt64 >>> ((Int32.ofNat (63 - P % 64)) &&& 0x3f).toInt64.toUInt64).toInt64))), .second] [(.int (Int32.ofNat (P / 64)))]) _
          refine Go.step (fun _ => XS.iconst X68.here hx rfl (hb hby d6_78)) ?_
          show Go p e below T68 (mkF m 79 #[.val (.ref a), .val (.int (Int32.ofNat x)), .val (.int (Int32.ofNat P)), .val (.int (Int32.ofNat k)), .val (.int (Int32.ofNat (P / 64))), .val (.long ((f k (P / 64)) &&& (((-1 : Int64).toUInt64 >>> ((Int32.ofNat (63 - P % 64)) &&& 0x3f).toInt64.toUInt64).toInt64))), .second] [(.int (1 : Int32)), (.int (Int32.ofNat (P / 64)))]) _
          refine Go.step (fun _ => XS.isub X68.here hx rfl (hb hby d6_79) rfl) ?_
          show Go p e below T68 (mkF m 80 #[.val (.ref a), .val (.int (Int32.ofNat x)), .val (.int (Int32.ofNat P)), .val (.int (Int32.ofNat k)), .val (.int (Int32.ofNat (P / 64))), .val (.long ((f k (P / 64)) &&& (((-1 : Int64).toUInt64 >>> ((Int32.ofNat (63 - P % 64)) &&& 0x3f).toInt64.toUInt64).toInt64))), .second] [(.int ((Int32.ofNat (P / 64)) - (1 : Int32)))]) _
          refine Go.step (fun _ => XS.istoreN X68.here hx rfl (hb hby d6_80) rfl (l' := #[.val (.ref a), .val (.int (Int32.ofNat x)), .val (.int ((Int32.ofNat (P / 64)) - (1 : Int32))), .val (.int (Int32.ofNat k)), .val (.int (Int32.ofNat (P / 64))), .val (.long ((f k (P / 64)) &&& (((-1 : Int64).toUInt64 >>> ((Int32.ofNat (63 - P % 64)) &&& 0x3f).toInt64.toUInt64).toInt64))), .second]) rfl) ?_
          show Go p e below T68 (mkF m 81 #[.val (.ref a), .val (.int (Int32.ofNat x)), .val (.int ((Int32.ofNat (P / 64)) - (1 : Int32))), .val (.int (Int32.ofNat k)), .val (.int (Int32.ofNat (P / 64))), .val (.long ((f k (P / 64)) &&& (((-1 : Int64).toUInt64 >>> ((Int32.ofNat (63 - P % 64)) &&& 0x3f).toInt64.toUInt64).toInt64))), .second] []) _
          refine Go.step (fun _ => XS.iinc X68.here hx rfl (hb hby d6_81) rfl (l' := #[.val (.ref a), .val (.int (Int32.ofNat x)), .val (.int ((Int32.ofNat (P / 64)) - (1 : Int32))), .val (.int ((Int32.ofNat k) + (1 : Int32))), .val (.int (Int32.ofNat (P / 64))), .val (.long ((f k (P / 64)) &&& (((-1 : Int64).toUInt64 >>> ((Int32.ofNat (63 - P % 64)) &&& 0x3f).toInt64.toUInt64).toInt64))), .second]) rfl) ?_
          show Go p e below T68 (mkF m 84 #[.val (.ref a), .val (.int (Int32.ofNat x)), .val (.int ((Int32.ofNat (P / 64)) - (1 : Int32))), .val (.int ((Int32.ofNat k) + (1 : Int32))), .val (.int (Int32.ofNat (P / 64))), .val (.long ((f k (P / 64)) &&& (((-1 : Int64).toUInt64 >>> ((Int32.ofNat (63 - P % 64)) &&& 0x3f).toInt64.toUInt64).toInt64))), .second] []) _
          refine Go.step (fun _ => XS.goto X68.here hx rfl (pc0 := 84) (pc' := 6) rfl (hb hby d6_84) (by decide) (by decide)) ?_
          show Go p e below T68 (mkF m 6 #[.val (.ref a), .val (.int (Int32.ofNat x)), .val (.int ((Int32.ofNat (P / 64)) - (1 : Int32))), .val (.int ((Int32.ofNat k) + (1 : Int32))), .val (.int (Int32.ofNat (P / 64))), .val (.long ((f k (P / 64)) &&& (((-1 : Int64).toUInt64 >>> ((Int32.ofNat (63 - P % 64)) &&& 0x3f).toInt64.toUInt64).toInt64))), .second] []) _
          rw [show Int32.ofNat k + (1 : Int32) = Int32.ofNat (k + 1) from own_add k 1]
          exact ih (k + 1) (P / 64) (by omega) (by omega) _ _ _ (One.val rfl) (Or.inr ⟨_, rfl, rfl⟩) (fun q q1 => (iff q q1).trans (Iff.trans (by omega) (own_empty (hR k hkM) hwz hmask ((lw_eq _ _).mp hc45) q q1))) (by rw [own_up]; have z2 : P / 64 ≤ (N - 1) / 64 ^ k / 64 := Nat.div_le_div_right (by omega); omega) _ X68 e68
        · skip
          refine Go.step (fun _ => XS.ifNo X65.here hx rfl (hb hby d6_45) rfl ((if0 _ _).trans (feq hc45).1)) ?_
          show Go p e below T65 (mkF m 48 #[.val (.ref a), .val (.int (Int32.ofNat x)), .val (.int (Int32.ofNat P)), .val (.int (Int32.ofNat k)), .val (.int (Int32.ofNat (P / 64))), .val (.long ((f k (P / 64)) &&& (((-1 : Int64).toUInt64 >>> ((Int32.ofNat (63 - P % 64)) &&& 0x3f).toInt64.toUInt64).toInt64))), .second] []) _
          refine Go.step (fun _ => XS.iload X65.here hx rfl (hb hby d6_48) rfl ) ?_
          show Go p e below T65 (mkF m 50 #[.val (.ref a), .val (.int (Int32.ofNat x)), .val (.int (Int32.ofNat P)), .val (.int (Int32.ofNat k)), .val (.int (Int32.ofNat (P / 64))), .val (.long ((f k (P / 64)) &&& (((-1 : Int64).toUInt64 >>> ((Int32.ofNat (63 - P % 64)) &&& 0x3f).toInt64.toUInt64).toInt64))), .second] [(.int (Int32.ofNat (P / 64)))]) _
          refine Go.step (fun _ => XS.bipush X65.here hx rfl (hb hby d6_50)) ?_
          show Go p e below T65 (mkF m 52 #[.val (.ref a), .val (.int (Int32.ofNat x)), .val (.int (Int32.ofNat P)), .val (.int (Int32.ofNat k)), .val (.int (Int32.ofNat (P / 64))), .val (.long ((f k (P / 64)) &&& (((-1 : Int64).toUInt64 >>> ((Int32.ofNat (63 - P % 64)) &&& 0x3f).toInt64.toUInt64).toInt64))), .second] [(.int (6 : Int32)), (.int (Int32.ofNat (P / 64)))]) _
          refine Go.step (fun _ => XS.ishl X65.here hx rfl (hb hby d6_52) rfl) ?_
          show Go p e below T65 (mkF m 53 #[.val (.ref a), .val (.int (Int32.ofNat x)), .val (.int (Int32.ofNat P)), .val (.int (Int32.ofNat k)), .val (.int (Int32.ofNat (P / 64))), .val (.long ((f k (P / 64)) &&& (((-1 : Int64).toUInt64 >>> ((Int32.ofNat (63 - P % 64)) &&& 0x3f).toInt64.toUInt64).toInt64))), .second] [(.int ((Int32.ofNat (P / 64)) <<< ((6 : Int32) &&& 31)))]) _
          rw [own_shl6 (by omega)]
          show Go p e below T65 (mkF m 53 #[.val (.ref a), .val (.int (Int32.ofNat x)), .val (.int (Int32.ofNat P)), .val (.int (Int32.ofNat k)), .val (.int (Int32.ofNat (P / 64))), .val (.long ((f k (P / 64)) &&& (((-1 : Int64).toUInt64 >>> ((Int32.ofNat (63 - P % 64)) &&& 0x3f).toInt64.toUInt64).toInt64))), .second] [(.int (Int32.ofNat (64 * (P / 64))))]) _
          refine Go.step (fun _ => XS.lload X65.here hx rfl (hb hby d6_53) rfl ) ?_
          show Go p e below T65 (mkF m 55 #[.val (.ref a), .val (.int (Int32.ofNat x)), .val (.int (Int32.ofNat P)), .val (.int (Int32.ofNat k)), .val (.int (Int32.ofNat (P / 64))), .val (.long ((f k (P / 64)) &&& (((-1 : Int64).toUInt64 >>> ((Int32.ofNat (63 - P % 64)) &&& 0x3f).toInt64.toUInt64).toInt64))), .second] [(.long ((f k (P / 64)) &&& (((-1 : Int64).toUInt64 >>> ((Int32.ofNat (63 - P % 64)) &&& 0x3f).toInt64.toUInt64).toInt64))), (.int (Int32.ofNat (64 * (P / 64))))]) _
          obtain ⟨_, _, ⟨T70, L70, k70, n70⟩, -, X70, ⟨Lc70, hQ70, l70, y70, z70⟩, st70⟩ := Jvm.LawKit.callS X65 hx (y := (⟨"com/example/maxhue/maxhue/PointSet", "lastBit", "(J)I"⟩ : MethodName)) hown (mvT hZ (hw _ (List.mem_of_getElem? (i := 41) rfl))) (mvT hZ (hw _ (List.mem_of_getElem? (i := 42) rfl))) (mvT hZ (hw _ (List.mem_of_getElem? (i := 4) rfl))) (mvT hZ (hw _ (List.mem_of_getElem? (i := 43) rfl))) (by decide) (backOf (W := 1) (rmLB l Z a0 hw [] ((f k (P / 64)) &&& (((-1 : Int64).toUInt64 >>> ((Int32.ofNat (63 - P % 64)) &&& 0x3f).toInt64.toUInt64).toInt64)) h0 n0 Z0) hZ (hw _ (List.mem_of_getElem? (i := 43) rfl)) (hw _ (List.mem_of_getElem? (i := 4) rfl)) (by decide) (by decide)) (g := (mkF m 55 #[.val (.ref a), .val (.int (Int32.ofNat x)), .val (.int (Int32.ofNat P)), .val (.int (Int32.ofNat k)), .val (.int (Int32.ofNat (P / 64))), .val (.long ((f k (P / 64)) &&& (((-1 : Int64).toUInt64 >>> ((Int32.ofNat (63 - P % 64)) &&& 0x3f).toInt64.toUInt64).toInt64))), .second] [(.long ((f k (P / 64)) &&& (((-1 : Int64).toUInt64 >>> ((Int32.ofNat (63 - P % 64)) &&& 0x3f).toInt64.toUInt64).toInt64))), (.int (Int32.ofNat (64 * (P / 64))))])) rfl (by rw [hml]; rfl) (argsL := [(.long ((f k (P / 64)) &&& (((-1 : Int64).toUInt64 >>> ((Int32.ofNat (63 - P % 64)) &&& 0x3f).toInt64.toUInt64).toInt64)))]) (rest := [(.int (Int32.ofNat (64 * (P / 64))))]) (lenOf pd_1 rfl) rfl (by show 2 * 0 + _ ≤ _; exact Nat.le_of_eq rfl) (hb hby d6_55) (fun _ _ => ⟨rfl, e65, (by decide : 0 + 0 ≤ _), (by decide : 0 + 0 ≤ _)⟩)
          dsimp only [Pt.U, Pt.locs, Pt.cells, Pt.slots] at X70 l70 y70 z70 st70 hQ70
          subst l70 y70 z70
          obtain ⟨rfl, Nq70, eh70⟩ := hQ70
          have N70 := Fr.app N0 Nq70
          refine Go.step st70 ?_
          show Go p e below T70 (mkF m 58 #[.val (.ref a), .val (.int (Int32.ofNat x)), .val (.int (Int32.ofNat P)), .val (.int (Int32.ofNat k)), .val (.int (Int32.ofNat (P / 64))), .val (.long ((f k (P / 64)) &&& (((-1 : Int64).toUInt64 >>> ((Int32.ofNat (63 - P % 64)) &&& 0x3f).toInt64.toUInt64).toInt64))), .second] [(.int ((63 : Int32) - nlz64 (((f k (P / 64)) &&& (((-1 : Int64).toUInt64 >>> ((Int32.ofNat (63 - P % 64)) &&& 0x3f).toInt64.toUInt64).toInt64))))), (.int (Int32.ofNat (64 * (P / 64))))]) _
          obtain ⟨b, hb1, hb2⟩ := own_top (f k (P / 64) &&& (((-1 : Int64).toUInt64 >>> (Int32.ofNat (63 - P % 64) &&& 0x3f).toInt64.toUInt64).toInt64)) (fun z => hc45 ((lw_eq _ _).mpr z))
          obtain ⟨d1, d2, d3⟩ := own_found (hR k hkM) hwz hmask hb2
          rw [hb1]
          show Go p e below T70 (mkF m 58 #[.val (.ref a), .val (.int (Int32.ofNat x)), .val (.int (Int32.ofNat P)), .val (.int (Int32.ofNat k)), .val (.int (Int32.ofNat (P / 64))), .val (.long ((f k (P / 64)) &&& (((-1 : Int64).toUInt64 >>> ((Int32.ofNat (63 - P % 64)) &&& 0x3f).toInt64.toUInt64).toInt64))), .second] [(.int (Int32.ofNat b)), (.int (Int32.ofNat (64 * (P / 64))))]) _
          refine Go.step (fun _ => XS.iadd X70.here hx rfl (hb hby d6_58) rfl) ?_
          show Go p e below T70 (mkF m 59 #[.val (.ref a), .val (.int (Int32.ofNat x)), .val (.int (Int32.ofNat P)), .val (.int (Int32.ofNat k)), .val (.int (Int32.ofNat (P / 64))), .val (.long ((f k (P / 64)) &&& (((-1 : Int64).toUInt64 >>> ((Int32.ofNat (63 - P % 64)) &&& 0x3f).toInt64.toUInt64).toInt64))), .second] [(.int ((Int32.ofNat (64 * (P / 64))) + (Int32.ofNat b)))]) _
          rw [own_add (64 * (P / 64)) b]
          show Go p e below T70 (mkF m 59 #[.val (.ref a), .val (.int (Int32.ofNat x)), .val (.int (Int32.ofNat P)), .val (.int (Int32.ofNat k)), .val (.int (Int32.ofNat (P / 64))), .val (.long ((f k (P / 64)) &&& (((-1 : Int64).toUInt64 >>> ((Int32.ofNat (63 - P % 64)) &&& 0x3f).toInt64.toUInt64).toInt64))), .second] [(.int (Int32.ofNat (64 * (P / 64) + b)))]) _
          refine Go.step (fun _ => XS.istoreN X70.here hx rfl (hb hby d6_59) rfl (l' := #[.val (.ref a), .val (.int (Int32.ofNat x)), .val (.int (Int32.ofNat (64 * (P / 64) + b))), .val (.int (Int32.ofNat k)), .val (.int (Int32.ofNat (P / 64))), .val (.long ((f k (P / 64)) &&& (((-1 : Int64).toUInt64 >>> ((Int32.ofNat (63 - P % 64)) &&& 0x3f).toInt64.toUInt64).toInt64))), .second]) rfl) ?_
          show Go p e below T70 (mkF m 60 #[.val (.ref a), .val (.int (Int32.ofNat x)), .val (.int (Int32.ofNat (64 * (P / 64) + b))), .val (.int (Int32.ofNat k)), .val (.int (Int32.ofNat (P / 64))), .val (.long ((f k (P / 64)) &&& (((-1 : Int64).toUInt64 >>> ((Int32.ofNat (63 - P % 64)) &&& 0x3f).toInt64.toUInt64).toInt64))), .second] []) _
          refine Go.step (fun _ => XS.goto X70.here hx rfl (pc0 := 60) (pc' := 87) rfl (hb hby d6_60) (by decide) (by decide)) ?_
          show Go p e below T70 (mkF m 87 #[.val (.ref a), .val (.int (Int32.ofNat x)), .val (.int (Int32.ofNat (64 * (P / 64) + b))), .val (.int (Int32.ofNat k)), .val (.int (Int32.ofNat (P / 64))), .val (.long ((f k (P / 64)) &&& (((-1 : Int64).toUInt64 >>> ((Int32.ofNat (63 - P % 64)) &&& 0x3f).toInt64.toUInt64).toInt64))), .second] []) _
          refine Go.step (fun _ => XS.iinc X70.here hx rfl (hb hby d6_87) rfl (l' := #[.val (.ref a), .val (.int (Int32.ofNat x)), .val (.int (Int32.ofNat (64 * (P / 64) + b))), .val (.int ((Int32.ofNat k) + (-1 : Int32))), .val (.int (Int32.ofNat (P / 64))), .val (.long ((f k (P / 64)) &&& (((-1 : Int64).toUInt64 >>> ((Int32.ofNat (63 - P % 64)) &&& 0x3f).toInt64.toUInt64).toInt64))), .second]) rfl) ?_
          show Go p e below T70 (mkF m 90 #[.val (.ref a), .val (.int (Int32.ofNat x)), .val (.int (Int32.ofNat (64 * (P / 64) + b))), .val (.int ((Int32.ofNat k) + (-1 : Int32))), .val (.int (Int32.ofNat (P / 64))), .val (.long ((f k (P / 64)) &&& (((-1 : Int64).toUInt64 >>> ((Int32.ofNat (63 - P % 64)) &&& 0x3f).toInt64.toUInt64).toInt64))), .second] []) _
          rw [own_dec]
          exact down k (64 * (P / 64) + b) hkM _ _ _ d1 (fun q q1 q2 => d3 q q1 (Nat.le_of_lt_succ ((iff q q1).mp q2))) (fun q q1 q2 => (iff q q1).mpr (by omega)) _ N70 _ X70 eh70
  show Go p e below s₁ (mkF m 0 #[.val (.ref a), .val (.int (Int32.ofNat x)), .unset, .unset, .unset, .unset, .unset] []) _
  refine Go.step (fun _ => XS.iloadN X0.here hx rfl (hb hby d6_0) rfl ) ?_
  show Go p e below s₁ (mkF m 1 #[.val (.ref a), .val (.int (Int32.ofNat x)), .unset, .unset, .unset, .unset, .unset] [(.int (Int32.ofNat x))]) _
  refine Go.step (fun _ => XS.iconst X0.here hx rfl (hb hby d6_1)) ?_
  show Go p e below s₁ (mkF m 2 #[.val (.ref a), .val (.int (Int32.ofNat x)), .unset, .unset, .unset, .unset, .unset] [(.int (1 : Int32)), (.int (Int32.ofNat x))]) _
  refine Go.step (fun _ => XS.isub X0.here hx rfl (hb hby d6_2) rfl) ?_
  show Go p e below s₁ (mkF m 3 #[.val (.ref a), .val (.int (Int32.ofNat x)), .unset, .unset, .unset, .unset, .unset] [(.int ((Int32.ofNat x) - (1 : Int32)))]) _
  refine Go.step (fun _ => XS.istoreN X0.here hx rfl (hb hby d6_3) rfl (l' := #[.val (.ref a), .val (.int (Int32.ofNat x)), .val (.int ((Int32.ofNat x) - (1 : Int32))), .unset, .unset, .unset, .unset]) rfl) ?_
  show Go p e below s₁ (mkF m 4 #[.val (.ref a), .val (.int (Int32.ofNat x)), .val (.int ((Int32.ofNat x) - (1 : Int32))), .unset, .unset, .unset, .unset] []) _
  refine Go.step (fun _ => XS.iconst X0.here hx rfl (hb hby d6_4)) ?_
  show Go p e below s₁ (mkF m 5 #[.val (.ref a), .val (.int (Int32.ofNat x)), .val (.int ((Int32.ofNat x) - (1 : Int32))), .unset, .unset, .unset, .unset] [(.int (0 : Int32))]) _
  refine Go.step (fun _ => XS.istoreN X0.here hx rfl (hb hby d6_5) rfl (l' := #[.val (.ref a), .val (.int (Int32.ofNat x)), .val (.int ((Int32.ofNat x) - (1 : Int32))), .val (.int (0 : Int32)), .unset, .unset, .unset]) rfl) ?_
  show Go p e below s₁ (mkF m 6 #[.val (.ref a), .val (.int (Int32.ofNat x)), .val (.int ((Int32.ofNat x) - (1 : Int32))), .val (.int (0 : Int32)), .unset, .unset, .unset] []) _
  exact up (M - 1) 0 x (by omega) hx0 _ _ _ One.u (Or.inl ⟨rfl, rfl⟩) (fun q q1 => by rw [Nat.pow_zero, Nat.div_one]) (by rw [Nat.pow_zero, Nat.div_one]; omega) _ X0 e0
theorem d7_0 : decode method_3_code 0 = .ok (.iconst (-1), 1) := by decide +kernel
theorem d7_1 : decode method_3_code 1 = .ok (.istore 5, 2) := by decide +kernel
theorem d7_3 : decode method_3_code 3 = .ok (.iload_n 0, 1) := by decide +kernel
theorem d7_4 : decode method_3_code 4 = .ok (.ifCond .eq 12, 3) := by decide +kernel
theorem d7_7 : decode method_3_code 7 = .ok (.iload_n 1, 1) := by decide +kernel
theorem d7_8 : decode method_3_code 8 = .ok (.iload 4, 2) := by decide +kernel
theorem d7_10 : decode method_3_code 10 = .ok (.if_icmp .ge 6, 3) := by decide +kernel
theorem d7_13 : decode method_3_code 13 = .ok (.iload_n 1, 1) := by decide +kernel
theorem d7_14 : decode method_3_code 14 = .ok (.istore 5, 2) := by decide +kernel
theorem d7_16 : decode method_3_code 16 = .ok (.iload_n 2, 1) := by decide +kernel
theorem d7_17 : decode method_3_code 17 = .ok (.ifCond .eq 18, 3) := by decide +kernel
theorem d7_20 : decode method_3_code 20 = .ok (.iload_n 3, 1) := by decide +kernel
theorem d7_21 : decode method_3_code 21 = .ok (.iload 4, 2) := by decide +kernel
theorem d7_23 : decode method_3_code 23 = .ok (.if_icmp .ge 12, 3) := by decide +kernel
theorem d7_26 : decode method_3_code 26 = .ok (.iload_n 3, 1) := by decide +kernel
theorem d7_27 : decode method_3_code 27 = .ok (.iload 5, 2) := by decide +kernel
theorem d7_29 : decode method_3_code 29 = .ok (.if_icmp .le 6, 3) := by decide +kernel
theorem d7_32 : decode method_3_code 32 = .ok (.iload_n 3, 1) := by decide +kernel
theorem d7_33 : decode method_3_code 33 = .ok (.istore 5, 2) := by decide +kernel
theorem d7_35 : decode method_3_code 35 = .ok (.iload 5, 2) := by decide +kernel
theorem d7_37 : decode method_3_code 37 = .ok (.ireturn, 1) := by decide +kernel
theorem pn_3 : plainName "com/example/maxhue/maxhue/PointSetRemovePinLaw" = true := by first | (simp [plainName, overriddenIn]; done) | decide +kernel
theorem ef_rmRef (m : MethodId) (x0 : Int32) (x1 : Int32) (x2 : Int32) (x3 : Int32) (x4 : Int32) : entryFrame m #[(.int x0), (.int x1), (.int x2), (.int x3), (.int x4)] 6 = mkF m 0 #[.val (.int x0), .val (.int x1), .val (.int x2), .val (.int x3), .val (.int x4), .unset] [] := by first | (simp [entryFrame, mkF, argsToLocals, Value.category]; done) | rfl
def QRef (Z : State) (p0 p1 p2 p3 p4 : Int32) (h0 : Heap) (n0 : Nat) (v : Option Value) (h : Heap) (L : List Loc) : Prop := v = some (.int (own_ref2 p0 p1 p2 p3 p4)) ∧ Fr n0 L ∧ h = h0
set_option maxRecDepth 65536 in
set_option maxHeartbeats 40000000 in
theorem rmRef (l : Launch) (Z : State) (a0 : Array Value) (hw : ∀ d ∈ tables_1, d.before a0 Z = true) (ws : List Jvm.Cond) (p0 p1 p2 p3 p4 : Int32) (h0 : Heap) (n0 : Nat) (Z0 : n0 ≤ h0.size)  :
    MetFree l (⟨"com/example/maxhue/maxhue/PointSetRemovePinLaw", "ref", "(ZIZII)I"⟩ : MethodName) (head1 (Jvm.Cond.code (⟨"com/example/maxhue/maxhue/PointSetRemovePinLaw", "ref", "(ZIZII)I"⟩ : MethodName) method_3_code 6 (some .int) :: ws) ({ frames := 0, cells := 0, slots := 0, locals := 0 } : Room)) (fun as' U => as' = #[(.int p0), (.int p1), (.int p2), (.int p3), (.int p4)] ∧ Z.Warmed39 U.vm ∧ U.heap = h0) (fun _ _ _ _ _ => True) (fun _ U o U' => ∃ v L, o = .returned v ∧ QRef Z p0 p1 p2 p3 p4 h0 n0 v U'.heap L ∧ FrameEnd U o U' L ({ frames := 0, cells := 0, slots := 0, locals := 0 } : Room).cells ({ frames := 0, cells := 0, slots := 0, locals := 0 } : Room).slots) := by
  refine MetFree.of_bodySF (plainFor_of_name pn_3) hisR ?_
  intro p e s m args below meth c s₁ Bd hml0 hP hK
  obtain ⟨rfl, hZ, hh⟩ := hP
  have hx := Bd.exec
  have hby := Bd.bytes
  have hml : c.maxLocals = 6 := hml0
  have hown : s.vm.findClass "com/example/maxhue/maxhue/PointSetRemovePinLaw" = some m.cls := findClass_of_methodNamed Bd.named
  have hnm := (name_of_methodNamed Bd.named Bd.method).1
  have hlk : meth.locks = false := Bd.notSynchronized
  have hret := Bd.returns
  have X0 : Stand p l e ({ frames := 0, cells := 0, slots := 0, locals := 0 } : Room) s m #[(.int p0), (.int p1), (.int p2), (.int p3), (.int p4)] below meth c s₁ [] 0 0 := Stand.of_body Bd
  have e0 : s₁.heap = h0 := by rw [← hh, Bd.state]; rfl
  have N0 := Fr.nil n0
  show Go p e below s₁ (entryFrame m #[(.int p0), (.int p1), (.int p2), (.int p3), (.int p4)] 6) (Fin s (QRef Z p0 p1 p2 p3 p4 h0 n0) ({ frames := 0, cells := 0, slots := 0, locals := 0 } : Room).cells ({ frames := 0, cells := 0, slots := 0, locals := 0 } : Room).slots)
  rw [ef_rmRef]
  show Go p e below s₁ (mkF m 0 #[.val (.int p0), .val (.int p1), .val (.int p2), .val (.int p3), .val (.int p4), .unset] []) _
  refine Go.step (fun _ => XS.iconst X0.here hx rfl (hb hby d7_0)) ?_
  show Go p e below s₁ (mkF m 1 #[.val (.int p0), .val (.int p1), .val (.int p2), .val (.int p3), .val (.int p4), .unset] [(.int (-1 : Int32))]) _
  refine Go.step (fun _ => XS.istore X0.here hx rfl (hb hby d7_1) rfl (l' := #[.val (.int p0), .val (.int p1), .val (.int p2), .val (.int p3), .val (.int p4), .val (.int (-1 : Int32))]) rfl) ?_
  show Go p e below s₁ (mkF m 3 #[.val (.int p0), .val (.int p1), .val (.int p2), .val (.int p3), .val (.int p4), .val (.int (-1 : Int32))] []) _
  refine Go.step (fun _ => XS.iloadN X0.here hx rfl (hb hby d7_3) rfl ) ?_
  show Go p e below s₁ (mkF m 4 #[.val (.int p0), .val (.int p1), .val (.int p2), .val (.int p3), .val (.int p4), .val (.int (-1 : Int32))] [(.int p0)]) _
  by_cases hc4 : p0 = (0 : Int32)
  · skip
    refine Go.step (fun _ => XS.ifYes X0.here hx rfl (pc0 := 4) (pc' := 16) rfl (hb hby d7_4) rfl ((if0 _ _).trans (teq hc4).1) (by decide) (by decide)) ?_
    show Go p e below s₁ (mkF m 16 #[.val (.int p0), .val (.int p1), .val (.int p2), .val (.int p3), .val (.int p4), .val (.int (-1 : Int32))] []) _
    refine Go.step (fun _ => XS.iloadN X0.here hx rfl (hb hby d7_16) rfl ) ?_
    show Go p e below s₁ (mkF m 17 #[.val (.int p0), .val (.int p1), .val (.int p2), .val (.int p3), .val (.int p4), .val (.int (-1 : Int32))] [(.int p2)]) _
    by_cases hc17 : p2 = (0 : Int32)
    · skip
      refine Go.step (fun _ => XS.ifYes X0.here hx rfl (pc0 := 17) (pc' := 35) rfl (hb hby d7_17) rfl ((if0 _ _).trans (teq hc17).1) (by decide) (by decide)) ?_
      show Go p e below s₁ (mkF m 35 #[.val (.int p0), .val (.int p1), .val (.int p2), .val (.int p3), .val (.int p4), .val (.int (-1 : Int32))] []) _
      refine Go.step (fun _ => XS.iload X0.here hx rfl (hb hby d7_35) rfl ) ?_
      show Go p e below s₁ (mkF m 37 #[.val (.int p0), .val (.int p1), .val (.int p2), .val (.int p3), .val (.int p4), .val (.int (-1 : Int32))] [(.int (-1 : Int32))]) _
      refine Go.retI X0 hx hret hlk (hb hby d7_37) ?_ (by decide) (by decide)
      exact ⟨by simp only [own_ref2, own_st2, own_r1, hc4, hc17, if_true, if_false], N0, e0⟩
    · skip
      refine Go.step (fun _ => XS.ifNo X0.here hx rfl (hb hby d7_17) rfl ((if0 _ _).trans (feq hc17).1)) ?_
      show Go p e below s₁ (mkF m 20 #[.val (.int p0), .val (.int p1), .val (.int p2), .val (.int p3), .val (.int p4), .val (.int (-1 : Int32))] []) _
      refine Go.step (fun _ => XS.iloadN X0.here hx rfl (hb hby d7_20) rfl ) ?_
      show Go p e below s₁ (mkF m 21 #[.val (.int p0), .val (.int p1), .val (.int p2), .val (.int p3), .val (.int p4), .val (.int (-1 : Int32))] [(.int p3)]) _
      refine Go.step (fun _ => XS.iload X0.here hx rfl (hb hby d7_21) rfl ) ?_
      show Go p e below s₁ (mkF m 23 #[.val (.int p0), .val (.int p1), .val (.int p2), .val (.int p3), .val (.int p4), .val (.int (-1 : Int32))] [(.int p4), (.int p3)]) _
      by_cases hc23 : p3 < p4
      · skip
        refine Go.step (fun _ => XS.icmpNo X0.here hx rfl (hb hby d7_23) rfl (tlt hc23).2.1) ?_
        show Go p e below s₁ (mkF m 26 #[.val (.int p0), .val (.int p1), .val (.int p2), .val (.int p3), .val (.int p4), .val (.int (-1 : Int32))] []) _
        refine Go.step (fun _ => XS.iloadN X0.here hx rfl (hb hby d7_26) rfl ) ?_
        show Go p e below s₁ (mkF m 27 #[.val (.int p0), .val (.int p1), .val (.int p2), .val (.int p3), .val (.int p4), .val (.int (-1 : Int32))] [(.int p3)]) _
        refine Go.step (fun _ => XS.iload X0.here hx rfl (hb hby d7_27) rfl ) ?_
        show Go p e below s₁ (mkF m 29 #[.val (.int p0), .val (.int p1), .val (.int p2), .val (.int p3), .val (.int p4), .val (.int (-1 : Int32))] [(.int (-1 : Int32)), (.int p3)]) _
        by_cases hc29 : (-1 : Int32) < p3
        · skip
          refine Go.step (fun _ => XS.icmpNo X0.here hx rfl (hb hby d7_29) rfl (tlt hc29).2.2.2) ?_
          show Go p e below s₁ (mkF m 32 #[.val (.int p0), .val (.int p1), .val (.int p2), .val (.int p3), .val (.int p4), .val (.int (-1 : Int32))] []) _
          refine Go.step (fun _ => XS.iloadN X0.here hx rfl (hb hby d7_32) rfl ) ?_
          show Go p e below s₁ (mkF m 33 #[.val (.int p0), .val (.int p1), .val (.int p2), .val (.int p3), .val (.int p4), .val (.int (-1 : Int32))] [(.int p3)]) _
          refine Go.step (fun _ => XS.istore X0.here hx rfl (hb hby d7_33) rfl (l' := #[.val (.int p0), .val (.int p1), .val (.int p2), .val (.int p3), .val (.int p4), .val (.int p3)]) rfl) ?_
          show Go p e below s₁ (mkF m 35 #[.val (.int p0), .val (.int p1), .val (.int p2), .val (.int p3), .val (.int p4), .val (.int p3)] []) _
          refine Go.step (fun _ => XS.iload X0.here hx rfl (hb hby d7_35) rfl ) ?_
          show Go p e below s₁ (mkF m 37 #[.val (.int p0), .val (.int p1), .val (.int p2), .val (.int p3), .val (.int p4), .val (.int p3)] [(.int p3)]) _
          refine Go.retI X0 hx hret hlk (hb hby d7_37) ?_ (by decide) (by decide)
          exact ⟨by simp only [own_ref2, own_st2, own_r1, hc4, hc17, hc23, hc29, if_true, if_false], N0, e0⟩
        · skip
          refine Go.step (fun _ => XS.icmpYes X0.here hx rfl (pc0 := 29) (pc' := 35) rfl (hb hby d7_29) rfl (flt hc29).2.2.2 (by decide) (by decide)) ?_
          show Go p e below s₁ (mkF m 35 #[.val (.int p0), .val (.int p1), .val (.int p2), .val (.int p3), .val (.int p4), .val (.int (-1 : Int32))] []) _
          refine Go.step (fun _ => XS.iload X0.here hx rfl (hb hby d7_35) rfl ) ?_
          show Go p e below s₁ (mkF m 37 #[.val (.int p0), .val (.int p1), .val (.int p2), .val (.int p3), .val (.int p4), .val (.int (-1 : Int32))] [(.int (-1 : Int32))]) _
          refine Go.retI X0 hx hret hlk (hb hby d7_37) ?_ (by decide) (by decide)
          exact ⟨by simp only [own_ref2, own_st2, own_r1, hc4, hc17, hc23, hc29, if_true, if_false], N0, e0⟩
      · skip
        refine Go.step (fun _ => XS.icmpYes X0.here hx rfl (pc0 := 23) (pc' := 35) rfl (hb hby d7_23) rfl (flt hc23).2.1 (by decide) (by decide)) ?_
        show Go p e below s₁ (mkF m 35 #[.val (.int p0), .val (.int p1), .val (.int p2), .val (.int p3), .val (.int p4), .val (.int (-1 : Int32))] []) _
        refine Go.step (fun _ => XS.iload X0.here hx rfl (hb hby d7_35) rfl ) ?_
        show Go p e below s₁ (mkF m 37 #[.val (.int p0), .val (.int p1), .val (.int p2), .val (.int p3), .val (.int p4), .val (.int (-1 : Int32))] [(.int (-1 : Int32))]) _
        refine Go.retI X0 hx hret hlk (hb hby d7_37) ?_ (by decide) (by decide)
        exact ⟨by simp only [own_ref2, own_st2, own_r1, hc4, hc17, hc23, if_true, if_false], N0, e0⟩
  · skip
    refine Go.step (fun _ => XS.ifNo X0.here hx rfl (hb hby d7_4) rfl ((if0 _ _).trans (feq hc4).1)) ?_
    show Go p e below s₁ (mkF m 7 #[.val (.int p0), .val (.int p1), .val (.int p2), .val (.int p3), .val (.int p4), .val (.int (-1 : Int32))] []) _
    refine Go.step (fun _ => XS.iloadN X0.here hx rfl (hb hby d7_7) rfl ) ?_
    show Go p e below s₁ (mkF m 8 #[.val (.int p0), .val (.int p1), .val (.int p2), .val (.int p3), .val (.int p4), .val (.int (-1 : Int32))] [(.int p1)]) _
    refine Go.step (fun _ => XS.iload X0.here hx rfl (hb hby d7_8) rfl ) ?_
    show Go p e below s₁ (mkF m 10 #[.val (.int p0), .val (.int p1), .val (.int p2), .val (.int p3), .val (.int p4), .val (.int (-1 : Int32))] [(.int p4), (.int p1)]) _
    by_cases hc10 : p1 < p4
    · skip
      refine Go.step (fun _ => XS.icmpNo X0.here hx rfl (hb hby d7_10) rfl (tlt hc10).2.1) ?_
      show Go p e below s₁ (mkF m 13 #[.val (.int p0), .val (.int p1), .val (.int p2), .val (.int p3), .val (.int p4), .val (.int (-1 : Int32))] []) _
      refine Go.step (fun _ => XS.iloadN X0.here hx rfl (hb hby d7_13) rfl ) ?_
      show Go p e below s₁ (mkF m 14 #[.val (.int p0), .val (.int p1), .val (.int p2), .val (.int p3), .val (.int p4), .val (.int (-1 : Int32))] [(.int p1)]) _
      refine Go.step (fun _ => XS.istore X0.here hx rfl (hb hby d7_14) rfl (l' := #[.val (.int p0), .val (.int p1), .val (.int p2), .val (.int p3), .val (.int p4), .val (.int p1)]) rfl) ?_
      show Go p e below s₁ (mkF m 16 #[.val (.int p0), .val (.int p1), .val (.int p2), .val (.int p3), .val (.int p4), .val (.int p1)] []) _
      refine Go.step (fun _ => XS.iloadN X0.here hx rfl (hb hby d7_16) rfl ) ?_
      show Go p e below s₁ (mkF m 17 #[.val (.int p0), .val (.int p1), .val (.int p2), .val (.int p3), .val (.int p4), .val (.int p1)] [(.int p2)]) _
      by_cases hc17 : p2 = (0 : Int32)
      · skip
        refine Go.step (fun _ => XS.ifYes X0.here hx rfl (pc0 := 17) (pc' := 35) rfl (hb hby d7_17) rfl ((if0 _ _).trans (teq hc17).1) (by decide) (by decide)) ?_
        show Go p e below s₁ (mkF m 35 #[.val (.int p0), .val (.int p1), .val (.int p2), .val (.int p3), .val (.int p4), .val (.int p1)] []) _
        refine Go.step (fun _ => XS.iload X0.here hx rfl (hb hby d7_35) rfl ) ?_
        show Go p e below s₁ (mkF m 37 #[.val (.int p0), .val (.int p1), .val (.int p2), .val (.int p3), .val (.int p4), .val (.int p1)] [(.int p1)]) _
        refine Go.retI X0 hx hret hlk (hb hby d7_37) ?_ (by decide) (by decide)
        exact ⟨by simp only [own_ref2, own_st2, own_r1, hc4, hc10, hc17, if_true, if_false], N0, e0⟩
      · skip
        refine Go.step (fun _ => XS.ifNo X0.here hx rfl (hb hby d7_17) rfl ((if0 _ _).trans (feq hc17).1)) ?_
        show Go p e below s₁ (mkF m 20 #[.val (.int p0), .val (.int p1), .val (.int p2), .val (.int p3), .val (.int p4), .val (.int p1)] []) _
        refine Go.step (fun _ => XS.iloadN X0.here hx rfl (hb hby d7_20) rfl ) ?_
        show Go p e below s₁ (mkF m 21 #[.val (.int p0), .val (.int p1), .val (.int p2), .val (.int p3), .val (.int p4), .val (.int p1)] [(.int p3)]) _
        refine Go.step (fun _ => XS.iload X0.here hx rfl (hb hby d7_21) rfl ) ?_
        show Go p e below s₁ (mkF m 23 #[.val (.int p0), .val (.int p1), .val (.int p2), .val (.int p3), .val (.int p4), .val (.int p1)] [(.int p4), (.int p3)]) _
        by_cases hc23 : p3 < p4
        · skip
          refine Go.step (fun _ => XS.icmpNo X0.here hx rfl (hb hby d7_23) rfl (tlt hc23).2.1) ?_
          show Go p e below s₁ (mkF m 26 #[.val (.int p0), .val (.int p1), .val (.int p2), .val (.int p3), .val (.int p4), .val (.int p1)] []) _
          refine Go.step (fun _ => XS.iloadN X0.here hx rfl (hb hby d7_26) rfl ) ?_
          show Go p e below s₁ (mkF m 27 #[.val (.int p0), .val (.int p1), .val (.int p2), .val (.int p3), .val (.int p4), .val (.int p1)] [(.int p3)]) _
          refine Go.step (fun _ => XS.iload X0.here hx rfl (hb hby d7_27) rfl ) ?_
          show Go p e below s₁ (mkF m 29 #[.val (.int p0), .val (.int p1), .val (.int p2), .val (.int p3), .val (.int p4), .val (.int p1)] [(.int p1), (.int p3)]) _
          by_cases hc29 : p1 < p3
          · skip
            refine Go.step (fun _ => XS.icmpNo X0.here hx rfl (hb hby d7_29) rfl (tlt hc29).2.2.2) ?_
            show Go p e below s₁ (mkF m 32 #[.val (.int p0), .val (.int p1), .val (.int p2), .val (.int p3), .val (.int p4), .val (.int p1)] []) _
            refine Go.step (fun _ => XS.iloadN X0.here hx rfl (hb hby d7_32) rfl ) ?_
            show Go p e below s₁ (mkF m 33 #[.val (.int p0), .val (.int p1), .val (.int p2), .val (.int p3), .val (.int p4), .val (.int p1)] [(.int p3)]) _
            refine Go.step (fun _ => XS.istore X0.here hx rfl (hb hby d7_33) rfl (l' := #[.val (.int p0), .val (.int p1), .val (.int p2), .val (.int p3), .val (.int p4), .val (.int p3)]) rfl) ?_
            show Go p e below s₁ (mkF m 35 #[.val (.int p0), .val (.int p1), .val (.int p2), .val (.int p3), .val (.int p4), .val (.int p3)] []) _
            refine Go.step (fun _ => XS.iload X0.here hx rfl (hb hby d7_35) rfl ) ?_
            show Go p e below s₁ (mkF m 37 #[.val (.int p0), .val (.int p1), .val (.int p2), .val (.int p3), .val (.int p4), .val (.int p3)] [(.int p3)]) _
            refine Go.retI X0 hx hret hlk (hb hby d7_37) ?_ (by decide) (by decide)
            exact ⟨by simp only [own_ref2, own_st2, own_r1, hc4, hc10, hc17, hc23, hc29, if_true, if_false], N0, e0⟩
          · skip
            refine Go.step (fun _ => XS.icmpYes X0.here hx rfl (pc0 := 29) (pc' := 35) rfl (hb hby d7_29) rfl (flt hc29).2.2.2 (by decide) (by decide)) ?_
            show Go p e below s₁ (mkF m 35 #[.val (.int p0), .val (.int p1), .val (.int p2), .val (.int p3), .val (.int p4), .val (.int p1)] []) _
            refine Go.step (fun _ => XS.iload X0.here hx rfl (hb hby d7_35) rfl ) ?_
            show Go p e below s₁ (mkF m 37 #[.val (.int p0), .val (.int p1), .val (.int p2), .val (.int p3), .val (.int p4), .val (.int p1)] [(.int p1)]) _
            refine Go.retI X0 hx hret hlk (hb hby d7_37) ?_ (by decide) (by decide)
            exact ⟨by simp only [own_ref2, own_st2, own_r1, hc4, hc10, hc17, hc23, hc29, if_true, if_false], N0, e0⟩
        · skip
          refine Go.step (fun _ => XS.icmpYes X0.here hx rfl (pc0 := 23) (pc' := 35) rfl (hb hby d7_23) rfl (flt hc23).2.1 (by decide) (by decide)) ?_
          show Go p e below s₁ (mkF m 35 #[.val (.int p0), .val (.int p1), .val (.int p2), .val (.int p3), .val (.int p4), .val (.int p1)] []) _
          refine Go.step (fun _ => XS.iload X0.here hx rfl (hb hby d7_35) rfl ) ?_
          show Go p e below s₁ (mkF m 37 #[.val (.int p0), .val (.int p1), .val (.int p2), .val (.int p3), .val (.int p4), .val (.int p1)] [(.int p1)]) _
          refine Go.retI X0 hx hret hlk (hb hby d7_37) ?_ (by decide) (by decide)
          exact ⟨by simp only [own_ref2, own_st2, own_r1, hc4, hc10, hc17, hc23, if_true, if_false], N0, e0⟩
    · skip
      refine Go.step (fun _ => XS.icmpYes X0.here hx rfl (pc0 := 10) (pc' := 16) rfl (hb hby d7_10) rfl (flt hc10).2.1 (by decide) (by decide)) ?_
      show Go p e below s₁ (mkF m 16 #[.val (.int p0), .val (.int p1), .val (.int p2), .val (.int p3), .val (.int p4), .val (.int (-1 : Int32))] []) _
      refine Go.step (fun _ => XS.iloadN X0.here hx rfl (hb hby d7_16) rfl ) ?_
      show Go p e below s₁ (mkF m 17 #[.val (.int p0), .val (.int p1), .val (.int p2), .val (.int p3), .val (.int p4), .val (.int (-1 : Int32))] [(.int p2)]) _
      by_cases hc17 : p2 = (0 : Int32)
      · skip
        refine Go.step (fun _ => XS.ifYes X0.here hx rfl (pc0 := 17) (pc' := 35) rfl (hb hby d7_17) rfl ((if0 _ _).trans (teq hc17).1) (by decide) (by decide)) ?_
        show Go p e below s₁ (mkF m 35 #[.val (.int p0), .val (.int p1), .val (.int p2), .val (.int p3), .val (.int p4), .val (.int (-1 : Int32))] []) _
        refine Go.step (fun _ => XS.iload X0.here hx rfl (hb hby d7_35) rfl ) ?_
        show Go p e below s₁ (mkF m 37 #[.val (.int p0), .val (.int p1), .val (.int p2), .val (.int p3), .val (.int p4), .val (.int (-1 : Int32))] [(.int (-1 : Int32))]) _
        refine Go.retI X0 hx hret hlk (hb hby d7_37) ?_ (by decide) (by decide)
        exact ⟨by simp only [own_ref2, own_st2, own_r1, hc4, hc10, hc17, if_true, if_false], N0, e0⟩
      · skip
        refine Go.step (fun _ => XS.ifNo X0.here hx rfl (hb hby d7_17) rfl ((if0 _ _).trans (feq hc17).1)) ?_
        show Go p e below s₁ (mkF m 20 #[.val (.int p0), .val (.int p1), .val (.int p2), .val (.int p3), .val (.int p4), .val (.int (-1 : Int32))] []) _
        refine Go.step (fun _ => XS.iloadN X0.here hx rfl (hb hby d7_20) rfl ) ?_
        show Go p e below s₁ (mkF m 21 #[.val (.int p0), .val (.int p1), .val (.int p2), .val (.int p3), .val (.int p4), .val (.int (-1 : Int32))] [(.int p3)]) _
        refine Go.step (fun _ => XS.iload X0.here hx rfl (hb hby d7_21) rfl ) ?_
        show Go p e below s₁ (mkF m 23 #[.val (.int p0), .val (.int p1), .val (.int p2), .val (.int p3), .val (.int p4), .val (.int (-1 : Int32))] [(.int p4), (.int p3)]) _
        by_cases hc23 : p3 < p4
        · skip
          refine Go.step (fun _ => XS.icmpNo X0.here hx rfl (hb hby d7_23) rfl (tlt hc23).2.1) ?_
          show Go p e below s₁ (mkF m 26 #[.val (.int p0), .val (.int p1), .val (.int p2), .val (.int p3), .val (.int p4), .val (.int (-1 : Int32))] []) _
          refine Go.step (fun _ => XS.iloadN X0.here hx rfl (hb hby d7_26) rfl ) ?_
          show Go p e below s₁ (mkF m 27 #[.val (.int p0), .val (.int p1), .val (.int p2), .val (.int p3), .val (.int p4), .val (.int (-1 : Int32))] [(.int p3)]) _
          refine Go.step (fun _ => XS.iload X0.here hx rfl (hb hby d7_27) rfl ) ?_
          show Go p e below s₁ (mkF m 29 #[.val (.int p0), .val (.int p1), .val (.int p2), .val (.int p3), .val (.int p4), .val (.int (-1 : Int32))] [(.int (-1 : Int32)), (.int p3)]) _
          by_cases hc29 : (-1 : Int32) < p3
          · skip
            refine Go.step (fun _ => XS.icmpNo X0.here hx rfl (hb hby d7_29) rfl (tlt hc29).2.2.2) ?_
            show Go p e below s₁ (mkF m 32 #[.val (.int p0), .val (.int p1), .val (.int p2), .val (.int p3), .val (.int p4), .val (.int (-1 : Int32))] []) _
            refine Go.step (fun _ => XS.iloadN X0.here hx rfl (hb hby d7_32) rfl ) ?_
            show Go p e below s₁ (mkF m 33 #[.val (.int p0), .val (.int p1), .val (.int p2), .val (.int p3), .val (.int p4), .val (.int (-1 : Int32))] [(.int p3)]) _
            refine Go.step (fun _ => XS.istore X0.here hx rfl (hb hby d7_33) rfl (l' := #[.val (.int p0), .val (.int p1), .val (.int p2), .val (.int p3), .val (.int p4), .val (.int p3)]) rfl) ?_
            show Go p e below s₁ (mkF m 35 #[.val (.int p0), .val (.int p1), .val (.int p2), .val (.int p3), .val (.int p4), .val (.int p3)] []) _
            refine Go.step (fun _ => XS.iload X0.here hx rfl (hb hby d7_35) rfl ) ?_
            show Go p e below s₁ (mkF m 37 #[.val (.int p0), .val (.int p1), .val (.int p2), .val (.int p3), .val (.int p4), .val (.int p3)] [(.int p3)]) _
            refine Go.retI X0 hx hret hlk (hb hby d7_37) ?_ (by decide) (by decide)
            exact ⟨by simp only [own_ref2, own_st2, own_r1, hc4, hc10, hc17, hc23, hc29, if_true, if_false], N0, e0⟩
          · skip
            refine Go.step (fun _ => XS.icmpYes X0.here hx rfl (pc0 := 29) (pc' := 35) rfl (hb hby d7_29) rfl (flt hc29).2.2.2 (by decide) (by decide)) ?_
            show Go p e below s₁ (mkF m 35 #[.val (.int p0), .val (.int p1), .val (.int p2), .val (.int p3), .val (.int p4), .val (.int (-1 : Int32))] []) _
            refine Go.step (fun _ => XS.iload X0.here hx rfl (hb hby d7_35) rfl ) ?_
            show Go p e below s₁ (mkF m 37 #[.val (.int p0), .val (.int p1), .val (.int p2), .val (.int p3), .val (.int p4), .val (.int (-1 : Int32))] [(.int (-1 : Int32))]) _
            refine Go.retI X0 hx hret hlk (hb hby d7_37) ?_ (by decide) (by decide)
            exact ⟨by simp only [own_ref2, own_st2, own_r1, hc4, hc10, hc17, hc23, hc29, if_true, if_false], N0, e0⟩
        · skip
          refine Go.step (fun _ => XS.icmpYes X0.here hx rfl (pc0 := 23) (pc' := 35) rfl (hb hby d7_23) rfl (flt hc23).2.1 (by decide) (by decide)) ?_
          show Go p e below s₁ (mkF m 35 #[.val (.int p0), .val (.int p1), .val (.int p2), .val (.int p3), .val (.int p4), .val (.int (-1 : Int32))] []) _
          refine Go.step (fun _ => XS.iload X0.here hx rfl (hb hby d7_35) rfl ) ?_
          show Go p e below s₁ (mkF m 37 #[.val (.int p0), .val (.int p1), .val (.int p2), .val (.int p3), .val (.int p4), .val (.int (-1 : Int32))] [(.int (-1 : Int32))]) _
          refine Go.retI X0 hx hret hlk (hb hby d7_37) ?_ (by decide) (by decide)
          exact ⟨by simp only [own_ref2, own_st2, own_r1, hc4, hc10, hc17, hc23, if_true, if_false], N0, e0⟩
theorem pd_3 : parseMethodDescriptor "(I)V" = some ⟨[.int], none⟩ := by decide +kernel
theorem pd_4 : parseMethodDescriptor "(ZIZII)I" = some ⟨[.boolean, .int, .boolean, .int, .int], some .int⟩ := by decide +kernel
theorem ef_rm0 (m : MethodId) (x0 : Int32) (x1 : Int32) (x2 : Int32) (x3 : Int32) (x4 : Int32) : entryFrame m #[(.int x0), (.int x1), (.int x2), (.int x3), (.int x4)] maxLocals = mkF m 0 #[.val (.int x0), .val (.int x1), .val (.int x2), .val (.int x3), .val (.int x4), .unset, .unset, .unset, .unset, .unset, .unset, .unset, .unset, .unset, .unset] [] := by first | (simp [entryFrame, mkF, argsToLocals, Value.category, maxLocals]; done) | rfl
def Q0 (Z : State) (p0 p1 p2 p3 p4 : Int32) (h0 : Heap) (n0 : Nat) (v : Option Value) (h : Heap) (L : List Loc) : Prop := v = some (.int 1) ∧ Fr n0 L
set_option maxRecDepth 65536 in
set_option maxHeartbeats 40000000 in
theorem rm0 (l : Launch) (Z : State) (a0 : Array Value) (hw : ∀ d ∈ tables_1, d.before a0 Z = true) (ws : List Jvm.Cond) (p0 p1 p2 p3 p4 : Int32) (h0 : Heap) (n0 : Nat) (Z0 : n0 ≤ h0.size)  :
    MetFree l x (head1 (Jvm.Cond.code x code maxLocals ret :: ws) room_1) (fun as' U => as' = #[(.int p0), (.int p1), (.int p2), (.int p3), (.int p4)] ∧ Z.Warmed39 U.vm ∧ U.heap = h0) (fun _ _ _ _ _ => True) (fun _ U o U' => ∃ v L, o = .returned v ∧ Q0 Z p0 p1 p2 p3 p4 h0 n0 v U'.heap L ∧ FrameEnd U o U' L 24 384) := by
  refine MetFree.of_bodySF (plainFor_of_name pn_3) hisR ?_
  intro p e s m args below meth c s₁ Bd hml0 hP hK
  obtain ⟨rfl, hZ, hh⟩ := hP
  have hx := Bd.exec
  have hby := Bd.bytes
  have hml : c.maxLocals = 15 := hml0
  have hown : s.vm.findClass "com/example/maxhue/maxhue/PointSetRemovePinLaw" = some m.cls := findClass_of_methodNamed Bd.named
  have hnm := (name_of_methodNamed Bd.named Bd.method).1
  have hlk : meth.locks = false := Bd.notSynchronized
  have hret := Bd.returns
  have X0 : Stand p l e room_1 s m #[(.int p0), (.int p1), (.int p2), (.int p3), (.int p4)] below meth c s₁ [] 0 0 := Stand.of_body Bd
  have e0 : s₁.heap = h0 := by rw [← hh, Bd.state]; rfl
  have N0 := Fr.nil n0
  show Go p e below s₁ (entryFrame m #[(.int p0), (.int p1), (.int p2), (.int p3), (.int p4)] maxLocals) (Fin s (Q0 Z p0 p1 p2 p3 p4 h0 n0) 24 384)
  rw [ef_rm0]
  show Go p e below s₁ (mkF m 0 #[.val (.int p0), .val (.int p1), .val (.int p2), .val (.int p3), .val (.int p4), .unset, .unset, .unset, .unset, .unset, .unset, .unset, .unset, .unset, .unset] []) _
  refine Go.step (fun _ => XS.iloadN X0.here hx rfl (hb hby at_0) rfl ) ?_
  show Go p e below s₁ (mkF m 1 #[.val (.int p0), .val (.int p1), .val (.int p2), .val (.int p3), .val (.int p4), .unset, .unset, .unset, .unset, .unset, .unset, .unset, .unset, .unset, .unset] [(.int p0)]) _
  refine Go.step (fun _ => XS.sipush X0.here hx rfl (hb hby at_1)) ?_
  show Go p e below s₁ (mkF m 4 #[.val (.int p0), .val (.int p1), .val (.int p2), .val (.int p3), .val (.int p4), .unset, .unset, .unset, .unset, .unset, .unset, .unset, .unset, .unset, .unset] [(.int (8191 : Int32)), (.int p0)]) _
  refine Go.step (fun _ => XS.iand X0.here hx rfl (hb hby at_4) rfl) ?_
  show Go p e below s₁ (mkF m 5 #[.val (.int p0), .val (.int p1), .val (.int p2), .val (.int p3), .val (.int p4), .unset, .unset, .unset, .unset, .unset, .unset, .unset, .unset, .unset, .unset] [(.int (p0 &&& (8191 : Int32)))]) _
  refine Go.step (fun _ => XS.iconst X0.here hx rfl (hb hby at_5)) ?_
  show Go p e below s₁ (mkF m 6 #[.val (.int p0), .val (.int p1), .val (.int p2), .val (.int p3), .val (.int p4), .unset, .unset, .unset, .unset, .unset, .unset, .unset, .unset, .unset, .unset] [(.int (1 : Int32)), (.int (p0 &&& (8191 : Int32)))]) _
  refine Go.step (fun _ => XS.iadd X0.here hx rfl (hb hby at_6) rfl) ?_
  show Go p e below s₁ (mkF m 7 #[.val (.int p0), .val (.int p1), .val (.int p2), .val (.int p3), .val (.int p4), .unset, .unset, .unset, .unset, .unset, .unset, .unset, .unset, .unset, .unset] [(.int ((p0 &&& (8191 : Int32)) + (1 : Int32)))]) _
  rw [show (p0 &&& (8191 : Int32)) + (1 : Int32) = (1 : Int32) + (p0 &&& (8191 : Int32)) from Int32.add_comm _ _]
  obtain ⟨N, hN1, hN2, hNe⟩ := own_cnt p0 8191 13 (by decide) (by decide)
  rw [hNe]
  have hNb : N ≤ 8192 := hN2
  clear hN2 hNe
  show Go p e below s₁ (mkF m 7 #[.val (.int p0), .val (.int p1), .val (.int p2), .val (.int p3), .val (.int p4), .unset, .unset, .unset, .unset, .unset, .unset, .unset, .unset, .unset, .unset] [(.int (Int32.ofNat N))]) _
  refine Go.step (fun _ => XS.istore X0.here hx rfl (hb hby at_7) rfl (l' := #[.val (.int p0), .val (.int p1), .val (.int p2), .val (.int p3), .val (.int p4), .val (.int (Int32.ofNat N)), .unset, .unset, .unset, .unset, .unset, .unset, .unset, .unset, .unset]) rfl) ?_
  show Go p e below s₁ (mkF m 9 #[.val (.int p0), .val (.int p1), .val (.int p2), .val (.int p3), .val (.int p4), .val (.int (Int32.ofNat N)), .unset, .unset, .unset, .unset, .unset, .unset, .unset, .unset, .unset] []) _
  refine Go.step (fun _ => XS.iloadN X0.here hx rfl (hb hby at_9) rfl ) ?_
  show Go p e below s₁ (mkF m 10 #[.val (.int p0), .val (.int p1), .val (.int p2), .val (.int p3), .val (.int p4), .val (.int (Int32.ofNat N)), .unset, .unset, .unset, .unset, .unset, .unset, .unset, .unset, .unset] [(.int p1)]) _
  refine Go.step (fun _ => X0.ldcInt hx hown (mvT hZ (hw _ (List.mem_of_getElem? (i := 0) rfl))) (g := (mkF m 10 #[.val (.int p0), .val (.int p1), .val (.int p2), .val (.int p3), .val (.int p4), .val (.int (Int32.ofNat N)), .unset, .unset, .unset, .unset, .unset, .unset, .unset, .unset, .unset] [(.int p1)])) rfl (hb hby at_10) _) ?_
  show Go p e below s₁ (mkF m 12 #[.val (.int p0), .val (.int p1), .val (.int p2), .val (.int p3), .val (.int p4), .val (.int (Int32.ofNat N)), .unset, .unset, .unset, .unset, .unset, .unset, .unset, .unset, .unset] [(.int (2147483647 : Int32)), (.int p1)]) _
  refine Go.step (fun _ => XS.iand X0.here hx rfl (hb hby at_12) rfl) ?_
  show Go p e below s₁ (mkF m 13 #[.val (.int p0), .val (.int p1), .val (.int p2), .val (.int p3), .val (.int p4), .val (.int (Int32.ofNat N)), .unset, .unset, .unset, .unset, .unset, .unset, .unset, .unset, .unset] [(.int (p1 &&& (2147483647 : Int32)))]) _
  refine Go.step (fun _ => XS.iload X0.here hx rfl (hb hby at_13) rfl ) ?_
  show Go p e below s₁ (mkF m 15 #[.val (.int p0), .val (.int p1), .val (.int p2), .val (.int p3), .val (.int p4), .val (.int (Int32.ofNat N)), .unset, .unset, .unset, .unset, .unset, .unset, .unset, .unset, .unset] [(.int (Int32.ofNat N)), (.int (p1 &&& (2147483647 : Int32)))]) _
  refine Go.step (fun _ => iremM X0 hx rfl (hb hby at_15) rfl (own_nz (by omega) (by omega))) ?_
  show Go p e below s₁ (mkF m 16 #[.val (.int p0), .val (.int p1), .val (.int p2), .val (.int p3), .val (.int p4), .val (.int (Int32.ofNat N)), .unset, .unset, .unset, .unset, .unset, .unset, .unset, .unset, .unset] [(.int ((p1 &&& (2147483647 : Int32)) % (Int32.ofNat N)))]) _
  obtain ⟨P, hP, heP⟩ := own_mod (x := p1) (n := N) (by omega) (by omega)
  rw [heP]
  clear heP
  show Go p e below s₁ (mkF m 16 #[.val (.int p0), .val (.int p1), .val (.int p2), .val (.int p3), .val (.int p4), .val (.int (Int32.ofNat N)), .unset, .unset, .unset, .unset, .unset, .unset, .unset, .unset, .unset] [(.int (Int32.ofNat P))]) _
  refine Go.step (fun _ => XS.istore X0.here hx rfl (hb hby at_16) rfl (l' := #[.val (.int p0), .val (.int p1), .val (.int p2), .val (.int p3), .val (.int p4), .val (.int (Int32.ofNat N)), .val (.int (Int32.ofNat P)), .unset, .unset, .unset, .unset, .unset, .unset, .unset, .unset]) rfl) ?_
  show Go p e below s₁ (mkF m 18 #[.val (.int p0), .val (.int p1), .val (.int p2), .val (.int p3), .val (.int p4), .val (.int (Int32.ofNat N)), .val (.int (Int32.ofNat P)), .unset, .unset, .unset, .unset, .unset, .unset, .unset, .unset] []) _
  refine Go.step (fun _ => XS.iloadN X0.here hx rfl (hb hby at_18) rfl ) ?_
  have J31 : ∀ (sp : Int32) (hs0 : 0 ≤ sp.toInt) (hs1 : sp.toInt ≤ 65535), Go p e below s₁ (mkF m 31 #[.val (.int p0), .val (.int p1), .val (.int p2), .val (.int p3), .val (.int p4), .val (.int (Int32.ofNat N)), .val (.int (Int32.ofNat P)), .unset, .unset, .unset, .unset, .unset, .unset, .unset, .unset] [(.int sp)]) (Fin s (Q0 Z p0 p1 p2 p3 p4 h0 n0) 24 384) := by
    intro sp hs0 hs1
    show Go p e below s₁ (mkF m 31 #[.val (.int p0), .val (.int p1), .val (.int p2), .val (.int p3), .val (.int p4), .val (.int (Int32.ofNat N)), .val (.int (Int32.ofNat P)), .unset, .unset, .unset, .unset, .unset, .unset, .unset, .unset] [(.int sp)]) _
    refine Go.step (fun _ => XS.istore X0.here hx rfl (hb hby at_31) rfl (l' := #[.val (.int p0), .val (.int p1), .val (.int p2), .val (.int p3), .val (.int p4), .val (.int (Int32.ofNat N)), .val (.int (Int32.ofNat P)), .val (.int sp), .unset, .unset, .unset, .unset, .unset, .unset, .unset]) rfl) ?_
    show Go p e below s₁ (mkF m 33 #[.val (.int p0), .val (.int p1), .val (.int p2), .val (.int p3), .val (.int p4), .val (.int (Int32.ofNat N)), .val (.int (Int32.ofNat P)), .val (.int sp), .unset, .unset, .unset, .unset, .unset, .unset, .unset] []) _
    refine Go.step (fun _ => XS.iload X0.here hx rfl (hb hby at_33) rfl ) ?_
    show Go p e below s₁ (mkF m 35 #[.val (.int p0), .val (.int p1), .val (.int p2), .val (.int p3), .val (.int p4), .val (.int (Int32.ofNat N)), .val (.int (Int32.ofNat P)), .val (.int sp), .unset, .unset, .unset, .unset, .unset, .unset, .unset] [(.int (Int32.ofNat P))]) _
    refine Go.step (fun _ => XS.iloadN X0.here hx rfl (hb hby at_35) rfl ) ?_
    show Go p e below s₁ (mkF m 36 #[.val (.int p0), .val (.int p1), .val (.int p2), .val (.int p3), .val (.int p4), .val (.int (Int32.ofNat N)), .val (.int (Int32.ofNat P)), .val (.int sp), .unset, .unset, .unset, .unset, .unset, .unset, .unset] [(.int p2), (.int (Int32.ofNat P))]) _
    refine Go.step (fun _ => XS.iconst X0.here hx rfl (hb hby at_36)) ?_
    show Go p e below s₁ (mkF m 37 #[.val (.int p0), .val (.int p1), .val (.int p2), .val (.int p3), .val (.int p4), .val (.int (Int32.ofNat N)), .val (.int (Int32.ofNat P)), .val (.int sp), .unset, .unset, .unset, .unset, .unset, .unset, .unset] [(.int (1 : Int32)), (.int p2), (.int (Int32.ofNat P))]) _
    refine Go.step (fun _ => XS.iushr X0.here hx rfl (hb hby at_37) rfl) ?_
    show Go p e below s₁ (mkF m 38 #[.val (.int p0), .val (.int p1), .val (.int p2), .val (.int p3), .val (.int p4), .val (.int (Int32.ofNat N)), .val (.int (Int32.ofNat P)), .val (.int sp), .unset, .unset, .unset, .unset, .unset, .unset, .unset] [(.int ((p2.toUInt32 >>> ((1 : Int32) &&& 31).toUInt32).toInt32)), (.int (Int32.ofNat P))]) _
    refine Go.step (fun _ => XS.iload X0.here hx rfl (hb hby at_38) rfl ) ?_
    show Go p e below s₁ (mkF m 40 #[.val (.int p0), .val (.int p1), .val (.int p2), .val (.int p3), .val (.int p4), .val (.int (Int32.ofNat N)), .val (.int (Int32.ofNat P)), .val (.int sp), .unset, .unset, .unset, .unset, .unset, .unset, .unset] [(.int sp), (.int ((p2.toUInt32 >>> ((1 : Int32) &&& 31).toUInt32).toInt32)), (.int (Int32.ofNat P))]) _
    refine Go.step (fun _ => XS.iand X0.here hx rfl (hb hby at_40) rfl) ?_
    show Go p e below s₁ (mkF m 41 #[.val (.int p0), .val (.int p1), .val (.int p2), .val (.int p3), .val (.int p4), .val (.int (Int32.ofNat N)), .val (.int (Int32.ofNat P)), .val (.int sp), .unset, .unset, .unset, .unset, .unset, .unset, .unset] [(.int (((p2.toUInt32 >>> ((1 : Int32) &&& 31).toUInt32).toInt32) &&& sp)), (.int (Int32.ofNat P))]) _
    refine Go.step (fun _ => XS.iadd X0.here hx rfl (hb hby at_41) rfl) ?_
    show Go p e below s₁ (mkF m 42 #[.val (.int p0), .val (.int p1), .val (.int p2), .val (.int p3), .val (.int p4), .val (.int (Int32.ofNat N)), .val (.int (Int32.ofNat P)), .val (.int sp), .unset, .unset, .unset, .unset, .unset, .unset, .unset] [(.int ((Int32.ofNat P) + (((p2.toUInt32 >>> ((1 : Int32) &&& 31).toUInt32).toInt32) &&& sp)))]) _
    refine Go.step (fun _ => XS.iload X0.here hx rfl (hb hby at_42) rfl ) ?_
    show Go p e below s₁ (mkF m 44 #[.val (.int p0), .val (.int p1), .val (.int p2), .val (.int p3), .val (.int p4), .val (.int (Int32.ofNat N)), .val (.int (Int32.ofNat P)), .val (.int sp), .unset, .unset, .unset, .unset, .unset, .unset, .unset] [(.int (Int32.ofNat N)), (.int ((Int32.ofNat P) + (((p2.toUInt32 >>> ((1 : Int32) &&& 31).toUInt32).toInt32) &&& sp)))]) _
    refine Go.step (fun _ => iremM X0 hx rfl (hb hby at_44) rfl (own_nz (by omega) (by omega))) ?_
    show Go p e below s₁ (mkF m 45 #[.val (.int p0), .val (.int p1), .val (.int p2), .val (.int p3), .val (.int p4), .val (.int (Int32.ofNat N)), .val (.int (Int32.ofNat P)), .val (.int sp), .unset, .unset, .unset, .unset, .unset, .unset, .unset] [(.int (((Int32.ofNat P) + (((p2.toUInt32 >>> ((1 : Int32) &&& 31).toUInt32).toInt32) &&& sp)) % (Int32.ofNat N)))]) _
    obtain ⟨Q, hQ, heQ⟩ := own_qof (x := ((p2.toUInt32 >>> ((1 : Int32) &&& 31).toUInt32).toInt32)) hP hNb hs0 hs1
    rw [heQ]
    clear heQ
    show Go p e below s₁ (mkF m 45 #[.val (.int p0), .val (.int p1), .val (.int p2), .val (.int p3), .val (.int p4), .val (.int (Int32.ofNat N)), .val (.int (Int32.ofNat P)), .val (.int sp), .unset, .unset, .unset, .unset, .unset, .unset, .unset] [(.int (Int32.ofNat Q))]) _
    refine Go.step (fun _ => XS.istore X0.here hx rfl (hb hby at_45) rfl (l' := #[.val (.int p0), .val (.int p1), .val (.int p2), .val (.int p3), .val (.int p4), .val (.int (Int32.ofNat N)), .val (.int (Int32.ofNat P)), .val (.int sp), .val (.int (Int32.ofNat Q)), .unset, .unset, .unset, .unset, .unset, .unset]) rfl) ?_
    show Go p e below s₁ (mkF m 47 #[.val (.int p0), .val (.int p1), .val (.int p2), .val (.int p3), .val (.int p4), .val (.int (Int32.ofNat N)), .val (.int (Int32.ofNat P)), .val (.int sp), .val (.int (Int32.ofNat Q)), .unset, .unset, .unset, .unset, .unset, .unset] []) _
    refine Go.step (fun _ => XS.iloadN X0.here hx rfl (hb hby at_47) rfl ) ?_
    show Go p e below s₁ (mkF m 48 #[.val (.int p0), .val (.int p1), .val (.int p2), .val (.int p3), .val (.int p4), .val (.int (Int32.ofNat N)), .val (.int (Int32.ofNat P)), .val (.int sp), .val (.int (Int32.ofNat Q)), .unset, .unset, .unset, .unset, .unset, .unset] [(.int p3)]) _
    refine Go.step (fun _ => XS.iconst X0.here hx rfl (hb hby at_48)) ?_
    show Go p e below s₁ (mkF m 49 #[.val (.int p0), .val (.int p1), .val (.int p2), .val (.int p3), .val (.int p4), .val (.int (Int32.ofNat N)), .val (.int (Int32.ofNat P)), .val (.int sp), .val (.int (Int32.ofNat Q)), .unset, .unset, .unset, .unset, .unset, .unset] [(.int (3 : Int32)), (.int p3)]) _
    refine Go.step (fun _ => XS.iand X0.here hx rfl (hb hby at_49) rfl) ?_
    show Go p e below s₁ (mkF m 50 #[.val (.int p0), .val (.int p1), .val (.int p2), .val (.int p3), .val (.int p4), .val (.int (Int32.ofNat N)), .val (.int (Int32.ofNat P)), .val (.int sp), .val (.int (Int32.ofNat Q)), .unset, .unset, .unset, .unset, .unset, .unset] [(.int (p3 &&& (3 : Int32)))]) _
    refine Go.step (fun _ => XS.istore X0.here hx rfl (hb hby at_50) rfl (l' := #[.val (.int p0), .val (.int p1), .val (.int p2), .val (.int p3), .val (.int p4), .val (.int (Int32.ofNat N)), .val (.int (Int32.ofNat P)), .val (.int sp), .val (.int (Int32.ofNat Q)), .val (.int (p3 &&& (3 : Int32))), .unset, .unset, .unset, .unset, .unset]) rfl) ?_
    have J88 : ∀ (R_ : Nat) (hR_ : R_ < N), Go p e below s₁ (mkF m 88 #[.val (.int p0), .val (.int p1), .val (.int p2), .val (.int p3), .val (.int p4), .val (.int (Int32.ofNat N)), .val (.int (Int32.ofNat P)), .val (.int sp), .val (.int (Int32.ofNat Q)), .val (.int (p3 &&& (3 : Int32))), .val (.int (Int32.ofNat R_)), .unset, .unset, .unset, .unset] []) (Fin s (Q0 Z p0 p1 p2 p3 p4 h0 n0) 24 384) := by
      intro R_ hR_
      show Go p e below s₁ (mkF m 88 #[.val (.int p0), .val (.int p1), .val (.int p2), .val (.int p3), .val (.int p4), .val (.int (Int32.ofNat N)), .val (.int (Int32.ofNat P)), .val (.int sp), .val (.int (Int32.ofNat Q)), .val (.int (p3 &&& (3 : Int32))), .val (.int (Int32.ofNat R_)), .unset, .unset, .unset, .unset] []) _
      refine Go.step (fun _ => XS.iload X0.here hx rfl (hb hby at_88) rfl ) ?_
      show Go p e below s₁ (mkF m 90 #[.val (.int p0), .val (.int p1), .val (.int p2), .val (.int p3), .val (.int p4), .val (.int (Int32.ofNat N)), .val (.int (Int32.ofNat P)), .val (.int sp), .val (.int (Int32.ofNat Q)), .val (.int (p3 &&& (3 : Int32))), .val (.int (Int32.ofNat R_)), .unset, .unset, .unset, .unset] [(.int p4)]) _
      refine Go.step (fun _ => X0.ldcInt hx hown (mvT hZ (hw _ (List.mem_of_getElem? (i := 0) rfl))) (g := (mkF m 90 #[.val (.int p0), .val (.int p1), .val (.int p2), .val (.int p3), .val (.int p4), .val (.int (Int32.ofNat N)), .val (.int (Int32.ofNat P)), .val (.int sp), .val (.int (Int32.ofNat Q)), .val (.int (p3 &&& (3 : Int32))), .val (.int (Int32.ofNat R_)), .unset, .unset, .unset, .unset] [(.int p4)])) rfl (hb hby at_90) _) ?_
      show Go p e below s₁ (mkF m 92 #[.val (.int p0), .val (.int p1), .val (.int p2), .val (.int p3), .val (.int p4), .val (.int (Int32.ofNat N)), .val (.int (Int32.ofNat P)), .val (.int sp), .val (.int (Int32.ofNat Q)), .val (.int (p3 &&& (3 : Int32))), .val (.int (Int32.ofNat R_)), .unset, .unset, .unset, .unset] [(.int (2147483647 : Int32)), (.int p4)]) _
      refine Go.step (fun _ => XS.iand X0.here hx rfl (hb hby at_92) rfl) ?_
      show Go p e below s₁ (mkF m 93 #[.val (.int p0), .val (.int p1), .val (.int p2), .val (.int p3), .val (.int p4), .val (.int (Int32.ofNat N)), .val (.int (Int32.ofNat P)), .val (.int sp), .val (.int (Int32.ofNat Q)), .val (.int (p3 &&& (3 : Int32))), .val (.int (Int32.ofNat R_)), .unset, .unset, .unset, .unset] [(.int (p4 &&& (2147483647 : Int32)))]) _
      refine Go.step (fun _ => XS.iload X0.here hx rfl (hb hby at_93) rfl ) ?_
      show Go p e below s₁ (mkF m 95 #[.val (.int p0), .val (.int p1), .val (.int p2), .val (.int p3), .val (.int p4), .val (.int (Int32.ofNat N)), .val (.int (Int32.ofNat P)), .val (.int sp), .val (.int (Int32.ofNat Q)), .val (.int (p3 &&& (3 : Int32))), .val (.int (Int32.ofNat R_)), .unset, .unset, .unset, .unset] [(.int (Int32.ofNat N)), (.int (p4 &&& (2147483647 : Int32)))]) _
      refine Go.step (fun _ => XS.iconst X0.here hx rfl (hb hby at_95)) ?_
      show Go p e below s₁ (mkF m 96 #[.val (.int p0), .val (.int p1), .val (.int p2), .val (.int p3), .val (.int p4), .val (.int (Int32.ofNat N)), .val (.int (Int32.ofNat P)), .val (.int sp), .val (.int (Int32.ofNat Q)), .val (.int (p3 &&& (3 : Int32))), .val (.int (Int32.ofNat R_)), .unset, .unset, .unset, .unset] [(.int (1 : Int32)), (.int (Int32.ofNat N)), (.int (p4 &&& (2147483647 : Int32)))]) _
      refine Go.step (fun _ => XS.iadd X0.here hx rfl (hb hby at_96) rfl) ?_
      show Go p e below s₁ (mkF m 97 #[.val (.int p0), .val (.int p1), .val (.int p2), .val (.int p3), .val (.int p4), .val (.int (Int32.ofNat N)), .val (.int (Int32.ofNat P)), .val (.int sp), .val (.int (Int32.ofNat Q)), .val (.int (p3 &&& (3 : Int32))), .val (.int (Int32.ofNat R_)), .unset, .unset, .unset, .unset] [(.int ((Int32.ofNat N) + (1 : Int32))), (.int (p4 &&& (2147483647 : Int32)))]) _
      rw [show Int32.ofNat N + (1 : Int32) = Int32.ofNat (N + 1) from own_add N 1]
      show Go p e below s₁ (mkF m 97 #[.val (.int p0), .val (.int p1), .val (.int p2), .val (.int p3), .val (.int p4), .val (.int (Int32.ofNat N)), .val (.int (Int32.ofNat P)), .val (.int sp), .val (.int (Int32.ofNat Q)), .val (.int (p3 &&& (3 : Int32))), .val (.int (Int32.ofNat R_)), .unset, .unset, .unset, .unset] [(.int (Int32.ofNat (N + 1))), (.int (p4 &&& (2147483647 : Int32)))]) _
      refine Go.step (fun _ => iremM X0 hx rfl (hb hby at_97) rfl (own_nz (by omega) (by omega))) ?_
      show Go p e below s₁ (mkF m 98 #[.val (.int p0), .val (.int p1), .val (.int p2), .val (.int p3), .val (.int p4), .val (.int (Int32.ofNat N)), .val (.int (Int32.ofNat P)), .val (.int sp), .val (.int (Int32.ofNat Q)), .val (.int (p3 &&& (3 : Int32))), .val (.int (Int32.ofNat R_)), .unset, .unset, .unset, .unset] [(.int ((p4 &&& (2147483647 : Int32)) % (Int32.ofNat (N + 1))))]) _
      obtain ⟨Xq, hXq, hXe⟩ := own_mod (x := p4) (n := N + 1) (by omega) (by omega)
      rw [hXe]
      clear hXe
      show Go p e below s₁ (mkF m 98 #[.val (.int p0), .val (.int p1), .val (.int p2), .val (.int p3), .val (.int p4), .val (.int (Int32.ofNat N)), .val (.int (Int32.ofNat P)), .val (.int sp), .val (.int (Int32.ofNat Q)), .val (.int (p3 &&& (3 : Int32))), .val (.int (Int32.ofNat R_)), .unset, .unset, .unset, .unset] [(.int (Int32.ofNat Xq))]) _
      refine Go.step (fun _ => XS.istore X0.here hx rfl (hb hby at_98) rfl (l' := #[.val (.int p0), .val (.int p1), .val (.int p2), .val (.int p3), .val (.int p4), .val (.int (Int32.ofNat N)), .val (.int (Int32.ofNat P)), .val (.int sp), .val (.int (Int32.ofNat Q)), .val (.int (p3 &&& (3 : Int32))), .val (.int (Int32.ofNat R_)), .val (.int (Int32.ofNat Xq)), .unset, .unset, .unset]) rfl) ?_
      show Go p e below s₁ (mkF m 100 #[.val (.int p0), .val (.int p1), .val (.int p2), .val (.int p3), .val (.int p4), .val (.int (Int32.ofNat N)), .val (.int (Int32.ofNat P)), .val (.int sp), .val (.int (Int32.ofNat Q)), .val (.int (p3 &&& (3 : Int32))), .val (.int (Int32.ofNat R_)), .val (.int (Int32.ofNat Xq)), .unset, .unset, .unset] []) _
      obtain ⟨T71, h71, X71, e71, E71, A71, D71, -, st71⟩ := newO X0 hx hZ hown (hw _ (List.mem_of_getElem? (i := 2) rfl)) (hw _ (List.mem_of_getElem? (i := 3) rfl)) (hw _ (List.mem_of_getElem? (i := 4) rfl)) e0 (g := (mkF m 100 #[.val (.int p0), .val (.int p1), .val (.int p2), .val (.int p3), .val (.int p4), .val (.int (Int32.ofNat N)), .val (.int (Int32.ofNat P)), .val (.int sp), .val (.int (Int32.ofNat Q)), .val (.int (p3 &&& (3 : Int32))), .val (.int (Int32.ofNat R_)), .val (.int (Int32.ofNat Xq)), .unset, .unset, .unset] [])) rfl (hb hby at_100) (by decide) (by decide)
      obtain ⟨b71, g71⟩ : ∃ z, z = h0.size := ⟨_, rfl⟩
      rw [← g71] at A71 D71 st71
      have g_b71 : n0 ≤ b71 := Nat.le_trans Z0 (Nat.le_of_eq g71.symm)
      have Z71 : n0 ≤ h71.size := Nat.le_trans Z0 E71.1
      refine Go.step st71 ?_
      have F_levels_b71 : Fld Z h71 b71 "com/example/maxhue/maxhue/PointSet" "levels" "[[J" .null := D71 (Or.inr (hw _ (List.mem_of_getElem? (i := 14) rfl))) (ty := (.array (.array .long))) (by decide)
      show Go p e below T71 (mkF m 103 #[.val (.int p0), .val (.int p1), .val (.int p2), .val (.int p3), .val (.int p4), .val (.int (Int32.ofNat N)), .val (.int (Int32.ofNat P)), .val (.int sp), .val (.int (Int32.ofNat Q)), .val (.int (p3 &&& (3 : Int32))), .val (.int (Int32.ofNat R_)), .val (.int (Int32.ofNat Xq)), .unset, .unset, .unset] [(.ref b71)]) _
      refine Go.step (fun _ => XS.dup X71.here hx rfl (hb hby at_103) rfl rfl) ?_
      show Go p e below T71 (mkF m 104 #[.val (.int p0), .val (.int p1), .val (.int p2), .val (.int p3), .val (.int p4), .val (.int (Int32.ofNat N)), .val (.int (Int32.ofNat P)), .val (.int sp), .val (.int (Int32.ofNat Q)), .val (.int (p3 &&& (3 : Int32))), .val (.int (Int32.ofNat R_)), .val (.int (Int32.ofNat Xq)), .unset, .unset, .unset] [(.ref b71), (.ref b71)]) _
      refine Go.step (fun _ => XS.iload X71.here hx rfl (hb hby at_104) rfl ) ?_
      show Go p e below T71 (mkF m 106 #[.val (.int p0), .val (.int p1), .val (.int p2), .val (.int p3), .val (.int p4), .val (.int (Int32.ofNat N)), .val (.int (Int32.ofNat P)), .val (.int sp), .val (.int (Int32.ofNat Q)), .val (.int (p3 &&& (3 : Int32))), .val (.int (Int32.ofNat R_)), .val (.int (Int32.ofNat Xq)), .unset, .unset, .unset] [(.int (Int32.ofNat N)), (.ref b71), (.ref b71)]) _
      obtain ⟨_, _, ⟨T72, L72, k72, n72⟩, -, X72, ⟨Lc72, hQ72, l72, y72, z72⟩, st72⟩ := X71.specialBack hx (y := (⟨"com/example/maxhue/maxhue/PointSet", "<init>", "(I)V"⟩ : MethodName)) rfl hown (mvT hZ (hw _ (List.mem_of_getElem? (i := 5) rfl))) (mvT hZ (hw _ (List.mem_of_getElem? (i := 6) rfl))) (mvT hZ (hw _ (List.mem_of_getElem? (i := 7) rfl))) (by decide) (backOf (W := 1) (rmCtor l Z a0 hw [] b71 N h71 n0 Z71 hN1 hNb A71 F_levels_b71 g_b71) hZ (hw _ (List.mem_of_getElem? (i := 7) rfl)) (hw _ (List.mem_of_getElem? (i := 4) rfl)) (by decide) (by decide)) (g := (mkF m 106 #[.val (.int p0), .val (.int p1), .val (.int p2), .val (.int p3), .val (.int p4), .val (.int (Int32.ofNat N)), .val (.int (Int32.ofNat P)), .val (.int sp), .val (.int (Int32.ofNat Q)), .val (.int (p3 &&& (3 : Int32))), .val (.int (Int32.ofNat R_)), .val (.int (Int32.ofNat Xq)), .unset, .unset, .unset] [(.int (Int32.ofNat N)), (.ref b71), (.ref b71)])) rfl (by rw [hml]; rfl) (Steps.refl _) (a := b71) (argsL := [(.int (Int32.ofNat N))]) (rest := [(.ref b71)]) (lenOf pd_3 rfl) rfl (by show 2 * 0 + _ ≤ _; exact Nat.le_of_eq rfl) (hb hby at_106) (fun _ _ => ⟨rfl, e71, (by decide : 0 + 1 + 4 ≤ _), (by decide : 0 + 1 + 134 ≤ _)⟩)
      dsimp only [Pt.U, Pt.locs, Pt.cells, Pt.slots] at X72 l72 y72 z72 st72 hQ72
      subst l72 y72 z72
      obtain ⟨rfl, Nq72, Zs72, A72, M72, lv72, hM1, hM4, Tr72, htop⟩ := hQ72
      have N72 := Fr.app N0 Nq72
      refine Go.call st72 ?_
      have hszb : ∀ k, k < M72 → szN N k < 2 ^ 31 := fun k _ => by have := own_szLe (N := N) k; omega
      show Go p e below T72 (mkF m 109 #[.val (.int p0), .val (.int p1), .val (.int p2), .val (.int p3), .val (.int p4), .val (.int (Int32.ofNat N)), .val (.int (Int32.ofNat P)), .val (.int sp), .val (.int (Int32.ofNat Q)), .val (.int (p3 &&& (3 : Int32))), .val (.int (Int32.ofNat R_)), .val (.int (Int32.ofNat Xq)), .unset, .unset, .unset] [(.ref b71)]) _
      refine Go.step (fun _ => XS.astore X72.here hx rfl (hb hby at_109) rfl rfl (l' := #[.val (.int p0), .val (.int p1), .val (.int p2), .val (.int p3), .val (.int p4), .val (.int (Int32.ofNat N)), .val (.int (Int32.ofNat P)), .val (.int sp), .val (.int (Int32.ofNat Q)), .val (.int (p3 &&& (3 : Int32))), .val (.int (Int32.ofNat R_)), .val (.int (Int32.ofNat Xq)), .val (.ref b71), .unset, .unset]) rfl) ?_
      show Go p e below T72 (mkF m 111 #[.val (.int p0), .val (.int p1), .val (.int p2), .val (.int p3), .val (.int p4), .val (.int (Int32.ofNat N)), .val (.int (Int32.ofNat P)), .val (.int sp), .val (.int (Int32.ofNat Q)), .val (.int (p3 &&& (3 : Int32))), .val (.int (Int32.ofNat R_)), .val (.int (Int32.ofNat Xq)), .val (.ref b71), .unset, .unset] []) _
      refine Go.step (fun _ => XS.aload X72.here hx rfl (hb hby at_111) rfl rfl ) ?_
      show Go p e below T72 (mkF m 113 #[.val (.int p0), .val (.int p1), .val (.int p2), .val (.int p3), .val (.int p4), .val (.int (Int32.ofNat N)), .val (.int (Int32.ofNat P)), .val (.int sp), .val (.int (Int32.ofNat Q)), .val (.int (p3 &&& (3 : Int32))), .val (.int (Int32.ofNat R_)), .val (.int (Int32.ofNat Xq)), .val (.ref b71), .unset, .unset] [(.ref b71)]) _
      refine Go.step (fun _ => XS.iload X72.here hx rfl (hb hby at_113) rfl ) ?_
      show Go p e below T72 (mkF m 115 #[.val (.int p0), .val (.int p1), .val (.int p2), .val (.int p3), .val (.int p4), .val (.int (Int32.ofNat N)), .val (.int (Int32.ofNat P)), .val (.int sp), .val (.int (Int32.ofNat Q)), .val (.int (p3 &&& (3 : Int32))), .val (.int (Int32.ofNat R_)), .val (.int (Int32.ofNat Xq)), .val (.ref b71), .unset, .unset] [(.int (Int32.ofNat P)), (.ref b71)]) _
      obtain ⟨cq73, kq73, q73a, q73b, q73c⟩ := isOf hZ rfl Tr72.1
      obtain ⟨_, _, ⟨T73, L73, k73, n73⟩, -, X73, ⟨Lc73, hQ73, l73, y73, z73⟩, st73⟩ := X72.virtualBack hx (y := (⟨"com/example/maxhue/maxhue/PointSet", "add", "(I)V"⟩ : MethodName)) (z := (⟨"com/example/maxhue/maxhue/PointSet", "add", "(I)V"⟩ : MethodName)) hown (mvT hZ (hw _ (List.mem_of_getElem? (i := 21) rfl))) (mvT hZ (hw _ (List.mem_of_getElem? (i := 22) rfl))) (notFace_of_selects (args := #[]) (mvT hZ (hw _ (List.mem_of_getElem? (i := 24) rfl)))) (mvT hZ (hw _ (List.mem_of_getElem? (i := 24) rfl))) (mvT hZ (hw _ (List.mem_of_getElem? (i := 23) rfl))) (by decide) (backOf (W := 0) (rmAdd l Z a0 hw [] b71 A72 M72 lv72 (szN N) (fun _ _ => 0) _ P T72.heap n0 Zs72 Tr72 own_rep0 (by omega) hszb (by omega) (own_pt hP _)) hZ (hw _ (List.mem_of_getElem? (i := 25) rfl)) (hw _ (List.mem_of_getElem? (i := 4) rfl)) (by decide) (by decide)) q73a q73c (g := (mkF m 115 #[.val (.int p0), .val (.int p1), .val (.int p2), .val (.int p3), .val (.int p4), .val (.int (Int32.ofNat N)), .val (.int (Int32.ofNat P)), .val (.int sp), .val (.int (Int32.ofNat Q)), .val (.int (p3 &&& (3 : Int32))), .val (.int (Int32.ofNat R_)), .val (.int (Int32.ofNat Xq)), .val (.ref b71), .unset, .unset] [(.int (Int32.ofNat P)), (.ref b71)])) rfl (by rw [hml]; rfl) (Steps.refl _) (argsL := [(.int (Int32.ofNat P))]) (rest := []) (lenOf pd_3 rfl) rfl (by show 2 * 0 + _ ≤ _; exact Nat.le_of_eq rfl) (hb hby at_115) (fun _ _ => ⟨rfl, rfl, (by decide : 0 + 1 + 4 + 0 ≤ _), (by decide : 0 + 1 + 134 + 0 ≤ _)⟩)
      dsimp only [Pt.U, Pt.locs, Pt.cells, Pt.slots] at X73 l73 y73 z73 st73 hQ73
      subst l73 y73 z73
      obtain ⟨rfl, Nq73, Zs73, f73, Tr73, R73⟩ := hQ73
      have N73 := Fr.app N72 Nq73
      refine Go.call st73 ?_
      show Go p e below T73 (mkF m 118 #[.val (.int p0), .val (.int p1), .val (.int p2), .val (.int p3), .val (.int p4), .val (.int (Int32.ofNat N)), .val (.int (Int32.ofNat P)), .val (.int sp), .val (.int (Int32.ofNat Q)), .val (.int (p3 &&& (3 : Int32))), .val (.int (Int32.ofNat R_)), .val (.int (Int32.ofNat Xq)), .val (.ref b71), .unset, .unset] []) _
      refine Go.step (fun _ => XS.aload X73.here hx rfl (hb hby at_118) rfl rfl ) ?_
      show Go p e below T73 (mkF m 120 #[.val (.int p0), .val (.int p1), .val (.int p2), .val (.int p3), .val (.int p4), .val (.int (Int32.ofNat N)), .val (.int (Int32.ofNat P)), .val (.int sp), .val (.int (Int32.ofNat Q)), .val (.int (p3 &&& (3 : Int32))), .val (.int (Int32.ofNat R_)), .val (.int (Int32.ofNat Xq)), .val (.ref b71), .unset, .unset] [(.ref b71)]) _
      refine Go.step (fun _ => XS.iload X73.here hx rfl (hb hby at_120) rfl ) ?_
      show Go p e below T73 (mkF m 122 #[.val (.int p0), .val (.int p1), .val (.int p2), .val (.int p3), .val (.int p4), .val (.int (Int32.ofNat N)), .val (.int (Int32.ofNat P)), .val (.int sp), .val (.int (Int32.ofNat Q)), .val (.int (p3 &&& (3 : Int32))), .val (.int (Int32.ofNat R_)), .val (.int (Int32.ofNat Xq)), .val (.ref b71), .unset, .unset] [(.int (Int32.ofNat Q)), (.ref b71)]) _
      obtain ⟨cq74, kq74, q74a, q74b, q74c⟩ := isOf hZ rfl Tr73.1
      obtain ⟨_, _, ⟨T74, L74, k74, n74⟩, -, X74, ⟨Lc74, hQ74, l74, y74, z74⟩, st74⟩ := X73.virtualBack hx (y := (⟨"com/example/maxhue/maxhue/PointSet", "add", "(I)V"⟩ : MethodName)) (z := (⟨"com/example/maxhue/maxhue/PointSet", "add", "(I)V"⟩ : MethodName)) hown (mvT hZ (hw _ (List.mem_of_getElem? (i := 21) rfl))) (mvT hZ (hw _ (List.mem_of_getElem? (i := 22) rfl))) (notFace_of_selects (args := #[]) (mvT hZ (hw _ (List.mem_of_getElem? (i := 24) rfl)))) (mvT hZ (hw _ (List.mem_of_getElem? (i := 24) rfl))) (mvT hZ (hw _ (List.mem_of_getElem? (i := 23) rfl))) (by decide) (backOf (W := 0) (rmAdd l Z a0 hw [] b71 A72 M72 lv72 (szN N) f73 _ Q T73.heap n0 Zs73 Tr73 R73 (by omega) hszb (by omega) (own_pt hQ _)) hZ (hw _ (List.mem_of_getElem? (i := 25) rfl)) (hw _ (List.mem_of_getElem? (i := 4) rfl)) (by decide) (by decide)) q74a q74c (g := (mkF m 122 #[.val (.int p0), .val (.int p1), .val (.int p2), .val (.int p3), .val (.int p4), .val (.int (Int32.ofNat N)), .val (.int (Int32.ofNat P)), .val (.int sp), .val (.int (Int32.ofNat Q)), .val (.int (p3 &&& (3 : Int32))), .val (.int (Int32.ofNat R_)), .val (.int (Int32.ofNat Xq)), .val (.ref b71), .unset, .unset] [(.int (Int32.ofNat Q)), (.ref b71)])) rfl (by rw [hml]; rfl) (Steps.refl _) (argsL := [(.int (Int32.ofNat Q))]) (rest := []) (lenOf pd_3 rfl) rfl (by show 2 * 0 + _ ≤ _; exact Nat.le_of_eq rfl) (hb hby at_122) (fun _ _ => ⟨rfl, rfl, (by decide : 0 + 1 + 4 + 0 + 0 ≤ _), (by decide : 0 + 1 + 134 + 0 + 0 ≤ _)⟩)
      dsimp only [Pt.U, Pt.locs, Pt.cells, Pt.slots] at X74 l74 y74 z74 st74 hQ74
      subst l74 y74 z74
      obtain ⟨rfl, Nq74, Zs74, f74, Tr74, R74⟩ := hQ74
      have N74 := Fr.app N73 Nq74
      refine Go.call st74 ?_
      show Go p e below T74 (mkF m 125 #[.val (.int p0), .val (.int p1), .val (.int p2), .val (.int p3), .val (.int p4), .val (.int (Int32.ofNat N)), .val (.int (Int32.ofNat P)), .val (.int sp), .val (.int (Int32.ofNat Q)), .val (.int (p3 &&& (3 : Int32))), .val (.int (Int32.ofNat R_)), .val (.int (Int32.ofNat Xq)), .val (.ref b71), .unset, .unset] []) _
      refine Go.step (fun _ => XS.aload X74.here hx rfl (hb hby at_125) rfl rfl ) ?_
      show Go p e below T74 (mkF m 127 #[.val (.int p0), .val (.int p1), .val (.int p2), .val (.int p3), .val (.int p4), .val (.int (Int32.ofNat N)), .val (.int (Int32.ofNat P)), .val (.int sp), .val (.int (Int32.ofNat Q)), .val (.int (p3 &&& (3 : Int32))), .val (.int (Int32.ofNat R_)), .val (.int (Int32.ofNat Xq)), .val (.ref b71), .unset, .unset] [(.ref b71)]) _
      refine Go.step (fun _ => XS.iload X74.here hx rfl (hb hby at_127) rfl ) ?_
      show Go p e below T74 (mkF m 129 #[.val (.int p0), .val (.int p1), .val (.int p2), .val (.int p3), .val (.int p4), .val (.int (Int32.ofNat N)), .val (.int (Int32.ofNat P)), .val (.int sp), .val (.int (Int32.ofNat Q)), .val (.int (p3 &&& (3 : Int32))), .val (.int (Int32.ofNat R_)), .val (.int (Int32.ofNat Xq)), .val (.ref b71), .unset, .unset] [(.int (Int32.ofNat R_)), (.ref b71)]) _
      obtain ⟨cq75, kq75, q75a, q75b, q75c⟩ := isOf hZ rfl Tr74.1
      obtain ⟨_, _, ⟨T75, L75, k75, n75⟩, -, X75, ⟨Lc75, hQ75, l75, y75, z75⟩, st75⟩ := X74.virtualBack hx (y := (⟨"com/example/maxhue/maxhue/PointSet", "remove", "(I)V"⟩ : MethodName)) (z := (⟨"com/example/maxhue/maxhue/PointSet", "remove", "(I)V"⟩ : MethodName)) hown (mvT hZ (hw _ (List.mem_of_getElem? (i := 26) rfl))) (mvT hZ (hw _ (List.mem_of_getElem? (i := 27) rfl))) (notFace_of_selects (args := #[]) (mvT hZ (hw _ (List.mem_of_getElem? (i := 29) rfl)))) (mvT hZ (hw _ (List.mem_of_getElem? (i := 29) rfl))) (mvT hZ (hw _ (List.mem_of_getElem? (i := 28) rfl))) (by decide) (backOf (W := 0) (rmRemove l Z a0 hw [] b71 A72 M72 lv72 (szN N) f74 _ R_ T74.heap n0 Zs74 Tr74 R74 (by omega) hszb (by omega) (own_pt hR_ _)) hZ (hw _ (List.mem_of_getElem? (i := 30) rfl)) (hw _ (List.mem_of_getElem? (i := 4) rfl)) (by decide) (by decide)) q75a q75c (g := (mkF m 129 #[.val (.int p0), .val (.int p1), .val (.int p2), .val (.int p3), .val (.int p4), .val (.int (Int32.ofNat N)), .val (.int (Int32.ofNat P)), .val (.int sp), .val (.int (Int32.ofNat Q)), .val (.int (p3 &&& (3 : Int32))), .val (.int (Int32.ofNat R_)), .val (.int (Int32.ofNat Xq)), .val (.ref b71), .unset, .unset] [(.int (Int32.ofNat R_)), (.ref b71)])) rfl (by rw [hml]; rfl) (Steps.refl _) (argsL := [(.int (Int32.ofNat R_))]) (rest := []) (lenOf pd_3 rfl) rfl (by show 2 * 0 + _ ≤ _; exact Nat.le_of_eq rfl) (hb hby at_129) (fun _ _ => ⟨rfl, rfl, (by decide : 0 + 1 + 4 + 0 + 0 + 0 ≤ _), (by decide : 0 + 1 + 134 + 0 + 0 + 0 ≤ _)⟩)
      dsimp only [Pt.U, Pt.locs, Pt.cells, Pt.slots] at X75 l75 y75 z75 st75 hQ75
      subst l75 y75 z75
      obtain ⟨rfl, Nq75, Zs75, f75, Tr75, R75⟩ := hQ75
      have N75 := Fr.app N74 Nq75
      refine Go.call st75 ?_
      show Go p e below T75 (mkF m 132 #[.val (.int p0), .val (.int p1), .val (.int p2), .val (.int p3), .val (.int p4), .val (.int (Int32.ofNat N)), .val (.int (Int32.ofNat P)), .val (.int sp), .val (.int (Int32.ofNat Q)), .val (.int (p3 &&& (3 : Int32))), .val (.int (Int32.ofNat R_)), .val (.int (Int32.ofNat Xq)), .val (.ref b71), .unset, .unset] []) _
      refine Go.step (fun _ => XS.iload X75.here hx rfl (hb hby at_132) rfl ) ?_
      show Go p e below T75 (mkF m 134 #[.val (.int p0), .val (.int p1), .val (.int p2), .val (.int p3), .val (.int p4), .val (.int (Int32.ofNat N)), .val (.int (Int32.ofNat P)), .val (.int sp), .val (.int (Int32.ofNat Q)), .val (.int (p3 &&& (3 : Int32))), .val (.int (Int32.ofNat R_)), .val (.int (Int32.ofNat Xq)), .val (.ref b71), .unset, .unset] [(.int (Int32.ofNat P))]) _
      refine Go.step (fun _ => XS.iload X75.here hx rfl (hb hby at_134) rfl ) ?_
      show Go p e below T75 (mkF m 136 #[.val (.int p0), .val (.int p1), .val (.int p2), .val (.int p3), .val (.int p4), .val (.int (Int32.ofNat N)), .val (.int (Int32.ofNat P)), .val (.int sp), .val (.int (Int32.ofNat Q)), .val (.int (p3 &&& (3 : Int32))), .val (.int (Int32.ofNat R_)), .val (.int (Int32.ofNat Xq)), .val (.ref b71), .unset, .unset] [(.int (Int32.ofNat R_)), (.int (Int32.ofNat P))]) _
      by_cases hc136 : (Int32.ofNat P) = (Int32.ofNat R_)
      · skip
        refine Go.step (fun _ => XS.icmpYes X75.here hx rfl (pc0 := 136) (pc' := 143) rfl (hb hby at_136) rfl (teq hc136).1 (by decide) (by decide)) ?_
        show Go p e below T75 (mkF m 143 #[.val (.int p0), .val (.int p1), .val (.int p2), .val (.int p3), .val (.int p4), .val (.int (Int32.ofNat N)), .val (.int (Int32.ofNat P)), .val (.int sp), .val (.int (Int32.ofNat Q)), .val (.int (p3 &&& (3 : Int32))), .val (.int (Int32.ofNat R_)), .val (.int (Int32.ofNat Xq)), .val (.ref b71), .unset, .unset] []) _
        refine Go.step (fun _ => XS.iconst X75.here hx rfl (hb hby at_143)) ?_
        show Go p e below T75 (mkF m 144 #[.val (.int p0), .val (.int p1), .val (.int p2), .val (.int p3), .val (.int p4), .val (.int (Int32.ofNat N)), .val (.int (Int32.ofNat P)), .val (.int sp), .val (.int (Int32.ofNat Q)), .val (.int (p3 &&& (3 : Int32))), .val (.int (Int32.ofNat R_)), .val (.int (Int32.ofNat Xq)), .val (.ref b71), .unset, .unset] [(.int (0 : Int32))]) _
        refine Go.step (fun _ => XS.istore X75.here hx rfl (hb hby at_144) rfl (l' := #[.val (.int p0), .val (.int p1), .val (.int p2), .val (.int p3), .val (.int p4), .val (.int (Int32.ofNat N)), .val (.int (Int32.ofNat P)), .val (.int sp), .val (.int (Int32.ofNat Q)), .val (.int (p3 &&& (3 : Int32))), .val (.int (Int32.ofNat R_)), .val (.int (Int32.ofNat Xq)), .val (.ref b71), .val (.int (0 : Int32)), .unset]) rfl) ?_
        show Go p e below T75 (mkF m 146 #[.val (.int p0), .val (.int p1), .val (.int p2), .val (.int p3), .val (.int p4), .val (.int (Int32.ofNat N)), .val (.int (Int32.ofNat P)), .val (.int sp), .val (.int (Int32.ofNat Q)), .val (.int (p3 &&& (3 : Int32))), .val (.int (Int32.ofNat R_)), .val (.int (Int32.ofNat Xq)), .val (.ref b71), .val (.int (0 : Int32)), .unset] []) _
        refine Go.step (fun _ => XS.iload X75.here hx rfl (hb hby at_146) rfl ) ?_
        show Go p e below T75 (mkF m 148 #[.val (.int p0), .val (.int p1), .val (.int p2), .val (.int p3), .val (.int p4), .val (.int (Int32.ofNat N)), .val (.int (Int32.ofNat P)), .val (.int sp), .val (.int (Int32.ofNat Q)), .val (.int (p3 &&& (3 : Int32))), .val (.int (Int32.ofNat R_)), .val (.int (Int32.ofNat Xq)), .val (.ref b71), .val (.int (0 : Int32)), .unset] [(.int (Int32.ofNat Q))]) _
        refine Go.step (fun _ => XS.iload X75.here hx rfl (hb hby at_148) rfl ) ?_
        show Go p e below T75 (mkF m 150 #[.val (.int p0), .val (.int p1), .val (.int p2), .val (.int p3), .val (.int p4), .val (.int (Int32.ofNat N)), .val (.int (Int32.ofNat P)), .val (.int sp), .val (.int (Int32.ofNat Q)), .val (.int (p3 &&& (3 : Int32))), .val (.int (Int32.ofNat R_)), .val (.int (Int32.ofNat Xq)), .val (.ref b71), .val (.int (0 : Int32)), .unset] [(.int (Int32.ofNat R_)), (.int (Int32.ofNat Q))]) _
        by_cases hc150 : (Int32.ofNat Q) = (Int32.ofNat R_)
        · skip
          refine Go.step (fun _ => XS.icmpYes X75.here hx rfl (pc0 := 150) (pc' := 157) rfl (hb hby at_150) rfl (teq hc150).1 (by decide) (by decide)) ?_
          show Go p e below T75 (mkF m 157 #[.val (.int p0), .val (.int p1), .val (.int p2), .val (.int p3), .val (.int p4), .val (.int (Int32.ofNat N)), .val (.int (Int32.ofNat P)), .val (.int sp), .val (.int (Int32.ofNat Q)), .val (.int (p3 &&& (3 : Int32))), .val (.int (Int32.ofNat R_)), .val (.int (Int32.ofNat Xq)), .val (.ref b71), .val (.int (0 : Int32)), .unset] []) _
          refine Go.step (fun _ => XS.iconst X75.here hx rfl (hb hby at_157)) ?_
          show Go p e below T75 (mkF m 158 #[.val (.int p0), .val (.int p1), .val (.int p2), .val (.int p3), .val (.int p4), .val (.int (Int32.ofNat N)), .val (.int (Int32.ofNat P)), .val (.int sp), .val (.int (Int32.ofNat Q)), .val (.int (p3 &&& (3 : Int32))), .val (.int (Int32.ofNat R_)), .val (.int (Int32.ofNat Xq)), .val (.ref b71), .val (.int (0 : Int32)), .unset] [(.int (0 : Int32))]) _
          refine Go.step (fun _ => XS.istore X75.here hx rfl (hb hby at_158) rfl (l' := #[.val (.int p0), .val (.int p1), .val (.int p2), .val (.int p3), .val (.int p4), .val (.int (Int32.ofNat N)), .val (.int (Int32.ofNat P)), .val (.int sp), .val (.int (Int32.ofNat Q)), .val (.int (p3 &&& (3 : Int32))), .val (.int (Int32.ofNat R_)), .val (.int (Int32.ofNat Xq)), .val (.ref b71), .val (.int (0 : Int32)), .val (.int (0 : Int32))]) rfl) ?_
          show Go p e below T75 (mkF m 160 #[.val (.int p0), .val (.int p1), .val (.int p2), .val (.int p3), .val (.int p4), .val (.int (Int32.ofNat N)), .val (.int (Int32.ofNat P)), .val (.int sp), .val (.int (Int32.ofNat Q)), .val (.int (p3 &&& (3 : Int32))), .val (.int (Int32.ofNat R_)), .val (.int (Int32.ofNat Xq)), .val (.ref b71), .val (.int (0 : Int32)), .val (.int (0 : Int32))] []) _
          refine Go.step (fun _ => XS.aload X75.here hx rfl (hb hby at_160) rfl rfl ) ?_
          show Go p e below T75 (mkF m 162 #[.val (.int p0), .val (.int p1), .val (.int p2), .val (.int p3), .val (.int p4), .val (.int (Int32.ofNat N)), .val (.int (Int32.ofNat P)), .val (.int sp), .val (.int (Int32.ofNat Q)), .val (.int (p3 &&& (3 : Int32))), .val (.int (Int32.ofNat R_)), .val (.int (Int32.ofNat Xq)), .val (.ref b71), .val (.int (0 : Int32)), .val (.int (0 : Int32))] [(.ref b71)]) _
          refine Go.step (fun _ => XS.iload X75.here hx rfl (hb hby at_162) rfl ) ?_
          show Go p e below T75 (mkF m 164 #[.val (.int p0), .val (.int p1), .val (.int p2), .val (.int p3), .val (.int p4), .val (.int (Int32.ofNat N)), .val (.int (Int32.ofNat P)), .val (.int sp), .val (.int (Int32.ofNat Q)), .val (.int (p3 &&& (3 : Int32))), .val (.int (Int32.ofNat R_)), .val (.int (Int32.ofNat Xq)), .val (.ref b71), .val (.int (0 : Int32)), .val (.int (0 : Int32))] [(.int (Int32.ofNat Xq)), (.ref b71)]) _
          have hSN : ∀ q, (fun q => (fun q => (fun q => (fun _ => False) q ∨ q = P) q ∨ q = Q) q ∧ q ≠ R_) q → q < N := fun q z => by
            obtain ⟨z, -⟩ := z
            rcases z with (z | z) | z
            · exact z.elim
            all_goals omega
          obtain ⟨cq76, kq76, q76a, q76b, q76c⟩ := isOf hZ rfl Tr75.1
          obtain ⟨_, _, ⟨T76, L76, k76, n76⟩, -, X76, ⟨Lc76, hQ76, l76, y76, z76⟩, st76⟩ := X75.virtualBack hx (y := (⟨"com/example/maxhue/maxhue/PointSet", "lastBelow", "(I)I"⟩ : MethodName)) (z := (⟨"com/example/maxhue/maxhue/PointSet", "lastBelow", "(I)I"⟩ : MethodName)) hown (mvT hZ (hw _ (List.mem_of_getElem? (i := 32) rfl))) (mvT hZ (hw _ (List.mem_of_getElem? (i := 33) rfl))) (notFace_of_selects (args := #[]) (mvT hZ (hw _ (List.mem_of_getElem? (i := 35) rfl)))) (mvT hZ (hw _ (List.mem_of_getElem? (i := 35) rfl))) (mvT hZ (hw _ (List.mem_of_getElem? (i := 34) rfl))) (by decide) (backOf (W := 0) (rmLast l Z a0 hw [] b71 A72 M72 lv72 (szN N) f75 (fun q => (fun q => (fun q => (fun _ => False) q ∨ q = P) q ∨ q = Q) q ∧ q ≠ R_) N Xq (own_ref2 (0 : Int32) (Int32.ofNat P) (0 : Int32) (Int32.ofNat Q) (Int32.ofNat Xq)) T75.heap n0 Zs75 Tr75 R75 (by omega) hszb (by omega) hN1 hM1 (by omega) hSN (fun q z => own_pt z _) (fun k hk P z => htop P (by rw [show M72 - 1 = k from by omega]; exact z)) (own_best2 (by omega) (by omega) (by omega) ⟨fun z => absurd rfl z, fun z => absurd ((own_inj (by omega) (by omega)).mp hc136) z⟩ ⟨fun z => absurd rfl z, fun z => absurd ((own_inj (by omega) (by omega)).mp hc150) z⟩)) hZ (hw _ (List.mem_of_getElem? (i := 36) rfl)) (hw _ (List.mem_of_getElem? (i := 4) rfl)) (by decide) (by decide)) q76a q76c (g := (mkF m 164 #[.val (.int p0), .val (.int p1), .val (.int p2), .val (.int p3), .val (.int p4), .val (.int (Int32.ofNat N)), .val (.int (Int32.ofNat P)), .val (.int sp), .val (.int (Int32.ofNat Q)), .val (.int (p3 &&& (3 : Int32))), .val (.int (Int32.ofNat R_)), .val (.int (Int32.ofNat Xq)), .val (.ref b71), .val (.int (0 : Int32)), .val (.int (0 : Int32))] [(.int (Int32.ofNat Xq)), (.ref b71)])) rfl (by rw [hml]; rfl) (Steps.refl _) (argsL := [(.int (Int32.ofNat Xq))]) (rest := []) (lenOf pd_0 rfl) rfl (by show 2 * 0 + _ ≤ _; exact Nat.le_of_eq rfl) (hb hby at_164) (fun _ _ => ⟨rfl, rfl, (by decide : 0 + 1 + 4 + 0 + 0 + 0 + 0 ≤ _), (by decide : 0 + 1 + 134 + 0 + 0 + 0 + 0 ≤ _)⟩)
          dsimp only [Pt.U, Pt.locs, Pt.cells, Pt.slots] at X76 l76 y76 z76 st76 hQ76
          subst l76 y76 z76
          obtain ⟨rfl, Nq76, eh76⟩ := hQ76
          have N76 := Fr.app N75 Nq76
          refine Go.call st76 ?_
          show Go p e below T76 (mkF m 167 #[.val (.int p0), .val (.int p1), .val (.int p2), .val (.int p3), .val (.int p4), .val (.int (Int32.ofNat N)), .val (.int (Int32.ofNat P)), .val (.int sp), .val (.int (Int32.ofNat Q)), .val (.int (p3 &&& (3 : Int32))), .val (.int (Int32.ofNat R_)), .val (.int (Int32.ofNat Xq)), .val (.ref b71), .val (.int (0 : Int32)), .val (.int (0 : Int32))] [(.int (own_ref2 (0 : Int32) (Int32.ofNat P) (0 : Int32) (Int32.ofNat Q) (Int32.ofNat Xq)))]) _
          refine Go.step (fun _ => XS.iload X76.here hx rfl (hb hby at_167) rfl ) ?_
          show Go p e below T76 (mkF m 169 #[.val (.int p0), .val (.int p1), .val (.int p2), .val (.int p3), .val (.int p4), .val (.int (Int32.ofNat N)), .val (.int (Int32.ofNat P)), .val (.int sp), .val (.int (Int32.ofNat Q)), .val (.int (p3 &&& (3 : Int32))), .val (.int (Int32.ofNat R_)), .val (.int (Int32.ofNat Xq)), .val (.ref b71), .val (.int (0 : Int32)), .val (.int (0 : Int32))] [(.int (0 : Int32)), (.int (own_ref2 (0 : Int32) (Int32.ofNat P) (0 : Int32) (Int32.ofNat Q) (Int32.ofNat Xq)))]) _
          refine Go.step (fun _ => XS.iload X76.here hx rfl (hb hby at_169) rfl ) ?_
          show Go p e below T76 (mkF m 171 #[.val (.int p0), .val (.int p1), .val (.int p2), .val (.int p3), .val (.int p4), .val (.int (Int32.ofNat N)), .val (.int (Int32.ofNat P)), .val (.int sp), .val (.int (Int32.ofNat Q)), .val (.int (p3 &&& (3 : Int32))), .val (.int (Int32.ofNat R_)), .val (.int (Int32.ofNat Xq)), .val (.ref b71), .val (.int (0 : Int32)), .val (.int (0 : Int32))] [(.int (Int32.ofNat P)), (.int (0 : Int32)), (.int (own_ref2 (0 : Int32) (Int32.ofNat P) (0 : Int32) (Int32.ofNat Q) (Int32.ofNat Xq)))]) _
          refine Go.step (fun _ => XS.iload X76.here hx rfl (hb hby at_171) rfl ) ?_
          show Go p e below T76 (mkF m 173 #[.val (.int p0), .val (.int p1), .val (.int p2), .val (.int p3), .val (.int p4), .val (.int (Int32.ofNat N)), .val (.int (Int32.ofNat P)), .val (.int sp), .val (.int (Int32.ofNat Q)), .val (.int (p3 &&& (3 : Int32))), .val (.int (Int32.ofNat R_)), .val (.int (Int32.ofNat Xq)), .val (.ref b71), .val (.int (0 : Int32)), .val (.int (0 : Int32))] [(.int (0 : Int32)), (.int (Int32.ofNat P)), (.int (0 : Int32)), (.int (own_ref2 (0 : Int32) (Int32.ofNat P) (0 : Int32) (Int32.ofNat Q) (Int32.ofNat Xq)))]) _
          refine Go.step (fun _ => XS.iload X76.here hx rfl (hb hby at_173) rfl ) ?_
          show Go p e below T76 (mkF m 175 #[.val (.int p0), .val (.int p1), .val (.int p2), .val (.int p3), .val (.int p4), .val (.int (Int32.ofNat N)), .val (.int (Int32.ofNat P)), .val (.int sp), .val (.int (Int32.ofNat Q)), .val (.int (p3 &&& (3 : Int32))), .val (.int (Int32.ofNat R_)), .val (.int (Int32.ofNat Xq)), .val (.ref b71), .val (.int (0 : Int32)), .val (.int (0 : Int32))] [(.int (Int32.ofNat Q)), (.int (0 : Int32)), (.int (Int32.ofNat P)), (.int (0 : Int32)), (.int (own_ref2 (0 : Int32) (Int32.ofNat P) (0 : Int32) (Int32.ofNat Q) (Int32.ofNat Xq)))]) _
          refine Go.step (fun _ => XS.iload X76.here hx rfl (hb hby at_175) rfl ) ?_
          show Go p e below T76 (mkF m 177 #[.val (.int p0), .val (.int p1), .val (.int p2), .val (.int p3), .val (.int p4), .val (.int (Int32.ofNat N)), .val (.int (Int32.ofNat P)), .val (.int sp), .val (.int (Int32.ofNat Q)), .val (.int (p3 &&& (3 : Int32))), .val (.int (Int32.ofNat R_)), .val (.int (Int32.ofNat Xq)), .val (.ref b71), .val (.int (0 : Int32)), .val (.int (0 : Int32))] [(.int (Int32.ofNat Xq)), (.int (Int32.ofNat Q)), (.int (0 : Int32)), (.int (Int32.ofNat P)), (.int (0 : Int32)), (.int (own_ref2 (0 : Int32) (Int32.ofNat P) (0 : Int32) (Int32.ofNat Q) (Int32.ofNat Xq)))]) _
          obtain ⟨_, _, ⟨T77, L77, k77, n77⟩, -, X77, ⟨Lc77, hQ77, l77, y77, z77⟩, st77⟩ := Jvm.LawKit.callS X76 hx (y := (⟨"com/example/maxhue/maxhue/PointSetRemovePinLaw", "ref", "(ZIZII)I"⟩ : MethodName)) hown (mvT hZ (hw _ (List.mem_of_getElem? (i := 37) rfl))) (mvT hZ (hw _ (List.mem_of_getElem? (i := 38) rfl))) (mvT hZ (hw _ (List.mem_of_getElem? (i := 39) rfl))) (mvT hZ (hw _ (List.mem_of_getElem? (i := 40) rfl))) (by decide) (backOf (W := 1) (rmRef l Z a0 hw [] (0 : Int32) (Int32.ofNat P) (0 : Int32) (Int32.ofNat Q) (Int32.ofNat Xq) T75.heap n0 Zs75) hZ (hw _ (List.mem_of_getElem? (i := 40) rfl)) (hw _ (List.mem_of_getElem? (i := 39) rfl)) (by decide) (by decide)) (g := (mkF m 177 #[.val (.int p0), .val (.int p1), .val (.int p2), .val (.int p3), .val (.int p4), .val (.int (Int32.ofNat N)), .val (.int (Int32.ofNat P)), .val (.int sp), .val (.int (Int32.ofNat Q)), .val (.int (p3 &&& (3 : Int32))), .val (.int (Int32.ofNat R_)), .val (.int (Int32.ofNat Xq)), .val (.ref b71), .val (.int (0 : Int32)), .val (.int (0 : Int32))] [(.int (Int32.ofNat Xq)), (.int (Int32.ofNat Q)), (.int (0 : Int32)), (.int (Int32.ofNat P)), (.int (0 : Int32)), (.int (own_ref2 (0 : Int32) (Int32.ofNat P) (0 : Int32) (Int32.ofNat Q) (Int32.ofNat Xq)))])) rfl (by rw [hml]; rfl) (argsL := [(.int (0 : Int32)), (.int (Int32.ofNat P)), (.int (0 : Int32)), (.int (Int32.ofNat Q)), (.int (Int32.ofNat Xq))]) (rest := [(.int (own_ref2 (0 : Int32) (Int32.ofNat P) (0 : Int32) (Int32.ofNat Q) (Int32.ofNat Xq)))]) (lenOf pd_4 rfl) rfl (by show 2 * 0 + _ ≤ _; exact Nat.le_of_eq rfl) (hb hby at_177) (fun _ _ => ⟨rfl, eh76, (by decide : 0 + 1 + 4 + 0 + 0 + 0 + 0 + 0 ≤ _), (by decide : 0 + 1 + 134 + 0 + 0 + 0 + 0 + 0 ≤ _)⟩)
          dsimp only [Pt.U, Pt.locs, Pt.cells, Pt.slots] at X77 l77 y77 z77 st77 hQ77
          subst l77 y77 z77
          obtain ⟨rfl, Nq77, ei77⟩ := hQ77
          have N77 := Fr.app N76 Nq77
          refine Go.step st77 ?_
          show Go p e below T77 (mkF m 180 #[.val (.int p0), .val (.int p1), .val (.int p2), .val (.int p3), .val (.int p4), .val (.int (Int32.ofNat N)), .val (.int (Int32.ofNat P)), .val (.int sp), .val (.int (Int32.ofNat Q)), .val (.int (p3 &&& (3 : Int32))), .val (.int (Int32.ofNat R_)), .val (.int (Int32.ofNat Xq)), .val (.ref b71), .val (.int (0 : Int32)), .val (.int (0 : Int32))] [(.int (own_ref2 (0 : Int32) (Int32.ofNat P) (0 : Int32) (Int32.ofNat Q) (Int32.ofNat Xq))), (.int (own_ref2 (0 : Int32) (Int32.ofNat P) (0 : Int32) (Int32.ofNat Q) (Int32.ofNat Xq)))]) _
          refine Go.step (fun _ => XS.icmpNo X77.here hx rfl (hb hby at_180) rfl (teq rfl).2) ?_
          show Go p e below T77 (mkF m 183 #[.val (.int p0), .val (.int p1), .val (.int p2), .val (.int p3), .val (.int p4), .val (.int (Int32.ofNat N)), .val (.int (Int32.ofNat P)), .val (.int sp), .val (.int (Int32.ofNat Q)), .val (.int (p3 &&& (3 : Int32))), .val (.int (Int32.ofNat R_)), .val (.int (Int32.ofNat Xq)), .val (.ref b71), .val (.int (0 : Int32)), .val (.int (0 : Int32))] []) _
          refine Go.step (fun _ => XS.aload X77.here hx rfl (hb hby at_183) rfl rfl ) ?_
          show Go p e below T77 (mkF m 185 #[.val (.int p0), .val (.int p1), .val (.int p2), .val (.int p3), .val (.int p4), .val (.int (Int32.ofNat N)), .val (.int (Int32.ofNat P)), .val (.int sp), .val (.int (Int32.ofNat Q)), .val (.int (p3 &&& (3 : Int32))), .val (.int (Int32.ofNat R_)), .val (.int (Int32.ofNat Xq)), .val (.ref b71), .val (.int (0 : Int32)), .val (.int (0 : Int32))] [(.ref b71)]) _
          refine Go.step (fun _ => XS.iload X77.here hx rfl (hb hby at_185) rfl ) ?_
          show Go p e below T77 (mkF m 187 #[.val (.int p0), .val (.int p1), .val (.int p2), .val (.int p3), .val (.int p4), .val (.int (Int32.ofNat N)), .val (.int (Int32.ofNat P)), .val (.int sp), .val (.int (Int32.ofNat Q)), .val (.int (p3 &&& (3 : Int32))), .val (.int (Int32.ofNat R_)), .val (.int (Int32.ofNat Xq)), .val (.ref b71), .val (.int (0 : Int32)), .val (.int (0 : Int32))] [(.int (Int32.ofNat N)), (.ref b71)]) _
          obtain ⟨cq78, kq78, q78a, q78b, q78c⟩ := isOf hZ ei77 Tr75.1
          obtain ⟨_, _, ⟨T78, L78, k78, n78⟩, -, X78, ⟨Lc78, hQ78, l78, y78, z78⟩, st78⟩ := X77.virtualBack hx (y := (⟨"com/example/maxhue/maxhue/PointSet", "lastBelow", "(I)I"⟩ : MethodName)) (z := (⟨"com/example/maxhue/maxhue/PointSet", "lastBelow", "(I)I"⟩ : MethodName)) hown (mvT hZ (hw _ (List.mem_of_getElem? (i := 32) rfl))) (mvT hZ (hw _ (List.mem_of_getElem? (i := 33) rfl))) (notFace_of_selects (args := #[]) (mvT hZ (hw _ (List.mem_of_getElem? (i := 35) rfl)))) (mvT hZ (hw _ (List.mem_of_getElem? (i := 35) rfl))) (mvT hZ (hw _ (List.mem_of_getElem? (i := 34) rfl))) (by decide) (backOf (W := 0) (rmLast l Z a0 hw [] b71 A72 M72 lv72 (szN N) f75 (fun q => (fun q => (fun q => (fun _ => False) q ∨ q = P) q ∨ q = Q) q ∧ q ≠ R_) N N (own_ref2 (0 : Int32) (Int32.ofNat P) (0 : Int32) (Int32.ofNat Q) (Int32.ofNat N)) T75.heap n0 Zs75 Tr75 R75 (by omega) hszb (by omega) hN1 hM1 (by omega) hSN (fun q z => own_pt z _) (fun k hk P z => htop P (by rw [show M72 - 1 = k from by omega]; exact z)) (own_best2 (by omega) (by omega) (by omega) ⟨fun z => absurd rfl z, fun z => absurd ((own_inj (by omega) (by omega)).mp hc136) z⟩ ⟨fun z => absurd rfl z, fun z => absurd ((own_inj (by omega) (by omega)).mp hc150) z⟩)) hZ (hw _ (List.mem_of_getElem? (i := 36) rfl)) (hw _ (List.mem_of_getElem? (i := 4) rfl)) (by decide) (by decide)) q78a q78c (g := (mkF m 187 #[.val (.int p0), .val (.int p1), .val (.int p2), .val (.int p3), .val (.int p4), .val (.int (Int32.ofNat N)), .val (.int (Int32.ofNat P)), .val (.int sp), .val (.int (Int32.ofNat Q)), .val (.int (p3 &&& (3 : Int32))), .val (.int (Int32.ofNat R_)), .val (.int (Int32.ofNat Xq)), .val (.ref b71), .val (.int (0 : Int32)), .val (.int (0 : Int32))] [(.int (Int32.ofNat N)), (.ref b71)])) rfl (by rw [hml]; rfl) (Steps.refl _) (argsL := [(.int (Int32.ofNat N))]) (rest := []) (lenOf pd_0 rfl) rfl (by show 2 * 0 + _ ≤ _; exact Nat.le_of_eq rfl) (hb hby at_187) (fun _ _ => ⟨rfl, ei77, (by decide : 0 + 1 + 4 + 0 + 0 + 0 + 0 + 0 + 0 ≤ _), (by decide : 0 + 1 + 134 + 0 + 0 + 0 + 0 + 0 + 0 ≤ _)⟩)
          dsimp only [Pt.U, Pt.locs, Pt.cells, Pt.slots] at X78 l78 y78 z78 st78 hQ78
          subst l78 y78 z78
          obtain ⟨rfl, Nq78, eh78⟩ := hQ78
          have N78 := Fr.app N77 Nq78
          refine Go.call st78 ?_
          show Go p e below T78 (mkF m 190 #[.val (.int p0), .val (.int p1), .val (.int p2), .val (.int p3), .val (.int p4), .val (.int (Int32.ofNat N)), .val (.int (Int32.ofNat P)), .val (.int sp), .val (.int (Int32.ofNat Q)), .val (.int (p3 &&& (3 : Int32))), .val (.int (Int32.ofNat R_)), .val (.int (Int32.ofNat Xq)), .val (.ref b71), .val (.int (0 : Int32)), .val (.int (0 : Int32))] [(.int (own_ref2 (0 : Int32) (Int32.ofNat P) (0 : Int32) (Int32.ofNat Q) (Int32.ofNat N)))]) _
          refine Go.step (fun _ => XS.iload X78.here hx rfl (hb hby at_190) rfl ) ?_
          show Go p e below T78 (mkF m 192 #[.val (.int p0), .val (.int p1), .val (.int p2), .val (.int p3), .val (.int p4), .val (.int (Int32.ofNat N)), .val (.int (Int32.ofNat P)), .val (.int sp), .val (.int (Int32.ofNat Q)), .val (.int (p3 &&& (3 : Int32))), .val (.int (Int32.ofNat R_)), .val (.int (Int32.ofNat Xq)), .val (.ref b71), .val (.int (0 : Int32)), .val (.int (0 : Int32))] [(.int (0 : Int32)), (.int (own_ref2 (0 : Int32) (Int32.ofNat P) (0 : Int32) (Int32.ofNat Q) (Int32.ofNat N)))]) _
          refine Go.step (fun _ => XS.iload X78.here hx rfl (hb hby at_192) rfl ) ?_
          show Go p e below T78 (mkF m 194 #[.val (.int p0), .val (.int p1), .val (.int p2), .val (.int p3), .val (.int p4), .val (.int (Int32.ofNat N)), .val (.int (Int32.ofNat P)), .val (.int sp), .val (.int (Int32.ofNat Q)), .val (.int (p3 &&& (3 : Int32))), .val (.int (Int32.ofNat R_)), .val (.int (Int32.ofNat Xq)), .val (.ref b71), .val (.int (0 : Int32)), .val (.int (0 : Int32))] [(.int (Int32.ofNat P)), (.int (0 : Int32)), (.int (own_ref2 (0 : Int32) (Int32.ofNat P) (0 : Int32) (Int32.ofNat Q) (Int32.ofNat N)))]) _
          refine Go.step (fun _ => XS.iload X78.here hx rfl (hb hby at_194) rfl ) ?_
          show Go p e below T78 (mkF m 196 #[.val (.int p0), .val (.int p1), .val (.int p2), .val (.int p3), .val (.int p4), .val (.int (Int32.ofNat N)), .val (.int (Int32.ofNat P)), .val (.int sp), .val (.int (Int32.ofNat Q)), .val (.int (p3 &&& (3 : Int32))), .val (.int (Int32.ofNat R_)), .val (.int (Int32.ofNat Xq)), .val (.ref b71), .val (.int (0 : Int32)), .val (.int (0 : Int32))] [(.int (0 : Int32)), (.int (Int32.ofNat P)), (.int (0 : Int32)), (.int (own_ref2 (0 : Int32) (Int32.ofNat P) (0 : Int32) (Int32.ofNat Q) (Int32.ofNat N)))]) _
          refine Go.step (fun _ => XS.iload X78.here hx rfl (hb hby at_196) rfl ) ?_
          show Go p e below T78 (mkF m 198 #[.val (.int p0), .val (.int p1), .val (.int p2), .val (.int p3), .val (.int p4), .val (.int (Int32.ofNat N)), .val (.int (Int32.ofNat P)), .val (.int sp), .val (.int (Int32.ofNat Q)), .val (.int (p3 &&& (3 : Int32))), .val (.int (Int32.ofNat R_)), .val (.int (Int32.ofNat Xq)), .val (.ref b71), .val (.int (0 : Int32)), .val (.int (0 : Int32))] [(.int (Int32.ofNat Q)), (.int (0 : Int32)), (.int (Int32.ofNat P)), (.int (0 : Int32)), (.int (own_ref2 (0 : Int32) (Int32.ofNat P) (0 : Int32) (Int32.ofNat Q) (Int32.ofNat N)))]) _
          refine Go.step (fun _ => XS.iload X78.here hx rfl (hb hby at_198) rfl ) ?_
          show Go p e below T78 (mkF m 200 #[.val (.int p0), .val (.int p1), .val (.int p2), .val (.int p3), .val (.int p4), .val (.int (Int32.ofNat N)), .val (.int (Int32.ofNat P)), .val (.int sp), .val (.int (Int32.ofNat Q)), .val (.int (p3 &&& (3 : Int32))), .val (.int (Int32.ofNat R_)), .val (.int (Int32.ofNat Xq)), .val (.ref b71), .val (.int (0 : Int32)), .val (.int (0 : Int32))] [(.int (Int32.ofNat N)), (.int (Int32.ofNat Q)), (.int (0 : Int32)), (.int (Int32.ofNat P)), (.int (0 : Int32)), (.int (own_ref2 (0 : Int32) (Int32.ofNat P) (0 : Int32) (Int32.ofNat Q) (Int32.ofNat N)))]) _
          obtain ⟨_, _, ⟨T79, L79, k79, n79⟩, -, X79, ⟨Lc79, hQ79, l79, y79, z79⟩, st79⟩ := Jvm.LawKit.callS X78 hx (y := (⟨"com/example/maxhue/maxhue/PointSetRemovePinLaw", "ref", "(ZIZII)I"⟩ : MethodName)) hown (mvT hZ (hw _ (List.mem_of_getElem? (i := 37) rfl))) (mvT hZ (hw _ (List.mem_of_getElem? (i := 38) rfl))) (mvT hZ (hw _ (List.mem_of_getElem? (i := 39) rfl))) (mvT hZ (hw _ (List.mem_of_getElem? (i := 40) rfl))) (by decide) (backOf (W := 1) (rmRef l Z a0 hw [] (0 : Int32) (Int32.ofNat P) (0 : Int32) (Int32.ofNat Q) (Int32.ofNat N) T75.heap n0 Zs75) hZ (hw _ (List.mem_of_getElem? (i := 40) rfl)) (hw _ (List.mem_of_getElem? (i := 39) rfl)) (by decide) (by decide)) (g := (mkF m 200 #[.val (.int p0), .val (.int p1), .val (.int p2), .val (.int p3), .val (.int p4), .val (.int (Int32.ofNat N)), .val (.int (Int32.ofNat P)), .val (.int sp), .val (.int (Int32.ofNat Q)), .val (.int (p3 &&& (3 : Int32))), .val (.int (Int32.ofNat R_)), .val (.int (Int32.ofNat Xq)), .val (.ref b71), .val (.int (0 : Int32)), .val (.int (0 : Int32))] [(.int (Int32.ofNat N)), (.int (Int32.ofNat Q)), (.int (0 : Int32)), (.int (Int32.ofNat P)), (.int (0 : Int32)), (.int (own_ref2 (0 : Int32) (Int32.ofNat P) (0 : Int32) (Int32.ofNat Q) (Int32.ofNat N)))])) rfl (by rw [hml]; rfl) (argsL := [(.int (0 : Int32)), (.int (Int32.ofNat P)), (.int (0 : Int32)), (.int (Int32.ofNat Q)), (.int (Int32.ofNat N))]) (rest := [(.int (own_ref2 (0 : Int32) (Int32.ofNat P) (0 : Int32) (Int32.ofNat Q) (Int32.ofNat N)))]) (lenOf pd_4 rfl) rfl (by show 2 * 0 + _ ≤ _; exact Nat.le_of_eq rfl) (hb hby at_200) (fun _ _ => ⟨rfl, eh78, (by decide : 0 + 1 + 4 + 0 + 0 + 0 + 0 + 0 + 0 + 0 ≤ _), (by decide : 0 + 1 + 134 + 0 + 0 + 0 + 0 + 0 + 0 + 0 ≤ _)⟩)
          dsimp only [Pt.U, Pt.locs, Pt.cells, Pt.slots] at X79 l79 y79 z79 st79 hQ79
          subst l79 y79 z79
          obtain ⟨rfl, Nq79, ei79⟩ := hQ79
          have N79 := Fr.app N78 Nq79
          refine Go.step st79 ?_
          show Go p e below T79 (mkF m 203 #[.val (.int p0), .val (.int p1), .val (.int p2), .val (.int p3), .val (.int p4), .val (.int (Int32.ofNat N)), .val (.int (Int32.ofNat P)), .val (.int sp), .val (.int (Int32.ofNat Q)), .val (.int (p3 &&& (3 : Int32))), .val (.int (Int32.ofNat R_)), .val (.int (Int32.ofNat Xq)), .val (.ref b71), .val (.int (0 : Int32)), .val (.int (0 : Int32))] [(.int (own_ref2 (0 : Int32) (Int32.ofNat P) (0 : Int32) (Int32.ofNat Q) (Int32.ofNat N))), (.int (own_ref2 (0 : Int32) (Int32.ofNat P) (0 : Int32) (Int32.ofNat Q) (Int32.ofNat N)))]) _
          refine Go.step (fun _ => XS.icmpNo X79.here hx rfl (hb hby at_203) rfl (teq rfl).2) ?_
          show Go p e below T79 (mkF m 206 #[.val (.int p0), .val (.int p1), .val (.int p2), .val (.int p3), .val (.int p4), .val (.int (Int32.ofNat N)), .val (.int (Int32.ofNat P)), .val (.int sp), .val (.int (Int32.ofNat Q)), .val (.int (p3 &&& (3 : Int32))), .val (.int (Int32.ofNat R_)), .val (.int (Int32.ofNat Xq)), .val (.ref b71), .val (.int (0 : Int32)), .val (.int (0 : Int32))] []) _
          refine Go.step (fun _ => XS.aload X79.here hx rfl (hb hby at_206) rfl rfl ) ?_
          show Go p e below T79 (mkF m 208 #[.val (.int p0), .val (.int p1), .val (.int p2), .val (.int p3), .val (.int p4), .val (.int (Int32.ofNat N)), .val (.int (Int32.ofNat P)), .val (.int sp), .val (.int (Int32.ofNat Q)), .val (.int (p3 &&& (3 : Int32))), .val (.int (Int32.ofNat R_)), .val (.int (Int32.ofNat Xq)), .val (.ref b71), .val (.int (0 : Int32)), .val (.int (0 : Int32))] [(.ref b71)]) _
          refine Go.step (fun _ => XS.iload X79.here hx rfl (hb hby at_208) rfl ) ?_
          show Go p e below T79 (mkF m 210 #[.val (.int p0), .val (.int p1), .val (.int p2), .val (.int p3), .val (.int p4), .val (.int (Int32.ofNat N)), .val (.int (Int32.ofNat P)), .val (.int sp), .val (.int (Int32.ofNat Q)), .val (.int (p3 &&& (3 : Int32))), .val (.int (Int32.ofNat R_)), .val (.int (Int32.ofNat Xq)), .val (.ref b71), .val (.int (0 : Int32)), .val (.int (0 : Int32))] [(.int (Int32.ofNat P)), (.ref b71)]) _
          refine Go.step (fun _ => XS.iconst X79.here hx rfl (hb hby at_210)) ?_
          show Go p e below T79 (mkF m 211 #[.val (.int p0), .val (.int p1), .val (.int p2), .val (.int p3), .val (.int p4), .val (.int (Int32.ofNat N)), .val (.int (Int32.ofNat P)), .val (.int sp), .val (.int (Int32.ofNat Q)), .val (.int (p3 &&& (3 : Int32))), .val (.int (Int32.ofNat R_)), .val (.int (Int32.ofNat Xq)), .val (.ref b71), .val (.int (0 : Int32)), .val (.int (0 : Int32))] [(.int (1 : Int32)), (.int (Int32.ofNat P)), (.ref b71)]) _
          refine Go.step (fun _ => XS.iadd X79.here hx rfl (hb hby at_211) rfl) ?_
          show Go p e below T79 (mkF m 212 #[.val (.int p0), .val (.int p1), .val (.int p2), .val (.int p3), .val (.int p4), .val (.int (Int32.ofNat N)), .val (.int (Int32.ofNat P)), .val (.int sp), .val (.int (Int32.ofNat Q)), .val (.int (p3 &&& (3 : Int32))), .val (.int (Int32.ofNat R_)), .val (.int (Int32.ofNat Xq)), .val (.ref b71), .val (.int (0 : Int32)), .val (.int (0 : Int32))] [(.int ((Int32.ofNat P) + (1 : Int32))), (.ref b71)]) _
          rw [show Int32.ofNat P + (1 : Int32) = Int32.ofNat (P + 1) from own_add P 1]
          show Go p e below T79 (mkF m 212 #[.val (.int p0), .val (.int p1), .val (.int p2), .val (.int p3), .val (.int p4), .val (.int (Int32.ofNat N)), .val (.int (Int32.ofNat P)), .val (.int sp), .val (.int (Int32.ofNat Q)), .val (.int (p3 &&& (3 : Int32))), .val (.int (Int32.ofNat R_)), .val (.int (Int32.ofNat Xq)), .val (.ref b71), .val (.int (0 : Int32)), .val (.int (0 : Int32))] [(.int (Int32.ofNat (P + 1))), (.ref b71)]) _
          obtain ⟨cq80, kq80, q80a, q80b, q80c⟩ := isOf hZ ei79 Tr75.1
          obtain ⟨_, _, ⟨T80, L80, k80, n80⟩, -, X80, ⟨Lc80, hQ80, l80, y80, z80⟩, st80⟩ := X79.virtualBack hx (y := (⟨"com/example/maxhue/maxhue/PointSet", "lastBelow", "(I)I"⟩ : MethodName)) (z := (⟨"com/example/maxhue/maxhue/PointSet", "lastBelow", "(I)I"⟩ : MethodName)) hown (mvT hZ (hw _ (List.mem_of_getElem? (i := 32) rfl))) (mvT hZ (hw _ (List.mem_of_getElem? (i := 33) rfl))) (notFace_of_selects (args := #[]) (mvT hZ (hw _ (List.mem_of_getElem? (i := 35) rfl)))) (mvT hZ (hw _ (List.mem_of_getElem? (i := 35) rfl))) (mvT hZ (hw _ (List.mem_of_getElem? (i := 34) rfl))) (by decide) (backOf (W := 0) (rmLast l Z a0 hw [] b71 A72 M72 lv72 (szN N) f75 (fun q => (fun q => (fun q => (fun _ => False) q ∨ q = P) q ∨ q = Q) q ∧ q ≠ R_) N (P + 1) (own_ref2 (0 : Int32) (Int32.ofNat P) (0 : Int32) (Int32.ofNat Q) (Int32.ofNat (P + 1))) T75.heap n0 Zs75 Tr75 R75 (by omega) hszb (by omega) hN1 hM1 (by omega) hSN (fun q z => own_pt z _) (fun k hk P z => htop P (by rw [show M72 - 1 = k from by omega]; exact z)) (own_best2 (by omega) (by omega) (by omega) ⟨fun z => absurd rfl z, fun z => absurd ((own_inj (by omega) (by omega)).mp hc136) z⟩ ⟨fun z => absurd rfl z, fun z => absurd ((own_inj (by omega) (by omega)).mp hc150) z⟩)) hZ (hw _ (List.mem_of_getElem? (i := 36) rfl)) (hw _ (List.mem_of_getElem? (i := 4) rfl)) (by decide) (by decide)) q80a q80c (g := (mkF m 212 #[.val (.int p0), .val (.int p1), .val (.int p2), .val (.int p3), .val (.int p4), .val (.int (Int32.ofNat N)), .val (.int (Int32.ofNat P)), .val (.int sp), .val (.int (Int32.ofNat Q)), .val (.int (p3 &&& (3 : Int32))), .val (.int (Int32.ofNat R_)), .val (.int (Int32.ofNat Xq)), .val (.ref b71), .val (.int (0 : Int32)), .val (.int (0 : Int32))] [(.int (Int32.ofNat (P + 1))), (.ref b71)])) rfl (by rw [hml]; rfl) (Steps.refl _) (argsL := [(.int (Int32.ofNat (P + 1)))]) (rest := []) (lenOf pd_0 rfl) rfl (by show 2 * 0 + _ ≤ _; exact Nat.le_of_eq rfl) (hb hby at_212) (fun _ _ => ⟨rfl, ei79, (by decide : 0 + 1 + 4 + 0 + 0 + 0 + 0 + 0 + 0 + 0 + 0 ≤ _), (by decide : 0 + 1 + 134 + 0 + 0 + 0 + 0 + 0 + 0 + 0 + 0 ≤ _)⟩)
          dsimp only [Pt.U, Pt.locs, Pt.cells, Pt.slots] at X80 l80 y80 z80 st80 hQ80
          subst l80 y80 z80
          obtain ⟨rfl, Nq80, eh80⟩ := hQ80
          have N80 := Fr.app N79 Nq80
          refine Go.call st80 ?_
          show Go p e below T80 (mkF m 215 #[.val (.int p0), .val (.int p1), .val (.int p2), .val (.int p3), .val (.int p4), .val (.int (Int32.ofNat N)), .val (.int (Int32.ofNat P)), .val (.int sp), .val (.int (Int32.ofNat Q)), .val (.int (p3 &&& (3 : Int32))), .val (.int (Int32.ofNat R_)), .val (.int (Int32.ofNat Xq)), .val (.ref b71), .val (.int (0 : Int32)), .val (.int (0 : Int32))] [(.int (own_ref2 (0 : Int32) (Int32.ofNat P) (0 : Int32) (Int32.ofNat Q) (Int32.ofNat (P + 1))))]) _
          refine Go.step (fun _ => XS.iload X80.here hx rfl (hb hby at_215) rfl ) ?_
          show Go p e below T80 (mkF m 217 #[.val (.int p0), .val (.int p1), .val (.int p2), .val (.int p3), .val (.int p4), .val (.int (Int32.ofNat N)), .val (.int (Int32.ofNat P)), .val (.int sp), .val (.int (Int32.ofNat Q)), .val (.int (p3 &&& (3 : Int32))), .val (.int (Int32.ofNat R_)), .val (.int (Int32.ofNat Xq)), .val (.ref b71), .val (.int (0 : Int32)), .val (.int (0 : Int32))] [(.int (0 : Int32)), (.int (own_ref2 (0 : Int32) (Int32.ofNat P) (0 : Int32) (Int32.ofNat Q) (Int32.ofNat (P + 1))))]) _
          refine Go.step (fun _ => XS.iload X80.here hx rfl (hb hby at_217) rfl ) ?_
          show Go p e below T80 (mkF m 219 #[.val (.int p0), .val (.int p1), .val (.int p2), .val (.int p3), .val (.int p4), .val (.int (Int32.ofNat N)), .val (.int (Int32.ofNat P)), .val (.int sp), .val (.int (Int32.ofNat Q)), .val (.int (p3 &&& (3 : Int32))), .val (.int (Int32.ofNat R_)), .val (.int (Int32.ofNat Xq)), .val (.ref b71), .val (.int (0 : Int32)), .val (.int (0 : Int32))] [(.int (Int32.ofNat P)), (.int (0 : Int32)), (.int (own_ref2 (0 : Int32) (Int32.ofNat P) (0 : Int32) (Int32.ofNat Q) (Int32.ofNat (P + 1))))]) _
          refine Go.step (fun _ => XS.iload X80.here hx rfl (hb hby at_219) rfl ) ?_
          show Go p e below T80 (mkF m 221 #[.val (.int p0), .val (.int p1), .val (.int p2), .val (.int p3), .val (.int p4), .val (.int (Int32.ofNat N)), .val (.int (Int32.ofNat P)), .val (.int sp), .val (.int (Int32.ofNat Q)), .val (.int (p3 &&& (3 : Int32))), .val (.int (Int32.ofNat R_)), .val (.int (Int32.ofNat Xq)), .val (.ref b71), .val (.int (0 : Int32)), .val (.int (0 : Int32))] [(.int (0 : Int32)), (.int (Int32.ofNat P)), (.int (0 : Int32)), (.int (own_ref2 (0 : Int32) (Int32.ofNat P) (0 : Int32) (Int32.ofNat Q) (Int32.ofNat (P + 1))))]) _
          refine Go.step (fun _ => XS.iload X80.here hx rfl (hb hby at_221) rfl ) ?_
          show Go p e below T80 (mkF m 223 #[.val (.int p0), .val (.int p1), .val (.int p2), .val (.int p3), .val (.int p4), .val (.int (Int32.ofNat N)), .val (.int (Int32.ofNat P)), .val (.int sp), .val (.int (Int32.ofNat Q)), .val (.int (p3 &&& (3 : Int32))), .val (.int (Int32.ofNat R_)), .val (.int (Int32.ofNat Xq)), .val (.ref b71), .val (.int (0 : Int32)), .val (.int (0 : Int32))] [(.int (Int32.ofNat Q)), (.int (0 : Int32)), (.int (Int32.ofNat P)), (.int (0 : Int32)), (.int (own_ref2 (0 : Int32) (Int32.ofNat P) (0 : Int32) (Int32.ofNat Q) (Int32.ofNat (P + 1))))]) _
          refine Go.step (fun _ => XS.iload X80.here hx rfl (hb hby at_223) rfl ) ?_
          show Go p e below T80 (mkF m 225 #[.val (.int p0), .val (.int p1), .val (.int p2), .val (.int p3), .val (.int p4), .val (.int (Int32.ofNat N)), .val (.int (Int32.ofNat P)), .val (.int sp), .val (.int (Int32.ofNat Q)), .val (.int (p3 &&& (3 : Int32))), .val (.int (Int32.ofNat R_)), .val (.int (Int32.ofNat Xq)), .val (.ref b71), .val (.int (0 : Int32)), .val (.int (0 : Int32))] [(.int (Int32.ofNat P)), (.int (Int32.ofNat Q)), (.int (0 : Int32)), (.int (Int32.ofNat P)), (.int (0 : Int32)), (.int (own_ref2 (0 : Int32) (Int32.ofNat P) (0 : Int32) (Int32.ofNat Q) (Int32.ofNat (P + 1))))]) _
          refine Go.step (fun _ => XS.iconst X80.here hx rfl (hb hby at_225)) ?_
          show Go p e below T80 (mkF m 226 #[.val (.int p0), .val (.int p1), .val (.int p2), .val (.int p3), .val (.int p4), .val (.int (Int32.ofNat N)), .val (.int (Int32.ofNat P)), .val (.int sp), .val (.int (Int32.ofNat Q)), .val (.int (p3 &&& (3 : Int32))), .val (.int (Int32.ofNat R_)), .val (.int (Int32.ofNat Xq)), .val (.ref b71), .val (.int (0 : Int32)), .val (.int (0 : Int32))] [(.int (1 : Int32)), (.int (Int32.ofNat P)), (.int (Int32.ofNat Q)), (.int (0 : Int32)), (.int (Int32.ofNat P)), (.int (0 : Int32)), (.int (own_ref2 (0 : Int32) (Int32.ofNat P) (0 : Int32) (Int32.ofNat Q) (Int32.ofNat (P + 1))))]) _
          refine Go.step (fun _ => XS.iadd X80.here hx rfl (hb hby at_226) rfl) ?_
          show Go p e below T80 (mkF m 227 #[.val (.int p0), .val (.int p1), .val (.int p2), .val (.int p3), .val (.int p4), .val (.int (Int32.ofNat N)), .val (.int (Int32.ofNat P)), .val (.int sp), .val (.int (Int32.ofNat Q)), .val (.int (p3 &&& (3 : Int32))), .val (.int (Int32.ofNat R_)), .val (.int (Int32.ofNat Xq)), .val (.ref b71), .val (.int (0 : Int32)), .val (.int (0 : Int32))] [(.int ((Int32.ofNat P) + (1 : Int32))), (.int (Int32.ofNat Q)), (.int (0 : Int32)), (.int (Int32.ofNat P)), (.int (0 : Int32)), (.int (own_ref2 (0 : Int32) (Int32.ofNat P) (0 : Int32) (Int32.ofNat Q) (Int32.ofNat (P + 1))))]) _
          rw [show Int32.ofNat P + (1 : Int32) = Int32.ofNat (P + 1) from own_add P 1]
          show Go p e below T80 (mkF m 227 #[.val (.int p0), .val (.int p1), .val (.int p2), .val (.int p3), .val (.int p4), .val (.int (Int32.ofNat N)), .val (.int (Int32.ofNat P)), .val (.int sp), .val (.int (Int32.ofNat Q)), .val (.int (p3 &&& (3 : Int32))), .val (.int (Int32.ofNat R_)), .val (.int (Int32.ofNat Xq)), .val (.ref b71), .val (.int (0 : Int32)), .val (.int (0 : Int32))] [(.int (Int32.ofNat (P + 1))), (.int (Int32.ofNat Q)), (.int (0 : Int32)), (.int (Int32.ofNat P)), (.int (0 : Int32)), (.int (own_ref2 (0 : Int32) (Int32.ofNat P) (0 : Int32) (Int32.ofNat Q) (Int32.ofNat (P + 1))))]) _
          obtain ⟨_, _, ⟨T81, L81, k81, n81⟩, -, X81, ⟨Lc81, hQ81, l81, y81, z81⟩, st81⟩ := Jvm.LawKit.callS X80 hx (y := (⟨"com/example/maxhue/maxhue/PointSetRemovePinLaw", "ref", "(ZIZII)I"⟩ : MethodName)) hown (mvT hZ (hw _ (List.mem_of_getElem? (i := 37) rfl))) (mvT hZ (hw _ (List.mem_of_getElem? (i := 38) rfl))) (mvT hZ (hw _ (List.mem_of_getElem? (i := 39) rfl))) (mvT hZ (hw _ (List.mem_of_getElem? (i := 40) rfl))) (by decide) (backOf (W := 1) (rmRef l Z a0 hw [] (0 : Int32) (Int32.ofNat P) (0 : Int32) (Int32.ofNat Q) (Int32.ofNat (P + 1)) T75.heap n0 Zs75) hZ (hw _ (List.mem_of_getElem? (i := 40) rfl)) (hw _ (List.mem_of_getElem? (i := 39) rfl)) (by decide) (by decide)) (g := (mkF m 227 #[.val (.int p0), .val (.int p1), .val (.int p2), .val (.int p3), .val (.int p4), .val (.int (Int32.ofNat N)), .val (.int (Int32.ofNat P)), .val (.int sp), .val (.int (Int32.ofNat Q)), .val (.int (p3 &&& (3 : Int32))), .val (.int (Int32.ofNat R_)), .val (.int (Int32.ofNat Xq)), .val (.ref b71), .val (.int (0 : Int32)), .val (.int (0 : Int32))] [(.int (Int32.ofNat (P + 1))), (.int (Int32.ofNat Q)), (.int (0 : Int32)), (.int (Int32.ofNat P)), (.int (0 : Int32)), (.int (own_ref2 (0 : Int32) (Int32.ofNat P) (0 : Int32) (Int32.ofNat Q) (Int32.ofNat (P + 1))))])) rfl (by rw [hml]; rfl) (argsL := [(.int (0 : Int32)), (.int (Int32.ofNat P)), (.int (0 : Int32)), (.int (Int32.ofNat Q)), (.int (Int32.ofNat (P + 1)))]) (rest := [(.int (own_ref2 (0 : Int32) (Int32.ofNat P) (0 : Int32) (Int32.ofNat Q) (Int32.ofNat (P + 1))))]) (lenOf pd_4 rfl) rfl (by show 2 * 0 + _ ≤ _; exact Nat.le_of_eq rfl) (hb hby at_227) (fun _ _ => ⟨rfl, eh80, (by decide : 0 + 1 + 4 + 0 + 0 + 0 + 0 + 0 + 0 + 0 + 0 + 0 ≤ _), (by decide : 0 + 1 + 134 + 0 + 0 + 0 + 0 + 0 + 0 + 0 + 0 + 0 ≤ _)⟩)
          dsimp only [Pt.U, Pt.locs, Pt.cells, Pt.slots] at X81 l81 y81 z81 st81 hQ81
          subst l81 y81 z81
          obtain ⟨rfl, Nq81, ei81⟩ := hQ81
          have N81 := Fr.app N80 Nq81
          refine Go.step st81 ?_
          show Go p e below T81 (mkF m 230 #[.val (.int p0), .val (.int p1), .val (.int p2), .val (.int p3), .val (.int p4), .val (.int (Int32.ofNat N)), .val (.int (Int32.ofNat P)), .val (.int sp), .val (.int (Int32.ofNat Q)), .val (.int (p3 &&& (3 : Int32))), .val (.int (Int32.ofNat R_)), .val (.int (Int32.ofNat Xq)), .val (.ref b71), .val (.int (0 : Int32)), .val (.int (0 : Int32))] [(.int (own_ref2 (0 : Int32) (Int32.ofNat P) (0 : Int32) (Int32.ofNat Q) (Int32.ofNat (P + 1)))), (.int (own_ref2 (0 : Int32) (Int32.ofNat P) (0 : Int32) (Int32.ofNat Q) (Int32.ofNat (P + 1))))]) _
          refine Go.step (fun _ => XS.icmpNo X81.here hx rfl (hb hby at_230) rfl (teq rfl).2) ?_
          show Go p e below T81 (mkF m 233 #[.val (.int p0), .val (.int p1), .val (.int p2), .val (.int p3), .val (.int p4), .val (.int (Int32.ofNat N)), .val (.int (Int32.ofNat P)), .val (.int sp), .val (.int (Int32.ofNat Q)), .val (.int (p3 &&& (3 : Int32))), .val (.int (Int32.ofNat R_)), .val (.int (Int32.ofNat Xq)), .val (.ref b71), .val (.int (0 : Int32)), .val (.int (0 : Int32))] []) _
          refine Go.step (fun _ => XS.aload X81.here hx rfl (hb hby at_233) rfl rfl ) ?_
          show Go p e below T81 (mkF m 235 #[.val (.int p0), .val (.int p1), .val (.int p2), .val (.int p3), .val (.int p4), .val (.int (Int32.ofNat N)), .val (.int (Int32.ofNat P)), .val (.int sp), .val (.int (Int32.ofNat Q)), .val (.int (p3 &&& (3 : Int32))), .val (.int (Int32.ofNat R_)), .val (.int (Int32.ofNat Xq)), .val (.ref b71), .val (.int (0 : Int32)), .val (.int (0 : Int32))] [(.ref b71)]) _
          refine Go.step (fun _ => XS.iload X81.here hx rfl (hb hby at_235) rfl ) ?_
          show Go p e below T81 (mkF m 237 #[.val (.int p0), .val (.int p1), .val (.int p2), .val (.int p3), .val (.int p4), .val (.int (Int32.ofNat N)), .val (.int (Int32.ofNat P)), .val (.int sp), .val (.int (Int32.ofNat Q)), .val (.int (p3 &&& (3 : Int32))), .val (.int (Int32.ofNat R_)), .val (.int (Int32.ofNat Xq)), .val (.ref b71), .val (.int (0 : Int32)), .val (.int (0 : Int32))] [(.int (Int32.ofNat Q)), (.ref b71)]) _
          refine Go.step (fun _ => XS.iconst X81.here hx rfl (hb hby at_237)) ?_
          show Go p e below T81 (mkF m 238 #[.val (.int p0), .val (.int p1), .val (.int p2), .val (.int p3), .val (.int p4), .val (.int (Int32.ofNat N)), .val (.int (Int32.ofNat P)), .val (.int sp), .val (.int (Int32.ofNat Q)), .val (.int (p3 &&& (3 : Int32))), .val (.int (Int32.ofNat R_)), .val (.int (Int32.ofNat Xq)), .val (.ref b71), .val (.int (0 : Int32)), .val (.int (0 : Int32))] [(.int (1 : Int32)), (.int (Int32.ofNat Q)), (.ref b71)]) _
          refine Go.step (fun _ => XS.iadd X81.here hx rfl (hb hby at_238) rfl) ?_
          show Go p e below T81 (mkF m 239 #[.val (.int p0), .val (.int p1), .val (.int p2), .val (.int p3), .val (.int p4), .val (.int (Int32.ofNat N)), .val (.int (Int32.ofNat P)), .val (.int sp), .val (.int (Int32.ofNat Q)), .val (.int (p3 &&& (3 : Int32))), .val (.int (Int32.ofNat R_)), .val (.int (Int32.ofNat Xq)), .val (.ref b71), .val (.int (0 : Int32)), .val (.int (0 : Int32))] [(.int ((Int32.ofNat Q) + (1 : Int32))), (.ref b71)]) _
          rw [show Int32.ofNat Q + (1 : Int32) = Int32.ofNat (Q + 1) from own_add Q 1]
          show Go p e below T81 (mkF m 239 #[.val (.int p0), .val (.int p1), .val (.int p2), .val (.int p3), .val (.int p4), .val (.int (Int32.ofNat N)), .val (.int (Int32.ofNat P)), .val (.int sp), .val (.int (Int32.ofNat Q)), .val (.int (p3 &&& (3 : Int32))), .val (.int (Int32.ofNat R_)), .val (.int (Int32.ofNat Xq)), .val (.ref b71), .val (.int (0 : Int32)), .val (.int (0 : Int32))] [(.int (Int32.ofNat (Q + 1))), (.ref b71)]) _
          obtain ⟨cq82, kq82, q82a, q82b, q82c⟩ := isOf hZ ei81 Tr75.1
          obtain ⟨_, _, ⟨T82, L82, k82, n82⟩, -, X82, ⟨Lc82, hQ82, l82, y82, z82⟩, st82⟩ := X81.virtualBack hx (y := (⟨"com/example/maxhue/maxhue/PointSet", "lastBelow", "(I)I"⟩ : MethodName)) (z := (⟨"com/example/maxhue/maxhue/PointSet", "lastBelow", "(I)I"⟩ : MethodName)) hown (mvT hZ (hw _ (List.mem_of_getElem? (i := 32) rfl))) (mvT hZ (hw _ (List.mem_of_getElem? (i := 33) rfl))) (notFace_of_selects (args := #[]) (mvT hZ (hw _ (List.mem_of_getElem? (i := 35) rfl)))) (mvT hZ (hw _ (List.mem_of_getElem? (i := 35) rfl))) (mvT hZ (hw _ (List.mem_of_getElem? (i := 34) rfl))) (by decide) (backOf (W := 0) (rmLast l Z a0 hw [] b71 A72 M72 lv72 (szN N) f75 (fun q => (fun q => (fun q => (fun _ => False) q ∨ q = P) q ∨ q = Q) q ∧ q ≠ R_) N (Q + 1) (own_ref2 (0 : Int32) (Int32.ofNat P) (0 : Int32) (Int32.ofNat Q) (Int32.ofNat (Q + 1))) T75.heap n0 Zs75 Tr75 R75 (by omega) hszb (by omega) hN1 hM1 (by omega) hSN (fun q z => own_pt z _) (fun k hk P z => htop P (by rw [show M72 - 1 = k from by omega]; exact z)) (own_best2 (by omega) (by omega) (by omega) ⟨fun z => absurd rfl z, fun z => absurd ((own_inj (by omega) (by omega)).mp hc136) z⟩ ⟨fun z => absurd rfl z, fun z => absurd ((own_inj (by omega) (by omega)).mp hc150) z⟩)) hZ (hw _ (List.mem_of_getElem? (i := 36) rfl)) (hw _ (List.mem_of_getElem? (i := 4) rfl)) (by decide) (by decide)) q82a q82c (g := (mkF m 239 #[.val (.int p0), .val (.int p1), .val (.int p2), .val (.int p3), .val (.int p4), .val (.int (Int32.ofNat N)), .val (.int (Int32.ofNat P)), .val (.int sp), .val (.int (Int32.ofNat Q)), .val (.int (p3 &&& (3 : Int32))), .val (.int (Int32.ofNat R_)), .val (.int (Int32.ofNat Xq)), .val (.ref b71), .val (.int (0 : Int32)), .val (.int (0 : Int32))] [(.int (Int32.ofNat (Q + 1))), (.ref b71)])) rfl (by rw [hml]; rfl) (Steps.refl _) (argsL := [(.int (Int32.ofNat (Q + 1)))]) (rest := []) (lenOf pd_0 rfl) rfl (by show 2 * 0 + _ ≤ _; exact Nat.le_of_eq rfl) (hb hby at_239) (fun _ _ => ⟨rfl, ei81, (by decide : 0 + 1 + 4 + 0 + 0 + 0 + 0 + 0 + 0 + 0 + 0 + 0 + 0 ≤ _), (by decide : 0 + 1 + 134 + 0 + 0 + 0 + 0 + 0 + 0 + 0 + 0 + 0 + 0 ≤ _)⟩)
          dsimp only [Pt.U, Pt.locs, Pt.cells, Pt.slots] at X82 l82 y82 z82 st82 hQ82
          subst l82 y82 z82
          obtain ⟨rfl, Nq82, eh82⟩ := hQ82
          have N82 := Fr.app N81 Nq82
          refine Go.call st82 ?_
          show Go p e below T82 (mkF m 242 #[.val (.int p0), .val (.int p1), .val (.int p2), .val (.int p3), .val (.int p4), .val (.int (Int32.ofNat N)), .val (.int (Int32.ofNat P)), .val (.int sp), .val (.int (Int32.ofNat Q)), .val (.int (p3 &&& (3 : Int32))), .val (.int (Int32.ofNat R_)), .val (.int (Int32.ofNat Xq)), .val (.ref b71), .val (.int (0 : Int32)), .val (.int (0 : Int32))] [(.int (own_ref2 (0 : Int32) (Int32.ofNat P) (0 : Int32) (Int32.ofNat Q) (Int32.ofNat (Q + 1))))]) _
          refine Go.step (fun _ => XS.iload X82.here hx rfl (hb hby at_242) rfl ) ?_
          show Go p e below T82 (mkF m 244 #[.val (.int p0), .val (.int p1), .val (.int p2), .val (.int p3), .val (.int p4), .val (.int (Int32.ofNat N)), .val (.int (Int32.ofNat P)), .val (.int sp), .val (.int (Int32.ofNat Q)), .val (.int (p3 &&& (3 : Int32))), .val (.int (Int32.ofNat R_)), .val (.int (Int32.ofNat Xq)), .val (.ref b71), .val (.int (0 : Int32)), .val (.int (0 : Int32))] [(.int (0 : Int32)), (.int (own_ref2 (0 : Int32) (Int32.ofNat P) (0 : Int32) (Int32.ofNat Q) (Int32.ofNat (Q + 1))))]) _
          refine Go.step (fun _ => XS.iload X82.here hx rfl (hb hby at_244) rfl ) ?_
          show Go p e below T82 (mkF m 246 #[.val (.int p0), .val (.int p1), .val (.int p2), .val (.int p3), .val (.int p4), .val (.int (Int32.ofNat N)), .val (.int (Int32.ofNat P)), .val (.int sp), .val (.int (Int32.ofNat Q)), .val (.int (p3 &&& (3 : Int32))), .val (.int (Int32.ofNat R_)), .val (.int (Int32.ofNat Xq)), .val (.ref b71), .val (.int (0 : Int32)), .val (.int (0 : Int32))] [(.int (Int32.ofNat P)), (.int (0 : Int32)), (.int (own_ref2 (0 : Int32) (Int32.ofNat P) (0 : Int32) (Int32.ofNat Q) (Int32.ofNat (Q + 1))))]) _
          refine Go.step (fun _ => XS.iload X82.here hx rfl (hb hby at_246) rfl ) ?_
          show Go p e below T82 (mkF m 248 #[.val (.int p0), .val (.int p1), .val (.int p2), .val (.int p3), .val (.int p4), .val (.int (Int32.ofNat N)), .val (.int (Int32.ofNat P)), .val (.int sp), .val (.int (Int32.ofNat Q)), .val (.int (p3 &&& (3 : Int32))), .val (.int (Int32.ofNat R_)), .val (.int (Int32.ofNat Xq)), .val (.ref b71), .val (.int (0 : Int32)), .val (.int (0 : Int32))] [(.int (0 : Int32)), (.int (Int32.ofNat P)), (.int (0 : Int32)), (.int (own_ref2 (0 : Int32) (Int32.ofNat P) (0 : Int32) (Int32.ofNat Q) (Int32.ofNat (Q + 1))))]) _
          refine Go.step (fun _ => XS.iload X82.here hx rfl (hb hby at_248) rfl ) ?_
          show Go p e below T82 (mkF m 250 #[.val (.int p0), .val (.int p1), .val (.int p2), .val (.int p3), .val (.int p4), .val (.int (Int32.ofNat N)), .val (.int (Int32.ofNat P)), .val (.int sp), .val (.int (Int32.ofNat Q)), .val (.int (p3 &&& (3 : Int32))), .val (.int (Int32.ofNat R_)), .val (.int (Int32.ofNat Xq)), .val (.ref b71), .val (.int (0 : Int32)), .val (.int (0 : Int32))] [(.int (Int32.ofNat Q)), (.int (0 : Int32)), (.int (Int32.ofNat P)), (.int (0 : Int32)), (.int (own_ref2 (0 : Int32) (Int32.ofNat P) (0 : Int32) (Int32.ofNat Q) (Int32.ofNat (Q + 1))))]) _
          refine Go.step (fun _ => XS.iload X82.here hx rfl (hb hby at_250) rfl ) ?_
          show Go p e below T82 (mkF m 252 #[.val (.int p0), .val (.int p1), .val (.int p2), .val (.int p3), .val (.int p4), .val (.int (Int32.ofNat N)), .val (.int (Int32.ofNat P)), .val (.int sp), .val (.int (Int32.ofNat Q)), .val (.int (p3 &&& (3 : Int32))), .val (.int (Int32.ofNat R_)), .val (.int (Int32.ofNat Xq)), .val (.ref b71), .val (.int (0 : Int32)), .val (.int (0 : Int32))] [(.int (Int32.ofNat Q)), (.int (Int32.ofNat Q)), (.int (0 : Int32)), (.int (Int32.ofNat P)), (.int (0 : Int32)), (.int (own_ref2 (0 : Int32) (Int32.ofNat P) (0 : Int32) (Int32.ofNat Q) (Int32.ofNat (Q + 1))))]) _
          refine Go.step (fun _ => XS.iconst X82.here hx rfl (hb hby at_252)) ?_
          show Go p e below T82 (mkF m 253 #[.val (.int p0), .val (.int p1), .val (.int p2), .val (.int p3), .val (.int p4), .val (.int (Int32.ofNat N)), .val (.int (Int32.ofNat P)), .val (.int sp), .val (.int (Int32.ofNat Q)), .val (.int (p3 &&& (3 : Int32))), .val (.int (Int32.ofNat R_)), .val (.int (Int32.ofNat Xq)), .val (.ref b71), .val (.int (0 : Int32)), .val (.int (0 : Int32))] [(.int (1 : Int32)), (.int (Int32.ofNat Q)), (.int (Int32.ofNat Q)), (.int (0 : Int32)), (.int (Int32.ofNat P)), (.int (0 : Int32)), (.int (own_ref2 (0 : Int32) (Int32.ofNat P) (0 : Int32) (Int32.ofNat Q) (Int32.ofNat (Q + 1))))]) _
          refine Go.step (fun _ => XS.iadd X82.here hx rfl (hb hby at_253) rfl) ?_
          show Go p e below T82 (mkF m 254 #[.val (.int p0), .val (.int p1), .val (.int p2), .val (.int p3), .val (.int p4), .val (.int (Int32.ofNat N)), .val (.int (Int32.ofNat P)), .val (.int sp), .val (.int (Int32.ofNat Q)), .val (.int (p3 &&& (3 : Int32))), .val (.int (Int32.ofNat R_)), .val (.int (Int32.ofNat Xq)), .val (.ref b71), .val (.int (0 : Int32)), .val (.int (0 : Int32))] [(.int ((Int32.ofNat Q) + (1 : Int32))), (.int (Int32.ofNat Q)), (.int (0 : Int32)), (.int (Int32.ofNat P)), (.int (0 : Int32)), (.int (own_ref2 (0 : Int32) (Int32.ofNat P) (0 : Int32) (Int32.ofNat Q) (Int32.ofNat (Q + 1))))]) _
          rw [show Int32.ofNat Q + (1 : Int32) = Int32.ofNat (Q + 1) from own_add Q 1]
          show Go p e below T82 (mkF m 254 #[.val (.int p0), .val (.int p1), .val (.int p2), .val (.int p3), .val (.int p4), .val (.int (Int32.ofNat N)), .val (.int (Int32.ofNat P)), .val (.int sp), .val (.int (Int32.ofNat Q)), .val (.int (p3 &&& (3 : Int32))), .val (.int (Int32.ofNat R_)), .val (.int (Int32.ofNat Xq)), .val (.ref b71), .val (.int (0 : Int32)), .val (.int (0 : Int32))] [(.int (Int32.ofNat (Q + 1))), (.int (Int32.ofNat Q)), (.int (0 : Int32)), (.int (Int32.ofNat P)), (.int (0 : Int32)), (.int (own_ref2 (0 : Int32) (Int32.ofNat P) (0 : Int32) (Int32.ofNat Q) (Int32.ofNat (Q + 1))))]) _
          obtain ⟨_, _, ⟨T83, L83, k83, n83⟩, -, X83, ⟨Lc83, hQ83, l83, y83, z83⟩, st83⟩ := Jvm.LawKit.callS X82 hx (y := (⟨"com/example/maxhue/maxhue/PointSetRemovePinLaw", "ref", "(ZIZII)I"⟩ : MethodName)) hown (mvT hZ (hw _ (List.mem_of_getElem? (i := 37) rfl))) (mvT hZ (hw _ (List.mem_of_getElem? (i := 38) rfl))) (mvT hZ (hw _ (List.mem_of_getElem? (i := 39) rfl))) (mvT hZ (hw _ (List.mem_of_getElem? (i := 40) rfl))) (by decide) (backOf (W := 1) (rmRef l Z a0 hw [] (0 : Int32) (Int32.ofNat P) (0 : Int32) (Int32.ofNat Q) (Int32.ofNat (Q + 1)) T75.heap n0 Zs75) hZ (hw _ (List.mem_of_getElem? (i := 40) rfl)) (hw _ (List.mem_of_getElem? (i := 39) rfl)) (by decide) (by decide)) (g := (mkF m 254 #[.val (.int p0), .val (.int p1), .val (.int p2), .val (.int p3), .val (.int p4), .val (.int (Int32.ofNat N)), .val (.int (Int32.ofNat P)), .val (.int sp), .val (.int (Int32.ofNat Q)), .val (.int (p3 &&& (3 : Int32))), .val (.int (Int32.ofNat R_)), .val (.int (Int32.ofNat Xq)), .val (.ref b71), .val (.int (0 : Int32)), .val (.int (0 : Int32))] [(.int (Int32.ofNat (Q + 1))), (.int (Int32.ofNat Q)), (.int (0 : Int32)), (.int (Int32.ofNat P)), (.int (0 : Int32)), (.int (own_ref2 (0 : Int32) (Int32.ofNat P) (0 : Int32) (Int32.ofNat Q) (Int32.ofNat (Q + 1))))])) rfl (by rw [hml]; rfl) (argsL := [(.int (0 : Int32)), (.int (Int32.ofNat P)), (.int (0 : Int32)), (.int (Int32.ofNat Q)), (.int (Int32.ofNat (Q + 1)))]) (rest := [(.int (own_ref2 (0 : Int32) (Int32.ofNat P) (0 : Int32) (Int32.ofNat Q) (Int32.ofNat (Q + 1))))]) (lenOf pd_4 rfl) rfl (by show 2 * 0 + _ ≤ _; exact Nat.le_of_eq rfl) (hb hby at_254) (fun _ _ => ⟨rfl, eh82, (by decide : 0 + 1 + 4 + 0 + 0 + 0 + 0 + 0 + 0 + 0 + 0 + 0 + 0 + 0 ≤ _), (by decide : 0 + 1 + 134 + 0 + 0 + 0 + 0 + 0 + 0 + 0 + 0 + 0 + 0 + 0 ≤ _)⟩)
          dsimp only [Pt.U, Pt.locs, Pt.cells, Pt.slots] at X83 l83 y83 z83 st83 hQ83
          subst l83 y83 z83
          obtain ⟨rfl, Nq83, ei83⟩ := hQ83
          have N83 := Fr.app N82 Nq83
          refine Go.step st83 ?_
          show Go p e below T83 (mkF m 257 #[.val (.int p0), .val (.int p1), .val (.int p2), .val (.int p3), .val (.int p4), .val (.int (Int32.ofNat N)), .val (.int (Int32.ofNat P)), .val (.int sp), .val (.int (Int32.ofNat Q)), .val (.int (p3 &&& (3 : Int32))), .val (.int (Int32.ofNat R_)), .val (.int (Int32.ofNat Xq)), .val (.ref b71), .val (.int (0 : Int32)), .val (.int (0 : Int32))] [(.int (own_ref2 (0 : Int32) (Int32.ofNat P) (0 : Int32) (Int32.ofNat Q) (Int32.ofNat (Q + 1)))), (.int (own_ref2 (0 : Int32) (Int32.ofNat P) (0 : Int32) (Int32.ofNat Q) (Int32.ofNat (Q + 1))))]) _
          refine Go.step (fun _ => XS.icmpNo X83.here hx rfl (hb hby at_257) rfl (teq rfl).2) ?_
          show Go p e below T83 (mkF m 260 #[.val (.int p0), .val (.int p1), .val (.int p2), .val (.int p3), .val (.int p4), .val (.int (Int32.ofNat N)), .val (.int (Int32.ofNat P)), .val (.int sp), .val (.int (Int32.ofNat Q)), .val (.int (p3 &&& (3 : Int32))), .val (.int (Int32.ofNat R_)), .val (.int (Int32.ofNat Xq)), .val (.ref b71), .val (.int (0 : Int32)), .val (.int (0 : Int32))] []) _
          refine Go.step (fun _ => XS.iconst X83.here hx rfl (hb hby at_260)) ?_
          show Go p e below T83 (mkF m 261 #[.val (.int p0), .val (.int p1), .val (.int p2), .val (.int p3), .val (.int p4), .val (.int (Int32.ofNat N)), .val (.int (Int32.ofNat P)), .val (.int sp), .val (.int (Int32.ofNat Q)), .val (.int (p3 &&& (3 : Int32))), .val (.int (Int32.ofNat R_)), .val (.int (Int32.ofNat Xq)), .val (.ref b71), .val (.int (0 : Int32)), .val (.int (0 : Int32))] [(.int (1 : Int32))]) _
          refine Go.step (fun _ => XS.goto X83.here hx rfl (pc0 := 261) (pc' := 265) rfl (hb hby at_261) (by decide) (by decide)) ?_
          show Go p e below T83 (mkF m 265 #[.val (.int p0), .val (.int p1), .val (.int p2), .val (.int p3), .val (.int p4), .val (.int (Int32.ofNat N)), .val (.int (Int32.ofNat P)), .val (.int sp), .val (.int (Int32.ofNat Q)), .val (.int (p3 &&& (3 : Int32))), .val (.int (Int32.ofNat R_)), .val (.int (Int32.ofNat Xq)), .val (.ref b71), .val (.int (0 : Int32)), .val (.int (0 : Int32))] [(.int (1 : Int32))]) _
          refine Go.retN (t := .boolean) (z' := (1 : Int32)) X83 hx hret (by simp) hlk (hb hby at_265) (by decide) ?_ (by decide) (by decide)
          exact ⟨rfl, N83⟩
        · skip
          refine Go.step (fun _ => XS.icmpNo X75.here hx rfl (hb hby at_150) rfl (feq hc150).1) ?_
          show Go p e below T75 (mkF m 153 #[.val (.int p0), .val (.int p1), .val (.int p2), .val (.int p3), .val (.int p4), .val (.int (Int32.ofNat N)), .val (.int (Int32.ofNat P)), .val (.int sp), .val (.int (Int32.ofNat Q)), .val (.int (p3 &&& (3 : Int32))), .val (.int (Int32.ofNat R_)), .val (.int (Int32.ofNat Xq)), .val (.ref b71), .val (.int (0 : Int32)), .unset] []) _
          refine Go.step (fun _ => XS.iconst X75.here hx rfl (hb hby at_153)) ?_
          show Go p e below T75 (mkF m 154 #[.val (.int p0), .val (.int p1), .val (.int p2), .val (.int p3), .val (.int p4), .val (.int (Int32.ofNat N)), .val (.int (Int32.ofNat P)), .val (.int sp), .val (.int (Int32.ofNat Q)), .val (.int (p3 &&& (3 : Int32))), .val (.int (Int32.ofNat R_)), .val (.int (Int32.ofNat Xq)), .val (.ref b71), .val (.int (0 : Int32)), .unset] [(.int (1 : Int32))]) _
          refine Go.step (fun _ => XS.goto X75.here hx rfl (pc0 := 154) (pc' := 158) rfl (hb hby at_154) (by decide) (by decide)) ?_
          show Go p e below T75 (mkF m 158 #[.val (.int p0), .val (.int p1), .val (.int p2), .val (.int p3), .val (.int p4), .val (.int (Int32.ofNat N)), .val (.int (Int32.ofNat P)), .val (.int sp), .val (.int (Int32.ofNat Q)), .val (.int (p3 &&& (3 : Int32))), .val (.int (Int32.ofNat R_)), .val (.int (Int32.ofNat Xq)), .val (.ref b71), .val (.int (0 : Int32)), .unset] [(.int (1 : Int32))]) _
          refine Go.step (fun _ => XS.istore X75.here hx rfl (hb hby at_158) rfl (l' := #[.val (.int p0), .val (.int p1), .val (.int p2), .val (.int p3), .val (.int p4), .val (.int (Int32.ofNat N)), .val (.int (Int32.ofNat P)), .val (.int sp), .val (.int (Int32.ofNat Q)), .val (.int (p3 &&& (3 : Int32))), .val (.int (Int32.ofNat R_)), .val (.int (Int32.ofNat Xq)), .val (.ref b71), .val (.int (0 : Int32)), .val (.int (1 : Int32))]) rfl) ?_
          show Go p e below T75 (mkF m 160 #[.val (.int p0), .val (.int p1), .val (.int p2), .val (.int p3), .val (.int p4), .val (.int (Int32.ofNat N)), .val (.int (Int32.ofNat P)), .val (.int sp), .val (.int (Int32.ofNat Q)), .val (.int (p3 &&& (3 : Int32))), .val (.int (Int32.ofNat R_)), .val (.int (Int32.ofNat Xq)), .val (.ref b71), .val (.int (0 : Int32)), .val (.int (1 : Int32))] []) _
          refine Go.step (fun _ => XS.aload X75.here hx rfl (hb hby at_160) rfl rfl ) ?_
          show Go p e below T75 (mkF m 162 #[.val (.int p0), .val (.int p1), .val (.int p2), .val (.int p3), .val (.int p4), .val (.int (Int32.ofNat N)), .val (.int (Int32.ofNat P)), .val (.int sp), .val (.int (Int32.ofNat Q)), .val (.int (p3 &&& (3 : Int32))), .val (.int (Int32.ofNat R_)), .val (.int (Int32.ofNat Xq)), .val (.ref b71), .val (.int (0 : Int32)), .val (.int (1 : Int32))] [(.ref b71)]) _
          refine Go.step (fun _ => XS.iload X75.here hx rfl (hb hby at_162) rfl ) ?_
          show Go p e below T75 (mkF m 164 #[.val (.int p0), .val (.int p1), .val (.int p2), .val (.int p3), .val (.int p4), .val (.int (Int32.ofNat N)), .val (.int (Int32.ofNat P)), .val (.int sp), .val (.int (Int32.ofNat Q)), .val (.int (p3 &&& (3 : Int32))), .val (.int (Int32.ofNat R_)), .val (.int (Int32.ofNat Xq)), .val (.ref b71), .val (.int (0 : Int32)), .val (.int (1 : Int32))] [(.int (Int32.ofNat Xq)), (.ref b71)]) _
          have hSN : ∀ q, (fun q => (fun q => (fun q => (fun _ => False) q ∨ q = P) q ∨ q = Q) q ∧ q ≠ R_) q → q < N := fun q z => by
            obtain ⟨z, -⟩ := z
            rcases z with (z | z) | z
            · exact z.elim
            all_goals omega
          obtain ⟨cq84, kq84, q84a, q84b, q84c⟩ := isOf hZ rfl Tr75.1
          obtain ⟨_, _, ⟨T84, L84, k84, n84⟩, -, X84, ⟨Lc84, hQ84, l84, y84, z84⟩, st84⟩ := X75.virtualBack hx (y := (⟨"com/example/maxhue/maxhue/PointSet", "lastBelow", "(I)I"⟩ : MethodName)) (z := (⟨"com/example/maxhue/maxhue/PointSet", "lastBelow", "(I)I"⟩ : MethodName)) hown (mvT hZ (hw _ (List.mem_of_getElem? (i := 32) rfl))) (mvT hZ (hw _ (List.mem_of_getElem? (i := 33) rfl))) (notFace_of_selects (args := #[]) (mvT hZ (hw _ (List.mem_of_getElem? (i := 35) rfl)))) (mvT hZ (hw _ (List.mem_of_getElem? (i := 35) rfl))) (mvT hZ (hw _ (List.mem_of_getElem? (i := 34) rfl))) (by decide) (backOf (W := 0) (rmLast l Z a0 hw [] b71 A72 M72 lv72 (szN N) f75 (fun q => (fun q => (fun q => (fun _ => False) q ∨ q = P) q ∨ q = Q) q ∧ q ≠ R_) N Xq (own_ref2 (0 : Int32) (Int32.ofNat P) (1 : Int32) (Int32.ofNat Q) (Int32.ofNat Xq)) T75.heap n0 Zs75 Tr75 R75 (by omega) hszb (by omega) hN1 hM1 (by omega) hSN (fun q z => own_pt z _) (fun k hk P z => htop P (by rw [show M72 - 1 = k from by omega]; exact z)) (own_best2 (by omega) (by omega) (by omega) ⟨fun z => absurd rfl z, fun z => absurd ((own_inj (by omega) (by omega)).mp hc136) z⟩ ⟨fun _ z => hc150 ((own_inj (by omega) (by omega)).mpr z), fun _ => by decide⟩)) hZ (hw _ (List.mem_of_getElem? (i := 36) rfl)) (hw _ (List.mem_of_getElem? (i := 4) rfl)) (by decide) (by decide)) q84a q84c (g := (mkF m 164 #[.val (.int p0), .val (.int p1), .val (.int p2), .val (.int p3), .val (.int p4), .val (.int (Int32.ofNat N)), .val (.int (Int32.ofNat P)), .val (.int sp), .val (.int (Int32.ofNat Q)), .val (.int (p3 &&& (3 : Int32))), .val (.int (Int32.ofNat R_)), .val (.int (Int32.ofNat Xq)), .val (.ref b71), .val (.int (0 : Int32)), .val (.int (1 : Int32))] [(.int (Int32.ofNat Xq)), (.ref b71)])) rfl (by rw [hml]; rfl) (Steps.refl _) (argsL := [(.int (Int32.ofNat Xq))]) (rest := []) (lenOf pd_0 rfl) rfl (by show 2 * 0 + _ ≤ _; exact Nat.le_of_eq rfl) (hb hby at_164) (fun _ _ => ⟨rfl, rfl, (by decide : 0 + 1 + 4 + 0 + 0 + 0 + 0 ≤ _), (by decide : 0 + 1 + 134 + 0 + 0 + 0 + 0 ≤ _)⟩)
          dsimp only [Pt.U, Pt.locs, Pt.cells, Pt.slots] at X84 l84 y84 z84 st84 hQ84
          subst l84 y84 z84
          obtain ⟨rfl, Nq84, eh84⟩ := hQ84
          have N84 := Fr.app N75 Nq84
          refine Go.call st84 ?_
          show Go p e below T84 (mkF m 167 #[.val (.int p0), .val (.int p1), .val (.int p2), .val (.int p3), .val (.int p4), .val (.int (Int32.ofNat N)), .val (.int (Int32.ofNat P)), .val (.int sp), .val (.int (Int32.ofNat Q)), .val (.int (p3 &&& (3 : Int32))), .val (.int (Int32.ofNat R_)), .val (.int (Int32.ofNat Xq)), .val (.ref b71), .val (.int (0 : Int32)), .val (.int (1 : Int32))] [(.int (own_ref2 (0 : Int32) (Int32.ofNat P) (1 : Int32) (Int32.ofNat Q) (Int32.ofNat Xq)))]) _
          refine Go.step (fun _ => XS.iload X84.here hx rfl (hb hby at_167) rfl ) ?_
          show Go p e below T84 (mkF m 169 #[.val (.int p0), .val (.int p1), .val (.int p2), .val (.int p3), .val (.int p4), .val (.int (Int32.ofNat N)), .val (.int (Int32.ofNat P)), .val (.int sp), .val (.int (Int32.ofNat Q)), .val (.int (p3 &&& (3 : Int32))), .val (.int (Int32.ofNat R_)), .val (.int (Int32.ofNat Xq)), .val (.ref b71), .val (.int (0 : Int32)), .val (.int (1 : Int32))] [(.int (0 : Int32)), (.int (own_ref2 (0 : Int32) (Int32.ofNat P) (1 : Int32) (Int32.ofNat Q) (Int32.ofNat Xq)))]) _
          refine Go.step (fun _ => XS.iload X84.here hx rfl (hb hby at_169) rfl ) ?_
          show Go p e below T84 (mkF m 171 #[.val (.int p0), .val (.int p1), .val (.int p2), .val (.int p3), .val (.int p4), .val (.int (Int32.ofNat N)), .val (.int (Int32.ofNat P)), .val (.int sp), .val (.int (Int32.ofNat Q)), .val (.int (p3 &&& (3 : Int32))), .val (.int (Int32.ofNat R_)), .val (.int (Int32.ofNat Xq)), .val (.ref b71), .val (.int (0 : Int32)), .val (.int (1 : Int32))] [(.int (Int32.ofNat P)), (.int (0 : Int32)), (.int (own_ref2 (0 : Int32) (Int32.ofNat P) (1 : Int32) (Int32.ofNat Q) (Int32.ofNat Xq)))]) _
          refine Go.step (fun _ => XS.iload X84.here hx rfl (hb hby at_171) rfl ) ?_
          show Go p e below T84 (mkF m 173 #[.val (.int p0), .val (.int p1), .val (.int p2), .val (.int p3), .val (.int p4), .val (.int (Int32.ofNat N)), .val (.int (Int32.ofNat P)), .val (.int sp), .val (.int (Int32.ofNat Q)), .val (.int (p3 &&& (3 : Int32))), .val (.int (Int32.ofNat R_)), .val (.int (Int32.ofNat Xq)), .val (.ref b71), .val (.int (0 : Int32)), .val (.int (1 : Int32))] [(.int (1 : Int32)), (.int (Int32.ofNat P)), (.int (0 : Int32)), (.int (own_ref2 (0 : Int32) (Int32.ofNat P) (1 : Int32) (Int32.ofNat Q) (Int32.ofNat Xq)))]) _
          refine Go.step (fun _ => XS.iload X84.here hx rfl (hb hby at_173) rfl ) ?_
          show Go p e below T84 (mkF m 175 #[.val (.int p0), .val (.int p1), .val (.int p2), .val (.int p3), .val (.int p4), .val (.int (Int32.ofNat N)), .val (.int (Int32.ofNat P)), .val (.int sp), .val (.int (Int32.ofNat Q)), .val (.int (p3 &&& (3 : Int32))), .val (.int (Int32.ofNat R_)), .val (.int (Int32.ofNat Xq)), .val (.ref b71), .val (.int (0 : Int32)), .val (.int (1 : Int32))] [(.int (Int32.ofNat Q)), (.int (1 : Int32)), (.int (Int32.ofNat P)), (.int (0 : Int32)), (.int (own_ref2 (0 : Int32) (Int32.ofNat P) (1 : Int32) (Int32.ofNat Q) (Int32.ofNat Xq)))]) _
          refine Go.step (fun _ => XS.iload X84.here hx rfl (hb hby at_175) rfl ) ?_
          show Go p e below T84 (mkF m 177 #[.val (.int p0), .val (.int p1), .val (.int p2), .val (.int p3), .val (.int p4), .val (.int (Int32.ofNat N)), .val (.int (Int32.ofNat P)), .val (.int sp), .val (.int (Int32.ofNat Q)), .val (.int (p3 &&& (3 : Int32))), .val (.int (Int32.ofNat R_)), .val (.int (Int32.ofNat Xq)), .val (.ref b71), .val (.int (0 : Int32)), .val (.int (1 : Int32))] [(.int (Int32.ofNat Xq)), (.int (Int32.ofNat Q)), (.int (1 : Int32)), (.int (Int32.ofNat P)), (.int (0 : Int32)), (.int (own_ref2 (0 : Int32) (Int32.ofNat P) (1 : Int32) (Int32.ofNat Q) (Int32.ofNat Xq)))]) _
          obtain ⟨_, _, ⟨T85, L85, k85, n85⟩, -, X85, ⟨Lc85, hQ85, l85, y85, z85⟩, st85⟩ := Jvm.LawKit.callS X84 hx (y := (⟨"com/example/maxhue/maxhue/PointSetRemovePinLaw", "ref", "(ZIZII)I"⟩ : MethodName)) hown (mvT hZ (hw _ (List.mem_of_getElem? (i := 37) rfl))) (mvT hZ (hw _ (List.mem_of_getElem? (i := 38) rfl))) (mvT hZ (hw _ (List.mem_of_getElem? (i := 39) rfl))) (mvT hZ (hw _ (List.mem_of_getElem? (i := 40) rfl))) (by decide) (backOf (W := 1) (rmRef l Z a0 hw [] (0 : Int32) (Int32.ofNat P) (1 : Int32) (Int32.ofNat Q) (Int32.ofNat Xq) T75.heap n0 Zs75) hZ (hw _ (List.mem_of_getElem? (i := 40) rfl)) (hw _ (List.mem_of_getElem? (i := 39) rfl)) (by decide) (by decide)) (g := (mkF m 177 #[.val (.int p0), .val (.int p1), .val (.int p2), .val (.int p3), .val (.int p4), .val (.int (Int32.ofNat N)), .val (.int (Int32.ofNat P)), .val (.int sp), .val (.int (Int32.ofNat Q)), .val (.int (p3 &&& (3 : Int32))), .val (.int (Int32.ofNat R_)), .val (.int (Int32.ofNat Xq)), .val (.ref b71), .val (.int (0 : Int32)), .val (.int (1 : Int32))] [(.int (Int32.ofNat Xq)), (.int (Int32.ofNat Q)), (.int (1 : Int32)), (.int (Int32.ofNat P)), (.int (0 : Int32)), (.int (own_ref2 (0 : Int32) (Int32.ofNat P) (1 : Int32) (Int32.ofNat Q) (Int32.ofNat Xq)))])) rfl (by rw [hml]; rfl) (argsL := [(.int (0 : Int32)), (.int (Int32.ofNat P)), (.int (1 : Int32)), (.int (Int32.ofNat Q)), (.int (Int32.ofNat Xq))]) (rest := [(.int (own_ref2 (0 : Int32) (Int32.ofNat P) (1 : Int32) (Int32.ofNat Q) (Int32.ofNat Xq)))]) (lenOf pd_4 rfl) rfl (by show 2 * 0 + _ ≤ _; exact Nat.le_of_eq rfl) (hb hby at_177) (fun _ _ => ⟨rfl, eh84, (by decide : 0 + 1 + 4 + 0 + 0 + 0 + 0 + 0 ≤ _), (by decide : 0 + 1 + 134 + 0 + 0 + 0 + 0 + 0 ≤ _)⟩)
          dsimp only [Pt.U, Pt.locs, Pt.cells, Pt.slots] at X85 l85 y85 z85 st85 hQ85
          subst l85 y85 z85
          obtain ⟨rfl, Nq85, ei85⟩ := hQ85
          have N85 := Fr.app N84 Nq85
          refine Go.step st85 ?_
          show Go p e below T85 (mkF m 180 #[.val (.int p0), .val (.int p1), .val (.int p2), .val (.int p3), .val (.int p4), .val (.int (Int32.ofNat N)), .val (.int (Int32.ofNat P)), .val (.int sp), .val (.int (Int32.ofNat Q)), .val (.int (p3 &&& (3 : Int32))), .val (.int (Int32.ofNat R_)), .val (.int (Int32.ofNat Xq)), .val (.ref b71), .val (.int (0 : Int32)), .val (.int (1 : Int32))] [(.int (own_ref2 (0 : Int32) (Int32.ofNat P) (1 : Int32) (Int32.ofNat Q) (Int32.ofNat Xq))), (.int (own_ref2 (0 : Int32) (Int32.ofNat P) (1 : Int32) (Int32.ofNat Q) (Int32.ofNat Xq)))]) _
          refine Go.step (fun _ => XS.icmpNo X85.here hx rfl (hb hby at_180) rfl (teq rfl).2) ?_
          show Go p e below T85 (mkF m 183 #[.val (.int p0), .val (.int p1), .val (.int p2), .val (.int p3), .val (.int p4), .val (.int (Int32.ofNat N)), .val (.int (Int32.ofNat P)), .val (.int sp), .val (.int (Int32.ofNat Q)), .val (.int (p3 &&& (3 : Int32))), .val (.int (Int32.ofNat R_)), .val (.int (Int32.ofNat Xq)), .val (.ref b71), .val (.int (0 : Int32)), .val (.int (1 : Int32))] []) _
          refine Go.step (fun _ => XS.aload X85.here hx rfl (hb hby at_183) rfl rfl ) ?_
          show Go p e below T85 (mkF m 185 #[.val (.int p0), .val (.int p1), .val (.int p2), .val (.int p3), .val (.int p4), .val (.int (Int32.ofNat N)), .val (.int (Int32.ofNat P)), .val (.int sp), .val (.int (Int32.ofNat Q)), .val (.int (p3 &&& (3 : Int32))), .val (.int (Int32.ofNat R_)), .val (.int (Int32.ofNat Xq)), .val (.ref b71), .val (.int (0 : Int32)), .val (.int (1 : Int32))] [(.ref b71)]) _
          refine Go.step (fun _ => XS.iload X85.here hx rfl (hb hby at_185) rfl ) ?_
          show Go p e below T85 (mkF m 187 #[.val (.int p0), .val (.int p1), .val (.int p2), .val (.int p3), .val (.int p4), .val (.int (Int32.ofNat N)), .val (.int (Int32.ofNat P)), .val (.int sp), .val (.int (Int32.ofNat Q)), .val (.int (p3 &&& (3 : Int32))), .val (.int (Int32.ofNat R_)), .val (.int (Int32.ofNat Xq)), .val (.ref b71), .val (.int (0 : Int32)), .val (.int (1 : Int32))] [(.int (Int32.ofNat N)), (.ref b71)]) _
          obtain ⟨cq86, kq86, q86a, q86b, q86c⟩ := isOf hZ ei85 Tr75.1
          obtain ⟨_, _, ⟨T86, L86, k86, n86⟩, -, X86, ⟨Lc86, hQ86, l86, y86, z86⟩, st86⟩ := X85.virtualBack hx (y := (⟨"com/example/maxhue/maxhue/PointSet", "lastBelow", "(I)I"⟩ : MethodName)) (z := (⟨"com/example/maxhue/maxhue/PointSet", "lastBelow", "(I)I"⟩ : MethodName)) hown (mvT hZ (hw _ (List.mem_of_getElem? (i := 32) rfl))) (mvT hZ (hw _ (List.mem_of_getElem? (i := 33) rfl))) (notFace_of_selects (args := #[]) (mvT hZ (hw _ (List.mem_of_getElem? (i := 35) rfl)))) (mvT hZ (hw _ (List.mem_of_getElem? (i := 35) rfl))) (mvT hZ (hw _ (List.mem_of_getElem? (i := 34) rfl))) (by decide) (backOf (W := 0) (rmLast l Z a0 hw [] b71 A72 M72 lv72 (szN N) f75 (fun q => (fun q => (fun q => (fun _ => False) q ∨ q = P) q ∨ q = Q) q ∧ q ≠ R_) N N (own_ref2 (0 : Int32) (Int32.ofNat P) (1 : Int32) (Int32.ofNat Q) (Int32.ofNat N)) T75.heap n0 Zs75 Tr75 R75 (by omega) hszb (by omega) hN1 hM1 (by omega) hSN (fun q z => own_pt z _) (fun k hk P z => htop P (by rw [show M72 - 1 = k from by omega]; exact z)) (own_best2 (by omega) (by omega) (by omega) ⟨fun z => absurd rfl z, fun z => absurd ((own_inj (by omega) (by omega)).mp hc136) z⟩ ⟨fun _ z => hc150 ((own_inj (by omega) (by omega)).mpr z), fun _ => by decide⟩)) hZ (hw _ (List.mem_of_getElem? (i := 36) rfl)) (hw _ (List.mem_of_getElem? (i := 4) rfl)) (by decide) (by decide)) q86a q86c (g := (mkF m 187 #[.val (.int p0), .val (.int p1), .val (.int p2), .val (.int p3), .val (.int p4), .val (.int (Int32.ofNat N)), .val (.int (Int32.ofNat P)), .val (.int sp), .val (.int (Int32.ofNat Q)), .val (.int (p3 &&& (3 : Int32))), .val (.int (Int32.ofNat R_)), .val (.int (Int32.ofNat Xq)), .val (.ref b71), .val (.int (0 : Int32)), .val (.int (1 : Int32))] [(.int (Int32.ofNat N)), (.ref b71)])) rfl (by rw [hml]; rfl) (Steps.refl _) (argsL := [(.int (Int32.ofNat N))]) (rest := []) (lenOf pd_0 rfl) rfl (by show 2 * 0 + _ ≤ _; exact Nat.le_of_eq rfl) (hb hby at_187) (fun _ _ => ⟨rfl, ei85, (by decide : 0 + 1 + 4 + 0 + 0 + 0 + 0 + 0 + 0 ≤ _), (by decide : 0 + 1 + 134 + 0 + 0 + 0 + 0 + 0 + 0 ≤ _)⟩)
          dsimp only [Pt.U, Pt.locs, Pt.cells, Pt.slots] at X86 l86 y86 z86 st86 hQ86
          subst l86 y86 z86
          obtain ⟨rfl, Nq86, eh86⟩ := hQ86
          have N86 := Fr.app N85 Nq86
          refine Go.call st86 ?_
          show Go p e below T86 (mkF m 190 #[.val (.int p0), .val (.int p1), .val (.int p2), .val (.int p3), .val (.int p4), .val (.int (Int32.ofNat N)), .val (.int (Int32.ofNat P)), .val (.int sp), .val (.int (Int32.ofNat Q)), .val (.int (p3 &&& (3 : Int32))), .val (.int (Int32.ofNat R_)), .val (.int (Int32.ofNat Xq)), .val (.ref b71), .val (.int (0 : Int32)), .val (.int (1 : Int32))] [(.int (own_ref2 (0 : Int32) (Int32.ofNat P) (1 : Int32) (Int32.ofNat Q) (Int32.ofNat N)))]) _
          refine Go.step (fun _ => XS.iload X86.here hx rfl (hb hby at_190) rfl ) ?_
          show Go p e below T86 (mkF m 192 #[.val (.int p0), .val (.int p1), .val (.int p2), .val (.int p3), .val (.int p4), .val (.int (Int32.ofNat N)), .val (.int (Int32.ofNat P)), .val (.int sp), .val (.int (Int32.ofNat Q)), .val (.int (p3 &&& (3 : Int32))), .val (.int (Int32.ofNat R_)), .val (.int (Int32.ofNat Xq)), .val (.ref b71), .val (.int (0 : Int32)), .val (.int (1 : Int32))] [(.int (0 : Int32)), (.int (own_ref2 (0 : Int32) (Int32.ofNat P) (1 : Int32) (Int32.ofNat Q) (Int32.ofNat N)))]) _
          refine Go.step (fun _ => XS.iload X86.here hx rfl (hb hby at_192) rfl ) ?_
          show Go p e below T86 (mkF m 194 #[.val (.int p0), .val (.int p1), .val (.int p2), .val (.int p3), .val (.int p4), .val (.int (Int32.ofNat N)), .val (.int (Int32.ofNat P)), .val (.int sp), .val (.int (Int32.ofNat Q)), .val (.int (p3 &&& (3 : Int32))), .val (.int (Int32.ofNat R_)), .val (.int (Int32.ofNat Xq)), .val (.ref b71), .val (.int (0 : Int32)), .val (.int (1 : Int32))] [(.int (Int32.ofNat P)), (.int (0 : Int32)), (.int (own_ref2 (0 : Int32) (Int32.ofNat P) (1 : Int32) (Int32.ofNat Q) (Int32.ofNat N)))]) _
          refine Go.step (fun _ => XS.iload X86.here hx rfl (hb hby at_194) rfl ) ?_
          show Go p e below T86 (mkF m 196 #[.val (.int p0), .val (.int p1), .val (.int p2), .val (.int p3), .val (.int p4), .val (.int (Int32.ofNat N)), .val (.int (Int32.ofNat P)), .val (.int sp), .val (.int (Int32.ofNat Q)), .val (.int (p3 &&& (3 : Int32))), .val (.int (Int32.ofNat R_)), .val (.int (Int32.ofNat Xq)), .val (.ref b71), .val (.int (0 : Int32)), .val (.int (1 : Int32))] [(.int (1 : Int32)), (.int (Int32.ofNat P)), (.int (0 : Int32)), (.int (own_ref2 (0 : Int32) (Int32.ofNat P) (1 : Int32) (Int32.ofNat Q) (Int32.ofNat N)))]) _
          refine Go.step (fun _ => XS.iload X86.here hx rfl (hb hby at_196) rfl ) ?_
          show Go p e below T86 (mkF m 198 #[.val (.int p0), .val (.int p1), .val (.int p2), .val (.int p3), .val (.int p4), .val (.int (Int32.ofNat N)), .val (.int (Int32.ofNat P)), .val (.int sp), .val (.int (Int32.ofNat Q)), .val (.int (p3 &&& (3 : Int32))), .val (.int (Int32.ofNat R_)), .val (.int (Int32.ofNat Xq)), .val (.ref b71), .val (.int (0 : Int32)), .val (.int (1 : Int32))] [(.int (Int32.ofNat Q)), (.int (1 : Int32)), (.int (Int32.ofNat P)), (.int (0 : Int32)), (.int (own_ref2 (0 : Int32) (Int32.ofNat P) (1 : Int32) (Int32.ofNat Q) (Int32.ofNat N)))]) _
          refine Go.step (fun _ => XS.iload X86.here hx rfl (hb hby at_198) rfl ) ?_
          show Go p e below T86 (mkF m 200 #[.val (.int p0), .val (.int p1), .val (.int p2), .val (.int p3), .val (.int p4), .val (.int (Int32.ofNat N)), .val (.int (Int32.ofNat P)), .val (.int sp), .val (.int (Int32.ofNat Q)), .val (.int (p3 &&& (3 : Int32))), .val (.int (Int32.ofNat R_)), .val (.int (Int32.ofNat Xq)), .val (.ref b71), .val (.int (0 : Int32)), .val (.int (1 : Int32))] [(.int (Int32.ofNat N)), (.int (Int32.ofNat Q)), (.int (1 : Int32)), (.int (Int32.ofNat P)), (.int (0 : Int32)), (.int (own_ref2 (0 : Int32) (Int32.ofNat P) (1 : Int32) (Int32.ofNat Q) (Int32.ofNat N)))]) _
          obtain ⟨_, _, ⟨T87, L87, k87, n87⟩, -, X87, ⟨Lc87, hQ87, l87, y87, z87⟩, st87⟩ := Jvm.LawKit.callS X86 hx (y := (⟨"com/example/maxhue/maxhue/PointSetRemovePinLaw", "ref", "(ZIZII)I"⟩ : MethodName)) hown (mvT hZ (hw _ (List.mem_of_getElem? (i := 37) rfl))) (mvT hZ (hw _ (List.mem_of_getElem? (i := 38) rfl))) (mvT hZ (hw _ (List.mem_of_getElem? (i := 39) rfl))) (mvT hZ (hw _ (List.mem_of_getElem? (i := 40) rfl))) (by decide) (backOf (W := 1) (rmRef l Z a0 hw [] (0 : Int32) (Int32.ofNat P) (1 : Int32) (Int32.ofNat Q) (Int32.ofNat N) T75.heap n0 Zs75) hZ (hw _ (List.mem_of_getElem? (i := 40) rfl)) (hw _ (List.mem_of_getElem? (i := 39) rfl)) (by decide) (by decide)) (g := (mkF m 200 #[.val (.int p0), .val (.int p1), .val (.int p2), .val (.int p3), .val (.int p4), .val (.int (Int32.ofNat N)), .val (.int (Int32.ofNat P)), .val (.int sp), .val (.int (Int32.ofNat Q)), .val (.int (p3 &&& (3 : Int32))), .val (.int (Int32.ofNat R_)), .val (.int (Int32.ofNat Xq)), .val (.ref b71), .val (.int (0 : Int32)), .val (.int (1 : Int32))] [(.int (Int32.ofNat N)), (.int (Int32.ofNat Q)), (.int (1 : Int32)), (.int (Int32.ofNat P)), (.int (0 : Int32)), (.int (own_ref2 (0 : Int32) (Int32.ofNat P) (1 : Int32) (Int32.ofNat Q) (Int32.ofNat N)))])) rfl (by rw [hml]; rfl) (argsL := [(.int (0 : Int32)), (.int (Int32.ofNat P)), (.int (1 : Int32)), (.int (Int32.ofNat Q)), (.int (Int32.ofNat N))]) (rest := [(.int (own_ref2 (0 : Int32) (Int32.ofNat P) (1 : Int32) (Int32.ofNat Q) (Int32.ofNat N)))]) (lenOf pd_4 rfl) rfl (by show 2 * 0 + _ ≤ _; exact Nat.le_of_eq rfl) (hb hby at_200) (fun _ _ => ⟨rfl, eh86, (by decide : 0 + 1 + 4 + 0 + 0 + 0 + 0 + 0 + 0 + 0 ≤ _), (by decide : 0 + 1 + 134 + 0 + 0 + 0 + 0 + 0 + 0 + 0 ≤ _)⟩)
          dsimp only [Pt.U, Pt.locs, Pt.cells, Pt.slots] at X87 l87 y87 z87 st87 hQ87
          subst l87 y87 z87
          obtain ⟨rfl, Nq87, ei87⟩ := hQ87
          have N87 := Fr.app N86 Nq87
          refine Go.step st87 ?_
          show Go p e below T87 (mkF m 203 #[.val (.int p0), .val (.int p1), .val (.int p2), .val (.int p3), .val (.int p4), .val (.int (Int32.ofNat N)), .val (.int (Int32.ofNat P)), .val (.int sp), .val (.int (Int32.ofNat Q)), .val (.int (p3 &&& (3 : Int32))), .val (.int (Int32.ofNat R_)), .val (.int (Int32.ofNat Xq)), .val (.ref b71), .val (.int (0 : Int32)), .val (.int (1 : Int32))] [(.int (own_ref2 (0 : Int32) (Int32.ofNat P) (1 : Int32) (Int32.ofNat Q) (Int32.ofNat N))), (.int (own_ref2 (0 : Int32) (Int32.ofNat P) (1 : Int32) (Int32.ofNat Q) (Int32.ofNat N)))]) _
          refine Go.step (fun _ => XS.icmpNo X87.here hx rfl (hb hby at_203) rfl (teq rfl).2) ?_
          show Go p e below T87 (mkF m 206 #[.val (.int p0), .val (.int p1), .val (.int p2), .val (.int p3), .val (.int p4), .val (.int (Int32.ofNat N)), .val (.int (Int32.ofNat P)), .val (.int sp), .val (.int (Int32.ofNat Q)), .val (.int (p3 &&& (3 : Int32))), .val (.int (Int32.ofNat R_)), .val (.int (Int32.ofNat Xq)), .val (.ref b71), .val (.int (0 : Int32)), .val (.int (1 : Int32))] []) _
          refine Go.step (fun _ => XS.aload X87.here hx rfl (hb hby at_206) rfl rfl ) ?_
          show Go p e below T87 (mkF m 208 #[.val (.int p0), .val (.int p1), .val (.int p2), .val (.int p3), .val (.int p4), .val (.int (Int32.ofNat N)), .val (.int (Int32.ofNat P)), .val (.int sp), .val (.int (Int32.ofNat Q)), .val (.int (p3 &&& (3 : Int32))), .val (.int (Int32.ofNat R_)), .val (.int (Int32.ofNat Xq)), .val (.ref b71), .val (.int (0 : Int32)), .val (.int (1 : Int32))] [(.ref b71)]) _
          refine Go.step (fun _ => XS.iload X87.here hx rfl (hb hby at_208) rfl ) ?_
          show Go p e below T87 (mkF m 210 #[.val (.int p0), .val (.int p1), .val (.int p2), .val (.int p3), .val (.int p4), .val (.int (Int32.ofNat N)), .val (.int (Int32.ofNat P)), .val (.int sp), .val (.int (Int32.ofNat Q)), .val (.int (p3 &&& (3 : Int32))), .val (.int (Int32.ofNat R_)), .val (.int (Int32.ofNat Xq)), .val (.ref b71), .val (.int (0 : Int32)), .val (.int (1 : Int32))] [(.int (Int32.ofNat P)), (.ref b71)]) _
          refine Go.step (fun _ => XS.iconst X87.here hx rfl (hb hby at_210)) ?_
          show Go p e below T87 (mkF m 211 #[.val (.int p0), .val (.int p1), .val (.int p2), .val (.int p3), .val (.int p4), .val (.int (Int32.ofNat N)), .val (.int (Int32.ofNat P)), .val (.int sp), .val (.int (Int32.ofNat Q)), .val (.int (p3 &&& (3 : Int32))), .val (.int (Int32.ofNat R_)), .val (.int (Int32.ofNat Xq)), .val (.ref b71), .val (.int (0 : Int32)), .val (.int (1 : Int32))] [(.int (1 : Int32)), (.int (Int32.ofNat P)), (.ref b71)]) _
          refine Go.step (fun _ => XS.iadd X87.here hx rfl (hb hby at_211) rfl) ?_
          show Go p e below T87 (mkF m 212 #[.val (.int p0), .val (.int p1), .val (.int p2), .val (.int p3), .val (.int p4), .val (.int (Int32.ofNat N)), .val (.int (Int32.ofNat P)), .val (.int sp), .val (.int (Int32.ofNat Q)), .val (.int (p3 &&& (3 : Int32))), .val (.int (Int32.ofNat R_)), .val (.int (Int32.ofNat Xq)), .val (.ref b71), .val (.int (0 : Int32)), .val (.int (1 : Int32))] [(.int ((Int32.ofNat P) + (1 : Int32))), (.ref b71)]) _
          rw [show Int32.ofNat P + (1 : Int32) = Int32.ofNat (P + 1) from own_add P 1]
          show Go p e below T87 (mkF m 212 #[.val (.int p0), .val (.int p1), .val (.int p2), .val (.int p3), .val (.int p4), .val (.int (Int32.ofNat N)), .val (.int (Int32.ofNat P)), .val (.int sp), .val (.int (Int32.ofNat Q)), .val (.int (p3 &&& (3 : Int32))), .val (.int (Int32.ofNat R_)), .val (.int (Int32.ofNat Xq)), .val (.ref b71), .val (.int (0 : Int32)), .val (.int (1 : Int32))] [(.int (Int32.ofNat (P + 1))), (.ref b71)]) _
          obtain ⟨cq88, kq88, q88a, q88b, q88c⟩ := isOf hZ ei87 Tr75.1
          obtain ⟨_, _, ⟨T88, L88, k88, n88⟩, -, X88, ⟨Lc88, hQ88, l88, y88, z88⟩, st88⟩ := X87.virtualBack hx (y := (⟨"com/example/maxhue/maxhue/PointSet", "lastBelow", "(I)I"⟩ : MethodName)) (z := (⟨"com/example/maxhue/maxhue/PointSet", "lastBelow", "(I)I"⟩ : MethodName)) hown (mvT hZ (hw _ (List.mem_of_getElem? (i := 32) rfl))) (mvT hZ (hw _ (List.mem_of_getElem? (i := 33) rfl))) (notFace_of_selects (args := #[]) (mvT hZ (hw _ (List.mem_of_getElem? (i := 35) rfl)))) (mvT hZ (hw _ (List.mem_of_getElem? (i := 35) rfl))) (mvT hZ (hw _ (List.mem_of_getElem? (i := 34) rfl))) (by decide) (backOf (W := 0) (rmLast l Z a0 hw [] b71 A72 M72 lv72 (szN N) f75 (fun q => (fun q => (fun q => (fun _ => False) q ∨ q = P) q ∨ q = Q) q ∧ q ≠ R_) N (P + 1) (own_ref2 (0 : Int32) (Int32.ofNat P) (1 : Int32) (Int32.ofNat Q) (Int32.ofNat (P + 1))) T75.heap n0 Zs75 Tr75 R75 (by omega) hszb (by omega) hN1 hM1 (by omega) hSN (fun q z => own_pt z _) (fun k hk P z => htop P (by rw [show M72 - 1 = k from by omega]; exact z)) (own_best2 (by omega) (by omega) (by omega) ⟨fun z => absurd rfl z, fun z => absurd ((own_inj (by omega) (by omega)).mp hc136) z⟩ ⟨fun _ z => hc150 ((own_inj (by omega) (by omega)).mpr z), fun _ => by decide⟩)) hZ (hw _ (List.mem_of_getElem? (i := 36) rfl)) (hw _ (List.mem_of_getElem? (i := 4) rfl)) (by decide) (by decide)) q88a q88c (g := (mkF m 212 #[.val (.int p0), .val (.int p1), .val (.int p2), .val (.int p3), .val (.int p4), .val (.int (Int32.ofNat N)), .val (.int (Int32.ofNat P)), .val (.int sp), .val (.int (Int32.ofNat Q)), .val (.int (p3 &&& (3 : Int32))), .val (.int (Int32.ofNat R_)), .val (.int (Int32.ofNat Xq)), .val (.ref b71), .val (.int (0 : Int32)), .val (.int (1 : Int32))] [(.int (Int32.ofNat (P + 1))), (.ref b71)])) rfl (by rw [hml]; rfl) (Steps.refl _) (argsL := [(.int (Int32.ofNat (P + 1)))]) (rest := []) (lenOf pd_0 rfl) rfl (by show 2 * 0 + _ ≤ _; exact Nat.le_of_eq rfl) (hb hby at_212) (fun _ _ => ⟨rfl, ei87, (by decide : 0 + 1 + 4 + 0 + 0 + 0 + 0 + 0 + 0 + 0 + 0 ≤ _), (by decide : 0 + 1 + 134 + 0 + 0 + 0 + 0 + 0 + 0 + 0 + 0 ≤ _)⟩)
          dsimp only [Pt.U, Pt.locs, Pt.cells, Pt.slots] at X88 l88 y88 z88 st88 hQ88
          subst l88 y88 z88
          obtain ⟨rfl, Nq88, eh88⟩ := hQ88
          have N88 := Fr.app N87 Nq88
          refine Go.call st88 ?_
          show Go p e below T88 (mkF m 215 #[.val (.int p0), .val (.int p1), .val (.int p2), .val (.int p3), .val (.int p4), .val (.int (Int32.ofNat N)), .val (.int (Int32.ofNat P)), .val (.int sp), .val (.int (Int32.ofNat Q)), .val (.int (p3 &&& (3 : Int32))), .val (.int (Int32.ofNat R_)), .val (.int (Int32.ofNat Xq)), .val (.ref b71), .val (.int (0 : Int32)), .val (.int (1 : Int32))] [(.int (own_ref2 (0 : Int32) (Int32.ofNat P) (1 : Int32) (Int32.ofNat Q) (Int32.ofNat (P + 1))))]) _
          refine Go.step (fun _ => XS.iload X88.here hx rfl (hb hby at_215) rfl ) ?_
          show Go p e below T88 (mkF m 217 #[.val (.int p0), .val (.int p1), .val (.int p2), .val (.int p3), .val (.int p4), .val (.int (Int32.ofNat N)), .val (.int (Int32.ofNat P)), .val (.int sp), .val (.int (Int32.ofNat Q)), .val (.int (p3 &&& (3 : Int32))), .val (.int (Int32.ofNat R_)), .val (.int (Int32.ofNat Xq)), .val (.ref b71), .val (.int (0 : Int32)), .val (.int (1 : Int32))] [(.int (0 : Int32)), (.int (own_ref2 (0 : Int32) (Int32.ofNat P) (1 : Int32) (Int32.ofNat Q) (Int32.ofNat (P + 1))))]) _
          refine Go.step (fun _ => XS.iload X88.here hx rfl (hb hby at_217) rfl ) ?_
          show Go p e below T88 (mkF m 219 #[.val (.int p0), .val (.int p1), .val (.int p2), .val (.int p3), .val (.int p4), .val (.int (Int32.ofNat N)), .val (.int (Int32.ofNat P)), .val (.int sp), .val (.int (Int32.ofNat Q)), .val (.int (p3 &&& (3 : Int32))), .val (.int (Int32.ofNat R_)), .val (.int (Int32.ofNat Xq)), .val (.ref b71), .val (.int (0 : Int32)), .val (.int (1 : Int32))] [(.int (Int32.ofNat P)), (.int (0 : Int32)), (.int (own_ref2 (0 : Int32) (Int32.ofNat P) (1 : Int32) (Int32.ofNat Q) (Int32.ofNat (P + 1))))]) _
          refine Go.step (fun _ => XS.iload X88.here hx rfl (hb hby at_219) rfl ) ?_
          show Go p e below T88 (mkF m 221 #[.val (.int p0), .val (.int p1), .val (.int p2), .val (.int p3), .val (.int p4), .val (.int (Int32.ofNat N)), .val (.int (Int32.ofNat P)), .val (.int sp), .val (.int (Int32.ofNat Q)), .val (.int (p3 &&& (3 : Int32))), .val (.int (Int32.ofNat R_)), .val (.int (Int32.ofNat Xq)), .val (.ref b71), .val (.int (0 : Int32)), .val (.int (1 : Int32))] [(.int (1 : Int32)), (.int (Int32.ofNat P)), (.int (0 : Int32)), (.int (own_ref2 (0 : Int32) (Int32.ofNat P) (1 : Int32) (Int32.ofNat Q) (Int32.ofNat (P + 1))))]) _
          refine Go.step (fun _ => XS.iload X88.here hx rfl (hb hby at_221) rfl ) ?_
          show Go p e below T88 (mkF m 223 #[.val (.int p0), .val (.int p1), .val (.int p2), .val (.int p3), .val (.int p4), .val (.int (Int32.ofNat N)), .val (.int (Int32.ofNat P)), .val (.int sp), .val (.int (Int32.ofNat Q)), .val (.int (p3 &&& (3 : Int32))), .val (.int (Int32.ofNat R_)), .val (.int (Int32.ofNat Xq)), .val (.ref b71), .val (.int (0 : Int32)), .val (.int (1 : Int32))] [(.int (Int32.ofNat Q)), (.int (1 : Int32)), (.int (Int32.ofNat P)), (.int (0 : Int32)), (.int (own_ref2 (0 : Int32) (Int32.ofNat P) (1 : Int32) (Int32.ofNat Q) (Int32.ofNat (P + 1))))]) _
          refine Go.step (fun _ => XS.iload X88.here hx rfl (hb hby at_223) rfl ) ?_
          show Go p e below T88 (mkF m 225 #[.val (.int p0), .val (.int p1), .val (.int p2), .val (.int p3), .val (.int p4), .val (.int (Int32.ofNat N)), .val (.int (Int32.ofNat P)), .val (.int sp), .val (.int (Int32.ofNat Q)), .val (.int (p3 &&& (3 : Int32))), .val (.int (Int32.ofNat R_)), .val (.int (Int32.ofNat Xq)), .val (.ref b71), .val (.int (0 : Int32)), .val (.int (1 : Int32))] [(.int (Int32.ofNat P)), (.int (Int32.ofNat Q)), (.int (1 : Int32)), (.int (Int32.ofNat P)), (.int (0 : Int32)), (.int (own_ref2 (0 : Int32) (Int32.ofNat P) (1 : Int32) (Int32.ofNat Q) (Int32.ofNat (P + 1))))]) _
          refine Go.step (fun _ => XS.iconst X88.here hx rfl (hb hby at_225)) ?_
          show Go p e below T88 (mkF m 226 #[.val (.int p0), .val (.int p1), .val (.int p2), .val (.int p3), .val (.int p4), .val (.int (Int32.ofNat N)), .val (.int (Int32.ofNat P)), .val (.int sp), .val (.int (Int32.ofNat Q)), .val (.int (p3 &&& (3 : Int32))), .val (.int (Int32.ofNat R_)), .val (.int (Int32.ofNat Xq)), .val (.ref b71), .val (.int (0 : Int32)), .val (.int (1 : Int32))] [(.int (1 : Int32)), (.int (Int32.ofNat P)), (.int (Int32.ofNat Q)), (.int (1 : Int32)), (.int (Int32.ofNat P)), (.int (0 : Int32)), (.int (own_ref2 (0 : Int32) (Int32.ofNat P) (1 : Int32) (Int32.ofNat Q) (Int32.ofNat (P + 1))))]) _
          refine Go.step (fun _ => XS.iadd X88.here hx rfl (hb hby at_226) rfl) ?_
          show Go p e below T88 (mkF m 227 #[.val (.int p0), .val (.int p1), .val (.int p2), .val (.int p3), .val (.int p4), .val (.int (Int32.ofNat N)), .val (.int (Int32.ofNat P)), .val (.int sp), .val (.int (Int32.ofNat Q)), .val (.int (p3 &&& (3 : Int32))), .val (.int (Int32.ofNat R_)), .val (.int (Int32.ofNat Xq)), .val (.ref b71), .val (.int (0 : Int32)), .val (.int (1 : Int32))] [(.int ((Int32.ofNat P) + (1 : Int32))), (.int (Int32.ofNat Q)), (.int (1 : Int32)), (.int (Int32.ofNat P)), (.int (0 : Int32)), (.int (own_ref2 (0 : Int32) (Int32.ofNat P) (1 : Int32) (Int32.ofNat Q) (Int32.ofNat (P + 1))))]) _
          rw [show Int32.ofNat P + (1 : Int32) = Int32.ofNat (P + 1) from own_add P 1]
          show Go p e below T88 (mkF m 227 #[.val (.int p0), .val (.int p1), .val (.int p2), .val (.int p3), .val (.int p4), .val (.int (Int32.ofNat N)), .val (.int (Int32.ofNat P)), .val (.int sp), .val (.int (Int32.ofNat Q)), .val (.int (p3 &&& (3 : Int32))), .val (.int (Int32.ofNat R_)), .val (.int (Int32.ofNat Xq)), .val (.ref b71), .val (.int (0 : Int32)), .val (.int (1 : Int32))] [(.int (Int32.ofNat (P + 1))), (.int (Int32.ofNat Q)), (.int (1 : Int32)), (.int (Int32.ofNat P)), (.int (0 : Int32)), (.int (own_ref2 (0 : Int32) (Int32.ofNat P) (1 : Int32) (Int32.ofNat Q) (Int32.ofNat (P + 1))))]) _
          obtain ⟨_, _, ⟨T89, L89, k89, n89⟩, -, X89, ⟨Lc89, hQ89, l89, y89, z89⟩, st89⟩ := Jvm.LawKit.callS X88 hx (y := (⟨"com/example/maxhue/maxhue/PointSetRemovePinLaw", "ref", "(ZIZII)I"⟩ : MethodName)) hown (mvT hZ (hw _ (List.mem_of_getElem? (i := 37) rfl))) (mvT hZ (hw _ (List.mem_of_getElem? (i := 38) rfl))) (mvT hZ (hw _ (List.mem_of_getElem? (i := 39) rfl))) (mvT hZ (hw _ (List.mem_of_getElem? (i := 40) rfl))) (by decide) (backOf (W := 1) (rmRef l Z a0 hw [] (0 : Int32) (Int32.ofNat P) (1 : Int32) (Int32.ofNat Q) (Int32.ofNat (P + 1)) T75.heap n0 Zs75) hZ (hw _ (List.mem_of_getElem? (i := 40) rfl)) (hw _ (List.mem_of_getElem? (i := 39) rfl)) (by decide) (by decide)) (g := (mkF m 227 #[.val (.int p0), .val (.int p1), .val (.int p2), .val (.int p3), .val (.int p4), .val (.int (Int32.ofNat N)), .val (.int (Int32.ofNat P)), .val (.int sp), .val (.int (Int32.ofNat Q)), .val (.int (p3 &&& (3 : Int32))), .val (.int (Int32.ofNat R_)), .val (.int (Int32.ofNat Xq)), .val (.ref b71), .val (.int (0 : Int32)), .val (.int (1 : Int32))] [(.int (Int32.ofNat (P + 1))), (.int (Int32.ofNat Q)), (.int (1 : Int32)), (.int (Int32.ofNat P)), (.int (0 : Int32)), (.int (own_ref2 (0 : Int32) (Int32.ofNat P) (1 : Int32) (Int32.ofNat Q) (Int32.ofNat (P + 1))))])) rfl (by rw [hml]; rfl) (argsL := [(.int (0 : Int32)), (.int (Int32.ofNat P)), (.int (1 : Int32)), (.int (Int32.ofNat Q)), (.int (Int32.ofNat (P + 1)))]) (rest := [(.int (own_ref2 (0 : Int32) (Int32.ofNat P) (1 : Int32) (Int32.ofNat Q) (Int32.ofNat (P + 1))))]) (lenOf pd_4 rfl) rfl (by show 2 * 0 + _ ≤ _; exact Nat.le_of_eq rfl) (hb hby at_227) (fun _ _ => ⟨rfl, eh88, (by decide : 0 + 1 + 4 + 0 + 0 + 0 + 0 + 0 + 0 + 0 + 0 + 0 ≤ _), (by decide : 0 + 1 + 134 + 0 + 0 + 0 + 0 + 0 + 0 + 0 + 0 + 0 ≤ _)⟩)
          dsimp only [Pt.U, Pt.locs, Pt.cells, Pt.slots] at X89 l89 y89 z89 st89 hQ89
          subst l89 y89 z89
          obtain ⟨rfl, Nq89, ei89⟩ := hQ89
          have N89 := Fr.app N88 Nq89
          refine Go.step st89 ?_
          show Go p e below T89 (mkF m 230 #[.val (.int p0), .val (.int p1), .val (.int p2), .val (.int p3), .val (.int p4), .val (.int (Int32.ofNat N)), .val (.int (Int32.ofNat P)), .val (.int sp), .val (.int (Int32.ofNat Q)), .val (.int (p3 &&& (3 : Int32))), .val (.int (Int32.ofNat R_)), .val (.int (Int32.ofNat Xq)), .val (.ref b71), .val (.int (0 : Int32)), .val (.int (1 : Int32))] [(.int (own_ref2 (0 : Int32) (Int32.ofNat P) (1 : Int32) (Int32.ofNat Q) (Int32.ofNat (P + 1)))), (.int (own_ref2 (0 : Int32) (Int32.ofNat P) (1 : Int32) (Int32.ofNat Q) (Int32.ofNat (P + 1))))]) _
          refine Go.step (fun _ => XS.icmpNo X89.here hx rfl (hb hby at_230) rfl (teq rfl).2) ?_
          show Go p e below T89 (mkF m 233 #[.val (.int p0), .val (.int p1), .val (.int p2), .val (.int p3), .val (.int p4), .val (.int (Int32.ofNat N)), .val (.int (Int32.ofNat P)), .val (.int sp), .val (.int (Int32.ofNat Q)), .val (.int (p3 &&& (3 : Int32))), .val (.int (Int32.ofNat R_)), .val (.int (Int32.ofNat Xq)), .val (.ref b71), .val (.int (0 : Int32)), .val (.int (1 : Int32))] []) _
          refine Go.step (fun _ => XS.aload X89.here hx rfl (hb hby at_233) rfl rfl ) ?_
          show Go p e below T89 (mkF m 235 #[.val (.int p0), .val (.int p1), .val (.int p2), .val (.int p3), .val (.int p4), .val (.int (Int32.ofNat N)), .val (.int (Int32.ofNat P)), .val (.int sp), .val (.int (Int32.ofNat Q)), .val (.int (p3 &&& (3 : Int32))), .val (.int (Int32.ofNat R_)), .val (.int (Int32.ofNat Xq)), .val (.ref b71), .val (.int (0 : Int32)), .val (.int (1 : Int32))] [(.ref b71)]) _
          refine Go.step (fun _ => XS.iload X89.here hx rfl (hb hby at_235) rfl ) ?_
          show Go p e below T89 (mkF m 237 #[.val (.int p0), .val (.int p1), .val (.int p2), .val (.int p3), .val (.int p4), .val (.int (Int32.ofNat N)), .val (.int (Int32.ofNat P)), .val (.int sp), .val (.int (Int32.ofNat Q)), .val (.int (p3 &&& (3 : Int32))), .val (.int (Int32.ofNat R_)), .val (.int (Int32.ofNat Xq)), .val (.ref b71), .val (.int (0 : Int32)), .val (.int (1 : Int32))] [(.int (Int32.ofNat Q)), (.ref b71)]) _
          refine Go.step (fun _ => XS.iconst X89.here hx rfl (hb hby at_237)) ?_
          show Go p e below T89 (mkF m 238 #[.val (.int p0), .val (.int p1), .val (.int p2), .val (.int p3), .val (.int p4), .val (.int (Int32.ofNat N)), .val (.int (Int32.ofNat P)), .val (.int sp), .val (.int (Int32.ofNat Q)), .val (.int (p3 &&& (3 : Int32))), .val (.int (Int32.ofNat R_)), .val (.int (Int32.ofNat Xq)), .val (.ref b71), .val (.int (0 : Int32)), .val (.int (1 : Int32))] [(.int (1 : Int32)), (.int (Int32.ofNat Q)), (.ref b71)]) _
          refine Go.step (fun _ => XS.iadd X89.here hx rfl (hb hby at_238) rfl) ?_
          show Go p e below T89 (mkF m 239 #[.val (.int p0), .val (.int p1), .val (.int p2), .val (.int p3), .val (.int p4), .val (.int (Int32.ofNat N)), .val (.int (Int32.ofNat P)), .val (.int sp), .val (.int (Int32.ofNat Q)), .val (.int (p3 &&& (3 : Int32))), .val (.int (Int32.ofNat R_)), .val (.int (Int32.ofNat Xq)), .val (.ref b71), .val (.int (0 : Int32)), .val (.int (1 : Int32))] [(.int ((Int32.ofNat Q) + (1 : Int32))), (.ref b71)]) _
          rw [show Int32.ofNat Q + (1 : Int32) = Int32.ofNat (Q + 1) from own_add Q 1]
          show Go p e below T89 (mkF m 239 #[.val (.int p0), .val (.int p1), .val (.int p2), .val (.int p3), .val (.int p4), .val (.int (Int32.ofNat N)), .val (.int (Int32.ofNat P)), .val (.int sp), .val (.int (Int32.ofNat Q)), .val (.int (p3 &&& (3 : Int32))), .val (.int (Int32.ofNat R_)), .val (.int (Int32.ofNat Xq)), .val (.ref b71), .val (.int (0 : Int32)), .val (.int (1 : Int32))] [(.int (Int32.ofNat (Q + 1))), (.ref b71)]) _
          obtain ⟨cq90, kq90, q90a, q90b, q90c⟩ := isOf hZ ei89 Tr75.1
          obtain ⟨_, _, ⟨T90, L90, k90, n90⟩, -, X90, ⟨Lc90, hQ90, l90, y90, z90⟩, st90⟩ := X89.virtualBack hx (y := (⟨"com/example/maxhue/maxhue/PointSet", "lastBelow", "(I)I"⟩ : MethodName)) (z := (⟨"com/example/maxhue/maxhue/PointSet", "lastBelow", "(I)I"⟩ : MethodName)) hown (mvT hZ (hw _ (List.mem_of_getElem? (i := 32) rfl))) (mvT hZ (hw _ (List.mem_of_getElem? (i := 33) rfl))) (notFace_of_selects (args := #[]) (mvT hZ (hw _ (List.mem_of_getElem? (i := 35) rfl)))) (mvT hZ (hw _ (List.mem_of_getElem? (i := 35) rfl))) (mvT hZ (hw _ (List.mem_of_getElem? (i := 34) rfl))) (by decide) (backOf (W := 0) (rmLast l Z a0 hw [] b71 A72 M72 lv72 (szN N) f75 (fun q => (fun q => (fun q => (fun _ => False) q ∨ q = P) q ∨ q = Q) q ∧ q ≠ R_) N (Q + 1) (own_ref2 (0 : Int32) (Int32.ofNat P) (1 : Int32) (Int32.ofNat Q) (Int32.ofNat (Q + 1))) T75.heap n0 Zs75 Tr75 R75 (by omega) hszb (by omega) hN1 hM1 (by omega) hSN (fun q z => own_pt z _) (fun k hk P z => htop P (by rw [show M72 - 1 = k from by omega]; exact z)) (own_best2 (by omega) (by omega) (by omega) ⟨fun z => absurd rfl z, fun z => absurd ((own_inj (by omega) (by omega)).mp hc136) z⟩ ⟨fun _ z => hc150 ((own_inj (by omega) (by omega)).mpr z), fun _ => by decide⟩)) hZ (hw _ (List.mem_of_getElem? (i := 36) rfl)) (hw _ (List.mem_of_getElem? (i := 4) rfl)) (by decide) (by decide)) q90a q90c (g := (mkF m 239 #[.val (.int p0), .val (.int p1), .val (.int p2), .val (.int p3), .val (.int p4), .val (.int (Int32.ofNat N)), .val (.int (Int32.ofNat P)), .val (.int sp), .val (.int (Int32.ofNat Q)), .val (.int (p3 &&& (3 : Int32))), .val (.int (Int32.ofNat R_)), .val (.int (Int32.ofNat Xq)), .val (.ref b71), .val (.int (0 : Int32)), .val (.int (1 : Int32))] [(.int (Int32.ofNat (Q + 1))), (.ref b71)])) rfl (by rw [hml]; rfl) (Steps.refl _) (argsL := [(.int (Int32.ofNat (Q + 1)))]) (rest := []) (lenOf pd_0 rfl) rfl (by show 2 * 0 + _ ≤ _; exact Nat.le_of_eq rfl) (hb hby at_239) (fun _ _ => ⟨rfl, ei89, (by decide : 0 + 1 + 4 + 0 + 0 + 0 + 0 + 0 + 0 + 0 + 0 + 0 + 0 ≤ _), (by decide : 0 + 1 + 134 + 0 + 0 + 0 + 0 + 0 + 0 + 0 + 0 + 0 + 0 ≤ _)⟩)
          dsimp only [Pt.U, Pt.locs, Pt.cells, Pt.slots] at X90 l90 y90 z90 st90 hQ90
          subst l90 y90 z90
          obtain ⟨rfl, Nq90, eh90⟩ := hQ90
          have N90 := Fr.app N89 Nq90
          refine Go.call st90 ?_
          show Go p e below T90 (mkF m 242 #[.val (.int p0), .val (.int p1), .val (.int p2), .val (.int p3), .val (.int p4), .val (.int (Int32.ofNat N)), .val (.int (Int32.ofNat P)), .val (.int sp), .val (.int (Int32.ofNat Q)), .val (.int (p3 &&& (3 : Int32))), .val (.int (Int32.ofNat R_)), .val (.int (Int32.ofNat Xq)), .val (.ref b71), .val (.int (0 : Int32)), .val (.int (1 : Int32))] [(.int (own_ref2 (0 : Int32) (Int32.ofNat P) (1 : Int32) (Int32.ofNat Q) (Int32.ofNat (Q + 1))))]) _
          refine Go.step (fun _ => XS.iload X90.here hx rfl (hb hby at_242) rfl ) ?_
          show Go p e below T90 (mkF m 244 #[.val (.int p0), .val (.int p1), .val (.int p2), .val (.int p3), .val (.int p4), .val (.int (Int32.ofNat N)), .val (.int (Int32.ofNat P)), .val (.int sp), .val (.int (Int32.ofNat Q)), .val (.int (p3 &&& (3 : Int32))), .val (.int (Int32.ofNat R_)), .val (.int (Int32.ofNat Xq)), .val (.ref b71), .val (.int (0 : Int32)), .val (.int (1 : Int32))] [(.int (0 : Int32)), (.int (own_ref2 (0 : Int32) (Int32.ofNat P) (1 : Int32) (Int32.ofNat Q) (Int32.ofNat (Q + 1))))]) _
          refine Go.step (fun _ => XS.iload X90.here hx rfl (hb hby at_244) rfl ) ?_
          show Go p e below T90 (mkF m 246 #[.val (.int p0), .val (.int p1), .val (.int p2), .val (.int p3), .val (.int p4), .val (.int (Int32.ofNat N)), .val (.int (Int32.ofNat P)), .val (.int sp), .val (.int (Int32.ofNat Q)), .val (.int (p3 &&& (3 : Int32))), .val (.int (Int32.ofNat R_)), .val (.int (Int32.ofNat Xq)), .val (.ref b71), .val (.int (0 : Int32)), .val (.int (1 : Int32))] [(.int (Int32.ofNat P)), (.int (0 : Int32)), (.int (own_ref2 (0 : Int32) (Int32.ofNat P) (1 : Int32) (Int32.ofNat Q) (Int32.ofNat (Q + 1))))]) _
          refine Go.step (fun _ => XS.iload X90.here hx rfl (hb hby at_246) rfl ) ?_
          show Go p e below T90 (mkF m 248 #[.val (.int p0), .val (.int p1), .val (.int p2), .val (.int p3), .val (.int p4), .val (.int (Int32.ofNat N)), .val (.int (Int32.ofNat P)), .val (.int sp), .val (.int (Int32.ofNat Q)), .val (.int (p3 &&& (3 : Int32))), .val (.int (Int32.ofNat R_)), .val (.int (Int32.ofNat Xq)), .val (.ref b71), .val (.int (0 : Int32)), .val (.int (1 : Int32))] [(.int (1 : Int32)), (.int (Int32.ofNat P)), (.int (0 : Int32)), (.int (own_ref2 (0 : Int32) (Int32.ofNat P) (1 : Int32) (Int32.ofNat Q) (Int32.ofNat (Q + 1))))]) _
          refine Go.step (fun _ => XS.iload X90.here hx rfl (hb hby at_248) rfl ) ?_
          show Go p e below T90 (mkF m 250 #[.val (.int p0), .val (.int p1), .val (.int p2), .val (.int p3), .val (.int p4), .val (.int (Int32.ofNat N)), .val (.int (Int32.ofNat P)), .val (.int sp), .val (.int (Int32.ofNat Q)), .val (.int (p3 &&& (3 : Int32))), .val (.int (Int32.ofNat R_)), .val (.int (Int32.ofNat Xq)), .val (.ref b71), .val (.int (0 : Int32)), .val (.int (1 : Int32))] [(.int (Int32.ofNat Q)), (.int (1 : Int32)), (.int (Int32.ofNat P)), (.int (0 : Int32)), (.int (own_ref2 (0 : Int32) (Int32.ofNat P) (1 : Int32) (Int32.ofNat Q) (Int32.ofNat (Q + 1))))]) _
          refine Go.step (fun _ => XS.iload X90.here hx rfl (hb hby at_250) rfl ) ?_
          show Go p e below T90 (mkF m 252 #[.val (.int p0), .val (.int p1), .val (.int p2), .val (.int p3), .val (.int p4), .val (.int (Int32.ofNat N)), .val (.int (Int32.ofNat P)), .val (.int sp), .val (.int (Int32.ofNat Q)), .val (.int (p3 &&& (3 : Int32))), .val (.int (Int32.ofNat R_)), .val (.int (Int32.ofNat Xq)), .val (.ref b71), .val (.int (0 : Int32)), .val (.int (1 : Int32))] [(.int (Int32.ofNat Q)), (.int (Int32.ofNat Q)), (.int (1 : Int32)), (.int (Int32.ofNat P)), (.int (0 : Int32)), (.int (own_ref2 (0 : Int32) (Int32.ofNat P) (1 : Int32) (Int32.ofNat Q) (Int32.ofNat (Q + 1))))]) _
          refine Go.step (fun _ => XS.iconst X90.here hx rfl (hb hby at_252)) ?_
          show Go p e below T90 (mkF m 253 #[.val (.int p0), .val (.int p1), .val (.int p2), .val (.int p3), .val (.int p4), .val (.int (Int32.ofNat N)), .val (.int (Int32.ofNat P)), .val (.int sp), .val (.int (Int32.ofNat Q)), .val (.int (p3 &&& (3 : Int32))), .val (.int (Int32.ofNat R_)), .val (.int (Int32.ofNat Xq)), .val (.ref b71), .val (.int (0 : Int32)), .val (.int (1 : Int32))] [(.int (1 : Int32)), (.int (Int32.ofNat Q)), (.int (Int32.ofNat Q)), (.int (1 : Int32)), (.int (Int32.ofNat P)), (.int (0 : Int32)), (.int (own_ref2 (0 : Int32) (Int32.ofNat P) (1 : Int32) (Int32.ofNat Q) (Int32.ofNat (Q + 1))))]) _
          refine Go.step (fun _ => XS.iadd X90.here hx rfl (hb hby at_253) rfl) ?_
          show Go p e below T90 (mkF m 254 #[.val (.int p0), .val (.int p1), .val (.int p2), .val (.int p3), .val (.int p4), .val (.int (Int32.ofNat N)), .val (.int (Int32.ofNat P)), .val (.int sp), .val (.int (Int32.ofNat Q)), .val (.int (p3 &&& (3 : Int32))), .val (.int (Int32.ofNat R_)), .val (.int (Int32.ofNat Xq)), .val (.ref b71), .val (.int (0 : Int32)), .val (.int (1 : Int32))] [(.int ((Int32.ofNat Q) + (1 : Int32))), (.int (Int32.ofNat Q)), (.int (1 : Int32)), (.int (Int32.ofNat P)), (.int (0 : Int32)), (.int (own_ref2 (0 : Int32) (Int32.ofNat P) (1 : Int32) (Int32.ofNat Q) (Int32.ofNat (Q + 1))))]) _
          rw [show Int32.ofNat Q + (1 : Int32) = Int32.ofNat (Q + 1) from own_add Q 1]
          show Go p e below T90 (mkF m 254 #[.val (.int p0), .val (.int p1), .val (.int p2), .val (.int p3), .val (.int p4), .val (.int (Int32.ofNat N)), .val (.int (Int32.ofNat P)), .val (.int sp), .val (.int (Int32.ofNat Q)), .val (.int (p3 &&& (3 : Int32))), .val (.int (Int32.ofNat R_)), .val (.int (Int32.ofNat Xq)), .val (.ref b71), .val (.int (0 : Int32)), .val (.int (1 : Int32))] [(.int (Int32.ofNat (Q + 1))), (.int (Int32.ofNat Q)), (.int (1 : Int32)), (.int (Int32.ofNat P)), (.int (0 : Int32)), (.int (own_ref2 (0 : Int32) (Int32.ofNat P) (1 : Int32) (Int32.ofNat Q) (Int32.ofNat (Q + 1))))]) _
          obtain ⟨_, _, ⟨T91, L91, k91, n91⟩, -, X91, ⟨Lc91, hQ91, l91, y91, z91⟩, st91⟩ := Jvm.LawKit.callS X90 hx (y := (⟨"com/example/maxhue/maxhue/PointSetRemovePinLaw", "ref", "(ZIZII)I"⟩ : MethodName)) hown (mvT hZ (hw _ (List.mem_of_getElem? (i := 37) rfl))) (mvT hZ (hw _ (List.mem_of_getElem? (i := 38) rfl))) (mvT hZ (hw _ (List.mem_of_getElem? (i := 39) rfl))) (mvT hZ (hw _ (List.mem_of_getElem? (i := 40) rfl))) (by decide) (backOf (W := 1) (rmRef l Z a0 hw [] (0 : Int32) (Int32.ofNat P) (1 : Int32) (Int32.ofNat Q) (Int32.ofNat (Q + 1)) T75.heap n0 Zs75) hZ (hw _ (List.mem_of_getElem? (i := 40) rfl)) (hw _ (List.mem_of_getElem? (i := 39) rfl)) (by decide) (by decide)) (g := (mkF m 254 #[.val (.int p0), .val (.int p1), .val (.int p2), .val (.int p3), .val (.int p4), .val (.int (Int32.ofNat N)), .val (.int (Int32.ofNat P)), .val (.int sp), .val (.int (Int32.ofNat Q)), .val (.int (p3 &&& (3 : Int32))), .val (.int (Int32.ofNat R_)), .val (.int (Int32.ofNat Xq)), .val (.ref b71), .val (.int (0 : Int32)), .val (.int (1 : Int32))] [(.int (Int32.ofNat (Q + 1))), (.int (Int32.ofNat Q)), (.int (1 : Int32)), (.int (Int32.ofNat P)), (.int (0 : Int32)), (.int (own_ref2 (0 : Int32) (Int32.ofNat P) (1 : Int32) (Int32.ofNat Q) (Int32.ofNat (Q + 1))))])) rfl (by rw [hml]; rfl) (argsL := [(.int (0 : Int32)), (.int (Int32.ofNat P)), (.int (1 : Int32)), (.int (Int32.ofNat Q)), (.int (Int32.ofNat (Q + 1)))]) (rest := [(.int (own_ref2 (0 : Int32) (Int32.ofNat P) (1 : Int32) (Int32.ofNat Q) (Int32.ofNat (Q + 1))))]) (lenOf pd_4 rfl) rfl (by show 2 * 0 + _ ≤ _; exact Nat.le_of_eq rfl) (hb hby at_254) (fun _ _ => ⟨rfl, eh90, (by decide : 0 + 1 + 4 + 0 + 0 + 0 + 0 + 0 + 0 + 0 + 0 + 0 + 0 + 0 ≤ _), (by decide : 0 + 1 + 134 + 0 + 0 + 0 + 0 + 0 + 0 + 0 + 0 + 0 + 0 + 0 ≤ _)⟩)
          dsimp only [Pt.U, Pt.locs, Pt.cells, Pt.slots] at X91 l91 y91 z91 st91 hQ91
          subst l91 y91 z91
          obtain ⟨rfl, Nq91, ei91⟩ := hQ91
          have N91 := Fr.app N90 Nq91
          refine Go.step st91 ?_
          show Go p e below T91 (mkF m 257 #[.val (.int p0), .val (.int p1), .val (.int p2), .val (.int p3), .val (.int p4), .val (.int (Int32.ofNat N)), .val (.int (Int32.ofNat P)), .val (.int sp), .val (.int (Int32.ofNat Q)), .val (.int (p3 &&& (3 : Int32))), .val (.int (Int32.ofNat R_)), .val (.int (Int32.ofNat Xq)), .val (.ref b71), .val (.int (0 : Int32)), .val (.int (1 : Int32))] [(.int (own_ref2 (0 : Int32) (Int32.ofNat P) (1 : Int32) (Int32.ofNat Q) (Int32.ofNat (Q + 1)))), (.int (own_ref2 (0 : Int32) (Int32.ofNat P) (1 : Int32) (Int32.ofNat Q) (Int32.ofNat (Q + 1))))]) _
          refine Go.step (fun _ => XS.icmpNo X91.here hx rfl (hb hby at_257) rfl (teq rfl).2) ?_
          show Go p e below T91 (mkF m 260 #[.val (.int p0), .val (.int p1), .val (.int p2), .val (.int p3), .val (.int p4), .val (.int (Int32.ofNat N)), .val (.int (Int32.ofNat P)), .val (.int sp), .val (.int (Int32.ofNat Q)), .val (.int (p3 &&& (3 : Int32))), .val (.int (Int32.ofNat R_)), .val (.int (Int32.ofNat Xq)), .val (.ref b71), .val (.int (0 : Int32)), .val (.int (1 : Int32))] []) _
          refine Go.step (fun _ => XS.iconst X91.here hx rfl (hb hby at_260)) ?_
          show Go p e below T91 (mkF m 261 #[.val (.int p0), .val (.int p1), .val (.int p2), .val (.int p3), .val (.int p4), .val (.int (Int32.ofNat N)), .val (.int (Int32.ofNat P)), .val (.int sp), .val (.int (Int32.ofNat Q)), .val (.int (p3 &&& (3 : Int32))), .val (.int (Int32.ofNat R_)), .val (.int (Int32.ofNat Xq)), .val (.ref b71), .val (.int (0 : Int32)), .val (.int (1 : Int32))] [(.int (1 : Int32))]) _
          refine Go.step (fun _ => XS.goto X91.here hx rfl (pc0 := 261) (pc' := 265) rfl (hb hby at_261) (by decide) (by decide)) ?_
          show Go p e below T91 (mkF m 265 #[.val (.int p0), .val (.int p1), .val (.int p2), .val (.int p3), .val (.int p4), .val (.int (Int32.ofNat N)), .val (.int (Int32.ofNat P)), .val (.int sp), .val (.int (Int32.ofNat Q)), .val (.int (p3 &&& (3 : Int32))), .val (.int (Int32.ofNat R_)), .val (.int (Int32.ofNat Xq)), .val (.ref b71), .val (.int (0 : Int32)), .val (.int (1 : Int32))] [(.int (1 : Int32))]) _
          refine Go.retN (t := .boolean) (z' := (1 : Int32)) X91 hx hret (by simp) hlk (hb hby at_265) (by decide) ?_ (by decide) (by decide)
          exact ⟨rfl, N91⟩
      · skip
        refine Go.step (fun _ => XS.icmpNo X75.here hx rfl (hb hby at_136) rfl (feq hc136).1) ?_
        show Go p e below T75 (mkF m 139 #[.val (.int p0), .val (.int p1), .val (.int p2), .val (.int p3), .val (.int p4), .val (.int (Int32.ofNat N)), .val (.int (Int32.ofNat P)), .val (.int sp), .val (.int (Int32.ofNat Q)), .val (.int (p3 &&& (3 : Int32))), .val (.int (Int32.ofNat R_)), .val (.int (Int32.ofNat Xq)), .val (.ref b71), .unset, .unset] []) _
        refine Go.step (fun _ => XS.iconst X75.here hx rfl (hb hby at_139)) ?_
        show Go p e below T75 (mkF m 140 #[.val (.int p0), .val (.int p1), .val (.int p2), .val (.int p3), .val (.int p4), .val (.int (Int32.ofNat N)), .val (.int (Int32.ofNat P)), .val (.int sp), .val (.int (Int32.ofNat Q)), .val (.int (p3 &&& (3 : Int32))), .val (.int (Int32.ofNat R_)), .val (.int (Int32.ofNat Xq)), .val (.ref b71), .unset, .unset] [(.int (1 : Int32))]) _
        refine Go.step (fun _ => XS.goto X75.here hx rfl (pc0 := 140) (pc' := 144) rfl (hb hby at_140) (by decide) (by decide)) ?_
        show Go p e below T75 (mkF m 144 #[.val (.int p0), .val (.int p1), .val (.int p2), .val (.int p3), .val (.int p4), .val (.int (Int32.ofNat N)), .val (.int (Int32.ofNat P)), .val (.int sp), .val (.int (Int32.ofNat Q)), .val (.int (p3 &&& (3 : Int32))), .val (.int (Int32.ofNat R_)), .val (.int (Int32.ofNat Xq)), .val (.ref b71), .unset, .unset] [(.int (1 : Int32))]) _
        refine Go.step (fun _ => XS.istore X75.here hx rfl (hb hby at_144) rfl (l' := #[.val (.int p0), .val (.int p1), .val (.int p2), .val (.int p3), .val (.int p4), .val (.int (Int32.ofNat N)), .val (.int (Int32.ofNat P)), .val (.int sp), .val (.int (Int32.ofNat Q)), .val (.int (p3 &&& (3 : Int32))), .val (.int (Int32.ofNat R_)), .val (.int (Int32.ofNat Xq)), .val (.ref b71), .val (.int (1 : Int32)), .unset]) rfl) ?_
        show Go p e below T75 (mkF m 146 #[.val (.int p0), .val (.int p1), .val (.int p2), .val (.int p3), .val (.int p4), .val (.int (Int32.ofNat N)), .val (.int (Int32.ofNat P)), .val (.int sp), .val (.int (Int32.ofNat Q)), .val (.int (p3 &&& (3 : Int32))), .val (.int (Int32.ofNat R_)), .val (.int (Int32.ofNat Xq)), .val (.ref b71), .val (.int (1 : Int32)), .unset] []) _
        refine Go.step (fun _ => XS.iload X75.here hx rfl (hb hby at_146) rfl ) ?_
        show Go p e below T75 (mkF m 148 #[.val (.int p0), .val (.int p1), .val (.int p2), .val (.int p3), .val (.int p4), .val (.int (Int32.ofNat N)), .val (.int (Int32.ofNat P)), .val (.int sp), .val (.int (Int32.ofNat Q)), .val (.int (p3 &&& (3 : Int32))), .val (.int (Int32.ofNat R_)), .val (.int (Int32.ofNat Xq)), .val (.ref b71), .val (.int (1 : Int32)), .unset] [(.int (Int32.ofNat Q))]) _
        refine Go.step (fun _ => XS.iload X75.here hx rfl (hb hby at_148) rfl ) ?_
        show Go p e below T75 (mkF m 150 #[.val (.int p0), .val (.int p1), .val (.int p2), .val (.int p3), .val (.int p4), .val (.int (Int32.ofNat N)), .val (.int (Int32.ofNat P)), .val (.int sp), .val (.int (Int32.ofNat Q)), .val (.int (p3 &&& (3 : Int32))), .val (.int (Int32.ofNat R_)), .val (.int (Int32.ofNat Xq)), .val (.ref b71), .val (.int (1 : Int32)), .unset] [(.int (Int32.ofNat R_)), (.int (Int32.ofNat Q))]) _
        by_cases hc150 : (Int32.ofNat Q) = (Int32.ofNat R_)
        · skip
          refine Go.step (fun _ => XS.icmpYes X75.here hx rfl (pc0 := 150) (pc' := 157) rfl (hb hby at_150) rfl (teq hc150).1 (by decide) (by decide)) ?_
          show Go p e below T75 (mkF m 157 #[.val (.int p0), .val (.int p1), .val (.int p2), .val (.int p3), .val (.int p4), .val (.int (Int32.ofNat N)), .val (.int (Int32.ofNat P)), .val (.int sp), .val (.int (Int32.ofNat Q)), .val (.int (p3 &&& (3 : Int32))), .val (.int (Int32.ofNat R_)), .val (.int (Int32.ofNat Xq)), .val (.ref b71), .val (.int (1 : Int32)), .unset] []) _
          refine Go.step (fun _ => XS.iconst X75.here hx rfl (hb hby at_157)) ?_
          show Go p e below T75 (mkF m 158 #[.val (.int p0), .val (.int p1), .val (.int p2), .val (.int p3), .val (.int p4), .val (.int (Int32.ofNat N)), .val (.int (Int32.ofNat P)), .val (.int sp), .val (.int (Int32.ofNat Q)), .val (.int (p3 &&& (3 : Int32))), .val (.int (Int32.ofNat R_)), .val (.int (Int32.ofNat Xq)), .val (.ref b71), .val (.int (1 : Int32)), .unset] [(.int (0 : Int32))]) _
          refine Go.step (fun _ => XS.istore X75.here hx rfl (hb hby at_158) rfl (l' := #[.val (.int p0), .val (.int p1), .val (.int p2), .val (.int p3), .val (.int p4), .val (.int (Int32.ofNat N)), .val (.int (Int32.ofNat P)), .val (.int sp), .val (.int (Int32.ofNat Q)), .val (.int (p3 &&& (3 : Int32))), .val (.int (Int32.ofNat R_)), .val (.int (Int32.ofNat Xq)), .val (.ref b71), .val (.int (1 : Int32)), .val (.int (0 : Int32))]) rfl) ?_
          show Go p e below T75 (mkF m 160 #[.val (.int p0), .val (.int p1), .val (.int p2), .val (.int p3), .val (.int p4), .val (.int (Int32.ofNat N)), .val (.int (Int32.ofNat P)), .val (.int sp), .val (.int (Int32.ofNat Q)), .val (.int (p3 &&& (3 : Int32))), .val (.int (Int32.ofNat R_)), .val (.int (Int32.ofNat Xq)), .val (.ref b71), .val (.int (1 : Int32)), .val (.int (0 : Int32))] []) _
          refine Go.step (fun _ => XS.aload X75.here hx rfl (hb hby at_160) rfl rfl ) ?_
          show Go p e below T75 (mkF m 162 #[.val (.int p0), .val (.int p1), .val (.int p2), .val (.int p3), .val (.int p4), .val (.int (Int32.ofNat N)), .val (.int (Int32.ofNat P)), .val (.int sp), .val (.int (Int32.ofNat Q)), .val (.int (p3 &&& (3 : Int32))), .val (.int (Int32.ofNat R_)), .val (.int (Int32.ofNat Xq)), .val (.ref b71), .val (.int (1 : Int32)), .val (.int (0 : Int32))] [(.ref b71)]) _
          refine Go.step (fun _ => XS.iload X75.here hx rfl (hb hby at_162) rfl ) ?_
          show Go p e below T75 (mkF m 164 #[.val (.int p0), .val (.int p1), .val (.int p2), .val (.int p3), .val (.int p4), .val (.int (Int32.ofNat N)), .val (.int (Int32.ofNat P)), .val (.int sp), .val (.int (Int32.ofNat Q)), .val (.int (p3 &&& (3 : Int32))), .val (.int (Int32.ofNat R_)), .val (.int (Int32.ofNat Xq)), .val (.ref b71), .val (.int (1 : Int32)), .val (.int (0 : Int32))] [(.int (Int32.ofNat Xq)), (.ref b71)]) _
          have hSN : ∀ q, (fun q => (fun q => (fun q => (fun _ => False) q ∨ q = P) q ∨ q = Q) q ∧ q ≠ R_) q → q < N := fun q z => by
            obtain ⟨z, -⟩ := z
            rcases z with (z | z) | z
            · exact z.elim
            all_goals omega
          obtain ⟨cq92, kq92, q92a, q92b, q92c⟩ := isOf hZ rfl Tr75.1
          obtain ⟨_, _, ⟨T92, L92, k92, n92⟩, -, X92, ⟨Lc92, hQ92, l92, y92, z92⟩, st92⟩ := X75.virtualBack hx (y := (⟨"com/example/maxhue/maxhue/PointSet", "lastBelow", "(I)I"⟩ : MethodName)) (z := (⟨"com/example/maxhue/maxhue/PointSet", "lastBelow", "(I)I"⟩ : MethodName)) hown (mvT hZ (hw _ (List.mem_of_getElem? (i := 32) rfl))) (mvT hZ (hw _ (List.mem_of_getElem? (i := 33) rfl))) (notFace_of_selects (args := #[]) (mvT hZ (hw _ (List.mem_of_getElem? (i := 35) rfl)))) (mvT hZ (hw _ (List.mem_of_getElem? (i := 35) rfl))) (mvT hZ (hw _ (List.mem_of_getElem? (i := 34) rfl))) (by decide) (backOf (W := 0) (rmLast l Z a0 hw [] b71 A72 M72 lv72 (szN N) f75 (fun q => (fun q => (fun q => (fun _ => False) q ∨ q = P) q ∨ q = Q) q ∧ q ≠ R_) N Xq (own_ref2 (1 : Int32) (Int32.ofNat P) (0 : Int32) (Int32.ofNat Q) (Int32.ofNat Xq)) T75.heap n0 Zs75 Tr75 R75 (by omega) hszb (by omega) hN1 hM1 (by omega) hSN (fun q z => own_pt z _) (fun k hk P z => htop P (by rw [show M72 - 1 = k from by omega]; exact z)) (own_best2 (by omega) (by omega) (by omega) ⟨fun _ z => hc136 ((own_inj (by omega) (by omega)).mpr z), fun _ => by decide⟩ ⟨fun z => absurd rfl z, fun z => absurd ((own_inj (by omega) (by omega)).mp hc150) z⟩)) hZ (hw _ (List.mem_of_getElem? (i := 36) rfl)) (hw _ (List.mem_of_getElem? (i := 4) rfl)) (by decide) (by decide)) q92a q92c (g := (mkF m 164 #[.val (.int p0), .val (.int p1), .val (.int p2), .val (.int p3), .val (.int p4), .val (.int (Int32.ofNat N)), .val (.int (Int32.ofNat P)), .val (.int sp), .val (.int (Int32.ofNat Q)), .val (.int (p3 &&& (3 : Int32))), .val (.int (Int32.ofNat R_)), .val (.int (Int32.ofNat Xq)), .val (.ref b71), .val (.int (1 : Int32)), .val (.int (0 : Int32))] [(.int (Int32.ofNat Xq)), (.ref b71)])) rfl (by rw [hml]; rfl) (Steps.refl _) (argsL := [(.int (Int32.ofNat Xq))]) (rest := []) (lenOf pd_0 rfl) rfl (by show 2 * 0 + _ ≤ _; exact Nat.le_of_eq rfl) (hb hby at_164) (fun _ _ => ⟨rfl, rfl, (by decide : 0 + 1 + 4 + 0 + 0 + 0 + 0 ≤ _), (by decide : 0 + 1 + 134 + 0 + 0 + 0 + 0 ≤ _)⟩)
          dsimp only [Pt.U, Pt.locs, Pt.cells, Pt.slots] at X92 l92 y92 z92 st92 hQ92
          subst l92 y92 z92
          obtain ⟨rfl, Nq92, eh92⟩ := hQ92
          have N92 := Fr.app N75 Nq92
          refine Go.call st92 ?_
          show Go p e below T92 (mkF m 167 #[.val (.int p0), .val (.int p1), .val (.int p2), .val (.int p3), .val (.int p4), .val (.int (Int32.ofNat N)), .val (.int (Int32.ofNat P)), .val (.int sp), .val (.int (Int32.ofNat Q)), .val (.int (p3 &&& (3 : Int32))), .val (.int (Int32.ofNat R_)), .val (.int (Int32.ofNat Xq)), .val (.ref b71), .val (.int (1 : Int32)), .val (.int (0 : Int32))] [(.int (own_ref2 (1 : Int32) (Int32.ofNat P) (0 : Int32) (Int32.ofNat Q) (Int32.ofNat Xq)))]) _
          refine Go.step (fun _ => XS.iload X92.here hx rfl (hb hby at_167) rfl ) ?_
          show Go p e below T92 (mkF m 169 #[.val (.int p0), .val (.int p1), .val (.int p2), .val (.int p3), .val (.int p4), .val (.int (Int32.ofNat N)), .val (.int (Int32.ofNat P)), .val (.int sp), .val (.int (Int32.ofNat Q)), .val (.int (p3 &&& (3 : Int32))), .val (.int (Int32.ofNat R_)), .val (.int (Int32.ofNat Xq)), .val (.ref b71), .val (.int (1 : Int32)), .val (.int (0 : Int32))] [(.int (1 : Int32)), (.int (own_ref2 (1 : Int32) (Int32.ofNat P) (0 : Int32) (Int32.ofNat Q) (Int32.ofNat Xq)))]) _
          refine Go.step (fun _ => XS.iload X92.here hx rfl (hb hby at_169) rfl ) ?_
          show Go p e below T92 (mkF m 171 #[.val (.int p0), .val (.int p1), .val (.int p2), .val (.int p3), .val (.int p4), .val (.int (Int32.ofNat N)), .val (.int (Int32.ofNat P)), .val (.int sp), .val (.int (Int32.ofNat Q)), .val (.int (p3 &&& (3 : Int32))), .val (.int (Int32.ofNat R_)), .val (.int (Int32.ofNat Xq)), .val (.ref b71), .val (.int (1 : Int32)), .val (.int (0 : Int32))] [(.int (Int32.ofNat P)), (.int (1 : Int32)), (.int (own_ref2 (1 : Int32) (Int32.ofNat P) (0 : Int32) (Int32.ofNat Q) (Int32.ofNat Xq)))]) _
          refine Go.step (fun _ => XS.iload X92.here hx rfl (hb hby at_171) rfl ) ?_
          show Go p e below T92 (mkF m 173 #[.val (.int p0), .val (.int p1), .val (.int p2), .val (.int p3), .val (.int p4), .val (.int (Int32.ofNat N)), .val (.int (Int32.ofNat P)), .val (.int sp), .val (.int (Int32.ofNat Q)), .val (.int (p3 &&& (3 : Int32))), .val (.int (Int32.ofNat R_)), .val (.int (Int32.ofNat Xq)), .val (.ref b71), .val (.int (1 : Int32)), .val (.int (0 : Int32))] [(.int (0 : Int32)), (.int (Int32.ofNat P)), (.int (1 : Int32)), (.int (own_ref2 (1 : Int32) (Int32.ofNat P) (0 : Int32) (Int32.ofNat Q) (Int32.ofNat Xq)))]) _
          refine Go.step (fun _ => XS.iload X92.here hx rfl (hb hby at_173) rfl ) ?_
          show Go p e below T92 (mkF m 175 #[.val (.int p0), .val (.int p1), .val (.int p2), .val (.int p3), .val (.int p4), .val (.int (Int32.ofNat N)), .val (.int (Int32.ofNat P)), .val (.int sp), .val (.int (Int32.ofNat Q)), .val (.int (p3 &&& (3 : Int32))), .val (.int (Int32.ofNat R_)), .val (.int (Int32.ofNat Xq)), .val (.ref b71), .val (.int (1 : Int32)), .val (.int (0 : Int32))] [(.int (Int32.ofNat Q)), (.int (0 : Int32)), (.int (Int32.ofNat P)), (.int (1 : Int32)), (.int (own_ref2 (1 : Int32) (Int32.ofNat P) (0 : Int32) (Int32.ofNat Q) (Int32.ofNat Xq)))]) _
          refine Go.step (fun _ => XS.iload X92.here hx rfl (hb hby at_175) rfl ) ?_
          show Go p e below T92 (mkF m 177 #[.val (.int p0), .val (.int p1), .val (.int p2), .val (.int p3), .val (.int p4), .val (.int (Int32.ofNat N)), .val (.int (Int32.ofNat P)), .val (.int sp), .val (.int (Int32.ofNat Q)), .val (.int (p3 &&& (3 : Int32))), .val (.int (Int32.ofNat R_)), .val (.int (Int32.ofNat Xq)), .val (.ref b71), .val (.int (1 : Int32)), .val (.int (0 : Int32))] [(.int (Int32.ofNat Xq)), (.int (Int32.ofNat Q)), (.int (0 : Int32)), (.int (Int32.ofNat P)), (.int (1 : Int32)), (.int (own_ref2 (1 : Int32) (Int32.ofNat P) (0 : Int32) (Int32.ofNat Q) (Int32.ofNat Xq)))]) _
          obtain ⟨_, _, ⟨T93, L93, k93, n93⟩, -, X93, ⟨Lc93, hQ93, l93, y93, z93⟩, st93⟩ := Jvm.LawKit.callS X92 hx (y := (⟨"com/example/maxhue/maxhue/PointSetRemovePinLaw", "ref", "(ZIZII)I"⟩ : MethodName)) hown (mvT hZ (hw _ (List.mem_of_getElem? (i := 37) rfl))) (mvT hZ (hw _ (List.mem_of_getElem? (i := 38) rfl))) (mvT hZ (hw _ (List.mem_of_getElem? (i := 39) rfl))) (mvT hZ (hw _ (List.mem_of_getElem? (i := 40) rfl))) (by decide) (backOf (W := 1) (rmRef l Z a0 hw [] (1 : Int32) (Int32.ofNat P) (0 : Int32) (Int32.ofNat Q) (Int32.ofNat Xq) T75.heap n0 Zs75) hZ (hw _ (List.mem_of_getElem? (i := 40) rfl)) (hw _ (List.mem_of_getElem? (i := 39) rfl)) (by decide) (by decide)) (g := (mkF m 177 #[.val (.int p0), .val (.int p1), .val (.int p2), .val (.int p3), .val (.int p4), .val (.int (Int32.ofNat N)), .val (.int (Int32.ofNat P)), .val (.int sp), .val (.int (Int32.ofNat Q)), .val (.int (p3 &&& (3 : Int32))), .val (.int (Int32.ofNat R_)), .val (.int (Int32.ofNat Xq)), .val (.ref b71), .val (.int (1 : Int32)), .val (.int (0 : Int32))] [(.int (Int32.ofNat Xq)), (.int (Int32.ofNat Q)), (.int (0 : Int32)), (.int (Int32.ofNat P)), (.int (1 : Int32)), (.int (own_ref2 (1 : Int32) (Int32.ofNat P) (0 : Int32) (Int32.ofNat Q) (Int32.ofNat Xq)))])) rfl (by rw [hml]; rfl) (argsL := [(.int (1 : Int32)), (.int (Int32.ofNat P)), (.int (0 : Int32)), (.int (Int32.ofNat Q)), (.int (Int32.ofNat Xq))]) (rest := [(.int (own_ref2 (1 : Int32) (Int32.ofNat P) (0 : Int32) (Int32.ofNat Q) (Int32.ofNat Xq)))]) (lenOf pd_4 rfl) rfl (by show 2 * 0 + _ ≤ _; exact Nat.le_of_eq rfl) (hb hby at_177) (fun _ _ => ⟨rfl, eh92, (by decide : 0 + 1 + 4 + 0 + 0 + 0 + 0 + 0 ≤ _), (by decide : 0 + 1 + 134 + 0 + 0 + 0 + 0 + 0 ≤ _)⟩)
          dsimp only [Pt.U, Pt.locs, Pt.cells, Pt.slots] at X93 l93 y93 z93 st93 hQ93
          subst l93 y93 z93
          obtain ⟨rfl, Nq93, ei93⟩ := hQ93
          have N93 := Fr.app N92 Nq93
          refine Go.step st93 ?_
          show Go p e below T93 (mkF m 180 #[.val (.int p0), .val (.int p1), .val (.int p2), .val (.int p3), .val (.int p4), .val (.int (Int32.ofNat N)), .val (.int (Int32.ofNat P)), .val (.int sp), .val (.int (Int32.ofNat Q)), .val (.int (p3 &&& (3 : Int32))), .val (.int (Int32.ofNat R_)), .val (.int (Int32.ofNat Xq)), .val (.ref b71), .val (.int (1 : Int32)), .val (.int (0 : Int32))] [(.int (own_ref2 (1 : Int32) (Int32.ofNat P) (0 : Int32) (Int32.ofNat Q) (Int32.ofNat Xq))), (.int (own_ref2 (1 : Int32) (Int32.ofNat P) (0 : Int32) (Int32.ofNat Q) (Int32.ofNat Xq)))]) _
          refine Go.step (fun _ => XS.icmpNo X93.here hx rfl (hb hby at_180) rfl (teq rfl).2) ?_
          show Go p e below T93 (mkF m 183 #[.val (.int p0), .val (.int p1), .val (.int p2), .val (.int p3), .val (.int p4), .val (.int (Int32.ofNat N)), .val (.int (Int32.ofNat P)), .val (.int sp), .val (.int (Int32.ofNat Q)), .val (.int (p3 &&& (3 : Int32))), .val (.int (Int32.ofNat R_)), .val (.int (Int32.ofNat Xq)), .val (.ref b71), .val (.int (1 : Int32)), .val (.int (0 : Int32))] []) _
          refine Go.step (fun _ => XS.aload X93.here hx rfl (hb hby at_183) rfl rfl ) ?_
          show Go p e below T93 (mkF m 185 #[.val (.int p0), .val (.int p1), .val (.int p2), .val (.int p3), .val (.int p4), .val (.int (Int32.ofNat N)), .val (.int (Int32.ofNat P)), .val (.int sp), .val (.int (Int32.ofNat Q)), .val (.int (p3 &&& (3 : Int32))), .val (.int (Int32.ofNat R_)), .val (.int (Int32.ofNat Xq)), .val (.ref b71), .val (.int (1 : Int32)), .val (.int (0 : Int32))] [(.ref b71)]) _
          refine Go.step (fun _ => XS.iload X93.here hx rfl (hb hby at_185) rfl ) ?_
          show Go p e below T93 (mkF m 187 #[.val (.int p0), .val (.int p1), .val (.int p2), .val (.int p3), .val (.int p4), .val (.int (Int32.ofNat N)), .val (.int (Int32.ofNat P)), .val (.int sp), .val (.int (Int32.ofNat Q)), .val (.int (p3 &&& (3 : Int32))), .val (.int (Int32.ofNat R_)), .val (.int (Int32.ofNat Xq)), .val (.ref b71), .val (.int (1 : Int32)), .val (.int (0 : Int32))] [(.int (Int32.ofNat N)), (.ref b71)]) _
          obtain ⟨cq94, kq94, q94a, q94b, q94c⟩ := isOf hZ ei93 Tr75.1
          obtain ⟨_, _, ⟨T94, L94, k94, n94⟩, -, X94, ⟨Lc94, hQ94, l94, y94, z94⟩, st94⟩ := X93.virtualBack hx (y := (⟨"com/example/maxhue/maxhue/PointSet", "lastBelow", "(I)I"⟩ : MethodName)) (z := (⟨"com/example/maxhue/maxhue/PointSet", "lastBelow", "(I)I"⟩ : MethodName)) hown (mvT hZ (hw _ (List.mem_of_getElem? (i := 32) rfl))) (mvT hZ (hw _ (List.mem_of_getElem? (i := 33) rfl))) (notFace_of_selects (args := #[]) (mvT hZ (hw _ (List.mem_of_getElem? (i := 35) rfl)))) (mvT hZ (hw _ (List.mem_of_getElem? (i := 35) rfl))) (mvT hZ (hw _ (List.mem_of_getElem? (i := 34) rfl))) (by decide) (backOf (W := 0) (rmLast l Z a0 hw [] b71 A72 M72 lv72 (szN N) f75 (fun q => (fun q => (fun q => (fun _ => False) q ∨ q = P) q ∨ q = Q) q ∧ q ≠ R_) N N (own_ref2 (1 : Int32) (Int32.ofNat P) (0 : Int32) (Int32.ofNat Q) (Int32.ofNat N)) T75.heap n0 Zs75 Tr75 R75 (by omega) hszb (by omega) hN1 hM1 (by omega) hSN (fun q z => own_pt z _) (fun k hk P z => htop P (by rw [show M72 - 1 = k from by omega]; exact z)) (own_best2 (by omega) (by omega) (by omega) ⟨fun _ z => hc136 ((own_inj (by omega) (by omega)).mpr z), fun _ => by decide⟩ ⟨fun z => absurd rfl z, fun z => absurd ((own_inj (by omega) (by omega)).mp hc150) z⟩)) hZ (hw _ (List.mem_of_getElem? (i := 36) rfl)) (hw _ (List.mem_of_getElem? (i := 4) rfl)) (by decide) (by decide)) q94a q94c (g := (mkF m 187 #[.val (.int p0), .val (.int p1), .val (.int p2), .val (.int p3), .val (.int p4), .val (.int (Int32.ofNat N)), .val (.int (Int32.ofNat P)), .val (.int sp), .val (.int (Int32.ofNat Q)), .val (.int (p3 &&& (3 : Int32))), .val (.int (Int32.ofNat R_)), .val (.int (Int32.ofNat Xq)), .val (.ref b71), .val (.int (1 : Int32)), .val (.int (0 : Int32))] [(.int (Int32.ofNat N)), (.ref b71)])) rfl (by rw [hml]; rfl) (Steps.refl _) (argsL := [(.int (Int32.ofNat N))]) (rest := []) (lenOf pd_0 rfl) rfl (by show 2 * 0 + _ ≤ _; exact Nat.le_of_eq rfl) (hb hby at_187) (fun _ _ => ⟨rfl, ei93, (by decide : 0 + 1 + 4 + 0 + 0 + 0 + 0 + 0 + 0 ≤ _), (by decide : 0 + 1 + 134 + 0 + 0 + 0 + 0 + 0 + 0 ≤ _)⟩)
          dsimp only [Pt.U, Pt.locs, Pt.cells, Pt.slots] at X94 l94 y94 z94 st94 hQ94
          subst l94 y94 z94
          obtain ⟨rfl, Nq94, eh94⟩ := hQ94
          have N94 := Fr.app N93 Nq94
          refine Go.call st94 ?_
          show Go p e below T94 (mkF m 190 #[.val (.int p0), .val (.int p1), .val (.int p2), .val (.int p3), .val (.int p4), .val (.int (Int32.ofNat N)), .val (.int (Int32.ofNat P)), .val (.int sp), .val (.int (Int32.ofNat Q)), .val (.int (p3 &&& (3 : Int32))), .val (.int (Int32.ofNat R_)), .val (.int (Int32.ofNat Xq)), .val (.ref b71), .val (.int (1 : Int32)), .val (.int (0 : Int32))] [(.int (own_ref2 (1 : Int32) (Int32.ofNat P) (0 : Int32) (Int32.ofNat Q) (Int32.ofNat N)))]) _
          refine Go.step (fun _ => XS.iload X94.here hx rfl (hb hby at_190) rfl ) ?_
          show Go p e below T94 (mkF m 192 #[.val (.int p0), .val (.int p1), .val (.int p2), .val (.int p3), .val (.int p4), .val (.int (Int32.ofNat N)), .val (.int (Int32.ofNat P)), .val (.int sp), .val (.int (Int32.ofNat Q)), .val (.int (p3 &&& (3 : Int32))), .val (.int (Int32.ofNat R_)), .val (.int (Int32.ofNat Xq)), .val (.ref b71), .val (.int (1 : Int32)), .val (.int (0 : Int32))] [(.int (1 : Int32)), (.int (own_ref2 (1 : Int32) (Int32.ofNat P) (0 : Int32) (Int32.ofNat Q) (Int32.ofNat N)))]) _
          refine Go.step (fun _ => XS.iload X94.here hx rfl (hb hby at_192) rfl ) ?_
          show Go p e below T94 (mkF m 194 #[.val (.int p0), .val (.int p1), .val (.int p2), .val (.int p3), .val (.int p4), .val (.int (Int32.ofNat N)), .val (.int (Int32.ofNat P)), .val (.int sp), .val (.int (Int32.ofNat Q)), .val (.int (p3 &&& (3 : Int32))), .val (.int (Int32.ofNat R_)), .val (.int (Int32.ofNat Xq)), .val (.ref b71), .val (.int (1 : Int32)), .val (.int (0 : Int32))] [(.int (Int32.ofNat P)), (.int (1 : Int32)), (.int (own_ref2 (1 : Int32) (Int32.ofNat P) (0 : Int32) (Int32.ofNat Q) (Int32.ofNat N)))]) _
          refine Go.step (fun _ => XS.iload X94.here hx rfl (hb hby at_194) rfl ) ?_
          show Go p e below T94 (mkF m 196 #[.val (.int p0), .val (.int p1), .val (.int p2), .val (.int p3), .val (.int p4), .val (.int (Int32.ofNat N)), .val (.int (Int32.ofNat P)), .val (.int sp), .val (.int (Int32.ofNat Q)), .val (.int (p3 &&& (3 : Int32))), .val (.int (Int32.ofNat R_)), .val (.int (Int32.ofNat Xq)), .val (.ref b71), .val (.int (1 : Int32)), .val (.int (0 : Int32))] [(.int (0 : Int32)), (.int (Int32.ofNat P)), (.int (1 : Int32)), (.int (own_ref2 (1 : Int32) (Int32.ofNat P) (0 : Int32) (Int32.ofNat Q) (Int32.ofNat N)))]) _
          refine Go.step (fun _ => XS.iload X94.here hx rfl (hb hby at_196) rfl ) ?_
          show Go p e below T94 (mkF m 198 #[.val (.int p0), .val (.int p1), .val (.int p2), .val (.int p3), .val (.int p4), .val (.int (Int32.ofNat N)), .val (.int (Int32.ofNat P)), .val (.int sp), .val (.int (Int32.ofNat Q)), .val (.int (p3 &&& (3 : Int32))), .val (.int (Int32.ofNat R_)), .val (.int (Int32.ofNat Xq)), .val (.ref b71), .val (.int (1 : Int32)), .val (.int (0 : Int32))] [(.int (Int32.ofNat Q)), (.int (0 : Int32)), (.int (Int32.ofNat P)), (.int (1 : Int32)), (.int (own_ref2 (1 : Int32) (Int32.ofNat P) (0 : Int32) (Int32.ofNat Q) (Int32.ofNat N)))]) _
          refine Go.step (fun _ => XS.iload X94.here hx rfl (hb hby at_198) rfl ) ?_
          show Go p e below T94 (mkF m 200 #[.val (.int p0), .val (.int p1), .val (.int p2), .val (.int p3), .val (.int p4), .val (.int (Int32.ofNat N)), .val (.int (Int32.ofNat P)), .val (.int sp), .val (.int (Int32.ofNat Q)), .val (.int (p3 &&& (3 : Int32))), .val (.int (Int32.ofNat R_)), .val (.int (Int32.ofNat Xq)), .val (.ref b71), .val (.int (1 : Int32)), .val (.int (0 : Int32))] [(.int (Int32.ofNat N)), (.int (Int32.ofNat Q)), (.int (0 : Int32)), (.int (Int32.ofNat P)), (.int (1 : Int32)), (.int (own_ref2 (1 : Int32) (Int32.ofNat P) (0 : Int32) (Int32.ofNat Q) (Int32.ofNat N)))]) _
          obtain ⟨_, _, ⟨T95, L95, k95, n95⟩, -, X95, ⟨Lc95, hQ95, l95, y95, z95⟩, st95⟩ := Jvm.LawKit.callS X94 hx (y := (⟨"com/example/maxhue/maxhue/PointSetRemovePinLaw", "ref", "(ZIZII)I"⟩ : MethodName)) hown (mvT hZ (hw _ (List.mem_of_getElem? (i := 37) rfl))) (mvT hZ (hw _ (List.mem_of_getElem? (i := 38) rfl))) (mvT hZ (hw _ (List.mem_of_getElem? (i := 39) rfl))) (mvT hZ (hw _ (List.mem_of_getElem? (i := 40) rfl))) (by decide) (backOf (W := 1) (rmRef l Z a0 hw [] (1 : Int32) (Int32.ofNat P) (0 : Int32) (Int32.ofNat Q) (Int32.ofNat N) T75.heap n0 Zs75) hZ (hw _ (List.mem_of_getElem? (i := 40) rfl)) (hw _ (List.mem_of_getElem? (i := 39) rfl)) (by decide) (by decide)) (g := (mkF m 200 #[.val (.int p0), .val (.int p1), .val (.int p2), .val (.int p3), .val (.int p4), .val (.int (Int32.ofNat N)), .val (.int (Int32.ofNat P)), .val (.int sp), .val (.int (Int32.ofNat Q)), .val (.int (p3 &&& (3 : Int32))), .val (.int (Int32.ofNat R_)), .val (.int (Int32.ofNat Xq)), .val (.ref b71), .val (.int (1 : Int32)), .val (.int (0 : Int32))] [(.int (Int32.ofNat N)), (.int (Int32.ofNat Q)), (.int (0 : Int32)), (.int (Int32.ofNat P)), (.int (1 : Int32)), (.int (own_ref2 (1 : Int32) (Int32.ofNat P) (0 : Int32) (Int32.ofNat Q) (Int32.ofNat N)))])) rfl (by rw [hml]; rfl) (argsL := [(.int (1 : Int32)), (.int (Int32.ofNat P)), (.int (0 : Int32)), (.int (Int32.ofNat Q)), (.int (Int32.ofNat N))]) (rest := [(.int (own_ref2 (1 : Int32) (Int32.ofNat P) (0 : Int32) (Int32.ofNat Q) (Int32.ofNat N)))]) (lenOf pd_4 rfl) rfl (by show 2 * 0 + _ ≤ _; exact Nat.le_of_eq rfl) (hb hby at_200) (fun _ _ => ⟨rfl, eh94, (by decide : 0 + 1 + 4 + 0 + 0 + 0 + 0 + 0 + 0 + 0 ≤ _), (by decide : 0 + 1 + 134 + 0 + 0 + 0 + 0 + 0 + 0 + 0 ≤ _)⟩)
          dsimp only [Pt.U, Pt.locs, Pt.cells, Pt.slots] at X95 l95 y95 z95 st95 hQ95
          subst l95 y95 z95
          obtain ⟨rfl, Nq95, ei95⟩ := hQ95
          have N95 := Fr.app N94 Nq95
          refine Go.step st95 ?_
          show Go p e below T95 (mkF m 203 #[.val (.int p0), .val (.int p1), .val (.int p2), .val (.int p3), .val (.int p4), .val (.int (Int32.ofNat N)), .val (.int (Int32.ofNat P)), .val (.int sp), .val (.int (Int32.ofNat Q)), .val (.int (p3 &&& (3 : Int32))), .val (.int (Int32.ofNat R_)), .val (.int (Int32.ofNat Xq)), .val (.ref b71), .val (.int (1 : Int32)), .val (.int (0 : Int32))] [(.int (own_ref2 (1 : Int32) (Int32.ofNat P) (0 : Int32) (Int32.ofNat Q) (Int32.ofNat N))), (.int (own_ref2 (1 : Int32) (Int32.ofNat P) (0 : Int32) (Int32.ofNat Q) (Int32.ofNat N)))]) _
          refine Go.step (fun _ => XS.icmpNo X95.here hx rfl (hb hby at_203) rfl (teq rfl).2) ?_
          show Go p e below T95 (mkF m 206 #[.val (.int p0), .val (.int p1), .val (.int p2), .val (.int p3), .val (.int p4), .val (.int (Int32.ofNat N)), .val (.int (Int32.ofNat P)), .val (.int sp), .val (.int (Int32.ofNat Q)), .val (.int (p3 &&& (3 : Int32))), .val (.int (Int32.ofNat R_)), .val (.int (Int32.ofNat Xq)), .val (.ref b71), .val (.int (1 : Int32)), .val (.int (0 : Int32))] []) _
          refine Go.step (fun _ => XS.aload X95.here hx rfl (hb hby at_206) rfl rfl ) ?_
          show Go p e below T95 (mkF m 208 #[.val (.int p0), .val (.int p1), .val (.int p2), .val (.int p3), .val (.int p4), .val (.int (Int32.ofNat N)), .val (.int (Int32.ofNat P)), .val (.int sp), .val (.int (Int32.ofNat Q)), .val (.int (p3 &&& (3 : Int32))), .val (.int (Int32.ofNat R_)), .val (.int (Int32.ofNat Xq)), .val (.ref b71), .val (.int (1 : Int32)), .val (.int (0 : Int32))] [(.ref b71)]) _
          refine Go.step (fun _ => XS.iload X95.here hx rfl (hb hby at_208) rfl ) ?_
          show Go p e below T95 (mkF m 210 #[.val (.int p0), .val (.int p1), .val (.int p2), .val (.int p3), .val (.int p4), .val (.int (Int32.ofNat N)), .val (.int (Int32.ofNat P)), .val (.int sp), .val (.int (Int32.ofNat Q)), .val (.int (p3 &&& (3 : Int32))), .val (.int (Int32.ofNat R_)), .val (.int (Int32.ofNat Xq)), .val (.ref b71), .val (.int (1 : Int32)), .val (.int (0 : Int32))] [(.int (Int32.ofNat P)), (.ref b71)]) _
          refine Go.step (fun _ => XS.iconst X95.here hx rfl (hb hby at_210)) ?_
          show Go p e below T95 (mkF m 211 #[.val (.int p0), .val (.int p1), .val (.int p2), .val (.int p3), .val (.int p4), .val (.int (Int32.ofNat N)), .val (.int (Int32.ofNat P)), .val (.int sp), .val (.int (Int32.ofNat Q)), .val (.int (p3 &&& (3 : Int32))), .val (.int (Int32.ofNat R_)), .val (.int (Int32.ofNat Xq)), .val (.ref b71), .val (.int (1 : Int32)), .val (.int (0 : Int32))] [(.int (1 : Int32)), (.int (Int32.ofNat P)), (.ref b71)]) _
          refine Go.step (fun _ => XS.iadd X95.here hx rfl (hb hby at_211) rfl) ?_
          show Go p e below T95 (mkF m 212 #[.val (.int p0), .val (.int p1), .val (.int p2), .val (.int p3), .val (.int p4), .val (.int (Int32.ofNat N)), .val (.int (Int32.ofNat P)), .val (.int sp), .val (.int (Int32.ofNat Q)), .val (.int (p3 &&& (3 : Int32))), .val (.int (Int32.ofNat R_)), .val (.int (Int32.ofNat Xq)), .val (.ref b71), .val (.int (1 : Int32)), .val (.int (0 : Int32))] [(.int ((Int32.ofNat P) + (1 : Int32))), (.ref b71)]) _
          rw [show Int32.ofNat P + (1 : Int32) = Int32.ofNat (P + 1) from own_add P 1]
          show Go p e below T95 (mkF m 212 #[.val (.int p0), .val (.int p1), .val (.int p2), .val (.int p3), .val (.int p4), .val (.int (Int32.ofNat N)), .val (.int (Int32.ofNat P)), .val (.int sp), .val (.int (Int32.ofNat Q)), .val (.int (p3 &&& (3 : Int32))), .val (.int (Int32.ofNat R_)), .val (.int (Int32.ofNat Xq)), .val (.ref b71), .val (.int (1 : Int32)), .val (.int (0 : Int32))] [(.int (Int32.ofNat (P + 1))), (.ref b71)]) _
          obtain ⟨cq96, kq96, q96a, q96b, q96c⟩ := isOf hZ ei95 Tr75.1
          obtain ⟨_, _, ⟨T96, L96, k96, n96⟩, -, X96, ⟨Lc96, hQ96, l96, y96, z96⟩, st96⟩ := X95.virtualBack hx (y := (⟨"com/example/maxhue/maxhue/PointSet", "lastBelow", "(I)I"⟩ : MethodName)) (z := (⟨"com/example/maxhue/maxhue/PointSet", "lastBelow", "(I)I"⟩ : MethodName)) hown (mvT hZ (hw _ (List.mem_of_getElem? (i := 32) rfl))) (mvT hZ (hw _ (List.mem_of_getElem? (i := 33) rfl))) (notFace_of_selects (args := #[]) (mvT hZ (hw _ (List.mem_of_getElem? (i := 35) rfl)))) (mvT hZ (hw _ (List.mem_of_getElem? (i := 35) rfl))) (mvT hZ (hw _ (List.mem_of_getElem? (i := 34) rfl))) (by decide) (backOf (W := 0) (rmLast l Z a0 hw [] b71 A72 M72 lv72 (szN N) f75 (fun q => (fun q => (fun q => (fun _ => False) q ∨ q = P) q ∨ q = Q) q ∧ q ≠ R_) N (P + 1) (own_ref2 (1 : Int32) (Int32.ofNat P) (0 : Int32) (Int32.ofNat Q) (Int32.ofNat (P + 1))) T75.heap n0 Zs75 Tr75 R75 (by omega) hszb (by omega) hN1 hM1 (by omega) hSN (fun q z => own_pt z _) (fun k hk P z => htop P (by rw [show M72 - 1 = k from by omega]; exact z)) (own_best2 (by omega) (by omega) (by omega) ⟨fun _ z => hc136 ((own_inj (by omega) (by omega)).mpr z), fun _ => by decide⟩ ⟨fun z => absurd rfl z, fun z => absurd ((own_inj (by omega) (by omega)).mp hc150) z⟩)) hZ (hw _ (List.mem_of_getElem? (i := 36) rfl)) (hw _ (List.mem_of_getElem? (i := 4) rfl)) (by decide) (by decide)) q96a q96c (g := (mkF m 212 #[.val (.int p0), .val (.int p1), .val (.int p2), .val (.int p3), .val (.int p4), .val (.int (Int32.ofNat N)), .val (.int (Int32.ofNat P)), .val (.int sp), .val (.int (Int32.ofNat Q)), .val (.int (p3 &&& (3 : Int32))), .val (.int (Int32.ofNat R_)), .val (.int (Int32.ofNat Xq)), .val (.ref b71), .val (.int (1 : Int32)), .val (.int (0 : Int32))] [(.int (Int32.ofNat (P + 1))), (.ref b71)])) rfl (by rw [hml]; rfl) (Steps.refl _) (argsL := [(.int (Int32.ofNat (P + 1)))]) (rest := []) (lenOf pd_0 rfl) rfl (by show 2 * 0 + _ ≤ _; exact Nat.le_of_eq rfl) (hb hby at_212) (fun _ _ => ⟨rfl, ei95, (by decide : 0 + 1 + 4 + 0 + 0 + 0 + 0 + 0 + 0 + 0 + 0 ≤ _), (by decide : 0 + 1 + 134 + 0 + 0 + 0 + 0 + 0 + 0 + 0 + 0 ≤ _)⟩)
          dsimp only [Pt.U, Pt.locs, Pt.cells, Pt.slots] at X96 l96 y96 z96 st96 hQ96
          subst l96 y96 z96
          obtain ⟨rfl, Nq96, eh96⟩ := hQ96
          have N96 := Fr.app N95 Nq96
          refine Go.call st96 ?_
          show Go p e below T96 (mkF m 215 #[.val (.int p0), .val (.int p1), .val (.int p2), .val (.int p3), .val (.int p4), .val (.int (Int32.ofNat N)), .val (.int (Int32.ofNat P)), .val (.int sp), .val (.int (Int32.ofNat Q)), .val (.int (p3 &&& (3 : Int32))), .val (.int (Int32.ofNat R_)), .val (.int (Int32.ofNat Xq)), .val (.ref b71), .val (.int (1 : Int32)), .val (.int (0 : Int32))] [(.int (own_ref2 (1 : Int32) (Int32.ofNat P) (0 : Int32) (Int32.ofNat Q) (Int32.ofNat (P + 1))))]) _
          refine Go.step (fun _ => XS.iload X96.here hx rfl (hb hby at_215) rfl ) ?_
          show Go p e below T96 (mkF m 217 #[.val (.int p0), .val (.int p1), .val (.int p2), .val (.int p3), .val (.int p4), .val (.int (Int32.ofNat N)), .val (.int (Int32.ofNat P)), .val (.int sp), .val (.int (Int32.ofNat Q)), .val (.int (p3 &&& (3 : Int32))), .val (.int (Int32.ofNat R_)), .val (.int (Int32.ofNat Xq)), .val (.ref b71), .val (.int (1 : Int32)), .val (.int (0 : Int32))] [(.int (1 : Int32)), (.int (own_ref2 (1 : Int32) (Int32.ofNat P) (0 : Int32) (Int32.ofNat Q) (Int32.ofNat (P + 1))))]) _
          refine Go.step (fun _ => XS.iload X96.here hx rfl (hb hby at_217) rfl ) ?_
          show Go p e below T96 (mkF m 219 #[.val (.int p0), .val (.int p1), .val (.int p2), .val (.int p3), .val (.int p4), .val (.int (Int32.ofNat N)), .val (.int (Int32.ofNat P)), .val (.int sp), .val (.int (Int32.ofNat Q)), .val (.int (p3 &&& (3 : Int32))), .val (.int (Int32.ofNat R_)), .val (.int (Int32.ofNat Xq)), .val (.ref b71), .val (.int (1 : Int32)), .val (.int (0 : Int32))] [(.int (Int32.ofNat P)), (.int (1 : Int32)), (.int (own_ref2 (1 : Int32) (Int32.ofNat P) (0 : Int32) (Int32.ofNat Q) (Int32.ofNat (P + 1))))]) _
          refine Go.step (fun _ => XS.iload X96.here hx rfl (hb hby at_219) rfl ) ?_
          show Go p e below T96 (mkF m 221 #[.val (.int p0), .val (.int p1), .val (.int p2), .val (.int p3), .val (.int p4), .val (.int (Int32.ofNat N)), .val (.int (Int32.ofNat P)), .val (.int sp), .val (.int (Int32.ofNat Q)), .val (.int (p3 &&& (3 : Int32))), .val (.int (Int32.ofNat R_)), .val (.int (Int32.ofNat Xq)), .val (.ref b71), .val (.int (1 : Int32)), .val (.int (0 : Int32))] [(.int (0 : Int32)), (.int (Int32.ofNat P)), (.int (1 : Int32)), (.int (own_ref2 (1 : Int32) (Int32.ofNat P) (0 : Int32) (Int32.ofNat Q) (Int32.ofNat (P + 1))))]) _
          refine Go.step (fun _ => XS.iload X96.here hx rfl (hb hby at_221) rfl ) ?_
          show Go p e below T96 (mkF m 223 #[.val (.int p0), .val (.int p1), .val (.int p2), .val (.int p3), .val (.int p4), .val (.int (Int32.ofNat N)), .val (.int (Int32.ofNat P)), .val (.int sp), .val (.int (Int32.ofNat Q)), .val (.int (p3 &&& (3 : Int32))), .val (.int (Int32.ofNat R_)), .val (.int (Int32.ofNat Xq)), .val (.ref b71), .val (.int (1 : Int32)), .val (.int (0 : Int32))] [(.int (Int32.ofNat Q)), (.int (0 : Int32)), (.int (Int32.ofNat P)), (.int (1 : Int32)), (.int (own_ref2 (1 : Int32) (Int32.ofNat P) (0 : Int32) (Int32.ofNat Q) (Int32.ofNat (P + 1))))]) _
          refine Go.step (fun _ => XS.iload X96.here hx rfl (hb hby at_223) rfl ) ?_
          show Go p e below T96 (mkF m 225 #[.val (.int p0), .val (.int p1), .val (.int p2), .val (.int p3), .val (.int p4), .val (.int (Int32.ofNat N)), .val (.int (Int32.ofNat P)), .val (.int sp), .val (.int (Int32.ofNat Q)), .val (.int (p3 &&& (3 : Int32))), .val (.int (Int32.ofNat R_)), .val (.int (Int32.ofNat Xq)), .val (.ref b71), .val (.int (1 : Int32)), .val (.int (0 : Int32))] [(.int (Int32.ofNat P)), (.int (Int32.ofNat Q)), (.int (0 : Int32)), (.int (Int32.ofNat P)), (.int (1 : Int32)), (.int (own_ref2 (1 : Int32) (Int32.ofNat P) (0 : Int32) (Int32.ofNat Q) (Int32.ofNat (P + 1))))]) _
          refine Go.step (fun _ => XS.iconst X96.here hx rfl (hb hby at_225)) ?_
          show Go p e below T96 (mkF m 226 #[.val (.int p0), .val (.int p1), .val (.int p2), .val (.int p3), .val (.int p4), .val (.int (Int32.ofNat N)), .val (.int (Int32.ofNat P)), .val (.int sp), .val (.int (Int32.ofNat Q)), .val (.int (p3 &&& (3 : Int32))), .val (.int (Int32.ofNat R_)), .val (.int (Int32.ofNat Xq)), .val (.ref b71), .val (.int (1 : Int32)), .val (.int (0 : Int32))] [(.int (1 : Int32)), (.int (Int32.ofNat P)), (.int (Int32.ofNat Q)), (.int (0 : Int32)), (.int (Int32.ofNat P)), (.int (1 : Int32)), (.int (own_ref2 (1 : Int32) (Int32.ofNat P) (0 : Int32) (Int32.ofNat Q) (Int32.ofNat (P + 1))))]) _
          refine Go.step (fun _ => XS.iadd X96.here hx rfl (hb hby at_226) rfl) ?_
          show Go p e below T96 (mkF m 227 #[.val (.int p0), .val (.int p1), .val (.int p2), .val (.int p3), .val (.int p4), .val (.int (Int32.ofNat N)), .val (.int (Int32.ofNat P)), .val (.int sp), .val (.int (Int32.ofNat Q)), .val (.int (p3 &&& (3 : Int32))), .val (.int (Int32.ofNat R_)), .val (.int (Int32.ofNat Xq)), .val (.ref b71), .val (.int (1 : Int32)), .val (.int (0 : Int32))] [(.int ((Int32.ofNat P) + (1 : Int32))), (.int (Int32.ofNat Q)), (.int (0 : Int32)), (.int (Int32.ofNat P)), (.int (1 : Int32)), (.int (own_ref2 (1 : Int32) (Int32.ofNat P) (0 : Int32) (Int32.ofNat Q) (Int32.ofNat (P + 1))))]) _
          rw [show Int32.ofNat P + (1 : Int32) = Int32.ofNat (P + 1) from own_add P 1]
          show Go p e below T96 (mkF m 227 #[.val (.int p0), .val (.int p1), .val (.int p2), .val (.int p3), .val (.int p4), .val (.int (Int32.ofNat N)), .val (.int (Int32.ofNat P)), .val (.int sp), .val (.int (Int32.ofNat Q)), .val (.int (p3 &&& (3 : Int32))), .val (.int (Int32.ofNat R_)), .val (.int (Int32.ofNat Xq)), .val (.ref b71), .val (.int (1 : Int32)), .val (.int (0 : Int32))] [(.int (Int32.ofNat (P + 1))), (.int (Int32.ofNat Q)), (.int (0 : Int32)), (.int (Int32.ofNat P)), (.int (1 : Int32)), (.int (own_ref2 (1 : Int32) (Int32.ofNat P) (0 : Int32) (Int32.ofNat Q) (Int32.ofNat (P + 1))))]) _
          obtain ⟨_, _, ⟨T97, L97, k97, n97⟩, -, X97, ⟨Lc97, hQ97, l97, y97, z97⟩, st97⟩ := Jvm.LawKit.callS X96 hx (y := (⟨"com/example/maxhue/maxhue/PointSetRemovePinLaw", "ref", "(ZIZII)I"⟩ : MethodName)) hown (mvT hZ (hw _ (List.mem_of_getElem? (i := 37) rfl))) (mvT hZ (hw _ (List.mem_of_getElem? (i := 38) rfl))) (mvT hZ (hw _ (List.mem_of_getElem? (i := 39) rfl))) (mvT hZ (hw _ (List.mem_of_getElem? (i := 40) rfl))) (by decide) (backOf (W := 1) (rmRef l Z a0 hw [] (1 : Int32) (Int32.ofNat P) (0 : Int32) (Int32.ofNat Q) (Int32.ofNat (P + 1)) T75.heap n0 Zs75) hZ (hw _ (List.mem_of_getElem? (i := 40) rfl)) (hw _ (List.mem_of_getElem? (i := 39) rfl)) (by decide) (by decide)) (g := (mkF m 227 #[.val (.int p0), .val (.int p1), .val (.int p2), .val (.int p3), .val (.int p4), .val (.int (Int32.ofNat N)), .val (.int (Int32.ofNat P)), .val (.int sp), .val (.int (Int32.ofNat Q)), .val (.int (p3 &&& (3 : Int32))), .val (.int (Int32.ofNat R_)), .val (.int (Int32.ofNat Xq)), .val (.ref b71), .val (.int (1 : Int32)), .val (.int (0 : Int32))] [(.int (Int32.ofNat (P + 1))), (.int (Int32.ofNat Q)), (.int (0 : Int32)), (.int (Int32.ofNat P)), (.int (1 : Int32)), (.int (own_ref2 (1 : Int32) (Int32.ofNat P) (0 : Int32) (Int32.ofNat Q) (Int32.ofNat (P + 1))))])) rfl (by rw [hml]; rfl) (argsL := [(.int (1 : Int32)), (.int (Int32.ofNat P)), (.int (0 : Int32)), (.int (Int32.ofNat Q)), (.int (Int32.ofNat (P + 1)))]) (rest := [(.int (own_ref2 (1 : Int32) (Int32.ofNat P) (0 : Int32) (Int32.ofNat Q) (Int32.ofNat (P + 1))))]) (lenOf pd_4 rfl) rfl (by show 2 * 0 + _ ≤ _; exact Nat.le_of_eq rfl) (hb hby at_227) (fun _ _ => ⟨rfl, eh96, (by decide : 0 + 1 + 4 + 0 + 0 + 0 + 0 + 0 + 0 + 0 + 0 + 0 ≤ _), (by decide : 0 + 1 + 134 + 0 + 0 + 0 + 0 + 0 + 0 + 0 + 0 + 0 ≤ _)⟩)
          dsimp only [Pt.U, Pt.locs, Pt.cells, Pt.slots] at X97 l97 y97 z97 st97 hQ97
          subst l97 y97 z97
          obtain ⟨rfl, Nq97, ei97⟩ := hQ97
          have N97 := Fr.app N96 Nq97
          refine Go.step st97 ?_
          show Go p e below T97 (mkF m 230 #[.val (.int p0), .val (.int p1), .val (.int p2), .val (.int p3), .val (.int p4), .val (.int (Int32.ofNat N)), .val (.int (Int32.ofNat P)), .val (.int sp), .val (.int (Int32.ofNat Q)), .val (.int (p3 &&& (3 : Int32))), .val (.int (Int32.ofNat R_)), .val (.int (Int32.ofNat Xq)), .val (.ref b71), .val (.int (1 : Int32)), .val (.int (0 : Int32))] [(.int (own_ref2 (1 : Int32) (Int32.ofNat P) (0 : Int32) (Int32.ofNat Q) (Int32.ofNat (P + 1)))), (.int (own_ref2 (1 : Int32) (Int32.ofNat P) (0 : Int32) (Int32.ofNat Q) (Int32.ofNat (P + 1))))]) _
          refine Go.step (fun _ => XS.icmpNo X97.here hx rfl (hb hby at_230) rfl (teq rfl).2) ?_
          show Go p e below T97 (mkF m 233 #[.val (.int p0), .val (.int p1), .val (.int p2), .val (.int p3), .val (.int p4), .val (.int (Int32.ofNat N)), .val (.int (Int32.ofNat P)), .val (.int sp), .val (.int (Int32.ofNat Q)), .val (.int (p3 &&& (3 : Int32))), .val (.int (Int32.ofNat R_)), .val (.int (Int32.ofNat Xq)), .val (.ref b71), .val (.int (1 : Int32)), .val (.int (0 : Int32))] []) _
          refine Go.step (fun _ => XS.aload X97.here hx rfl (hb hby at_233) rfl rfl ) ?_
          show Go p e below T97 (mkF m 235 #[.val (.int p0), .val (.int p1), .val (.int p2), .val (.int p3), .val (.int p4), .val (.int (Int32.ofNat N)), .val (.int (Int32.ofNat P)), .val (.int sp), .val (.int (Int32.ofNat Q)), .val (.int (p3 &&& (3 : Int32))), .val (.int (Int32.ofNat R_)), .val (.int (Int32.ofNat Xq)), .val (.ref b71), .val (.int (1 : Int32)), .val (.int (0 : Int32))] [(.ref b71)]) _
          refine Go.step (fun _ => XS.iload X97.here hx rfl (hb hby at_235) rfl ) ?_
          show Go p e below T97 (mkF m 237 #[.val (.int p0), .val (.int p1), .val (.int p2), .val (.int p3), .val (.int p4), .val (.int (Int32.ofNat N)), .val (.int (Int32.ofNat P)), .val (.int sp), .val (.int (Int32.ofNat Q)), .val (.int (p3 &&& (3 : Int32))), .val (.int (Int32.ofNat R_)), .val (.int (Int32.ofNat Xq)), .val (.ref b71), .val (.int (1 : Int32)), .val (.int (0 : Int32))] [(.int (Int32.ofNat Q)), (.ref b71)]) _
          refine Go.step (fun _ => XS.iconst X97.here hx rfl (hb hby at_237)) ?_
          show Go p e below T97 (mkF m 238 #[.val (.int p0), .val (.int p1), .val (.int p2), .val (.int p3), .val (.int p4), .val (.int (Int32.ofNat N)), .val (.int (Int32.ofNat P)), .val (.int sp), .val (.int (Int32.ofNat Q)), .val (.int (p3 &&& (3 : Int32))), .val (.int (Int32.ofNat R_)), .val (.int (Int32.ofNat Xq)), .val (.ref b71), .val (.int (1 : Int32)), .val (.int (0 : Int32))] [(.int (1 : Int32)), (.int (Int32.ofNat Q)), (.ref b71)]) _
          refine Go.step (fun _ => XS.iadd X97.here hx rfl (hb hby at_238) rfl) ?_
          show Go p e below T97 (mkF m 239 #[.val (.int p0), .val (.int p1), .val (.int p2), .val (.int p3), .val (.int p4), .val (.int (Int32.ofNat N)), .val (.int (Int32.ofNat P)), .val (.int sp), .val (.int (Int32.ofNat Q)), .val (.int (p3 &&& (3 : Int32))), .val (.int (Int32.ofNat R_)), .val (.int (Int32.ofNat Xq)), .val (.ref b71), .val (.int (1 : Int32)), .val (.int (0 : Int32))] [(.int ((Int32.ofNat Q) + (1 : Int32))), (.ref b71)]) _
          rw [show Int32.ofNat Q + (1 : Int32) = Int32.ofNat (Q + 1) from own_add Q 1]
          show Go p e below T97 (mkF m 239 #[.val (.int p0), .val (.int p1), .val (.int p2), .val (.int p3), .val (.int p4), .val (.int (Int32.ofNat N)), .val (.int (Int32.ofNat P)), .val (.int sp), .val (.int (Int32.ofNat Q)), .val (.int (p3 &&& (3 : Int32))), .val (.int (Int32.ofNat R_)), .val (.int (Int32.ofNat Xq)), .val (.ref b71), .val (.int (1 : Int32)), .val (.int (0 : Int32))] [(.int (Int32.ofNat (Q + 1))), (.ref b71)]) _
          obtain ⟨cq98, kq98, q98a, q98b, q98c⟩ := isOf hZ ei97 Tr75.1
          obtain ⟨_, _, ⟨T98, L98, k98, n98⟩, -, X98, ⟨Lc98, hQ98, l98, y98, z98⟩, st98⟩ := X97.virtualBack hx (y := (⟨"com/example/maxhue/maxhue/PointSet", "lastBelow", "(I)I"⟩ : MethodName)) (z := (⟨"com/example/maxhue/maxhue/PointSet", "lastBelow", "(I)I"⟩ : MethodName)) hown (mvT hZ (hw _ (List.mem_of_getElem? (i := 32) rfl))) (mvT hZ (hw _ (List.mem_of_getElem? (i := 33) rfl))) (notFace_of_selects (args := #[]) (mvT hZ (hw _ (List.mem_of_getElem? (i := 35) rfl)))) (mvT hZ (hw _ (List.mem_of_getElem? (i := 35) rfl))) (mvT hZ (hw _ (List.mem_of_getElem? (i := 34) rfl))) (by decide) (backOf (W := 0) (rmLast l Z a0 hw [] b71 A72 M72 lv72 (szN N) f75 (fun q => (fun q => (fun q => (fun _ => False) q ∨ q = P) q ∨ q = Q) q ∧ q ≠ R_) N (Q + 1) (own_ref2 (1 : Int32) (Int32.ofNat P) (0 : Int32) (Int32.ofNat Q) (Int32.ofNat (Q + 1))) T75.heap n0 Zs75 Tr75 R75 (by omega) hszb (by omega) hN1 hM1 (by omega) hSN (fun q z => own_pt z _) (fun k hk P z => htop P (by rw [show M72 - 1 = k from by omega]; exact z)) (own_best2 (by omega) (by omega) (by omega) ⟨fun _ z => hc136 ((own_inj (by omega) (by omega)).mpr z), fun _ => by decide⟩ ⟨fun z => absurd rfl z, fun z => absurd ((own_inj (by omega) (by omega)).mp hc150) z⟩)) hZ (hw _ (List.mem_of_getElem? (i := 36) rfl)) (hw _ (List.mem_of_getElem? (i := 4) rfl)) (by decide) (by decide)) q98a q98c (g := (mkF m 239 #[.val (.int p0), .val (.int p1), .val (.int p2), .val (.int p3), .val (.int p4), .val (.int (Int32.ofNat N)), .val (.int (Int32.ofNat P)), .val (.int sp), .val (.int (Int32.ofNat Q)), .val (.int (p3 &&& (3 : Int32))), .val (.int (Int32.ofNat R_)), .val (.int (Int32.ofNat Xq)), .val (.ref b71), .val (.int (1 : Int32)), .val (.int (0 : Int32))] [(.int (Int32.ofNat (Q + 1))), (.ref b71)])) rfl (by rw [hml]; rfl) (Steps.refl _) (argsL := [(.int (Int32.ofNat (Q + 1)))]) (rest := []) (lenOf pd_0 rfl) rfl (by show 2 * 0 + _ ≤ _; exact Nat.le_of_eq rfl) (hb hby at_239) (fun _ _ => ⟨rfl, ei97, (by decide : 0 + 1 + 4 + 0 + 0 + 0 + 0 + 0 + 0 + 0 + 0 + 0 + 0 ≤ _), (by decide : 0 + 1 + 134 + 0 + 0 + 0 + 0 + 0 + 0 + 0 + 0 + 0 + 0 ≤ _)⟩)
          dsimp only [Pt.U, Pt.locs, Pt.cells, Pt.slots] at X98 l98 y98 z98 st98 hQ98
          subst l98 y98 z98
          obtain ⟨rfl, Nq98, eh98⟩ := hQ98
          have N98 := Fr.app N97 Nq98
          refine Go.call st98 ?_
          show Go p e below T98 (mkF m 242 #[.val (.int p0), .val (.int p1), .val (.int p2), .val (.int p3), .val (.int p4), .val (.int (Int32.ofNat N)), .val (.int (Int32.ofNat P)), .val (.int sp), .val (.int (Int32.ofNat Q)), .val (.int (p3 &&& (3 : Int32))), .val (.int (Int32.ofNat R_)), .val (.int (Int32.ofNat Xq)), .val (.ref b71), .val (.int (1 : Int32)), .val (.int (0 : Int32))] [(.int (own_ref2 (1 : Int32) (Int32.ofNat P) (0 : Int32) (Int32.ofNat Q) (Int32.ofNat (Q + 1))))]) _
          refine Go.step (fun _ => XS.iload X98.here hx rfl (hb hby at_242) rfl ) ?_
          show Go p e below T98 (mkF m 244 #[.val (.int p0), .val (.int p1), .val (.int p2), .val (.int p3), .val (.int p4), .val (.int (Int32.ofNat N)), .val (.int (Int32.ofNat P)), .val (.int sp), .val (.int (Int32.ofNat Q)), .val (.int (p3 &&& (3 : Int32))), .val (.int (Int32.ofNat R_)), .val (.int (Int32.ofNat Xq)), .val (.ref b71), .val (.int (1 : Int32)), .val (.int (0 : Int32))] [(.int (1 : Int32)), (.int (own_ref2 (1 : Int32) (Int32.ofNat P) (0 : Int32) (Int32.ofNat Q) (Int32.ofNat (Q + 1))))]) _
          refine Go.step (fun _ => XS.iload X98.here hx rfl (hb hby at_244) rfl ) ?_
          show Go p e below T98 (mkF m 246 #[.val (.int p0), .val (.int p1), .val (.int p2), .val (.int p3), .val (.int p4), .val (.int (Int32.ofNat N)), .val (.int (Int32.ofNat P)), .val (.int sp), .val (.int (Int32.ofNat Q)), .val (.int (p3 &&& (3 : Int32))), .val (.int (Int32.ofNat R_)), .val (.int (Int32.ofNat Xq)), .val (.ref b71), .val (.int (1 : Int32)), .val (.int (0 : Int32))] [(.int (Int32.ofNat P)), (.int (1 : Int32)), (.int (own_ref2 (1 : Int32) (Int32.ofNat P) (0 : Int32) (Int32.ofNat Q) (Int32.ofNat (Q + 1))))]) _
          refine Go.step (fun _ => XS.iload X98.here hx rfl (hb hby at_246) rfl ) ?_
          show Go p e below T98 (mkF m 248 #[.val (.int p0), .val (.int p1), .val (.int p2), .val (.int p3), .val (.int p4), .val (.int (Int32.ofNat N)), .val (.int (Int32.ofNat P)), .val (.int sp), .val (.int (Int32.ofNat Q)), .val (.int (p3 &&& (3 : Int32))), .val (.int (Int32.ofNat R_)), .val (.int (Int32.ofNat Xq)), .val (.ref b71), .val (.int (1 : Int32)), .val (.int (0 : Int32))] [(.int (0 : Int32)), (.int (Int32.ofNat P)), (.int (1 : Int32)), (.int (own_ref2 (1 : Int32) (Int32.ofNat P) (0 : Int32) (Int32.ofNat Q) (Int32.ofNat (Q + 1))))]) _
          refine Go.step (fun _ => XS.iload X98.here hx rfl (hb hby at_248) rfl ) ?_
          show Go p e below T98 (mkF m 250 #[.val (.int p0), .val (.int p1), .val (.int p2), .val (.int p3), .val (.int p4), .val (.int (Int32.ofNat N)), .val (.int (Int32.ofNat P)), .val (.int sp), .val (.int (Int32.ofNat Q)), .val (.int (p3 &&& (3 : Int32))), .val (.int (Int32.ofNat R_)), .val (.int (Int32.ofNat Xq)), .val (.ref b71), .val (.int (1 : Int32)), .val (.int (0 : Int32))] [(.int (Int32.ofNat Q)), (.int (0 : Int32)), (.int (Int32.ofNat P)), (.int (1 : Int32)), (.int (own_ref2 (1 : Int32) (Int32.ofNat P) (0 : Int32) (Int32.ofNat Q) (Int32.ofNat (Q + 1))))]) _
          refine Go.step (fun _ => XS.iload X98.here hx rfl (hb hby at_250) rfl ) ?_
          show Go p e below T98 (mkF m 252 #[.val (.int p0), .val (.int p1), .val (.int p2), .val (.int p3), .val (.int p4), .val (.int (Int32.ofNat N)), .val (.int (Int32.ofNat P)), .val (.int sp), .val (.int (Int32.ofNat Q)), .val (.int (p3 &&& (3 : Int32))), .val (.int (Int32.ofNat R_)), .val (.int (Int32.ofNat Xq)), .val (.ref b71), .val (.int (1 : Int32)), .val (.int (0 : Int32))] [(.int (Int32.ofNat Q)), (.int (Int32.ofNat Q)), (.int (0 : Int32)), (.int (Int32.ofNat P)), (.int (1 : Int32)), (.int (own_ref2 (1 : Int32) (Int32.ofNat P) (0 : Int32) (Int32.ofNat Q) (Int32.ofNat (Q + 1))))]) _
          refine Go.step (fun _ => XS.iconst X98.here hx rfl (hb hby at_252)) ?_
          show Go p e below T98 (mkF m 253 #[.val (.int p0), .val (.int p1), .val (.int p2), .val (.int p3), .val (.int p4), .val (.int (Int32.ofNat N)), .val (.int (Int32.ofNat P)), .val (.int sp), .val (.int (Int32.ofNat Q)), .val (.int (p3 &&& (3 : Int32))), .val (.int (Int32.ofNat R_)), .val (.int (Int32.ofNat Xq)), .val (.ref b71), .val (.int (1 : Int32)), .val (.int (0 : Int32))] [(.int (1 : Int32)), (.int (Int32.ofNat Q)), (.int (Int32.ofNat Q)), (.int (0 : Int32)), (.int (Int32.ofNat P)), (.int (1 : Int32)), (.int (own_ref2 (1 : Int32) (Int32.ofNat P) (0 : Int32) (Int32.ofNat Q) (Int32.ofNat (Q + 1))))]) _
          refine Go.step (fun _ => XS.iadd X98.here hx rfl (hb hby at_253) rfl) ?_
          show Go p e below T98 (mkF m 254 #[.val (.int p0), .val (.int p1), .val (.int p2), .val (.int p3), .val (.int p4), .val (.int (Int32.ofNat N)), .val (.int (Int32.ofNat P)), .val (.int sp), .val (.int (Int32.ofNat Q)), .val (.int (p3 &&& (3 : Int32))), .val (.int (Int32.ofNat R_)), .val (.int (Int32.ofNat Xq)), .val (.ref b71), .val (.int (1 : Int32)), .val (.int (0 : Int32))] [(.int ((Int32.ofNat Q) + (1 : Int32))), (.int (Int32.ofNat Q)), (.int (0 : Int32)), (.int (Int32.ofNat P)), (.int (1 : Int32)), (.int (own_ref2 (1 : Int32) (Int32.ofNat P) (0 : Int32) (Int32.ofNat Q) (Int32.ofNat (Q + 1))))]) _
          rw [show Int32.ofNat Q + (1 : Int32) = Int32.ofNat (Q + 1) from own_add Q 1]
          show Go p e below T98 (mkF m 254 #[.val (.int p0), .val (.int p1), .val (.int p2), .val (.int p3), .val (.int p4), .val (.int (Int32.ofNat N)), .val (.int (Int32.ofNat P)), .val (.int sp), .val (.int (Int32.ofNat Q)), .val (.int (p3 &&& (3 : Int32))), .val (.int (Int32.ofNat R_)), .val (.int (Int32.ofNat Xq)), .val (.ref b71), .val (.int (1 : Int32)), .val (.int (0 : Int32))] [(.int (Int32.ofNat (Q + 1))), (.int (Int32.ofNat Q)), (.int (0 : Int32)), (.int (Int32.ofNat P)), (.int (1 : Int32)), (.int (own_ref2 (1 : Int32) (Int32.ofNat P) (0 : Int32) (Int32.ofNat Q) (Int32.ofNat (Q + 1))))]) _
          obtain ⟨_, _, ⟨T99, L99, k99, n99⟩, -, X99, ⟨Lc99, hQ99, l99, y99, z99⟩, st99⟩ := Jvm.LawKit.callS X98 hx (y := (⟨"com/example/maxhue/maxhue/PointSetRemovePinLaw", "ref", "(ZIZII)I"⟩ : MethodName)) hown (mvT hZ (hw _ (List.mem_of_getElem? (i := 37) rfl))) (mvT hZ (hw _ (List.mem_of_getElem? (i := 38) rfl))) (mvT hZ (hw _ (List.mem_of_getElem? (i := 39) rfl))) (mvT hZ (hw _ (List.mem_of_getElem? (i := 40) rfl))) (by decide) (backOf (W := 1) (rmRef l Z a0 hw [] (1 : Int32) (Int32.ofNat P) (0 : Int32) (Int32.ofNat Q) (Int32.ofNat (Q + 1)) T75.heap n0 Zs75) hZ (hw _ (List.mem_of_getElem? (i := 40) rfl)) (hw _ (List.mem_of_getElem? (i := 39) rfl)) (by decide) (by decide)) (g := (mkF m 254 #[.val (.int p0), .val (.int p1), .val (.int p2), .val (.int p3), .val (.int p4), .val (.int (Int32.ofNat N)), .val (.int (Int32.ofNat P)), .val (.int sp), .val (.int (Int32.ofNat Q)), .val (.int (p3 &&& (3 : Int32))), .val (.int (Int32.ofNat R_)), .val (.int (Int32.ofNat Xq)), .val (.ref b71), .val (.int (1 : Int32)), .val (.int (0 : Int32))] [(.int (Int32.ofNat (Q + 1))), (.int (Int32.ofNat Q)), (.int (0 : Int32)), (.int (Int32.ofNat P)), (.int (1 : Int32)), (.int (own_ref2 (1 : Int32) (Int32.ofNat P) (0 : Int32) (Int32.ofNat Q) (Int32.ofNat (Q + 1))))])) rfl (by rw [hml]; rfl) (argsL := [(.int (1 : Int32)), (.int (Int32.ofNat P)), (.int (0 : Int32)), (.int (Int32.ofNat Q)), (.int (Int32.ofNat (Q + 1)))]) (rest := [(.int (own_ref2 (1 : Int32) (Int32.ofNat P) (0 : Int32) (Int32.ofNat Q) (Int32.ofNat (Q + 1))))]) (lenOf pd_4 rfl) rfl (by show 2 * 0 + _ ≤ _; exact Nat.le_of_eq rfl) (hb hby at_254) (fun _ _ => ⟨rfl, eh98, (by decide : 0 + 1 + 4 + 0 + 0 + 0 + 0 + 0 + 0 + 0 + 0 + 0 + 0 + 0 ≤ _), (by decide : 0 + 1 + 134 + 0 + 0 + 0 + 0 + 0 + 0 + 0 + 0 + 0 + 0 + 0 ≤ _)⟩)
          dsimp only [Pt.U, Pt.locs, Pt.cells, Pt.slots] at X99 l99 y99 z99 st99 hQ99
          subst l99 y99 z99
          obtain ⟨rfl, Nq99, ei99⟩ := hQ99
          have N99 := Fr.app N98 Nq99
          refine Go.step st99 ?_
          show Go p e below T99 (mkF m 257 #[.val (.int p0), .val (.int p1), .val (.int p2), .val (.int p3), .val (.int p4), .val (.int (Int32.ofNat N)), .val (.int (Int32.ofNat P)), .val (.int sp), .val (.int (Int32.ofNat Q)), .val (.int (p3 &&& (3 : Int32))), .val (.int (Int32.ofNat R_)), .val (.int (Int32.ofNat Xq)), .val (.ref b71), .val (.int (1 : Int32)), .val (.int (0 : Int32))] [(.int (own_ref2 (1 : Int32) (Int32.ofNat P) (0 : Int32) (Int32.ofNat Q) (Int32.ofNat (Q + 1)))), (.int (own_ref2 (1 : Int32) (Int32.ofNat P) (0 : Int32) (Int32.ofNat Q) (Int32.ofNat (Q + 1))))]) _
          refine Go.step (fun _ => XS.icmpNo X99.here hx rfl (hb hby at_257) rfl (teq rfl).2) ?_
          show Go p e below T99 (mkF m 260 #[.val (.int p0), .val (.int p1), .val (.int p2), .val (.int p3), .val (.int p4), .val (.int (Int32.ofNat N)), .val (.int (Int32.ofNat P)), .val (.int sp), .val (.int (Int32.ofNat Q)), .val (.int (p3 &&& (3 : Int32))), .val (.int (Int32.ofNat R_)), .val (.int (Int32.ofNat Xq)), .val (.ref b71), .val (.int (1 : Int32)), .val (.int (0 : Int32))] []) _
          refine Go.step (fun _ => XS.iconst X99.here hx rfl (hb hby at_260)) ?_
          show Go p e below T99 (mkF m 261 #[.val (.int p0), .val (.int p1), .val (.int p2), .val (.int p3), .val (.int p4), .val (.int (Int32.ofNat N)), .val (.int (Int32.ofNat P)), .val (.int sp), .val (.int (Int32.ofNat Q)), .val (.int (p3 &&& (3 : Int32))), .val (.int (Int32.ofNat R_)), .val (.int (Int32.ofNat Xq)), .val (.ref b71), .val (.int (1 : Int32)), .val (.int (0 : Int32))] [(.int (1 : Int32))]) _
          refine Go.step (fun _ => XS.goto X99.here hx rfl (pc0 := 261) (pc' := 265) rfl (hb hby at_261) (by decide) (by decide)) ?_
          show Go p e below T99 (mkF m 265 #[.val (.int p0), .val (.int p1), .val (.int p2), .val (.int p3), .val (.int p4), .val (.int (Int32.ofNat N)), .val (.int (Int32.ofNat P)), .val (.int sp), .val (.int (Int32.ofNat Q)), .val (.int (p3 &&& (3 : Int32))), .val (.int (Int32.ofNat R_)), .val (.int (Int32.ofNat Xq)), .val (.ref b71), .val (.int (1 : Int32)), .val (.int (0 : Int32))] [(.int (1 : Int32))]) _
          refine Go.retN (t := .boolean) (z' := (1 : Int32)) X99 hx hret (by simp) hlk (hb hby at_265) (by decide) ?_ (by decide) (by decide)
          exact ⟨rfl, N99⟩
        · skip
          refine Go.step (fun _ => XS.icmpNo X75.here hx rfl (hb hby at_150) rfl (feq hc150).1) ?_
          show Go p e below T75 (mkF m 153 #[.val (.int p0), .val (.int p1), .val (.int p2), .val (.int p3), .val (.int p4), .val (.int (Int32.ofNat N)), .val (.int (Int32.ofNat P)), .val (.int sp), .val (.int (Int32.ofNat Q)), .val (.int (p3 &&& (3 : Int32))), .val (.int (Int32.ofNat R_)), .val (.int (Int32.ofNat Xq)), .val (.ref b71), .val (.int (1 : Int32)), .unset] []) _
          refine Go.step (fun _ => XS.iconst X75.here hx rfl (hb hby at_153)) ?_
          show Go p e below T75 (mkF m 154 #[.val (.int p0), .val (.int p1), .val (.int p2), .val (.int p3), .val (.int p4), .val (.int (Int32.ofNat N)), .val (.int (Int32.ofNat P)), .val (.int sp), .val (.int (Int32.ofNat Q)), .val (.int (p3 &&& (3 : Int32))), .val (.int (Int32.ofNat R_)), .val (.int (Int32.ofNat Xq)), .val (.ref b71), .val (.int (1 : Int32)), .unset] [(.int (1 : Int32))]) _
          refine Go.step (fun _ => XS.goto X75.here hx rfl (pc0 := 154) (pc' := 158) rfl (hb hby at_154) (by decide) (by decide)) ?_
          show Go p e below T75 (mkF m 158 #[.val (.int p0), .val (.int p1), .val (.int p2), .val (.int p3), .val (.int p4), .val (.int (Int32.ofNat N)), .val (.int (Int32.ofNat P)), .val (.int sp), .val (.int (Int32.ofNat Q)), .val (.int (p3 &&& (3 : Int32))), .val (.int (Int32.ofNat R_)), .val (.int (Int32.ofNat Xq)), .val (.ref b71), .val (.int (1 : Int32)), .unset] [(.int (1 : Int32))]) _
          refine Go.step (fun _ => XS.istore X75.here hx rfl (hb hby at_158) rfl (l' := #[.val (.int p0), .val (.int p1), .val (.int p2), .val (.int p3), .val (.int p4), .val (.int (Int32.ofNat N)), .val (.int (Int32.ofNat P)), .val (.int sp), .val (.int (Int32.ofNat Q)), .val (.int (p3 &&& (3 : Int32))), .val (.int (Int32.ofNat R_)), .val (.int (Int32.ofNat Xq)), .val (.ref b71), .val (.int (1 : Int32)), .val (.int (1 : Int32))]) rfl) ?_
          show Go p e below T75 (mkF m 160 #[.val (.int p0), .val (.int p1), .val (.int p2), .val (.int p3), .val (.int p4), .val (.int (Int32.ofNat N)), .val (.int (Int32.ofNat P)), .val (.int sp), .val (.int (Int32.ofNat Q)), .val (.int (p3 &&& (3 : Int32))), .val (.int (Int32.ofNat R_)), .val (.int (Int32.ofNat Xq)), .val (.ref b71), .val (.int (1 : Int32)), .val (.int (1 : Int32))] []) _
          refine Go.step (fun _ => XS.aload X75.here hx rfl (hb hby at_160) rfl rfl ) ?_
          show Go p e below T75 (mkF m 162 #[.val (.int p0), .val (.int p1), .val (.int p2), .val (.int p3), .val (.int p4), .val (.int (Int32.ofNat N)), .val (.int (Int32.ofNat P)), .val (.int sp), .val (.int (Int32.ofNat Q)), .val (.int (p3 &&& (3 : Int32))), .val (.int (Int32.ofNat R_)), .val (.int (Int32.ofNat Xq)), .val (.ref b71), .val (.int (1 : Int32)), .val (.int (1 : Int32))] [(.ref b71)]) _
          refine Go.step (fun _ => XS.iload X75.here hx rfl (hb hby at_162) rfl ) ?_
          show Go p e below T75 (mkF m 164 #[.val (.int p0), .val (.int p1), .val (.int p2), .val (.int p3), .val (.int p4), .val (.int (Int32.ofNat N)), .val (.int (Int32.ofNat P)), .val (.int sp), .val (.int (Int32.ofNat Q)), .val (.int (p3 &&& (3 : Int32))), .val (.int (Int32.ofNat R_)), .val (.int (Int32.ofNat Xq)), .val (.ref b71), .val (.int (1 : Int32)), .val (.int (1 : Int32))] [(.int (Int32.ofNat Xq)), (.ref b71)]) _
          have hSN : ∀ q, (fun q => (fun q => (fun q => (fun _ => False) q ∨ q = P) q ∨ q = Q) q ∧ q ≠ R_) q → q < N := fun q z => by
            obtain ⟨z, -⟩ := z
            rcases z with (z | z) | z
            · exact z.elim
            all_goals omega
          obtain ⟨cq100, kq100, q100a, q100b, q100c⟩ := isOf hZ rfl Tr75.1
          obtain ⟨_, _, ⟨T100, L100, k100, n100⟩, -, X100, ⟨Lc100, hQ100, l100, y100, z100⟩, st100⟩ := X75.virtualBack hx (y := (⟨"com/example/maxhue/maxhue/PointSet", "lastBelow", "(I)I"⟩ : MethodName)) (z := (⟨"com/example/maxhue/maxhue/PointSet", "lastBelow", "(I)I"⟩ : MethodName)) hown (mvT hZ (hw _ (List.mem_of_getElem? (i := 32) rfl))) (mvT hZ (hw _ (List.mem_of_getElem? (i := 33) rfl))) (notFace_of_selects (args := #[]) (mvT hZ (hw _ (List.mem_of_getElem? (i := 35) rfl)))) (mvT hZ (hw _ (List.mem_of_getElem? (i := 35) rfl))) (mvT hZ (hw _ (List.mem_of_getElem? (i := 34) rfl))) (by decide) (backOf (W := 0) (rmLast l Z a0 hw [] b71 A72 M72 lv72 (szN N) f75 (fun q => (fun q => (fun q => (fun _ => False) q ∨ q = P) q ∨ q = Q) q ∧ q ≠ R_) N Xq (own_ref2 (1 : Int32) (Int32.ofNat P) (1 : Int32) (Int32.ofNat Q) (Int32.ofNat Xq)) T75.heap n0 Zs75 Tr75 R75 (by omega) hszb (by omega) hN1 hM1 (by omega) hSN (fun q z => own_pt z _) (fun k hk P z => htop P (by rw [show M72 - 1 = k from by omega]; exact z)) (own_best2 (by omega) (by omega) (by omega) ⟨fun _ z => hc136 ((own_inj (by omega) (by omega)).mpr z), fun _ => by decide⟩ ⟨fun _ z => hc150 ((own_inj (by omega) (by omega)).mpr z), fun _ => by decide⟩)) hZ (hw _ (List.mem_of_getElem? (i := 36) rfl)) (hw _ (List.mem_of_getElem? (i := 4) rfl)) (by decide) (by decide)) q100a q100c (g := (mkF m 164 #[.val (.int p0), .val (.int p1), .val (.int p2), .val (.int p3), .val (.int p4), .val (.int (Int32.ofNat N)), .val (.int (Int32.ofNat P)), .val (.int sp), .val (.int (Int32.ofNat Q)), .val (.int (p3 &&& (3 : Int32))), .val (.int (Int32.ofNat R_)), .val (.int (Int32.ofNat Xq)), .val (.ref b71), .val (.int (1 : Int32)), .val (.int (1 : Int32))] [(.int (Int32.ofNat Xq)), (.ref b71)])) rfl (by rw [hml]; rfl) (Steps.refl _) (argsL := [(.int (Int32.ofNat Xq))]) (rest := []) (lenOf pd_0 rfl) rfl (by show 2 * 0 + _ ≤ _; exact Nat.le_of_eq rfl) (hb hby at_164) (fun _ _ => ⟨rfl, rfl, (by decide : 0 + 1 + 4 + 0 + 0 + 0 + 0 ≤ _), (by decide : 0 + 1 + 134 + 0 + 0 + 0 + 0 ≤ _)⟩)
          dsimp only [Pt.U, Pt.locs, Pt.cells, Pt.slots] at X100 l100 y100 z100 st100 hQ100
          subst l100 y100 z100
          obtain ⟨rfl, Nq100, eh100⟩ := hQ100
          have N100 := Fr.app N75 Nq100
          refine Go.call st100 ?_
          show Go p e below T100 (mkF m 167 #[.val (.int p0), .val (.int p1), .val (.int p2), .val (.int p3), .val (.int p4), .val (.int (Int32.ofNat N)), .val (.int (Int32.ofNat P)), .val (.int sp), .val (.int (Int32.ofNat Q)), .val (.int (p3 &&& (3 : Int32))), .val (.int (Int32.ofNat R_)), .val (.int (Int32.ofNat Xq)), .val (.ref b71), .val (.int (1 : Int32)), .val (.int (1 : Int32))] [(.int (own_ref2 (1 : Int32) (Int32.ofNat P) (1 : Int32) (Int32.ofNat Q) (Int32.ofNat Xq)))]) _
          refine Go.step (fun _ => XS.iload X100.here hx rfl (hb hby at_167) rfl ) ?_
          show Go p e below T100 (mkF m 169 #[.val (.int p0), .val (.int p1), .val (.int p2), .val (.int p3), .val (.int p4), .val (.int (Int32.ofNat N)), .val (.int (Int32.ofNat P)), .val (.int sp), .val (.int (Int32.ofNat Q)), .val (.int (p3 &&& (3 : Int32))), .val (.int (Int32.ofNat R_)), .val (.int (Int32.ofNat Xq)), .val (.ref b71), .val (.int (1 : Int32)), .val (.int (1 : Int32))] [(.int (1 : Int32)), (.int (own_ref2 (1 : Int32) (Int32.ofNat P) (1 : Int32) (Int32.ofNat Q) (Int32.ofNat Xq)))]) _
          refine Go.step (fun _ => XS.iload X100.here hx rfl (hb hby at_169) rfl ) ?_
          show Go p e below T100 (mkF m 171 #[.val (.int p0), .val (.int p1), .val (.int p2), .val (.int p3), .val (.int p4), .val (.int (Int32.ofNat N)), .val (.int (Int32.ofNat P)), .val (.int sp), .val (.int (Int32.ofNat Q)), .val (.int (p3 &&& (3 : Int32))), .val (.int (Int32.ofNat R_)), .val (.int (Int32.ofNat Xq)), .val (.ref b71), .val (.int (1 : Int32)), .val (.int (1 : Int32))] [(.int (Int32.ofNat P)), (.int (1 : Int32)), (.int (own_ref2 (1 : Int32) (Int32.ofNat P) (1 : Int32) (Int32.ofNat Q) (Int32.ofNat Xq)))]) _
          refine Go.step (fun _ => XS.iload X100.here hx rfl (hb hby at_171) rfl ) ?_
          show Go p e below T100 (mkF m 173 #[.val (.int p0), .val (.int p1), .val (.int p2), .val (.int p3), .val (.int p4), .val (.int (Int32.ofNat N)), .val (.int (Int32.ofNat P)), .val (.int sp), .val (.int (Int32.ofNat Q)), .val (.int (p3 &&& (3 : Int32))), .val (.int (Int32.ofNat R_)), .val (.int (Int32.ofNat Xq)), .val (.ref b71), .val (.int (1 : Int32)), .val (.int (1 : Int32))] [(.int (1 : Int32)), (.int (Int32.ofNat P)), (.int (1 : Int32)), (.int (own_ref2 (1 : Int32) (Int32.ofNat P) (1 : Int32) (Int32.ofNat Q) (Int32.ofNat Xq)))]) _
          refine Go.step (fun _ => XS.iload X100.here hx rfl (hb hby at_173) rfl ) ?_
          show Go p e below T100 (mkF m 175 #[.val (.int p0), .val (.int p1), .val (.int p2), .val (.int p3), .val (.int p4), .val (.int (Int32.ofNat N)), .val (.int (Int32.ofNat P)), .val (.int sp), .val (.int (Int32.ofNat Q)), .val (.int (p3 &&& (3 : Int32))), .val (.int (Int32.ofNat R_)), .val (.int (Int32.ofNat Xq)), .val (.ref b71), .val (.int (1 : Int32)), .val (.int (1 : Int32))] [(.int (Int32.ofNat Q)), (.int (1 : Int32)), (.int (Int32.ofNat P)), (.int (1 : Int32)), (.int (own_ref2 (1 : Int32) (Int32.ofNat P) (1 : Int32) (Int32.ofNat Q) (Int32.ofNat Xq)))]) _
          refine Go.step (fun _ => XS.iload X100.here hx rfl (hb hby at_175) rfl ) ?_
          show Go p e below T100 (mkF m 177 #[.val (.int p0), .val (.int p1), .val (.int p2), .val (.int p3), .val (.int p4), .val (.int (Int32.ofNat N)), .val (.int (Int32.ofNat P)), .val (.int sp), .val (.int (Int32.ofNat Q)), .val (.int (p3 &&& (3 : Int32))), .val (.int (Int32.ofNat R_)), .val (.int (Int32.ofNat Xq)), .val (.ref b71), .val (.int (1 : Int32)), .val (.int (1 : Int32))] [(.int (Int32.ofNat Xq)), (.int (Int32.ofNat Q)), (.int (1 : Int32)), (.int (Int32.ofNat P)), (.int (1 : Int32)), (.int (own_ref2 (1 : Int32) (Int32.ofNat P) (1 : Int32) (Int32.ofNat Q) (Int32.ofNat Xq)))]) _
          obtain ⟨_, _, ⟨T101, L101, k101, n101⟩, -, X101, ⟨Lc101, hQ101, l101, y101, z101⟩, st101⟩ := Jvm.LawKit.callS X100 hx (y := (⟨"com/example/maxhue/maxhue/PointSetRemovePinLaw", "ref", "(ZIZII)I"⟩ : MethodName)) hown (mvT hZ (hw _ (List.mem_of_getElem? (i := 37) rfl))) (mvT hZ (hw _ (List.mem_of_getElem? (i := 38) rfl))) (mvT hZ (hw _ (List.mem_of_getElem? (i := 39) rfl))) (mvT hZ (hw _ (List.mem_of_getElem? (i := 40) rfl))) (by decide) (backOf (W := 1) (rmRef l Z a0 hw [] (1 : Int32) (Int32.ofNat P) (1 : Int32) (Int32.ofNat Q) (Int32.ofNat Xq) T75.heap n0 Zs75) hZ (hw _ (List.mem_of_getElem? (i := 40) rfl)) (hw _ (List.mem_of_getElem? (i := 39) rfl)) (by decide) (by decide)) (g := (mkF m 177 #[.val (.int p0), .val (.int p1), .val (.int p2), .val (.int p3), .val (.int p4), .val (.int (Int32.ofNat N)), .val (.int (Int32.ofNat P)), .val (.int sp), .val (.int (Int32.ofNat Q)), .val (.int (p3 &&& (3 : Int32))), .val (.int (Int32.ofNat R_)), .val (.int (Int32.ofNat Xq)), .val (.ref b71), .val (.int (1 : Int32)), .val (.int (1 : Int32))] [(.int (Int32.ofNat Xq)), (.int (Int32.ofNat Q)), (.int (1 : Int32)), (.int (Int32.ofNat P)), (.int (1 : Int32)), (.int (own_ref2 (1 : Int32) (Int32.ofNat P) (1 : Int32) (Int32.ofNat Q) (Int32.ofNat Xq)))])) rfl (by rw [hml]; rfl) (argsL := [(.int (1 : Int32)), (.int (Int32.ofNat P)), (.int (1 : Int32)), (.int (Int32.ofNat Q)), (.int (Int32.ofNat Xq))]) (rest := [(.int (own_ref2 (1 : Int32) (Int32.ofNat P) (1 : Int32) (Int32.ofNat Q) (Int32.ofNat Xq)))]) (lenOf pd_4 rfl) rfl (by show 2 * 0 + _ ≤ _; exact Nat.le_of_eq rfl) (hb hby at_177) (fun _ _ => ⟨rfl, eh100, (by decide : 0 + 1 + 4 + 0 + 0 + 0 + 0 + 0 ≤ _), (by decide : 0 + 1 + 134 + 0 + 0 + 0 + 0 + 0 ≤ _)⟩)
          dsimp only [Pt.U, Pt.locs, Pt.cells, Pt.slots] at X101 l101 y101 z101 st101 hQ101
          subst l101 y101 z101
          obtain ⟨rfl, Nq101, ei101⟩ := hQ101
          have N101 := Fr.app N100 Nq101
          refine Go.step st101 ?_
          show Go p e below T101 (mkF m 180 #[.val (.int p0), .val (.int p1), .val (.int p2), .val (.int p3), .val (.int p4), .val (.int (Int32.ofNat N)), .val (.int (Int32.ofNat P)), .val (.int sp), .val (.int (Int32.ofNat Q)), .val (.int (p3 &&& (3 : Int32))), .val (.int (Int32.ofNat R_)), .val (.int (Int32.ofNat Xq)), .val (.ref b71), .val (.int (1 : Int32)), .val (.int (1 : Int32))] [(.int (own_ref2 (1 : Int32) (Int32.ofNat P) (1 : Int32) (Int32.ofNat Q) (Int32.ofNat Xq))), (.int (own_ref2 (1 : Int32) (Int32.ofNat P) (1 : Int32) (Int32.ofNat Q) (Int32.ofNat Xq)))]) _
          refine Go.step (fun _ => XS.icmpNo X101.here hx rfl (hb hby at_180) rfl (teq rfl).2) ?_
          show Go p e below T101 (mkF m 183 #[.val (.int p0), .val (.int p1), .val (.int p2), .val (.int p3), .val (.int p4), .val (.int (Int32.ofNat N)), .val (.int (Int32.ofNat P)), .val (.int sp), .val (.int (Int32.ofNat Q)), .val (.int (p3 &&& (3 : Int32))), .val (.int (Int32.ofNat R_)), .val (.int (Int32.ofNat Xq)), .val (.ref b71), .val (.int (1 : Int32)), .val (.int (1 : Int32))] []) _
          refine Go.step (fun _ => XS.aload X101.here hx rfl (hb hby at_183) rfl rfl ) ?_
          show Go p e below T101 (mkF m 185 #[.val (.int p0), .val (.int p1), .val (.int p2), .val (.int p3), .val (.int p4), .val (.int (Int32.ofNat N)), .val (.int (Int32.ofNat P)), .val (.int sp), .val (.int (Int32.ofNat Q)), .val (.int (p3 &&& (3 : Int32))), .val (.int (Int32.ofNat R_)), .val (.int (Int32.ofNat Xq)), .val (.ref b71), .val (.int (1 : Int32)), .val (.int (1 : Int32))] [(.ref b71)]) _
          refine Go.step (fun _ => XS.iload X101.here hx rfl (hb hby at_185) rfl ) ?_
          show Go p e below T101 (mkF m 187 #[.val (.int p0), .val (.int p1), .val (.int p2), .val (.int p3), .val (.int p4), .val (.int (Int32.ofNat N)), .val (.int (Int32.ofNat P)), .val (.int sp), .val (.int (Int32.ofNat Q)), .val (.int (p3 &&& (3 : Int32))), .val (.int (Int32.ofNat R_)), .val (.int (Int32.ofNat Xq)), .val (.ref b71), .val (.int (1 : Int32)), .val (.int (1 : Int32))] [(.int (Int32.ofNat N)), (.ref b71)]) _
          obtain ⟨cq102, kq102, q102a, q102b, q102c⟩ := isOf hZ ei101 Tr75.1
          obtain ⟨_, _, ⟨T102, L102, k102, n102⟩, -, X102, ⟨Lc102, hQ102, l102, y102, z102⟩, st102⟩ := X101.virtualBack hx (y := (⟨"com/example/maxhue/maxhue/PointSet", "lastBelow", "(I)I"⟩ : MethodName)) (z := (⟨"com/example/maxhue/maxhue/PointSet", "lastBelow", "(I)I"⟩ : MethodName)) hown (mvT hZ (hw _ (List.mem_of_getElem? (i := 32) rfl))) (mvT hZ (hw _ (List.mem_of_getElem? (i := 33) rfl))) (notFace_of_selects (args := #[]) (mvT hZ (hw _ (List.mem_of_getElem? (i := 35) rfl)))) (mvT hZ (hw _ (List.mem_of_getElem? (i := 35) rfl))) (mvT hZ (hw _ (List.mem_of_getElem? (i := 34) rfl))) (by decide) (backOf (W := 0) (rmLast l Z a0 hw [] b71 A72 M72 lv72 (szN N) f75 (fun q => (fun q => (fun q => (fun _ => False) q ∨ q = P) q ∨ q = Q) q ∧ q ≠ R_) N N (own_ref2 (1 : Int32) (Int32.ofNat P) (1 : Int32) (Int32.ofNat Q) (Int32.ofNat N)) T75.heap n0 Zs75 Tr75 R75 (by omega) hszb (by omega) hN1 hM1 (by omega) hSN (fun q z => own_pt z _) (fun k hk P z => htop P (by rw [show M72 - 1 = k from by omega]; exact z)) (own_best2 (by omega) (by omega) (by omega) ⟨fun _ z => hc136 ((own_inj (by omega) (by omega)).mpr z), fun _ => by decide⟩ ⟨fun _ z => hc150 ((own_inj (by omega) (by omega)).mpr z), fun _ => by decide⟩)) hZ (hw _ (List.mem_of_getElem? (i := 36) rfl)) (hw _ (List.mem_of_getElem? (i := 4) rfl)) (by decide) (by decide)) q102a q102c (g := (mkF m 187 #[.val (.int p0), .val (.int p1), .val (.int p2), .val (.int p3), .val (.int p4), .val (.int (Int32.ofNat N)), .val (.int (Int32.ofNat P)), .val (.int sp), .val (.int (Int32.ofNat Q)), .val (.int (p3 &&& (3 : Int32))), .val (.int (Int32.ofNat R_)), .val (.int (Int32.ofNat Xq)), .val (.ref b71), .val (.int (1 : Int32)), .val (.int (1 : Int32))] [(.int (Int32.ofNat N)), (.ref b71)])) rfl (by rw [hml]; rfl) (Steps.refl _) (argsL := [(.int (Int32.ofNat N))]) (rest := []) (lenOf pd_0 rfl) rfl (by show 2 * 0 + _ ≤ _; exact Nat.le_of_eq rfl) (hb hby at_187) (fun _ _ => ⟨rfl, ei101, (by decide : 0 + 1 + 4 + 0 + 0 + 0 + 0 + 0 + 0 ≤ _), (by decide : 0 + 1 + 134 + 0 + 0 + 0 + 0 + 0 + 0 ≤ _)⟩)
          dsimp only [Pt.U, Pt.locs, Pt.cells, Pt.slots] at X102 l102 y102 z102 st102 hQ102
          subst l102 y102 z102
          obtain ⟨rfl, Nq102, eh102⟩ := hQ102
          have N102 := Fr.app N101 Nq102
          refine Go.call st102 ?_
          show Go p e below T102 (mkF m 190 #[.val (.int p0), .val (.int p1), .val (.int p2), .val (.int p3), .val (.int p4), .val (.int (Int32.ofNat N)), .val (.int (Int32.ofNat P)), .val (.int sp), .val (.int (Int32.ofNat Q)), .val (.int (p3 &&& (3 : Int32))), .val (.int (Int32.ofNat R_)), .val (.int (Int32.ofNat Xq)), .val (.ref b71), .val (.int (1 : Int32)), .val (.int (1 : Int32))] [(.int (own_ref2 (1 : Int32) (Int32.ofNat P) (1 : Int32) (Int32.ofNat Q) (Int32.ofNat N)))]) _
          refine Go.step (fun _ => XS.iload X102.here hx rfl (hb hby at_190) rfl ) ?_
          show Go p e below T102 (mkF m 192 #[.val (.int p0), .val (.int p1), .val (.int p2), .val (.int p3), .val (.int p4), .val (.int (Int32.ofNat N)), .val (.int (Int32.ofNat P)), .val (.int sp), .val (.int (Int32.ofNat Q)), .val (.int (p3 &&& (3 : Int32))), .val (.int (Int32.ofNat R_)), .val (.int (Int32.ofNat Xq)), .val (.ref b71), .val (.int (1 : Int32)), .val (.int (1 : Int32))] [(.int (1 : Int32)), (.int (own_ref2 (1 : Int32) (Int32.ofNat P) (1 : Int32) (Int32.ofNat Q) (Int32.ofNat N)))]) _
          refine Go.step (fun _ => XS.iload X102.here hx rfl (hb hby at_192) rfl ) ?_
          show Go p e below T102 (mkF m 194 #[.val (.int p0), .val (.int p1), .val (.int p2), .val (.int p3), .val (.int p4), .val (.int (Int32.ofNat N)), .val (.int (Int32.ofNat P)), .val (.int sp), .val (.int (Int32.ofNat Q)), .val (.int (p3 &&& (3 : Int32))), .val (.int (Int32.ofNat R_)), .val (.int (Int32.ofNat Xq)), .val (.ref b71), .val (.int (1 : Int32)), .val (.int (1 : Int32))] [(.int (Int32.ofNat P)), (.int (1 : Int32)), (.int (own_ref2 (1 : Int32) (Int32.ofNat P) (1 : Int32) (Int32.ofNat Q) (Int32.ofNat N)))]) _
          refine Go.step (fun _ => XS.iload X102.here hx rfl (hb hby at_194) rfl ) ?_
          show Go p e below T102 (mkF m 196 #[.val (.int p0), .val (.int p1), .val (.int p2), .val (.int p3), .val (.int p4), .val (.int (Int32.ofNat N)), .val (.int (Int32.ofNat P)), .val (.int sp), .val (.int (Int32.ofNat Q)), .val (.int (p3 &&& (3 : Int32))), .val (.int (Int32.ofNat R_)), .val (.int (Int32.ofNat Xq)), .val (.ref b71), .val (.int (1 : Int32)), .val (.int (1 : Int32))] [(.int (1 : Int32)), (.int (Int32.ofNat P)), (.int (1 : Int32)), (.int (own_ref2 (1 : Int32) (Int32.ofNat P) (1 : Int32) (Int32.ofNat Q) (Int32.ofNat N)))]) _
          refine Go.step (fun _ => XS.iload X102.here hx rfl (hb hby at_196) rfl ) ?_
          show Go p e below T102 (mkF m 198 #[.val (.int p0), .val (.int p1), .val (.int p2), .val (.int p3), .val (.int p4), .val (.int (Int32.ofNat N)), .val (.int (Int32.ofNat P)), .val (.int sp), .val (.int (Int32.ofNat Q)), .val (.int (p3 &&& (3 : Int32))), .val (.int (Int32.ofNat R_)), .val (.int (Int32.ofNat Xq)), .val (.ref b71), .val (.int (1 : Int32)), .val (.int (1 : Int32))] [(.int (Int32.ofNat Q)), (.int (1 : Int32)), (.int (Int32.ofNat P)), (.int (1 : Int32)), (.int (own_ref2 (1 : Int32) (Int32.ofNat P) (1 : Int32) (Int32.ofNat Q) (Int32.ofNat N)))]) _
          refine Go.step (fun _ => XS.iload X102.here hx rfl (hb hby at_198) rfl ) ?_
          show Go p e below T102 (mkF m 200 #[.val (.int p0), .val (.int p1), .val (.int p2), .val (.int p3), .val (.int p4), .val (.int (Int32.ofNat N)), .val (.int (Int32.ofNat P)), .val (.int sp), .val (.int (Int32.ofNat Q)), .val (.int (p3 &&& (3 : Int32))), .val (.int (Int32.ofNat R_)), .val (.int (Int32.ofNat Xq)), .val (.ref b71), .val (.int (1 : Int32)), .val (.int (1 : Int32))] [(.int (Int32.ofNat N)), (.int (Int32.ofNat Q)), (.int (1 : Int32)), (.int (Int32.ofNat P)), (.int (1 : Int32)), (.int (own_ref2 (1 : Int32) (Int32.ofNat P) (1 : Int32) (Int32.ofNat Q) (Int32.ofNat N)))]) _
          obtain ⟨_, _, ⟨T103, L103, k103, n103⟩, -, X103, ⟨Lc103, hQ103, l103, y103, z103⟩, st103⟩ := Jvm.LawKit.callS X102 hx (y := (⟨"com/example/maxhue/maxhue/PointSetRemovePinLaw", "ref", "(ZIZII)I"⟩ : MethodName)) hown (mvT hZ (hw _ (List.mem_of_getElem? (i := 37) rfl))) (mvT hZ (hw _ (List.mem_of_getElem? (i := 38) rfl))) (mvT hZ (hw _ (List.mem_of_getElem? (i := 39) rfl))) (mvT hZ (hw _ (List.mem_of_getElem? (i := 40) rfl))) (by decide) (backOf (W := 1) (rmRef l Z a0 hw [] (1 : Int32) (Int32.ofNat P) (1 : Int32) (Int32.ofNat Q) (Int32.ofNat N) T75.heap n0 Zs75) hZ (hw _ (List.mem_of_getElem? (i := 40) rfl)) (hw _ (List.mem_of_getElem? (i := 39) rfl)) (by decide) (by decide)) (g := (mkF m 200 #[.val (.int p0), .val (.int p1), .val (.int p2), .val (.int p3), .val (.int p4), .val (.int (Int32.ofNat N)), .val (.int (Int32.ofNat P)), .val (.int sp), .val (.int (Int32.ofNat Q)), .val (.int (p3 &&& (3 : Int32))), .val (.int (Int32.ofNat R_)), .val (.int (Int32.ofNat Xq)), .val (.ref b71), .val (.int (1 : Int32)), .val (.int (1 : Int32))] [(.int (Int32.ofNat N)), (.int (Int32.ofNat Q)), (.int (1 : Int32)), (.int (Int32.ofNat P)), (.int (1 : Int32)), (.int (own_ref2 (1 : Int32) (Int32.ofNat P) (1 : Int32) (Int32.ofNat Q) (Int32.ofNat N)))])) rfl (by rw [hml]; rfl) (argsL := [(.int (1 : Int32)), (.int (Int32.ofNat P)), (.int (1 : Int32)), (.int (Int32.ofNat Q)), (.int (Int32.ofNat N))]) (rest := [(.int (own_ref2 (1 : Int32) (Int32.ofNat P) (1 : Int32) (Int32.ofNat Q) (Int32.ofNat N)))]) (lenOf pd_4 rfl) rfl (by show 2 * 0 + _ ≤ _; exact Nat.le_of_eq rfl) (hb hby at_200) (fun _ _ => ⟨rfl, eh102, (by decide : 0 + 1 + 4 + 0 + 0 + 0 + 0 + 0 + 0 + 0 ≤ _), (by decide : 0 + 1 + 134 + 0 + 0 + 0 + 0 + 0 + 0 + 0 ≤ _)⟩)
          dsimp only [Pt.U, Pt.locs, Pt.cells, Pt.slots] at X103 l103 y103 z103 st103 hQ103
          subst l103 y103 z103
          obtain ⟨rfl, Nq103, ei103⟩ := hQ103
          have N103 := Fr.app N102 Nq103
          refine Go.step st103 ?_
          show Go p e below T103 (mkF m 203 #[.val (.int p0), .val (.int p1), .val (.int p2), .val (.int p3), .val (.int p4), .val (.int (Int32.ofNat N)), .val (.int (Int32.ofNat P)), .val (.int sp), .val (.int (Int32.ofNat Q)), .val (.int (p3 &&& (3 : Int32))), .val (.int (Int32.ofNat R_)), .val (.int (Int32.ofNat Xq)), .val (.ref b71), .val (.int (1 : Int32)), .val (.int (1 : Int32))] [(.int (own_ref2 (1 : Int32) (Int32.ofNat P) (1 : Int32) (Int32.ofNat Q) (Int32.ofNat N))), (.int (own_ref2 (1 : Int32) (Int32.ofNat P) (1 : Int32) (Int32.ofNat Q) (Int32.ofNat N)))]) _
          refine Go.step (fun _ => XS.icmpNo X103.here hx rfl (hb hby at_203) rfl (teq rfl).2) ?_
          show Go p e below T103 (mkF m 206 #[.val (.int p0), .val (.int p1), .val (.int p2), .val (.int p3), .val (.int p4), .val (.int (Int32.ofNat N)), .val (.int (Int32.ofNat P)), .val (.int sp), .val (.int (Int32.ofNat Q)), .val (.int (p3 &&& (3 : Int32))), .val (.int (Int32.ofNat R_)), .val (.int (Int32.ofNat Xq)), .val (.ref b71), .val (.int (1 : Int32)), .val (.int (1 : Int32))] []) _
          refine Go.step (fun _ => XS.aload X103.here hx rfl (hb hby at_206) rfl rfl ) ?_
          show Go p e below T103 (mkF m 208 #[.val (.int p0), .val (.int p1), .val (.int p2), .val (.int p3), .val (.int p4), .val (.int (Int32.ofNat N)), .val (.int (Int32.ofNat P)), .val (.int sp), .val (.int (Int32.ofNat Q)), .val (.int (p3 &&& (3 : Int32))), .val (.int (Int32.ofNat R_)), .val (.int (Int32.ofNat Xq)), .val (.ref b71), .val (.int (1 : Int32)), .val (.int (1 : Int32))] [(.ref b71)]) _
          refine Go.step (fun _ => XS.iload X103.here hx rfl (hb hby at_208) rfl ) ?_
          show Go p e below T103 (mkF m 210 #[.val (.int p0), .val (.int p1), .val (.int p2), .val (.int p3), .val (.int p4), .val (.int (Int32.ofNat N)), .val (.int (Int32.ofNat P)), .val (.int sp), .val (.int (Int32.ofNat Q)), .val (.int (p3 &&& (3 : Int32))), .val (.int (Int32.ofNat R_)), .val (.int (Int32.ofNat Xq)), .val (.ref b71), .val (.int (1 : Int32)), .val (.int (1 : Int32))] [(.int (Int32.ofNat P)), (.ref b71)]) _
          refine Go.step (fun _ => XS.iconst X103.here hx rfl (hb hby at_210)) ?_
          show Go p e below T103 (mkF m 211 #[.val (.int p0), .val (.int p1), .val (.int p2), .val (.int p3), .val (.int p4), .val (.int (Int32.ofNat N)), .val (.int (Int32.ofNat P)), .val (.int sp), .val (.int (Int32.ofNat Q)), .val (.int (p3 &&& (3 : Int32))), .val (.int (Int32.ofNat R_)), .val (.int (Int32.ofNat Xq)), .val (.ref b71), .val (.int (1 : Int32)), .val (.int (1 : Int32))] [(.int (1 : Int32)), (.int (Int32.ofNat P)), (.ref b71)]) _
          refine Go.step (fun _ => XS.iadd X103.here hx rfl (hb hby at_211) rfl) ?_
          show Go p e below T103 (mkF m 212 #[.val (.int p0), .val (.int p1), .val (.int p2), .val (.int p3), .val (.int p4), .val (.int (Int32.ofNat N)), .val (.int (Int32.ofNat P)), .val (.int sp), .val (.int (Int32.ofNat Q)), .val (.int (p3 &&& (3 : Int32))), .val (.int (Int32.ofNat R_)), .val (.int (Int32.ofNat Xq)), .val (.ref b71), .val (.int (1 : Int32)), .val (.int (1 : Int32))] [(.int ((Int32.ofNat P) + (1 : Int32))), (.ref b71)]) _
          rw [show Int32.ofNat P + (1 : Int32) = Int32.ofNat (P + 1) from own_add P 1]
          show Go p e below T103 (mkF m 212 #[.val (.int p0), .val (.int p1), .val (.int p2), .val (.int p3), .val (.int p4), .val (.int (Int32.ofNat N)), .val (.int (Int32.ofNat P)), .val (.int sp), .val (.int (Int32.ofNat Q)), .val (.int (p3 &&& (3 : Int32))), .val (.int (Int32.ofNat R_)), .val (.int (Int32.ofNat Xq)), .val (.ref b71), .val (.int (1 : Int32)), .val (.int (1 : Int32))] [(.int (Int32.ofNat (P + 1))), (.ref b71)]) _
          obtain ⟨cq104, kq104, q104a, q104b, q104c⟩ := isOf hZ ei103 Tr75.1
          obtain ⟨_, _, ⟨T104, L104, k104, n104⟩, -, X104, ⟨Lc104, hQ104, l104, y104, z104⟩, st104⟩ := X103.virtualBack hx (y := (⟨"com/example/maxhue/maxhue/PointSet", "lastBelow", "(I)I"⟩ : MethodName)) (z := (⟨"com/example/maxhue/maxhue/PointSet", "lastBelow", "(I)I"⟩ : MethodName)) hown (mvT hZ (hw _ (List.mem_of_getElem? (i := 32) rfl))) (mvT hZ (hw _ (List.mem_of_getElem? (i := 33) rfl))) (notFace_of_selects (args := #[]) (mvT hZ (hw _ (List.mem_of_getElem? (i := 35) rfl)))) (mvT hZ (hw _ (List.mem_of_getElem? (i := 35) rfl))) (mvT hZ (hw _ (List.mem_of_getElem? (i := 34) rfl))) (by decide) (backOf (W := 0) (rmLast l Z a0 hw [] b71 A72 M72 lv72 (szN N) f75 (fun q => (fun q => (fun q => (fun _ => False) q ∨ q = P) q ∨ q = Q) q ∧ q ≠ R_) N (P + 1) (own_ref2 (1 : Int32) (Int32.ofNat P) (1 : Int32) (Int32.ofNat Q) (Int32.ofNat (P + 1))) T75.heap n0 Zs75 Tr75 R75 (by omega) hszb (by omega) hN1 hM1 (by omega) hSN (fun q z => own_pt z _) (fun k hk P z => htop P (by rw [show M72 - 1 = k from by omega]; exact z)) (own_best2 (by omega) (by omega) (by omega) ⟨fun _ z => hc136 ((own_inj (by omega) (by omega)).mpr z), fun _ => by decide⟩ ⟨fun _ z => hc150 ((own_inj (by omega) (by omega)).mpr z), fun _ => by decide⟩)) hZ (hw _ (List.mem_of_getElem? (i := 36) rfl)) (hw _ (List.mem_of_getElem? (i := 4) rfl)) (by decide) (by decide)) q104a q104c (g := (mkF m 212 #[.val (.int p0), .val (.int p1), .val (.int p2), .val (.int p3), .val (.int p4), .val (.int (Int32.ofNat N)), .val (.int (Int32.ofNat P)), .val (.int sp), .val (.int (Int32.ofNat Q)), .val (.int (p3 &&& (3 : Int32))), .val (.int (Int32.ofNat R_)), .val (.int (Int32.ofNat Xq)), .val (.ref b71), .val (.int (1 : Int32)), .val (.int (1 : Int32))] [(.int (Int32.ofNat (P + 1))), (.ref b71)])) rfl (by rw [hml]; rfl) (Steps.refl _) (argsL := [(.int (Int32.ofNat (P + 1)))]) (rest := []) (lenOf pd_0 rfl) rfl (by show 2 * 0 + _ ≤ _; exact Nat.le_of_eq rfl) (hb hby at_212) (fun _ _ => ⟨rfl, ei103, (by decide : 0 + 1 + 4 + 0 + 0 + 0 + 0 + 0 + 0 + 0 + 0 ≤ _), (by decide : 0 + 1 + 134 + 0 + 0 + 0 + 0 + 0 + 0 + 0 + 0 ≤ _)⟩)
          dsimp only [Pt.U, Pt.locs, Pt.cells, Pt.slots] at X104 l104 y104 z104 st104 hQ104
          subst l104 y104 z104
          obtain ⟨rfl, Nq104, eh104⟩ := hQ104
          have N104 := Fr.app N103 Nq104
          refine Go.call st104 ?_
          show Go p e below T104 (mkF m 215 #[.val (.int p0), .val (.int p1), .val (.int p2), .val (.int p3), .val (.int p4), .val (.int (Int32.ofNat N)), .val (.int (Int32.ofNat P)), .val (.int sp), .val (.int (Int32.ofNat Q)), .val (.int (p3 &&& (3 : Int32))), .val (.int (Int32.ofNat R_)), .val (.int (Int32.ofNat Xq)), .val (.ref b71), .val (.int (1 : Int32)), .val (.int (1 : Int32))] [(.int (own_ref2 (1 : Int32) (Int32.ofNat P) (1 : Int32) (Int32.ofNat Q) (Int32.ofNat (P + 1))))]) _
          refine Go.step (fun _ => XS.iload X104.here hx rfl (hb hby at_215) rfl ) ?_
          show Go p e below T104 (mkF m 217 #[.val (.int p0), .val (.int p1), .val (.int p2), .val (.int p3), .val (.int p4), .val (.int (Int32.ofNat N)), .val (.int (Int32.ofNat P)), .val (.int sp), .val (.int (Int32.ofNat Q)), .val (.int (p3 &&& (3 : Int32))), .val (.int (Int32.ofNat R_)), .val (.int (Int32.ofNat Xq)), .val (.ref b71), .val (.int (1 : Int32)), .val (.int (1 : Int32))] [(.int (1 : Int32)), (.int (own_ref2 (1 : Int32) (Int32.ofNat P) (1 : Int32) (Int32.ofNat Q) (Int32.ofNat (P + 1))))]) _
          refine Go.step (fun _ => XS.iload X104.here hx rfl (hb hby at_217) rfl ) ?_
          show Go p e below T104 (mkF m 219 #[.val (.int p0), .val (.int p1), .val (.int p2), .val (.int p3), .val (.int p4), .val (.int (Int32.ofNat N)), .val (.int (Int32.ofNat P)), .val (.int sp), .val (.int (Int32.ofNat Q)), .val (.int (p3 &&& (3 : Int32))), .val (.int (Int32.ofNat R_)), .val (.int (Int32.ofNat Xq)), .val (.ref b71), .val (.int (1 : Int32)), .val (.int (1 : Int32))] [(.int (Int32.ofNat P)), (.int (1 : Int32)), (.int (own_ref2 (1 : Int32) (Int32.ofNat P) (1 : Int32) (Int32.ofNat Q) (Int32.ofNat (P + 1))))]) _
          refine Go.step (fun _ => XS.iload X104.here hx rfl (hb hby at_219) rfl ) ?_
          show Go p e below T104 (mkF m 221 #[.val (.int p0), .val (.int p1), .val (.int p2), .val (.int p3), .val (.int p4), .val (.int (Int32.ofNat N)), .val (.int (Int32.ofNat P)), .val (.int sp), .val (.int (Int32.ofNat Q)), .val (.int (p3 &&& (3 : Int32))), .val (.int (Int32.ofNat R_)), .val (.int (Int32.ofNat Xq)), .val (.ref b71), .val (.int (1 : Int32)), .val (.int (1 : Int32))] [(.int (1 : Int32)), (.int (Int32.ofNat P)), (.int (1 : Int32)), (.int (own_ref2 (1 : Int32) (Int32.ofNat P) (1 : Int32) (Int32.ofNat Q) (Int32.ofNat (P + 1))))]) _
          refine Go.step (fun _ => XS.iload X104.here hx rfl (hb hby at_221) rfl ) ?_
          show Go p e below T104 (mkF m 223 #[.val (.int p0), .val (.int p1), .val (.int p2), .val (.int p3), .val (.int p4), .val (.int (Int32.ofNat N)), .val (.int (Int32.ofNat P)), .val (.int sp), .val (.int (Int32.ofNat Q)), .val (.int (p3 &&& (3 : Int32))), .val (.int (Int32.ofNat R_)), .val (.int (Int32.ofNat Xq)), .val (.ref b71), .val (.int (1 : Int32)), .val (.int (1 : Int32))] [(.int (Int32.ofNat Q)), (.int (1 : Int32)), (.int (Int32.ofNat P)), (.int (1 : Int32)), (.int (own_ref2 (1 : Int32) (Int32.ofNat P) (1 : Int32) (Int32.ofNat Q) (Int32.ofNat (P + 1))))]) _
          refine Go.step (fun _ => XS.iload X104.here hx rfl (hb hby at_223) rfl ) ?_
          show Go p e below T104 (mkF m 225 #[.val (.int p0), .val (.int p1), .val (.int p2), .val (.int p3), .val (.int p4), .val (.int (Int32.ofNat N)), .val (.int (Int32.ofNat P)), .val (.int sp), .val (.int (Int32.ofNat Q)), .val (.int (p3 &&& (3 : Int32))), .val (.int (Int32.ofNat R_)), .val (.int (Int32.ofNat Xq)), .val (.ref b71), .val (.int (1 : Int32)), .val (.int (1 : Int32))] [(.int (Int32.ofNat P)), (.int (Int32.ofNat Q)), (.int (1 : Int32)), (.int (Int32.ofNat P)), (.int (1 : Int32)), (.int (own_ref2 (1 : Int32) (Int32.ofNat P) (1 : Int32) (Int32.ofNat Q) (Int32.ofNat (P + 1))))]) _
          refine Go.step (fun _ => XS.iconst X104.here hx rfl (hb hby at_225)) ?_
          show Go p e below T104 (mkF m 226 #[.val (.int p0), .val (.int p1), .val (.int p2), .val (.int p3), .val (.int p4), .val (.int (Int32.ofNat N)), .val (.int (Int32.ofNat P)), .val (.int sp), .val (.int (Int32.ofNat Q)), .val (.int (p3 &&& (3 : Int32))), .val (.int (Int32.ofNat R_)), .val (.int (Int32.ofNat Xq)), .val (.ref b71), .val (.int (1 : Int32)), .val (.int (1 : Int32))] [(.int (1 : Int32)), (.int (Int32.ofNat P)), (.int (Int32.ofNat Q)), (.int (1 : Int32)), (.int (Int32.ofNat P)), (.int (1 : Int32)), (.int (own_ref2 (1 : Int32) (Int32.ofNat P) (1 : Int32) (Int32.ofNat Q) (Int32.ofNat (P + 1))))]) _
          refine Go.step (fun _ => XS.iadd X104.here hx rfl (hb hby at_226) rfl) ?_
          show Go p e below T104 (mkF m 227 #[.val (.int p0), .val (.int p1), .val (.int p2), .val (.int p3), .val (.int p4), .val (.int (Int32.ofNat N)), .val (.int (Int32.ofNat P)), .val (.int sp), .val (.int (Int32.ofNat Q)), .val (.int (p3 &&& (3 : Int32))), .val (.int (Int32.ofNat R_)), .val (.int (Int32.ofNat Xq)), .val (.ref b71), .val (.int (1 : Int32)), .val (.int (1 : Int32))] [(.int ((Int32.ofNat P) + (1 : Int32))), (.int (Int32.ofNat Q)), (.int (1 : Int32)), (.int (Int32.ofNat P)), (.int (1 : Int32)), (.int (own_ref2 (1 : Int32) (Int32.ofNat P) (1 : Int32) (Int32.ofNat Q) (Int32.ofNat (P + 1))))]) _
          rw [show Int32.ofNat P + (1 : Int32) = Int32.ofNat (P + 1) from own_add P 1]
          show Go p e below T104 (mkF m 227 #[.val (.int p0), .val (.int p1), .val (.int p2), .val (.int p3), .val (.int p4), .val (.int (Int32.ofNat N)), .val (.int (Int32.ofNat P)), .val (.int sp), .val (.int (Int32.ofNat Q)), .val (.int (p3 &&& (3 : Int32))), .val (.int (Int32.ofNat R_)), .val (.int (Int32.ofNat Xq)), .val (.ref b71), .val (.int (1 : Int32)), .val (.int (1 : Int32))] [(.int (Int32.ofNat (P + 1))), (.int (Int32.ofNat Q)), (.int (1 : Int32)), (.int (Int32.ofNat P)), (.int (1 : Int32)), (.int (own_ref2 (1 : Int32) (Int32.ofNat P) (1 : Int32) (Int32.ofNat Q) (Int32.ofNat (P + 1))))]) _
          obtain ⟨_, _, ⟨T105, L105, k105, n105⟩, -, X105, ⟨Lc105, hQ105, l105, y105, z105⟩, st105⟩ := Jvm.LawKit.callS X104 hx (y := (⟨"com/example/maxhue/maxhue/PointSetRemovePinLaw", "ref", "(ZIZII)I"⟩ : MethodName)) hown (mvT hZ (hw _ (List.mem_of_getElem? (i := 37) rfl))) (mvT hZ (hw _ (List.mem_of_getElem? (i := 38) rfl))) (mvT hZ (hw _ (List.mem_of_getElem? (i := 39) rfl))) (mvT hZ (hw _ (List.mem_of_getElem? (i := 40) rfl))) (by decide) (backOf (W := 1) (rmRef l Z a0 hw [] (1 : Int32) (Int32.ofNat P) (1 : Int32) (Int32.ofNat Q) (Int32.ofNat (P + 1)) T75.heap n0 Zs75) hZ (hw _ (List.mem_of_getElem? (i := 40) rfl)) (hw _ (List.mem_of_getElem? (i := 39) rfl)) (by decide) (by decide)) (g := (mkF m 227 #[.val (.int p0), .val (.int p1), .val (.int p2), .val (.int p3), .val (.int p4), .val (.int (Int32.ofNat N)), .val (.int (Int32.ofNat P)), .val (.int sp), .val (.int (Int32.ofNat Q)), .val (.int (p3 &&& (3 : Int32))), .val (.int (Int32.ofNat R_)), .val (.int (Int32.ofNat Xq)), .val (.ref b71), .val (.int (1 : Int32)), .val (.int (1 : Int32))] [(.int (Int32.ofNat (P + 1))), (.int (Int32.ofNat Q)), (.int (1 : Int32)), (.int (Int32.ofNat P)), (.int (1 : Int32)), (.int (own_ref2 (1 : Int32) (Int32.ofNat P) (1 : Int32) (Int32.ofNat Q) (Int32.ofNat (P + 1))))])) rfl (by rw [hml]; rfl) (argsL := [(.int (1 : Int32)), (.int (Int32.ofNat P)), (.int (1 : Int32)), (.int (Int32.ofNat Q)), (.int (Int32.ofNat (P + 1)))]) (rest := [(.int (own_ref2 (1 : Int32) (Int32.ofNat P) (1 : Int32) (Int32.ofNat Q) (Int32.ofNat (P + 1))))]) (lenOf pd_4 rfl) rfl (by show 2 * 0 + _ ≤ _; exact Nat.le_of_eq rfl) (hb hby at_227) (fun _ _ => ⟨rfl, eh104, (by decide : 0 + 1 + 4 + 0 + 0 + 0 + 0 + 0 + 0 + 0 + 0 + 0 ≤ _), (by decide : 0 + 1 + 134 + 0 + 0 + 0 + 0 + 0 + 0 + 0 + 0 + 0 ≤ _)⟩)
          dsimp only [Pt.U, Pt.locs, Pt.cells, Pt.slots] at X105 l105 y105 z105 st105 hQ105
          subst l105 y105 z105
          obtain ⟨rfl, Nq105, ei105⟩ := hQ105
          have N105 := Fr.app N104 Nq105
          refine Go.step st105 ?_
          show Go p e below T105 (mkF m 230 #[.val (.int p0), .val (.int p1), .val (.int p2), .val (.int p3), .val (.int p4), .val (.int (Int32.ofNat N)), .val (.int (Int32.ofNat P)), .val (.int sp), .val (.int (Int32.ofNat Q)), .val (.int (p3 &&& (3 : Int32))), .val (.int (Int32.ofNat R_)), .val (.int (Int32.ofNat Xq)), .val (.ref b71), .val (.int (1 : Int32)), .val (.int (1 : Int32))] [(.int (own_ref2 (1 : Int32) (Int32.ofNat P) (1 : Int32) (Int32.ofNat Q) (Int32.ofNat (P + 1)))), (.int (own_ref2 (1 : Int32) (Int32.ofNat P) (1 : Int32) (Int32.ofNat Q) (Int32.ofNat (P + 1))))]) _
          refine Go.step (fun _ => XS.icmpNo X105.here hx rfl (hb hby at_230) rfl (teq rfl).2) ?_
          show Go p e below T105 (mkF m 233 #[.val (.int p0), .val (.int p1), .val (.int p2), .val (.int p3), .val (.int p4), .val (.int (Int32.ofNat N)), .val (.int (Int32.ofNat P)), .val (.int sp), .val (.int (Int32.ofNat Q)), .val (.int (p3 &&& (3 : Int32))), .val (.int (Int32.ofNat R_)), .val (.int (Int32.ofNat Xq)), .val (.ref b71), .val (.int (1 : Int32)), .val (.int (1 : Int32))] []) _
          refine Go.step (fun _ => XS.aload X105.here hx rfl (hb hby at_233) rfl rfl ) ?_
          show Go p e below T105 (mkF m 235 #[.val (.int p0), .val (.int p1), .val (.int p2), .val (.int p3), .val (.int p4), .val (.int (Int32.ofNat N)), .val (.int (Int32.ofNat P)), .val (.int sp), .val (.int (Int32.ofNat Q)), .val (.int (p3 &&& (3 : Int32))), .val (.int (Int32.ofNat R_)), .val (.int (Int32.ofNat Xq)), .val (.ref b71), .val (.int (1 : Int32)), .val (.int (1 : Int32))] [(.ref b71)]) _
          refine Go.step (fun _ => XS.iload X105.here hx rfl (hb hby at_235) rfl ) ?_
          show Go p e below T105 (mkF m 237 #[.val (.int p0), .val (.int p1), .val (.int p2), .val (.int p3), .val (.int p4), .val (.int (Int32.ofNat N)), .val (.int (Int32.ofNat P)), .val (.int sp), .val (.int (Int32.ofNat Q)), .val (.int (p3 &&& (3 : Int32))), .val (.int (Int32.ofNat R_)), .val (.int (Int32.ofNat Xq)), .val (.ref b71), .val (.int (1 : Int32)), .val (.int (1 : Int32))] [(.int (Int32.ofNat Q)), (.ref b71)]) _
          refine Go.step (fun _ => XS.iconst X105.here hx rfl (hb hby at_237)) ?_
          show Go p e below T105 (mkF m 238 #[.val (.int p0), .val (.int p1), .val (.int p2), .val (.int p3), .val (.int p4), .val (.int (Int32.ofNat N)), .val (.int (Int32.ofNat P)), .val (.int sp), .val (.int (Int32.ofNat Q)), .val (.int (p3 &&& (3 : Int32))), .val (.int (Int32.ofNat R_)), .val (.int (Int32.ofNat Xq)), .val (.ref b71), .val (.int (1 : Int32)), .val (.int (1 : Int32))] [(.int (1 : Int32)), (.int (Int32.ofNat Q)), (.ref b71)]) _
          refine Go.step (fun _ => XS.iadd X105.here hx rfl (hb hby at_238) rfl) ?_
          show Go p e below T105 (mkF m 239 #[.val (.int p0), .val (.int p1), .val (.int p2), .val (.int p3), .val (.int p4), .val (.int (Int32.ofNat N)), .val (.int (Int32.ofNat P)), .val (.int sp), .val (.int (Int32.ofNat Q)), .val (.int (p3 &&& (3 : Int32))), .val (.int (Int32.ofNat R_)), .val (.int (Int32.ofNat Xq)), .val (.ref b71), .val (.int (1 : Int32)), .val (.int (1 : Int32))] [(.int ((Int32.ofNat Q) + (1 : Int32))), (.ref b71)]) _
          rw [show Int32.ofNat Q + (1 : Int32) = Int32.ofNat (Q + 1) from own_add Q 1]
          show Go p e below T105 (mkF m 239 #[.val (.int p0), .val (.int p1), .val (.int p2), .val (.int p3), .val (.int p4), .val (.int (Int32.ofNat N)), .val (.int (Int32.ofNat P)), .val (.int sp), .val (.int (Int32.ofNat Q)), .val (.int (p3 &&& (3 : Int32))), .val (.int (Int32.ofNat R_)), .val (.int (Int32.ofNat Xq)), .val (.ref b71), .val (.int (1 : Int32)), .val (.int (1 : Int32))] [(.int (Int32.ofNat (Q + 1))), (.ref b71)]) _
          obtain ⟨cq106, kq106, q106a, q106b, q106c⟩ := isOf hZ ei105 Tr75.1
          obtain ⟨_, _, ⟨T106, L106, k106, n106⟩, -, X106, ⟨Lc106, hQ106, l106, y106, z106⟩, st106⟩ := X105.virtualBack hx (y := (⟨"com/example/maxhue/maxhue/PointSet", "lastBelow", "(I)I"⟩ : MethodName)) (z := (⟨"com/example/maxhue/maxhue/PointSet", "lastBelow", "(I)I"⟩ : MethodName)) hown (mvT hZ (hw _ (List.mem_of_getElem? (i := 32) rfl))) (mvT hZ (hw _ (List.mem_of_getElem? (i := 33) rfl))) (notFace_of_selects (args := #[]) (mvT hZ (hw _ (List.mem_of_getElem? (i := 35) rfl)))) (mvT hZ (hw _ (List.mem_of_getElem? (i := 35) rfl))) (mvT hZ (hw _ (List.mem_of_getElem? (i := 34) rfl))) (by decide) (backOf (W := 0) (rmLast l Z a0 hw [] b71 A72 M72 lv72 (szN N) f75 (fun q => (fun q => (fun q => (fun _ => False) q ∨ q = P) q ∨ q = Q) q ∧ q ≠ R_) N (Q + 1) (own_ref2 (1 : Int32) (Int32.ofNat P) (1 : Int32) (Int32.ofNat Q) (Int32.ofNat (Q + 1))) T75.heap n0 Zs75 Tr75 R75 (by omega) hszb (by omega) hN1 hM1 (by omega) hSN (fun q z => own_pt z _) (fun k hk P z => htop P (by rw [show M72 - 1 = k from by omega]; exact z)) (own_best2 (by omega) (by omega) (by omega) ⟨fun _ z => hc136 ((own_inj (by omega) (by omega)).mpr z), fun _ => by decide⟩ ⟨fun _ z => hc150 ((own_inj (by omega) (by omega)).mpr z), fun _ => by decide⟩)) hZ (hw _ (List.mem_of_getElem? (i := 36) rfl)) (hw _ (List.mem_of_getElem? (i := 4) rfl)) (by decide) (by decide)) q106a q106c (g := (mkF m 239 #[.val (.int p0), .val (.int p1), .val (.int p2), .val (.int p3), .val (.int p4), .val (.int (Int32.ofNat N)), .val (.int (Int32.ofNat P)), .val (.int sp), .val (.int (Int32.ofNat Q)), .val (.int (p3 &&& (3 : Int32))), .val (.int (Int32.ofNat R_)), .val (.int (Int32.ofNat Xq)), .val (.ref b71), .val (.int (1 : Int32)), .val (.int (1 : Int32))] [(.int (Int32.ofNat (Q + 1))), (.ref b71)])) rfl (by rw [hml]; rfl) (Steps.refl _) (argsL := [(.int (Int32.ofNat (Q + 1)))]) (rest := []) (lenOf pd_0 rfl) rfl (by show 2 * 0 + _ ≤ _; exact Nat.le_of_eq rfl) (hb hby at_239) (fun _ _ => ⟨rfl, ei105, (by decide : 0 + 1 + 4 + 0 + 0 + 0 + 0 + 0 + 0 + 0 + 0 + 0 + 0 ≤ _), (by decide : 0 + 1 + 134 + 0 + 0 + 0 + 0 + 0 + 0 + 0 + 0 + 0 + 0 ≤ _)⟩)
          dsimp only [Pt.U, Pt.locs, Pt.cells, Pt.slots] at X106 l106 y106 z106 st106 hQ106
          subst l106 y106 z106
          obtain ⟨rfl, Nq106, eh106⟩ := hQ106
          have N106 := Fr.app N105 Nq106
          refine Go.call st106 ?_
          show Go p e below T106 (mkF m 242 #[.val (.int p0), .val (.int p1), .val (.int p2), .val (.int p3), .val (.int p4), .val (.int (Int32.ofNat N)), .val (.int (Int32.ofNat P)), .val (.int sp), .val (.int (Int32.ofNat Q)), .val (.int (p3 &&& (3 : Int32))), .val (.int (Int32.ofNat R_)), .val (.int (Int32.ofNat Xq)), .val (.ref b71), .val (.int (1 : Int32)), .val (.int (1 : Int32))] [(.int (own_ref2 (1 : Int32) (Int32.ofNat P) (1 : Int32) (Int32.ofNat Q) (Int32.ofNat (Q + 1))))]) _
          refine Go.step (fun _ => XS.iload X106.here hx rfl (hb hby at_242) rfl ) ?_
          show Go p e below T106 (mkF m 244 #[.val (.int p0), .val (.int p1), .val (.int p2), .val (.int p3), .val (.int p4), .val (.int (Int32.ofNat N)), .val (.int (Int32.ofNat P)), .val (.int sp), .val (.int (Int32.ofNat Q)), .val (.int (p3 &&& (3 : Int32))), .val (.int (Int32.ofNat R_)), .val (.int (Int32.ofNat Xq)), .val (.ref b71), .val (.int (1 : Int32)), .val (.int (1 : Int32))] [(.int (1 : Int32)), (.int (own_ref2 (1 : Int32) (Int32.ofNat P) (1 : Int32) (Int32.ofNat Q) (Int32.ofNat (Q + 1))))]) _
          refine Go.step (fun _ => XS.iload X106.here hx rfl (hb hby at_244) rfl ) ?_
          show Go p e below T106 (mkF m 246 #[.val (.int p0), .val (.int p1), .val (.int p2), .val (.int p3), .val (.int p4), .val (.int (Int32.ofNat N)), .val (.int (Int32.ofNat P)), .val (.int sp), .val (.int (Int32.ofNat Q)), .val (.int (p3 &&& (3 : Int32))), .val (.int (Int32.ofNat R_)), .val (.int (Int32.ofNat Xq)), .val (.ref b71), .val (.int (1 : Int32)), .val (.int (1 : Int32))] [(.int (Int32.ofNat P)), (.int (1 : Int32)), (.int (own_ref2 (1 : Int32) (Int32.ofNat P) (1 : Int32) (Int32.ofNat Q) (Int32.ofNat (Q + 1))))]) _
          refine Go.step (fun _ => XS.iload X106.here hx rfl (hb hby at_246) rfl ) ?_
          show Go p e below T106 (mkF m 248 #[.val (.int p0), .val (.int p1), .val (.int p2), .val (.int p3), .val (.int p4), .val (.int (Int32.ofNat N)), .val (.int (Int32.ofNat P)), .val (.int sp), .val (.int (Int32.ofNat Q)), .val (.int (p3 &&& (3 : Int32))), .val (.int (Int32.ofNat R_)), .val (.int (Int32.ofNat Xq)), .val (.ref b71), .val (.int (1 : Int32)), .val (.int (1 : Int32))] [(.int (1 : Int32)), (.int (Int32.ofNat P)), (.int (1 : Int32)), (.int (own_ref2 (1 : Int32) (Int32.ofNat P) (1 : Int32) (Int32.ofNat Q) (Int32.ofNat (Q + 1))))]) _
          refine Go.step (fun _ => XS.iload X106.here hx rfl (hb hby at_248) rfl ) ?_
          show Go p e below T106 (mkF m 250 #[.val (.int p0), .val (.int p1), .val (.int p2), .val (.int p3), .val (.int p4), .val (.int (Int32.ofNat N)), .val (.int (Int32.ofNat P)), .val (.int sp), .val (.int (Int32.ofNat Q)), .val (.int (p3 &&& (3 : Int32))), .val (.int (Int32.ofNat R_)), .val (.int (Int32.ofNat Xq)), .val (.ref b71), .val (.int (1 : Int32)), .val (.int (1 : Int32))] [(.int (Int32.ofNat Q)), (.int (1 : Int32)), (.int (Int32.ofNat P)), (.int (1 : Int32)), (.int (own_ref2 (1 : Int32) (Int32.ofNat P) (1 : Int32) (Int32.ofNat Q) (Int32.ofNat (Q + 1))))]) _
          refine Go.step (fun _ => XS.iload X106.here hx rfl (hb hby at_250) rfl ) ?_
          show Go p e below T106 (mkF m 252 #[.val (.int p0), .val (.int p1), .val (.int p2), .val (.int p3), .val (.int p4), .val (.int (Int32.ofNat N)), .val (.int (Int32.ofNat P)), .val (.int sp), .val (.int (Int32.ofNat Q)), .val (.int (p3 &&& (3 : Int32))), .val (.int (Int32.ofNat R_)), .val (.int (Int32.ofNat Xq)), .val (.ref b71), .val (.int (1 : Int32)), .val (.int (1 : Int32))] [(.int (Int32.ofNat Q)), (.int (Int32.ofNat Q)), (.int (1 : Int32)), (.int (Int32.ofNat P)), (.int (1 : Int32)), (.int (own_ref2 (1 : Int32) (Int32.ofNat P) (1 : Int32) (Int32.ofNat Q) (Int32.ofNat (Q + 1))))]) _
          refine Go.step (fun _ => XS.iconst X106.here hx rfl (hb hby at_252)) ?_
          show Go p e below T106 (mkF m 253 #[.val (.int p0), .val (.int p1), .val (.int p2), .val (.int p3), .val (.int p4), .val (.int (Int32.ofNat N)), .val (.int (Int32.ofNat P)), .val (.int sp), .val (.int (Int32.ofNat Q)), .val (.int (p3 &&& (3 : Int32))), .val (.int (Int32.ofNat R_)), .val (.int (Int32.ofNat Xq)), .val (.ref b71), .val (.int (1 : Int32)), .val (.int (1 : Int32))] [(.int (1 : Int32)), (.int (Int32.ofNat Q)), (.int (Int32.ofNat Q)), (.int (1 : Int32)), (.int (Int32.ofNat P)), (.int (1 : Int32)), (.int (own_ref2 (1 : Int32) (Int32.ofNat P) (1 : Int32) (Int32.ofNat Q) (Int32.ofNat (Q + 1))))]) _
          refine Go.step (fun _ => XS.iadd X106.here hx rfl (hb hby at_253) rfl) ?_
          show Go p e below T106 (mkF m 254 #[.val (.int p0), .val (.int p1), .val (.int p2), .val (.int p3), .val (.int p4), .val (.int (Int32.ofNat N)), .val (.int (Int32.ofNat P)), .val (.int sp), .val (.int (Int32.ofNat Q)), .val (.int (p3 &&& (3 : Int32))), .val (.int (Int32.ofNat R_)), .val (.int (Int32.ofNat Xq)), .val (.ref b71), .val (.int (1 : Int32)), .val (.int (1 : Int32))] [(.int ((Int32.ofNat Q) + (1 : Int32))), (.int (Int32.ofNat Q)), (.int (1 : Int32)), (.int (Int32.ofNat P)), (.int (1 : Int32)), (.int (own_ref2 (1 : Int32) (Int32.ofNat P) (1 : Int32) (Int32.ofNat Q) (Int32.ofNat (Q + 1))))]) _
          rw [show Int32.ofNat Q + (1 : Int32) = Int32.ofNat (Q + 1) from own_add Q 1]
          show Go p e below T106 (mkF m 254 #[.val (.int p0), .val (.int p1), .val (.int p2), .val (.int p3), .val (.int p4), .val (.int (Int32.ofNat N)), .val (.int (Int32.ofNat P)), .val (.int sp), .val (.int (Int32.ofNat Q)), .val (.int (p3 &&& (3 : Int32))), .val (.int (Int32.ofNat R_)), .val (.int (Int32.ofNat Xq)), .val (.ref b71), .val (.int (1 : Int32)), .val (.int (1 : Int32))] [(.int (Int32.ofNat (Q + 1))), (.int (Int32.ofNat Q)), (.int (1 : Int32)), (.int (Int32.ofNat P)), (.int (1 : Int32)), (.int (own_ref2 (1 : Int32) (Int32.ofNat P) (1 : Int32) (Int32.ofNat Q) (Int32.ofNat (Q + 1))))]) _
          obtain ⟨_, _, ⟨T107, L107, k107, n107⟩, -, X107, ⟨Lc107, hQ107, l107, y107, z107⟩, st107⟩ := Jvm.LawKit.callS X106 hx (y := (⟨"com/example/maxhue/maxhue/PointSetRemovePinLaw", "ref", "(ZIZII)I"⟩ : MethodName)) hown (mvT hZ (hw _ (List.mem_of_getElem? (i := 37) rfl))) (mvT hZ (hw _ (List.mem_of_getElem? (i := 38) rfl))) (mvT hZ (hw _ (List.mem_of_getElem? (i := 39) rfl))) (mvT hZ (hw _ (List.mem_of_getElem? (i := 40) rfl))) (by decide) (backOf (W := 1) (rmRef l Z a0 hw [] (1 : Int32) (Int32.ofNat P) (1 : Int32) (Int32.ofNat Q) (Int32.ofNat (Q + 1)) T75.heap n0 Zs75) hZ (hw _ (List.mem_of_getElem? (i := 40) rfl)) (hw _ (List.mem_of_getElem? (i := 39) rfl)) (by decide) (by decide)) (g := (mkF m 254 #[.val (.int p0), .val (.int p1), .val (.int p2), .val (.int p3), .val (.int p4), .val (.int (Int32.ofNat N)), .val (.int (Int32.ofNat P)), .val (.int sp), .val (.int (Int32.ofNat Q)), .val (.int (p3 &&& (3 : Int32))), .val (.int (Int32.ofNat R_)), .val (.int (Int32.ofNat Xq)), .val (.ref b71), .val (.int (1 : Int32)), .val (.int (1 : Int32))] [(.int (Int32.ofNat (Q + 1))), (.int (Int32.ofNat Q)), (.int (1 : Int32)), (.int (Int32.ofNat P)), (.int (1 : Int32)), (.int (own_ref2 (1 : Int32) (Int32.ofNat P) (1 : Int32) (Int32.ofNat Q) (Int32.ofNat (Q + 1))))])) rfl (by rw [hml]; rfl) (argsL := [(.int (1 : Int32)), (.int (Int32.ofNat P)), (.int (1 : Int32)), (.int (Int32.ofNat Q)), (.int (Int32.ofNat (Q + 1)))]) (rest := [(.int (own_ref2 (1 : Int32) (Int32.ofNat P) (1 : Int32) (Int32.ofNat Q) (Int32.ofNat (Q + 1))))]) (lenOf pd_4 rfl) rfl (by show 2 * 0 + _ ≤ _; exact Nat.le_of_eq rfl) (hb hby at_254) (fun _ _ => ⟨rfl, eh106, (by decide : 0 + 1 + 4 + 0 + 0 + 0 + 0 + 0 + 0 + 0 + 0 + 0 + 0 + 0 ≤ _), (by decide : 0 + 1 + 134 + 0 + 0 + 0 + 0 + 0 + 0 + 0 + 0 + 0 + 0 + 0 ≤ _)⟩)
          dsimp only [Pt.U, Pt.locs, Pt.cells, Pt.slots] at X107 l107 y107 z107 st107 hQ107
          subst l107 y107 z107
          obtain ⟨rfl, Nq107, ei107⟩ := hQ107
          have N107 := Fr.app N106 Nq107
          refine Go.step st107 ?_
          show Go p e below T107 (mkF m 257 #[.val (.int p0), .val (.int p1), .val (.int p2), .val (.int p3), .val (.int p4), .val (.int (Int32.ofNat N)), .val (.int (Int32.ofNat P)), .val (.int sp), .val (.int (Int32.ofNat Q)), .val (.int (p3 &&& (3 : Int32))), .val (.int (Int32.ofNat R_)), .val (.int (Int32.ofNat Xq)), .val (.ref b71), .val (.int (1 : Int32)), .val (.int (1 : Int32))] [(.int (own_ref2 (1 : Int32) (Int32.ofNat P) (1 : Int32) (Int32.ofNat Q) (Int32.ofNat (Q + 1)))), (.int (own_ref2 (1 : Int32) (Int32.ofNat P) (1 : Int32) (Int32.ofNat Q) (Int32.ofNat (Q + 1))))]) _
          refine Go.step (fun _ => XS.icmpNo X107.here hx rfl (hb hby at_257) rfl (teq rfl).2) ?_
          show Go p e below T107 (mkF m 260 #[.val (.int p0), .val (.int p1), .val (.int p2), .val (.int p3), .val (.int p4), .val (.int (Int32.ofNat N)), .val (.int (Int32.ofNat P)), .val (.int sp), .val (.int (Int32.ofNat Q)), .val (.int (p3 &&& (3 : Int32))), .val (.int (Int32.ofNat R_)), .val (.int (Int32.ofNat Xq)), .val (.ref b71), .val (.int (1 : Int32)), .val (.int (1 : Int32))] []) _
          refine Go.step (fun _ => XS.iconst X107.here hx rfl (hb hby at_260)) ?_
          show Go p e below T107 (mkF m 261 #[.val (.int p0), .val (.int p1), .val (.int p2), .val (.int p3), .val (.int p4), .val (.int (Int32.ofNat N)), .val (.int (Int32.ofNat P)), .val (.int sp), .val (.int (Int32.ofNat Q)), .val (.int (p3 &&& (3 : Int32))), .val (.int (Int32.ofNat R_)), .val (.int (Int32.ofNat Xq)), .val (.ref b71), .val (.int (1 : Int32)), .val (.int (1 : Int32))] [(.int (1 : Int32))]) _
          refine Go.step (fun _ => XS.goto X107.here hx rfl (pc0 := 261) (pc' := 265) rfl (hb hby at_261) (by decide) (by decide)) ?_
          show Go p e below T107 (mkF m 265 #[.val (.int p0), .val (.int p1), .val (.int p2), .val (.int p3), .val (.int p4), .val (.int (Int32.ofNat N)), .val (.int (Int32.ofNat P)), .val (.int sp), .val (.int (Int32.ofNat Q)), .val (.int (p3 &&& (3 : Int32))), .val (.int (Int32.ofNat R_)), .val (.int (Int32.ofNat Xq)), .val (.ref b71), .val (.int (1 : Int32)), .val (.int (1 : Int32))] [(.int (1 : Int32))]) _
          refine Go.retN (t := .boolean) (z' := (1 : Int32)) X107 hx hret (by simp) hlk (hb hby at_265) (by decide) ?_ (by decide) (by decide)
          exact ⟨rfl, N107⟩
    show Go p e below s₁ (mkF m 52 #[.val (.int p0), .val (.int p1), .val (.int p2), .val (.int p3), .val (.int p4), .val (.int (Int32.ofNat N)), .val (.int (Int32.ofNat P)), .val (.int sp), .val (.int (Int32.ofNat Q)), .val (.int (p3 &&& (3 : Int32))), .unset, .unset, .unset, .unset, .unset] []) _
    refine Go.step (fun _ => XS.iload X0.here hx rfl (hb hby at_52) rfl ) ?_
    show Go p e below s₁ (mkF m 54 #[.val (.int p0), .val (.int p1), .val (.int p2), .val (.int p3), .val (.int p4), .val (.int (Int32.ofNat N)), .val (.int (Int32.ofNat P)), .val (.int sp), .val (.int (Int32.ofNat Q)), .val (.int (p3 &&& (3 : Int32))), .unset, .unset, .unset, .unset, .unset] [(.int (p3 &&& (3 : Int32)))]) _
    by_cases hc54 : (p3 &&& (3 : Int32)) = (0 : Int32)
    · skip
      refine Go.step (fun _ => XS.ifNo X0.here hx rfl (hb hby at_54) rfl ((if0 _ _).trans (teq hc54).2)) ?_
      show Go p e below s₁ (mkF m 57 #[.val (.int p0), .val (.int p1), .val (.int p2), .val (.int p3), .val (.int p4), .val (.int (Int32.ofNat N)), .val (.int (Int32.ofNat P)), .val (.int sp), .val (.int (Int32.ofNat Q)), .val (.int (p3 &&& (3 : Int32))), .unset, .unset, .unset, .unset, .unset] []) _
      refine Go.step (fun _ => XS.iload X0.here hx rfl (hb hby at_57) rfl ) ?_
      show Go p e below s₁ (mkF m 59 #[.val (.int p0), .val (.int p1), .val (.int p2), .val (.int p3), .val (.int p4), .val (.int (Int32.ofNat N)), .val (.int (Int32.ofNat P)), .val (.int sp), .val (.int (Int32.ofNat Q)), .val (.int (p3 &&& (3 : Int32))), .unset, .unset, .unset, .unset, .unset] [(.int (Int32.ofNat P))]) _
      refine Go.step (fun _ => XS.istore X0.here hx rfl (hb hby at_59) rfl (l' := #[.val (.int p0), .val (.int p1), .val (.int p2), .val (.int p3), .val (.int p4), .val (.int (Int32.ofNat N)), .val (.int (Int32.ofNat P)), .val (.int sp), .val (.int (Int32.ofNat Q)), .val (.int (p3 &&& (3 : Int32))), .val (.int (Int32.ofNat P)), .unset, .unset, .unset, .unset]) rfl) ?_
      show Go p e below s₁ (mkF m 61 #[.val (.int p0), .val (.int p1), .val (.int p2), .val (.int p3), .val (.int p4), .val (.int (Int32.ofNat N)), .val (.int (Int32.ofNat P)), .val (.int sp), .val (.int (Int32.ofNat Q)), .val (.int (p3 &&& (3 : Int32))), .val (.int (Int32.ofNat P)), .unset, .unset, .unset, .unset] []) _
      refine Go.step (fun _ => XS.goto X0.here hx rfl (pc0 := 61) (pc' := 88) rfl (hb hby at_61) (by decide) (by decide)) ?_
      show Go p e below s₁ (mkF m 88 #[.val (.int p0), .val (.int p1), .val (.int p2), .val (.int p3), .val (.int p4), .val (.int (Int32.ofNat N)), .val (.int (Int32.ofNat P)), .val (.int sp), .val (.int (Int32.ofNat Q)), .val (.int (p3 &&& (3 : Int32))), .val (.int (Int32.ofNat P)), .unset, .unset, .unset, .unset] []) _
      exact J88 _ hP
    · skip
      refine Go.step (fun _ => XS.ifYes X0.here hx rfl (pc0 := 54) (pc' := 64) rfl (hb hby at_54) rfl ((if0 _ _).trans (feq hc54).2) (by decide) (by decide)) ?_
      show Go p e below s₁ (mkF m 64 #[.val (.int p0), .val (.int p1), .val (.int p2), .val (.int p3), .val (.int p4), .val (.int (Int32.ofNat N)), .val (.int (Int32.ofNat P)), .val (.int sp), .val (.int (Int32.ofNat Q)), .val (.int (p3 &&& (3 : Int32))), .unset, .unset, .unset, .unset, .unset] []) _
      refine Go.step (fun _ => XS.iload X0.here hx rfl (hb hby at_64) rfl ) ?_
      show Go p e below s₁ (mkF m 66 #[.val (.int p0), .val (.int p1), .val (.int p2), .val (.int p3), .val (.int p4), .val (.int (Int32.ofNat N)), .val (.int (Int32.ofNat P)), .val (.int sp), .val (.int (Int32.ofNat Q)), .val (.int (p3 &&& (3 : Int32))), .unset, .unset, .unset, .unset, .unset] [(.int (p3 &&& (3 : Int32)))]) _
      refine Go.step (fun _ => XS.iconst X0.here hx rfl (hb hby at_66)) ?_
      show Go p e below s₁ (mkF m 67 #[.val (.int p0), .val (.int p1), .val (.int p2), .val (.int p3), .val (.int p4), .val (.int (Int32.ofNat N)), .val (.int (Int32.ofNat P)), .val (.int sp), .val (.int (Int32.ofNat Q)), .val (.int (p3 &&& (3 : Int32))), .unset, .unset, .unset, .unset, .unset] [(.int (1 : Int32)), (.int (p3 &&& (3 : Int32)))]) _
      by_cases hc67 : (p3 &&& (3 : Int32)) = (1 : Int32)
      · skip
        refine Go.step (fun _ => XS.icmpNo X0.here hx rfl (hb hby at_67) rfl (teq hc67).2) ?_
        show Go p e below s₁ (mkF m 70 #[.val (.int p0), .val (.int p1), .val (.int p2), .val (.int p3), .val (.int p4), .val (.int (Int32.ofNat N)), .val (.int (Int32.ofNat P)), .val (.int sp), .val (.int (Int32.ofNat Q)), .val (.int (p3 &&& (3 : Int32))), .unset, .unset, .unset, .unset, .unset] []) _
        refine Go.step (fun _ => XS.iload X0.here hx rfl (hb hby at_70) rfl ) ?_
        show Go p e below s₁ (mkF m 72 #[.val (.int p0), .val (.int p1), .val (.int p2), .val (.int p3), .val (.int p4), .val (.int (Int32.ofNat N)), .val (.int (Int32.ofNat P)), .val (.int sp), .val (.int (Int32.ofNat Q)), .val (.int (p3 &&& (3 : Int32))), .unset, .unset, .unset, .unset, .unset] [(.int (Int32.ofNat Q))]) _
        refine Go.step (fun _ => XS.istore X0.here hx rfl (hb hby at_72) rfl (l' := #[.val (.int p0), .val (.int p1), .val (.int p2), .val (.int p3), .val (.int p4), .val (.int (Int32.ofNat N)), .val (.int (Int32.ofNat P)), .val (.int sp), .val (.int (Int32.ofNat Q)), .val (.int (p3 &&& (3 : Int32))), .val (.int (Int32.ofNat Q)), .unset, .unset, .unset, .unset]) rfl) ?_
        show Go p e below s₁ (mkF m 74 #[.val (.int p0), .val (.int p1), .val (.int p2), .val (.int p3), .val (.int p4), .val (.int (Int32.ofNat N)), .val (.int (Int32.ofNat P)), .val (.int sp), .val (.int (Int32.ofNat Q)), .val (.int (p3 &&& (3 : Int32))), .val (.int (Int32.ofNat Q)), .unset, .unset, .unset, .unset] []) _
        refine Go.step (fun _ => XS.goto X0.here hx rfl (pc0 := 74) (pc' := 88) rfl (hb hby at_74) (by decide) (by decide)) ?_
        show Go p e below s₁ (mkF m 88 #[.val (.int p0), .val (.int p1), .val (.int p2), .val (.int p3), .val (.int p4), .val (.int (Int32.ofNat N)), .val (.int (Int32.ofNat P)), .val (.int sp), .val (.int (Int32.ofNat Q)), .val (.int (p3 &&& (3 : Int32))), .val (.int (Int32.ofNat Q)), .unset, .unset, .unset, .unset] []) _
        exact J88 _ hQ
      · skip
        refine Go.step (fun _ => XS.icmpYes X0.here hx rfl (pc0 := 67) (pc' := 77) rfl (hb hby at_67) rfl (feq hc67).2 (by decide) (by decide)) ?_
        show Go p e below s₁ (mkF m 77 #[.val (.int p0), .val (.int p1), .val (.int p2), .val (.int p3), .val (.int p4), .val (.int (Int32.ofNat N)), .val (.int (Int32.ofNat P)), .val (.int sp), .val (.int (Int32.ofNat Q)), .val (.int (p3 &&& (3 : Int32))), .unset, .unset, .unset, .unset, .unset] []) _
        refine Go.step (fun _ => XS.iloadN X0.here hx rfl (hb hby at_77) rfl ) ?_
        show Go p e below s₁ (mkF m 78 #[.val (.int p0), .val (.int p1), .val (.int p2), .val (.int p3), .val (.int p4), .val (.int (Int32.ofNat N)), .val (.int (Int32.ofNat P)), .val (.int sp), .val (.int (Int32.ofNat Q)), .val (.int (p3 &&& (3 : Int32))), .unset, .unset, .unset, .unset, .unset] [(.int p3)]) _
        refine Go.step (fun _ => XS.iconst X0.here hx rfl (hb hby at_78)) ?_
        show Go p e below s₁ (mkF m 79 #[.val (.int p0), .val (.int p1), .val (.int p2), .val (.int p3), .val (.int p4), .val (.int (Int32.ofNat N)), .val (.int (Int32.ofNat P)), .val (.int sp), .val (.int (Int32.ofNat Q)), .val (.int (p3 &&& (3 : Int32))), .unset, .unset, .unset, .unset, .unset] [(.int (2 : Int32)), (.int p3)]) _
        refine Go.step (fun _ => XS.iushr X0.here hx rfl (hb hby at_79) rfl) ?_
        show Go p e below s₁ (mkF m 80 #[.val (.int p0), .val (.int p1), .val (.int p2), .val (.int p3), .val (.int p4), .val (.int (Int32.ofNat N)), .val (.int (Int32.ofNat P)), .val (.int sp), .val (.int (Int32.ofNat Q)), .val (.int (p3 &&& (3 : Int32))), .unset, .unset, .unset, .unset, .unset] [(.int ((p3.toUInt32 >>> ((2 : Int32) &&& 31).toUInt32).toInt32))]) _
        refine Go.step (fun _ => X0.ldcInt hx hown (mvT hZ (hw _ (List.mem_of_getElem? (i := 0) rfl))) (g := (mkF m 80 #[.val (.int p0), .val (.int p1), .val (.int p2), .val (.int p3), .val (.int p4), .val (.int (Int32.ofNat N)), .val (.int (Int32.ofNat P)), .val (.int sp), .val (.int (Int32.ofNat Q)), .val (.int (p3 &&& (3 : Int32))), .unset, .unset, .unset, .unset, .unset] [(.int ((p3.toUInt32 >>> ((2 : Int32) &&& 31).toUInt32).toInt32))])) rfl (hb hby at_80) _) ?_
        show Go p e below s₁ (mkF m 82 #[.val (.int p0), .val (.int p1), .val (.int p2), .val (.int p3), .val (.int p4), .val (.int (Int32.ofNat N)), .val (.int (Int32.ofNat P)), .val (.int sp), .val (.int (Int32.ofNat Q)), .val (.int (p3 &&& (3 : Int32))), .unset, .unset, .unset, .unset, .unset] [(.int (2147483647 : Int32)), (.int ((p3.toUInt32 >>> ((2 : Int32) &&& 31).toUInt32).toInt32))]) _
        refine Go.step (fun _ => XS.iand X0.here hx rfl (hb hby at_82) rfl) ?_
        show Go p e below s₁ (mkF m 83 #[.val (.int p0), .val (.int p1), .val (.int p2), .val (.int p3), .val (.int p4), .val (.int (Int32.ofNat N)), .val (.int (Int32.ofNat P)), .val (.int sp), .val (.int (Int32.ofNat Q)), .val (.int (p3 &&& (3 : Int32))), .unset, .unset, .unset, .unset, .unset] [(.int (((p3.toUInt32 >>> ((2 : Int32) &&& 31).toUInt32).toInt32) &&& (2147483647 : Int32)))]) _
        refine Go.step (fun _ => XS.iload X0.here hx rfl (hb hby at_83) rfl ) ?_
        show Go p e below s₁ (mkF m 85 #[.val (.int p0), .val (.int p1), .val (.int p2), .val (.int p3), .val (.int p4), .val (.int (Int32.ofNat N)), .val (.int (Int32.ofNat P)), .val (.int sp), .val (.int (Int32.ofNat Q)), .val (.int (p3 &&& (3 : Int32))), .unset, .unset, .unset, .unset, .unset] [(.int (Int32.ofNat N)), (.int (((p3.toUInt32 >>> ((2 : Int32) &&& 31).toUInt32).toInt32) &&& (2147483647 : Int32)))]) _
        refine Go.step (fun _ => iremM X0 hx rfl (hb hby at_85) rfl (own_nz (by omega) (by omega))) ?_
        show Go p e below s₁ (mkF m 86 #[.val (.int p0), .val (.int p1), .val (.int p2), .val (.int p3), .val (.int p4), .val (.int (Int32.ofNat N)), .val (.int (Int32.ofNat P)), .val (.int sp), .val (.int (Int32.ofNat Q)), .val (.int (p3 &&& (3 : Int32))), .unset, .unset, .unset, .unset, .unset] [(.int ((((p3.toUInt32 >>> ((2 : Int32) &&& 31).toUInt32).toInt32) &&& (2147483647 : Int32)) % (Int32.ofNat N)))]) _
        obtain ⟨R, hR, heR⟩ := own_mod (x := ((p3.toUInt32 >>> ((2 : Int32) &&& 31).toUInt32).toInt32)) (n := N) (by omega) (by omega)
        rw [heR]
        clear heR
        show Go p e below s₁ (mkF m 86 #[.val (.int p0), .val (.int p1), .val (.int p2), .val (.int p3), .val (.int p4), .val (.int (Int32.ofNat N)), .val (.int (Int32.ofNat P)), .val (.int sp), .val (.int (Int32.ofNat Q)), .val (.int (p3 &&& (3 : Int32))), .unset, .unset, .unset, .unset, .unset] [(.int (Int32.ofNat R))]) _
        refine Go.step (fun _ => XS.istore X0.here hx rfl (hb hby at_86) rfl (l' := #[.val (.int p0), .val (.int p1), .val (.int p2), .val (.int p3), .val (.int p4), .val (.int (Int32.ofNat N)), .val (.int (Int32.ofNat P)), .val (.int sp), .val (.int (Int32.ofNat Q)), .val (.int (p3 &&& (3 : Int32))), .val (.int (Int32.ofNat R)), .unset, .unset, .unset, .unset]) rfl) ?_
        show Go p e below s₁ (mkF m 88 #[.val (.int p0), .val (.int p1), .val (.int p2), .val (.int p3), .val (.int p4), .val (.int (Int32.ofNat N)), .val (.int (Int32.ofNat P)), .val (.int sp), .val (.int (Int32.ofNat Q)), .val (.int (p3 &&& (3 : Int32))), .val (.int (Int32.ofNat R)), .unset, .unset, .unset, .unset] []) _
        exact J88 _ hR
  show Go p e below s₁ (mkF m 19 #[.val (.int p0), .val (.int p1), .val (.int p2), .val (.int p3), .val (.int p4), .val (.int (Int32.ofNat N)), .val (.int (Int32.ofNat P)), .unset, .unset, .unset, .unset, .unset, .unset, .unset, .unset] [(.int p2)]) _
  refine Go.step (fun _ => XS.iconst X0.here hx rfl (hb hby at_19)) ?_
  show Go p e below s₁ (mkF m 20 #[.val (.int p0), .val (.int p1), .val (.int p2), .val (.int p3), .val (.int p4), .val (.int (Int32.ofNat N)), .val (.int (Int32.ofNat P)), .unset, .unset, .unset, .unset, .unset, .unset, .unset, .unset] [(.int (1 : Int32)), (.int p2)]) _
  refine Go.step (fun _ => XS.iand X0.here hx rfl (hb hby at_20) rfl) ?_
  show Go p e below s₁ (mkF m 21 #[.val (.int p0), .val (.int p1), .val (.int p2), .val (.int p3), .val (.int p4), .val (.int (Int32.ofNat N)), .val (.int (Int32.ofNat P)), .unset, .unset, .unset, .unset, .unset, .unset, .unset, .unset] [(.int (p2 &&& (1 : Int32)))]) _
  by_cases hc21 : (p2 &&& (1 : Int32)) = (0 : Int32)
  · skip
    refine Go.step (fun _ => XS.ifYes X0.here hx rfl (pc0 := 21) (pc' := 29) rfl (hb hby at_21) rfl ((if0 _ _).trans (teq hc21).1) (by decide) (by decide)) ?_
    show Go p e below s₁ (mkF m 29 #[.val (.int p0), .val (.int p1), .val (.int p2), .val (.int p3), .val (.int p4), .val (.int (Int32.ofNat N)), .val (.int (Int32.ofNat P)), .unset, .unset, .unset, .unset, .unset, .unset, .unset, .unset] []) _
    refine Go.step (fun _ => X0.ldcInt hx hown (mvT hZ (hw _ (List.mem_of_getElem? (i := 1) rfl))) (g := (mkF m 29 #[.val (.int p0), .val (.int p1), .val (.int p2), .val (.int p3), .val (.int p4), .val (.int (Int32.ofNat N)), .val (.int (Int32.ofNat P)), .unset, .unset, .unset, .unset, .unset, .unset, .unset, .unset] [])) rfl (hb hby at_29) _) ?_
    show Go p e below s₁ (mkF m 31 #[.val (.int p0), .val (.int p1), .val (.int p2), .val (.int p3), .val (.int p4), .val (.int (Int32.ofNat N)), .val (.int (Int32.ofNat P)), .unset, .unset, .unset, .unset, .unset, .unset, .unset, .unset] [(.int (65535 : Int32))]) _
    exact J31 _ (by decide) (by decide)
  · skip
    refine Go.step (fun _ => XS.ifNo X0.here hx rfl (hb hby at_21) rfl ((if0 _ _).trans (feq hc21).1)) ?_
    show Go p e below s₁ (mkF m 24 #[.val (.int p0), .val (.int p1), .val (.int p2), .val (.int p3), .val (.int p4), .val (.int (Int32.ofNat N)), .val (.int (Int32.ofNat P)), .unset, .unset, .unset, .unset, .unset, .unset, .unset, .unset] []) _
    refine Go.step (fun _ => XS.bipush X0.here hx rfl (hb hby at_24)) ?_
    show Go p e below s₁ (mkF m 26 #[.val (.int p0), .val (.int p1), .val (.int p2), .val (.int p3), .val (.int p4), .val (.int (Int32.ofNat N)), .val (.int (Int32.ofNat P)), .unset, .unset, .unset, .unset, .unset, .unset, .unset, .unset] [(.int (63 : Int32))]) _
    refine Go.step (fun _ => XS.goto X0.here hx rfl (pc0 := 26) (pc' := 31) rfl (hb hby at_26) (by decide) (by decide)) ?_
    show Go p e below s₁ (mkF m 31 #[.val (.int p0), .val (.int p1), .val (.int p2), .val (.int p3), .val (.int p4), .val (.int (Int32.ofNat N)), .val (.int (Int32.ofNat P)), .unset, .unset, .unset, .unset, .unset, .unset, .unset, .unset] [(.int (63 : Int32))]) _
    exact J31 _ (by decide) (by decide)
set_option maxRecDepth 65536 in
set_option maxHeartbeats 40000000 in
theorem comes_1 {Post : Tables → Env → Array Value → State → Outcome → State → Prop} (hpost : ∀ tb e args s v u, (limb_1_1.after args s (.returned v) u = true ∧ limb_1_2.after args s (.returned v) u = true ∧ True) → FrameEnd s (.returned v) u (Jvm.fieldLocs frame_1_writes args s ++ Jvm.arrayLocs frame_1_arrays args s ++ Jvm.staticLocs frame_1_statics s) 24 384 → Post tb e args s (.returned v) u) :
    ArmFor flags0 classFile x code maxLocals ret World_1 tables_1 room_1 Calls_1 rest_1 Pre_1 Post := by
  intro l hfl _ _ p e ha hc hk s m args below hf hA hF happ hP
  obtain ⟨hcalls, hrest, hpre⟩ := hP
  obtain ⟨-, -, -, hnamed, -, -, -, hat⟩ := (Spec.applies_iff hf).mp happ
  obtain ⟨hg, hn⟩ := and_e (Cond.before_iff.mp (show (Jvm.Cond.and given_1 narrow_1).before args s = true from hpre))
  obtain ⟨g1, g2⟩ := and_e hg
  obtain ⟨g3, g4⟩ := and_e g2
  obtain ⟨g5, g6⟩ := and_e g4
  obtain ⟨g7, g8⟩ := and_e g6
  obtain ⟨g9, g10⟩ := and_e g8
  obtain ⟨w0, w1, w2, w3, w4, rfl⟩ : ∃ w0 w1 w2 w3 w4 : Value, args = #[w0, w1, w2, w3, w4] := by
    have hs : args.size = 5 := by simpa [Cond.value, given_1] using g1
    obtain ⟨L⟩ := args
    match L, hs with
    | [w0, w1, w2, w3, w4], _ => exact ⟨w0, w1, w2, w3, w4, rfl⟩
  have hw := fun d (hd : d ∈ tables_1) => atoms_spec (ws := Jvm.Cond.code x code maxLocals ret :: tables_1) hat d (List.mem_cons_of_mem _ hd)
  have hfit : Fit s := fun {y c} hc i hi => by
    obtain ⟨ha, rfl⟩ := Array.getElem?_eq_some_iff.mp hc
    have q := List.all_eq_true.mp ((Array.all_eq_true_iff_forall_mem.mp hF) _ (Array.getElem_mem ha)) i (List.mem_range.mpr hi)
    simpa [Array.getElem?_eq_getElem hi] using q
  obtain ⟨i0, ei0⟩ := is_v g3
  obtain rfl : w0 = (.int i0) := Option.some.inj ei0
  obtain ⟨i1, ei1⟩ := is_v g5
  obtain rfl : w1 = (.int i1) := Option.some.inj ei1
  obtain ⟨i2, ei2⟩ := is_v g7
  obtain rfl : w2 = (.int i2) := Option.some.inj ei2
  obtain ⟨i3, ei3⟩ := is_v g9
  obtain rfl : w3 = (.int i3) := Option.some.inj ei3
  obtain ⟨i4, ei4⟩ := is_v g10
  obtain rfl : w4 = (.int i4) := Option.some.inj ei4
  obtain ⟨n, o, h1, h2, h3, _, L, rfl, ⟨rfl, N⟩, hq⟩ := rm0 l s _ hw tables_1 i0 i1 i2 i3 i4 s.heap s.heap.size (Nat.le_refl _) p e ha hc hk s m _ below hf ((Spec.applies_iff_loose hf).mp happ).1 ⟨rfl, State.Warmed39.refl s, rfl⟩ trivial
  exact ⟨n, _, h1, h2, h3, hpost _ _ _ _ _ _ ⟨Cond.after_iff.mpr rfl, Cond.after_iff.mpr (eq_i res_at (Term.int_eval (1)) rfl), trivial⟩ ⟨hq.1, hq.2.1, (hq.2.2.sift fun y hy => Or.inr (N y hy)).mono (by decide) (by decide)⟩⟩
theorem main_1_1 : Claimed_1_1 := comes_1 fun _ _ _ _ _ _ h hF => ⟨h.1, hF⟩
theorem main_1_2 : Claimed_1_2 := comes_1 fun _ _ _ _ _ _ h hF => ⟨h.2.1, hF⟩
end Jvm.Pilot.@@N@@
namespace Jvm.Pilot.@@N@@
open Jvm Jvm.ClassFile Sem Op Lib Jvm.Free Jvm.Stand Jvm.Pilot.@@N@@.Jvm.D
/-! MADE BY PROGRAM (witnessworld.py) out of the Statement's table words and the real class files: 19 classes; the members and pool entries that the words name. The judged class is class 1, her method 1. -/
namespace start1
open Jvm.ClassFile
def u (s : String) : CpInfo := .utf8 (stringToUtf16 s)
/-- a pool by its gaps: so many unusable entries, then the entry; so many at the end -/
def gap : Nat → List CpInfo → List CpInfo
  | 0, r => r
  | n + 1, r => .unusable :: gap n r
def poolList (es : List (Nat × CpInfo)) (last : Nat) : List CpInfo := es.foldr (fun e r => gap e.1 (e.2 :: r)) (gap last [])
def pool (es : List (Nat × CpInfo)) (last : Nat) : Array CpInfo := ⟨poolList es last⟩
def fileOf (pool : Array CpInfo) (this : Nat) (attrs : Array Attribute := #[]) (ms : Array MethodInfo := #[]) (fl : Nat := 33) (sup : Nat := 0) (ifs : Array Nat := #[]) (fds : Array FieldInfo := #[]) : ClassFile where
  minorVersion := 0
  majorVersion := 65
  constantPool := pool
  accessFlags := fl
  thisClass := this
  superClass := sup
  interfaces := ifs
  fields := fds
  methods := ms
  attributes := attrs
def plain (name : String) (sup : Option ClassId) : Class where
  name := name
  kind := .ordinary
  loader := none
  accessFlags := 33
  super := sup
  interfaces := #[]
  cf := none
  fields := #[]
  methods := #[]
  instanceTypes := #[]
  staticTypes := #[]
  resolved := #[]
  callSites := []
  init := .initialized
  statics := none
  mirror := none

def pool0 : Array CpInfo := pool [(5, u "<init>"), (0, u "()V"), (1, .class_ 10), (1, u "java/lang/Object")] 113

def k0c0 : Code := { maxStack := 0, maxLocals := 1, code := object_method_1_code, exceptionTable := #[], attributes := #[] }
def k0m0 : Method := { name := "<init>", desc := "()V", sig := { parameters := [], returnType := none }, accessFlags := 1, code := some k0c0 }
/-- java/lang/Object -/
def k0 : Class := { plain "java/lang/Object" none with
  accessFlags := 33
  interfaces := #[]
  cf := some (fileOf pool0 8 #[] #[{ accessFlags := 1, nameIndex := 5, descriptorIndex := 6, attributes := #[] }] 33 0 #[] #[])
  fields := #[]
  methods := #[k0m0]
  instanceTypes := #[]
  staticTypes := #[]
  resolved := Array.replicate 124 none
  statics := none }

def pool1 : Array CpInfo := pool [(2, .class_ 4), (1, u "java/lang/Object"), (0, u "<init>"), (0, u "()V"), (0, .integer 2147483647), (0, .integer 65535), (0, .class_ 10), (0, u "com/example/maxhue/maxhue/PointSet"), (0, .methodref 9 12), (0, .nameAndType 5 13), (0, u "(I)V"), (0, .methodref 9 15), (0, .nameAndType 16 13), (0, u "add"), (0, .methodref 9 18), (0, .nameAndType 19 13), (0, u "remove"), (0, .methodref 9 21), (0, .nameAndType 22 23), (0, u "lastBelow"), (0, u "(I)I"), (0, .methodref 25 26), (0, .class_ 27), (0, .nameAndType 28 29), (0, u "com/example/maxhue/maxhue/PointSetRemovePinLaw"), (0, u "ref"), (0, u "(ZIZII)I"), (2, u "law"), (0, u "(IIIII)Z")] 3

def k1m0 : Method := { name := "<init>", desc := "()V", sig := { parameters := [], returnType := none }, accessFlags := 1, code := none }
def k1c1 : Code := { maxStack := 7, maxLocals := 15, code := code, exceptionTable := #[], attributes := #[] }
def k1m1 : Method := { name := "law", desc := "(IIIII)Z", sig := { parameters := [.int, .int, .int, .int, .int], returnType := some .boolean }, accessFlags := 9, code := some k1c1 }
def k1c2 : Code := { maxStack := 2, maxLocals := 6, code := method_3_code, exceptionTable := #[], attributes := #[] }
def k1m2 : Method := { name := "ref", desc := "(ZIZII)I", sig := { parameters := [.boolean, .int, .boolean, .int, .int], returnType := some .int }, accessFlags := 10, code := some k1c2 }
/-- com/example/maxhue/maxhue/PointSetRemovePinLaw -/
def k1 : Class := { plain "com/example/maxhue/maxhue/PointSetRemovePinLaw" (some 0) with
  accessFlags := 49
  interfaces := #[]
  cf := some (fileOf pool1 25 #[] #[{ accessFlags := 1, nameIndex := 5, descriptorIndex := 6, attributes := #[] }, { accessFlags := 9, nameIndex := 32, descriptorIndex := 33, attributes := #[] }, { accessFlags := 10, nameIndex := 28, descriptorIndex := 29, attributes := #[] }] 49 2 #[] #[])
  fields := #[]
  methods := #[k1m0, k1m1, k1m2]
  instanceTypes := #[]
  staticTypes := #[]
  resolved := Array.replicate 37 none
  statics := none }

def pool2 : Array CpInfo := pool [(1, .methodref 2 3), (0, .class_ 4), (0, .nameAndType 5 6), (0, u "java/lang/Object"), (0, u "<init>"), (0, u "()V"), (0, .class_ 8), (0, u "[J"), (0, .fieldref 10 11), (0, .class_ 12), (0, .nameAndType 13 14), (0, u "com/example/maxhue/maxhue/PointSet"), (0, u "levels"), (0, u "[[J"), (0, .methodref 16 17), (0, .class_ 18), (0, .nameAndType 19 20), (0, u "java/lang/Math"), (0, u "max"), (0, u "(II)I"), (0, .long 18446744073709551615), (1, .methodref 10 24), (0, .nameAndType 25 26), (0, u "lastBit"), (0, u "(J)I"), (0, .methodref 28 29), (0, .class_ 30), (0, .nameAndType 31 26), (0, u "java/lang/Long"), (0, u "numberOfLeadingZeros"), (0, u "(I)V"), (3, u "add"), (1, u "remove"), (0, u "lastBelow"), (0, u "(I)I")] 2

def k2c0 : Code := { maxStack := 5, maxLocals := 5, code := prog_61_method_1_code, exceptionTable := #[], attributes := #[] }
def k2m0 : Method := { name := "<init>", desc := "(I)V", sig := { parameters := [.int], returnType := none }, accessFlags := 0, code := some k2c0 }
def k2c1 : Code := { maxStack := 7, maxLocals := 9, code := prog_61_method_2_code, exceptionTable := #[], attributes := #[] }
def k2m1 : Method := { name := "add", desc := "(I)V", sig := { parameters := [.int], returnType := none }, accessFlags := 0, code := some k2c1 }
def k2c2 : Code := { maxStack := 8, maxLocals := 8, code := prog_61_method_3_code, exceptionTable := #[], attributes := #[] }
def k2m2 : Method := { name := "remove", desc := "(I)V", sig := { parameters := [.int], returnType := none }, accessFlags := 0, code := some k2c2 }
def k2c3 : Code := { maxStack := 7, maxLocals := 7, code := prog_61_method_4_code, exceptionTable := #[], attributes := #[] }
def k2m3 : Method := { name := "lastBelow", desc := "(I)I", sig := { parameters := [.int], returnType := some .int }, accessFlags := 0, code := some k2c3 }
def k2c4 : Code := { maxStack := 3, maxLocals := 2, code := prog_61_method_5_code, exceptionTable := #[], attributes := #[] }
def k2m4 : Method := { name := "lastBit", desc := "(J)I", sig := { parameters := [.long], returnType := some .int }, accessFlags := 10, code := some k2c4 }
/-- com/example/maxhue/maxhue/PointSet -/
def k2 : Class := { plain "com/example/maxhue/maxhue/PointSet" (some 0) with
  accessFlags := 48
  interfaces := #[]
  cf := some (fileOf pool2 10 #[] #[{ accessFlags := 0, nameIndex := 5, descriptorIndex := 32, attributes := #[] }, { accessFlags := 0, nameIndex := 36, descriptorIndex := 32, attributes := #[] }, { accessFlags := 0, nameIndex := 38, descriptorIndex := 32, attributes := #[] }, { accessFlags := 0, nameIndex := 39, descriptorIndex := 40, attributes := #[] }, { accessFlags := 10, nameIndex := 25, descriptorIndex := 26, attributes := #[] }] 48 2 #[] #[{ accessFlags := 18, nameIndex := 13, descriptorIndex := 14, attributes := #[] }])
  fields := #[{ name := "levels", type := (.array (.array .long)), accessFlags := 18, slot := 0, constantValue := 0 }]
  methods := #[k2m0, k2m1, k2m2, k2m3, k2m4]
  instanceTypes := #[(.array (.array .long))]
  staticTypes := #[]
  resolved := Array.replicate 43 none
  statics := none }

def pool3 : Array CpInfo := pool [(1, .class_ 2), (0, u "java/lang/Math"), (1, .class_ 6), (1, u "java/lang/Object"), (0, u "<init>"), (0, u "()V"), (89, .class_ 100), (1, u "java/lang/Math$RandomNumberGeneratorHolder"), (71, u "negativeZeroFloatBits"), (0, u "J"), (2, u "negativeZeroDoubleBits"), (21, u "max"), (46, u "$assertionsDisabled"), (0, u "Z"), (88, u "(II)I"), (2, u "twoToTheDoubleScaleDown"), (0, u "D"), (4, u "twoToTheDoubleScaleUp"), (9, u "E"), (3, u "PI"), (2, u "TAU"), (2, u "DEGREES_TO_RADIANS"), (0, u "RADIANS_TO_DEGREES")] 94

def k3m0 : Method := { name := "<init>", desc := "()V", sig := { parameters := [], returnType := none }, accessFlags := 2, code := none }
def k3c1 : Code := { maxStack := 2, maxLocals := 2, code := jdk_29_method_65_code, exceptionTable := #[], attributes := #[] }
def k3m1 : Method := { name := "max", desc := "(II)I", sig := { parameters := [.int, .int], returnType := some .int }, accessFlags := 9, code := some k3c1 }
/-- java/lang/Math -/
def k3 : Class := { plain "java/lang/Math" (some 0) with
  accessFlags := 49
  interfaces := #[]
  cf := some (fileOf pool3 1 #[.nestMembers #[98]] #[{ accessFlags := 2, nameIndex := 7, descriptorIndex := 8, attributes := #[] }, { accessFlags := 9, nameIndex := 198, descriptorIndex := 335, attributes := #[] }] 49 4 #[] #[{ accessFlags := 25, nameIndex := 354, descriptorIndex := 339, attributes := #[] }, { accessFlags := 25, nameIndex := 358, descriptorIndex := 339, attributes := #[] }, { accessFlags := 25, nameIndex := 361, descriptorIndex := 339, attributes := #[] }, { accessFlags := 26, nameIndex := 364, descriptorIndex := 339, attributes := #[] }, { accessFlags := 26, nameIndex := 365, descriptorIndex := 339, attributes := #[] }, { accessFlags := 26, nameIndex := 172, descriptorIndex := 173, attributes := #[] }, { accessFlags := 26, nameIndex := 176, descriptorIndex := 173, attributes := #[] }, { accessFlags := 8, nameIndex := 344, descriptorIndex := 339, attributes := #[] }, { accessFlags := 8, nameIndex := 338, descriptorIndex := 339, attributes := #[] }, { accessFlags := 4120, nameIndex := 245, descriptorIndex := 246, attributes := #[] }])
  fields := #[{ name := "E", type := .double, accessFlags := 25, slot := 0, constantValue := 0 }, { name := "PI", type := .double, accessFlags := 25, slot := 1, constantValue := 0 }, { name := "TAU", type := .double, accessFlags := 25, slot := 2, constantValue := 0 }, { name := "DEGREES_TO_RADIANS", type := .double, accessFlags := 26, slot := 3, constantValue := 0 }, { name := "RADIANS_TO_DEGREES", type := .double, accessFlags := 26, slot := 4, constantValue := 0 }, { name := "negativeZeroFloatBits", type := .long, accessFlags := 26, slot := 5, constantValue := 0 }, { name := "negativeZeroDoubleBits", type := .long, accessFlags := 26, slot := 6, constantValue := 0 }, { name := "twoToTheDoubleScaleUp", type := .double, accessFlags := 8, slot := 7, constantValue := 0 }, { name := "twoToTheDoubleScaleDown", type := .double, accessFlags := 8, slot := 8, constantValue := 0 }, { name := "$assertionsDisabled", type := .boolean, accessFlags := 4120, slot := 9, constantValue := 0 }]
  methods := #[k3m0, k3m1]
  instanceTypes := #[]
  staticTypes := #[.double, .double, .double, .double, .double, .long, .long, .double, .double, .boolean]
  resolved := Array.replicate 460 none
  statics := none }

def pool4 : Array CpInfo := pool [(1, .class_ 2), (0, u "java/io/Serializable"), (0, .class_ 4), (0, u "java/lang/Object")] 2

/-- java/io/Serializable -/
def k4 : Class := { plain "java/io/Serializable" (some 0) with
  accessFlags := 1537
  interfaces := #[]
  cf := some (fileOf pool4 1 #[] #[] 1537 3 #[] #[])
  fields := #[]
  methods := #[]
  instanceTypes := #[]
  staticTypes := #[]
  resolved := Array.replicate 7 none
  statics := none }

def pool5 : Array CpInfo := pool [(2, .class_ 4), (1, u "java/lang/Object"), (0, u "<init>"), (0, u "()V"), (1, .class_ 10), (1, u "java/lang/Number"), (2, .class_ 14), (0, u "java/io/Serializable"), (0, u "serialVersionUID"), (0, u "J")] 20

def k5m0 : Method := { name := "<init>", desc := "()V", sig := { parameters := [], returnType := none }, accessFlags := 1, code := none }
/-- java/lang/Number -/
def k5 : Class := { plain "java/lang/Number" (some 0) with
  accessFlags := 1057
  interfaces := #[4]
  cf := some (fileOf pool5 8 #[] #[{ accessFlags := 1, nameIndex := 5, descriptorIndex := 6, attributes := #[] }] 1057 2 #[13] #[{ accessFlags := 26, nameIndex := 15, descriptorIndex := 16, attributes := #[] }])
  fields := #[{ name := "serialVersionUID", type := .long, accessFlags := 26, slot := 0, constantValue := 0 }]
  methods := #[k5m0]
  instanceTypes := #[]
  staticTypes := #[.long]
  resolved := Array.replicate 37 none
  statics := none }

def pool6 : Array CpInfo := pool [(1, .class_ 2), (0, u "java/lang/Comparable"), (0, .class_ 4), (0, u "java/lang/Object")] 7

/-- java/lang/Comparable -/
def k6 : Class := { plain "java/lang/Comparable" (some 0) with
  accessFlags := 1537
  interfaces := #[]
  cf := some (fileOf pool6 1 #[] #[] 1537 3 #[] #[])
  fields := #[]
  methods := #[]
  instanceTypes := #[]
  staticTypes := #[]
  resolved := Array.replicate 12 none
  statics := none }

def pool7 : Array CpInfo := pool [(1, .class_ 2), (0, u "java/lang/constant/Constable"), (0, .class_ 4), (0, u "java/lang/Object")] 6

/-- java/lang/constant/Constable -/
def k7 : Class := { plain "java/lang/constant/Constable" (some 0) with
  accessFlags := 1537
  interfaces := #[]
  cf := some (fileOf pool7 1 #[] #[] 1537 3 #[] #[])
  fields := #[]
  methods := #[]
  instanceTypes := #[]
  staticTypes := #[]
  resolved := Array.replicate 11 none
  statics := none }

def pool8 : Array CpInfo := pool [(1, .class_ 2), (0, u "java/lang/constant/ConstantDesc"), (0, .class_ 4), (0, u "java/lang/Object")] 32

/-- java/lang/constant/ConstantDesc -/
def k8 : Class := { plain "java/lang/constant/ConstantDesc" (some 0) with
  accessFlags := 1537
  interfaces := #[]
  cf := some (fileOf pool8 1 #[] #[] 1537 3 #[] #[])
  fields := #[]
  methods := #[]
  instanceTypes := #[]
  staticTypes := #[]
  resolved := Array.replicate 37 none
  statics := none }

def pool9 : Array CpInfo := pool [(1, .class_ 2), (0, u "java/lang/Long"), (15, .class_ 20), (1, u "java/lang/Integer"), (79, u "numberOfLeadingZeros"), (0, u "(J)I"), (133, .class_ 237), (1, u "java/lang/Long$LongCache"), (33, .class_ 272), (0, u "java/lang/Number"), (2, u "value"), (0, u "J"), (31, .methodref 18 309), (0, .nameAndType 100 310), (0, u "(I)I"), (50, u "TYPE"), (0, u "Ljava/lang/Class;"), (0, .class_ 364), (0, u "java/lang/Comparable"), (0, .class_ 366), (0, u "java/lang/constant/Constable"), (0, .class_ 368), (0, u "java/lang/constant/ConstantDesc"), (0, u "MIN_VALUE"), (1, u "MAX_VALUE"), (4, u "SIZE"), (0, u "I"), (1, u "BYTES"), (1, u "serialVersionUID")] 142

def k9c0 : Code := { maxStack := 3, maxLocals := 3, code := jdk_35_method_48_code, exceptionTable := #[], attributes := #[] }
def k9m0 : Method := { name := "numberOfLeadingZeros", desc := "(J)I", sig := { parameters := [.long], returnType := some .int }, accessFlags := 9, code := some k9c0 }
/-- java/lang/Long -/
def k9 : Class := { plain "java/lang/Long" (some 5) with
  accessFlags := 49
  interfaces := #[6, 7, 8]
  cf := some (fileOf pool9 1 #[.nestMembers #[235]] #[{ accessFlags := 9, nameIndex := 100, descriptorIndex := 101, attributes := #[] }] 49 271 #[363, 365, 367] #[{ accessFlags := 25, nameIndex := 369, descriptorIndex := 276, attributes := #[] }, { accessFlags := 25, nameIndex := 371, descriptorIndex := 276, attributes := #[] }, { accessFlags := 25, nameIndex := 361, descriptorIndex := 362, attributes := #[] }, { accessFlags := 18, nameIndex := 275, descriptorIndex := 276, attributes := #[] }, { accessFlags := 25, nameIndex := 376, descriptorIndex := 377, attributes := #[] }, { accessFlags := 25, nameIndex := 379, descriptorIndex := 377, attributes := #[] }, { accessFlags := 26, nameIndex := 381, descriptorIndex := 276, attributes := #[] }])
  fields := #[{ name := "MIN_VALUE", type := .long, accessFlags := 25, slot := 0, constantValue := 0 }, { name := "MAX_VALUE", type := .long, accessFlags := 25, slot := 1, constantValue := 0 }, { name := "TYPE", type := (.object "java/lang/Class"), accessFlags := 25, slot := 2, constantValue := 0 }, { name := "value", type := .long, accessFlags := 18, slot := 0, constantValue := 0 }, { name := "SIZE", type := .int, accessFlags := 25, slot := 3, constantValue := 0 }, { name := "BYTES", type := .int, accessFlags := 25, slot := 4, constantValue := 0 }, { name := "serialVersionUID", type := .long, accessFlags := 26, slot := 5, constantValue := 0 }]
  methods := #[k9m0]
  instanceTypes := #[.long]
  staticTypes := #[.long, .long, (.object "java/lang/Class"), .int, .int, .long]
  resolved := Array.replicate 524 none
  statics := none }

def pool10 : Array CpInfo := pool [(1, .class_ 2), (0, u "java/lang/Integer"), (16, u "digits"), (0, u "[C"), (32, u "numberOfLeadingZeros"), (0, u "(I)I"), (30, u "DigitOnes"), (0, u "[B"), (2, u "DigitTens"), (99, .class_ 190), (0, u "java/lang/Integer$IntegerCache"), (3, u "I"), (8, .class_ 204), (0, u "java/lang/Number"), (2, u "value"), (56, .integer 65536), (37, u "TYPE"), (0, u "Ljava/lang/Class;"), (0, .class_ 305), (0, u "java/lang/Comparable"), (0, .class_ 307), (0, u "java/lang/constant/Constable"), (0, .class_ 309), (0, u "java/lang/constant/ConstantDesc"), (0, u "MIN_VALUE"), (1, u "MAX_VALUE"), (3, u "SIZE"), (1, u "BYTES"), (1, u "serialVersionUID"), (0, u "J")] 131

def k10c0 : Code := { maxStack := 3, maxLocals := 2, code := jdk_33_method_47_code, exceptionTable := #[], attributes := #[] }
def k10m0 : Method := { name := "numberOfLeadingZeros", desc := "(I)I", sig := { parameters := [.int], returnType := some .int }, accessFlags := 9, code := some k10c0 }
/-- java/lang/Integer -/
def k10 : Class := { plain "java/lang/Integer" (some 5) with
  accessFlags := 49
  interfaces := #[6, 7, 8]
  cf := some (fileOf pool10 1 #[.nestMembers #[189]] #[{ accessFlags := 9, nameIndex := 53, descriptorIndex := 54, attributes := #[] }] 49 203 #[304, 306, 308] #[{ accessFlags := 25, nameIndex := 310, descriptorIndex := 194, attributes := #[] }, { accessFlags := 25, nameIndex := 312, descriptorIndex := 194, attributes := #[] }, { accessFlags := 25, nameIndex := 302, descriptorIndex := 303, attributes := #[] }, { accessFlags := 24, nameIndex := 19, descriptorIndex := 20, attributes := #[] }, { accessFlags := 24, nameIndex := 89, descriptorIndex := 86, attributes := #[] }, { accessFlags := 24, nameIndex := 85, descriptorIndex := 86, attributes := #[] }, { accessFlags := 18, nameIndex := 207, descriptorIndex := 194, attributes := #[] }, { accessFlags := 25, nameIndex := 316, descriptorIndex := 194, attributes := #[] }, { accessFlags := 25, nameIndex := 318, descriptorIndex := 194, attributes := #[] }, { accessFlags := 26, nameIndex := 320, descriptorIndex := 321, attributes := #[] }])
  fields := #[{ name := "MIN_VALUE", type := .int, accessFlags := 25, slot := 0, constantValue := 0 }, { name := "MAX_VALUE", type := .int, accessFlags := 25, slot := 1, constantValue := 0 }, { name := "TYPE", type := (.object "java/lang/Class"), accessFlags := 25, slot := 2, constantValue := 0 }, { name := "digits", type := (.array .char), accessFlags := 24, slot := 3, constantValue := 0 }, { name := "DigitTens", type := (.array .byte), accessFlags := 24, slot := 4, constantValue := 0 }, { name := "DigitOnes", type := (.array .byte), accessFlags := 24, slot := 5, constantValue := 0 }, { name := "value", type := .int, accessFlags := 18, slot := 0, constantValue := 0 }, { name := "SIZE", type := .int, accessFlags := 25, slot := 6, constantValue := 0 }, { name := "BYTES", type := .int, accessFlags := 25, slot := 7, constantValue := 0 }, { name := "serialVersionUID", type := .long, accessFlags := 26, slot := 8, constantValue := 0 }]
  methods := #[k10m0]
  instanceTypes := #[.int]
  staticTypes := #[.int, .int, (.object "java/lang/Class"), (.array .char), (.array .byte), (.array .byte), .int, .int, .long]
  resolved := Array.replicate 453 none
  statics := none }

def pool11 : Array CpInfo := pool [(1, u "java/lang/Cloneable"), (0, .class_ 1), (0, u "java/lang/Object"), (0, .class_ 3)] 3

/-- java/lang/Cloneable -/
def k11 : Class := { plain "java/lang/Cloneable" (some 0) with
  accessFlags := 1537
  interfaces := #[]
  cf := some (fileOf pool11 2 #[] #[] 1537 4 #[] #[])
  fields := #[]
  methods := #[]
  instanceTypes := #[]
  staticTypes := #[]
  resolved := Array.replicate 8 none
  statics := none }

/-- the primitive byte -/
def k12 : Class := { plain "byte" none with kind := .primitive 'B', accessFlags := 0x411 }
/-- [B -/
def k13 : Class := { plain "[B" (some 0) with kind := .array 12 .byte, interfaces := #[11, 4], accessFlags := 1041 }

/-- the primitive int -/
def k14 : Class := { plain "int" none with kind := .primitive 'I', accessFlags := 0x411 }
/-- [I -/
def k15 : Class := { plain "[I" (some 0) with kind := .array 14 .int, interfaces := #[11, 4], accessFlags := 1041 }

/-- the primitive long -/
def k16 : Class := { plain "long" none with kind := .primitive 'J', accessFlags := 0x411 }
/-- [J -/
def k17 : Class := { plain "[J" (some 0) with kind := .array 16 .long, interfaces := #[11, 4], accessFlags := 1041 }

/-- [L[J; -/
def k18 : Class := { plain "[[J" (some 0) with kind := .array 17 (.array .long), interfaces := #[11, 4], accessFlags := 1041 }

def heap : Heap := #[{ cls := 18, slots := #[.null], vm := .none }]
def classes : Array Class := #[k0, k1, k2, k3, k4, k5, k6, k7, k8, k9, k10, k11, k12, k13, k14, k15, k16, k17, k18]
def interned : List (Array UInt16 × Addr) := []
def slotsUsed : Nat := 1
def theMethod : MethodId := ⟨1, 1⟩
def args0 : Array Value := #[.int 5, .int 3, .int 3, .int 3, .int 3]
def aboutOver (below : List Frame) : State where
  vm := { classes := classes, interned := interned.toArray }
  heap := heap
  slotsUsed := slotsUsed
  threads := #[{ frames := .invoking theMethod args0 :: below }]
def below0 : List Frame := [.native { method := ⟨0, 0⟩, args := #[] }]
def about1 : State := aboutOver below0
def p0 : Program := .bare "" "" ""
def e0 : Env := launch0.env 0 0 0
theorem w_frames : about1.frames = Frame.invoking theMethod args0 :: below0 := rfl
set_option maxRecDepth 65536 in
theorem w_args : argsFit about1.vm theMethod args0 = true := by decide +kernel
set_option maxRecDepth 65536 in
theorem w_heap : heapFits about1 = true := by decide +kernel
set_option maxRecDepth 65536 in
theorem w_runnable : about1.curStatus? = some .runnable := by decide +kernel
set_option maxRecDepth 65536 in
theorem w_alone : about1.alone = true := by decide +kernel
set_option maxRecDepth 65536 in
theorem w_named : about1.methodNamed? x = some theMethod := by decide +kernel
set_option maxRecDepth 65536 in
theorem w_hears : about1.hears theMethod below0 = true := by decide +kernel
set_option maxRecDepth 65536 in
theorem w_ripe : about1.ripe theMethod args0 below0 = true := by decide +kernel
theorem w_running : about1.status = .running := rfl
set_option maxRecDepth 65536 in
theorem w_room : about1.hasRoom e0.platform room_1 = true :=
  launch0.hasRoom_least _ room_1 (by decide +kernel) (by decide +kernel) (by decide +kernel) (by decide +kernel) (by decide +kernel) (by decide +kernel)
theorem allAtoms_all (ts : List Jvm.Cond) (a : Array Jvm.Value) (st : Jvm.State) : (allAtoms ts).before a st = ts.all (fun c => c.before a st) := by
  induction ts with
  | nil => rfl
  | cons c t ih =>
    show (Jvm.Cond.and c (allAtoms t)).before a st = _
    rw [Jvm.Cond.before_and, ih, List.all_cons]
def words1 : List Jvm.Cond := Jvm.Cond.code x code maxLocals ret :: tables_1
/-- a 'code' word, met by the world's own term for the bytes: nothing is compared byte by byte -/
theorem code_word {y : MethodName} {bytes : ByteArray} {mx : Nat} {rt : Option FieldType} {a : Array Value} {s : State} {m : MethodId} {meth : Method} {c : Code} (h1 : s.methodNamed? y = some m) (h2 : s.vm.method? m = some meth) (h3 : meth.code = some c) (h4 : c.code = bytes)
    (h5 : (c.maxLocals == mx && c.exceptionTable.isEmpty && decide (c.maxStack ≤ mostOperands) && decide (meth.sig.returnType = rt) && !meth.locks && decide (parseMethodDescriptor y.desc = some meth.sig)) = true) : (Jvm.Cond.code y bytes mx rt).before a s = true := by
  simp only [Bool.and_eq_true, beq_iff_eq, Bool.not_eq_true', decide_eq_true_eq] at h5
  obtain ⟨⟨⟨⟨⟨g1, g2⟩, g3⟩, g4⟩, g5⟩, g6⟩ := h5
  simp [Cond.before, Cond.holds, Cond.value, h1, h2, h3, h4, g1, g2, g3, g4, g5, g6]
def isCode : Jvm.Cond → Bool
  | .code _ _ _ _ => true
  | _ => false
theorem all_split {L : List Jvm.Cond} {P : Jvm.Cond → Bool} (h1 : L.all (fun c => isCode c || P c) = true) (h2 : ∀ c ∈ L.filter isCode, P c = true) : L.all P = true := by
  refine List.all_eq_true.mpr fun c hc => ?_
  have h := List.all_eq_true.mp h1 c hc
  rcases Bool.eq_false_or_eq_true (isCode c) with hi | hi
  · exact h2 c (List.mem_filter.mpr ⟨hc, hi⟩)
  · simpa [hi] using h
set_option maxRecDepth 65536 in
theorem w_c0 : (Jvm.Cond.code x code maxLocals ret).before args0 about1 = true := code_word (m := ⟨1, 1⟩) (meth := k1m1) (c := k1c1) (by decide +kernel) rfl rfl rfl (by decide +kernel)
set_option maxRecDepth 65536 in
theorem w_c1 : (Jvm.Cond.code ({ cls := "com/example/maxhue/maxhue/PointSet", name := "<init>", desc := "(I)V" } : Jvm.MethodName) prog_61_method_1_code (5 : Nat) (Option.none : Option Jvm.ClassFile.FieldType)).before args0 about1 = true := code_word (m := ⟨2, 0⟩) (meth := k2m0) (c := k2c0) (by decide +kernel) rfl rfl rfl (by decide +kernel)
set_option maxRecDepth 65536 in
theorem w_c2 : (Jvm.Cond.code ({ cls := "java/lang/Object", name := "<init>", desc := "()V" } : Jvm.MethodName) object_method_1_code (1 : Nat) (Option.none : Option Jvm.ClassFile.FieldType)).before args0 about1 = true := code_word (m := ⟨0, 0⟩) (meth := k0m0) (c := k0c0) (by decide +kernel) rfl rfl rfl (by decide +kernel)
set_option maxRecDepth 65536 in
theorem w_c3 : (Jvm.Cond.code ({ cls := "java/lang/Math", name := "max", desc := "(II)I" } : Jvm.MethodName) jdk_29_method_65_code (2 : Nat) (Option.some Jvm.ClassFile.FieldType.int)).before args0 about1 = true := code_word (m := ⟨3, 1⟩) (meth := k3m1) (c := k3c1) (by decide +kernel) rfl rfl rfl (by decide +kernel)
set_option maxRecDepth 65536 in
theorem w_c4 : (Jvm.Cond.code ({ cls := "com/example/maxhue/maxhue/PointSet", name := "add", desc := "(I)V" } : Jvm.MethodName) prog_61_method_2_code (9 : Nat) (Option.none : Option Jvm.ClassFile.FieldType)).before args0 about1 = true := code_word (m := ⟨2, 1⟩) (meth := k2m1) (c := k2c1) (by decide +kernel) rfl rfl rfl (by decide +kernel)
set_option maxRecDepth 65536 in
theorem w_c5 : (Jvm.Cond.code ({ cls := "com/example/maxhue/maxhue/PointSet", name := "remove", desc := "(I)V" } : Jvm.MethodName) prog_61_method_3_code (8 : Nat) (Option.none : Option Jvm.ClassFile.FieldType)).before args0 about1 = true := code_word (m := ⟨2, 2⟩) (meth := k2m2) (c := k2c2) (by decide +kernel) rfl rfl rfl (by decide +kernel)
set_option maxRecDepth 65536 in
theorem w_c6 : (Jvm.Cond.code ({ cls := "com/example/maxhue/maxhue/PointSet", name := "lastBelow", desc := "(I)I" } : Jvm.MethodName) prog_61_method_4_code (7 : Nat) (Option.some Jvm.ClassFile.FieldType.int)).before args0 about1 = true := code_word (m := ⟨2, 3⟩) (meth := k2m3) (c := k2c3) (by decide +kernel) rfl rfl rfl (by decide +kernel)
set_option maxRecDepth 65536 in
theorem w_c7 : (Jvm.Cond.code ({ cls := "com/example/maxhue/maxhue/PointSetRemovePinLaw", name := "ref", desc := "(ZIZII)I" } : Jvm.MethodName) method_3_code (6 : Nat) (Option.some Jvm.ClassFile.FieldType.int)).before args0 about1 = true := code_word (m := ⟨1, 2⟩) (meth := k1m2) (c := k1c2) (by decide +kernel) rfl rfl rfl (by decide +kernel)
set_option maxRecDepth 65536 in
theorem w_c8 : (Jvm.Cond.code ({ cls := "com/example/maxhue/maxhue/PointSet", name := "lastBit", desc := "(J)I" } : Jvm.MethodName) prog_61_method_5_code (2 : Nat) (Option.some Jvm.ClassFile.FieldType.int)).before args0 about1 = true := code_word (m := ⟨2, 4⟩) (meth := k2m4) (c := k2c4) (by decide +kernel) rfl rfl rfl (by decide +kernel)
set_option maxRecDepth 65536 in
theorem w_c9 : (Jvm.Cond.code ({ cls := "java/lang/Long", name := "numberOfLeadingZeros", desc := "(J)I" } : Jvm.MethodName) jdk_35_method_48_code (3 : Nat) (Option.some Jvm.ClassFile.FieldType.int)).before args0 about1 = true := code_word (m := ⟨9, 0⟩) (meth := k9m0) (c := k9c0) (by decide +kernel) rfl rfl rfl (by decide +kernel)
set_option maxRecDepth 65536 in
theorem w_c10 : (Jvm.Cond.code ({ cls := "java/lang/Integer", name := "numberOfLeadingZeros", desc := "(I)I" } : Jvm.MethodName) jdk_33_method_47_code (2 : Nat) (Option.some Jvm.ClassFile.FieldType.int)).before args0 about1 = true := code_word (m := ⟨10, 0⟩) (meth := k10m0) (c := k10c0) (by decide +kernel) rfl rfl rfl (by decide +kernel)
def codes1 : List Jvm.Cond := [Jvm.Cond.code x code maxLocals ret, Jvm.Cond.code ({ cls := "com/example/maxhue/maxhue/PointSet", name := "<init>", desc := "(I)V" } : Jvm.MethodName) prog_61_method_1_code (5 : Nat) (Option.none : Option Jvm.ClassFile.FieldType), Jvm.Cond.code ({ cls := "java/lang/Object", name := "<init>", desc := "()V" } : Jvm.MethodName) object_method_1_code (1 : Nat) (Option.none : Option Jvm.ClassFile.FieldType), Jvm.Cond.code ({ cls := "java/lang/Math", name := "max", desc := "(II)I" } : Jvm.MethodName) jdk_29_method_65_code (2 : Nat) (Option.some Jvm.ClassFile.FieldType.int), Jvm.Cond.code ({ cls := "com/example/maxhue/maxhue/PointSet", name := "add", desc := "(I)V" } : Jvm.MethodName) prog_61_method_2_code (9 : Nat) (Option.none : Option Jvm.ClassFile.FieldType), Jvm.Cond.code ({ cls := "com/example/maxhue/maxhue/PointSet", name := "remove", desc := "(I)V" } : Jvm.MethodName) prog_61_method_3_code (8 : Nat) (Option.none : Option Jvm.ClassFile.FieldType), Jvm.Cond.code ({ cls := "com/example/maxhue/maxhue/PointSet", name := "lastBelow", desc := "(I)I" } : Jvm.MethodName) prog_61_method_4_code (7 : Nat) (Option.some Jvm.ClassFile.FieldType.int), Jvm.Cond.code ({ cls := "com/example/maxhue/maxhue/PointSetRemovePinLaw", name := "ref", desc := "(ZIZII)I" } : Jvm.MethodName) method_3_code (6 : Nat) (Option.some Jvm.ClassFile.FieldType.int), Jvm.Cond.code ({ cls := "com/example/maxhue/maxhue/PointSet", name := "lastBit", desc := "(J)I" } : Jvm.MethodName) prog_61_method_5_code (2 : Nat) (Option.some Jvm.ClassFile.FieldType.int), Jvm.Cond.code ({ cls := "java/lang/Long", name := "numberOfLeadingZeros", desc := "(J)I" } : Jvm.MethodName) jdk_35_method_48_code (3 : Nat) (Option.some Jvm.ClassFile.FieldType.int), Jvm.Cond.code ({ cls := "java/lang/Integer", name := "numberOfLeadingZeros", desc := "(I)I" } : Jvm.MethodName) jdk_33_method_47_code (2 : Nat) (Option.some Jvm.ClassFile.FieldType.int)]
set_option maxRecDepth 65536 in
theorem codes_eq : words1.filter isCode = codes1 := rfl
theorem w_codes : ∀ c ∈ words1.filter isCode, c.before args0 about1 = true := by
  rw [codes_eq]
  intro c hc
  simp only [codes1, List.mem_cons, List.not_mem_nil, or_false] at hc
  rcases hc with rfl | rfl | rfl | rfl | rfl | rfl | rfl | rfl | rfl | rfl | rfl
  · exact w_c0
  · exact w_c1
  · exact w_c2
  · exact w_c3
  · exact w_c4
  · exact w_c5
  · exact w_c6
  · exact w_c7
  · exact w_c8
  · exact w_c9
  · exact w_c10
set_option maxRecDepth 65536 in
theorem w_t1 : (words1.take 24).all (fun c => isCode c || c.before args0 about1) = true := by decide +kernel
set_option maxRecDepth 65536 in
theorem w_t2 : ((words1.drop 24).take 24).all (fun c => isCode c || c.before args0 about1) = true := by decide +kernel
set_option maxRecDepth 65536 in
theorem w_t3 : ((words1.drop 24).drop 24).all (fun c => isCode c || c.before args0 about1) = true := by decide +kernel
theorem w_tables : (allAtoms (Jvm.Cond.code x code maxLocals ret :: tables_1)).before args0 about1 = true := by
  rw [allAtoms_all]
  show words1.all (fun c => c.before args0 about1) = true
  refine all_split ?_ w_codes
  rw [← List.take_append_drop 24 words1, List.all_append, w_t1, ← List.take_append_drop 24 (words1.drop 24), List.all_append, w_t2, w_t3]
  rfl
set_option maxRecDepth 65536 in
theorem w_case : (Jvm.Cond.and given_1 narrow_1).before args0 about1 = true := by decide +kernel
theorem w_applies : (headSpec (Jvm.Cond.code x code maxLocals ret :: tables_1) room_1).applies x e0.platform about1 = true :=
  (Spec.applies_iff w_frames).mpr ⟨w_running, w_runnable, w_alone, w_named, w_hears, w_ripe, w_room, w_tables⟩
theorem atStart : AtStart classFile x code maxLocals ret World_1 tables_1 room_1 Calls_1 rest_1 Pre_1 launch0 p0 e0 about1 theMethod args0 below0 :=
  ⟨lists_1, trivial, launch0.admits_env _ _ _, launch0.least_env, fairChoices_fair.cas, fairChoices_fair.clock, w_frames, w_args, w_heap, w_applies, trivial, trivial, w_case⟩
end start1
theorem witness_1 : WitnessClaimed_1 := ⟨start1.p0, start1.e0, start1.about1, start1.theMethod, start1.args0, start1.below0, start1.atStart⟩
end Jvm.Pilot.@@N@@
