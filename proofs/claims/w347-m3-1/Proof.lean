import JvmDerived
import JvmDerived.Pilot.@@N@@Statement
import JvmDerived.Pilot.@@N@@Code
set_option linter.unusedVariables false
set_option linter.unusedSimpArgs false
namespace Jvm.Pilot.@@N@@
open Jvm Jvm.ClassFile Sem Op Lib Jvm.Free Jvm.Stand Jvm.LawKit Jvm.RoadKit Bundle Jvm.Pilot.@@N@@.Jvm.D
/-- the walk from here on: it comes to an end that meets R -/
def Go (tb : Tables) (e : Env) (below : List Frame) (R : Outcome → State → Prop) (T : State) (g : JFrame) : Prop :=
  ∃ s₂ o, Steps tb e below (T.setTop g) s₂ ∧ s₂.status = .running ∧ Ended s₂ below o ∧ R o s₂
def RT (Q : Option Value → Heap → List Loc → Prop) (s : State) (C S : Nat) : Outcome → State → Prop :=
  fun o U' => ∃ v L, o = .returned v ∧ Q v U'.heap L ∧ FrameEnd s o U' L C S
theorem Go.step {tb : Tables} {e : Env} {below : List Frame} {R : Outcome → State → Prop} {T T' : State} {g g' : JFrame} (h : ∀ t, Steps tb e below (T'.setTop g') t → Steps tb e below (T.setTop g) t) (k : Go tb e below R T' g') : Go tb e below R T g := by
  obtain ⟨s₂, o, h1, h2⟩ := k
  exact ⟨s₂, o, h _ h1, h2⟩
theorem Go.tr {tb : Tables} {e : Env} {below : List Frame} {R : Outcome → State → Prop} {T T' : State} {g g' : JFrame} (h : Steps tb e below (T.setTop g) (T'.setTop g')) (k : Go tb e below R T' g') : Go tb e below R T g :=
  Go.step (fun _ q => h.trans q) k
theorem Go.enter {tb : Tables} {e : Env} {below : List Frame} {Q : Option Value → Heap → List Loc → Prop} {s : State} {C S : Nat} {T : State} {g g' : JFrame} (q : g = g') (k : Go tb e below (RT Q s C S) T g') :
    ∃ s₂ o, Steps tb e below (T.setTop g) s₂ ∧ s₂.status = .running ∧ Ended s₂ below o ∧ ∃ v L, o = .returned v ∧ Q v s₂.heap L ∧ FrameEnd s o s₂ L C S := by
  subst q
  exact k
section Ret
variable {p : Program} {l : Launch} {e : Env} {R : Room} {s : State} {m : MethodId} {args : Array Value} {below : List Frame} {meth : Method} {c : Code} {T : State} {locs : List Loc} {cells slots : Nat} {Q : Option Value → Heap → List Loc → Prop} {C S : Nat} {pc : Nat} {Ls : Array Slot} {rest : List Value}
theorem Go.fin (X : Stand p l e R s m args below meth c T locs cells slots) {v : Option Value} {g : JFrame} (hv : meth.sig.returnType = none → v = none) (hlk : meth.locks = false)
    (hst : ∀ fs, (∀ (f : JFrame) (acts : List Action), f.method = m → f.locked = none → f.entered = [] → (doReturn e (T.setTop f) acts v).1 = T.setFrames fs) → Steps p.tables e below (T.setTop g) (T.setFrames fs))
    (hQ : Q v T.heap locs) (hc : cells ≤ C) (hs : slots ≤ S) : Go p.tables e below (RT Q s C S) T g := by
  obtain ⟨fs, hr, hrun, hended, hW, hsame⟩ := X.leave hv hlk
  exact ⟨_, _, hst fs hr, hrun, hended, _, _, rfl, hQ, ⟨_, rfl⟩, hW, hsame.mono hc hs⟩
theorem Go.retN (X : Stand p l e R s m args below meth c T locs cells slots) (hx : p.tables.exec = Jvm.exec) {z z' : Int32} {t : FieldType} (hret : meth.sig.returnType = some t) (ht : t = .boolean ∨ t = .byte ∨ t = .char ∨ t = .short) (hd : decode c.code pc = .ok (.ireturn, 1)) (hlk : meth.locks = false) (hz : nar t z = z')
    (hQ : Q (some (.int z')) T.heap locs) (hc : cells ≤ C) (hs : slots ≤ S) : Go p.tables e below (RT Q s C S) T (mkF m pc Ls (.int z :: rest)) := by
  subst hz
  exact Go.fin X (fun h => by rw [hret] at h; cases h) hlk (fun fs hr => Jvm.RoadKit.retN X hx hret ht hd hr) hQ hc hs
theorem Go.retI (X : Stand p l e R s m args below meth c T locs cells slots) (hx : p.tables.exec = Jvm.exec) {z : Int32} (hret : meth.sig.returnType = some .int) (hd : decode c.code pc = .ok (.ireturn, 1)) (hlk : meth.locks = false)
    (hQ : Q (some (.int z)) T.heap locs) (hc : cells ≤ C) (hs : slots ≤ S) : Go p.tables e below (RT Q s C S) T (mkF m pc Ls (.int z :: rest)) := by
  refine Go.fin X (fun h => by rw [hret] at h; cases h) hlk (fun fs hr => ?_) hQ hc hs
  have hm' : T.vm.method? m = some meth := X.method'
  have hn : narrow .int (.int z) = .int z := rfl
  show Steps p.tables e below (T.setTop { method := m, pc := pc, locals := Ls, stack := _ :: rest, locked := none }) _
  jvm_step X.here [X.here.top, hx, hd, hm', hret, hn]
  first | (intro acts; rw [hr _ acts rfl rfl rfl]) | rw [hr _ _ rfl rfl rfl]
  exact Steps.refl _
theorem Go.retJ (X : Stand p l e R s m args below meth c T locs cells slots) (hx : p.tables.exec = Jvm.exec) {z : Int64} (hret : meth.sig.returnType = some .long) (hd : decode c.code pc = .ok (.lreturn, 1)) (hlk : meth.locks = false)
    (hQ : Q (some (.long z)) T.heap locs) (hc : cells ≤ C) (hs : slots ≤ S) : Go p.tables e below (RT Q s C S) T (mkF m pc Ls (.long z :: rest)) := by
  refine Go.fin X (fun h => by rw [hret] at h; cases h) hlk (fun fs hr => ?_) hQ hc hs
  have hm' : T.vm.method? m = some meth := X.method'
  show Steps p.tables e below (T.setTop { method := m, pc := pc, locals := Ls, stack := _ :: rest, locked := none }) _
  jvm_step X.here [X.here.top, hx, hd, hm', hret, narrow]
  first | (intro acts; rw [hr _ acts rfl rfl rfl]) | rw [hr _ _ rfl rfl rfl]
  exact Steps.refl _
theorem Go.retA (X : Stand p l e R s m args below meth c T locs cells slots) (hx : p.tables.exec = Jvm.exec) {z : Value} {t : FieldType} (hret : meth.sig.returnType = some t) (ht : t.isReference = true) (hd : decode c.code pc = .ok (.areturn, 1)) (hz : z.isRef = true) (hlk : meth.locks = false)
    (hQ : Q (some z) T.heap locs) (hc : cells ≤ C) (hs : slots ≤ S) : Go p.tables e below (RT Q s C S) T (mkF m pc Ls (z :: rest)) := by
  refine Go.fin X (fun h => by rw [hret] at h; cases h) hlk (fun fs hr => ?_) hQ hc hs
  have hm' : T.vm.method? m = some meth := X.method'
  show Steps p.tables e below (T.setTop { method := m, pc := pc, locals := Ls, stack := _ :: rest, locked := none }) _
  jvm_step X.here [X.here.top, hx, hd, hm', hret, hz, ht]
  first | (intro acts; rw [hr _ acts rfl rfl rfl]) | rw [hr _ _ rfl rfl rfl]
  exact Steps.refl _
theorem Go.retV (X : Stand p l e R s m args below meth c T locs cells slots) (hx : p.tables.exec = Jvm.exec) (hret : meth.sig.returnType = none) (hd : decode c.code pc = .ok (.return_, 1)) (hlk : meth.locks = false)
    (hQ : Q none T.heap locs) (hc : cells ≤ C) (hs : slots ≤ S) : Go p.tables e below (RT Q s C S) T (mkF m pc Ls []) :=
  Go.fin X (fun _ => rfl) hlk (fun fs hr => X.returnOut hx hret hd hr) hQ hc hs
end Ret
theorem own_and_nonneg (a : Int32) : 0 ≤ (a &&& 2147483647).toInt := by
  have h : (a &&& 2147483647).toBitVec.msb = false := by
    rw [Int32.toBitVec_and, BitVec.msb_and]
    have : (2147483647 : Int32).toBitVec.msb = false := by decide
    rw [this, Bool.and_false]
  show 0 ≤ (a &&& 2147483647).toBitVec.toInt
  rw [BitVec.toInt_eq_msb_cond, h]
  simp
theorem own_mod (a n : Int32) (hn : 0 < n.toInt) : 0 ≤ ((a &&& 2147483647) % n).toInt ∧ ((a &&& 2147483647) % n).toInt < n.toInt := by
  rw [Int32.toInt_mod]
  have h := own_and_nonneg a
  exact ⟨Int.tmod_nonneg _ h, by have := Int.tmod_lt_of_pos (a &&& 2147483647).toInt hn; exact this⟩
theorem own_char (x : Int32) : 0 ≤ (x.toUInt32.toUInt16.toUInt32.toInt32).toInt ∧ (x.toUInt32.toUInt16.toUInt32.toInt32).toInt < 65536 := by
  generalize x.toUInt32.toUInt16 = u
  have h : u.toNat < 65536 := u.toNat_lt
  have : (u.toUInt32.toInt32).toInt = (u.toNat : Int) := by
    show (u.toUInt32.toBitVec).toInt = _
    rw [BitVec.toInt_eq_toNat_of_lt]
    · simp
    · simp; omega
  omega
theorem own_lrem (x y : Int64) : x - x / y * y = x % y := by
  apply Int64.toInt_inj.mp
  rw [Int64.toInt_sub, Int64.toInt_mul, Int64.toInt_div, Int64.toInt_mod, Int.tmod_def, Int.mul_comm y.toInt]
  have hb := Int.bmod_emod (x := x.toInt.tdiv y.toInt) (m := 2 ^ 64)
  rw [Int.sub_bmod_bmod]
  have e : (x.toInt - (x.toInt.tdiv y.toInt).bmod (2 ^ 64) * y.toInt).bmod (2 ^ 64) = (x.toInt - x.toInt.tdiv y.toInt * y.toInt).bmod (2 ^ 64) := by
    rw [← Int.sub_bmod_bmod, Int.bmod_mul_bmod, Int.sub_bmod_bmod]
  rw [e]
  have h := Int64.toInt_mod x y
  have h2 := (x % y).le_toInt
  have h3 := (x % y).toInt_lt
  rw [h, Int.tmod_def, Int.mul_comm y.toInt] at h2 h3
  apply Int.bmod_eq_of_le
  · simpa using h2
  · simpa using h3
theorem own_lremM {p : Program} {l : Launch} {e : Env} {R : Room} {s : State} {m : MethodId} {args : Array Value} {below : List Frame} {meth : Method} {c : Code} {T : State} {locs : List Loc} {cells slots : Nat} {g : JFrame} {target : State} (X : Stand p l e R s m args below meth c T locs cells slots) (hx : p.tables.exec = Jvm.exec) (hg : g.method = m) {x y : Int64} {rest : List Value} (hd : decode c.code g.pc = .ok (.lrem, 1)) (hs : g.stack = .long y :: .long x :: rest) (hy : y ≠ 0)
    (hr : Steps p.tables e below (T.setTop { g with pc := g.pc + 1, stack := .long (x % y) :: rest }) target) : Steps p.tables e below (T.setTop g) target := by
  have q := own_lrem x y
  exact XS.lrem X.here hx hg hd hs hy (by rw [q]; exact hr)
theorem own_selp {s : State} {args : Array Value} {C : String} {y z : MethodName} (hsel : (Cond.selects C z z).before args s = true) (hz : z.cls = y.cls) (hinst : (Cond.instanceMethod y).before args s = true) (hpriv : s.PrivateAt y) (hy : y.cls ≠ "java/lang/invoke/MethodHandle" ∧ y.cls ≠ "java/lang/invoke/VarHandle") : (Cond.selects y.cls y y).before args s = true := by
  obtain ⟨c, r, m, -, -, h3, -, k, h5, h6⟩ := Cond.selects_spec hsel
  exact selects_self_of_private (hz ▸ findClass_of_methodNamed h3) h5 h6 hpriv hinst hy
theorem own_eqi {t : Term} {k : Int32} {args : Array Value} {first : State} {o : Option Outcome} {s : State} {idx : List Nat} (h : (Cond.eq t (.int k)).value args first o s idx = some true) : t.eval args first o idx s = some (.int k) := by
  cases ht : t.eval args first o idx s with
  | none => simp [Cond.value, ht] at h
  | some x => cases x <;> simp [Cond.value, Term.eval, ht] at h ⊢; exact h
theorem own_eqr {t u : Term} {b : Addr} {args : Array Value} {first : State} {o : Option Outcome} {s : State} {idx : List Nat} (h : (Cond.eq t u).value args first o s idx = some true) (hu : u.eval args first o idx s = some (.ref b)) : t.eval args first o idx s = some (.ref b) := by
  cases ht : t.eval args first o idx s with
  | none => simp [Cond.value, ht] at h
  | some x => cases x <;> simp [Cond.value, ht, hu] at h ⊢; exact h
/-- what the case says of the statics -/
def Wd (Z : State) (w : Nat → Addr) : Prop := Sta Z Z.heap "rowpack/growable/IntSpace" "$assertionsDisabled" "Z" (.int (1 : Int32))
theorem wd0 {Z : State} {w : Nat → Addr} (wd : Wd Z w) : Sta Z Z.heap "rowpack/growable/IntSpace" "$assertionsDisabled" "Z" (.int (1 : Int32)) := wd
theorem own_tb (a : Nat) : (Int32.ofNat a).toBitVec = BitVec.ofNat 32 a := rfl
theorem own_ti (a : Nat) (h : a < 2147483648) : (Int32.ofNat a).toInt = a := by
  rw [Int32.toInt_ofNat_of_lt h]
theorem own_cl (a : Nat) (h : a < 2147483648) : (Int32.ofNat a).toNatClampNeg = a := by
  show (Int32.ofNat a).toInt.toNat = a
  rw [own_ti a h]; rfl
theorem own_nn (a : Nat) (h : a < 2147483648) : ¬ Int32.ofNat a < 0 := by
  rw [Int32.lt_iff_toInt_lt, own_ti a h]
  have : (0 : Int32).toInt = 0 := rfl
  omega
theorem own_ltN (a b : Nat) (ha : a < 2147483648) (hb : b < 2147483648) : Int32.ofNat a < Int32.ofNat b ↔ a < b := by
  rw [Int32.lt_iff_toInt_lt, own_ti a ha, own_ti b hb]; omega
theorem own_eqN (a b : Nat) (ha : a < 2147483648) (hb : b < 2147483648) : Int32.ofNat a = Int32.ofNat b ↔ a = b := by
  rw [← Int32.toInt_inj, own_ti a ha, own_ti b hb]; omega
theorem own_back (x : Int32) (h : 0 ≤ x.toInt) : x = Int32.ofNat x.toInt.toNat := by
  apply Int32.toInt_inj.mp
  have hb := x.toInt_lt
  rw [own_ti _ (by omega)]; omega
theorem own_shr11 (a : Nat) (h : a < 2147483648) : ((Int32.ofNat a).toUInt32 >>> ((11 : Int32) &&& 31).toUInt32).toInt32 = Int32.ofNat (a / 2048) := by
  apply Int32.toBitVec_inj.mp
  have e : ((11 : Int32) &&& 31).toUInt32 = 11 := by decide
  rw [e]
  show ((Int32.ofNat a).toUInt32 >>> 11).toBitVec = BitVec.ofNat 32 (a / 2048)
  rw [UInt32.toBitVec_shiftRight]
  show BitVec.ofNat 32 a >>> ((11 : UInt32).toBitVec % 32) = _
  have e2 : ((11 : UInt32).toBitVec % 32) = 11#32 := by decide
  rw [e2]
  apply BitVec.eq_of_toNat_eq
  simp [Nat.shiftRight_eq_div_pow]
  omega
theorem own_shr6 (a : Nat) (h : a < 2147483648) : ((Int32.ofNat a).toUInt32 >>> ((6 : Int32) &&& 31).toUInt32).toInt32 = Int32.ofNat (a / 64) := by
  apply Int32.toBitVec_inj.mp
  have e : ((6 : Int32) &&& 31).toUInt32 = 6 := by decide
  rw [e]
  show ((Int32.ofNat a).toUInt32 >>> 6).toBitVec = BitVec.ofNat 32 (a / 64)
  rw [UInt32.toBitVec_shiftRight]
  show BitVec.ofNat 32 a >>> ((6 : UInt32).toBitVec % 32) = _
  have e2 : ((6 : UInt32).toBitVec % 32) = 6#32 := by decide
  rw [e2]
  apply BitVec.eq_of_toNat_eq
  simp [Nat.shiftRight_eq_div_pow]
  omega
theorem own_msk (a : Nat) (h : a < 2147483648) : (Int32.ofNat a) &&& 2047 = Int32.ofNat (a % 2048) := by
  apply Int32.toBitVec_inj.mp
  rw [Int32.toBitVec_and]
  show BitVec.ofNat 32 a &&& 2047#32 = BitVec.ofNat 32 (a % 2048)
  apply BitVec.eq_of_toNat_eq
  rw [BitVec.toNat_and]
  have : (2047#32).toNat = 2 ^ 11 - 1 := rfl
  rw [this, Nat.and_two_pow_sub_one_eq_mod]
  simp
  omega
theorem own_addN (a b : Nat) : Int32.ofNat a + Int32.ofNat b = Int32.ofNat (a + b) := (Int32.ofNat_add a b).symm
theorem own_ti64 (a : Nat) (h : a < 9223372036854775808) : (Int64.ofNat a).toInt = a := by
  rw [Int64.toInt_ofNat_of_lt h]
theorem own_lt64 (a b : Nat) (ha : a < 9223372036854775808) (hb : b < 9223372036854775808) : Int64.ofNat a < Int64.ofNat b ↔ a < b := by
  rw [Int64.lt_iff_toInt_lt, own_ti64 a ha, own_ti64 b hb]; omega
theorem own_up (a : Nat) (h : a < 2147483648) : (Int32.ofNat a).toInt64 = Int64.ofNat a := by
  apply Int64.toInt_inj.mp
  rw [Int32.toInt_toInt64, own_ti a h, own_ti64 a (by omega)]
theorem own_add64 (a b : Nat) : Int64.ofNat a + Int64.ofNat b = Int64.ofNat (a + b) := (Int64.ofNat_add a b).symm
theorem own_shl11 : ∀ n < 17, (Int32.ofNat n).toInt64 <<< ((11 : Int32) &&& 0x3f).toInt64 = Int64.ofNat (2048 * n) := by decide +kernel
theorem own_dn (a : Nat) (h : a < 2147483648) : (Int64.ofNat a).toInt32 = Int32.ofNat a := by
  apply Int32.toInt_inj.mp
  rw [Int64.toInt_toInt32, own_ti64 a (by omega), own_ti a h]
  exact Int.bmod_eq_of_le (by omega) (by omega)
/-- a page of 2048 ints -/
def Pg (Z : State) (h : Heap) (g : Addr) (f : Nat → Int32) : Prop := ∃ c : Cell, Arr Z h g c .int ∧ c.slots.size = 2048 ∧ ∀ i, i < 2048 → c.slots[i]? = some (.int (f i))
/-- the directory of the pages -/
def Dir (Z : State) (h : Heap) (P : Addr) (np : Nat) (G : Nat → Addr) : Prop := ∃ c : Cell, Arr Z h P c (.array .int) ∧ c.slots.size = 16 ∧ OvrA Z c.cls .int "[I" ∧ ∀ i, i < np → c.slots[i]? = some (.ref (G i))
/-- the space at r: np pages that hold mem -/
def Mp (Z : State) (h : Heap) (nb : Nat) (r P : Addr) (np : Nat) (G : Nat → Addr) (mem : Nat → Int32) : Prop :=
  Exa Z h r "rowpack/growable/IntSpace" ∧ Fld Z h r "rowpack/growable/IntSpace" "pages" "[[I" (.ref P) ∧ Dir Z h P np G ∧ (∀ i, i < np → Pg Z h (G i) (fun j => mem (2048 * i + j))) ∧ (nb ≤ r ∧ nb ≤ P ∧ ∀ i, i < np → nb ≤ G i) ∧ r ≠ P ∧ (∀ i, i < np → G i ≠ r ∧ G i ≠ P) ∧ (∀ i j, i < np → j < np → i ≠ j → G i ≠ G j)
section MpLaws
variable {Z : State} {h h' h1 h2 h3 : Heap} {nb : Nat} {r P g : Addr} {np : Nat} {G : Nat → Addr} {mem : Nat → Int32}
theorem Pg.ext {f : Nat → Int32} (F : Pg Z h g f) (E : Ext h h') : Pg Z h' g f := by
  obtain ⟨c, A, q⟩ := F
  exact ⟨c, A.ext E, q⟩
theorem Pg.other {f : Nat → Int32} {a : Addr} {sl : Nat} {v : Value} (F : Pg Z h g f) (W : Wr h h' a sl v) (q : g ≠ a) : Pg Z h' g f := by
  obtain ⟨c, A, q2⟩ := F
  exact ⟨c, A.other W q, q2⟩
theorem own_setSlot_same (c : Cell) (k : Nat) (v : Value) (hk : k < c.slots.size) : (c.setSlot k v).slots[k]? = some v := by
  simp [Cell.setSlot, hk]
theorem own_setSlot_other (c : Cell) (k i : Nat) (v : Value) (hk : k ≠ i) : (c.setSlot k v).slots[i]? = c.slots[i]? := by
  simp [Cell.setSlot, hk]
theorem Pg.same {f : Nat → Int32} {k : Nat} {v : Int32} (F : Pg Z h g f) (hk : k < 2048) (W : Wr h h' g k (.int v)) : Pg Z h' g (fun i => if i = k then v else f i) := by
  obtain ⟨c, A, q1, q2⟩ := F
  refine ⟨_, A.same W, by rw [sz_set]; exact q1, fun i hi => ?_⟩
  by_cases e : i = k
  · subst e
    rw [own_setSlot_same c i _ (by rw [q1]; exact hi)]
    simp
  · rw [own_setSlot_other c k i _ (fun q => e q.symm), q2 i hi]
    simp [e]
theorem Dir.other {a : Addr} {sl : Nat} {v : Value} (F : Dir Z h P np G) (W : Wr h h' a sl v) (q : P ≠ a) : Dir Z h' P np G := by
  obtain ⟨c, A, q2⟩ := F
  exact ⟨c, A.other W q, q2⟩
theorem Dir.ext (F : Dir Z h P np G) (E : Ext h h') : Dir Z h' P np G := by
  obtain ⟨c, A, q2⟩ := F
  exact ⟨c, A.ext E, q2⟩
theorem Dir.lt (F : Dir Z h P np G) : P < h.size := by
  obtain ⟨c, A, -⟩ := F
  exact A.lt
theorem Pg.lt {f : Nat → Int32} (F : Pg Z h g f) : g < h.size := by
  obtain ⟨c, A, -⟩ := F
  exact A.lt
theorem Mp.ext (M : Mp Z h nb r P np G mem) (E : Ext h h') : Mp Z h' nb r P np G mem :=
  ⟨M.1.ext E, M.2.1.ext E, M.2.2.1.ext E, fun i hi => (M.2.2.2.1 i hi).ext E, M.2.2.2.2⟩
/-- a field of the space, another one than 'pages', is written -/
theorem Mp.fld {sl : Nat} {v : Value} (M : Mp Z h nb r P np G mem) (W : Wr h h' r sl v) (q : Jvm.RoadKit.slotOf Z "rowpack/growable/IntSpace" "pages" "[[I" ≠ sl) : Mp Z h' nb r P np G mem :=
  ⟨M.1.wr W, M.2.1.other W (Or.inr q), M.2.2.1.other W (fun e => M.2.2.2.2.2.1 e.symm), fun i hi => (M.2.2.2.1 i hi).other W ((M.2.2.2.2.2.2.1 i hi).1), M.2.2.2.2⟩
/-- one int is written -/
theorem Mp.set {a : Nat} {v : Int32} (M : Mp Z h nb r P np G mem) (ha : a < 2048 * np) (W : Wr h h' (G (a / 2048)) (a % 2048) (.int v)) : Mp Z h' nb r P np G (fun i => if i = a then v else mem i) := by
  obtain ⟨m1, m2, m3, m4, m5, m6, m7, m8⟩ := M
  have hk : a / 2048 < np := by omega
  have hq := m7 _ hk
  refine ⟨m1.wr W, m2.other W (Or.inl (fun e => hq.1 e.symm)), m3.other W (fun e => hq.2 e.symm), fun i hi => ?_, m5, m6, m7, m8⟩
  by_cases e : i = a / 2048
  · subst e
    have F := (m4 _ hi).same (Nat.mod_lt _ (by decide)) W
    obtain ⟨c, A, q1, q2⟩ := F
    refine ⟨c, A, q1, fun j hj => ?_⟩
    rw [q2 j hj]
    congr 2
    have : (j = a % 2048) ↔ (2048 * (a / 2048) + j = a) := by omega
    simp only [this]
  · have F := (m4 i hi).other W (m8 i _ hi hk e)
    obtain ⟨c, A, q1, q2⟩ := F
    refine ⟨c, A, q1, fun j hj => ?_⟩
    rw [q2 j hj]
    congr 2
    have : ¬ (2048 * i + j = a) := by omega
    simp only [this, if_false]
/-- a page is made, counted, put in -/
theorem Mp.grow {sl : Nat} {v : Value} {kg : ClassId} (M : Mp Z h nb r P np G (fun _ => 0)) (hnb : nb ≤ h.size) (hnp : np < 16) (E : Ext h h1) (hg : g = h.size) (A : Arr Z h1 g (newA kg .int 2048) .int) (W1 : Wr h1 h2 r sl v) (q : Jvm.RoadKit.slotOf Z "rowpack/growable/IntSpace" "pages" "[[I" ≠ sl) (W2 : Wr h2 h3 P np (.ref g)) :
    Mp Z h3 nb r P (np + 1) (fun i => if i = np then g else G i) (fun _ => 0) := by
  have M2 := (M.ext E).fld W1 q
  obtain ⟨m1, m2, ⟨c, cA, c1, c2, c3⟩, m4, m5, m6, m7, m8⟩ := M2
  have hr : r < h.size := M.1.lt
  have hP : P < h.size := M.2.2.1.lt
  have hgr : g ≠ r := Nat.ne_of_gt (by rw [hg]; exact hr)
  have hgP : g ≠ P := Nat.ne_of_gt (by rw [hg]; exact hP)
  have hG : ∀ i, i < np → G i ≠ g := fun i hi => Nat.ne_of_lt (by rw [hg]; exact (M.2.2.2.1 i hi).lt)
  refine ⟨m1.wr W2, m2.other W2 (Or.inl m6), ⟨_, cA.same W2, by rw [sz_set]; exact c1, c2, fun i hi => ?_⟩, fun i hi => ?_, ⟨m5.1, m5.2.1, fun i hi => ?_⟩, m6, fun i hi => ?_, fun i j hi hj hij => ?_⟩
  · by_cases e : i = np
    · subst e
      rw [own_setSlot_same c i _ (by rw [c1]; exact hnp)]
      simp
    · rw [own_setSlot_other c np i _ (fun z => e z.symm), c3 i (by omega)]
      simp [e]
  · by_cases e : i = np
    · subst e
      simp only [if_true]
      refine ⟨_, (A.other W1 hgr).other W2 hgP, by first | (simp [newA]; done) | (simp [newA]; rfl), fun j hj => ?_⟩
      have : ((2048 : Int32).toNatClampNeg) = 2048 := rfl
      simp [newA, this, hj, defaultValue]
    · simp only [e, if_false]
      exact (m4 i (by omega)).other W2 ((m7 i (by omega)).2)
  · by_cases e : i = np
    · simp only [e, if_true]; rw [hg]; exact hnb
    · simp only [e, if_false]; exact m5.2.2 i (by omega)
  · by_cases e : i = np
    · simp only [e, if_true]; exact ⟨hgr, hgP⟩
    · simp only [e, if_false]; exact m7 i (by omega)
  · by_cases e : i = np <;> by_cases e' : j = np
    · omega
    · simp only [e, e', if_true, if_false]; exact fun z => hG j (by omega) z.symm
    · simp only [e, e', if_true, if_false]; exact hG i (by omega)
    · simp only [e, e', if_false]; exact m8 i j (by omega) (by omega) hij
end MpLaws
theorem own_ushr6 (x : Int32) : ¬ ((x.toUInt32 >>> ((6 : Int32) &&& 31).toUInt32).toInt32) < 0 := by
  have h : ((x.toUInt32 >>> ((6 : Int32) &&& 31).toUInt32).toInt32).toBitVec.msb = false := by
    show ((x.toUInt32 >>> ((6 : Int32) &&& 31).toUInt32).toBitVec).msb = false
    have e : ((6 : Int32) &&& 31).toUInt32 = 6 := by decide
    rw [e, UInt32.toBitVec_shiftRight]
    simp [BitVec.msb_eq_decide]
    omega
  rw [Int32.lt_iff_toInt_lt]
  show ¬ (((x.toUInt32 >>> ((6 : Int32) &&& 31).toUInt32).toInt32).toBitVec).toInt < 0
  rw [BitVec.toInt_eq_toNat_of_msb h]
  omega
theorem own_dir0 {Z : State} {h : Heap} {P : Addr} {k : ClassId} {vs : List Value} {d : Value} {G : Nat → Addr} (V : Arv Z h P k (.array .int) 16 vs d) (O : OvrA Z k .int "[I") : Dir Z h P 0 G := by
  obtain ⟨c, A, q, S, -⟩ := V
  exact ⟨c, A, S, q ▸ O, fun i hi => absurd hi (Nat.not_lt_zero _)⟩
theorem d1_0 : decode prog_23_method_1_code 0 = .ok (.aload_n 0, 1) := by decide +kernel
theorem d1_1 : decode prog_23_method_1_code 1 = .ok (.invokespecial 5, 3) := by decide +kernel
theorem d1_4 : decode prog_23_method_1_code 4 = .ok (.aload_n 0, 1) := by decide +kernel
theorem d1_5 : decode prog_23_method_1_code 5 = .ok (.bipush 16, 2) := by decide +kernel
theorem d1_7 : decode prog_23_method_1_code 7 = .ok (.anewarray 11, 3) := by decide +kernel
theorem d1_10 : decode prog_23_method_1_code 10 = .ok (.putfield 13, 3) := by decide +kernel
theorem d1_13 : decode prog_23_method_1_code 13 = .ok (.aload_n 0, 1) := by decide +kernel
theorem d1_14 : decode prog_23_method_1_code 14 = .ok (.lconst 1, 1) := by decide +kernel
theorem d1_15 : decode prog_23_method_1_code 15 = .ok (.putfield 17, 3) := by decide +kernel
theorem d1_18 : decode prog_23_method_1_code 18 = .ok (.aload_n 0, 1) := by decide +kernel
theorem d1_19 : decode prog_23_method_1_code 19 = .ok (.iconst 0, 1) := by decide +kernel
theorem d1_20 : decode prog_23_method_1_code 20 = .ok (.anewarray 21, 3) := by decide +kernel
theorem d1_23 : decode prog_23_method_1_code 23 = .ok (.putfield 23, 3) := by decide +kernel
theorem d1_26 : decode prog_23_method_1_code 26 = .ok (.aload_n 0, 1) := by decide +kernel
theorem d1_27 : decode prog_23_method_1_code 27 = .ok (.iconst 0, 1) := by decide +kernel
theorem d1_28 : decode prog_23_method_1_code 28 = .ok (.newarray .int, 2) := by decide +kernel
theorem d1_30 : decode prog_23_method_1_code 30 = .ok (.putfield 27, 3) := by decide +kernel
theorem d1_33 : decode prog_23_method_1_code 33 = .ok (.aload_n 0, 1) := by decide +kernel
theorem d1_34 : decode prog_23_method_1_code 34 = .ok (.iconst 0, 1) := by decide +kernel
theorem d1_35 : decode prog_23_method_1_code 35 = .ok (.newarray .long, 2) := by decide +kernel
theorem d1_37 : decode prog_23_method_1_code 37 = .ok (.putfield 30, 3) := by decide +kernel
theorem d1_40 : decode prog_23_method_1_code 40 = .ok (.aload_n 0, 1) := by decide +kernel
theorem d1_41 : decode prog_23_method_1_code 41 = .ok (.iconst 0, 1) := by decide +kernel
theorem d1_42 : decode prog_23_method_1_code 42 = .ok (.newarray .long, 2) := by decide +kernel
theorem d1_44 : decode prog_23_method_1_code 44 = .ok (.putfield 33, 3) := by decide +kernel
theorem d1_47 : decode prog_23_method_1_code 47 = .ok (.aload_n 0, 1) := by decide +kernel
theorem d1_48 : decode prog_23_method_1_code 48 = .ok (.iload_n 1, 1) := by decide +kernel
theorem d1_49 : decode prog_23_method_1_code 49 = .ok (.putfield 36, 3) := by decide +kernel
theorem d1_52 : decode prog_23_method_1_code 52 = .ok (.return_, 1) := by decide +kernel
theorem own_pn0 : plainName "rowpack/growable/IntSpace" = true := by first | (simp [plainName, overriddenIn]; done) | decide +kernel
theorem ef_rm_init (m : MethodId) (x0 : Addr) (x1 : Int32) : entryFrame m #[(.ref x0), (.int x1)] 2 = mkF m 0 #[.val (.ref x0), .val (.int x1)] [] := by first | (simp [entryFrame, mkF, argsToLocals, Value.category]; done) | rfl
def Q_rm_init (Z : State) (r0 : Addr) (p1 : Int32) (nb : Nat) (h0 : Heap) (n0 : Nat) (v : Option Value) (h : Heap) (L : List Loc) : Prop := v = none ∧ Fr n0 L ∧ Keep h0 h [r0] ∧ ∃ (P fb lb lw : Addr) (kfb klb klw : ClassId), Mp Z h nb r0 P 0 (fun _ => 0) (fun _ => 0) ∧ Fld Z h r0 "rowpack/growable/IntSpace" "pageCount" "I" (.int (0 : Int32)) ∧ Fld Z h r0 "rowpack/growable/IntSpace" "top" "J" (.long (1 : Int64)) ∧ Fld Z h r0 "rowpack/growable/IntSpace" "freeBits" "[[J" (.ref fb) ∧ Arv Z h fb kfb (.array .long) (0 : Int32) [] .null ∧ fb ≠ r0 ∧ fb ≠ P ∧ Fld Z h r0 "rowpack/growable/IntSpace" "listBits" "[J" (.ref lb) ∧ Arv Z h lb klb .long (0 : Int32) [] (.long (0 : Int64)) ∧ Fld Z h r0 "rowpack/growable/IntSpace" "listWords" "[J" (.ref lw) ∧ Arv Z h lw klw .long (0 : Int32) [] (.long (0 : Int64))
set_option maxRecDepth 65536 in
set_option maxHeartbeats 40000000 in
theorem rm_init (l : Launch) (Z : State) (a0 : Array Value) (hw : ∀ d ∈ tables_1, d.before a0 Z = true) (ws : List Jvm.Cond) (r0 : Addr) (p1 : Int32) (nb : Nat) (h0 : Heap) (n0 : Nat) (Z0 : n0 ≤ h0.size) (g_r0 : n0 ≤ r0) (hnb : nb ≤ r0) (E_r0 : Exa Z h0 r0 "rowpack/growable/IntSpace") (F_0 : Fld Z h0 r0 "rowpack/growable/IntSpace" "pages" "[[I" .null) (F_1 : Fld Z h0 r0 "rowpack/growable/IntSpace" "top" "J" (.long (0 : Int64))) (F_2 : Fld Z h0 r0 "rowpack/growable/IntSpace" "freeBits" "[[J" .null) (F_3 : Fld Z h0 r0 "rowpack/growable/IntSpace" "freeHeads" "[I" .null) (F_4 : Fld Z h0 r0 "rowpack/growable/IntSpace" "listBits" "[J" .null) (F_5 : Fld Z h0 r0 "rowpack/growable/IntSpace" "listWords" "[J" .null) (F_6 : Fld Z h0 r0 "rowpack/growable/IntSpace" "maxChunkInts" "I" (.int (0 : Int32))) (F_7 : Fld Z h0 r0 "rowpack/growable/IntSpace" "pageCount" "I" (.int (0 : Int32))) :
    MetFree l (⟨"rowpack/growable/IntSpace", "<init>", "(I)V"⟩ : MethodName) (head1 (Jvm.Cond.code (⟨"rowpack/growable/IntSpace", "<init>", "(I)V"⟩ : MethodName) prog_23_method_1_code 2 none :: ws) ({ frames := 1, cells := 5, slots := 16, locals := 12 } : Room)) (fun az Uz => az = #[(.ref r0), (.int p1)] ∧ Z.Warmed39 Uz.vm ∧ Uz.heap = h0) (fun _ _ _ _ _ => True) (fun _ Uz oz Vz => ∃ vz Lz, oz = .returned vz ∧ Q_rm_init Z r0 p1 nb h0 n0 vz Vz.heap Lz ∧ FrameEnd Uz oz Vz Lz ({ frames := 1, cells := 5, slots := 16, locals := 12 } : Room).cells ({ frames := 1, cells := 5, slots := 16, locals := 12 } : Room).slots) := by
  refine MetFree.of_bodySF (plainFor_of_name own_pn0) hisR ?_
  intro p e s m args below meth c s₁ Bd hml0 hP hK
  obtain ⟨rfl, hZ, hh⟩ := hP
  have hx := Bd.exec
  have hby := Bd.bytes
  have hml : c.maxLocals = 2 := hml0
  have hown : s.vm.findClass "rowpack/growable/IntSpace" = some m.cls := findClass_of_methodNamed Bd.named
  have hnm := (name_of_methodNamed Bd.named Bd.method).1
  have X0 : Stand p l e ({ frames := 1, cells := 5, slots := 16, locals := 12 } : Room) s m #[(.ref r0), (.int p1)] below meth c s₁ [] 0 0 := Stand.of_body Bd
  have e0 : s₁.heap = h0 := by rw [← hh, Bd.state]; rfl
  have N0 := Fr.nil n0
  have K0 : Keep h0 h0 [r0] := Keep.refl _ _
  refine Go.enter (Q := Q_rm_init Z r0 p1 nb h0 n0) (C := ({ frames := 1, cells := 5, slots := 16, locals := 12 } : Room).cells) (S := ({ frames := 1, cells := 5, slots := 16, locals := 12 } : Room).slots) (ef_rm_init m r0 p1) ?_
  refine Go.step (fun _ zz => XS.aloadN X0.here hx rfl (hb hby d1_0) rfl rfl zz) ?_
  show Go _ _ _ _ s₁ (mkF m 1 #[.val (.ref r0), .val (.int p1)] [(.ref r0)])
  obtain ⟨T1, X1, e1, st1⟩ := initO X0 hx hZ hown (hw _ (List.mem_of_getElem? (i := 8) rfl)) (hw _ (List.mem_of_getElem? (i := 9) rfl)) (hw _ (List.mem_of_getElem? (i := 10) rfl)) e0 (g := (mkF m 1 #[.val (.ref r0), .val (.int p1)] [(.ref r0)])) rfl (by rw [hml]; rfl) rfl (hb hby d1_1) (by decide) (W := 0) (by show 2 * 0 + _ ≤ _; exact Nat.le_of_eq rfl) (by decide)
  refine Go.step st1 ?_
  show Go _ _ _ _ T1 (mkF m 4 #[.val (.ref r0), .val (.int p1)] [])
  refine Go.step (fun _ zz => XS.aloadN X1.here hx rfl (hb hby d1_4) rfl rfl zz) ?_
  show Go _ _ _ _ T1 (mkF m 5 #[.val (.ref r0), .val (.int p1)] [(.ref r0)])
  refine Go.step (fun _ zz => XS.bipush X1.here hx rfl (hb hby d1_5) zz) ?_
  show Go _ _ _ _ T1 (mkF m 7 #[.val (.ref r0), .val (.int p1)] [(.int (16 : Int32)), (.ref r0)])
  obtain ⟨T2, h2, k2, X2, e2, E2, A2, B2, O2, st2⟩ := newRA X1 hx hZ hown (C := "[I") (ty := .int) (by decide) (hw _ (List.mem_of_getElem? (i := 11) rfl)) (hw _ (List.mem_of_getElem? (i := 12) rfl)) e1 (g := (mkF m 7 #[.val (.ref r0), .val (.int p1)] [(.int (16 : Int32)), (.ref r0)])) rfl (hb hby d1_7) rfl (by decide) (cap := 16) (by decide) (by decide) (by decide) (by decide) (ad := "[[I") (by decide)
  obtain ⟨b2, g2⟩ : ∃ z, z = h0.size := ⟨_, rfl⟩
  rw [← g2] at A2 B2 st2
  have V2 := Arv.new A2 (by decide)
  have g_b2 : n0 ≤ b2 := Nat.le_trans Z0 (Nat.le_of_eq g2.symm)
  have sz_b2 : h0.size ≤ b2 := Nat.le_trans K0.1 (Nat.le_of_eq g2.symm)
  have K2 : Keep h0 h2 [r0] := K0.ext E2
  refine Go.step st2 ?_
  show Go _ _ _ _ T2 (mkF m 10 #[.val (.ref r0), .val (.int p1)] [(.ref b2), (.ref r0)])
  obtain ⟨T3, h3, X3, e3, W3, st3⟩ := putF X2 hx hZ hown (host := "") (Or.inl (hw _ (List.mem_of_getElem? (i := 13) rfl))) Via.refl e2 (F_0.ext E2) (E_r0.ext E2) (Or.inl (hw _ (List.mem_of_getElem? (i := 14) rfl))) (hw _ (List.mem_of_getElem? (i := 3) rfl)) (ty := (.array (.array .int))) (by decide) rfl rfl (g := (mkF m 10 #[.val (.ref r0), .val (.int p1)] [(.ref b2), (.ref r0)])) rfl rfl (hb hby d1_10)
  have Fw3 := (F_0.ext E2).same W3
  have N3 := Fr.snoc X3 N0 g_r0
  have K3 : Keep h0 h3 [r0] := K2.wr W3 (Or.inl (List.mem_of_getElem? (i := 0) rfl))
  refine Go.step st3 ?_
  show Go _ _ _ _ T3 (mkF m 13 #[.val (.ref r0), .val (.int p1)] [])
  refine Go.step (fun _ zz => XS.aloadN X3.here hx rfl (hb hby d1_13) rfl rfl zz) ?_
  show Go _ _ _ _ T3 (mkF m 14 #[.val (.ref r0), .val (.int p1)] [(.ref r0)])
  refine Go.step (fun _ zz => XS.lconst X3.here hx rfl (hb hby d1_14) zz) ?_
  show Go _ _ _ _ T3 (mkF m 15 #[.val (.ref r0), .val (.int p1)] [(.long (1 : Int64)), (.ref r0)])
  obtain ⟨T4, h4, X4, e4, W4, st4⟩ := putF X3 hx hZ hown (host := "") (Or.inl (hw _ (List.mem_of_getElem? (i := 15) rfl))) Via.refl e3 ((F_1.ext E2).other W3 (Or.inr (slot_ne (Or.inl (hw _ (List.mem_of_getElem? (i := 16) rfl))) (Or.inl (hw _ (List.mem_of_getElem? (i := 14) rfl))) (by decide) (t := .long) (t' := (.array (.array .int))) (by decide) (by decide)))) ((E_r0.ext E2).wr W3) (Or.inl (hw _ (List.mem_of_getElem? (i := 16) rfl))) (hw _ (List.mem_of_getElem? (i := 3) rfl)) (ty := .long) (by decide) rfl rfl (g := (mkF m 15 #[.val (.ref r0), .val (.int p1)] [(.long (1 : Int64)), (.ref r0)])) rfl rfl (hb hby d1_15)
  have Fw4 := ((F_1.ext E2).other W3 (Or.inr (slot_ne (Or.inl (hw _ (List.mem_of_getElem? (i := 16) rfl))) (Or.inl (hw _ (List.mem_of_getElem? (i := 14) rfl))) (by decide) (t := .long) (t' := (.array (.array .int))) (by decide) (by decide)))).same W4
  have N4 := Fr.snoc X4 N3 g_r0
  have K4 : Keep h0 h4 [r0] := K3.wr W4 (Or.inl (List.mem_of_getElem? (i := 0) rfl))
  refine Go.step st4 ?_
  show Go _ _ _ _ T4 (mkF m 18 #[.val (.ref r0), .val (.int p1)] [])
  refine Go.step (fun _ zz => XS.aloadN X4.here hx rfl (hb hby d1_18) rfl rfl zz) ?_
  show Go _ _ _ _ T4 (mkF m 19 #[.val (.ref r0), .val (.int p1)] [(.ref r0)])
  refine Go.step (fun _ zz => XS.iconst X4.here hx rfl (hb hby d1_19) zz) ?_
  show Go _ _ _ _ T4 (mkF m 20 #[.val (.ref r0), .val (.int p1)] [(.int (0 : Int32)), (.ref r0)])
  obtain ⟨T5, h5, k5, X5, e5, E5, A5, B5, O5, st5⟩ := newRA X4 hx hZ hown (C := "[J") (ty := .long) (by decide) (hw _ (List.mem_of_getElem? (i := 17) rfl)) (hw _ (List.mem_of_getElem? (i := 18) rfl)) e4 (g := (mkF m 20 #[.val (.ref r0), .val (.int p1)] [(.int (0 : Int32)), (.ref r0)])) rfl (hb hby d1_20) rfl (by decide) (cap := 0) (by decide) (by decide) (by decide) (by decide) (ad := "[[J") (by decide)
  obtain ⟨b5, g5⟩ : ∃ z, z = h4.size := ⟨_, rfl⟩
  rw [← g5] at A5 B5 st5
  have V5 := Arv.new A5 (by decide)
  have g_b5 : n0 ≤ b5 := Nat.le_trans (Nat.le_trans (Nat.le_trans (Nat.le_trans Z0 E2.1) (Keep.of_wr W3).1) (Keep.of_wr W4).1) (Nat.le_of_eq g5.symm)
  have sz_b5 : h0.size ≤ b5 := Nat.le_trans K4.1 (Nat.le_of_eq g5.symm)
  have K5 : Keep h0 h5 [r0] := K4.ext E5
  refine Go.step st5 ?_
  show Go _ _ _ _ T5 (mkF m 23 #[.val (.ref r0), .val (.int p1)] [(.ref b5), (.ref r0)])
  obtain ⟨T6, h6, X6, e6, W6, st6⟩ := putF X5 hx hZ hown (host := "") (Or.inl (hw _ (List.mem_of_getElem? (i := 19) rfl))) Via.refl e5 ((((F_2.ext E2).other W3 (Or.inr (slot_ne (Or.inl (hw _ (List.mem_of_getElem? (i := 20) rfl))) (Or.inl (hw _ (List.mem_of_getElem? (i := 14) rfl))) (by decide) (t := (.array (.array .long))) (t' := (.array (.array .int))) (by decide) (by decide)))).other W4 (Or.inr (slot_ne (Or.inl (hw _ (List.mem_of_getElem? (i := 20) rfl))) (Or.inl (hw _ (List.mem_of_getElem? (i := 16) rfl))) (by decide) (t := (.array (.array .long))) (t' := .long) (by decide) (by decide)))).ext E5) ((((E_r0.ext E2).wr W3).wr W4).ext E5) (Or.inl (hw _ (List.mem_of_getElem? (i := 20) rfl))) (hw _ (List.mem_of_getElem? (i := 3) rfl)) (ty := (.array (.array .long))) (by decide) rfl rfl (g := (mkF m 23 #[.val (.ref r0), .val (.int p1)] [(.ref b5), (.ref r0)])) rfl rfl (hb hby d1_23)
  have Fw6 := ((((F_2.ext E2).other W3 (Or.inr (slot_ne (Or.inl (hw _ (List.mem_of_getElem? (i := 20) rfl))) (Or.inl (hw _ (List.mem_of_getElem? (i := 14) rfl))) (by decide) (t := (.array (.array .long))) (t' := (.array (.array .int))) (by decide) (by decide)))).other W4 (Or.inr (slot_ne (Or.inl (hw _ (List.mem_of_getElem? (i := 20) rfl))) (Or.inl (hw _ (List.mem_of_getElem? (i := 16) rfl))) (by decide) (t := (.array (.array .long))) (t' := .long) (by decide) (by decide)))).ext E5).same W6
  have N6 := Fr.snoc X6 N4 g_r0
  have K6 : Keep h0 h6 [r0] := K5.wr W6 (Or.inl (List.mem_of_getElem? (i := 0) rfl))
  refine Go.step st6 ?_
  show Go _ _ _ _ T6 (mkF m 26 #[.val (.ref r0), .val (.int p1)] [])
  refine Go.step (fun _ zz => XS.aloadN X6.here hx rfl (hb hby d1_26) rfl rfl zz) ?_
  show Go _ _ _ _ T6 (mkF m 27 #[.val (.ref r0), .val (.int p1)] [(.ref r0)])
  refine Go.step (fun _ zz => XS.iconst X6.here hx rfl (hb hby d1_27) zz) ?_
  show Go _ _ _ _ T6 (mkF m 28 #[.val (.ref r0), .val (.int p1)] [(.int (0 : Int32)), (.ref r0)])
  obtain ⟨T7, h7, k7, X7, e7, E7, A7, st7⟩ := newP X6 hx hZ (hw _ (List.mem_of_getElem? (i := 1) rfl)) e6 (g := (mkF m 28 #[.val (.ref r0), .val (.int p1)] [(.int (0 : Int32)), (.ref r0)])) rfl (hb hby d1_28) rfl (by decide) (cap := 0) (by decide) (by decide) (by decide) (by decide)
  obtain ⟨b7, g7⟩ : ∃ z, z = h6.size := ⟨_, rfl⟩
  rw [← g7] at A7 st7
  have V7 := Arv.new A7 (by decide)
  have V7p : Arv Z h7 b7 k7 .int (0 : Int32) [] (.int (0 : Int32)) := V7.pad (pad_rep [] (.int (0 : Int32)) 0)
  have g_b7 : n0 ≤ b7 := Nat.le_trans (Nat.le_trans (Nat.le_trans (Nat.le_trans (Nat.le_trans (Nat.le_trans Z0 E2.1) (Keep.of_wr W3).1) (Keep.of_wr W4).1) E5.1) (Keep.of_wr W6).1) (Nat.le_of_eq g7.symm)
  have sz_b7 : h0.size ≤ b7 := Nat.le_trans K6.1 (Nat.le_of_eq g7.symm)
  have K7 : Keep h0 h7 [r0] := K6.ext E7
  refine Go.step st7 ?_
  show Go _ _ _ _ T7 (mkF m 30 #[.val (.ref r0), .val (.int p1)] [(.ref b7), (.ref r0)])
  obtain ⟨T8, h8, X8, e8, W8, st8⟩ := putF X7 hx hZ hown (host := "") (Or.inl (hw _ (List.mem_of_getElem? (i := 21) rfl))) Via.refl e7 ((((((F_3.ext E2).other W3 (Or.inr (slot_ne (Or.inl (hw _ (List.mem_of_getElem? (i := 22) rfl))) (Or.inl (hw _ (List.mem_of_getElem? (i := 14) rfl))) (by decide) (t := (.array .int)) (t' := (.array (.array .int))) (by decide) (by decide)))).other W4 (Or.inr (slot_ne (Or.inl (hw _ (List.mem_of_getElem? (i := 22) rfl))) (Or.inl (hw _ (List.mem_of_getElem? (i := 16) rfl))) (by decide) (t := (.array .int)) (t' := .long) (by decide) (by decide)))).ext E5).other W6 (Or.inr (slot_ne (Or.inl (hw _ (List.mem_of_getElem? (i := 22) rfl))) (Or.inl (hw _ (List.mem_of_getElem? (i := 20) rfl))) (by decide) (t := (.array .int)) (t' := (.array (.array .long))) (by decide) (by decide)))).ext E7) ((((((E_r0.ext E2).wr W3).wr W4).ext E5).wr W6).ext E7) (Or.inl (hw _ (List.mem_of_getElem? (i := 22) rfl))) (hw _ (List.mem_of_getElem? (i := 3) rfl)) (ty := (.array .int)) (by decide) rfl rfl (g := (mkF m 30 #[.val (.ref r0), .val (.int p1)] [(.ref b7), (.ref r0)])) rfl rfl (hb hby d1_30)
  have Fw8 := ((((((F_3.ext E2).other W3 (Or.inr (slot_ne (Or.inl (hw _ (List.mem_of_getElem? (i := 22) rfl))) (Or.inl (hw _ (List.mem_of_getElem? (i := 14) rfl))) (by decide) (t := (.array .int)) (t' := (.array (.array .int))) (by decide) (by decide)))).other W4 (Or.inr (slot_ne (Or.inl (hw _ (List.mem_of_getElem? (i := 22) rfl))) (Or.inl (hw _ (List.mem_of_getElem? (i := 16) rfl))) (by decide) (t := (.array .int)) (t' := .long) (by decide) (by decide)))).ext E5).other W6 (Or.inr (slot_ne (Or.inl (hw _ (List.mem_of_getElem? (i := 22) rfl))) (Or.inl (hw _ (List.mem_of_getElem? (i := 20) rfl))) (by decide) (t := (.array .int)) (t' := (.array (.array .long))) (by decide) (by decide)))).ext E7).same W8
  have N8 := Fr.snoc X8 N6 g_r0
  have K8 : Keep h0 h8 [r0] := K7.wr W8 (Or.inl (List.mem_of_getElem? (i := 0) rfl))
  refine Go.step st8 ?_
  show Go _ _ _ _ T8 (mkF m 33 #[.val (.ref r0), .val (.int p1)] [])
  refine Go.step (fun _ zz => XS.aloadN X8.here hx rfl (hb hby d1_33) rfl rfl zz) ?_
  show Go _ _ _ _ T8 (mkF m 34 #[.val (.ref r0), .val (.int p1)] [(.ref r0)])
  refine Go.step (fun _ zz => XS.iconst X8.here hx rfl (hb hby d1_34) zz) ?_
  show Go _ _ _ _ T8 (mkF m 35 #[.val (.ref r0), .val (.int p1)] [(.int (0 : Int32)), (.ref r0)])
  obtain ⟨T9, h9, k9, X9, e9, E9, A9, st9⟩ := newP X8 hx hZ (hw _ (List.mem_of_getElem? (i := 23) rfl)) e8 (g := (mkF m 35 #[.val (.ref r0), .val (.int p1)] [(.int (0 : Int32)), (.ref r0)])) rfl (hb hby d1_35) rfl (by decide) (cap := 0) (by decide) (by decide) (by decide) (by decide)
  obtain ⟨b9, g9⟩ : ∃ z, z = h8.size := ⟨_, rfl⟩
  rw [← g9] at A9 st9
  have V9 := Arv.new A9 (by decide)
  have V9p : Arv Z h9 b9 k9 .long (0 : Int32) [] (.long (0 : Int64)) := V9.pad (pad_rep [] (.long (0 : Int64)) 0)
  have g_b9 : n0 ≤ b9 := Nat.le_trans (Nat.le_trans (Nat.le_trans (Nat.le_trans (Nat.le_trans (Nat.le_trans (Nat.le_trans (Nat.le_trans Z0 E2.1) (Keep.of_wr W3).1) (Keep.of_wr W4).1) E5.1) (Keep.of_wr W6).1) E7.1) (Keep.of_wr W8).1) (Nat.le_of_eq g9.symm)
  have sz_b9 : h0.size ≤ b9 := Nat.le_trans K8.1 (Nat.le_of_eq g9.symm)
  have K9 : Keep h0 h9 [r0] := K8.ext E9
  refine Go.step st9 ?_
  show Go _ _ _ _ T9 (mkF m 37 #[.val (.ref r0), .val (.int p1)] [(.ref b9), (.ref r0)])
  obtain ⟨T10, h10, X10, e10, W10, st10⟩ := putF X9 hx hZ hown (host := "") (Or.inl (hw _ (List.mem_of_getElem? (i := 24) rfl))) Via.refl e9 ((((((((F_4.ext E2).other W3 (Or.inr (slot_ne (Or.inl (hw _ (List.mem_of_getElem? (i := 25) rfl))) (Or.inl (hw _ (List.mem_of_getElem? (i := 14) rfl))) (by decide) (t := (.array .long)) (t' := (.array (.array .int))) (by decide) (by decide)))).other W4 (Or.inr (slot_ne (Or.inl (hw _ (List.mem_of_getElem? (i := 25) rfl))) (Or.inl (hw _ (List.mem_of_getElem? (i := 16) rfl))) (by decide) (t := (.array .long)) (t' := .long) (by decide) (by decide)))).ext E5).other W6 (Or.inr (slot_ne (Or.inl (hw _ (List.mem_of_getElem? (i := 25) rfl))) (Or.inl (hw _ (List.mem_of_getElem? (i := 20) rfl))) (by decide) (t := (.array .long)) (t' := (.array (.array .long))) (by decide) (by decide)))).ext E7).other W8 (Or.inr (slot_ne (Or.inl (hw _ (List.mem_of_getElem? (i := 25) rfl))) (Or.inl (hw _ (List.mem_of_getElem? (i := 22) rfl))) (by decide) (t := (.array .long)) (t' := (.array .int)) (by decide) (by decide)))).ext E9) ((((((((E_r0.ext E2).wr W3).wr W4).ext E5).wr W6).ext E7).wr W8).ext E9) (Or.inl (hw _ (List.mem_of_getElem? (i := 25) rfl))) (hw _ (List.mem_of_getElem? (i := 3) rfl)) (ty := (.array .long)) (by decide) rfl rfl (g := (mkF m 37 #[.val (.ref r0), .val (.int p1)] [(.ref b9), (.ref r0)])) rfl rfl (hb hby d1_37)
  have Fw10 := ((((((((F_4.ext E2).other W3 (Or.inr (slot_ne (Or.inl (hw _ (List.mem_of_getElem? (i := 25) rfl))) (Or.inl (hw _ (List.mem_of_getElem? (i := 14) rfl))) (by decide) (t := (.array .long)) (t' := (.array (.array .int))) (by decide) (by decide)))).other W4 (Or.inr (slot_ne (Or.inl (hw _ (List.mem_of_getElem? (i := 25) rfl))) (Or.inl (hw _ (List.mem_of_getElem? (i := 16) rfl))) (by decide) (t := (.array .long)) (t' := .long) (by decide) (by decide)))).ext E5).other W6 (Or.inr (slot_ne (Or.inl (hw _ (List.mem_of_getElem? (i := 25) rfl))) (Or.inl (hw _ (List.mem_of_getElem? (i := 20) rfl))) (by decide) (t := (.array .long)) (t' := (.array (.array .long))) (by decide) (by decide)))).ext E7).other W8 (Or.inr (slot_ne (Or.inl (hw _ (List.mem_of_getElem? (i := 25) rfl))) (Or.inl (hw _ (List.mem_of_getElem? (i := 22) rfl))) (by decide) (t := (.array .long)) (t' := (.array .int)) (by decide) (by decide)))).ext E9).same W10
  have N10 := Fr.snoc X10 N8 g_r0
  have K10 : Keep h0 h10 [r0] := K9.wr W10 (Or.inl (List.mem_of_getElem? (i := 0) rfl))
  refine Go.step st10 ?_
  show Go _ _ _ _ T10 (mkF m 40 #[.val (.ref r0), .val (.int p1)] [])
  refine Go.step (fun _ zz => XS.aloadN X10.here hx rfl (hb hby d1_40) rfl rfl zz) ?_
  show Go _ _ _ _ T10 (mkF m 41 #[.val (.ref r0), .val (.int p1)] [(.ref r0)])
  refine Go.step (fun _ zz => XS.iconst X10.here hx rfl (hb hby d1_41) zz) ?_
  show Go _ _ _ _ T10 (mkF m 42 #[.val (.ref r0), .val (.int p1)] [(.int (0 : Int32)), (.ref r0)])
  obtain ⟨T11, h11, k11, X11, e11, E11, A11, st11⟩ := newP X10 hx hZ (hw _ (List.mem_of_getElem? (i := 23) rfl)) e10 (g := (mkF m 42 #[.val (.ref r0), .val (.int p1)] [(.int (0 : Int32)), (.ref r0)])) rfl (hb hby d1_42) rfl (by decide) (cap := 0) (by decide) (by decide) (by decide) (by decide)
  obtain ⟨b11, g11⟩ : ∃ z, z = h10.size := ⟨_, rfl⟩
  rw [← g11] at A11 st11
  have V11 := Arv.new A11 (by decide)
  have V11p : Arv Z h11 b11 k11 .long (0 : Int32) [] (.long (0 : Int64)) := V11.pad (pad_rep [] (.long (0 : Int64)) 0)
  have g_b11 : n0 ≤ b11 := Nat.le_trans (Nat.le_trans (Nat.le_trans (Nat.le_trans (Nat.le_trans (Nat.le_trans (Nat.le_trans (Nat.le_trans (Nat.le_trans (Nat.le_trans Z0 E2.1) (Keep.of_wr W3).1) (Keep.of_wr W4).1) E5.1) (Keep.of_wr W6).1) E7.1) (Keep.of_wr W8).1) E9.1) (Keep.of_wr W10).1) (Nat.le_of_eq g11.symm)
  have sz_b11 : h0.size ≤ b11 := Nat.le_trans K10.1 (Nat.le_of_eq g11.symm)
  have K11 : Keep h0 h11 [r0] := K10.ext E11
  refine Go.step st11 ?_
  show Go _ _ _ _ T11 (mkF m 44 #[.val (.ref r0), .val (.int p1)] [(.ref b11), (.ref r0)])
  obtain ⟨T12, h12, X12, e12, W12, st12⟩ := putF X11 hx hZ hown (host := "") (Or.inl (hw _ (List.mem_of_getElem? (i := 26) rfl))) Via.refl e11 ((((((((((F_5.ext E2).other W3 (Or.inr (slot_ne (Or.inl (hw _ (List.mem_of_getElem? (i := 27) rfl))) (Or.inl (hw _ (List.mem_of_getElem? (i := 14) rfl))) (by decide) (t := (.array .long)) (t' := (.array (.array .int))) (by decide) (by decide)))).other W4 (Or.inr (slot_ne (Or.inl (hw _ (List.mem_of_getElem? (i := 27) rfl))) (Or.inl (hw _ (List.mem_of_getElem? (i := 16) rfl))) (by decide) (t := (.array .long)) (t' := .long) (by decide) (by decide)))).ext E5).other W6 (Or.inr (slot_ne (Or.inl (hw _ (List.mem_of_getElem? (i := 27) rfl))) (Or.inl (hw _ (List.mem_of_getElem? (i := 20) rfl))) (by decide) (t := (.array .long)) (t' := (.array (.array .long))) (by decide) (by decide)))).ext E7).other W8 (Or.inr (slot_ne (Or.inl (hw _ (List.mem_of_getElem? (i := 27) rfl))) (Or.inl (hw _ (List.mem_of_getElem? (i := 22) rfl))) (by decide) (t := (.array .long)) (t' := (.array .int)) (by decide) (by decide)))).ext E9).other W10 (Or.inr (slot_ne (Or.inl (hw _ (List.mem_of_getElem? (i := 27) rfl))) (Or.inl (hw _ (List.mem_of_getElem? (i := 25) rfl))) (by decide) (t := (.array .long)) (t' := (.array .long)) (by decide) (by decide)))).ext E11) ((((((((((E_r0.ext E2).wr W3).wr W4).ext E5).wr W6).ext E7).wr W8).ext E9).wr W10).ext E11) (Or.inl (hw _ (List.mem_of_getElem? (i := 27) rfl))) (hw _ (List.mem_of_getElem? (i := 3) rfl)) (ty := (.array .long)) (by decide) rfl rfl (g := (mkF m 44 #[.val (.ref r0), .val (.int p1)] [(.ref b11), (.ref r0)])) rfl rfl (hb hby d1_44)
  have Fw12 := ((((((((((F_5.ext E2).other W3 (Or.inr (slot_ne (Or.inl (hw _ (List.mem_of_getElem? (i := 27) rfl))) (Or.inl (hw _ (List.mem_of_getElem? (i := 14) rfl))) (by decide) (t := (.array .long)) (t' := (.array (.array .int))) (by decide) (by decide)))).other W4 (Or.inr (slot_ne (Or.inl (hw _ (List.mem_of_getElem? (i := 27) rfl))) (Or.inl (hw _ (List.mem_of_getElem? (i := 16) rfl))) (by decide) (t := (.array .long)) (t' := .long) (by decide) (by decide)))).ext E5).other W6 (Or.inr (slot_ne (Or.inl (hw _ (List.mem_of_getElem? (i := 27) rfl))) (Or.inl (hw _ (List.mem_of_getElem? (i := 20) rfl))) (by decide) (t := (.array .long)) (t' := (.array (.array .long))) (by decide) (by decide)))).ext E7).other W8 (Or.inr (slot_ne (Or.inl (hw _ (List.mem_of_getElem? (i := 27) rfl))) (Or.inl (hw _ (List.mem_of_getElem? (i := 22) rfl))) (by decide) (t := (.array .long)) (t' := (.array .int)) (by decide) (by decide)))).ext E9).other W10 (Or.inr (slot_ne (Or.inl (hw _ (List.mem_of_getElem? (i := 27) rfl))) (Or.inl (hw _ (List.mem_of_getElem? (i := 25) rfl))) (by decide) (t := (.array .long)) (t' := (.array .long)) (by decide) (by decide)))).ext E11).same W12
  have N12 := Fr.snoc X12 N10 g_r0
  have K12 : Keep h0 h12 [r0] := K11.wr W12 (Or.inl (List.mem_of_getElem? (i := 0) rfl))
  refine Go.step st12 ?_
  show Go _ _ _ _ T12 (mkF m 47 #[.val (.ref r0), .val (.int p1)] [])
  refine Go.step (fun _ zz => XS.aloadN X12.here hx rfl (hb hby d1_47) rfl rfl zz) ?_
  show Go _ _ _ _ T12 (mkF m 48 #[.val (.ref r0), .val (.int p1)] [(.ref r0)])
  refine Go.step (fun _ zz => XS.iloadN X12.here hx rfl (hb hby d1_48) rfl zz) ?_
  show Go _ _ _ _ T12 (mkF m 49 #[.val (.ref r0), .val (.int p1)] [(.int p1), (.ref r0)])
  obtain ⟨T13, h13, X13, e13, W13, st13⟩ := putF X12 hx hZ hown (host := "") (Or.inl (hw _ (List.mem_of_getElem? (i := 28) rfl))) Via.refl e12 (((((((((((F_6.ext E2).other W3 (Or.inr (slot_ne (Or.inr (hw _ (List.mem_of_getElem? (i := 29) rfl))) (Or.inl (hw _ (List.mem_of_getElem? (i := 14) rfl))) (by decide) (t := .int) (t' := (.array (.array .int))) (by decide) (by decide)))).other W4 (Or.inr (slot_ne (Or.inr (hw _ (List.mem_of_getElem? (i := 29) rfl))) (Or.inl (hw _ (List.mem_of_getElem? (i := 16) rfl))) (by decide) (t := .int) (t' := .long) (by decide) (by decide)))).ext E5).other W6 (Or.inr (slot_ne (Or.inr (hw _ (List.mem_of_getElem? (i := 29) rfl))) (Or.inl (hw _ (List.mem_of_getElem? (i := 20) rfl))) (by decide) (t := .int) (t' := (.array (.array .long))) (by decide) (by decide)))).ext E7).other W8 (Or.inr (slot_ne (Or.inr (hw _ (List.mem_of_getElem? (i := 29) rfl))) (Or.inl (hw _ (List.mem_of_getElem? (i := 22) rfl))) (by decide) (t := .int) (t' := (.array .int)) (by decide) (by decide)))).ext E9).other W10 (Or.inr (slot_ne (Or.inr (hw _ (List.mem_of_getElem? (i := 29) rfl))) (Or.inl (hw _ (List.mem_of_getElem? (i := 25) rfl))) (by decide) (t := .int) (t' := (.array .long)) (by decide) (by decide)))).ext E11).other W12 (Or.inr (slot_ne (Or.inr (hw _ (List.mem_of_getElem? (i := 29) rfl))) (Or.inl (hw _ (List.mem_of_getElem? (i := 27) rfl))) (by decide) (t := .int) (t' := (.array .long)) (by decide) (by decide)))) (((((((((((E_r0.ext E2).wr W3).wr W4).ext E5).wr W6).ext E7).wr W8).ext E9).wr W10).ext E11).wr W12) (Or.inr ⟨(hw _ (List.mem_of_getElem? (i := 29) rfl)), rfl, hnm⟩) (hw _ (List.mem_of_getElem? (i := 3) rfl)) (ty := .int) (by decide) rfl rfl (g := (mkF m 49 #[.val (.ref r0), .val (.int p1)] [(.int p1), (.ref r0)])) rfl rfl (hb hby d1_49)
  have Fw13 := (((((((((((F_6.ext E2).other W3 (Or.inr (slot_ne (Or.inr (hw _ (List.mem_of_getElem? (i := 29) rfl))) (Or.inl (hw _ (List.mem_of_getElem? (i := 14) rfl))) (by decide) (t := .int) (t' := (.array (.array .int))) (by decide) (by decide)))).other W4 (Or.inr (slot_ne (Or.inr (hw _ (List.mem_of_getElem? (i := 29) rfl))) (Or.inl (hw _ (List.mem_of_getElem? (i := 16) rfl))) (by decide) (t := .int) (t' := .long) (by decide) (by decide)))).ext E5).other W6 (Or.inr (slot_ne (Or.inr (hw _ (List.mem_of_getElem? (i := 29) rfl))) (Or.inl (hw _ (List.mem_of_getElem? (i := 20) rfl))) (by decide) (t := .int) (t' := (.array (.array .long))) (by decide) (by decide)))).ext E7).other W8 (Or.inr (slot_ne (Or.inr (hw _ (List.mem_of_getElem? (i := 29) rfl))) (Or.inl (hw _ (List.mem_of_getElem? (i := 22) rfl))) (by decide) (t := .int) (t' := (.array .int)) (by decide) (by decide)))).ext E9).other W10 (Or.inr (slot_ne (Or.inr (hw _ (List.mem_of_getElem? (i := 29) rfl))) (Or.inl (hw _ (List.mem_of_getElem? (i := 25) rfl))) (by decide) (t := .int) (t' := (.array .long)) (by decide) (by decide)))).ext E11).other W12 (Or.inr (slot_ne (Or.inr (hw _ (List.mem_of_getElem? (i := 29) rfl))) (Or.inl (hw _ (List.mem_of_getElem? (i := 27) rfl))) (by decide) (t := .int) (t' := (.array .long)) (by decide) (by decide)))).same W13
  have N13 := Fr.snoc X13 N12 g_r0
  have K13 : Keep h0 h13 [r0] := K12.wr W13 (Or.inl (List.mem_of_getElem? (i := 0) rfl))
  refine Go.step st13 ?_
  show Go _ _ _ _ T13 (mkF m 52 #[.val (.ref r0), .val (.int p1)] [])
  exact Go.retV X13 hx Bd.returns (hb hby d1_52) Bd.notSynchronized (by rw [e13]; exact ⟨rfl, N13, K13, b2, b5, b9, b11, k5, k9, k11, ⟨((((((((((((E_r0.ext E2).wr W3).wr W4).ext E5).wr W6).ext E7).wr W8).ext E9).wr W10).ext E11).wr W12).wr W13), ((((((((((Fw3.other W4 (Or.inr (slot_ne (Or.inl (hw _ (List.mem_of_getElem? (i := 14) rfl))) (Or.inl (hw _ (List.mem_of_getElem? (i := 16) rfl))) (by decide) (t := (.array (.array .int))) (t' := .long) (by decide) (by decide)))).ext E5).other W6 (Or.inr (slot_ne (Or.inl (hw _ (List.mem_of_getElem? (i := 14) rfl))) (Or.inl (hw _ (List.mem_of_getElem? (i := 20) rfl))) (by decide) (t := (.array (.array .int))) (t' := (.array (.array .long))) (by decide) (by decide)))).ext E7).other W8 (Or.inr (slot_ne (Or.inl (hw _ (List.mem_of_getElem? (i := 14) rfl))) (Or.inl (hw _ (List.mem_of_getElem? (i := 22) rfl))) (by decide) (t := (.array (.array .int))) (t' := (.array .int)) (by decide) (by decide)))).ext E9).other W10 (Or.inr (slot_ne (Or.inl (hw _ (List.mem_of_getElem? (i := 14) rfl))) (Or.inl (hw _ (List.mem_of_getElem? (i := 25) rfl))) (by decide) (t := (.array (.array .int))) (t' := (.array .long)) (by decide) (by decide)))).ext E11).other W12 (Or.inr (slot_ne (Or.inl (hw _ (List.mem_of_getElem? (i := 14) rfl))) (Or.inl (hw _ (List.mem_of_getElem? (i := 27) rfl))) (by decide) (t := (.array (.array .int))) (t' := (.array .long)) (by decide) (by decide)))).other W13 (Or.inr (slot_ne (Or.inl (hw _ (List.mem_of_getElem? (i := 14) rfl))) (Or.inr (hw _ (List.mem_of_getElem? (i := 29) rfl))) (by decide) (t := (.array (.array .int))) (t' := .int) (by decide) (by decide)))), own_dir0 (((((((((((V2.other W3 (Ne.symm (Nat.ne_of_lt (Nat.lt_of_lt_of_le E_r0.lt (Nat.le_of_eq g2.symm))))).other W4 (Ne.symm (Nat.ne_of_lt (Nat.lt_of_lt_of_le E_r0.lt (Nat.le_of_eq g2.symm))))).ext E5).other W6 (Ne.symm (Nat.ne_of_lt (Nat.lt_of_lt_of_le E_r0.lt (Nat.le_of_eq g2.symm))))).ext E7).other W8 (Ne.symm (Nat.ne_of_lt (Nat.lt_of_lt_of_le E_r0.lt (Nat.le_of_eq g2.symm))))).ext E9).other W10 (Ne.symm (Nat.ne_of_lt (Nat.lt_of_lt_of_le E_r0.lt (Nat.le_of_eq g2.symm))))).ext E11).other W12 (Ne.symm (Nat.ne_of_lt (Nat.lt_of_lt_of_le E_r0.lt (Nat.le_of_eq g2.symm))))).other W13 (Ne.symm (Nat.ne_of_lt (Nat.lt_of_lt_of_le E_r0.lt (Nat.le_of_eq g2.symm))))) O2, fun i hi => absurd hi (Nat.not_lt_zero _), ⟨hnb, Nat.le_trans hnb (Nat.le_trans (Nat.le_of_lt E_r0.lt) sz_b2), fun i hi => absurd hi (Nat.not_lt_zero _)⟩, (Nat.ne_of_lt (Nat.lt_of_lt_of_le E_r0.lt (Nat.le_of_eq g2.symm))), fun i hi => absurd hi (Nat.not_lt_zero _), fun i j hi _ _ => absurd hi (Nat.not_lt_zero _)⟩, ((((((((((((F_7.ext E2).other W3 (Or.inr (slot_ne (Or.inl (hw _ (List.mem_of_getElem? (i := 51) rfl))) (Or.inl (hw _ (List.mem_of_getElem? (i := 14) rfl))) (by decide) (t := .int) (t' := (.array (.array .int))) (by decide) (by decide)))).other W4 (Or.inr (slot_ne (Or.inl (hw _ (List.mem_of_getElem? (i := 51) rfl))) (Or.inl (hw _ (List.mem_of_getElem? (i := 16) rfl))) (by decide) (t := .int) (t' := .long) (by decide) (by decide)))).ext E5).other W6 (Or.inr (slot_ne (Or.inl (hw _ (List.mem_of_getElem? (i := 51) rfl))) (Or.inl (hw _ (List.mem_of_getElem? (i := 20) rfl))) (by decide) (t := .int) (t' := (.array (.array .long))) (by decide) (by decide)))).ext E7).other W8 (Or.inr (slot_ne (Or.inl (hw _ (List.mem_of_getElem? (i := 51) rfl))) (Or.inl (hw _ (List.mem_of_getElem? (i := 22) rfl))) (by decide) (t := .int) (t' := (.array .int)) (by decide) (by decide)))).ext E9).other W10 (Or.inr (slot_ne (Or.inl (hw _ (List.mem_of_getElem? (i := 51) rfl))) (Or.inl (hw _ (List.mem_of_getElem? (i := 25) rfl))) (by decide) (t := .int) (t' := (.array .long)) (by decide) (by decide)))).ext E11).other W12 (Or.inr (slot_ne (Or.inl (hw _ (List.mem_of_getElem? (i := 51) rfl))) (Or.inl (hw _ (List.mem_of_getElem? (i := 27) rfl))) (by decide) (t := .int) (t' := (.array .long)) (by decide) (by decide)))).other W13 (Or.inr (slot_ne (Or.inl (hw _ (List.mem_of_getElem? (i := 51) rfl))) (Or.inr (hw _ (List.mem_of_getElem? (i := 29) rfl))) (by decide) (t := .int) (t' := .int) (by decide) (by decide)))), (((((((((Fw4.ext E5).other W6 (Or.inr (slot_ne (Or.inl (hw _ (List.mem_of_getElem? (i := 16) rfl))) (Or.inl (hw _ (List.mem_of_getElem? (i := 20) rfl))) (by decide) (t := .long) (t' := (.array (.array .long))) (by decide) (by decide)))).ext E7).other W8 (Or.inr (slot_ne (Or.inl (hw _ (List.mem_of_getElem? (i := 16) rfl))) (Or.inl (hw _ (List.mem_of_getElem? (i := 22) rfl))) (by decide) (t := .long) (t' := (.array .int)) (by decide) (by decide)))).ext E9).other W10 (Or.inr (slot_ne (Or.inl (hw _ (List.mem_of_getElem? (i := 16) rfl))) (Or.inl (hw _ (List.mem_of_getElem? (i := 25) rfl))) (by decide) (t := .long) (t' := (.array .long)) (by decide) (by decide)))).ext E11).other W12 (Or.inr (slot_ne (Or.inl (hw _ (List.mem_of_getElem? (i := 16) rfl))) (Or.inl (hw _ (List.mem_of_getElem? (i := 27) rfl))) (by decide) (t := .long) (t' := (.array .long)) (by decide) (by decide)))).other W13 (Or.inr (slot_ne (Or.inl (hw _ (List.mem_of_getElem? (i := 16) rfl))) (Or.inr (hw _ (List.mem_of_getElem? (i := 29) rfl))) (by decide) (t := .long) (t' := .int) (by decide) (by decide)))), (((((((Fw6.ext E7).other W8 (Or.inr (slot_ne (Or.inl (hw _ (List.mem_of_getElem? (i := 20) rfl))) (Or.inl (hw _ (List.mem_of_getElem? (i := 22) rfl))) (by decide) (t := (.array (.array .long))) (t' := (.array .int)) (by decide) (by decide)))).ext E9).other W10 (Or.inr (slot_ne (Or.inl (hw _ (List.mem_of_getElem? (i := 20) rfl))) (Or.inl (hw _ (List.mem_of_getElem? (i := 25) rfl))) (by decide) (t := (.array (.array .long))) (t' := (.array .long)) (by decide) (by decide)))).ext E11).other W12 (Or.inr (slot_ne (Or.inl (hw _ (List.mem_of_getElem? (i := 20) rfl))) (Or.inl (hw _ (List.mem_of_getElem? (i := 27) rfl))) (by decide) (t := (.array (.array .long))) (t' := (.array .long)) (by decide) (by decide)))).other W13 (Or.inr (slot_ne (Or.inl (hw _ (List.mem_of_getElem? (i := 20) rfl))) (Or.inr (hw _ (List.mem_of_getElem? (i := 29) rfl))) (by decide) (t := (.array (.array .long))) (t' := .int) (by decide) (by decide)))), ((((((((V5.other W6 (Ne.symm (Nat.ne_of_lt (Nat.lt_of_lt_of_le (((E_r0.ext E2).wr W3).wr W4).lt (Nat.le_of_eq g5.symm))))).ext E7).other W8 (Ne.symm (Nat.ne_of_lt (Nat.lt_of_lt_of_le (((E_r0.ext E2).wr W3).wr W4).lt (Nat.le_of_eq g5.symm))))).ext E9).other W10 (Ne.symm (Nat.ne_of_lt (Nat.lt_of_lt_of_le (((E_r0.ext E2).wr W3).wr W4).lt (Nat.le_of_eq g5.symm))))).ext E11).other W12 (Ne.symm (Nat.ne_of_lt (Nat.lt_of_lt_of_le (((E_r0.ext E2).wr W3).wr W4).lt (Nat.le_of_eq g5.symm))))).other W13 (Ne.symm (Nat.ne_of_lt (Nat.lt_of_lt_of_le (((E_r0.ext E2).wr W3).wr W4).lt (Nat.le_of_eq g5.symm))))), (Ne.symm (Nat.ne_of_lt (Nat.lt_of_lt_of_le (((E_r0.ext E2).wr W3).wr W4).lt (Nat.le_of_eq g5.symm)))), (Ne.symm (Nat.ne_of_lt (Nat.lt_of_lt_of_le ((V2.other W3 (Ne.symm (Nat.ne_of_lt (Nat.lt_of_lt_of_le E_r0.lt (Nat.le_of_eq g2.symm))))).other W4 (Ne.symm (Nat.ne_of_lt (Nat.lt_of_lt_of_le E_r0.lt (Nat.le_of_eq g2.symm))))).lt (Nat.le_of_eq g5.symm)))), (((Fw10.ext E11).other W12 (Or.inr (slot_ne (Or.inl (hw _ (List.mem_of_getElem? (i := 25) rfl))) (Or.inl (hw _ (List.mem_of_getElem? (i := 27) rfl))) (by decide) (t := (.array .long)) (t' := (.array .long)) (by decide) (by decide)))).other W13 (Or.inr (slot_ne (Or.inl (hw _ (List.mem_of_getElem? (i := 25) rfl))) (Or.inr (hw _ (List.mem_of_getElem? (i := 29) rfl))) (by decide) (t := (.array .long)) (t' := .int) (by decide) (by decide)))), ((((V9p.other W10 (Ne.symm (Nat.ne_of_lt (Nat.lt_of_lt_of_le (((((((E_r0.ext E2).wr W3).wr W4).ext E5).wr W6).ext E7).wr W8).lt (Nat.le_of_eq g9.symm))))).ext E11).other W12 (Ne.symm (Nat.ne_of_lt (Nat.lt_of_lt_of_le (((((((E_r0.ext E2).wr W3).wr W4).ext E5).wr W6).ext E7).wr W8).lt (Nat.le_of_eq g9.symm))))).other W13 (Ne.symm (Nat.ne_of_lt (Nat.lt_of_lt_of_le (((((((E_r0.ext E2).wr W3).wr W4).ext E5).wr W6).ext E7).wr W8).lt (Nat.le_of_eq g9.symm))))), (Fw12.other W13 (Or.inr (slot_ne (Or.inl (hw _ (List.mem_of_getElem? (i := 27) rfl))) (Or.inr (hw _ (List.mem_of_getElem? (i := 29) rfl))) (by decide) (t := (.array .long)) (t' := .int) (by decide) (by decide)))), ((V11p.other W12 (Ne.symm (Nat.ne_of_lt (Nat.lt_of_lt_of_le (((((((((E_r0.ext E2).wr W3).wr W4).ext E5).wr W6).ext E7).wr W8).ext E9).wr W10).lt (Nat.le_of_eq g11.symm))))).other W13 (Ne.symm (Nat.ne_of_lt (Nat.lt_of_lt_of_le (((((((((E_r0.ext E2).wr W3).wr W4).ext E5).wr W6).ext E7).wr W8).ext E9).wr W10).lt (Nat.le_of_eq g11.symm)))))⟩) (by decide) (by decide)
theorem d5_0 : decode prog_23_method_24_code 0 = .ok (.iload_n 1, 1) := by decide +kernel
theorem d5_1 : decode prog_23_method_24_code 1 = .ok (.bipush 6, 2) := by decide +kernel
theorem d5_3 : decode prog_23_method_24_code 3 = .ok (.iushr, 1) := by decide +kernel
theorem d5_4 : decode prog_23_method_24_code 4 = .ok (.istore_n 2, 1) := by decide +kernel
theorem d5_5 : decode prog_23_method_24_code 5 = .ok (.iload_n 2, 1) := by decide +kernel
theorem d5_6 : decode prog_23_method_24_code 6 = .ok (.aload_n 0, 1) := by decide +kernel
theorem d5_7 : decode prog_23_method_24_code 7 = .ok (.getfield 33, 3) := by decide +kernel
theorem d5_10 : decode prog_23_method_24_code 10 = .ok (.arraylength, 1) := by decide +kernel
theorem d5_11 : decode prog_23_method_24_code 11 = .ok (.if_icmp .ge 55, 3) := by decide +kernel
theorem d5_66 : decode prog_23_method_24_code 66 = .ok (.iconst (-1), 1) := by decide +kernel
theorem d5_67 : decode prog_23_method_24_code 67 = .ok (.ireturn, 1) := by decide +kernel
theorem ef_rm_nlw (m : MethodId) (x0 : Addr) (x1 : Int32) : entryFrame m #[(.ref x0), (.int x1)] 5 = mkF m 0 #[.val (.ref x0), .val (.int x1), .unset, .unset, .unset] [] := by first | (simp [entryFrame, mkF, argsToLocals, Value.category]; done) | rfl
def Q_rm_nlw (Z : State) (r0 : Addr) (p1 : Int32) (lw : Addr) (klw : ClassId) (h0 : Heap) (n0 : Nat) (v : Option Value) (h : Heap) (L : List Loc) : Prop := v = some (.int (-1 : Int32)) ∧ Fr n0 L ∧ h = h0
set_option maxRecDepth 65536 in
set_option maxHeartbeats 40000000 in
theorem rm_nlw (l : Launch) (Z : State) (a0 : Array Value) (hw : ∀ d ∈ tables_1, d.before a0 Z = true) (ws : List Jvm.Cond) (r0 : Addr) (p1 : Int32) (lw : Addr) (klw : ClassId) (h0 : Heap) (n0 : Nat) (Z0 : n0 ≤ h0.size) (E_r0 : Exa Z h0 r0 "rowpack/growable/IntSpace") (F_lw : Fld Z h0 r0 "rowpack/growable/IntSpace" "listWords" "[J" (.ref lw)) (V_lw : Arv Z h0 lw klw .long (0 : Int32) [] (.long (0 : Int64))) :
    MetFree l (⟨"rowpack/growable/IntSpace", "nextListWord", "(I)I"⟩ : MethodName) (head1 (Jvm.Cond.code (⟨"rowpack/growable/IntSpace", "nextListWord", "(I)I"⟩ : MethodName) prog_23_method_24_code 5 (some .int) :: ws) ({ frames := 0, cells := 0, slots := 0, locals := 0 } : Room)) (fun az Uz => az = #[(.ref r0), (.int p1)] ∧ Z.Warmed39 Uz.vm ∧ Uz.heap = h0) (fun _ _ _ _ _ => True) (fun _ Uz oz Vz => ∃ vz Lz, oz = .returned vz ∧ Q_rm_nlw Z r0 p1 lw klw h0 n0 vz Vz.heap Lz ∧ FrameEnd Uz oz Vz Lz ({ frames := 0, cells := 0, slots := 0, locals := 0 } : Room).cells ({ frames := 0, cells := 0, slots := 0, locals := 0 } : Room).slots) := by
  refine MetFree.of_bodySF (plainFor_of_name own_pn0) hisR ?_
  intro p e s m args below meth c s₁ Bd hml0 hP hK
  obtain ⟨rfl, hZ, hh⟩ := hP
  have hx := Bd.exec
  have hby := Bd.bytes
  have hml : c.maxLocals = 5 := hml0
  have hown : s.vm.findClass "rowpack/growable/IntSpace" = some m.cls := findClass_of_methodNamed Bd.named
  have hnm := (name_of_methodNamed Bd.named Bd.method).1
  have X0 : Stand p l e ({ frames := 0, cells := 0, slots := 0, locals := 0 } : Room) s m #[(.ref r0), (.int p1)] below meth c s₁ [] 0 0 := Stand.of_body Bd
  have e0 : s₁.heap = h0 := by rw [← hh, Bd.state]; rfl
  have N0 := Fr.nil n0
  have K0 : Keep h0 h0 [] := Keep.refl _ _
  refine Go.enter (Q := Q_rm_nlw Z r0 p1 lw klw h0 n0) (C := ({ frames := 0, cells := 0, slots := 0, locals := 0 } : Room).cells) (S := ({ frames := 0, cells := 0, slots := 0, locals := 0 } : Room).slots) (ef_rm_nlw m r0 p1) ?_
  refine Go.step (fun _ zz => XS.iloadN X0.here hx rfl (hb hby d5_0) rfl zz) ?_
  show Go _ _ _ _ s₁ (mkF m 1 #[.val (.ref r0), .val (.int p1), .unset, .unset, .unset] [(.int p1)])
  refine Go.step (fun _ zz => XS.bipush X0.here hx rfl (hb hby d5_1) zz) ?_
  show Go _ _ _ _ s₁ (mkF m 3 #[.val (.ref r0), .val (.int p1), .unset, .unset, .unset] [(.int (6 : Int32)), (.int p1)])
  refine Go.step (fun _ zz => XS.iushr X0.here hx rfl (hb hby d5_3) rfl zz) ?_
  show Go _ _ _ _ s₁ (mkF m 4 #[.val (.ref r0), .val (.int p1), .unset, .unset, .unset] [(.int ((p1.toUInt32 >>> ((6 : Int32) &&& 31).toUInt32).toInt32))])
  refine Go.step (fun _ zz => XS.istoreN X0.here hx rfl (hb hby d5_4) rfl (l' := #[.val (.ref r0), .val (.int p1), .val (.int ((p1.toUInt32 >>> ((6 : Int32) &&& 31).toUInt32).toInt32)), .unset, .unset]) rfl zz) ?_
  show Go _ _ _ _ s₁ (mkF m 5 #[.val (.ref r0), .val (.int p1), .val (.int ((p1.toUInt32 >>> ((6 : Int32) &&& 31).toUInt32).toInt32)), .unset, .unset] [])
  refine Go.step (fun _ zz => XS.iloadN X0.here hx rfl (hb hby d5_5) rfl zz) ?_
  show Go _ _ _ _ s₁ (mkF m 6 #[.val (.ref r0), .val (.int p1), .val (.int ((p1.toUInt32 >>> ((6 : Int32) &&& 31).toUInt32).toInt32)), .unset, .unset] [(.int ((p1.toUInt32 >>> ((6 : Int32) &&& 31).toUInt32).toInt32))])
  refine Go.step (fun _ zz => XS.aloadN X0.here hx rfl (hb hby d5_6) rfl rfl zz) ?_
  show Go _ _ _ _ s₁ (mkF m 7 #[.val (.ref r0), .val (.int p1), .val (.int ((p1.toUInt32 >>> ((6 : Int32) &&& 31).toUInt32).toInt32)), .unset, .unset] [(.ref r0), (.int ((p1.toUInt32 >>> ((6 : Int32) &&& 31).toUInt32).toInt32))])
  obtain ⟨T1, X1, e1, st1⟩ := getF X0 hx hZ hown (host := "") (Or.inl (hw _ (List.mem_of_getElem? (i := 26) rfl))) Via.refl e0 F_lw (g := (mkF m 7 #[.val (.ref r0), .val (.int p1), .val (.int ((p1.toUInt32 >>> ((6 : Int32) &&& 31).toUInt32).toInt32)), .unset, .unset] [(.ref r0), (.int ((p1.toUInt32 >>> ((6 : Int32) &&& 31).toUInt32).toInt32))])) rfl rfl (hb hby d5_7)
  refine Go.step st1 ?_
  show Go _ _ _ _ T1 (mkF m 10 #[.val (.ref r0), .val (.int p1), .val (.int ((p1.toUInt32 >>> ((6 : Int32) &&& 31).toUInt32).toInt32)), .unset, .unset] [(.ref lw), (.int ((p1.toUInt32 >>> ((6 : Int32) &&& 31).toUInt32).toInt32))])
  obtain ⟨c2, Ar2, q2, S2, M2, H2, G2⟩ := id V_lw
  refine Go.step (fun _ zz => X1.arraylength hx (by rw [e1]; exact Ar2.1) (State.isArrayOf_alike hZ.alike Ar2.2.1) (g := (mkF m 10 #[.val (.ref r0), .val (.int p1), .val (.int ((p1.toUInt32 >>> ((6 : Int32) &&& 31).toUInt32).toInt32)), .unset, .unset] [(.ref lw), (.int ((p1.toUInt32 >>> ((6 : Int32) &&& 31).toUInt32).toInt32))])) rfl rfl (hb hby d5_10) _ zz) ?_
  rw [len_of S2 M2]
  show Go _ _ _ _ T1 (mkF m 11 #[.val (.ref r0), .val (.int p1), .val (.int ((p1.toUInt32 >>> ((6 : Int32) &&& 31).toUInt32).toInt32)), .unset, .unset] [(.int (0 : Int32)), (.int ((p1.toUInt32 >>> ((6 : Int32) &&& 31).toUInt32).toInt32))])
  refine Go.step (fun _ zz => XS.icmpYes X1.here hx rfl (pc0 := 11) (pc' := 66) rfl (hb hby d5_11) rfl (flt (own_ushr6 p1)).2.1 (by decide) (by decide) zz) ?_
  show Go _ _ _ _ T1 (mkF m 66 #[.val (.ref r0), .val (.int p1), .val (.int ((p1.toUInt32 >>> ((6 : Int32) &&& 31).toUInt32).toInt32)), .unset, .unset] [])
  refine Go.step (fun _ zz => XS.iconst X1.here hx rfl (hb hby d5_66) zz) ?_
  show Go _ _ _ _ T1 (mkF m 67 #[.val (.ref r0), .val (.int p1), .val (.int ((p1.toUInt32 >>> ((6 : Int32) &&& 31).toUInt32).toInt32)), .unset, .unset] [(.int (-1 : Int32))])
  exact Go.retI X1 hx Bd.returns (hb hby d5_67) Bd.notSynchronized (⟨rfl, N0, e1⟩) (by decide) (by decide)
theorem own_pd1 : parseMethodDescriptor "(I)I" = some ⟨[.int], some .int⟩ := by decide +kernel
theorem d4_0 : decode prog_23_method_23_code 0 = .ok (.iload_n 1, 1) := by decide +kernel
theorem d4_1 : decode prog_23_method_23_code 1 = .ok (.bipush 6, 2) := by decide +kernel
theorem d4_3 : decode prog_23_method_23_code 3 = .ok (.iushr, 1) := by decide +kernel
theorem d4_4 : decode prog_23_method_23_code 4 = .ok (.istore_n 2, 1) := by decide +kernel
theorem d4_5 : decode prog_23_method_23_code 5 = .ok (.iload_n 2, 1) := by decide +kernel
theorem d4_6 : decode prog_23_method_23_code 6 = .ok (.aload_n 0, 1) := by decide +kernel
theorem d4_7 : decode prog_23_method_23_code 7 = .ok (.getfield 30, 3) := by decide +kernel
theorem d4_10 : decode prog_23_method_23_code 10 = .ok (.arraylength, 1) := by decide +kernel
theorem d4_11 : decode prog_23_method_23_code 11 = .ok (.if_icmp .ge 18, 3) := by decide +kernel
theorem d4_29 : decode prog_23_method_23_code 29 = .ok (.lconst 0, 1) := by decide +kernel
theorem d4_30 : decode prog_23_method_23_code 30 = .ok (.lstore_n 3, 1) := by decide +kernel
theorem d4_31 : decode prog_23_method_23_code 31 = .ok (.lload_n 3, 1) := by decide +kernel
theorem d4_32 : decode prog_23_method_23_code 32 = .ok (.lconst 0, 1) := by decide +kernel
theorem d4_33 : decode prog_23_method_23_code 33 = .ok (.lcmp, 1) := by decide +kernel
theorem d4_34 : decode prog_23_method_23_code 34 = .ok (.ifCond .ne 26, 3) := by decide +kernel
theorem d4_37 : decode prog_23_method_23_code 37 = .ok (.aload_n 0, 1) := by decide +kernel
theorem d4_38 : decode prog_23_method_23_code 38 = .ok (.iload_n 2, 1) := by decide +kernel
theorem d4_39 : decode prog_23_method_23_code 39 = .ok (.iconst 1, 1) := by decide +kernel
theorem d4_40 : decode prog_23_method_23_code 40 = .ok (.iadd, 1) := by decide +kernel
theorem d4_41 : decode prog_23_method_23_code 41 = .ok (.invokevirtual 187, 3) := by decide +kernel
theorem d4_44 : decode prog_23_method_23_code 44 = .ok (.istore_n 2, 1) := by decide +kernel
theorem d4_45 : decode prog_23_method_23_code 45 = .ok (.iload_n 2, 1) := by decide +kernel
theorem d4_46 : decode prog_23_method_23_code 46 = .ok (.ifCond .ge 7, 3) := by decide +kernel
theorem d4_49 : decode prog_23_method_23_code 49 = .ok (.lconst 0, 1) := by decide +kernel
theorem d4_50 : decode prog_23_method_23_code 50 = .ok (.goto 9, 3) := by decide +kernel
theorem d4_59 : decode prog_23_method_23_code 59 = .ok (.lstore_n 3, 1) := by decide +kernel
theorem d4_60 : decode prog_23_method_23_code 60 = .ok (.lload_n 3, 1) := by decide +kernel
theorem d4_61 : decode prog_23_method_23_code 61 = .ok (.lconst 0, 1) := by decide +kernel
theorem d4_62 : decode prog_23_method_23_code 62 = .ok (.lcmp, 1) := by decide +kernel
theorem d4_63 : decode prog_23_method_23_code 63 = .ok (.ifCond .ne 7, 3) := by decide +kernel
theorem d4_66 : decode prog_23_method_23_code 66 = .ok (.iconst 0, 1) := by decide +kernel
theorem d4_67 : decode prog_23_method_23_code 67 = .ok (.goto 12, 3) := by decide +kernel
theorem d4_79 : decode prog_23_method_23_code 79 = .ok (.ireturn, 1) := by decide +kernel
theorem ef_rm_llf (m : MethodId) (x0 : Addr) (x1 : Int32) : entryFrame m #[(.ref x0), (.int x1)] 5 = mkF m 0 #[.val (.ref x0), .val (.int x1), .unset, .unset, .unset] [] := by first | (simp [entryFrame, mkF, argsToLocals, Value.category]; done) | rfl
def Q_rm_llf (Z : State) (r0 : Addr) (p1 : Int32) (lb lw : Addr) (klb klw : ClassId) (h0 : Heap) (n0 : Nat) (v : Option Value) (h : Heap) (L : List Loc) : Prop := v = some (.int (0 : Int32)) ∧ Fr n0 L ∧ h = h0
set_option maxRecDepth 65536 in
set_option maxHeartbeats 40000000 in
theorem rm_llf (l : Launch) (Z : State) (a0 : Array Value) (hw : ∀ d ∈ tables_1, d.before a0 Z = true) (ws : List Jvm.Cond) (r0 : Addr) (p1 : Int32) (lb lw : Addr) (klb klw : ClassId) (h0 : Heap) (n0 : Nat) (Z0 : n0 ≤ h0.size) (E_r0 : Exa Z h0 r0 "rowpack/growable/IntSpace") (F_lb : Fld Z h0 r0 "rowpack/growable/IntSpace" "listBits" "[J" (.ref lb)) (V_lb : Arv Z h0 lb klb .long (0 : Int32) [] (.long (0 : Int64))) (F_lw : Fld Z h0 r0 "rowpack/growable/IntSpace" "listWords" "[J" (.ref lw)) (V_lw : Arv Z h0 lw klw .long (0 : Int32) [] (.long (0 : Int64))) :
    MetFree l (⟨"rowpack/growable/IntSpace", "leastListFrom", "(I)I"⟩ : MethodName) (head1 (Jvm.Cond.code (⟨"rowpack/growable/IntSpace", "leastListFrom", "(I)I"⟩ : MethodName) prog_23_method_23_code 5 (some .int) :: ws) ({ frames := 1, cells := 0, slots := 0, locals := 16 } : Room)) (fun az Uz => az = #[(.ref r0), (.int p1)] ∧ Z.Warmed39 Uz.vm ∧ Uz.heap = h0) (fun _ _ _ _ _ => True) (fun _ Uz oz Vz => ∃ vz Lz, oz = .returned vz ∧ Q_rm_llf Z r0 p1 lb lw klb klw h0 n0 vz Vz.heap Lz ∧ FrameEnd Uz oz Vz Lz ({ frames := 1, cells := 0, slots := 0, locals := 16 } : Room).cells ({ frames := 1, cells := 0, slots := 0, locals := 16 } : Room).slots) := by
  refine MetFree.of_bodySF (plainFor_of_name own_pn0) hisR ?_
  intro p e s m args below meth c s₁ Bd hml0 hP hK
  obtain ⟨rfl, hZ, hh⟩ := hP
  have hx := Bd.exec
  have hby := Bd.bytes
  have hml : c.maxLocals = 5 := hml0
  have hown : s.vm.findClass "rowpack/growable/IntSpace" = some m.cls := findClass_of_methodNamed Bd.named
  have hnm := (name_of_methodNamed Bd.named Bd.method).1
  have X0 : Stand p l e ({ frames := 1, cells := 0, slots := 0, locals := 16 } : Room) s m #[(.ref r0), (.int p1)] below meth c s₁ [] 0 0 := Stand.of_body Bd
  have e0 : s₁.heap = h0 := by rw [← hh, Bd.state]; rfl
  have N0 := Fr.nil n0
  have K0 : Keep h0 h0 [] := Keep.refl _ _
  refine Go.enter (Q := Q_rm_llf Z r0 p1 lb lw klb klw h0 n0) (C := ({ frames := 1, cells := 0, slots := 0, locals := 16 } : Room).cells) (S := ({ frames := 1, cells := 0, slots := 0, locals := 16 } : Room).slots) (ef_rm_llf m r0 p1) ?_
  refine Go.step (fun _ zz => XS.iloadN X0.here hx rfl (hb hby d4_0) rfl zz) ?_
  show Go _ _ _ _ s₁ (mkF m 1 #[.val (.ref r0), .val (.int p1), .unset, .unset, .unset] [(.int p1)])
  refine Go.step (fun _ zz => XS.bipush X0.here hx rfl (hb hby d4_1) zz) ?_
  show Go _ _ _ _ s₁ (mkF m 3 #[.val (.ref r0), .val (.int p1), .unset, .unset, .unset] [(.int (6 : Int32)), (.int p1)])
  refine Go.step (fun _ zz => XS.iushr X0.here hx rfl (hb hby d4_3) rfl zz) ?_
  show Go _ _ _ _ s₁ (mkF m 4 #[.val (.ref r0), .val (.int p1), .unset, .unset, .unset] [(.int ((p1.toUInt32 >>> ((6 : Int32) &&& 31).toUInt32).toInt32))])
  refine Go.step (fun _ zz => XS.istoreN X0.here hx rfl (hb hby d4_4) rfl (l' := #[.val (.ref r0), .val (.int p1), .val (.int ((p1.toUInt32 >>> ((6 : Int32) &&& 31).toUInt32).toInt32)), .unset, .unset]) rfl zz) ?_
  show Go _ _ _ _ s₁ (mkF m 5 #[.val (.ref r0), .val (.int p1), .val (.int ((p1.toUInt32 >>> ((6 : Int32) &&& 31).toUInt32).toInt32)), .unset, .unset] [])
  refine Go.step (fun _ zz => XS.iloadN X0.here hx rfl (hb hby d4_5) rfl zz) ?_
  show Go _ _ _ _ s₁ (mkF m 6 #[.val (.ref r0), .val (.int p1), .val (.int ((p1.toUInt32 >>> ((6 : Int32) &&& 31).toUInt32).toInt32)), .unset, .unset] [(.int ((p1.toUInt32 >>> ((6 : Int32) &&& 31).toUInt32).toInt32))])
  refine Go.step (fun _ zz => XS.aloadN X0.here hx rfl (hb hby d4_6) rfl rfl zz) ?_
  show Go _ _ _ _ s₁ (mkF m 7 #[.val (.ref r0), .val (.int p1), .val (.int ((p1.toUInt32 >>> ((6 : Int32) &&& 31).toUInt32).toInt32)), .unset, .unset] [(.ref r0), (.int ((p1.toUInt32 >>> ((6 : Int32) &&& 31).toUInt32).toInt32))])
  obtain ⟨T1, X1, e1, st1⟩ := getF X0 hx hZ hown (host := "") (Or.inl (hw _ (List.mem_of_getElem? (i := 24) rfl))) Via.refl e0 F_lb (g := (mkF m 7 #[.val (.ref r0), .val (.int p1), .val (.int ((p1.toUInt32 >>> ((6 : Int32) &&& 31).toUInt32).toInt32)), .unset, .unset] [(.ref r0), (.int ((p1.toUInt32 >>> ((6 : Int32) &&& 31).toUInt32).toInt32))])) rfl rfl (hb hby d4_7)
  refine Go.step st1 ?_
  show Go _ _ _ _ T1 (mkF m 10 #[.val (.ref r0), .val (.int p1), .val (.int ((p1.toUInt32 >>> ((6 : Int32) &&& 31).toUInt32).toInt32)), .unset, .unset] [(.ref lb), (.int ((p1.toUInt32 >>> ((6 : Int32) &&& 31).toUInt32).toInt32))])
  obtain ⟨c2, Ar2, q2, S2, M2, H2, G2⟩ := id V_lb
  refine Go.step (fun _ zz => X1.arraylength hx (by rw [e1]; exact Ar2.1) (State.isArrayOf_alike hZ.alike Ar2.2.1) (g := (mkF m 10 #[.val (.ref r0), .val (.int p1), .val (.int ((p1.toUInt32 >>> ((6 : Int32) &&& 31).toUInt32).toInt32)), .unset, .unset] [(.ref lb), (.int ((p1.toUInt32 >>> ((6 : Int32) &&& 31).toUInt32).toInt32))])) rfl rfl (hb hby d4_10) _ zz) ?_
  rw [len_of S2 M2]
  show Go _ _ _ _ T1 (mkF m 11 #[.val (.ref r0), .val (.int p1), .val (.int ((p1.toUInt32 >>> ((6 : Int32) &&& 31).toUInt32).toInt32)), .unset, .unset] [(.int (0 : Int32)), (.int ((p1.toUInt32 >>> ((6 : Int32) &&& 31).toUInt32).toInt32))])
  refine Go.step (fun _ zz => XS.icmpYes X1.here hx rfl (pc0 := 11) (pc' := 29) rfl (hb hby d4_11) rfl (flt (own_ushr6 p1)).2.1 (by decide) (by decide) zz) ?_
  show Go _ _ _ _ T1 (mkF m 29 #[.val (.ref r0), .val (.int p1), .val (.int ((p1.toUInt32 >>> ((6 : Int32) &&& 31).toUInt32).toInt32)), .unset, .unset] [])
  refine Go.step (fun _ zz => XS.lconst X1.here hx rfl (hb hby d4_29) zz) ?_
  show Go _ _ _ _ T1 (mkF m 30 #[.val (.ref r0), .val (.int p1), .val (.int ((p1.toUInt32 >>> ((6 : Int32) &&& 31).toUInt32).toInt32)), .unset, .unset] [(.long (0 : Int64))])
  refine Go.step (fun _ zz => XS.lstoreN X1.here hx rfl (hb hby d4_30) rfl (l' := #[.val (.ref r0), .val (.int p1), .val (.int ((p1.toUInt32 >>> ((6 : Int32) &&& 31).toUInt32).toInt32)), .val (.long (0 : Int64)), .second]) rfl zz) ?_
  show Go _ _ _ _ T1 (mkF m 31 #[.val (.ref r0), .val (.int p1), .val (.int ((p1.toUInt32 >>> ((6 : Int32) &&& 31).toUInt32).toInt32)), .val (.long (0 : Int64)), .second] [])
  refine Go.step (fun _ zz => XS.lloadN X1.here hx rfl (hb hby d4_31) rfl zz) ?_
  show Go _ _ _ _ T1 (mkF m 32 #[.val (.ref r0), .val (.int p1), .val (.int ((p1.toUInt32 >>> ((6 : Int32) &&& 31).toUInt32).toInt32)), .val (.long (0 : Int64)), .second] [(.long (0 : Int64))])
  refine Go.step (fun _ zz => XS.lconst X1.here hx rfl (hb hby d4_32) zz) ?_
  show Go _ _ _ _ T1 (mkF m 33 #[.val (.ref r0), .val (.int p1), .val (.int ((p1.toUInt32 >>> ((6 : Int32) &&& 31).toUInt32).toInt32)), .val (.long (0 : Int64)), .second] [(.long (0 : Int64)), (.long (0 : Int64))])
  refine Go.step (fun _ zz => XS.lcmp X1.here hx rfl (hb hby d4_33) rfl zz) ?_
  show Go _ _ _ _ T1 (mkF m 34 #[.val (.ref r0), .val (.int p1), .val (.int ((p1.toUInt32 >>> ((6 : Int32) &&& 31).toUInt32).toInt32)), .val (.long (0 : Int64)), .second] [(.int (lcmpW (0 : Int64) (0 : Int64)))])
  refine Go.step (fun _ zz => XS.ifNo X1.here hx rfl (hb hby d4_34) rfl ((if0 _ _).trans (teq ((lw_eq (0 : Int64) (0 : Int64)).mpr (by decide))).2) zz) ?_
  show Go _ _ _ _ T1 (mkF m 37 #[.val (.ref r0), .val (.int p1), .val (.int ((p1.toUInt32 >>> ((6 : Int32) &&& 31).toUInt32).toInt32)), .val (.long (0 : Int64)), .second] [])
  refine Go.step (fun _ zz => XS.aloadN X1.here hx rfl (hb hby d4_37) rfl rfl zz) ?_
  show Go _ _ _ _ T1 (mkF m 38 #[.val (.ref r0), .val (.int p1), .val (.int ((p1.toUInt32 >>> ((6 : Int32) &&& 31).toUInt32).toInt32)), .val (.long (0 : Int64)), .second] [(.ref r0)])
  refine Go.step (fun _ zz => XS.iloadN X1.here hx rfl (hb hby d4_38) rfl zz) ?_
  show Go _ _ _ _ T1 (mkF m 39 #[.val (.ref r0), .val (.int p1), .val (.int ((p1.toUInt32 >>> ((6 : Int32) &&& 31).toUInt32).toInt32)), .val (.long (0 : Int64)), .second] [(.int ((p1.toUInt32 >>> ((6 : Int32) &&& 31).toUInt32).toInt32)), (.ref r0)])
  refine Go.step (fun _ zz => XS.iconst X1.here hx rfl (hb hby d4_39) zz) ?_
  show Go _ _ _ _ T1 (mkF m 40 #[.val (.ref r0), .val (.int p1), .val (.int ((p1.toUInt32 >>> ((6 : Int32) &&& 31).toUInt32).toInt32)), .val (.long (0 : Int64)), .second] [(.int (1 : Int32)), (.int ((p1.toUInt32 >>> ((6 : Int32) &&& 31).toUInt32).toInt32)), (.ref r0)])
  refine Go.step (fun _ zz => XS.iadd X1.here hx rfl (hb hby d4_40) rfl zz) ?_
  show Go _ _ _ _ T1 (mkF m 41 #[.val (.ref r0), .val (.int p1), .val (.int ((p1.toUInt32 >>> ((6 : Int32) &&& 31).toUInt32).toInt32)), .val (.long (0 : Int64)), .second] [(.int (((p1.toUInt32 >>> ((6 : Int32) &&& 31).toUInt32).toInt32) + (1 : Int32))), (.ref r0)])
  obtain ⟨cq3, q3, q3'⟩ := E_r0.cell
  obtain ⟨_, _, ⟨T3, L3, k3, n3⟩, -, X3, ⟨Lc3, hQ3, l3, y3, z3⟩, st3⟩ := X1.privateBack hx (y := (⟨"rowpack/growable/IntSpace", "nextListWord", "(I)I"⟩ : MethodName)) hown (mvT hZ (hw _ (List.mem_of_getElem? (i := 41) rfl))) (mvT hZ (hw _ (List.mem_of_getElem? (i := 42) rfl))) (own_selp (z := (⟨"rowpack/growable/IntSpace", "allocate", "(I)I"⟩ : MethodName)) (mvT hZ (hw _ (List.mem_of_getElem? (i := 33) rfl))) rfl (mvT hZ (hw _ (List.mem_of_getElem? (i := 42) rfl))) (Cond.privateMethod_at (mvP hZ (hw _ (List.mem_of_getElem? (i := 43) rfl)) (args := #[]))) (by decide)) (Cond.privateMethod_at (mvP hZ (hw _ (List.mem_of_getElem? (i := 43) rfl)) (args := #[]))) (mvT hZ (hw _ (List.mem_of_getElem? (i := 44) rfl))) (by decide) (backOf (W := 0) (rm_nlw l Z a0 hw [] r0 (((p1.toUInt32 >>> ((6 : Int32) &&& 31).toUInt32).toInt32) + (1 : Int32)) lw klw h0 n0 Z0 E_r0 F_lw V_lw) hZ (hw _ (List.mem_of_getElem? (i := 44) rfl)) (hw _ (List.mem_of_getElem? (i := 4) rfl)) (by decide) (by decide)) (g := (mkF m 41 #[.val (.ref r0), .val (.int p1), .val (.int ((p1.toUInt32 >>> ((6 : Int32) &&& 31).toUInt32).toInt32)), .val (.long (0 : Int64)), .second] [(.int (((p1.toUInt32 >>> ((6 : Int32) &&& 31).toUInt32).toInt32) + (1 : Int32))), (.ref r0)])) rfl (by rw [hml]; rfl) (Steps.refl _) (a := r0) (by rw [e1]; exact q3) q3' (argsL := [(.int (((p1.toUInt32 >>> ((6 : Int32) &&& 31).toUInt32).toInt32) + (1 : Int32)))]) (rest := []) (lenOf own_pd1 rfl) rfl (by show 2 * 0 + _ ≤ _; exact Nat.le_of_eq rfl) (hb hby d4_41) (fun _ _ => ⟨rfl, e1, (by decide : 0 + 0 ≤ _), (by decide : 0 + 0 ≤ _)⟩)
  dsimp only [Pt.U, Pt.locs, Pt.cells, Pt.slots] at X3 l3 y3 z3 st3 hQ3
  subst l3 y3 z3
  obtain ⟨rfl, N3q, e3⟩ := hQ3
  have N3 := Fr.app N0 N3q
  refine Go.tr st3 ?_
  show Go _ _ _ _ T3 (mkF m 44 #[.val (.ref r0), .val (.int p1), .val (.int ((p1.toUInt32 >>> ((6 : Int32) &&& 31).toUInt32).toInt32)), .val (.long (0 : Int64)), .second] [(.int (-1 : Int32))])
  refine Go.step (fun _ zz => XS.istoreN X3.here hx rfl (hb hby d4_44) rfl (l' := #[.val (.ref r0), .val (.int p1), .val (.int (-1 : Int32)), .val (.long (0 : Int64)), .second]) rfl zz) ?_
  show Go _ _ _ _ T3 (mkF m 45 #[.val (.ref r0), .val (.int p1), .val (.int (-1 : Int32)), .val (.long (0 : Int64)), .second] [])
  refine Go.step (fun _ zz => XS.iloadN X3.here hx rfl (hb hby d4_45) rfl zz) ?_
  show Go _ _ _ _ T3 (mkF m 46 #[.val (.ref r0), .val (.int p1), .val (.int (-1 : Int32)), .val (.long (0 : Int64)), .second] [(.int (-1 : Int32))])
  refine Go.step (fun _ zz => XS.ifNo X3.here hx rfl (hb hby d4_46) rfl ((if0 _ _).trans (tlt (by decide)).2.1) zz) ?_
  show Go _ _ _ _ T3 (mkF m 49 #[.val (.ref r0), .val (.int p1), .val (.int (-1 : Int32)), .val (.long (0 : Int64)), .second] [])
  refine Go.step (fun _ zz => XS.lconst X3.here hx rfl (hb hby d4_49) zz) ?_
  show Go _ _ _ _ T3 (mkF m 50 #[.val (.ref r0), .val (.int p1), .val (.int (-1 : Int32)), .val (.long (0 : Int64)), .second] [(.long (0 : Int64))])
  refine Go.step (fun _ zz => XS.goto X3.here hx rfl (pc0 := 50) (pc' := 59) rfl (hb hby d4_50) (by decide) (by decide) zz) ?_
  show Go _ _ _ _ T3 (mkF m 59 #[.val (.ref r0), .val (.int p1), .val (.int (-1 : Int32)), .val (.long (0 : Int64)), .second] [(.long (0 : Int64))])
  refine Go.step (fun _ zz => XS.lstoreN X3.here hx rfl (hb hby d4_59) rfl (l' := #[.val (.ref r0), .val (.int p1), .val (.int (-1 : Int32)), .val (.long (0 : Int64)), .second]) rfl zz) ?_
  show Go _ _ _ _ T3 (mkF m 60 #[.val (.ref r0), .val (.int p1), .val (.int (-1 : Int32)), .val (.long (0 : Int64)), .second] [])
  refine Go.step (fun _ zz => XS.lloadN X3.here hx rfl (hb hby d4_60) rfl zz) ?_
  show Go _ _ _ _ T3 (mkF m 61 #[.val (.ref r0), .val (.int p1), .val (.int (-1 : Int32)), .val (.long (0 : Int64)), .second] [(.long (0 : Int64))])
  refine Go.step (fun _ zz => XS.lconst X3.here hx rfl (hb hby d4_61) zz) ?_
  show Go _ _ _ _ T3 (mkF m 62 #[.val (.ref r0), .val (.int p1), .val (.int (-1 : Int32)), .val (.long (0 : Int64)), .second] [(.long (0 : Int64)), (.long (0 : Int64))])
  refine Go.step (fun _ zz => XS.lcmp X3.here hx rfl (hb hby d4_62) rfl zz) ?_
  show Go _ _ _ _ T3 (mkF m 63 #[.val (.ref r0), .val (.int p1), .val (.int (-1 : Int32)), .val (.long (0 : Int64)), .second] [(.int (lcmpW (0 : Int64) (0 : Int64)))])
  refine Go.step (fun _ zz => XS.ifNo X3.here hx rfl (hb hby d4_63) rfl ((if0 _ _).trans (teq ((lw_eq (0 : Int64) (0 : Int64)).mpr (by decide))).2) zz) ?_
  show Go _ _ _ _ T3 (mkF m 66 #[.val (.ref r0), .val (.int p1), .val (.int (-1 : Int32)), .val (.long (0 : Int64)), .second] [])
  refine Go.step (fun _ zz => XS.iconst X3.here hx rfl (hb hby d4_66) zz) ?_
  show Go _ _ _ _ T3 (mkF m 67 #[.val (.ref r0), .val (.int p1), .val (.int (-1 : Int32)), .val (.long (0 : Int64)), .second] [(.int (0 : Int32))])
  refine Go.step (fun _ zz => XS.goto X3.here hx rfl (pc0 := 67) (pc' := 79) rfl (hb hby d4_67) (by decide) (by decide) zz) ?_
  show Go _ _ _ _ T3 (mkF m 79 #[.val (.ref r0), .val (.int p1), .val (.int (-1 : Int32)), .val (.long (0 : Int64)), .second] [(.int (0 : Int32))])
  exact Go.retI X3 hx Bd.returns (hb hby d4_79) Bd.notSynchronized (⟨rfl, N3, e3⟩) (by decide) (by decide)
theorem own_st4r (x : Addr) (a : Int32) (b : Int64) {s4 : Slot} (v : Addr) (h : One s4) : storeLocals #[.val (.ref x), .val (.int a), .val (.long b), .second, s4] 4 (.ref v) = some #[.val (.ref x), .val (.int a), .val (.long b), .second, .val (.ref v)] := by
  rcases h with rfl | ⟨w, rfl, hw⟩
  · rfl
  · cases w <;> first | rfl | (simp [Value.category] at hw)
theorem own_st4i (x : Addr) (a : Int32) (b : Int64) {s4 : Slot} (v : Int32) (h : One s4) : storeLocals #[.val (.ref x), .val (.int a), .val (.long b), .second, s4] 4 (.int v) = some #[.val (.ref x), .val (.int a), .val (.long b), .second, .val (.int v)] := by
  rcases h with rfl | ⟨w, rfl, hw⟩
  · rfl
  · cases w <;> first | rfl | (simp [Value.category] at hw)
theorem own_np (n : Nat) : (n + 2048) / 2048 * 2048 ≤ n + 2048 ∧ n + 1 ≤ 2048 * ((n + 2048) / 2048) := by omega
theorem d6_0 : decode prog_23_method_15_code 0 = .ok (.aload_n 0, 1) := by decide +kernel
theorem d6_1 : decode prog_23_method_15_code 1 = .ok (.getfield 17, 3) := by decide +kernel
theorem d6_4 : decode prog_23_method_15_code 4 = .ok (.iload_n 1, 1) := by decide +kernel
theorem d6_5 : decode prog_23_method_15_code 5 = .ok (.i2l, 1) := by decide +kernel
theorem d6_6 : decode prog_23_method_15_code 6 = .ok (.ladd, 1) := by decide +kernel
theorem d6_7 : decode prog_23_method_15_code 7 = .ok (.lstore_n 2, 1) := by decide +kernel
theorem d6_8 : decode prog_23_method_15_code 8 = .ok (.lload_n 2, 1) := by decide +kernel
theorem d6_9 : decode prog_23_method_15_code 9 = .ok (.ldc2_w 146, 3) := by decide +kernel
theorem d6_12 : decode prog_23_method_15_code 12 = .ok (.lcmp, 1) := by decide +kernel
theorem d6_13 : decode prog_23_method_15_code 13 = .ok (.ifCond .le 17, 3) := by decide +kernel
theorem d6_30 : decode prog_23_method_15_code 30 = .ok (.aload_n 0, 1) := by decide +kernel
theorem d6_31 : decode prog_23_method_15_code 31 = .ok (.getfield 136, 3) := by decide +kernel
theorem d6_34 : decode prog_23_method_15_code 34 = .ok (.i2l, 1) := by decide +kernel
theorem d6_35 : decode prog_23_method_15_code 35 = .ok (.bipush 11, 2) := by decide +kernel
theorem d6_37 : decode prog_23_method_15_code 37 = .ok (.lshl, 1) := by decide +kernel
theorem d6_38 : decode prog_23_method_15_code 38 = .ok (.lload_n 2, 1) := by decide +kernel
theorem d6_39 : decode prog_23_method_15_code 39 = .ok (.lcmp, 1) := by decide +kernel
theorem d6_40 : decode prog_23_method_15_code 40 = .ok (.ifCond .ge 63, 3) := by decide +kernel
theorem d6_43 : decode prog_23_method_15_code 43 = .ok (.sipush 2048, 3) := by decide +kernel
theorem d6_46 : decode prog_23_method_15_code 46 = .ok (.newarray .int, 2) := by decide +kernel
theorem d6_48 : decode prog_23_method_15_code 48 = .ok (.astore 4, 2) := by decide +kernel
theorem d6_50 : decode prog_23_method_15_code 50 = .ok (.aload_n 0, 1) := by decide +kernel
theorem d6_51 : decode prog_23_method_15_code 51 = .ok (.getfield 136, 3) := by decide +kernel
theorem d6_54 : decode prog_23_method_15_code 54 = .ok (.aload_n 0, 1) := by decide +kernel
theorem d6_55 : decode prog_23_method_15_code 55 = .ok (.getfield 13, 3) := by decide +kernel
theorem d6_58 : decode prog_23_method_15_code 58 = .ok (.arraylength, 1) := by decide +kernel
theorem d6_59 : decode prog_23_method_15_code 59 = .ok (.if_icmp .ne 23, 3) := by decide +kernel
theorem d6_82 : decode prog_23_method_15_code 82 = .ok (.aload_n 0, 1) := by decide +kernel
theorem d6_83 : decode prog_23_method_15_code 83 = .ok (.getfield 13, 3) := by decide +kernel
theorem d6_86 : decode prog_23_method_15_code 86 = .ok (.aload_n 0, 1) := by decide +kernel
theorem d6_87 : decode prog_23_method_15_code 87 = .ok (.dup, 1) := by decide +kernel
theorem d6_88 : decode prog_23_method_15_code 88 = .ok (.getfield 136, 3) := by decide +kernel
theorem d6_91 : decode prog_23_method_15_code 91 = .ok (.dup_x1, 1) := by decide +kernel
theorem d6_92 : decode prog_23_method_15_code 92 = .ok (.iconst 1, 1) := by decide +kernel
theorem d6_93 : decode prog_23_method_15_code 93 = .ok (.iadd, 1) := by decide +kernel
theorem d6_94 : decode prog_23_method_15_code 94 = .ok (.putfield 136, 3) := by decide +kernel
theorem d6_97 : decode prog_23_method_15_code 97 = .ok (.aload 4, 2) := by decide +kernel
theorem d6_99 : decode prog_23_method_15_code 99 = .ok (.aastore, 1) := by decide +kernel
theorem d6_100 : decode prog_23_method_15_code 100 = .ok (.goto (-70), 3) := by decide +kernel
theorem d6_103 : decode prog_23_method_15_code 103 = .ok (.aload_n 0, 1) := by decide +kernel
theorem d6_104 : decode prog_23_method_15_code 104 = .ok (.getfield 17, 3) := by decide +kernel
theorem d6_107 : decode prog_23_method_15_code 107 = .ok (.l2i, 1) := by decide +kernel
theorem d6_108 : decode prog_23_method_15_code 108 = .ok (.istore 4, 2) := by decide +kernel
theorem d6_110 : decode prog_23_method_15_code 110 = .ok (.aload_n 0, 1) := by decide +kernel
theorem d6_111 : decode prog_23_method_15_code 111 = .ok (.lload_n 2, 1) := by decide +kernel
theorem d6_112 : decode prog_23_method_15_code 112 = .ok (.putfield 17, 3) := by decide +kernel
theorem d6_115 : decode prog_23_method_15_code 115 = .ok (.iload 4, 2) := by decide +kernel
theorem d6_117 : decode prog_23_method_15_code 117 = .ok (.ireturn, 1) := by decide +kernel
theorem ef_rm_ft (m : MethodId) (x0 : Addr) (x1 : Int32) : entryFrame m #[(.ref x0), (.int x1)] 5 = mkF m 0 #[.val (.ref x0), .val (.int x1), .unset, .unset, .unset] [] := by first | (simp [entryFrame, mkF, argsToLocals, Value.category]; done) | rfl
def Q_rm_ft (Z : State) (r0 : Addr) (n nb : Nat) (P : Addr) (fb : Addr) (kfb : ClassId) (h0 : Heap) (n0 : Nat) (v : Option Value) (h : Heap) (L : List Loc) : Prop := v = some (.int (1 : Int32)) ∧ Fr n0 L ∧ Keep h0 h [r0, P] ∧ ∃ (np : Nat) (G : Nat → Addr), np ≤ 5 ∧ n + 1 ≤ 2048 * np ∧ Mp Z h nb r0 P np G (fun _ => 0) ∧ Fld Z h r0 "rowpack/growable/IntSpace" "freeBits" "[[J" (.ref fb) ∧ Arv Z h fb kfb (.array .long) (0 : Int32) [] .null
set_option maxRecDepth 65536 in
set_option maxHeartbeats 40000000 in
theorem rm_ft (l : Launch) (Z : State) (a0 : Array Value) (hw : ∀ d ∈ tables_1, d.before a0 Z = true) (ws : List Jvm.Cond) (r0 : Addr) (n nb : Nat) (P : Addr) (fb : Addr) (kfb : ClassId) (h0 : Heap) (n0 : Nat) (Z0 : n0 ≤ h0.size) (hn0 : n0 ≤ nb) (hn1 : 1 ≤ n) (hn : n ≤ 8192) (M0 : Mp Z h0 nb r0 P 0 (fun _ => 0) (fun _ => 0)) (F_pc : Fld Z h0 r0 "rowpack/growable/IntSpace" "pageCount" "I" (.int (0 : Int32))) (F_top : Fld Z h0 r0 "rowpack/growable/IntSpace" "top" "J" (.long (1 : Int64))) (F_fb : Fld Z h0 r0 "rowpack/growable/IntSpace" "freeBits" "[[J" (.ref fb)) (V_fb : Arv Z h0 fb kfb (.array .long) (0 : Int32) [] .null) (nfr : fb ≠ r0) (nfP : fb ≠ P) :
    MetFree l (⟨"rowpack/growable/IntSpace", "fromTop", "(I)I"⟩ : MethodName) (head1 (Jvm.Cond.code (⟨"rowpack/growable/IntSpace", "fromTop", "(I)I"⟩ : MethodName) prog_23_method_15_code 5 (some .int) :: ws) ({ frames := 0, cells := 5, slots := 10240, locals := 0 } : Room)) (fun az Uz => az = #[(.ref r0), (.int (Int32.ofNat n))] ∧ Z.Warmed39 Uz.vm ∧ Uz.heap = h0) (fun _ _ _ _ _ => True) (fun _ Uz oz Vz => ∃ vz Lz, oz = .returned vz ∧ Q_rm_ft Z r0 n nb P fb kfb h0 n0 vz Vz.heap Lz ∧ FrameEnd Uz oz Vz Lz ({ frames := 0, cells := 5, slots := 10240, locals := 0 } : Room).cells ({ frames := 0, cells := 5, slots := 10240, locals := 0 } : Room).slots) := by
  refine MetFree.of_bodySF (plainFor_of_name own_pn0) hisR ?_
  intro p e s m args below meth c s₁ Bd hml0 hP hK
  obtain ⟨rfl, hZ, hh⟩ := hP
  have hx := Bd.exec
  have hby := Bd.bytes
  have hml : c.maxLocals = 5 := hml0
  have hown : s.vm.findClass "rowpack/growable/IntSpace" = some m.cls := findClass_of_methodNamed Bd.named
  have hnm := (name_of_methodNamed Bd.named Bd.method).1
  have X0 : Stand p l e ({ frames := 0, cells := 5, slots := 10240, locals := 0 } : Room) s m #[(.ref r0), (.int (Int32.ofNat n))] below meth c s₁ [] 0 0 := Stand.of_body Bd
  have e0 : s₁.heap = h0 := by rw [← hh, Bd.state]; rfl
  have N0 := Fr.nil n0
  have K0 : Keep h0 h0 [r0, P] := Keep.refl _ _
  refine Go.enter (Q := Q_rm_ft Z r0 n nb P fb kfb h0 n0) (C := ({ frames := 0, cells := 5, slots := 10240, locals := 0 } : Room).cells) (S := ({ frames := 0, cells := 5, slots := 10240, locals := 0 } : Room).slots) (ef_rm_ft m r0 (Int32.ofNat n)) ?_
  refine Go.step (fun _ zz => XS.aloadN X0.here hx rfl (hb hby d6_0) rfl rfl zz) ?_
  show Go _ _ _ _ s₁ (mkF m 1 #[.val (.ref r0), .val (.int (Int32.ofNat n)), .unset, .unset, .unset] [(.ref r0)])
  obtain ⟨T1, X1, e1, st1⟩ := getF X0 hx hZ hown (host := "") (Or.inl (hw _ (List.mem_of_getElem? (i := 15) rfl))) Via.refl e0 F_top (g := (mkF m 1 #[.val (.ref r0), .val (.int (Int32.ofNat n)), .unset, .unset, .unset] [(.ref r0)])) rfl rfl (hb hby d6_1)
  refine Go.step st1 ?_
  show Go _ _ _ _ T1 (mkF m 4 #[.val (.ref r0), .val (.int (Int32.ofNat n)), .unset, .unset, .unset] [(.long (1 : Int64))])
  refine Go.step (fun _ zz => XS.iloadN X1.here hx rfl (hb hby d6_4) rfl zz) ?_
  show Go _ _ _ _ T1 (mkF m 5 #[.val (.ref r0), .val (.int (Int32.ofNat n)), .unset, .unset, .unset] [(.int (Int32.ofNat n)), (.long (1 : Int64))])
  refine Go.step (fun _ zz => XS.i2l X1.here hx rfl (hb hby d6_5) rfl zz) ?_
  show Go _ _ _ _ T1 (mkF m 6 #[.val (.ref r0), .val (.int (Int32.ofNat n)), .unset, .unset, .unset] [(.long ((Int32.ofNat n).toInt64)), (.long (1 : Int64))])
  refine Go.step (fun _ zz => XS.ladd X1.here hx rfl (hb hby d6_6) rfl zz) ?_
  show Go _ _ _ _ T1 (mkF m 7 #[.val (.ref r0), .val (.int (Int32.ofNat n)), .unset, .unset, .unset] [(.long ((1 : Int64) + ((Int32.ofNat n).toInt64)))])
  refine Go.step (fun _ zz => XS.lstoreN X1.here hx rfl (hb hby d6_7) rfl (l' := #[.val (.ref r0), .val (.int (Int32.ofNat n)), .val (.long ((1 : Int64) + ((Int32.ofNat n).toInt64))), .second, .unset]) rfl zz) ?_
  show Go _ _ _ _ T1 (mkF m 8 #[.val (.ref r0), .val (.int (Int32.ofNat n)), .val (.long ((1 : Int64) + ((Int32.ofNat n).toInt64))), .second, .unset] [])
  rw [show ((1 : Int64) + ((Int32.ofNat n).toInt64)) = (Int64.ofNat (1 + n)) from by rw [own_up n (by omega)]; exact own_add64 1 n]
  show Go _ _ _ _ T1 (mkF m 8 #[.val (.ref r0), .val (.int (Int32.ofNat n)), .val (.long (Int64.ofNat (1 + n))), .second, .unset] [])
  refine Go.step (fun _ zz => XS.lloadN X1.here hx rfl (hb hby d6_8) rfl zz) ?_
  show Go _ _ _ _ T1 (mkF m 9 #[.val (.ref r0), .val (.int (Int32.ofNat n)), .val (.long (Int64.ofNat (1 + n))), .second, .unset] [(.long (Int64.ofNat (1 + n)))])
  refine Go.step (fun _ zz => X1.ldc2Long hx hown (mvT hZ (hw _ (List.mem_of_getElem? (i := 49) rfl))) (g := (mkF m 9 #[.val (.ref r0), .val (.int (Int32.ofNat n)), .val (.long (Int64.ofNat (1 + n))), .second, .unset] [(.long (Int64.ofNat (1 + n)))])) rfl (hb hby d6_9) _ zz) ?_
  show Go _ _ _ _ T1 (mkF m 12 #[.val (.ref r0), .val (.int (Int32.ofNat n)), .val (.long (Int64.ofNat (1 + n))), .second, .unset] [(.long (4294967296 : Int64)), (.long (Int64.ofNat (1 + n)))])
  refine Go.step (fun _ zz => XS.lcmp X1.here hx rfl (hb hby d6_12) rfl zz) ?_
  show Go _ _ _ _ T1 (mkF m 13 #[.val (.ref r0), .val (.int (Int32.ofNat n)), .val (.long (Int64.ofNat (1 + n))), .second, .unset] [(.int (lcmpW (Int64.ofNat (1 + n)) (4294967296 : Int64)))])
  refine Go.step (fun _ zz => XS.ifYes X1.here hx rfl (pc0 := 13) (pc' := 30) rfl (hb hby d6_13) rfl ((if0 _ _).trans (flt (fun q => (fun q => by have := (own_lt64 4294967296 (1 + n) (by omega) (by omega)).mp q; omega) ((lw_gt (Int64.ofNat (1 + n)) (4294967296 : Int64)).mp q))).2.2.2) (by decide) (by decide) zz) ?_
  show Go _ _ _ _ T1 (mkF m 30 #[.val (.ref r0), .val (.int (Int32.ofNat n)), .val (.long (Int64.ofNat (1 + n))), .second, .unset] [])
  have lp : ∀ (j np : Nat) (Tj : State) (lj : List Loc) (hj : Heap) (G : Nat → Addr) (s4 : Slot) (Xj : Stand p l e ({ frames := 0, cells := 5, slots := 10240, locals := 0 } : Room) s m #[(.ref r0), (.int (Int32.ofNat n))] below meth c Tj lj np (2048 * np)) (Nj : Fr n0 lj) (ej : Tj.heap = hj) (Kj : Keep h0 hj [r0, P]) (Mj : Mp Z hj nb r0 P np G (fun _ => 0)) (Fpj : Fld Z hj r0 "rowpack/growable/IntSpace" "pageCount" "I" (.int (Int32.ofNat np))) (Ftj : Fld Z hj r0 "rowpack/growable/IntSpace" "top" "J" (.long (1 : Int64))) (Ffj : Fld Z hj r0 "rowpack/growable/IntSpace" "freeBits" "[[J" (.ref fb)) (Vfj : Arv Z hj fb kfb (.array .long) (0 : Int32) [] .null) (hs4 : One s4), np + j = (n + 2048) / 2048 → Go p.tables e below (RT (Q_rm_ft Z r0 n nb P fb kfb h0 n0) s ({ frames := 0, cells := 5, slots := 10240, locals := 0 } : Room).cells ({ frames := 0, cells := 5, slots := 10240, locals := 0 } : Room).slots) Tj (mkF m 30 #[.val (.ref r0), .val (.int (Int32.ofNat n)), .val (.long (Int64.ofNat (1 + n))), .second, s4] []) := by
    intro j
    induction j with
    | zero =>
      intro np Tj lj hj G s4 Xj Nj ej Kj Mj Fpj Ftj Ffj Vfj hs4 hij
      refine Go.step (fun _ zz => XS.aloadN Xj.here hx rfl (hb hby d6_30) rfl rfl zz) ?_
      show Go _ _ _ _ Tj (mkF m 31 #[.val (.ref r0), .val (.int (Int32.ofNat n)), .val (.long (Int64.ofNat (1 + n))), .second, s4] [(.ref r0)])
      obtain ⟨T2, X2, e2, st2⟩ := getF Xj hx hZ hown (host := "") (Or.inl (hw _ (List.mem_of_getElem? (i := 50) rfl))) Via.refl ej Fpj (g := (mkF m 31 #[.val (.ref r0), .val (.int (Int32.ofNat n)), .val (.long (Int64.ofNat (1 + n))), .second, s4] [(.ref r0)])) rfl rfl (hb hby d6_31)
      refine Go.step st2 ?_
      show Go _ _ _ _ T2 (mkF m 34 #[.val (.ref r0), .val (.int (Int32.ofNat n)), .val (.long (Int64.ofNat (1 + n))), .second, s4] [(.int (Int32.ofNat np))])
      refine Go.step (fun _ zz => XS.i2l X2.here hx rfl (hb hby d6_34) rfl zz) ?_
      show Go _ _ _ _ T2 (mkF m 35 #[.val (.ref r0), .val (.int (Int32.ofNat n)), .val (.long (Int64.ofNat (1 + n))), .second, s4] [(.long ((Int32.ofNat np).toInt64))])
      refine Go.step (fun _ zz => XS.bipush X2.here hx rfl (hb hby d6_35) zz) ?_
      show Go _ _ _ _ T2 (mkF m 37 #[.val (.ref r0), .val (.int (Int32.ofNat n)), .val (.long (Int64.ofNat (1 + n))), .second, s4] [(.int (11 : Int32)), (.long ((Int32.ofNat np).toInt64))])
      refine Go.step (fun _ zz => XS.lshl X2.here hx rfl (hb hby d6_37) rfl zz) ?_
      show Go _ _ _ _ T2 (mkF m 38 #[.val (.ref r0), .val (.int (Int32.ofNat n)), .val (.long (Int64.ofNat (1 + n))), .second, s4] [(.long (((Int32.ofNat np).toInt64) <<< ((11 : Int32) &&& 0x3f).toInt64))])
      refine Go.step (fun _ zz => XS.lloadN X2.here hx rfl (hb hby d6_38) rfl zz) ?_
      show Go _ _ _ _ T2 (mkF m 39 #[.val (.ref r0), .val (.int (Int32.ofNat n)), .val (.long (Int64.ofNat (1 + n))), .second, s4] [(.long (Int64.ofNat (1 + n))), (.long (((Int32.ofNat np).toInt64) <<< ((11 : Int32) &&& 0x3f).toInt64))])
      refine Go.step (fun _ zz => XS.lcmp X2.here hx rfl (hb hby d6_39) rfl zz) ?_
      show Go _ _ _ _ T2 (mkF m 40 #[.val (.ref r0), .val (.int (Int32.ofNat n)), .val (.long (Int64.ofNat (1 + n))), .second, s4] [(.int (lcmpW (((Int32.ofNat np).toInt64) <<< ((11 : Int32) &&& 0x3f).toInt64) (Int64.ofNat (1 + n))))])
      refine Go.step (fun _ zz => XS.ifYes X2.here hx rfl (pc0 := 40) (pc' := 103) rfl (hb hby d6_40) rfl ((if0 _ _).trans (flt (fun q => (fun q => by rw [(own_shl11 np (by omega))] at q; have := (own_lt64 _ _ (by omega) (by omega)).mp q; omega) ((lw_lt (((Int32.ofNat np).toInt64) <<< ((11 : Int32) &&& 0x3f).toInt64) (Int64.ofNat (1 + n))).mp q))).2.1) (by decide) (by decide) zz) ?_
      show Go _ _ _ _ T2 (mkF m 103 #[.val (.ref r0), .val (.int (Int32.ofNat n)), .val (.long (Int64.ofNat (1 + n))), .second, s4] [])
      refine Go.step (fun _ zz => XS.aloadN X2.here hx rfl (hb hby d6_103) rfl rfl zz) ?_
      show Go _ _ _ _ T2 (mkF m 104 #[.val (.ref r0), .val (.int (Int32.ofNat n)), .val (.long (Int64.ofNat (1 + n))), .second, s4] [(.ref r0)])
      obtain ⟨T3, X3, e3, st3⟩ := getF X2 hx hZ hown (host := "") (Or.inl (hw _ (List.mem_of_getElem? (i := 15) rfl))) Via.refl e2 Ftj (g := (mkF m 104 #[.val (.ref r0), .val (.int (Int32.ofNat n)), .val (.long (Int64.ofNat (1 + n))), .second, s4] [(.ref r0)])) rfl rfl (hb hby d6_104)
      refine Go.step st3 ?_
      show Go _ _ _ _ T3 (mkF m 107 #[.val (.ref r0), .val (.int (Int32.ofNat n)), .val (.long (Int64.ofNat (1 + n))), .second, s4] [(.long (1 : Int64))])
      refine Go.step (fun _ zz => XS.l2i X3.here hx rfl (hb hby d6_107) rfl zz) ?_
      show Go _ _ _ _ T3 (mkF m 108 #[.val (.ref r0), .val (.int (Int32.ofNat n)), .val (.long (Int64.ofNat (1 + n))), .second, s4] [(.int ((1 : Int64).toInt32))])
      refine Go.step (fun _ zz => XS.istore X3.here hx rfl (hb hby d6_108) rfl (l' := #[.val (.ref r0), .val (.int (Int32.ofNat n)), .val (.long (Int64.ofNat (1 + n))), .second, .val (.int ((1 : Int64).toInt32))]) (own_st4i _ _ _ _ hs4) zz) ?_
      show Go _ _ _ _ T3 (mkF m 110 #[.val (.ref r0), .val (.int (Int32.ofNat n)), .val (.long (Int64.ofNat (1 + n))), .second, .val (.int ((1 : Int64).toInt32))] [])
      refine Go.step (fun _ zz => XS.aloadN X3.here hx rfl (hb hby d6_110) rfl rfl zz) ?_
      show Go _ _ _ _ T3 (mkF m 111 #[.val (.ref r0), .val (.int (Int32.ofNat n)), .val (.long (Int64.ofNat (1 + n))), .second, .val (.int ((1 : Int64).toInt32))] [(.ref r0)])
      refine Go.step (fun _ zz => XS.lloadN X3.here hx rfl (hb hby d6_111) rfl zz) ?_
      show Go _ _ _ _ T3 (mkF m 112 #[.val (.ref r0), .val (.int (Int32.ofNat n)), .val (.long (Int64.ofNat (1 + n))), .second, .val (.int ((1 : Int64).toInt32))] [(.long (Int64.ofNat (1 + n))), (.ref r0)])
      obtain ⟨T4, h4, X4, e4, W4, st4⟩ := putF X3 hx hZ hown (host := "") (Or.inl (hw _ (List.mem_of_getElem? (i := 15) rfl))) Via.refl e3 Ftj Mj.1 (Or.inl (hw _ (List.mem_of_getElem? (i := 16) rfl))) (hw _ (List.mem_of_getElem? (i := 3) rfl)) (ty := .long) (by decide) rfl rfl (g := (mkF m 112 #[.val (.ref r0), .val (.int (Int32.ofNat n)), .val (.long (Int64.ofNat (1 + n))), .second, .val (.int ((1 : Int64).toInt32))] [(.long (Int64.ofNat (1 + n))), (.ref r0)])) rfl rfl (hb hby d6_112)
      have Fw4 := Ftj.same W4
      have N4 := Fr.snoc X4 Nj (Nat.le_trans hn0 Mj.2.2.2.2.1.1)
      refine Go.step st4 ?_
      show Go _ _ _ _ T4 (mkF m 115 #[.val (.ref r0), .val (.int (Int32.ofNat n)), .val (.long (Int64.ofNat (1 + n))), .second, .val (.int ((1 : Int64).toInt32))] [])
      refine Go.step (fun _ zz => XS.iload X4.here hx rfl (hb hby d6_115) rfl zz) ?_
      show Go _ _ _ _ T4 (mkF m 117 #[.val (.ref r0), .val (.int (Int32.ofNat n)), .val (.long (Int64.ofNat (1 + n))), .second, .val (.int ((1 : Int64).toInt32))] [(.int ((1 : Int64).toInt32))])
      exact Go.retI X4 hx Bd.returns (hb hby d6_117) Bd.notSynchronized (by rw [e4]; exact ⟨rfl, N4, Kj.wr W4 (Or.inl (List.mem_of_getElem? (i := 0) rfl)), np, G, by omega, by omega, Mj.fld W4 (slot_ne (Or.inl (hw _ (List.mem_of_getElem? (i := 14) rfl))) (Or.inl (hw _ (List.mem_of_getElem? (i := 16) rfl))) (by decide) (t := (.array (.array .int))) (t' := .long) (by decide) (by decide)), Ffj.other W4 (Or.inr (slot_ne (Or.inl (hw _ (List.mem_of_getElem? (i := 20) rfl))) (Or.inl (hw _ (List.mem_of_getElem? (i := 16) rfl))) (by decide) (t := (.array (.array .long))) (t' := .long) (by decide) (by decide))), Vfj.other W4 nfr⟩) (by show np ≤ 5; omega) (by show 2048 * np ≤ 10240; omega)
    | succ j ih =>
      intro np Tj lj hj G s4 Xj Nj ej Kj Mj Fpj Ftj Ffj Vfj hs4 hij
      refine Go.step (fun _ zz => XS.aloadN Xj.here hx rfl (hb hby d6_30) rfl rfl zz) ?_
      show Go _ _ _ _ Tj (mkF m 31 #[.val (.ref r0), .val (.int (Int32.ofNat n)), .val (.long (Int64.ofNat (1 + n))), .second, s4] [(.ref r0)])
      obtain ⟨T5, X5, e5, st5⟩ := getF Xj hx hZ hown (host := "") (Or.inl (hw _ (List.mem_of_getElem? (i := 50) rfl))) Via.refl ej Fpj (g := (mkF m 31 #[.val (.ref r0), .val (.int (Int32.ofNat n)), .val (.long (Int64.ofNat (1 + n))), .second, s4] [(.ref r0)])) rfl rfl (hb hby d6_31)
      refine Go.step st5 ?_
      show Go _ _ _ _ T5 (mkF m 34 #[.val (.ref r0), .val (.int (Int32.ofNat n)), .val (.long (Int64.ofNat (1 + n))), .second, s4] [(.int (Int32.ofNat np))])
      refine Go.step (fun _ zz => XS.i2l X5.here hx rfl (hb hby d6_34) rfl zz) ?_
      show Go _ _ _ _ T5 (mkF m 35 #[.val (.ref r0), .val (.int (Int32.ofNat n)), .val (.long (Int64.ofNat (1 + n))), .second, s4] [(.long ((Int32.ofNat np).toInt64))])
      refine Go.step (fun _ zz => XS.bipush X5.here hx rfl (hb hby d6_35) zz) ?_
      show Go _ _ _ _ T5 (mkF m 37 #[.val (.ref r0), .val (.int (Int32.ofNat n)), .val (.long (Int64.ofNat (1 + n))), .second, s4] [(.int (11 : Int32)), (.long ((Int32.ofNat np).toInt64))])
      refine Go.step (fun _ zz => XS.lshl X5.here hx rfl (hb hby d6_37) rfl zz) ?_
      show Go _ _ _ _ T5 (mkF m 38 #[.val (.ref r0), .val (.int (Int32.ofNat n)), .val (.long (Int64.ofNat (1 + n))), .second, s4] [(.long (((Int32.ofNat np).toInt64) <<< ((11 : Int32) &&& 0x3f).toInt64))])
      refine Go.step (fun _ zz => XS.lloadN X5.here hx rfl (hb hby d6_38) rfl zz) ?_
      show Go _ _ _ _ T5 (mkF m 39 #[.val (.ref r0), .val (.int (Int32.ofNat n)), .val (.long (Int64.ofNat (1 + n))), .second, s4] [(.long (Int64.ofNat (1 + n))), (.long (((Int32.ofNat np).toInt64) <<< ((11 : Int32) &&& 0x3f).toInt64))])
      refine Go.step (fun _ zz => XS.lcmp X5.here hx rfl (hb hby d6_39) rfl zz) ?_
      show Go _ _ _ _ T5 (mkF m 40 #[.val (.ref r0), .val (.int (Int32.ofNat n)), .val (.long (Int64.ofNat (1 + n))), .second, s4] [(.int (lcmpW (((Int32.ofNat np).toInt64) <<< ((11 : Int32) &&& 0x3f).toInt64) (Int64.ofNat (1 + n))))])
      refine Go.step (fun _ zz => XS.ifNo X5.here hx rfl (hb hby d6_40) rfl ((if0 _ _).trans (tlt ((lw_lt (((Int32.ofNat np).toInt64) <<< ((11 : Int32) &&& 0x3f).toInt64) (Int64.ofNat (1 + n))).mpr (by rw [(own_shl11 np (by omega))]; exact (own_lt64 _ _ (by omega) (by omega)).mpr (by omega)))).2.1) zz) ?_
      show Go _ _ _ _ T5 (mkF m 43 #[.val (.ref r0), .val (.int (Int32.ofNat n)), .val (.long (Int64.ofNat (1 + n))), .second, s4] [])
      refine Go.step (fun _ zz => XS.sipush X5.here hx rfl (hb hby d6_43) zz) ?_
      show Go _ _ _ _ T5 (mkF m 46 #[.val (.ref r0), .val (.int (Int32.ofNat n)), .val (.long (Int64.ofNat (1 + n))), .second, s4] [(.int (2048 : Int32))])
      obtain ⟨T6, h6, k6, X6, e6, E6, A6, B6, st6⟩ := newPE X5 hx hZ (hw _ (List.mem_of_getElem? (i := 1) rfl)) e5 (g := (mkF m 46 #[.val (.ref r0), .val (.int (Int32.ofNat n)), .val (.long (Int64.ofNat (1 + n))), .second, s4] [(.int (2048 : Int32))])) rfl (hb hby d6_46) rfl (by decide) (cap := 2048) (by decide) (by decide) (by show np + 1 ≤ 5; omega) (by show 2048 * np + 2048 ≤ 10240; omega) (ad := "[I") (by decide)
      obtain ⟨b6, g6⟩ : ∃ z, z = hj.size := ⟨_, rfl⟩
      rw [← g6] at A6 B6 st6
      refine Go.step st6 ?_
      show Go _ _ _ _ T6 (mkF m 48 #[.val (.ref r0), .val (.int (Int32.ofNat n)), .val (.long (Int64.ofNat (1 + n))), .second, s4] [(.ref b6)])
      refine Go.step (fun _ zz => XS.astore X6.here hx rfl (hb hby d6_48) rfl rfl (l' := #[.val (.ref r0), .val (.int (Int32.ofNat n)), .val (.long (Int64.ofNat (1 + n))), .second, .val (.ref b6)]) (own_st4r _ _ _ _ hs4) zz) ?_
      show Go _ _ _ _ T6 (mkF m 50 #[.val (.ref r0), .val (.int (Int32.ofNat n)), .val (.long (Int64.ofNat (1 + n))), .second, .val (.ref b6)] [])
      refine Go.step (fun _ zz => XS.aloadN X6.here hx rfl (hb hby d6_50) rfl rfl zz) ?_
      show Go _ _ _ _ T6 (mkF m 51 #[.val (.ref r0), .val (.int (Int32.ofNat n)), .val (.long (Int64.ofNat (1 + n))), .second, .val (.ref b6)] [(.ref r0)])
      obtain ⟨T7, X7, e7, st7⟩ := getF X6 hx hZ hown (host := "") (Or.inl (hw _ (List.mem_of_getElem? (i := 50) rfl))) Via.refl e6 (Fpj.ext E6) (g := (mkF m 51 #[.val (.ref r0), .val (.int (Int32.ofNat n)), .val (.long (Int64.ofNat (1 + n))), .second, .val (.ref b6)] [(.ref r0)])) rfl rfl (hb hby d6_51)
      refine Go.step st7 ?_
      show Go _ _ _ _ T7 (mkF m 54 #[.val (.ref r0), .val (.int (Int32.ofNat n)), .val (.long (Int64.ofNat (1 + n))), .second, .val (.ref b6)] [(.int (Int32.ofNat np))])
      refine Go.step (fun _ zz => XS.aloadN X7.here hx rfl (hb hby d6_54) rfl rfl zz) ?_
      show Go _ _ _ _ T7 (mkF m 55 #[.val (.ref r0), .val (.int (Int32.ofNat n)), .val (.long (Int64.ofNat (1 + n))), .second, .val (.ref b6)] [(.ref r0), (.int (Int32.ofNat np))])
      obtain ⟨T8, X8, e8, st8⟩ := getF X7 hx hZ hown (host := "") (Or.inl (hw _ (List.mem_of_getElem? (i := 13) rfl))) Via.refl e7 (Mj.2.1.ext E6) (g := (mkF m 55 #[.val (.ref r0), .val (.int (Int32.ofNat n)), .val (.long (Int64.ofNat (1 + n))), .second, .val (.ref b6)] [(.ref r0), (.int (Int32.ofNat np))])) rfl rfl (hb hby d6_55)
      refine Go.step st8 ?_
      show Go _ _ _ _ T8 (mkF m 58 #[.val (.ref r0), .val (.int (Int32.ofNat n)), .val (.long (Int64.ofNat (1 + n))), .second, .val (.ref b6)] [(.ref P), (.int (Int32.ofNat np))])
      obtain ⟨cD9, AD9, qD9, oD9, sD9⟩ := Mj.2.2.1.ext E6
      have SD9 : cD9.slots.size = (16 : Int32).toNatClampNeg := qD9
      refine Go.step (fun _ zz => X8.arraylength hx (by rw [e8]; exact AD9.1) (State.isArrayOf_alike hZ.alike AD9.2.1) (g := (mkF m 58 #[.val (.ref r0), .val (.int (Int32.ofNat n)), .val (.long (Int64.ofNat (1 + n))), .second, .val (.ref b6)] [(.ref P), (.int (Int32.ofNat np))])) rfl rfl (hb hby d6_58) _ zz) ?_
      rw [len_of SD9 (by decide)]
      show Go _ _ _ _ T8 (mkF m 59 #[.val (.ref r0), .val (.int (Int32.ofNat n)), .val (.long (Int64.ofNat (1 + n))), .second, .val (.ref b6)] [(.int (16 : Int32)), (.int (Int32.ofNat np))])
      refine Go.step (fun _ zz => XS.icmpYes X8.here hx rfl (pc0 := 59) (pc' := 82) rfl (hb hby d6_59) rfl (feq (fun q => by have := (own_eqN np 16 (by omega) (by omega)).mp q; omega)).2 (by decide) (by decide) zz) ?_
      show Go _ _ _ _ T8 (mkF m 82 #[.val (.ref r0), .val (.int (Int32.ofNat n)), .val (.long (Int64.ofNat (1 + n))), .second, .val (.ref b6)] [])
      refine Go.step (fun _ zz => XS.aloadN X8.here hx rfl (hb hby d6_82) rfl rfl zz) ?_
      show Go _ _ _ _ T8 (mkF m 83 #[.val (.ref r0), .val (.int (Int32.ofNat n)), .val (.long (Int64.ofNat (1 + n))), .second, .val (.ref b6)] [(.ref r0)])
      obtain ⟨T10, X10, e10, st10⟩ := getF X8 hx hZ hown (host := "") (Or.inl (hw _ (List.mem_of_getElem? (i := 13) rfl))) Via.refl e8 (Mj.2.1.ext E6) (g := (mkF m 83 #[.val (.ref r0), .val (.int (Int32.ofNat n)), .val (.long (Int64.ofNat (1 + n))), .second, .val (.ref b6)] [(.ref r0)])) rfl rfl (hb hby d6_83)
      refine Go.step st10 ?_
      show Go _ _ _ _ T10 (mkF m 86 #[.val (.ref r0), .val (.int (Int32.ofNat n)), .val (.long (Int64.ofNat (1 + n))), .second, .val (.ref b6)] [(.ref P)])
      refine Go.step (fun _ zz => XS.aloadN X10.here hx rfl (hb hby d6_86) rfl rfl zz) ?_
      show Go _ _ _ _ T10 (mkF m 87 #[.val (.ref r0), .val (.int (Int32.ofNat n)), .val (.long (Int64.ofNat (1 + n))), .second, .val (.ref b6)] [(.ref r0), (.ref P)])
      refine Go.step (fun _ zz => XS.dup X10.here hx rfl (hb hby d6_87) rfl rfl zz) ?_
      show Go _ _ _ _ T10 (mkF m 88 #[.val (.ref r0), .val (.int (Int32.ofNat n)), .val (.long (Int64.ofNat (1 + n))), .second, .val (.ref b6)] [(.ref r0), (.ref r0), (.ref P)])
      obtain ⟨T11, X11, e11, st11⟩ := getF X10 hx hZ hown (host := "") (Or.inl (hw _ (List.mem_of_getElem? (i := 50) rfl))) Via.refl e10 (Fpj.ext E6) (g := (mkF m 88 #[.val (.ref r0), .val (.int (Int32.ofNat n)), .val (.long (Int64.ofNat (1 + n))), .second, .val (.ref b6)] [(.ref r0), (.ref r0), (.ref P)])) rfl rfl (hb hby d6_88)
      refine Go.step st11 ?_
      show Go _ _ _ _ T11 (mkF m 91 #[.val (.ref r0), .val (.int (Int32.ofNat n)), .val (.long (Int64.ofNat (1 + n))), .second, .val (.ref b6)] [(.int (Int32.ofNat np)), (.ref r0), (.ref P)])
      refine Go.step (fun _ zz => XS.dupX1 X11.here hx rfl (hb hby d6_91) rfl rfl rfl zz) ?_
      show Go _ _ _ _ T11 (mkF m 92 #[.val (.ref r0), .val (.int (Int32.ofNat n)), .val (.long (Int64.ofNat (1 + n))), .second, .val (.ref b6)] [(.int (Int32.ofNat np)), (.ref r0), (.int (Int32.ofNat np)), (.ref P)])
      refine Go.step (fun _ zz => XS.iconst X11.here hx rfl (hb hby d6_92) zz) ?_
      show Go _ _ _ _ T11 (mkF m 93 #[.val (.ref r0), .val (.int (Int32.ofNat n)), .val (.long (Int64.ofNat (1 + n))), .second, .val (.ref b6)] [(.int (1 : Int32)), (.int (Int32.ofNat np)), (.ref r0), (.int (Int32.ofNat np)), (.ref P)])
      refine Go.step (fun _ zz => XS.iadd X11.here hx rfl (hb hby d6_93) rfl zz) ?_
      show Go _ _ _ _ T11 (mkF m 94 #[.val (.ref r0), .val (.int (Int32.ofNat n)), .val (.long (Int64.ofNat (1 + n))), .second, .val (.ref b6)] [(.int ((Int32.ofNat np) + (1 : Int32))), (.ref r0), (.int (Int32.ofNat np)), (.ref P)])
      rw [show (Int32.ofNat np) + (1 : Int32) = Int32.ofNat (np + 1) from own_addN np 1]
      show Go _ _ _ _ T11 (mkF m 94 #[.val (.ref r0), .val (.int (Int32.ofNat n)), .val (.long (Int64.ofNat (1 + n))), .second, .val (.ref b6)] [(.int (Int32.ofNat (np + 1))), (.ref r0), (.int (Int32.ofNat np)), (.ref P)])
      obtain ⟨T12, h12, X12, e12, W12, st12⟩ := putF X11 hx hZ hown (host := "") (Or.inl (hw _ (List.mem_of_getElem? (i := 50) rfl))) Via.refl e11 (Fpj.ext E6) (Mj.1.ext E6) (Or.inl (hw _ (List.mem_of_getElem? (i := 51) rfl))) (hw _ (List.mem_of_getElem? (i := 3) rfl)) (ty := .int) (by decide) rfl rfl (g := (mkF m 94 #[.val (.ref r0), .val (.int (Int32.ofNat n)), .val (.long (Int64.ofNat (1 + n))), .second, .val (.ref b6)] [(.int (Int32.ofNat (np + 1))), (.ref r0), (.int (Int32.ofNat np)), (.ref P)])) rfl rfl (hb hby d6_94)
      have Fw12 := (Fpj.ext E6).same W12
      have N12 := Fr.snoc X12 Nj (Nat.le_trans hn0 Mj.2.2.2.2.1.1)
      refine Go.step st12 ?_
      show Go _ _ _ _ T12 (mkF m 97 #[.val (.ref r0), .val (.int (Int32.ofNat n)), .val (.long (Int64.ofNat (1 + n))), .second, .val (.ref b6)] [(.int (Int32.ofNat np)), (.ref P)])
      refine Go.step (fun _ zz => XS.aload X12.here hx rfl (hb hby d6_97) rfl rfl zz) ?_
      show Go _ _ _ _ T12 (mkF m 99 #[.val (.ref r0), .val (.int (Int32.ofNat n)), .val (.long (Int64.ofNat (1 + n))), .second, .val (.ref b6)] [(.ref b6), (.int (Int32.ofNat np)), (.ref P)])
      have AE9 := AD9.other W12 (fun e => Mj.2.2.2.2.2.1 e.symm)
      have hin9 : ¬ ((Int32.ofNat np) < 0 ∨ cD9.slots.size ≤ ((Int32.ofNat np)).toNatClampNeg) := by rw [own_cl _ (by omega), qD9]; exact fun q => q.elim (own_nn _ (by omega)) (fun q => by omega)
      obtain ⟨T13, h13, X13, e13, W13, st13⟩ := stR X12 hx hZ e12 AE9 (j := (Int32.ofNat np)) (v := (.ref b6)) hin9 rfl (Sto.ofVA AE9 rfl oD9 (Ins.self (B6.wr W12))) (g := (mkF m 99 #[.val (.ref r0), .val (.int (Int32.ofNat n)), .val (.long (Int64.ofNat (1 + n))), .second, .val (.ref b6)] [(.ref b6), (.int (Int32.ofNat np)), (.ref P)])) rfl rfl (hb hby d6_99)
      refine Go.step st13 ?_
      have N13 := Fr.snoc X13 N12 (Nat.le_trans hn0 Mj.2.2.2.2.1.2.1)
      rw [own_cl _ (by omega)] at W13
      show Go _ _ _ _ T13 (mkF m 100 #[.val (.ref r0), .val (.int (Int32.ofNat n)), .val (.long (Int64.ofNat (1 + n))), .second, .val (.ref b6)] [])
      refine Go.step (fun _ zz => XS.goto X13.here hx rfl (pc0 := 100) (pc' := 30) rfl (hb hby d6_100) (by decide) (by decide) zz) ?_
      show Go _ _ _ _ T13 (mkF m 30 #[.val (.ref r0), .val (.int (Int32.ofNat n)), .val (.long (Int64.ofNat (1 + n))), .second, .val (.ref b6)] [])
      exact ih (np + 1) _ _ _ (fun i => if i = np then b6 else G i) _ (by rw [show 2048 * (np + 1) = 2048 * np + 2048 from by omega]; exact X13) N13 e13 ((Kj.ext E6).wr W12 (Or.inl (List.mem_of_getElem? (i := 0) rfl)) |>.wr W13 (Or.inl (List.mem_of_getElem? (i := 1) rfl))) (Mj.grow (Nat.le_trans Mj.2.2.2.2.1.1 (Nat.le_of_lt Mj.1.lt)) (by omega) E6 g6 A6 W12 (slot_ne (Or.inl (hw _ (List.mem_of_getElem? (i := 14) rfl))) (Or.inl (hw _ (List.mem_of_getElem? (i := 51) rfl))) (by decide) (t := (.array (.array .int))) (t' := .int) (by decide) (by decide)) W13) ((Fpj.ext E6).same W12 |>.other W13 (Or.inl Mj.2.2.2.2.2.1)) ((Ftj.ext E6).other W12 (Or.inr (slot_ne (Or.inl (hw _ (List.mem_of_getElem? (i := 16) rfl))) (Or.inl (hw _ (List.mem_of_getElem? (i := 51) rfl))) (by decide) (t := .long) (t' := .int) (by decide) (by decide))) |>.other W13 (Or.inl Mj.2.2.2.2.2.1)) ((Ffj.ext E6).other W12 (Or.inr (slot_ne (Or.inl (hw _ (List.mem_of_getElem? (i := 20) rfl))) (Or.inl (hw _ (List.mem_of_getElem? (i := 51) rfl))) (by decide) (t := (.array (.array .long))) (t' := .int) (by decide) (by decide))) |>.other W13 (Or.inl Mj.2.2.2.2.2.1)) ((Vfj.ext E6).other W12 nfr |>.other W13 nfP) (One.val rfl) (by omega)
  exact lp _ 0 _ _ _ (fun _ => 0) _ X1 N0 e1 K0 M0 F_pc F_top F_fb V_fb One.u (Nat.zero_add _)
theorem d8_0 : decode jdk_33_method_42_code 0 = .ok (.iload_n 0, 1) := by decide +kernel
theorem d8_1 : decode jdk_33_method_42_code 1 = .ok (.i2l, 1) := by decide +kernel
theorem d8_2 : decode jdk_33_method_42_code 2 = .ok (.ldc2_w 262, 3) := by decide +kernel
theorem d8_5 : decode jdk_33_method_42_code 5 = .ok (.land, 1) := by decide +kernel
theorem d8_6 : decode jdk_33_method_42_code 6 = .ok (.lreturn, 1) := by decide +kernel
theorem own_pn2 : plainName "java/lang/Integer" = true := by first | (simp [plainName, overriddenIn]; done) | decide +kernel
theorem ef_rm8 (m : MethodId) (x0 : Int32) : entryFrame m #[(.int x0)] 1 = mkF m 0 #[.val (.int x0)] [] := by first | (simp [entryFrame, mkF, argsToLocals, Value.category]; done) | rfl
def own_f8 (p0 : Int32) : Int64 := ((p0.toInt64) &&& (4294967295 : Int64))
def Q_rm8 (Z : State) (p0 : Int32) (h0 : Heap) (n0 : Nat) (v : Option Value) (h : Heap) (L : List Loc) : Prop := v = some (Value.long (own_f8 p0)) ∧ Fr n0 L ∧ h = h0
set_option maxRecDepth 65536 in
set_option maxHeartbeats 40000000 in
theorem rm8 (l : Launch) (Z : State) (a0 : Array Value) (hw : ∀ d ∈ tables_1, d.before a0 Z = true) (ws : List Jvm.Cond) (p0 : Int32) (h0 : Heap) (n0 : Nat) (Z0 : n0 ≤ h0.size) :
    MetFree l (⟨"java/lang/Integer", "toUnsignedLong", "(I)J"⟩ : MethodName) (head1 (Jvm.Cond.code (⟨"java/lang/Integer", "toUnsignedLong", "(I)J"⟩ : MethodName) jdk_33_method_42_code 1 (some .long) :: ws) ({ frames := 0, cells := 0, slots := 0, locals := 0 } : Room)) (fun az Uz => az = #[(.int p0)] ∧ Z.Warmed39 Uz.vm ∧ Uz.heap = h0) (fun _ _ _ _ _ => True) (fun _ Uz oz Vz => ∃ vz Lz, oz = .returned vz ∧ Q_rm8 Z p0 h0 n0 vz Vz.heap Lz ∧ FrameEnd Uz oz Vz Lz ({ frames := 0, cells := 0, slots := 0, locals := 0 } : Room).cells ({ frames := 0, cells := 0, slots := 0, locals := 0 } : Room).slots) := by
  refine MetFree.of_bodySF (plainFor_of_name own_pn2) hisR ?_
  intro p e s m args below meth c s₁ Bd hml0 hP hK
  obtain ⟨rfl, hZ, hh⟩ := hP
  have hx := Bd.exec
  have hby := Bd.bytes
  have hml : c.maxLocals = 1 := hml0
  have hown : s.vm.findClass "java/lang/Integer" = some m.cls := findClass_of_methodNamed Bd.named
  have hnm := (name_of_methodNamed Bd.named Bd.method).1
  have X0 : Stand p l e ({ frames := 0, cells := 0, slots := 0, locals := 0 } : Room) s m #[(.int p0)] below meth c s₁ [] 0 0 := Stand.of_body Bd
  have e0 : s₁.heap = h0 := by rw [← hh, Bd.state]; rfl
  have N0 := Fr.nil n0
  have K0 : Keep h0 h0 [] := Keep.refl _ _
  refine Go.enter (Q := Q_rm8 Z p0 h0 n0) (C := ({ frames := 0, cells := 0, slots := 0, locals := 0 } : Room).cells) (S := ({ frames := 0, cells := 0, slots := 0, locals := 0 } : Room).slots) (ef_rm8 m p0) ?_
  refine Go.step (fun _ zz => XS.iloadN X0.here hx rfl (hb hby d8_0) rfl zz) ?_
  show Go _ _ _ _ s₁ (mkF m 1 #[.val (.int p0)] [(.int p0)])
  refine Go.step (fun _ zz => XS.i2l X0.here hx rfl (hb hby d8_1) rfl zz) ?_
  show Go _ _ _ _ s₁ (mkF m 2 #[.val (.int p0)] [(.long (p0.toInt64))])
  refine Go.step (fun _ zz => X0.ldc2Long hx hown (mvT hZ (hw _ (List.mem_of_getElem? (i := 61) rfl))) (g := (mkF m 2 #[.val (.int p0)] [(.long (p0.toInt64))])) rfl (hb hby d8_2) _ zz) ?_
  show Go _ _ _ _ s₁ (mkF m 5 #[.val (.int p0)] [(.long (4294967295 : Int64)), (.long (p0.toInt64))])
  refine Go.step (fun _ zz => XS.land X0.here hx rfl (hb hby d8_5) rfl zz) ?_
  show Go _ _ _ _ s₁ (mkF m 6 #[.val (.int p0)] [(.long ((p0.toInt64) &&& (4294967295 : Int64)))])
  exact Go.retJ X0 hx Bd.returns (hb hby d8_6) Bd.notSynchronized (⟨congrArg (fun q => some (Value.long q)) (show own_f8 p0 = ((p0.toInt64) &&& (4294967295 : Int64)) from rfl).symm, N0, e0⟩) (by decide) (by decide)
theorem d9_0 : decode jdk_29_method_70_code 0 = .ok (.lload_n 0, 1) := by decide +kernel
theorem d9_1 : decode jdk_29_method_70_code 1 = .ok (.lload_n 2, 1) := by decide +kernel
theorem d9_2 : decode jdk_29_method_70_code 2 = .ok (.lcmp, 1) := by decide +kernel
theorem d9_3 : decode jdk_29_method_70_code 3 = .ok (.ifCond .gt 7, 3) := by decide +kernel
theorem d9_6 : decode jdk_29_method_70_code 6 = .ok (.lload_n 0, 1) := by decide +kernel
theorem d9_7 : decode jdk_29_method_70_code 7 = .ok (.goto 4, 3) := by decide +kernel
theorem d9_10 : decode jdk_29_method_70_code 10 = .ok (.lload_n 2, 1) := by decide +kernel
theorem d9_11 : decode jdk_29_method_70_code 11 = .ok (.lreturn, 1) := by decide +kernel
theorem ef_rm9 (m : MethodId) (x0 : Int64) (x1 : Int64) : entryFrame m #[(.long x0), (.long x1)] 4 = mkF m 0 #[.val (.long x0), .second, .val (.long x1), .second] [] := by first | (simp [entryFrame, mkF, argsToLocals, Value.category]; done) | rfl
def own_f9 (q0 : Int64) (q1 : Int64) : Int64 := (if q1 < q0 then q1 else q0)
def Q_rm9 (Z : State) (q0 : Int64) (q1 : Int64) (h0 : Heap) (n0 : Nat) (v : Option Value) (h : Heap) (L : List Loc) : Prop := v = some (Value.long (own_f9 q0 q1)) ∧ Fr n0 L ∧ h = h0
set_option maxRecDepth 65536 in
set_option maxHeartbeats 40000000 in
theorem rm9 (l : Launch) (Z : State) (a0 : Array Value) (hw : ∀ d ∈ tables_1, d.before a0 Z = true) (ws : List Jvm.Cond) (q0 : Int64) (q1 : Int64) (h0 : Heap) (n0 : Nat) (Z0 : n0 ≤ h0.size) :
    MetFree l (⟨"java/lang/Math", "min", "(JJ)J"⟩ : MethodName) (head1 (Jvm.Cond.code (⟨"java/lang/Math", "min", "(JJ)J"⟩ : MethodName) jdk_29_method_70_code 4 (some .long) :: ws) ({ frames := 0, cells := 0, slots := 0, locals := 0 } : Room)) (fun az Uz => az = #[(.long q0), (.long q1)] ∧ Z.Warmed39 Uz.vm ∧ Uz.heap = h0) (fun _ _ _ _ _ => True) (fun _ Uz oz Vz => ∃ vz Lz, oz = .returned vz ∧ Q_rm9 Z q0 q1 h0 n0 vz Vz.heap Lz ∧ FrameEnd Uz oz Vz Lz ({ frames := 0, cells := 0, slots := 0, locals := 0 } : Room).cells ({ frames := 0, cells := 0, slots := 0, locals := 0 } : Room).slots) := by
  refine MetFree.of_bodySF (Jvm.Free.JP.mathPlain rfl (by decide +kernel)) hisR ?_
  intro p e s m args below meth c s₁ Bd hml0 hP hK
  obtain ⟨rfl, hZ, hh⟩ := hP
  have hx := Bd.exec
  have hby := Bd.bytes
  have hml : c.maxLocals = 4 := hml0
  have hown : s.vm.findClass "java/lang/Math" = some m.cls := findClass_of_methodNamed Bd.named
  have hnm := (name_of_methodNamed Bd.named Bd.method).1
  have X0 : Stand p l e ({ frames := 0, cells := 0, slots := 0, locals := 0 } : Room) s m #[(.long q0), (.long q1)] below meth c s₁ [] 0 0 := Stand.of_body Bd
  have e0 : s₁.heap = h0 := by rw [← hh, Bd.state]; rfl
  have N0 := Fr.nil n0
  have K0 : Keep h0 h0 [] := Keep.refl _ _
  refine Go.enter (Q := Q_rm9 Z q0 q1 h0 n0) (C := ({ frames := 0, cells := 0, slots := 0, locals := 0 } : Room).cells) (S := ({ frames := 0, cells := 0, slots := 0, locals := 0 } : Room).slots) (ef_rm9 m q0 q1) ?_
  refine Go.step (fun _ zz => XS.lloadN X0.here hx rfl (hb hby d9_0) rfl zz) ?_
  show Go _ _ _ _ s₁ (mkF m 1 #[.val (.long q0), .second, .val (.long q1), .second] [(.long q0)])
  refine Go.step (fun _ zz => XS.lloadN X0.here hx rfl (hb hby d9_1) rfl zz) ?_
  show Go _ _ _ _ s₁ (mkF m 2 #[.val (.long q0), .second, .val (.long q1), .second] [(.long q1), (.long q0)])
  refine Go.step (fun _ zz => XS.lcmp X0.here hx rfl (hb hby d9_2) rfl zz) ?_
  show Go _ _ _ _ s₁ (mkF m 3 #[.val (.long q0), .second, .val (.long q1), .second] [(.int (lcmpW q0 q1))])
  by_cases hc3 : q1 < q0
  · refine Go.step (fun _ zz => XS.ifYes X0.here hx rfl (pc0 := 3) (pc' := 10) rfl (hb hby d9_3) rfl ((if0 _ _).trans (tlt ((lw_gt q0 q1).mpr hc3)).2.2.1) (by decide) (by decide) zz) ?_
    show Go _ _ _ _ s₁ (mkF m 10 #[.val (.long q0), .second, .val (.long q1), .second] [])
    refine Go.step (fun _ zz => XS.lloadN X0.here hx rfl (hb hby d9_10) rfl zz) ?_
    show Go _ _ _ _ s₁ (mkF m 11 #[.val (.long q0), .second, .val (.long q1), .second] [(.long q1)])
    exact Go.retJ X0 hx Bd.returns (hb hby d9_11) Bd.notSynchronized (⟨congrArg (fun q => some (Value.long q)) (show own_f9 q0 q1 = q1 from by unfold own_f9; rw [if_pos hc3]).symm, N0, e0⟩) (by decide) (by decide)
  · refine Go.step (fun _ zz => XS.ifNo X0.here hx rfl (hb hby d9_3) rfl ((if0 _ _).trans (flt (fun q => hc3 ((lw_gt q0 q1).mp q))).2.2.1) zz) ?_
    show Go _ _ _ _ s₁ (mkF m 6 #[.val (.long q0), .second, .val (.long q1), .second] [])
    refine Go.step (fun _ zz => XS.lloadN X0.here hx rfl (hb hby d9_6) rfl zz) ?_
    show Go _ _ _ _ s₁ (mkF m 7 #[.val (.long q0), .second, .val (.long q1), .second] [(.long q0)])
    refine Go.step (fun _ zz => XS.goto X0.here hx rfl (pc0 := 7) (pc' := 11) rfl (hb hby d9_7) (by decide) (by decide) zz) ?_
    show Go _ _ _ _ s₁ (mkF m 11 #[.val (.long q0), .second, .val (.long q1), .second] [(.long q0)])
    exact Go.retJ X0 hx Bd.returns (hb hby d9_11) Bd.notSynchronized (⟨congrArg (fun q => some (Value.long q)) (show own_f9 q0 q1 = q0 from by unfold own_f9; rw [if_neg hc3]).symm, N0, e0⟩) (by decide) (by decide)
theorem own_u1 : (own_f8 (1 : Int32)) = Int64.ofNat 1 := by decide +kernel
theorem own_end (n : Nat) (hn : n ≤ 8192) : ((own_f8 (1 : Int32)) + ((Int32.ofNat n).toInt64)) = Int64.ofNat (1 + n) := by
  rw [own_u1, own_up n (by omega), own_add64]
theorem own_pge : (((((((own_f8 (1 : Int32)).toUInt64 >>> ((16 : Int32) &&& 0x3f).toInt64.toUInt64).toInt64).toInt32) + (1 : Int32)).toInt64) <<< ((16 : Int32) &&& 0x3f).toInt64) = Int64.ofNat 65536 := by decide +kernel
theorem own_mf1 (n : Nat) (h1 : 1 ≤ n) (hn : n ≤ 8192) : (own_f8 (1 : Int32)) < ((own_f8 (1 : Int32)) + ((Int32.ofNat n).toInt64)) := by
  rw [own_end n hn, own_u1]
  exact (own_lt64 1 (1 + n) (by omega) (by omega)).mpr (by omega)
theorem own_mf2 (n : Nat) (hn : n ≤ 8192) : ¬ (own_f9 ((own_f8 (1 : Int32)) + ((Int32.ofNat n).toInt64)) (((((((own_f8 (1 : Int32)).toUInt64 >>> ((16 : Int32) &&& 0x3f).toInt64.toUInt64).toInt64).toInt32) + (1 : Int32)).toInt64) <<< ((16 : Int32) &&& 0x3f).toInt64)) < ((own_f8 (1 : Int32)) + ((Int32.ofNat n).toInt64)) := by
  rw [own_end n hn, own_pge]
  unfold own_f9
  rw [if_neg (fun q => absurd ((own_lt64 _ _ (by omega) (by omega)).mp q) (by omega))]
  exact fun q => absurd ((own_lt64 _ _ (by omega) (by omega)).mp q) (by omega)
theorem own_pd3 : parseMethodDescriptor "(I)J" = some ⟨[.int], some .long⟩ := by decide +kernel
theorem own_pd4 : parseMethodDescriptor "(JJ)J" = some ⟨[.long, .long], some .long⟩ := by decide +kernel
theorem d7_0 : decode prog_23_method_28_code 0 = .ok (.iload_n 1, 1) := by decide +kernel
theorem d7_1 : decode prog_23_method_28_code 1 = .ok (.invokestatic 80, 3) := by decide +kernel
theorem d7_4 : decode prog_23_method_28_code 4 = .ok (.lstore 4, 2) := by decide +kernel
theorem d7_6 : decode prog_23_method_28_code 6 = .ok (.lload 4, 2) := by decide +kernel
theorem d7_8 : decode prog_23_method_28_code 8 = .ok (.iload_n 2, 1) := by decide +kernel
theorem d7_9 : decode prog_23_method_28_code 9 = .ok (.i2l, 1) := by decide +kernel
theorem d7_10 : decode prog_23_method_28_code 10 = .ok (.ladd, 1) := by decide +kernel
theorem d7_11 : decode prog_23_method_28_code 11 = .ok (.lstore 6, 2) := by decide +kernel
theorem d7_13 : decode prog_23_method_28_code 13 = .ok (.lload 4, 2) := by decide +kernel
theorem d7_15 : decode prog_23_method_28_code 15 = .ok (.lload 6, 2) := by decide +kernel
theorem d7_17 : decode prog_23_method_28_code 17 = .ok (.lcmp, 1) := by decide +kernel
theorem d7_18 : decode prog_23_method_28_code 18 = .ok (.ifCond .ge 155, 3) := by decide +kernel
theorem d7_21 : decode prog_23_method_28_code 21 = .ok (.lload 4, 2) := by decide +kernel
theorem d7_23 : decode prog_23_method_28_code 23 = .ok (.bipush 16, 2) := by decide +kernel
theorem d7_25 : decode prog_23_method_28_code 25 = .ok (.lushr, 1) := by decide +kernel
theorem d7_26 : decode prog_23_method_28_code 26 = .ok (.l2i, 1) := by decide +kernel
theorem d7_27 : decode prog_23_method_28_code 27 = .ok (.istore 8, 2) := by decide +kernel
theorem d7_29 : decode prog_23_method_28_code 29 = .ok (.lload 6, 2) := by decide +kernel
theorem d7_31 : decode prog_23_method_28_code 31 = .ok (.iload 8, 2) := by decide +kernel
theorem d7_33 : decode prog_23_method_28_code 33 = .ok (.iconst 1, 1) := by decide +kernel
theorem d7_34 : decode prog_23_method_28_code 34 = .ok (.iadd, 1) := by decide +kernel
theorem d7_35 : decode prog_23_method_28_code 35 = .ok (.i2l, 1) := by decide +kernel
theorem d7_36 : decode prog_23_method_28_code 36 = .ok (.bipush 16, 2) := by decide +kernel
theorem d7_38 : decode prog_23_method_28_code 38 = .ok (.lshl, 1) := by decide +kernel
theorem d7_39 : decode prog_23_method_28_code 39 = .ok (.invokestatic 178, 3) := by decide +kernel
theorem d7_42 : decode prog_23_method_28_code 42 = .ok (.lstore 9, 2) := by decide +kernel
theorem d7_44 : decode prog_23_method_28_code 44 = .ok (.iload 8, 2) := by decide +kernel
theorem d7_46 : decode prog_23_method_28_code 46 = .ok (.aload_n 0, 1) := by decide +kernel
theorem d7_47 : decode prog_23_method_28_code 47 = .ok (.getfield 23, 3) := by decide +kernel
theorem d7_50 : decode prog_23_method_28_code 50 = .ok (.arraylength, 1) := by decide +kernel
theorem d7_51 : decode prog_23_method_28_code 51 = .ok (.if_icmp .ge 13, 3) := by decide +kernel
theorem d7_64 : decode prog_23_method_28_code 64 = .ok (.aconst_null, 1) := by decide +kernel
theorem d7_65 : decode prog_23_method_28_code 65 = .ok (.astore 11, 2) := by decide +kernel
theorem d7_67 : decode prog_23_method_28_code 67 = .ok (.aload 11, 2) := by decide +kernel
theorem d7_69 : decode prog_23_method_28_code 69 = .ok (.ifnull 97, 3) := by decide +kernel
theorem d7_166 : decode prog_23_method_28_code 166 = .ok (.lload 9, 2) := by decide +kernel
theorem d7_168 : decode prog_23_method_28_code 168 = .ok (.lstore 4, 2) := by decide +kernel
theorem d7_170 : decode prog_23_method_28_code 170 = .ok (.goto (-157), 3) := by decide +kernel
theorem d7_173 : decode prog_23_method_28_code 173 = .ok (.return_, 1) := by decide +kernel
theorem ef_rm_mf (m : MethodId) (x0 : Addr) (x1 : Int32) (x2 : Int32) (x3 : Int32) : entryFrame m #[(.ref x0), (.int x1), (.int x2), (.int x3)] 17 = mkF m 0 #[.val (.ref x0), .val (.int x1), .val (.int x2), .val (.int x3), .unset, .unset, .unset, .unset, .unset, .unset, .unset, .unset, .unset, .unset, .unset, .unset, .unset] [] := by first | (simp [entryFrame, mkF, argsToLocals, Value.category]; done) | rfl
def Q_rm_mf (Z : State) (r0 : Addr) (n : Nat) (fb : Addr) (kfb : ClassId) (h0 : Heap) (n0 : Nat) (v : Option Value) (h : Heap) (L : List Loc) : Prop := v = none ∧ Fr n0 L ∧ h = h0
set_option maxRecDepth 65536 in
set_option maxHeartbeats 40000000 in
theorem rm_mf (l : Launch) (Z : State) (a0 : Array Value) (hw : ∀ d ∈ tables_1, d.before a0 Z = true) (ws : List Jvm.Cond) (r0 : Addr) (n : Nat) (fb : Addr) (kfb : ClassId) (h0 : Heap) (n0 : Nat) (Z0 : n0 ≤ h0.size) (hn1 : 1 ≤ n) (hn : n ≤ 8192) (F_fb : Fld Z h0 r0 "rowpack/growable/IntSpace" "freeBits" "[[J" (.ref fb)) (V_fb : Arv Z h0 fb kfb (.array .long) (0 : Int32) [] .null) :
    MetFree l (⟨"rowpack/growable/IntSpace", "markFree", "(IIZ)V"⟩ : MethodName) (head1 (Jvm.Cond.code (⟨"rowpack/growable/IntSpace", "markFree", "(IIZ)V"⟩ : MethodName) prog_23_method_28_code 17 none :: ws) ({ frames := 1, cells := 0, slots := 0, locals := 15 } : Room)) (fun az Uz => az = #[(.ref r0), (.int (1 : Int32)), (.int (Int32.ofNat n)), (.int (0 : Int32))] ∧ Z.Warmed39 Uz.vm ∧ Uz.heap = h0) (fun _ _ _ _ _ => True) (fun _ Uz oz Vz => ∃ vz Lz, oz = .returned vz ∧ Q_rm_mf Z r0 n fb kfb h0 n0 vz Vz.heap Lz ∧ FrameEnd Uz oz Vz Lz ({ frames := 1, cells := 0, slots := 0, locals := 15 } : Room).cells ({ frames := 1, cells := 0, slots := 0, locals := 15 } : Room).slots) := by
  refine MetFree.of_bodySF (plainFor_of_name own_pn0) hisR ?_
  intro p e s m args below meth c s₁ Bd hml0 hP hK
  obtain ⟨rfl, hZ, hh⟩ := hP
  have hx := Bd.exec
  have hby := Bd.bytes
  have hml : c.maxLocals = 17 := hml0
  have hown : s.vm.findClass "rowpack/growable/IntSpace" = some m.cls := findClass_of_methodNamed Bd.named
  have hnm := (name_of_methodNamed Bd.named Bd.method).1
  have X0 : Stand p l e ({ frames := 1, cells := 0, slots := 0, locals := 15 } : Room) s m #[(.ref r0), (.int (1 : Int32)), (.int (Int32.ofNat n)), (.int (0 : Int32))] below meth c s₁ [] 0 0 := Stand.of_body Bd
  have e0 : s₁.heap = h0 := by rw [← hh, Bd.state]; rfl
  have N0 := Fr.nil n0
  have K0 : Keep h0 h0 [] := Keep.refl _ _
  refine Go.enter (Q := Q_rm_mf Z r0 n fb kfb h0 n0) (C := ({ frames := 1, cells := 0, slots := 0, locals := 15 } : Room).cells) (S := ({ frames := 1, cells := 0, slots := 0, locals := 15 } : Room).slots) (ef_rm_mf m r0 (1 : Int32) (Int32.ofNat n) (0 : Int32)) ?_
  refine Go.step (fun _ zz => XS.iloadN X0.here hx rfl (hb hby d7_0) rfl zz) ?_
  show Go _ _ _ _ s₁ (mkF m 1 #[.val (.ref r0), .val (.int (1 : Int32)), .val (.int (Int32.ofNat n)), .val (.int (0 : Int32)), .unset, .unset, .unset, .unset, .unset, .unset, .unset, .unset, .unset, .unset, .unset, .unset, .unset] [(.int (1 : Int32))])
  obtain ⟨_, _, ⟨T1, L1, k1, n1⟩, -, X1, ⟨Lc1, hQ1, l1, y1, z1⟩, st1⟩ := Jvm.LawKit.callS X0 hx (y := (⟨"java/lang/Integer", "toUnsignedLong", "(I)J"⟩ : MethodName)) hown (mvT hZ (hw _ (List.mem_of_getElem? (i := 57) rfl))) (mvT hZ (hw _ (List.mem_of_getElem? (i := 58) rfl))) (mvT hZ (hw _ (List.mem_of_getElem? (i := 59) rfl))) (mvT hZ (hw _ (List.mem_of_getElem? (i := 60) rfl))) (by decide) (backOf (W := 0) (rm8 l Z a0 hw [] (1 : Int32) h0 n0 Z0) hZ (hw _ (List.mem_of_getElem? (i := 60) rfl)) (hw _ (List.mem_of_getElem? (i := 59) rfl)) (by decide) (by decide)) (g := (mkF m 1 #[.val (.ref r0), .val (.int (1 : Int32)), .val (.int (Int32.ofNat n)), .val (.int (0 : Int32)), .unset, .unset, .unset, .unset, .unset, .unset, .unset, .unset, .unset, .unset, .unset, .unset, .unset] [(.int (1 : Int32))])) rfl (by rw [hml]; rfl) (argsL := [(.int (1 : Int32))]) (rest := []) (lenOf own_pd3 rfl) rfl (by show 2 * 0 + _ ≤ _; exact Nat.le_of_eq rfl) (hb hby d7_1) (fun _ _ => ⟨rfl, e0, (by decide : 0 + 0 ≤ _), (by decide : 0 + 0 ≤ _)⟩)
  dsimp only [Pt.U, Pt.locs, Pt.cells, Pt.slots] at X1 l1 y1 z1 st1 hQ1
  subst l1 y1 z1
  obtain ⟨rfl, N1q, e1⟩ := hQ1
  have N1 := Fr.app N0 N1q
  refine Go.step st1 ?_
  show Go _ _ _ _ T1 (mkF m 4 #[.val (.ref r0), .val (.int (1 : Int32)), .val (.int (Int32.ofNat n)), .val (.int (0 : Int32)), .unset, .unset, .unset, .unset, .unset, .unset, .unset, .unset, .unset, .unset, .unset, .unset, .unset] [(.long (own_f8 (1 : Int32)))])
  refine Go.step (fun _ zz => XS.lstore X1.here hx rfl (hb hby d7_4) rfl (l' := #[.val (.ref r0), .val (.int (1 : Int32)), .val (.int (Int32.ofNat n)), .val (.int (0 : Int32)), .val (.long (own_f8 (1 : Int32))), .second, .unset, .unset, .unset, .unset, .unset, .unset, .unset, .unset, .unset, .unset, .unset]) rfl zz) ?_
  show Go _ _ _ _ T1 (mkF m 6 #[.val (.ref r0), .val (.int (1 : Int32)), .val (.int (Int32.ofNat n)), .val (.int (0 : Int32)), .val (.long (own_f8 (1 : Int32))), .second, .unset, .unset, .unset, .unset, .unset, .unset, .unset, .unset, .unset, .unset, .unset] [])
  refine Go.step (fun _ zz => XS.lload X1.here hx rfl (hb hby d7_6) rfl zz) ?_
  show Go _ _ _ _ T1 (mkF m 8 #[.val (.ref r0), .val (.int (1 : Int32)), .val (.int (Int32.ofNat n)), .val (.int (0 : Int32)), .val (.long (own_f8 (1 : Int32))), .second, .unset, .unset, .unset, .unset, .unset, .unset, .unset, .unset, .unset, .unset, .unset] [(.long (own_f8 (1 : Int32)))])
  refine Go.step (fun _ zz => XS.iloadN X1.here hx rfl (hb hby d7_8) rfl zz) ?_
  show Go _ _ _ _ T1 (mkF m 9 #[.val (.ref r0), .val (.int (1 : Int32)), .val (.int (Int32.ofNat n)), .val (.int (0 : Int32)), .val (.long (own_f8 (1 : Int32))), .second, .unset, .unset, .unset, .unset, .unset, .unset, .unset, .unset, .unset, .unset, .unset] [(.int (Int32.ofNat n)), (.long (own_f8 (1 : Int32)))])
  refine Go.step (fun _ zz => XS.i2l X1.here hx rfl (hb hby d7_9) rfl zz) ?_
  show Go _ _ _ _ T1 (mkF m 10 #[.val (.ref r0), .val (.int (1 : Int32)), .val (.int (Int32.ofNat n)), .val (.int (0 : Int32)), .val (.long (own_f8 (1 : Int32))), .second, .unset, .unset, .unset, .unset, .unset, .unset, .unset, .unset, .unset, .unset, .unset] [(.long ((Int32.ofNat n).toInt64)), (.long (own_f8 (1 : Int32)))])
  refine Go.step (fun _ zz => XS.ladd X1.here hx rfl (hb hby d7_10) rfl zz) ?_
  show Go _ _ _ _ T1 (mkF m 11 #[.val (.ref r0), .val (.int (1 : Int32)), .val (.int (Int32.ofNat n)), .val (.int (0 : Int32)), .val (.long (own_f8 (1 : Int32))), .second, .unset, .unset, .unset, .unset, .unset, .unset, .unset, .unset, .unset, .unset, .unset] [(.long ((own_f8 (1 : Int32)) + ((Int32.ofNat n).toInt64)))])
  refine Go.step (fun _ zz => XS.lstore X1.here hx rfl (hb hby d7_11) rfl (l' := #[.val (.ref r0), .val (.int (1 : Int32)), .val (.int (Int32.ofNat n)), .val (.int (0 : Int32)), .val (.long (own_f8 (1 : Int32))), .second, .val (.long ((own_f8 (1 : Int32)) + ((Int32.ofNat n).toInt64))), .second, .unset, .unset, .unset, .unset, .unset, .unset, .unset, .unset, .unset]) rfl zz) ?_
  show Go _ _ _ _ T1 (mkF m 13 #[.val (.ref r0), .val (.int (1 : Int32)), .val (.int (Int32.ofNat n)), .val (.int (0 : Int32)), .val (.long (own_f8 (1 : Int32))), .second, .val (.long ((own_f8 (1 : Int32)) + ((Int32.ofNat n).toInt64))), .second, .unset, .unset, .unset, .unset, .unset, .unset, .unset, .unset, .unset] [])
  refine Go.step (fun _ zz => XS.lload X1.here hx rfl (hb hby d7_13) rfl zz) ?_
  show Go _ _ _ _ T1 (mkF m 15 #[.val (.ref r0), .val (.int (1 : Int32)), .val (.int (Int32.ofNat n)), .val (.int (0 : Int32)), .val (.long (own_f8 (1 : Int32))), .second, .val (.long ((own_f8 (1 : Int32)) + ((Int32.ofNat n).toInt64))), .second, .unset, .unset, .unset, .unset, .unset, .unset, .unset, .unset, .unset] [(.long (own_f8 (1 : Int32)))])
  refine Go.step (fun _ zz => XS.lload X1.here hx rfl (hb hby d7_15) rfl zz) ?_
  show Go _ _ _ _ T1 (mkF m 17 #[.val (.ref r0), .val (.int (1 : Int32)), .val (.int (Int32.ofNat n)), .val (.int (0 : Int32)), .val (.long (own_f8 (1 : Int32))), .second, .val (.long ((own_f8 (1 : Int32)) + ((Int32.ofNat n).toInt64))), .second, .unset, .unset, .unset, .unset, .unset, .unset, .unset, .unset, .unset] [(.long ((own_f8 (1 : Int32)) + ((Int32.ofNat n).toInt64))), (.long (own_f8 (1 : Int32)))])
  refine Go.step (fun _ zz => XS.lcmp X1.here hx rfl (hb hby d7_17) rfl zz) ?_
  show Go _ _ _ _ T1 (mkF m 18 #[.val (.ref r0), .val (.int (1 : Int32)), .val (.int (Int32.ofNat n)), .val (.int (0 : Int32)), .val (.long (own_f8 (1 : Int32))), .second, .val (.long ((own_f8 (1 : Int32)) + ((Int32.ofNat n).toInt64))), .second, .unset, .unset, .unset, .unset, .unset, .unset, .unset, .unset, .unset] [(.int (lcmpW (own_f8 (1 : Int32)) ((own_f8 (1 : Int32)) + ((Int32.ofNat n).toInt64))))])
  refine Go.step (fun _ zz => XS.ifNo X1.here hx rfl (hb hby d7_18) rfl ((if0 _ _).trans (tlt ((lw_lt (own_f8 (1 : Int32)) ((own_f8 (1 : Int32)) + ((Int32.ofNat n).toInt64))).mpr (own_mf1 n hn1 hn))).2.1) zz) ?_
  show Go _ _ _ _ T1 (mkF m 21 #[.val (.ref r0), .val (.int (1 : Int32)), .val (.int (Int32.ofNat n)), .val (.int (0 : Int32)), .val (.long (own_f8 (1 : Int32))), .second, .val (.long ((own_f8 (1 : Int32)) + ((Int32.ofNat n).toInt64))), .second, .unset, .unset, .unset, .unset, .unset, .unset, .unset, .unset, .unset] [])
  refine Go.step (fun _ zz => XS.lload X1.here hx rfl (hb hby d7_21) rfl zz) ?_
  show Go _ _ _ _ T1 (mkF m 23 #[.val (.ref r0), .val (.int (1 : Int32)), .val (.int (Int32.ofNat n)), .val (.int (0 : Int32)), .val (.long (own_f8 (1 : Int32))), .second, .val (.long ((own_f8 (1 : Int32)) + ((Int32.ofNat n).toInt64))), .second, .unset, .unset, .unset, .unset, .unset, .unset, .unset, .unset, .unset] [(.long (own_f8 (1 : Int32)))])
  refine Go.step (fun _ zz => XS.bipush X1.here hx rfl (hb hby d7_23) zz) ?_
  show Go _ _ _ _ T1 (mkF m 25 #[.val (.ref r0), .val (.int (1 : Int32)), .val (.int (Int32.ofNat n)), .val (.int (0 : Int32)), .val (.long (own_f8 (1 : Int32))), .second, .val (.long ((own_f8 (1 : Int32)) + ((Int32.ofNat n).toInt64))), .second, .unset, .unset, .unset, .unset, .unset, .unset, .unset, .unset, .unset] [(.int (16 : Int32)), (.long (own_f8 (1 : Int32)))])
  refine Go.step (fun _ zz => XS.lushr X1.here hx rfl (hb hby d7_25) rfl zz) ?_
  show Go _ _ _ _ T1 (mkF m 26 #[.val (.ref r0), .val (.int (1 : Int32)), .val (.int (Int32.ofNat n)), .val (.int (0 : Int32)), .val (.long (own_f8 (1 : Int32))), .second, .val (.long ((own_f8 (1 : Int32)) + ((Int32.ofNat n).toInt64))), .second, .unset, .unset, .unset, .unset, .unset, .unset, .unset, .unset, .unset] [(.long (((own_f8 (1 : Int32)).toUInt64 >>> ((16 : Int32) &&& 0x3f).toInt64.toUInt64).toInt64))])
  refine Go.step (fun _ zz => XS.l2i X1.here hx rfl (hb hby d7_26) rfl zz) ?_
  show Go _ _ _ _ T1 (mkF m 27 #[.val (.ref r0), .val (.int (1 : Int32)), .val (.int (Int32.ofNat n)), .val (.int (0 : Int32)), .val (.long (own_f8 (1 : Int32))), .second, .val (.long ((own_f8 (1 : Int32)) + ((Int32.ofNat n).toInt64))), .second, .unset, .unset, .unset, .unset, .unset, .unset, .unset, .unset, .unset] [(.int ((((own_f8 (1 : Int32)).toUInt64 >>> ((16 : Int32) &&& 0x3f).toInt64.toUInt64).toInt64).toInt32))])
  refine Go.step (fun _ zz => XS.istore X1.here hx rfl (hb hby d7_27) rfl (l' := #[.val (.ref r0), .val (.int (1 : Int32)), .val (.int (Int32.ofNat n)), .val (.int (0 : Int32)), .val (.long (own_f8 (1 : Int32))), .second, .val (.long ((own_f8 (1 : Int32)) + ((Int32.ofNat n).toInt64))), .second, .val (.int ((((own_f8 (1 : Int32)).toUInt64 >>> ((16 : Int32) &&& 0x3f).toInt64.toUInt64).toInt64).toInt32)), .unset, .unset, .unset, .unset, .unset, .unset, .unset, .unset]) rfl zz) ?_
  show Go _ _ _ _ T1 (mkF m 29 #[.val (.ref r0), .val (.int (1 : Int32)), .val (.int (Int32.ofNat n)), .val (.int (0 : Int32)), .val (.long (own_f8 (1 : Int32))), .second, .val (.long ((own_f8 (1 : Int32)) + ((Int32.ofNat n).toInt64))), .second, .val (.int ((((own_f8 (1 : Int32)).toUInt64 >>> ((16 : Int32) &&& 0x3f).toInt64.toUInt64).toInt64).toInt32)), .unset, .unset, .unset, .unset, .unset, .unset, .unset, .unset] [])
  refine Go.step (fun _ zz => XS.lload X1.here hx rfl (hb hby d7_29) rfl zz) ?_
  show Go _ _ _ _ T1 (mkF m 31 #[.val (.ref r0), .val (.int (1 : Int32)), .val (.int (Int32.ofNat n)), .val (.int (0 : Int32)), .val (.long (own_f8 (1 : Int32))), .second, .val (.long ((own_f8 (1 : Int32)) + ((Int32.ofNat n).toInt64))), .second, .val (.int ((((own_f8 (1 : Int32)).toUInt64 >>> ((16 : Int32) &&& 0x3f).toInt64.toUInt64).toInt64).toInt32)), .unset, .unset, .unset, .unset, .unset, .unset, .unset, .unset] [(.long ((own_f8 (1 : Int32)) + ((Int32.ofNat n).toInt64)))])
  refine Go.step (fun _ zz => XS.iload X1.here hx rfl (hb hby d7_31) rfl zz) ?_
  show Go _ _ _ _ T1 (mkF m 33 #[.val (.ref r0), .val (.int (1 : Int32)), .val (.int (Int32.ofNat n)), .val (.int (0 : Int32)), .val (.long (own_f8 (1 : Int32))), .second, .val (.long ((own_f8 (1 : Int32)) + ((Int32.ofNat n).toInt64))), .second, .val (.int ((((own_f8 (1 : Int32)).toUInt64 >>> ((16 : Int32) &&& 0x3f).toInt64.toUInt64).toInt64).toInt32)), .unset, .unset, .unset, .unset, .unset, .unset, .unset, .unset] [(.int ((((own_f8 (1 : Int32)).toUInt64 >>> ((16 : Int32) &&& 0x3f).toInt64.toUInt64).toInt64).toInt32)), (.long ((own_f8 (1 : Int32)) + ((Int32.ofNat n).toInt64)))])
  refine Go.step (fun _ zz => XS.iconst X1.here hx rfl (hb hby d7_33) zz) ?_
  show Go _ _ _ _ T1 (mkF m 34 #[.val (.ref r0), .val (.int (1 : Int32)), .val (.int (Int32.ofNat n)), .val (.int (0 : Int32)), .val (.long (own_f8 (1 : Int32))), .second, .val (.long ((own_f8 (1 : Int32)) + ((Int32.ofNat n).toInt64))), .second, .val (.int ((((own_f8 (1 : Int32)).toUInt64 >>> ((16 : Int32) &&& 0x3f).toInt64.toUInt64).toInt64).toInt32)), .unset, .unset, .unset, .unset, .unset, .unset, .unset, .unset] [(.int (1 : Int32)), (.int ((((own_f8 (1 : Int32)).toUInt64 >>> ((16 : Int32) &&& 0x3f).toInt64.toUInt64).toInt64).toInt32)), (.long ((own_f8 (1 : Int32)) + ((Int32.ofNat n).toInt64)))])
  refine Go.step (fun _ zz => XS.iadd X1.here hx rfl (hb hby d7_34) rfl zz) ?_
  show Go _ _ _ _ T1 (mkF m 35 #[.val (.ref r0), .val (.int (1 : Int32)), .val (.int (Int32.ofNat n)), .val (.int (0 : Int32)), .val (.long (own_f8 (1 : Int32))), .second, .val (.long ((own_f8 (1 : Int32)) + ((Int32.ofNat n).toInt64))), .second, .val (.int ((((own_f8 (1 : Int32)).toUInt64 >>> ((16 : Int32) &&& 0x3f).toInt64.toUInt64).toInt64).toInt32)), .unset, .unset, .unset, .unset, .unset, .unset, .unset, .unset] [(.int (((((own_f8 (1 : Int32)).toUInt64 >>> ((16 : Int32) &&& 0x3f).toInt64.toUInt64).toInt64).toInt32) + (1 : Int32))), (.long ((own_f8 (1 : Int32)) + ((Int32.ofNat n).toInt64)))])
  refine Go.step (fun _ zz => XS.i2l X1.here hx rfl (hb hby d7_35) rfl zz) ?_
  show Go _ _ _ _ T1 (mkF m 36 #[.val (.ref r0), .val (.int (1 : Int32)), .val (.int (Int32.ofNat n)), .val (.int (0 : Int32)), .val (.long (own_f8 (1 : Int32))), .second, .val (.long ((own_f8 (1 : Int32)) + ((Int32.ofNat n).toInt64))), .second, .val (.int ((((own_f8 (1 : Int32)).toUInt64 >>> ((16 : Int32) &&& 0x3f).toInt64.toUInt64).toInt64).toInt32)), .unset, .unset, .unset, .unset, .unset, .unset, .unset, .unset] [(.long ((((((own_f8 (1 : Int32)).toUInt64 >>> ((16 : Int32) &&& 0x3f).toInt64.toUInt64).toInt64).toInt32) + (1 : Int32)).toInt64)), (.long ((own_f8 (1 : Int32)) + ((Int32.ofNat n).toInt64)))])
  refine Go.step (fun _ zz => XS.bipush X1.here hx rfl (hb hby d7_36) zz) ?_
  show Go _ _ _ _ T1 (mkF m 38 #[.val (.ref r0), .val (.int (1 : Int32)), .val (.int (Int32.ofNat n)), .val (.int (0 : Int32)), .val (.long (own_f8 (1 : Int32))), .second, .val (.long ((own_f8 (1 : Int32)) + ((Int32.ofNat n).toInt64))), .second, .val (.int ((((own_f8 (1 : Int32)).toUInt64 >>> ((16 : Int32) &&& 0x3f).toInt64.toUInt64).toInt64).toInt32)), .unset, .unset, .unset, .unset, .unset, .unset, .unset, .unset] [(.int (16 : Int32)), (.long ((((((own_f8 (1 : Int32)).toUInt64 >>> ((16 : Int32) &&& 0x3f).toInt64.toUInt64).toInt64).toInt32) + (1 : Int32)).toInt64)), (.long ((own_f8 (1 : Int32)) + ((Int32.ofNat n).toInt64)))])
  refine Go.step (fun _ zz => XS.lshl X1.here hx rfl (hb hby d7_38) rfl zz) ?_
  show Go _ _ _ _ T1 (mkF m 39 #[.val (.ref r0), .val (.int (1 : Int32)), .val (.int (Int32.ofNat n)), .val (.int (0 : Int32)), .val (.long (own_f8 (1 : Int32))), .second, .val (.long ((own_f8 (1 : Int32)) + ((Int32.ofNat n).toInt64))), .second, .val (.int ((((own_f8 (1 : Int32)).toUInt64 >>> ((16 : Int32) &&& 0x3f).toInt64.toUInt64).toInt64).toInt32)), .unset, .unset, .unset, .unset, .unset, .unset, .unset, .unset] [(.long (((((((own_f8 (1 : Int32)).toUInt64 >>> ((16 : Int32) &&& 0x3f).toInt64.toUInt64).toInt64).toInt32) + (1 : Int32)).toInt64) <<< ((16 : Int32) &&& 0x3f).toInt64)), (.long ((own_f8 (1 : Int32)) + ((Int32.ofNat n).toInt64)))])
  obtain ⟨_, _, ⟨T2, L2, k2, n2⟩, -, X2, ⟨Lc2, hQ2, l2, y2, z2⟩, st2⟩ := Jvm.LawKit.callS X1 hx (y := (⟨"java/lang/Math", "min", "(JJ)J"⟩ : MethodName)) hown (mvT hZ (hw _ (List.mem_of_getElem? (i := 62) rfl))) (mvT hZ (hw _ (List.mem_of_getElem? (i := 63) rfl))) (mvT hZ (hw _ (List.mem_of_getElem? (i := 64) rfl))) (mvT hZ (hw _ (List.mem_of_getElem? (i := 65) rfl))) (by decide) (backOf (W := 0) (rm9 l Z a0 hw [] ((own_f8 (1 : Int32)) + ((Int32.ofNat n).toInt64)) (((((((own_f8 (1 : Int32)).toUInt64 >>> ((16 : Int32) &&& 0x3f).toInt64.toUInt64).toInt64).toInt32) + (1 : Int32)).toInt64) <<< ((16 : Int32) &&& 0x3f).toInt64) h0 n0 Z0) hZ (hw _ (List.mem_of_getElem? (i := 65) rfl)) (hw _ (List.mem_of_getElem? (i := 64) rfl)) (by decide) (by decide)) (g := (mkF m 39 #[.val (.ref r0), .val (.int (1 : Int32)), .val (.int (Int32.ofNat n)), .val (.int (0 : Int32)), .val (.long (own_f8 (1 : Int32))), .second, .val (.long ((own_f8 (1 : Int32)) + ((Int32.ofNat n).toInt64))), .second, .val (.int ((((own_f8 (1 : Int32)).toUInt64 >>> ((16 : Int32) &&& 0x3f).toInt64.toUInt64).toInt64).toInt32)), .unset, .unset, .unset, .unset, .unset, .unset, .unset, .unset] [(.long (((((((own_f8 (1 : Int32)).toUInt64 >>> ((16 : Int32) &&& 0x3f).toInt64.toUInt64).toInt64).toInt32) + (1 : Int32)).toInt64) <<< ((16 : Int32) &&& 0x3f).toInt64)), (.long ((own_f8 (1 : Int32)) + ((Int32.ofNat n).toInt64)))])) rfl (by rw [hml]; rfl) (argsL := [(.long ((own_f8 (1 : Int32)) + ((Int32.ofNat n).toInt64))), (.long (((((((own_f8 (1 : Int32)).toUInt64 >>> ((16 : Int32) &&& 0x3f).toInt64.toUInt64).toInt64).toInt32) + (1 : Int32)).toInt64) <<< ((16 : Int32) &&& 0x3f).toInt64))]) (rest := []) (lenOf own_pd4 rfl) rfl (by show 2 * 0 + _ ≤ _; exact Nat.le_of_eq rfl) (hb hby d7_39) (fun _ _ => ⟨rfl, e1, (by decide : 0 + 0 ≤ _), (by decide : 0 + 0 ≤ _)⟩)
  dsimp only [Pt.U, Pt.locs, Pt.cells, Pt.slots] at X2 l2 y2 z2 st2 hQ2
  subst l2 y2 z2
  obtain ⟨rfl, N2q, e2⟩ := hQ2
  have N2 := Fr.app N1 N2q
  refine Go.step st2 ?_
  show Go _ _ _ _ T2 (mkF m 42 #[.val (.ref r0), .val (.int (1 : Int32)), .val (.int (Int32.ofNat n)), .val (.int (0 : Int32)), .val (.long (own_f8 (1 : Int32))), .second, .val (.long ((own_f8 (1 : Int32)) + ((Int32.ofNat n).toInt64))), .second, .val (.int ((((own_f8 (1 : Int32)).toUInt64 >>> ((16 : Int32) &&& 0x3f).toInt64.toUInt64).toInt64).toInt32)), .unset, .unset, .unset, .unset, .unset, .unset, .unset, .unset] [(.long (own_f9 ((own_f8 (1 : Int32)) + ((Int32.ofNat n).toInt64)) (((((((own_f8 (1 : Int32)).toUInt64 >>> ((16 : Int32) &&& 0x3f).toInt64.toUInt64).toInt64).toInt32) + (1 : Int32)).toInt64) <<< ((16 : Int32) &&& 0x3f).toInt64)))])
  refine Go.step (fun _ zz => XS.lstore X2.here hx rfl (hb hby d7_42) rfl (l' := #[.val (.ref r0), .val (.int (1 : Int32)), .val (.int (Int32.ofNat n)), .val (.int (0 : Int32)), .val (.long (own_f8 (1 : Int32))), .second, .val (.long ((own_f8 (1 : Int32)) + ((Int32.ofNat n).toInt64))), .second, .val (.int ((((own_f8 (1 : Int32)).toUInt64 >>> ((16 : Int32) &&& 0x3f).toInt64.toUInt64).toInt64).toInt32)), .val (.long (own_f9 ((own_f8 (1 : Int32)) + ((Int32.ofNat n).toInt64)) (((((((own_f8 (1 : Int32)).toUInt64 >>> ((16 : Int32) &&& 0x3f).toInt64.toUInt64).toInt64).toInt32) + (1 : Int32)).toInt64) <<< ((16 : Int32) &&& 0x3f).toInt64))), .second, .unset, .unset, .unset, .unset, .unset, .unset]) rfl zz) ?_
  show Go _ _ _ _ T2 (mkF m 44 #[.val (.ref r0), .val (.int (1 : Int32)), .val (.int (Int32.ofNat n)), .val (.int (0 : Int32)), .val (.long (own_f8 (1 : Int32))), .second, .val (.long ((own_f8 (1 : Int32)) + ((Int32.ofNat n).toInt64))), .second, .val (.int ((((own_f8 (1 : Int32)).toUInt64 >>> ((16 : Int32) &&& 0x3f).toInt64.toUInt64).toInt64).toInt32)), .val (.long (own_f9 ((own_f8 (1 : Int32)) + ((Int32.ofNat n).toInt64)) (((((((own_f8 (1 : Int32)).toUInt64 >>> ((16 : Int32) &&& 0x3f).toInt64.toUInt64).toInt64).toInt32) + (1 : Int32)).toInt64) <<< ((16 : Int32) &&& 0x3f).toInt64))), .second, .unset, .unset, .unset, .unset, .unset, .unset] [])
  refine Go.step (fun _ zz => XS.iload X2.here hx rfl (hb hby d7_44) rfl zz) ?_
  show Go _ _ _ _ T2 (mkF m 46 #[.val (.ref r0), .val (.int (1 : Int32)), .val (.int (Int32.ofNat n)), .val (.int (0 : Int32)), .val (.long (own_f8 (1 : Int32))), .second, .val (.long ((own_f8 (1 : Int32)) + ((Int32.ofNat n).toInt64))), .second, .val (.int ((((own_f8 (1 : Int32)).toUInt64 >>> ((16 : Int32) &&& 0x3f).toInt64.toUInt64).toInt64).toInt32)), .val (.long (own_f9 ((own_f8 (1 : Int32)) + ((Int32.ofNat n).toInt64)) (((((((own_f8 (1 : Int32)).toUInt64 >>> ((16 : Int32) &&& 0x3f).toInt64.toUInt64).toInt64).toInt32) + (1 : Int32)).toInt64) <<< ((16 : Int32) &&& 0x3f).toInt64))), .second, .unset, .unset, .unset, .unset, .unset, .unset] [(.int ((((own_f8 (1 : Int32)).toUInt64 >>> ((16 : Int32) &&& 0x3f).toInt64.toUInt64).toInt64).toInt32))])
  refine Go.step (fun _ zz => XS.aloadN X2.here hx rfl (hb hby d7_46) rfl rfl zz) ?_
  show Go _ _ _ _ T2 (mkF m 47 #[.val (.ref r0), .val (.int (1 : Int32)), .val (.int (Int32.ofNat n)), .val (.int (0 : Int32)), .val (.long (own_f8 (1 : Int32))), .second, .val (.long ((own_f8 (1 : Int32)) + ((Int32.ofNat n).toInt64))), .second, .val (.int ((((own_f8 (1 : Int32)).toUInt64 >>> ((16 : Int32) &&& 0x3f).toInt64.toUInt64).toInt64).toInt32)), .val (.long (own_f9 ((own_f8 (1 : Int32)) + ((Int32.ofNat n).toInt64)) (((((((own_f8 (1 : Int32)).toUInt64 >>> ((16 : Int32) &&& 0x3f).toInt64.toUInt64).toInt64).toInt32) + (1 : Int32)).toInt64) <<< ((16 : Int32) &&& 0x3f).toInt64))), .second, .unset, .unset, .unset, .unset, .unset, .unset] [(.ref r0), (.int ((((own_f8 (1 : Int32)).toUInt64 >>> ((16 : Int32) &&& 0x3f).toInt64.toUInt64).toInt64).toInt32))])
  obtain ⟨T3, X3, e3, st3⟩ := getF X2 hx hZ hown (host := "") (Or.inl (hw _ (List.mem_of_getElem? (i := 19) rfl))) Via.refl e2 F_fb (g := (mkF m 47 #[.val (.ref r0), .val (.int (1 : Int32)), .val (.int (Int32.ofNat n)), .val (.int (0 : Int32)), .val (.long (own_f8 (1 : Int32))), .second, .val (.long ((own_f8 (1 : Int32)) + ((Int32.ofNat n).toInt64))), .second, .val (.int ((((own_f8 (1 : Int32)).toUInt64 >>> ((16 : Int32) &&& 0x3f).toInt64.toUInt64).toInt64).toInt32)), .val (.long (own_f9 ((own_f8 (1 : Int32)) + ((Int32.ofNat n).toInt64)) (((((((own_f8 (1 : Int32)).toUInt64 >>> ((16 : Int32) &&& 0x3f).toInt64.toUInt64).toInt64).toInt32) + (1 : Int32)).toInt64) <<< ((16 : Int32) &&& 0x3f).toInt64))), .second, .unset, .unset, .unset, .unset, .unset, .unset] [(.ref r0), (.int ((((own_f8 (1 : Int32)).toUInt64 >>> ((16 : Int32) &&& 0x3f).toInt64.toUInt64).toInt64).toInt32))])) rfl rfl (hb hby d7_47)
  refine Go.step st3 ?_
  show Go _ _ _ _ T3 (mkF m 50 #[.val (.ref r0), .val (.int (1 : Int32)), .val (.int (Int32.ofNat n)), .val (.int (0 : Int32)), .val (.long (own_f8 (1 : Int32))), .second, .val (.long ((own_f8 (1 : Int32)) + ((Int32.ofNat n).toInt64))), .second, .val (.int ((((own_f8 (1 : Int32)).toUInt64 >>> ((16 : Int32) &&& 0x3f).toInt64.toUInt64).toInt64).toInt32)), .val (.long (own_f9 ((own_f8 (1 : Int32)) + ((Int32.ofNat n).toInt64)) (((((((own_f8 (1 : Int32)).toUInt64 >>> ((16 : Int32) &&& 0x3f).toInt64.toUInt64).toInt64).toInt32) + (1 : Int32)).toInt64) <<< ((16 : Int32) &&& 0x3f).toInt64))), .second, .unset, .unset, .unset, .unset, .unset, .unset] [(.ref fb), (.int ((((own_f8 (1 : Int32)).toUInt64 >>> ((16 : Int32) &&& 0x3f).toInt64.toUInt64).toInt64).toInt32))])
  obtain ⟨c4, Ar4, q4, S4, M4, H4, G4⟩ := id V_fb
  refine Go.step (fun _ zz => X3.arraylength hx (by rw [e3]; exact Ar4.1) (State.isArrayOf_alike hZ.alike Ar4.2.1) (g := (mkF m 50 #[.val (.ref r0), .val (.int (1 : Int32)), .val (.int (Int32.ofNat n)), .val (.int (0 : Int32)), .val (.long (own_f8 (1 : Int32))), .second, .val (.long ((own_f8 (1 : Int32)) + ((Int32.ofNat n).toInt64))), .second, .val (.int ((((own_f8 (1 : Int32)).toUInt64 >>> ((16 : Int32) &&& 0x3f).toInt64.toUInt64).toInt64).toInt32)), .val (.long (own_f9 ((own_f8 (1 : Int32)) + ((Int32.ofNat n).toInt64)) (((((((own_f8 (1 : Int32)).toUInt64 >>> ((16 : Int32) &&& 0x3f).toInt64.toUInt64).toInt64).toInt32) + (1 : Int32)).toInt64) <<< ((16 : Int32) &&& 0x3f).toInt64))), .second, .unset, .unset, .unset, .unset, .unset, .unset] [(.ref fb), (.int ((((own_f8 (1 : Int32)).toUInt64 >>> ((16 : Int32) &&& 0x3f).toInt64.toUInt64).toInt64).toInt32))])) rfl rfl (hb hby d7_50) _ zz) ?_
  rw [len_of S4 M4]
  show Go _ _ _ _ T3 (mkF m 51 #[.val (.ref r0), .val (.int (1 : Int32)), .val (.int (Int32.ofNat n)), .val (.int (0 : Int32)), .val (.long (own_f8 (1 : Int32))), .second, .val (.long ((own_f8 (1 : Int32)) + ((Int32.ofNat n).toInt64))), .second, .val (.int ((((own_f8 (1 : Int32)).toUInt64 >>> ((16 : Int32) &&& 0x3f).toInt64.toUInt64).toInt64).toInt32)), .val (.long (own_f9 ((own_f8 (1 : Int32)) + ((Int32.ofNat n).toInt64)) (((((((own_f8 (1 : Int32)).toUInt64 >>> ((16 : Int32) &&& 0x3f).toInt64.toUInt64).toInt64).toInt32) + (1 : Int32)).toInt64) <<< ((16 : Int32) &&& 0x3f).toInt64))), .second, .unset, .unset, .unset, .unset, .unset, .unset] [(.int (0 : Int32)), (.int ((((own_f8 (1 : Int32)).toUInt64 >>> ((16 : Int32) &&& 0x3f).toInt64.toUInt64).toInt64).toInt32))])
  refine Go.step (fun _ zz => XS.icmpYes X3.here hx rfl (pc0 := 51) (pc' := 64) rfl (hb hby d7_51) rfl (flt (by decide)).2.1 (by decide) (by decide) zz) ?_
  show Go _ _ _ _ T3 (mkF m 64 #[.val (.ref r0), .val (.int (1 : Int32)), .val (.int (Int32.ofNat n)), .val (.int (0 : Int32)), .val (.long (own_f8 (1 : Int32))), .second, .val (.long ((own_f8 (1 : Int32)) + ((Int32.ofNat n).toInt64))), .second, .val (.int ((((own_f8 (1 : Int32)).toUInt64 >>> ((16 : Int32) &&& 0x3f).toInt64.toUInt64).toInt64).toInt32)), .val (.long (own_f9 ((own_f8 (1 : Int32)) + ((Int32.ofNat n).toInt64)) (((((((own_f8 (1 : Int32)).toUInt64 >>> ((16 : Int32) &&& 0x3f).toInt64.toUInt64).toInt64).toInt32) + (1 : Int32)).toInt64) <<< ((16 : Int32) &&& 0x3f).toInt64))), .second, .unset, .unset, .unset, .unset, .unset, .unset] [])
  refine Go.step (fun _ zz => XS.aconstNull X3.here hx rfl (hb hby d7_64) zz) ?_
  show Go _ _ _ _ T3 (mkF m 65 #[.val (.ref r0), .val (.int (1 : Int32)), .val (.int (Int32.ofNat n)), .val (.int (0 : Int32)), .val (.long (own_f8 (1 : Int32))), .second, .val (.long ((own_f8 (1 : Int32)) + ((Int32.ofNat n).toInt64))), .second, .val (.int ((((own_f8 (1 : Int32)).toUInt64 >>> ((16 : Int32) &&& 0x3f).toInt64.toUInt64).toInt64).toInt32)), .val (.long (own_f9 ((own_f8 (1 : Int32)) + ((Int32.ofNat n).toInt64)) (((((((own_f8 (1 : Int32)).toUInt64 >>> ((16 : Int32) &&& 0x3f).toInt64.toUInt64).toInt64).toInt32) + (1 : Int32)).toInt64) <<< ((16 : Int32) &&& 0x3f).toInt64))), .second, .unset, .unset, .unset, .unset, .unset, .unset] [.null])
  refine Go.step (fun _ zz => XS.astore X3.here hx rfl (hb hby d7_65) rfl rfl (l' := #[.val (.ref r0), .val (.int (1 : Int32)), .val (.int (Int32.ofNat n)), .val (.int (0 : Int32)), .val (.long (own_f8 (1 : Int32))), .second, .val (.long ((own_f8 (1 : Int32)) + ((Int32.ofNat n).toInt64))), .second, .val (.int ((((own_f8 (1 : Int32)).toUInt64 >>> ((16 : Int32) &&& 0x3f).toInt64.toUInt64).toInt64).toInt32)), .val (.long (own_f9 ((own_f8 (1 : Int32)) + ((Int32.ofNat n).toInt64)) (((((((own_f8 (1 : Int32)).toUInt64 >>> ((16 : Int32) &&& 0x3f).toInt64.toUInt64).toInt64).toInt32) + (1 : Int32)).toInt64) <<< ((16 : Int32) &&& 0x3f).toInt64))), .second, .val .null, .unset, .unset, .unset, .unset, .unset]) rfl zz) ?_
  show Go _ _ _ _ T3 (mkF m 67 #[.val (.ref r0), .val (.int (1 : Int32)), .val (.int (Int32.ofNat n)), .val (.int (0 : Int32)), .val (.long (own_f8 (1 : Int32))), .second, .val (.long ((own_f8 (1 : Int32)) + ((Int32.ofNat n).toInt64))), .second, .val (.int ((((own_f8 (1 : Int32)).toUInt64 >>> ((16 : Int32) &&& 0x3f).toInt64.toUInt64).toInt64).toInt32)), .val (.long (own_f9 ((own_f8 (1 : Int32)) + ((Int32.ofNat n).toInt64)) (((((((own_f8 (1 : Int32)).toUInt64 >>> ((16 : Int32) &&& 0x3f).toInt64.toUInt64).toInt64).toInt32) + (1 : Int32)).toInt64) <<< ((16 : Int32) &&& 0x3f).toInt64))), .second, .val .null, .unset, .unset, .unset, .unset, .unset] [])
  refine Go.step (fun _ zz => XS.aload X3.here hx rfl (hb hby d7_67) rfl rfl zz) ?_
  show Go _ _ _ _ T3 (mkF m 69 #[.val (.ref r0), .val (.int (1 : Int32)), .val (.int (Int32.ofNat n)), .val (.int (0 : Int32)), .val (.long (own_f8 (1 : Int32))), .second, .val (.long ((own_f8 (1 : Int32)) + ((Int32.ofNat n).toInt64))), .second, .val (.int ((((own_f8 (1 : Int32)).toUInt64 >>> ((16 : Int32) &&& 0x3f).toInt64.toUInt64).toInt64).toInt32)), .val (.long (own_f9 ((own_f8 (1 : Int32)) + ((Int32.ofNat n).toInt64)) (((((((own_f8 (1 : Int32)).toUInt64 >>> ((16 : Int32) &&& 0x3f).toInt64.toUInt64).toInt64).toInt32) + (1 : Int32)).toInt64) <<< ((16 : Int32) &&& 0x3f).toInt64))), .second, .val .null, .unset, .unset, .unset, .unset, .unset] [.null])
  refine Go.step (fun _ zz => XS.ifnullYes X3.here hx rfl (pc0 := 69) (pc' := 166) rfl (hb hby d7_69) rfl (by decide) (by decide) zz) ?_
  show Go _ _ _ _ T3 (mkF m 166 #[.val (.ref r0), .val (.int (1 : Int32)), .val (.int (Int32.ofNat n)), .val (.int (0 : Int32)), .val (.long (own_f8 (1 : Int32))), .second, .val (.long ((own_f8 (1 : Int32)) + ((Int32.ofNat n).toInt64))), .second, .val (.int ((((own_f8 (1 : Int32)).toUInt64 >>> ((16 : Int32) &&& 0x3f).toInt64.toUInt64).toInt64).toInt32)), .val (.long (own_f9 ((own_f8 (1 : Int32)) + ((Int32.ofNat n).toInt64)) (((((((own_f8 (1 : Int32)).toUInt64 >>> ((16 : Int32) &&& 0x3f).toInt64.toUInt64).toInt64).toInt32) + (1 : Int32)).toInt64) <<< ((16 : Int32) &&& 0x3f).toInt64))), .second, .val .null, .unset, .unset, .unset, .unset, .unset] [])
  refine Go.step (fun _ zz => XS.lload X3.here hx rfl (hb hby d7_166) rfl zz) ?_
  show Go _ _ _ _ T3 (mkF m 168 #[.val (.ref r0), .val (.int (1 : Int32)), .val (.int (Int32.ofNat n)), .val (.int (0 : Int32)), .val (.long (own_f8 (1 : Int32))), .second, .val (.long ((own_f8 (1 : Int32)) + ((Int32.ofNat n).toInt64))), .second, .val (.int ((((own_f8 (1 : Int32)).toUInt64 >>> ((16 : Int32) &&& 0x3f).toInt64.toUInt64).toInt64).toInt32)), .val (.long (own_f9 ((own_f8 (1 : Int32)) + ((Int32.ofNat n).toInt64)) (((((((own_f8 (1 : Int32)).toUInt64 >>> ((16 : Int32) &&& 0x3f).toInt64.toUInt64).toInt64).toInt32) + (1 : Int32)).toInt64) <<< ((16 : Int32) &&& 0x3f).toInt64))), .second, .val .null, .unset, .unset, .unset, .unset, .unset] [(.long (own_f9 ((own_f8 (1 : Int32)) + ((Int32.ofNat n).toInt64)) (((((((own_f8 (1 : Int32)).toUInt64 >>> ((16 : Int32) &&& 0x3f).toInt64.toUInt64).toInt64).toInt32) + (1 : Int32)).toInt64) <<< ((16 : Int32) &&& 0x3f).toInt64)))])
  refine Go.step (fun _ zz => XS.lstore X3.here hx rfl (hb hby d7_168) rfl (l' := #[.val (.ref r0), .val (.int (1 : Int32)), .val (.int (Int32.ofNat n)), .val (.int (0 : Int32)), .val (.long (own_f9 ((own_f8 (1 : Int32)) + ((Int32.ofNat n).toInt64)) (((((((own_f8 (1 : Int32)).toUInt64 >>> ((16 : Int32) &&& 0x3f).toInt64.toUInt64).toInt64).toInt32) + (1 : Int32)).toInt64) <<< ((16 : Int32) &&& 0x3f).toInt64))), .second, .val (.long ((own_f8 (1 : Int32)) + ((Int32.ofNat n).toInt64))), .second, .val (.int ((((own_f8 (1 : Int32)).toUInt64 >>> ((16 : Int32) &&& 0x3f).toInt64.toUInt64).toInt64).toInt32)), .val (.long (own_f9 ((own_f8 (1 : Int32)) + ((Int32.ofNat n).toInt64)) (((((((own_f8 (1 : Int32)).toUInt64 >>> ((16 : Int32) &&& 0x3f).toInt64.toUInt64).toInt64).toInt32) + (1 : Int32)).toInt64) <<< ((16 : Int32) &&& 0x3f).toInt64))), .second, .val .null, .unset, .unset, .unset, .unset, .unset]) rfl zz) ?_
  show Go _ _ _ _ T3 (mkF m 170 #[.val (.ref r0), .val (.int (1 : Int32)), .val (.int (Int32.ofNat n)), .val (.int (0 : Int32)), .val (.long (own_f9 ((own_f8 (1 : Int32)) + ((Int32.ofNat n).toInt64)) (((((((own_f8 (1 : Int32)).toUInt64 >>> ((16 : Int32) &&& 0x3f).toInt64.toUInt64).toInt64).toInt32) + (1 : Int32)).toInt64) <<< ((16 : Int32) &&& 0x3f).toInt64))), .second, .val (.long ((own_f8 (1 : Int32)) + ((Int32.ofNat n).toInt64))), .second, .val (.int ((((own_f8 (1 : Int32)).toUInt64 >>> ((16 : Int32) &&& 0x3f).toInt64.toUInt64).toInt64).toInt32)), .val (.long (own_f9 ((own_f8 (1 : Int32)) + ((Int32.ofNat n).toInt64)) (((((((own_f8 (1 : Int32)).toUInt64 >>> ((16 : Int32) &&& 0x3f).toInt64.toUInt64).toInt64).toInt32) + (1 : Int32)).toInt64) <<< ((16 : Int32) &&& 0x3f).toInt64))), .second, .val .null, .unset, .unset, .unset, .unset, .unset] [])
  refine Go.step (fun _ zz => XS.goto X3.here hx rfl (pc0 := 170) (pc' := 13) rfl (hb hby d7_170) (by decide) (by decide) zz) ?_
  show Go _ _ _ _ T3 (mkF m 13 #[.val (.ref r0), .val (.int (1 : Int32)), .val (.int (Int32.ofNat n)), .val (.int (0 : Int32)), .val (.long (own_f9 ((own_f8 (1 : Int32)) + ((Int32.ofNat n).toInt64)) (((((((own_f8 (1 : Int32)).toUInt64 >>> ((16 : Int32) &&& 0x3f).toInt64.toUInt64).toInt64).toInt32) + (1 : Int32)).toInt64) <<< ((16 : Int32) &&& 0x3f).toInt64))), .second, .val (.long ((own_f8 (1 : Int32)) + ((Int32.ofNat n).toInt64))), .second, .val (.int ((((own_f8 (1 : Int32)).toUInt64 >>> ((16 : Int32) &&& 0x3f).toInt64.toUInt64).toInt64).toInt32)), .val (.long (own_f9 ((own_f8 (1 : Int32)) + ((Int32.ofNat n).toInt64)) (((((((own_f8 (1 : Int32)).toUInt64 >>> ((16 : Int32) &&& 0x3f).toInt64.toUInt64).toInt64).toInt32) + (1 : Int32)).toInt64) <<< ((16 : Int32) &&& 0x3f).toInt64))), .second, .val .null, .unset, .unset, .unset, .unset, .unset] [])
  refine Go.step (fun _ zz => XS.lload X3.here hx rfl (hb hby d7_13) rfl zz) ?_
  show Go _ _ _ _ T3 (mkF m 15 #[.val (.ref r0), .val (.int (1 : Int32)), .val (.int (Int32.ofNat n)), .val (.int (0 : Int32)), .val (.long (own_f9 ((own_f8 (1 : Int32)) + ((Int32.ofNat n).toInt64)) (((((((own_f8 (1 : Int32)).toUInt64 >>> ((16 : Int32) &&& 0x3f).toInt64.toUInt64).toInt64).toInt32) + (1 : Int32)).toInt64) <<< ((16 : Int32) &&& 0x3f).toInt64))), .second, .val (.long ((own_f8 (1 : Int32)) + ((Int32.ofNat n).toInt64))), .second, .val (.int ((((own_f8 (1 : Int32)).toUInt64 >>> ((16 : Int32) &&& 0x3f).toInt64.toUInt64).toInt64).toInt32)), .val (.long (own_f9 ((own_f8 (1 : Int32)) + ((Int32.ofNat n).toInt64)) (((((((own_f8 (1 : Int32)).toUInt64 >>> ((16 : Int32) &&& 0x3f).toInt64.toUInt64).toInt64).toInt32) + (1 : Int32)).toInt64) <<< ((16 : Int32) &&& 0x3f).toInt64))), .second, .val .null, .unset, .unset, .unset, .unset, .unset] [(.long (own_f9 ((own_f8 (1 : Int32)) + ((Int32.ofNat n).toInt64)) (((((((own_f8 (1 : Int32)).toUInt64 >>> ((16 : Int32) &&& 0x3f).toInt64.toUInt64).toInt64).toInt32) + (1 : Int32)).toInt64) <<< ((16 : Int32) &&& 0x3f).toInt64)))])
  refine Go.step (fun _ zz => XS.lload X3.here hx rfl (hb hby d7_15) rfl zz) ?_
  show Go _ _ _ _ T3 (mkF m 17 #[.val (.ref r0), .val (.int (1 : Int32)), .val (.int (Int32.ofNat n)), .val (.int (0 : Int32)), .val (.long (own_f9 ((own_f8 (1 : Int32)) + ((Int32.ofNat n).toInt64)) (((((((own_f8 (1 : Int32)).toUInt64 >>> ((16 : Int32) &&& 0x3f).toInt64.toUInt64).toInt64).toInt32) + (1 : Int32)).toInt64) <<< ((16 : Int32) &&& 0x3f).toInt64))), .second, .val (.long ((own_f8 (1 : Int32)) + ((Int32.ofNat n).toInt64))), .second, .val (.int ((((own_f8 (1 : Int32)).toUInt64 >>> ((16 : Int32) &&& 0x3f).toInt64.toUInt64).toInt64).toInt32)), .val (.long (own_f9 ((own_f8 (1 : Int32)) + ((Int32.ofNat n).toInt64)) (((((((own_f8 (1 : Int32)).toUInt64 >>> ((16 : Int32) &&& 0x3f).toInt64.toUInt64).toInt64).toInt32) + (1 : Int32)).toInt64) <<< ((16 : Int32) &&& 0x3f).toInt64))), .second, .val .null, .unset, .unset, .unset, .unset, .unset] [(.long ((own_f8 (1 : Int32)) + ((Int32.ofNat n).toInt64))), (.long (own_f9 ((own_f8 (1 : Int32)) + ((Int32.ofNat n).toInt64)) (((((((own_f8 (1 : Int32)).toUInt64 >>> ((16 : Int32) &&& 0x3f).toInt64.toUInt64).toInt64).toInt32) + (1 : Int32)).toInt64) <<< ((16 : Int32) &&& 0x3f).toInt64)))])
  refine Go.step (fun _ zz => XS.lcmp X3.here hx rfl (hb hby d7_17) rfl zz) ?_
  show Go _ _ _ _ T3 (mkF m 18 #[.val (.ref r0), .val (.int (1 : Int32)), .val (.int (Int32.ofNat n)), .val (.int (0 : Int32)), .val (.long (own_f9 ((own_f8 (1 : Int32)) + ((Int32.ofNat n).toInt64)) (((((((own_f8 (1 : Int32)).toUInt64 >>> ((16 : Int32) &&& 0x3f).toInt64.toUInt64).toInt64).toInt32) + (1 : Int32)).toInt64) <<< ((16 : Int32) &&& 0x3f).toInt64))), .second, .val (.long ((own_f8 (1 : Int32)) + ((Int32.ofNat n).toInt64))), .second, .val (.int ((((own_f8 (1 : Int32)).toUInt64 >>> ((16 : Int32) &&& 0x3f).toInt64.toUInt64).toInt64).toInt32)), .val (.long (own_f9 ((own_f8 (1 : Int32)) + ((Int32.ofNat n).toInt64)) (((((((own_f8 (1 : Int32)).toUInt64 >>> ((16 : Int32) &&& 0x3f).toInt64.toUInt64).toInt64).toInt32) + (1 : Int32)).toInt64) <<< ((16 : Int32) &&& 0x3f).toInt64))), .second, .val .null, .unset, .unset, .unset, .unset, .unset] [(.int (lcmpW (own_f9 ((own_f8 (1 : Int32)) + ((Int32.ofNat n).toInt64)) (((((((own_f8 (1 : Int32)).toUInt64 >>> ((16 : Int32) &&& 0x3f).toInt64.toUInt64).toInt64).toInt32) + (1 : Int32)).toInt64) <<< ((16 : Int32) &&& 0x3f).toInt64)) ((own_f8 (1 : Int32)) + ((Int32.ofNat n).toInt64))))])
  refine Go.step (fun _ zz => XS.ifYes X3.here hx rfl (pc0 := 18) (pc' := 173) rfl (hb hby d7_18) rfl ((if0 _ _).trans (flt (fun q => (own_mf2 n hn) ((lw_lt (own_f9 ((own_f8 (1 : Int32)) + ((Int32.ofNat n).toInt64)) (((((((own_f8 (1 : Int32)).toUInt64 >>> ((16 : Int32) &&& 0x3f).toInt64.toUInt64).toInt64).toInt32) + (1 : Int32)).toInt64) <<< ((16 : Int32) &&& 0x3f).toInt64)) ((own_f8 (1 : Int32)) + ((Int32.ofNat n).toInt64))).mp q))).2.1) (by decide) (by decide) zz) ?_
  show Go _ _ _ _ T3 (mkF m 173 #[.val (.ref r0), .val (.int (1 : Int32)), .val (.int (Int32.ofNat n)), .val (.int (0 : Int32)), .val (.long (own_f9 ((own_f8 (1 : Int32)) + ((Int32.ofNat n).toInt64)) (((((((own_f8 (1 : Int32)).toUInt64 >>> ((16 : Int32) &&& 0x3f).toInt64.toUInt64).toInt64).toInt32) + (1 : Int32)).toInt64) <<< ((16 : Int32) &&& 0x3f).toInt64))), .second, .val (.long ((own_f8 (1 : Int32)) + ((Int32.ofNat n).toInt64))), .second, .val (.int ((((own_f8 (1 : Int32)).toUInt64 >>> ((16 : Int32) &&& 0x3f).toInt64.toUInt64).toInt64).toInt32)), .val (.long (own_f9 ((own_f8 (1 : Int32)) + ((Int32.ofNat n).toInt64)) (((((((own_f8 (1 : Int32)).toUInt64 >>> ((16 : Int32) &&& 0x3f).toInt64.toUInt64).toInt64).toInt32) + (1 : Int32)).toInt64) <<< ((16 : Int32) &&& 0x3f).toInt64))), .second, .val .null, .unset, .unset, .unset, .unset, .unset] [])
  exact Go.retV X3 hx Bd.returns (hb hby d7_173) Bd.notSynchronized (⟨rfl, N2, e3⟩) (by decide) (by decide)
theorem own_pd5 : parseMethodDescriptor "(IIZ)V" = some ⟨[.int, .int, .boolean], none⟩ := by decide +kernel
theorem d3_0 : decode prog_23_method_2_code 0 = .ok (.getstatic 40, 3) := by decide +kernel
theorem d3_3 : decode prog_23_method_2_code 3 = .ok (.ifCond .ne 25, 3) := by decide +kernel
theorem d3_28 : decode prog_23_method_2_code 28 = .ok (.aload_n 0, 1) := by decide +kernel
theorem d3_29 : decode prog_23_method_2_code 29 = .ok (.iload_n 1, 1) := by decide +kernel
theorem d3_30 : decode prog_23_method_2_code 30 = .ok (.invokevirtual 49, 3) := by decide +kernel
theorem d3_33 : decode prog_23_method_2_code 33 = .ok (.istore_n 2, 1) := by decide +kernel
theorem d3_34 : decode prog_23_method_2_code 34 = .ok (.iload_n 2, 1) := by decide +kernel
theorem d3_35 : decode prog_23_method_2_code 35 = .ok (.ifCond .ne 12, 3) := by decide +kernel
theorem d3_38 : decode prog_23_method_2_code 38 = .ok (.aload_n 0, 1) := by decide +kernel
theorem d3_39 : decode prog_23_method_2_code 39 = .ok (.iload_n 1, 1) := by decide +kernel
theorem d3_40 : decode prog_23_method_2_code 40 = .ok (.invokevirtual 53, 3) := by decide +kernel
theorem d3_43 : decode prog_23_method_2_code 43 = .ok (.istore_n 3, 1) := by decide +kernel
theorem d3_44 : decode prog_23_method_2_code 44 = .ok (.goto 35, 3) := by decide +kernel
theorem d3_79 : decode prog_23_method_2_code 79 = .ok (.aload_n 0, 1) := by decide +kernel
theorem d3_80 : decode prog_23_method_2_code 80 = .ok (.iload_n 3, 1) := by decide +kernel
theorem d3_81 : decode prog_23_method_2_code 81 = .ok (.iload_n 1, 1) := by decide +kernel
theorem d3_82 : decode prog_23_method_2_code 82 = .ok (.iconst 0, 1) := by decide +kernel
theorem d3_83 : decode prog_23_method_2_code 83 = .ok (.invokevirtual 68, 3) := by decide +kernel
theorem d3_86 : decode prog_23_method_2_code 86 = .ok (.iload_n 3, 1) := by decide +kernel
theorem d3_87 : decode prog_23_method_2_code 87 = .ok (.ireturn, 1) := by decide +kernel
theorem ef_rm_al (m : MethodId) (x0 : Addr) (x1 : Int32) : entryFrame m #[(.ref x0), (.int x1)] 6 = mkF m 0 #[.val (.ref x0), .val (.int x1), .unset, .unset, .unset, .unset] [] := by first | (simp [entryFrame, mkF, argsToLocals, Value.category]; done) | rfl
def Q_rm_al (Z : State) (r0 : Addr) (n nb : Nat) (w : Nat → Addr) (P fb lb lw : Addr) (kfb klb klw : ClassId) (h0 : Heap) (n0 : Nat) (v : Option Value) (h : Heap) (L : List Loc) : Prop := v = some (.int (1 : Int32)) ∧ Fr n0 L ∧ Keep h0 h [r0, P] ∧ ∃ (np : Nat) (G : Nat → Addr), np ≤ 5 ∧ n + 1 ≤ 2048 * np ∧ Mp Z h nb r0 P np G (fun _ => 0)
set_option maxRecDepth 65536 in
set_option maxHeartbeats 40000000 in
theorem rm_al (l : Launch) (Z : State) (a0 : Array Value) (hw : ∀ d ∈ tables_1, d.before a0 Z = true) (ws : List Jvm.Cond) (r0 : Addr) (n nb : Nat) (w : Nat → Addr) (P fb lb lw : Addr) (kfb klb klw : ClassId) (h0 : Heap) (n0 : Nat) (Z0 : n0 ≤ h0.size) (O0 : Old Z n0 h0) (wd : Wd Z w) (hn0 : n0 ≤ nb) (hn1 : 1 ≤ n) (hn : n ≤ 8192) (M0 : Mp Z h0 nb r0 P 0 (fun _ => 0) (fun _ => 0)) (F_pc : Fld Z h0 r0 "rowpack/growable/IntSpace" "pageCount" "I" (.int (0 : Int32))) (F_top : Fld Z h0 r0 "rowpack/growable/IntSpace" "top" "J" (.long (1 : Int64))) (F_fb : Fld Z h0 r0 "rowpack/growable/IntSpace" "freeBits" "[[J" (.ref fb)) (V_fb : Arv Z h0 fb kfb (.array .long) (0 : Int32) [] .null) (nfr : fb ≠ r0) (nfP : fb ≠ P) (F_lb : Fld Z h0 r0 "rowpack/growable/IntSpace" "listBits" "[J" (.ref lb)) (V_lb : Arv Z h0 lb klb .long (0 : Int32) [] (.long (0 : Int64))) (F_lw : Fld Z h0 r0 "rowpack/growable/IntSpace" "listWords" "[J" (.ref lw)) (V_lw : Arv Z h0 lw klw .long (0 : Int32) [] (.long (0 : Int64))) :
    MetFree l (⟨"rowpack/growable/IntSpace", "allocate", "(I)I"⟩ : MethodName) (head1 (Jvm.Cond.code (⟨"rowpack/growable/IntSpace", "allocate", "(I)I"⟩ : MethodName) prog_23_method_2_code 6 (some .int) :: ws) ({ frames := 2, cells := 5, slots := 10240, locals := 43 } : Room)) (fun az Uz => az = #[(.ref r0), (.int (Int32.ofNat n))] ∧ Z.Warmed39 Uz.vm ∧ Uz.heap = h0) (fun _ _ _ _ _ => True) (fun _ Uz oz Vz => ∃ vz Lz, oz = .returned vz ∧ Q_rm_al Z r0 n nb w P fb lb lw kfb klb klw h0 n0 vz Vz.heap Lz ∧ FrameEnd Uz oz Vz Lz ({ frames := 2, cells := 5, slots := 10240, locals := 43 } : Room).cells ({ frames := 2, cells := 5, slots := 10240, locals := 43 } : Room).slots) := by
  refine MetFree.of_bodySF (plainFor_of_name own_pn0) hisR ?_
  intro p e s m args below meth c s₁ Bd hml0 hP hK
  obtain ⟨rfl, hZ, hh⟩ := hP
  have hx := Bd.exec
  have hby := Bd.bytes
  have hml : c.maxLocals = 6 := hml0
  have hown : s.vm.findClass "rowpack/growable/IntSpace" = some m.cls := findClass_of_methodNamed Bd.named
  have hnm := (name_of_methodNamed Bd.named Bd.method).1
  have X0 : Stand p l e ({ frames := 2, cells := 5, slots := 10240, locals := 43 } : Room) s m #[(.ref r0), (.int (Int32.ofNat n))] below meth c s₁ [] 0 0 := Stand.of_body Bd
  have e0 : s₁.heap = h0 := by rw [← hh, Bd.state]; rfl
  have N0 := Fr.nil n0
  have K0 : Keep h0 h0 [r0, P] := Keep.refl _ _
  refine Go.enter (Q := Q_rm_al Z r0 n nb w P fb lb lw kfb klb klw h0 n0) (C := ({ frames := 2, cells := 5, slots := 10240, locals := 43 } : Room).cells) (S := ({ frames := 2, cells := 5, slots := 10240, locals := 43 } : Room).slots) (ef_rm_al m r0 (Int32.ofNat n)) ?_
  obtain ⟨T1, X1, e1, st1⟩ := getS2 X0 hx hZ hown (host := "") (Or.inl (hw _ (List.mem_of_getElem? (i := 35) rfl))) Via.refl e0 ((wd0 wd).ext O0.2) (g := (mkF m 0 #[.val (.ref r0), .val (.int (Int32.ofNat n)), .unset, .unset, .unset, .unset] [])) rfl (hb hby d3_0)
  refine Go.step st1 ?_
  show Go _ _ _ _ T1 (mkF m 3 #[.val (.ref r0), .val (.int (Int32.ofNat n)), .unset, .unset, .unset, .unset] [(.int (1 : Int32))])
  refine Go.step (fun _ zz => XS.ifYes X1.here hx rfl (pc0 := 3) (pc' := 28) rfl (hb hby d3_3) rfl ((if0 _ _).trans (feq (by decide)).2) (by decide) (by decide) zz) ?_
  show Go _ _ _ _ T1 (mkF m 28 #[.val (.ref r0), .val (.int (Int32.ofNat n)), .unset, .unset, .unset, .unset] [])
  refine Go.step (fun _ zz => XS.aloadN X1.here hx rfl (hb hby d3_28) rfl rfl zz) ?_
  show Go _ _ _ _ T1 (mkF m 29 #[.val (.ref r0), .val (.int (Int32.ofNat n)), .unset, .unset, .unset, .unset] [(.ref r0)])
  refine Go.step (fun _ zz => XS.iloadN X1.here hx rfl (hb hby d3_29) rfl zz) ?_
  show Go _ _ _ _ T1 (mkF m 30 #[.val (.ref r0), .val (.int (Int32.ofNat n)), .unset, .unset, .unset, .unset] [(.int (Int32.ofNat n)), (.ref r0)])
  obtain ⟨cq2, q2, q2'⟩ := M0.1.cell
  obtain ⟨_, _, ⟨T2, L2, k2, n2⟩, -, X2, ⟨Lc2, hQ2, l2, y2, z2⟩, st2⟩ := X1.privateBack hx (y := (⟨"rowpack/growable/IntSpace", "leastListFrom", "(I)I"⟩ : MethodName)) hown (mvT hZ (hw _ (List.mem_of_getElem? (i := 37) rfl))) (mvT hZ (hw _ (List.mem_of_getElem? (i := 38) rfl))) (own_selp (z := (⟨"rowpack/growable/IntSpace", "allocate", "(I)I"⟩ : MethodName)) (mvT hZ (hw _ (List.mem_of_getElem? (i := 33) rfl))) rfl (mvT hZ (hw _ (List.mem_of_getElem? (i := 38) rfl))) (Cond.privateMethod_at (mvP hZ (hw _ (List.mem_of_getElem? (i := 39) rfl)) (args := #[]))) (by decide)) (Cond.privateMethod_at (mvP hZ (hw _ (List.mem_of_getElem? (i := 39) rfl)) (args := #[]))) (mvT hZ (hw _ (List.mem_of_getElem? (i := 40) rfl))) (by decide) (backOf (W := 0) (rm_llf l Z a0 hw [] r0 (Int32.ofNat n) lb lw klb klw h0 n0 Z0 M0.1 F_lb V_lb F_lw V_lw) hZ (hw _ (List.mem_of_getElem? (i := 40) rfl)) (hw _ (List.mem_of_getElem? (i := 4) rfl)) (by decide) (by decide)) (g := (mkF m 30 #[.val (.ref r0), .val (.int (Int32.ofNat n)), .unset, .unset, .unset, .unset] [(.int (Int32.ofNat n)), (.ref r0)])) rfl (by rw [hml]; rfl) (Steps.refl _) (a := r0) (by rw [e1]; exact q2) q2' (argsL := [(.int (Int32.ofNat n))]) (rest := []) (lenOf own_pd1 rfl) rfl (by show 2 * 0 + _ ≤ _; exact Nat.le_of_eq rfl) (hb hby d3_30) (fun _ _ => ⟨rfl, e1, (by decide : 0 + 0 ≤ _), (by decide : 0 + 0 ≤ _)⟩)
  dsimp only [Pt.U, Pt.locs, Pt.cells, Pt.slots] at X2 l2 y2 z2 st2 hQ2
  subst l2 y2 z2
  obtain ⟨rfl, N2q, e2⟩ := hQ2
  have N2 := Fr.app N0 N2q
  refine Go.tr st2 ?_
  show Go _ _ _ _ T2 (mkF m 33 #[.val (.ref r0), .val (.int (Int32.ofNat n)), .unset, .unset, .unset, .unset] [(.int (0 : Int32))])
  refine Go.step (fun _ zz => XS.istoreN X2.here hx rfl (hb hby d3_33) rfl (l' := #[.val (.ref r0), .val (.int (Int32.ofNat n)), .val (.int (0 : Int32)), .unset, .unset, .unset]) rfl zz) ?_
  show Go _ _ _ _ T2 (mkF m 34 #[.val (.ref r0), .val (.int (Int32.ofNat n)), .val (.int (0 : Int32)), .unset, .unset, .unset] [])
  refine Go.step (fun _ zz => XS.iloadN X2.here hx rfl (hb hby d3_34) rfl zz) ?_
  show Go _ _ _ _ T2 (mkF m 35 #[.val (.ref r0), .val (.int (Int32.ofNat n)), .val (.int (0 : Int32)), .unset, .unset, .unset] [(.int (0 : Int32))])
  refine Go.step (fun _ zz => XS.ifNo X2.here hx rfl (hb hby d3_35) rfl ((if0 _ _).trans (teq (by decide)).2) zz) ?_
  show Go _ _ _ _ T2 (mkF m 38 #[.val (.ref r0), .val (.int (Int32.ofNat n)), .val (.int (0 : Int32)), .unset, .unset, .unset] [])
  refine Go.step (fun _ zz => XS.aloadN X2.here hx rfl (hb hby d3_38) rfl rfl zz) ?_
  show Go _ _ _ _ T2 (mkF m 39 #[.val (.ref r0), .val (.int (Int32.ofNat n)), .val (.int (0 : Int32)), .unset, .unset, .unset] [(.ref r0)])
  refine Go.step (fun _ zz => XS.iloadN X2.here hx rfl (hb hby d3_39) rfl zz) ?_
  show Go _ _ _ _ T2 (mkF m 40 #[.val (.ref r0), .val (.int (Int32.ofNat n)), .val (.int (0 : Int32)), .unset, .unset, .unset] [(.int (Int32.ofNat n)), (.ref r0)])
  obtain ⟨cq3, q3, q3'⟩ := M0.1.cell
  obtain ⟨_, _, ⟨T3, L3, k3, n3⟩, -, X3, ⟨Lc3, hQ3, l3, y3, z3⟩, st3⟩ := X2.privateBack hx (y := (⟨"rowpack/growable/IntSpace", "fromTop", "(I)I"⟩ : MethodName)) hown (mvT hZ (hw _ (List.mem_of_getElem? (i := 45) rfl))) (mvT hZ (hw _ (List.mem_of_getElem? (i := 46) rfl))) (own_selp (z := (⟨"rowpack/growable/IntSpace", "allocate", "(I)I"⟩ : MethodName)) (mvT hZ (hw _ (List.mem_of_getElem? (i := 33) rfl))) rfl (mvT hZ (hw _ (List.mem_of_getElem? (i := 46) rfl))) (Cond.privateMethod_at (mvP hZ (hw _ (List.mem_of_getElem? (i := 47) rfl)) (args := #[]))) (by decide)) (Cond.privateMethod_at (mvP hZ (hw _ (List.mem_of_getElem? (i := 47) rfl)) (args := #[]))) (mvT hZ (hw _ (List.mem_of_getElem? (i := 48) rfl))) (by decide) (backOf (W := 0) (rm_ft l Z a0 hw [] r0 n nb P fb kfb h0 n0 Z0 hn0 hn1 hn M0 F_pc F_top F_fb V_fb nfr nfP) hZ (hw _ (List.mem_of_getElem? (i := 48) rfl)) (hw _ (List.mem_of_getElem? (i := 4) rfl)) (by decide) (by decide)) (g := (mkF m 40 #[.val (.ref r0), .val (.int (Int32.ofNat n)), .val (.int (0 : Int32)), .unset, .unset, .unset] [(.int (Int32.ofNat n)), (.ref r0)])) rfl (by rw [hml]; rfl) (Steps.refl _) (a := r0) (by rw [e2]; exact q3) q3' (argsL := [(.int (Int32.ofNat n))]) (rest := []) (lenOf own_pd1 rfl) rfl (by show 2 * 0 + _ ≤ _; exact Nat.le_of_eq rfl) (hb hby d3_40) (fun _ _ => ⟨rfl, e2, (by decide : 0 + 5 ≤ _), (by decide : 0 + 10240 ≤ _)⟩)
  dsimp only [Pt.U, Pt.locs, Pt.cells, Pt.slots] at X3 l3 y3 z3 st3 hQ3
  subst l3 y3 z3
  obtain ⟨rfl, N3q, K3, np3, G3, hnp3, hen3, M3, Ffb3, Vfb3⟩ := hQ3
  have N3 := Fr.app N2 N3q
  refine Go.tr st3 ?_
  show Go _ _ _ _ T3 (mkF m 43 #[.val (.ref r0), .val (.int (Int32.ofNat n)), .val (.int (0 : Int32)), .unset, .unset, .unset] [(.int (1 : Int32))])
  refine Go.step (fun _ zz => XS.istoreN X3.here hx rfl (hb hby d3_43) rfl (l' := #[.val (.ref r0), .val (.int (Int32.ofNat n)), .val (.int (0 : Int32)), .val (.int (1 : Int32)), .unset, .unset]) rfl zz) ?_
  show Go _ _ _ _ T3 (mkF m 44 #[.val (.ref r0), .val (.int (Int32.ofNat n)), .val (.int (0 : Int32)), .val (.int (1 : Int32)), .unset, .unset] [])
  refine Go.step (fun _ zz => XS.goto X3.here hx rfl (pc0 := 44) (pc' := 79) rfl (hb hby d3_44) (by decide) (by decide) zz) ?_
  show Go _ _ _ _ T3 (mkF m 79 #[.val (.ref r0), .val (.int (Int32.ofNat n)), .val (.int (0 : Int32)), .val (.int (1 : Int32)), .unset, .unset] [])
  refine Go.step (fun _ zz => XS.aloadN X3.here hx rfl (hb hby d3_79) rfl rfl zz) ?_
  show Go _ _ _ _ T3 (mkF m 80 #[.val (.ref r0), .val (.int (Int32.ofNat n)), .val (.int (0 : Int32)), .val (.int (1 : Int32)), .unset, .unset] [(.ref r0)])
  refine Go.step (fun _ zz => XS.iloadN X3.here hx rfl (hb hby d3_80) rfl zz) ?_
  show Go _ _ _ _ T3 (mkF m 81 #[.val (.ref r0), .val (.int (Int32.ofNat n)), .val (.int (0 : Int32)), .val (.int (1 : Int32)), .unset, .unset] [(.int (1 : Int32)), (.ref r0)])
  refine Go.step (fun _ zz => XS.iloadN X3.here hx rfl (hb hby d3_81) rfl zz) ?_
  show Go _ _ _ _ T3 (mkF m 82 #[.val (.ref r0), .val (.int (Int32.ofNat n)), .val (.int (0 : Int32)), .val (.int (1 : Int32)), .unset, .unset] [(.int (Int32.ofNat n)), (.int (1 : Int32)), (.ref r0)])
  refine Go.step (fun _ zz => XS.iconst X3.here hx rfl (hb hby d3_82) zz) ?_
  show Go _ _ _ _ T3 (mkF m 83 #[.val (.ref r0), .val (.int (Int32.ofNat n)), .val (.int (0 : Int32)), .val (.int (1 : Int32)), .unset, .unset] [(.int (0 : Int32)), (.int (Int32.ofNat n)), (.int (1 : Int32)), (.ref r0)])
  obtain ⟨cq4, q4, q4'⟩ := M3.1.cell
  obtain ⟨_, _, ⟨T4, L4, k4, n4⟩, -, X4, ⟨Lc4, hQ4, l4, y4, z4⟩, st4⟩ := X3.privateBack hx (y := (⟨"rowpack/growable/IntSpace", "markFree", "(IIZ)V"⟩ : MethodName)) hown (mvT hZ (hw _ (List.mem_of_getElem? (i := 53) rfl))) (mvT hZ (hw _ (List.mem_of_getElem? (i := 54) rfl))) (own_selp (z := (⟨"rowpack/growable/IntSpace", "allocate", "(I)I"⟩ : MethodName)) (mvT hZ (hw _ (List.mem_of_getElem? (i := 33) rfl))) rfl (mvT hZ (hw _ (List.mem_of_getElem? (i := 54) rfl))) (Cond.privateMethod_at (mvP hZ (hw _ (List.mem_of_getElem? (i := 55) rfl)) (args := #[]))) (by decide)) (Cond.privateMethod_at (mvP hZ (hw _ (List.mem_of_getElem? (i := 55) rfl)) (args := #[]))) (mvT hZ (hw _ (List.mem_of_getElem? (i := 56) rfl))) (by decide) (backOf (W := 0) (rm_mf l Z a0 hw [] r0 n fb kfb T3.heap n0 (Nat.le_trans Z0 K3.1) hn1 hn Ffb3 Vfb3) hZ (hw _ (List.mem_of_getElem? (i := 56) rfl)) (hw _ (List.mem_of_getElem? (i := 4) rfl)) (by decide) (by decide)) (g := (mkF m 83 #[.val (.ref r0), .val (.int (Int32.ofNat n)), .val (.int (0 : Int32)), .val (.int (1 : Int32)), .unset, .unset] [(.int (0 : Int32)), (.int (Int32.ofNat n)), (.int (1 : Int32)), (.ref r0)])) rfl (by rw [hml]; rfl) (Steps.refl _) (a := r0) q4 q4' (argsL := [(.int (1 : Int32)), (.int (Int32.ofNat n)), (.int (0 : Int32))]) (rest := []) (lenOf own_pd5 rfl) rfl (by show 2 * 0 + _ ≤ _; exact Nat.le_of_eq rfl) (hb hby d3_83) (fun _ _ => ⟨rfl, rfl, (by decide : 5 + 0 ≤ _), (by decide : 10240 + 0 ≤ _)⟩)
  dsimp only [Pt.U, Pt.locs, Pt.cells, Pt.slots] at X4 l4 y4 z4 st4 hQ4
  subst l4 y4 z4
  obtain ⟨rfl, N4q, e4⟩ := hQ4
  have N4 := Fr.app N3 N4q
  refine Go.tr st4 ?_
  show Go _ _ _ _ T4 (mkF m 86 #[.val (.ref r0), .val (.int (Int32.ofNat n)), .val (.int (0 : Int32)), .val (.int (1 : Int32)), .unset, .unset] [])
  refine Go.step (fun _ zz => XS.iloadN X4.here hx rfl (hb hby d3_86) rfl zz) ?_
  show Go _ _ _ _ T4 (mkF m 87 #[.val (.ref r0), .val (.int (Int32.ofNat n)), .val (.int (0 : Int32)), .val (.int (1 : Int32)), .unset, .unset] [(.int (1 : Int32))])
  exact Go.retI X4 hx Bd.returns (hb hby d3_87) Bd.notSynchronized (by rw [e4]; exact ⟨rfl, N4, K3, np3, G3, hnp3, hen3, M3⟩) (by decide) (by decide)
theorem d15_0 : decode prog_23_method_5_code 0 = .ok (.aload_n 0, 1) := by decide +kernel
theorem d15_1 : decode prog_23_method_5_code 1 = .ok (.getfield 13, 3) := by decide +kernel
theorem d15_4 : decode prog_23_method_5_code 4 = .ok (.iload_n 1, 1) := by decide +kernel
theorem d15_5 : decode prog_23_method_5_code 5 = .ok (.bipush 11, 2) := by decide +kernel
theorem d15_7 : decode prog_23_method_5_code 7 = .ok (.iushr, 1) := by decide +kernel
theorem d15_8 : decode prog_23_method_5_code 8 = .ok (.aaload, 1) := by decide +kernel
theorem d15_9 : decode prog_23_method_5_code 9 = .ok (.iload_n 1, 1) := by decide +kernel
theorem d15_10 : decode prog_23_method_5_code 10 = .ok (.sipush 2047, 3) := by decide +kernel
theorem d15_13 : decode prog_23_method_5_code 13 = .ok (.iand, 1) := by decide +kernel
theorem d15_14 : decode prog_23_method_5_code 14 = .ok (.iaload, 1) := by decide +kernel
theorem d15_15 : decode prog_23_method_5_code 15 = .ok (.ireturn, 1) := by decide +kernel
theorem ef_rm_get (m : MethodId) (x0 : Addr) (x1 : Int32) : entryFrame m #[(.ref x0), (.int x1)] 2 = mkF m 0 #[.val (.ref x0), .val (.int x1)] [] := by first | (simp [entryFrame, mkF, argsToLocals, Value.category]; done) | rfl
def Q_rm_get (Z : State) (r0 : Addr) (a nb np : Nat) (P : Addr) (G : Nat → Addr) (mem : Nat → Int32) (h0 : Heap) (n0 : Nat) (v : Option Value) (h : Heap) (L : List Loc) : Prop := v = some (.int (mem a)) ∧ Fr n0 L ∧ h = h0
set_option maxRecDepth 65536 in
set_option maxHeartbeats 40000000 in
theorem rm_get (l : Launch) (Z : State) (a0 : Array Value) (hw : ∀ d ∈ tables_1, d.before a0 Z = true) (ws : List Jvm.Cond) (r0 : Addr) (a nb np : Nat) (P : Addr) (G : Nat → Addr) (mem : Nat → Int32) (h0 : Heap) (n0 : Nat) (Z0 : n0 ≤ h0.size) (hn0 : n0 ≤ nb) (hnp : np ≤ 5) (ha : a < 2048 * np) (M0 : Mp Z h0 nb r0 P np G mem) :
    MetFree l (⟨"rowpack/growable/IntSpace", "getInt", "(I)I"⟩ : MethodName) (head1 (Jvm.Cond.code (⟨"rowpack/growable/IntSpace", "getInt", "(I)I"⟩ : MethodName) prog_23_method_5_code 2 (some .int) :: ws) ({ frames := 0, cells := 0, slots := 0, locals := 0 } : Room)) (fun az Uz => az = #[(.ref r0), (.int (Int32.ofNat a))] ∧ Z.Warmed39 Uz.vm ∧ Uz.heap = h0) (fun _ _ _ _ _ => True) (fun _ Uz oz Vz => ∃ vz Lz, oz = .returned vz ∧ Q_rm_get Z r0 a nb np P G mem h0 n0 vz Vz.heap Lz ∧ FrameEnd Uz oz Vz Lz ({ frames := 0, cells := 0, slots := 0, locals := 0 } : Room).cells ({ frames := 0, cells := 0, slots := 0, locals := 0 } : Room).slots) := by
  refine MetFree.of_bodySF (plainFor_of_name own_pn0) hisR ?_
  intro p e s m args below meth c s₁ Bd hml0 hP hK
  obtain ⟨rfl, hZ, hh⟩ := hP
  have hx := Bd.exec
  have hby := Bd.bytes
  have hml : c.maxLocals = 2 := hml0
  have hown : s.vm.findClass "rowpack/growable/IntSpace" = some m.cls := findClass_of_methodNamed Bd.named
  have hnm := (name_of_methodNamed Bd.named Bd.method).1
  have X0 : Stand p l e ({ frames := 0, cells := 0, slots := 0, locals := 0 } : Room) s m #[(.ref r0), (.int (Int32.ofNat a))] below meth c s₁ [] 0 0 := Stand.of_body Bd
  have e0 : s₁.heap = h0 := by rw [← hh, Bd.state]; rfl
  have N0 := Fr.nil n0
  have K0 : Keep h0 h0 [] := Keep.refl _ _
  refine Go.enter (Q := Q_rm_get Z r0 a nb np P G mem h0 n0) (C := ({ frames := 0, cells := 0, slots := 0, locals := 0 } : Room).cells) (S := ({ frames := 0, cells := 0, slots := 0, locals := 0 } : Room).slots) (ef_rm_get m r0 (Int32.ofNat a)) ?_
  refine Go.step (fun _ zz => XS.aloadN X0.here hx rfl (hb hby d15_0) rfl rfl zz) ?_
  show Go _ _ _ _ s₁ (mkF m 1 #[.val (.ref r0), .val (.int (Int32.ofNat a))] [(.ref r0)])
  obtain ⟨T1, X1, e1, st1⟩ := getF X0 hx hZ hown (host := "") (Or.inl (hw _ (List.mem_of_getElem? (i := 13) rfl))) Via.refl e0 M0.2.1 (g := (mkF m 1 #[.val (.ref r0), .val (.int (Int32.ofNat a))] [(.ref r0)])) rfl rfl (hb hby d15_1)
  refine Go.step st1 ?_
  show Go _ _ _ _ T1 (mkF m 4 #[.val (.ref r0), .val (.int (Int32.ofNat a))] [(.ref P)])
  refine Go.step (fun _ zz => XS.iloadN X1.here hx rfl (hb hby d15_4) rfl zz) ?_
  show Go _ _ _ _ T1 (mkF m 5 #[.val (.ref r0), .val (.int (Int32.ofNat a))] [(.int (Int32.ofNat a)), (.ref P)])
  refine Go.step (fun _ zz => XS.bipush X1.here hx rfl (hb hby d15_5) zz) ?_
  show Go _ _ _ _ T1 (mkF m 7 #[.val (.ref r0), .val (.int (Int32.ofNat a))] [(.int (11 : Int32)), (.int (Int32.ofNat a)), (.ref P)])
  refine Go.step (fun _ zz => XS.iushr X1.here hx rfl (hb hby d15_7) rfl zz) ?_
  show Go _ _ _ _ T1 (mkF m 8 #[.val (.ref r0), .val (.int (Int32.ofNat a))] [(.int (((Int32.ofNat a).toUInt32 >>> ((11 : Int32) &&& 31).toUInt32).toInt32)), (.ref P)])
  rw [own_shr11 a (by omega)]
  show Go _ _ _ _ T1 (mkF m 8 #[.val (.ref r0), .val (.int (Int32.ofNat a))] [(.int (Int32.ofNat (a / 2048))), (.ref P)])
  have hk : a / 2048 < np := by omega
  obtain ⟨cD, AD, qD, -, sD⟩ := M0.2.2.1
  have hin2 : ¬ ((Int32.ofNat (a / 2048)) < 0 ∨ cD.slots.size ≤ ((Int32.ofNat (a / 2048))).toNatClampNeg) := by rw [own_cl _ (by omega), qD]; exact fun q => q.elim (own_nn _ (by omega)) (fun q => by omega)
  have hat2 : cD.slots[((Int32.ofNat (a / 2048))).toNatClampNeg]? = some (.ref (G (a / 2048))) := by rw [own_cl _ (by omega)]; exact sD _ hk
  refine Go.step (fun _ zz => X1.aaload hx (j := (Int32.ofNat (a / 2048))) (v := (.ref (G (a / 2048)))) (by rw [e1]; exact AD.1) (State.isArrayOf_alike hZ.alike AD.2.1) rfl AD.2.2 hin2 hat2 (g := (mkF m 8 #[.val (.ref r0), .val (.int (Int32.ofNat a))] [(.int (Int32.ofNat (a / 2048))), (.ref P)])) rfl rfl (hb hby d15_8) _ zz) ?_
  show Go _ _ _ _ T1 (mkF m 9 #[.val (.ref r0), .val (.int (Int32.ofNat a))] [(.ref (G (a / 2048)))])
  refine Go.step (fun _ zz => XS.iloadN X1.here hx rfl (hb hby d15_9) rfl zz) ?_
  show Go _ _ _ _ T1 (mkF m 10 #[.val (.ref r0), .val (.int (Int32.ofNat a))] [(.int (Int32.ofNat a)), (.ref (G (a / 2048)))])
  refine Go.step (fun _ zz => XS.sipush X1.here hx rfl (hb hby d15_10) zz) ?_
  show Go _ _ _ _ T1 (mkF m 13 #[.val (.ref r0), .val (.int (Int32.ofNat a))] [(.int (2047 : Int32)), (.int (Int32.ofNat a)), (.ref (G (a / 2048)))])
  refine Go.step (fun _ zz => XS.iand X1.here hx rfl (hb hby d15_13) rfl zz) ?_
  show Go _ _ _ _ T1 (mkF m 14 #[.val (.ref r0), .val (.int (Int32.ofNat a))] [(.int ((Int32.ofNat a) &&& (2047 : Int32))), (.ref (G (a / 2048)))])
  rw [own_msk a (by omega)]
  show Go _ _ _ _ T1 (mkF m 14 #[.val (.ref r0), .val (.int (Int32.ofNat a))] [(.int (Int32.ofNat (a % 2048))), (.ref (G (a / 2048)))])
  obtain ⟨cP, AP, qP, sP⟩ := M0.2.2.2.1 _ hk
  have hm : a % 2048 < 2048 := Nat.mod_lt _ (by decide)
  have hin3 : ¬ ((Int32.ofNat (a % 2048)) < 0 ∨ cP.slots.size ≤ ((Int32.ofNat (a % 2048))).toNatClampNeg) := by rw [own_cl _ (by omega), qP]; exact fun q => q.elim (own_nn _ (by omega)) (fun q => by omega)
  have hat3 : cP.slots[((Int32.ofNat (a % 2048))).toNatClampNeg]? = some (.int (mem a)) := by rw [own_cl _ (by omega), sP _ hm]; show some (Value.int (mem (2048 * (a / 2048) + a % 2048))) = _; rw [Nat.div_add_mod]
  refine Go.step (fun _ zz => X1.iaload hx (j := (Int32.ofNat (a % 2048))) (v := (.int (mem a))) (by rw [e1]; exact AP.1) (State.isArrayOf_alike hZ.alike AP.2.1) AP.2.2 hin3 hat3 (g := (mkF m 14 #[.val (.ref r0), .val (.int (Int32.ofNat a))] [(.int (Int32.ofNat (a % 2048))), (.ref (G (a / 2048)))])) rfl rfl (hb hby d15_14) _ zz) ?_
  show Go _ _ _ _ T1 (mkF m 15 #[.val (.ref r0), .val (.int (Int32.ofNat a))] [(.int (mem a))])
  exact Go.retI X1 hx Bd.returns (hb hby d15_15) Bd.notSynchronized (⟨rfl, N0, e1⟩) (by decide) (by decide)
theorem d10_0 : decode prog_23_method_7_code 0 = .ok (.aload_n 0, 1) := by decide +kernel
theorem d10_1 : decode prog_23_method_7_code 1 = .ok (.getfield 13, 3) := by decide +kernel
theorem d10_4 : decode prog_23_method_7_code 4 = .ok (.iload_n 1, 1) := by decide +kernel
theorem d10_5 : decode prog_23_method_7_code 5 = .ok (.bipush 11, 2) := by decide +kernel
theorem d10_7 : decode prog_23_method_7_code 7 = .ok (.iushr, 1) := by decide +kernel
theorem d10_8 : decode prog_23_method_7_code 8 = .ok (.aaload, 1) := by decide +kernel
theorem d10_9 : decode prog_23_method_7_code 9 = .ok (.iload_n 1, 1) := by decide +kernel
theorem d10_10 : decode prog_23_method_7_code 10 = .ok (.sipush 2047, 3) := by decide +kernel
theorem d10_13 : decode prog_23_method_7_code 13 = .ok (.iand, 1) := by decide +kernel
theorem d10_14 : decode prog_23_method_7_code 14 = .ok (.iload_n 2, 1) := by decide +kernel
theorem d10_15 : decode prog_23_method_7_code 15 = .ok (.iastore, 1) := by decide +kernel
theorem d10_16 : decode prog_23_method_7_code 16 = .ok (.return_, 1) := by decide +kernel
theorem ef_rm_set (m : MethodId) (x0 : Addr) (x1 : Int32) (x2 : Int32) : entryFrame m #[(.ref x0), (.int x1), (.int x2)] 3 = mkF m 0 #[.val (.ref x0), .val (.int x1), .val (.int x2)] [] := by first | (simp [entryFrame, mkF, argsToLocals, Value.category]; done) | rfl
def Q_rm_set (Z : State) (r0 : Addr) (a nb np : Nat) (P : Addr) (G : Nat → Addr) (mem : Nat → Int32) (p2 : Int32) (h0 : Heap) (n0 : Nat) (v : Option Value) (h : Heap) (L : List Loc) : Prop := v = none ∧ Fr n0 L ∧ Keep h0 h [G (a / 2048)] ∧ Mp Z h nb r0 P np G (fun i => if i = a then p2 else mem i)
set_option maxRecDepth 65536 in
set_option maxHeartbeats 40000000 in
theorem rm_set (l : Launch) (Z : State) (a0 : Array Value) (hw : ∀ d ∈ tables_1, d.before a0 Z = true) (ws : List Jvm.Cond) (r0 : Addr) (a nb np : Nat) (P : Addr) (G : Nat → Addr) (mem : Nat → Int32) (p2 : Int32) (h0 : Heap) (n0 : Nat) (Z0 : n0 ≤ h0.size) (hn0 : n0 ≤ nb) (hnp : np ≤ 5) (ha : a < 2048 * np) (M0 : Mp Z h0 nb r0 P np G mem) :
    MetFree l (⟨"rowpack/growable/IntSpace", "setInt", "(II)V"⟩ : MethodName) (head1 (Jvm.Cond.code (⟨"rowpack/growable/IntSpace", "setInt", "(II)V"⟩ : MethodName) prog_23_method_7_code 3 none :: ws) ({ frames := 0, cells := 0, slots := 0, locals := 0 } : Room)) (fun az Uz => az = #[(.ref r0), (.int (Int32.ofNat a)), (.int p2)] ∧ Z.Warmed39 Uz.vm ∧ Uz.heap = h0) (fun _ _ _ _ _ => True) (fun _ Uz oz Vz => ∃ vz Lz, oz = .returned vz ∧ Q_rm_set Z r0 a nb np P G mem p2 h0 n0 vz Vz.heap Lz ∧ FrameEnd Uz oz Vz Lz ({ frames := 0, cells := 0, slots := 0, locals := 0 } : Room).cells ({ frames := 0, cells := 0, slots := 0, locals := 0 } : Room).slots) := by
  refine MetFree.of_bodySF (plainFor_of_name own_pn0) hisR ?_
  intro p e s m args below meth c s₁ Bd hml0 hP hK
  obtain ⟨rfl, hZ, hh⟩ := hP
  have hx := Bd.exec
  have hby := Bd.bytes
  have hml : c.maxLocals = 3 := hml0
  have hown : s.vm.findClass "rowpack/growable/IntSpace" = some m.cls := findClass_of_methodNamed Bd.named
  have hnm := (name_of_methodNamed Bd.named Bd.method).1
  have X0 : Stand p l e ({ frames := 0, cells := 0, slots := 0, locals := 0 } : Room) s m #[(.ref r0), (.int (Int32.ofNat a)), (.int p2)] below meth c s₁ [] 0 0 := Stand.of_body Bd
  have e0 : s₁.heap = h0 := by rw [← hh, Bd.state]; rfl
  have N0 := Fr.nil n0
  have K0 : Keep h0 h0 [] := Keep.refl _ _
  refine Go.enter (Q := Q_rm_set Z r0 a nb np P G mem p2 h0 n0) (C := ({ frames := 0, cells := 0, slots := 0, locals := 0 } : Room).cells) (S := ({ frames := 0, cells := 0, slots := 0, locals := 0 } : Room).slots) (ef_rm_set m r0 (Int32.ofNat a) p2) ?_
  refine Go.step (fun _ zz => XS.aloadN X0.here hx rfl (hb hby d10_0) rfl rfl zz) ?_
  show Go _ _ _ _ s₁ (mkF m 1 #[.val (.ref r0), .val (.int (Int32.ofNat a)), .val (.int p2)] [(.ref r0)])
  obtain ⟨T1, X1, e1, st1⟩ := getF X0 hx hZ hown (host := "") (Or.inl (hw _ (List.mem_of_getElem? (i := 13) rfl))) Via.refl e0 M0.2.1 (g := (mkF m 1 #[.val (.ref r0), .val (.int (Int32.ofNat a)), .val (.int p2)] [(.ref r0)])) rfl rfl (hb hby d10_1)
  refine Go.step st1 ?_
  show Go _ _ _ _ T1 (mkF m 4 #[.val (.ref r0), .val (.int (Int32.ofNat a)), .val (.int p2)] [(.ref P)])
  refine Go.step (fun _ zz => XS.iloadN X1.here hx rfl (hb hby d10_4) rfl zz) ?_
  show Go _ _ _ _ T1 (mkF m 5 #[.val (.ref r0), .val (.int (Int32.ofNat a)), .val (.int p2)] [(.int (Int32.ofNat a)), (.ref P)])
  refine Go.step (fun _ zz => XS.bipush X1.here hx rfl (hb hby d10_5) zz) ?_
  show Go _ _ _ _ T1 (mkF m 7 #[.val (.ref r0), .val (.int (Int32.ofNat a)), .val (.int p2)] [(.int (11 : Int32)), (.int (Int32.ofNat a)), (.ref P)])
  refine Go.step (fun _ zz => XS.iushr X1.here hx rfl (hb hby d10_7) rfl zz) ?_
  show Go _ _ _ _ T1 (mkF m 8 #[.val (.ref r0), .val (.int (Int32.ofNat a)), .val (.int p2)] [(.int (((Int32.ofNat a).toUInt32 >>> ((11 : Int32) &&& 31).toUInt32).toInt32)), (.ref P)])
  rw [own_shr11 a (by omega)]
  show Go _ _ _ _ T1 (mkF m 8 #[.val (.ref r0), .val (.int (Int32.ofNat a)), .val (.int p2)] [(.int (Int32.ofNat (a / 2048))), (.ref P)])
  have hk : a / 2048 < np := by omega
  obtain ⟨cD, AD, qD, -, sD⟩ := M0.2.2.1
  have hin2 : ¬ ((Int32.ofNat (a / 2048)) < 0 ∨ cD.slots.size ≤ ((Int32.ofNat (a / 2048))).toNatClampNeg) := by rw [own_cl _ (by omega), qD]; exact fun q => q.elim (own_nn _ (by omega)) (fun q => by omega)
  have hat2 : cD.slots[((Int32.ofNat (a / 2048))).toNatClampNeg]? = some (.ref (G (a / 2048))) := by rw [own_cl _ (by omega)]; exact sD _ hk
  refine Go.step (fun _ zz => X1.aaload hx (j := (Int32.ofNat (a / 2048))) (v := (.ref (G (a / 2048)))) (by rw [e1]; exact AD.1) (State.isArrayOf_alike hZ.alike AD.2.1) rfl AD.2.2 hin2 hat2 (g := (mkF m 8 #[.val (.ref r0), .val (.int (Int32.ofNat a)), .val (.int p2)] [(.int (Int32.ofNat (a / 2048))), (.ref P)])) rfl rfl (hb hby d10_8) _ zz) ?_
  show Go _ _ _ _ T1 (mkF m 9 #[.val (.ref r0), .val (.int (Int32.ofNat a)), .val (.int p2)] [(.ref (G (a / 2048)))])
  refine Go.step (fun _ zz => XS.iloadN X1.here hx rfl (hb hby d10_9) rfl zz) ?_
  show Go _ _ _ _ T1 (mkF m 10 #[.val (.ref r0), .val (.int (Int32.ofNat a)), .val (.int p2)] [(.int (Int32.ofNat a)), (.ref (G (a / 2048)))])
  refine Go.step (fun _ zz => XS.sipush X1.here hx rfl (hb hby d10_10) zz) ?_
  show Go _ _ _ _ T1 (mkF m 13 #[.val (.ref r0), .val (.int (Int32.ofNat a)), .val (.int p2)] [(.int (2047 : Int32)), (.int (Int32.ofNat a)), (.ref (G (a / 2048)))])
  refine Go.step (fun _ zz => XS.iand X1.here hx rfl (hb hby d10_13) rfl zz) ?_
  show Go _ _ _ _ T1 (mkF m 14 #[.val (.ref r0), .val (.int (Int32.ofNat a)), .val (.int p2)] [(.int ((Int32.ofNat a) &&& (2047 : Int32))), (.ref (G (a / 2048)))])
  rw [own_msk a (by omega)]
  show Go _ _ _ _ T1 (mkF m 14 #[.val (.ref r0), .val (.int (Int32.ofNat a)), .val (.int p2)] [(.int (Int32.ofNat (a % 2048))), (.ref (G (a / 2048)))])
  refine Go.step (fun _ zz => XS.iloadN X1.here hx rfl (hb hby d10_14) rfl zz) ?_
  show Go _ _ _ _ T1 (mkF m 15 #[.val (.ref r0), .val (.int (Int32.ofNat a)), .val (.int p2)] [(.int p2), (.int (Int32.ofNat (a % 2048))), (.ref (G (a / 2048)))])
  obtain ⟨cP, AP, qP, sP⟩ := M0.2.2.2.1 _ hk
  have hm : a % 2048 < 2048 := Nat.mod_lt _ (by decide)
  have hin3 : ¬ ((Int32.ofNat (a % 2048)) < 0 ∨ cP.slots.size ≤ ((Int32.ofNat (a % 2048))).toNatClampNeg) := by rw [own_cl _ (by omega), qP]; exact fun q => q.elim (own_nn _ (by omega)) (fun q => by omega)
  obtain ⟨T4, h4, X4, e4, W4, st4⟩ := stI X1 hx hZ e1 AP (j := (Int32.ofNat (a % 2048))) hin3 (g := (mkF m 15 #[.val (.ref r0), .val (.int (Int32.ofNat a)), .val (.int p2)] [(.int p2), (.int (Int32.ofNat (a % 2048))), (.ref (G (a / 2048)))])) rfl rfl (hb hby d10_15)
  refine Go.step st4 ?_
  have N4 := Fr.snoc X4 N0 (Nat.le_trans hn0 (M0.2.2.2.2.1.2.2 _ hk))
  rw [own_cl _ (by omega)] at W4
  show Go _ _ _ _ T4 (mkF m 16 #[.val (.ref r0), .val (.int (Int32.ofNat a)), .val (.int p2)] [])
  exact Go.retV X4 hx Bd.returns (hb hby d10_16) Bd.notSynchronized (by rw [e4]; exact ⟨rfl, N4, Keep.of_wr W4, M0.set ha W4⟩) (by decide) (by decide)
theorem d13_0 : decode jdk_29_method_65_code 0 = .ok (.iload_n 0, 1) := by decide +kernel
theorem d13_1 : decode jdk_29_method_65_code 1 = .ok (.iload_n 1, 1) := by decide +kernel
theorem d13_2 : decode jdk_29_method_65_code 2 = .ok (.if_icmp .lt 7, 3) := by decide +kernel
theorem d13_5 : decode jdk_29_method_65_code 5 = .ok (.iload_n 0, 1) := by decide +kernel
theorem d13_6 : decode jdk_29_method_65_code 6 = .ok (.goto 4, 3) := by decide +kernel
theorem d13_9 : decode jdk_29_method_65_code 9 = .ok (.iload_n 1, 1) := by decide +kernel
theorem d13_10 : decode jdk_29_method_65_code 10 = .ok (.ireturn, 1) := by decide +kernel
theorem ef_rm13 (m : MethodId) (x0 : Int32) (x1 : Int32) : entryFrame m #[(.int x0), (.int x1)] 2 = mkF m 0 #[.val (.int x0), .val (.int x1)] [] := by first | (simp [entryFrame, mkF, argsToLocals, Value.category]; done) | rfl
def own_f13 (p0 : Int32) (p1 : Int32) : Int32 := (if p0 < p1 then p1 else p0)
def Q_rm13 (Z : State) (p0 : Int32) (p1 : Int32) (h0 : Heap) (n0 : Nat) (v : Option Value) (h : Heap) (L : List Loc) : Prop := v = some (Value.int (own_f13 p0 p1)) ∧ Fr n0 L ∧ h = h0
set_option maxRecDepth 65536 in
set_option maxHeartbeats 40000000 in
theorem rm13 (l : Launch) (Z : State) (a0 : Array Value) (hw : ∀ d ∈ tables_1, d.before a0 Z = true) (ws : List Jvm.Cond) (p0 : Int32) (p1 : Int32) (h0 : Heap) (n0 : Nat) (Z0 : n0 ≤ h0.size) :
    MetFree l (⟨"java/lang/Math", "max", "(II)I"⟩ : MethodName) (head1 (Jvm.Cond.code (⟨"java/lang/Math", "max", "(II)I"⟩ : MethodName) jdk_29_method_65_code 2 (some .int) :: ws) ({ frames := 0, cells := 0, slots := 0, locals := 0 } : Room)) (fun az Uz => az = #[(.int p0), (.int p1)] ∧ Z.Warmed39 Uz.vm ∧ Uz.heap = h0) (fun _ _ _ _ _ => True) (fun _ Uz oz Vz => ∃ vz Lz, oz = .returned vz ∧ Q_rm13 Z p0 p1 h0 n0 vz Vz.heap Lz ∧ FrameEnd Uz oz Vz Lz ({ frames := 0, cells := 0, slots := 0, locals := 0 } : Room).cells ({ frames := 0, cells := 0, slots := 0, locals := 0 } : Room).slots) := by
  refine MetFree.of_bodySF (Jvm.Free.JP.mathPlain rfl (by decide +kernel)) hisR ?_
  intro p e s m args below meth c s₁ Bd hml0 hP hK
  obtain ⟨rfl, hZ, hh⟩ := hP
  have hx := Bd.exec
  have hby := Bd.bytes
  have hml : c.maxLocals = 2 := hml0
  have hown : s.vm.findClass "java/lang/Math" = some m.cls := findClass_of_methodNamed Bd.named
  have hnm := (name_of_methodNamed Bd.named Bd.method).1
  have X0 : Stand p l e ({ frames := 0, cells := 0, slots := 0, locals := 0 } : Room) s m #[(.int p0), (.int p1)] below meth c s₁ [] 0 0 := Stand.of_body Bd
  have e0 : s₁.heap = h0 := by rw [← hh, Bd.state]; rfl
  have N0 := Fr.nil n0
  have K0 : Keep h0 h0 [] := Keep.refl _ _
  refine Go.enter (Q := Q_rm13 Z p0 p1 h0 n0) (C := ({ frames := 0, cells := 0, slots := 0, locals := 0 } : Room).cells) (S := ({ frames := 0, cells := 0, slots := 0, locals := 0 } : Room).slots) (ef_rm13 m p0 p1) ?_
  refine Go.step (fun _ zz => XS.iloadN X0.here hx rfl (hb hby d13_0) rfl zz) ?_
  show Go _ _ _ _ s₁ (mkF m 1 #[.val (.int p0), .val (.int p1)] [(.int p0)])
  refine Go.step (fun _ zz => XS.iloadN X0.here hx rfl (hb hby d13_1) rfl zz) ?_
  show Go _ _ _ _ s₁ (mkF m 2 #[.val (.int p0), .val (.int p1)] [(.int p1), (.int p0)])
  by_cases hc2 : p0 < p1
  · refine Go.step (fun _ zz => XS.icmpYes X0.here hx rfl (pc0 := 2) (pc' := 9) rfl (hb hby d13_2) rfl (tlt hc2).1 (by decide) (by decide) zz) ?_
    show Go _ _ _ _ s₁ (mkF m 9 #[.val (.int p0), .val (.int p1)] [])
    refine Go.step (fun _ zz => XS.iloadN X0.here hx rfl (hb hby d13_9) rfl zz) ?_
    show Go _ _ _ _ s₁ (mkF m 10 #[.val (.int p0), .val (.int p1)] [(.int p1)])
    exact Go.retI X0 hx Bd.returns (hb hby d13_10) Bd.notSynchronized (⟨congrArg (fun q => some (Value.int q)) (show own_f13 p0 p1 = p1 from by unfold own_f13; rw [if_pos hc2]).symm, N0, e0⟩) (by decide) (by decide)
  · refine Go.step (fun _ zz => XS.icmpNo X0.here hx rfl (hb hby d13_2) rfl (flt hc2).1 zz) ?_
    show Go _ _ _ _ s₁ (mkF m 5 #[.val (.int p0), .val (.int p1)] [])
    refine Go.step (fun _ zz => XS.iloadN X0.here hx rfl (hb hby d13_5) rfl zz) ?_
    show Go _ _ _ _ s₁ (mkF m 6 #[.val (.int p0), .val (.int p1)] [(.int p0)])
    refine Go.step (fun _ zz => XS.goto X0.here hx rfl (pc0 := 6) (pc' := 10) rfl (hb hby d13_6) (by decide) (by decide) zz) ?_
    show Go _ _ _ _ s₁ (mkF m 10 #[.val (.int p0), .val (.int p1)] [(.int p0)])
    exact Go.retI X0 hx Bd.returns (hb hby d13_10) Bd.notSynchronized (⟨congrArg (fun q => some (Value.int q)) (show own_f13 p0 p1 = p0 from by unfold own_f13; rw [if_neg hc2]).symm, N0, e0⟩) (by decide) (by decide)
theorem d14_0 : decode jdk_29_method_69_code 0 = .ok (.iload_n 0, 1) := by decide +kernel
theorem d14_1 : decode jdk_29_method_69_code 1 = .ok (.iload_n 1, 1) := by decide +kernel
theorem d14_2 : decode jdk_29_method_69_code 2 = .ok (.if_icmp .gt 7, 3) := by decide +kernel
theorem d14_5 : decode jdk_29_method_69_code 5 = .ok (.iload_n 0, 1) := by decide +kernel
theorem d14_6 : decode jdk_29_method_69_code 6 = .ok (.goto 4, 3) := by decide +kernel
theorem d14_9 : decode jdk_29_method_69_code 9 = .ok (.iload_n 1, 1) := by decide +kernel
theorem d14_10 : decode jdk_29_method_69_code 10 = .ok (.ireturn, 1) := by decide +kernel
theorem ef_rm14 (m : MethodId) (x0 : Int32) (x1 : Int32) : entryFrame m #[(.int x0), (.int x1)] 2 = mkF m 0 #[.val (.int x0), .val (.int x1)] [] := by first | (simp [entryFrame, mkF, argsToLocals, Value.category]; done) | rfl
def own_f14 (p0 : Int32) (p1 : Int32) : Int32 := (if p1 < p0 then p1 else p0)
def Q_rm14 (Z : State) (p0 : Int32) (p1 : Int32) (h0 : Heap) (n0 : Nat) (v : Option Value) (h : Heap) (L : List Loc) : Prop := v = some (Value.int (own_f14 p0 p1)) ∧ Fr n0 L ∧ h = h0
set_option maxRecDepth 65536 in
set_option maxHeartbeats 40000000 in
theorem rm14 (l : Launch) (Z : State) (a0 : Array Value) (hw : ∀ d ∈ tables_1, d.before a0 Z = true) (ws : List Jvm.Cond) (p0 : Int32) (p1 : Int32) (h0 : Heap) (n0 : Nat) (Z0 : n0 ≤ h0.size) :
    MetFree l (⟨"java/lang/Math", "min", "(II)I"⟩ : MethodName) (head1 (Jvm.Cond.code (⟨"java/lang/Math", "min", "(II)I"⟩ : MethodName) jdk_29_method_69_code 2 (some .int) :: ws) ({ frames := 0, cells := 0, slots := 0, locals := 0 } : Room)) (fun az Uz => az = #[(.int p0), (.int p1)] ∧ Z.Warmed39 Uz.vm ∧ Uz.heap = h0) (fun _ _ _ _ _ => True) (fun _ Uz oz Vz => ∃ vz Lz, oz = .returned vz ∧ Q_rm14 Z p0 p1 h0 n0 vz Vz.heap Lz ∧ FrameEnd Uz oz Vz Lz ({ frames := 0, cells := 0, slots := 0, locals := 0 } : Room).cells ({ frames := 0, cells := 0, slots := 0, locals := 0 } : Room).slots) := by
  refine MetFree.of_bodySF (Jvm.Free.JP.mathPlain rfl (by decide +kernel)) hisR ?_
  intro p e s m args below meth c s₁ Bd hml0 hP hK
  obtain ⟨rfl, hZ, hh⟩ := hP
  have hx := Bd.exec
  have hby := Bd.bytes
  have hml : c.maxLocals = 2 := hml0
  have hown : s.vm.findClass "java/lang/Math" = some m.cls := findClass_of_methodNamed Bd.named
  have hnm := (name_of_methodNamed Bd.named Bd.method).1
  have X0 : Stand p l e ({ frames := 0, cells := 0, slots := 0, locals := 0 } : Room) s m #[(.int p0), (.int p1)] below meth c s₁ [] 0 0 := Stand.of_body Bd
  have e0 : s₁.heap = h0 := by rw [← hh, Bd.state]; rfl
  have N0 := Fr.nil n0
  have K0 : Keep h0 h0 [] := Keep.refl _ _
  refine Go.enter (Q := Q_rm14 Z p0 p1 h0 n0) (C := ({ frames := 0, cells := 0, slots := 0, locals := 0 } : Room).cells) (S := ({ frames := 0, cells := 0, slots := 0, locals := 0 } : Room).slots) (ef_rm14 m p0 p1) ?_
  refine Go.step (fun _ zz => XS.iloadN X0.here hx rfl (hb hby d14_0) rfl zz) ?_
  show Go _ _ _ _ s₁ (mkF m 1 #[.val (.int p0), .val (.int p1)] [(.int p0)])
  refine Go.step (fun _ zz => XS.iloadN X0.here hx rfl (hb hby d14_1) rfl zz) ?_
  show Go _ _ _ _ s₁ (mkF m 2 #[.val (.int p0), .val (.int p1)] [(.int p1), (.int p0)])
  by_cases hc2 : p1 < p0
  · refine Go.step (fun _ zz => XS.icmpYes X0.here hx rfl (pc0 := 2) (pc' := 9) rfl (hb hby d14_2) rfl (tlt hc2).2.2.1 (by decide) (by decide) zz) ?_
    show Go _ _ _ _ s₁ (mkF m 9 #[.val (.int p0), .val (.int p1)] [])
    refine Go.step (fun _ zz => XS.iloadN X0.here hx rfl (hb hby d14_9) rfl zz) ?_
    show Go _ _ _ _ s₁ (mkF m 10 #[.val (.int p0), .val (.int p1)] [(.int p1)])
    exact Go.retI X0 hx Bd.returns (hb hby d14_10) Bd.notSynchronized (⟨congrArg (fun q => some (Value.int q)) (show own_f14 p0 p1 = p1 from by unfold own_f14; rw [if_pos hc2]).symm, N0, e0⟩) (by decide) (by decide)
  · refine Go.step (fun _ zz => XS.icmpNo X0.here hx rfl (hb hby d14_2) rfl (flt hc2).2.2.1 zz) ?_
    show Go _ _ _ _ s₁ (mkF m 5 #[.val (.int p0), .val (.int p1)] [])
    refine Go.step (fun _ zz => XS.iloadN X0.here hx rfl (hb hby d14_5) rfl zz) ?_
    show Go _ _ _ _ s₁ (mkF m 6 #[.val (.int p0), .val (.int p1)] [(.int p0)])
    refine Go.step (fun _ zz => XS.goto X0.here hx rfl (pc0 := 6) (pc' := 10) rfl (hb hby d14_6) (by decide) (by decide) zz) ?_
    show Go _ _ _ _ s₁ (mkF m 10 #[.val (.int p0), .val (.int p1)] [(.int p0)])
    exact Go.retI X0 hx Bd.returns (hb hby d14_10) Bd.notSynchronized (⟨congrArg (fun q => some (Value.int q)) (show own_f14 p0 p1 = p0 from by unfold own_f14; rw [if_neg hc2]).symm, N0, e0⟩) (by decide) (by decide)
theorem own_pd6 : parseMethodDescriptor "(II)I" = some ⟨[.int, .int], some .int⟩ := by decide +kernel
theorem d12_0 : decode prog_23_method_31_code 0 = .ok (.iload_n 0, 1) := by decide +kernel
theorem d12_1 : decode prog_23_method_31_code 1 = .ok (.sipush 2040, 3) := by decide +kernel
theorem d12_4 : decode prog_23_method_31_code 4 = .ok (.invokestatic 122, 3) := by decide +kernel
theorem d12_7 : decode prog_23_method_31_code 7 = .ok (.iload_n 1, 1) := by decide +kernel
theorem d12_8 : decode prog_23_method_31_code 8 = .ok (.iadd, 1) := by decide +kernel
theorem d12_9 : decode prog_23_method_31_code 9 = .ok (.sipush 2048, 3) := by decide +kernel
theorem d12_12 : decode prog_23_method_31_code 12 = .ok (.if_icmp .gt 7, 3) := by decide +kernel
theorem d12_15 : decode prog_23_method_31_code 15 = .ok (.iconst 1, 1) := by decide +kernel
theorem d12_16 : decode prog_23_method_31_code 16 = .ok (.goto 4, 3) := by decide +kernel
theorem d12_19 : decode prog_23_method_31_code 19 = .ok (.iconst 0, 1) := by decide +kernel
theorem d12_20 : decode prog_23_method_31_code 20 = .ok (.ireturn, 1) := by decide +kernel
theorem ef_rm12 (m : MethodId) (x0 : Int32) (x1 : Int32) : entryFrame m #[(.int x0), (.int x1)] 2 = mkF m 0 #[.val (.int x0), .val (.int x1)] [] := by first | (simp [entryFrame, mkF, argsToLocals, Value.category]; done) | rfl
def own_f12 (p0 : Int32) (p1 : Int32) : Int32 := (if (2048 : Int32) < ((own_f13 p0 (2040 : Int32)) + p1) then (0 : Int32) else (1 : Int32))
def Q_rm12 (Z : State) (p0 : Int32) (p1 : Int32) (h0 : Heap) (n0 : Nat) (v : Option Value) (h : Heap) (L : List Loc) : Prop := v = some (Value.int (own_f12 p0 p1)) ∧ Fr n0 L ∧ h = h0
set_option maxRecDepth 65536 in
set_option maxHeartbeats 40000000 in
theorem rm12 (l : Launch) (Z : State) (a0 : Array Value) (hw : ∀ d ∈ tables_1, d.before a0 Z = true) (ws : List Jvm.Cond) (p0 : Int32) (p1 : Int32) (h0 : Heap) (n0 : Nat) (Z0 : n0 ≤ h0.size) :
    MetFree l (⟨"rowpack/growable/IntSpace", "isShortInOnePage", "(II)Z"⟩ : MethodName) (head1 (Jvm.Cond.code (⟨"rowpack/growable/IntSpace", "isShortInOnePage", "(II)Z"⟩ : MethodName) prog_23_method_31_code 2 (some .boolean) :: ws) ({ frames := 1, cells := 0, slots := 0, locals := 13 } : Room)) (fun az Uz => az = #[(.int p0), (.int p1)] ∧ Z.Warmed39 Uz.vm ∧ Uz.heap = h0) (fun _ _ _ _ _ => True) (fun _ Uz oz Vz => ∃ vz Lz, oz = .returned vz ∧ Q_rm12 Z p0 p1 h0 n0 vz Vz.heap Lz ∧ FrameEnd Uz oz Vz Lz ({ frames := 1, cells := 0, slots := 0, locals := 13 } : Room).cells ({ frames := 1, cells := 0, slots := 0, locals := 13 } : Room).slots) := by
  refine MetFree.of_bodySF (plainFor_of_name own_pn0) hisR ?_
  intro p e s m args below meth c s₁ Bd hml0 hP hK
  obtain ⟨rfl, hZ, hh⟩ := hP
  have hx := Bd.exec
  have hby := Bd.bytes
  have hml : c.maxLocals = 2 := hml0
  have hown : s.vm.findClass "rowpack/growable/IntSpace" = some m.cls := findClass_of_methodNamed Bd.named
  have hnm := (name_of_methodNamed Bd.named Bd.method).1
  have X0 : Stand p l e ({ frames := 1, cells := 0, slots := 0, locals := 13 } : Room) s m #[(.int p0), (.int p1)] below meth c s₁ [] 0 0 := Stand.of_body Bd
  have e0 : s₁.heap = h0 := by rw [← hh, Bd.state]; rfl
  have N0 := Fr.nil n0
  have K0 : Keep h0 h0 [] := Keep.refl _ _
  refine Go.enter (Q := Q_rm12 Z p0 p1 h0 n0) (C := ({ frames := 1, cells := 0, slots := 0, locals := 13 } : Room).cells) (S := ({ frames := 1, cells := 0, slots := 0, locals := 13 } : Room).slots) (ef_rm12 m p0 p1) ?_
  refine Go.step (fun _ zz => XS.iloadN X0.here hx rfl (hb hby d12_0) rfl zz) ?_
  show Go _ _ _ _ s₁ (mkF m 1 #[.val (.int p0), .val (.int p1)] [(.int p0)])
  refine Go.step (fun _ zz => XS.sipush X0.here hx rfl (hb hby d12_1) zz) ?_
  show Go _ _ _ _ s₁ (mkF m 4 #[.val (.int p0), .val (.int p1)] [(.int (2040 : Int32)), (.int p0)])
  obtain ⟨_, _, ⟨T1, L1, k1, n1⟩, -, X1, ⟨Lc1, hQ1, l1, y1, z1⟩, st1⟩ := Jvm.LawKit.callS X0 hx (y := (⟨"java/lang/Math", "max", "(II)I"⟩ : MethodName)) hown (mvT hZ (hw _ (List.mem_of_getElem? (i := 79) rfl))) (mvT hZ (hw _ (List.mem_of_getElem? (i := 80) rfl))) (mvT hZ (hw _ (List.mem_of_getElem? (i := 64) rfl))) (mvT hZ (hw _ (List.mem_of_getElem? (i := 81) rfl))) (by decide) (backOf (W := 0) (rm13 l Z a0 hw [] p0 (2040 : Int32) h0 n0 Z0) hZ (hw _ (List.mem_of_getElem? (i := 81) rfl)) (hw _ (List.mem_of_getElem? (i := 64) rfl)) (by decide) (by decide)) (g := (mkF m 4 #[.val (.int p0), .val (.int p1)] [(.int (2040 : Int32)), (.int p0)])) rfl (by rw [hml]; rfl) (argsL := [(.int p0), (.int (2040 : Int32))]) (rest := []) (lenOf own_pd6 rfl) rfl (by show 2 * 0 + _ ≤ _; exact Nat.le_of_eq rfl) (hb hby d12_4) (fun _ _ => ⟨rfl, e0, (by decide : 0 + 0 ≤ _), (by decide : 0 + 0 ≤ _)⟩)
  dsimp only [Pt.U, Pt.locs, Pt.cells, Pt.slots] at X1 l1 y1 z1 st1 hQ1
  subst l1 y1 z1
  obtain ⟨rfl, N1q, e1⟩ := hQ1
  have N1 := Fr.app N0 N1q
  refine Go.step st1 ?_
  show Go _ _ _ _ T1 (mkF m 7 #[.val (.int p0), .val (.int p1)] [(.int (own_f13 p0 (2040 : Int32)))])
  refine Go.step (fun _ zz => XS.iloadN X1.here hx rfl (hb hby d12_7) rfl zz) ?_
  show Go _ _ _ _ T1 (mkF m 8 #[.val (.int p0), .val (.int p1)] [(.int p1), (.int (own_f13 p0 (2040 : Int32)))])
  refine Go.step (fun _ zz => XS.iadd X1.here hx rfl (hb hby d12_8) rfl zz) ?_
  show Go _ _ _ _ T1 (mkF m 9 #[.val (.int p0), .val (.int p1)] [(.int ((own_f13 p0 (2040 : Int32)) + p1))])
  refine Go.step (fun _ zz => XS.sipush X1.here hx rfl (hb hby d12_9) zz) ?_
  show Go _ _ _ _ T1 (mkF m 12 #[.val (.int p0), .val (.int p1)] [(.int (2048 : Int32)), (.int ((own_f13 p0 (2040 : Int32)) + p1))])
  by_cases hc12 : (2048 : Int32) < ((own_f13 p0 (2040 : Int32)) + p1)
  · refine Go.step (fun _ zz => XS.icmpYes X1.here hx rfl (pc0 := 12) (pc' := 19) rfl (hb hby d12_12) rfl (tlt hc12).2.2.1 (by decide) (by decide) zz) ?_
    show Go _ _ _ _ T1 (mkF m 19 #[.val (.int p0), .val (.int p1)] [])
    refine Go.step (fun _ zz => XS.iconst X1.here hx rfl (hb hby d12_19) zz) ?_
    show Go _ _ _ _ T1 (mkF m 20 #[.val (.int p0), .val (.int p1)] [(.int (0 : Int32))])
    exact Go.retN X1 hx (t := .boolean) Bd.returns (by simp) (hb hby d12_20) Bd.notSynchronized (z' := (0 : Int32)) (by decide) (⟨congrArg (fun q => some (Value.int q)) (show own_f12 p0 p1 = (0 : Int32) from by unfold own_f12; rw [if_pos hc12]).symm, N1, e1⟩) (by decide) (by decide)
  · refine Go.step (fun _ zz => XS.icmpNo X1.here hx rfl (hb hby d12_12) rfl (flt hc12).2.2.1 zz) ?_
    show Go _ _ _ _ T1 (mkF m 15 #[.val (.int p0), .val (.int p1)] [])
    refine Go.step (fun _ zz => XS.iconst X1.here hx rfl (hb hby d12_15) zz) ?_
    show Go _ _ _ _ T1 (mkF m 16 #[.val (.int p0), .val (.int p1)] [(.int (1 : Int32))])
    refine Go.step (fun _ zz => XS.goto X1.here hx rfl (pc0 := 16) (pc' := 20) rfl (hb hby d12_16) (by decide) (by decide) zz) ?_
    show Go _ _ _ _ T1 (mkF m 20 #[.val (.int p0), .val (.int p1)] [(.int (1 : Int32))])
    exact Go.retN X1 hx (t := .boolean) Bd.returns (by simp) (hb hby d12_20) Bd.notSynchronized (z' := (1 : Int32)) (by decide) (⟨congrArg (fun q => some (Value.int q)) (show own_f12 p0 p1 = (1 : Int32) from by unfold own_f12; rw [if_neg hc12]).symm, N1, e1⟩) (by decide) (by decide)
def own_mem1 (B : Nat) (w : Int32) (i : Nat) : Int32 := if i = B then w else 0
def own_mem (A B : Nat) (v w : Int32) (i : Nat) : Int32 := if i = A then v else if i = B then w else 0
theorem own_memA (A B : Nat) (v w : Int32) : own_mem A B v w A = v := if_pos rfl
theorem own_memB (A B : Nat) (v w : Int32) (ha : A < 2147483648) (hb : B < 2147483648) : own_mem A B v w B = if Int32.ofNat A = Int32.ofNat B then v else w := by
  unfold own_mem
  by_cases h : A = B
  · rw [if_pos h.symm, if_pos (by rw [h])]
  · rw [if_neg (fun q => h q.symm), if_pos rfl, if_neg (fun q => h ((own_eqN A B ha hb).mp q))]
theorem own_memC (A B C : Nat) (v w : Int32) (ha : A < 2147483648) (hb : B < 2147483648) (hc : C < 2147483648) : own_mem A B v w C = if Int32.ofNat C = Int32.ofNat A then v else if Int32.ofNat C = Int32.ofNat B then w else 0 := by
  unfold own_mem
  simp only [own_eqN C A hc ha, own_eqN C B hc hb]
theorem own_modN (x : Int32) (n : Nat) (h1 : 1 ≤ n) (h2 : n < 2147483648) : ∃ k : Nat, k < n ∧ (x &&& (2147483647 : Int32)) % (Int32.ofNat n) = Int32.ofNat k := by
  have h := own_mod x (Int32.ofNat n) (by rw [own_ti n h2]; omega)
  rw [own_ti n h2] at h
  exact ⟨((x &&& (2147483647 : Int32)) % (Int32.ofNat n)).toInt.toNat, by omega, own_back _ h.1⟩
theorem own_short (k : Nat) (hk : k < 2048) : ¬ own_f12 (Int32.ofNat k) (1 : Int32) = 0 := by
  unfold own_f12 own_f13
  have e1 : (2040 : Int32) = Int32.ofNat 2040 := rfl
  have e2 : (2048 : Int32) = Int32.ofNat 2048 := rfl
  have e3 : (1 : Int32) = Int32.ofNat 1 := rfl
  rw [e1, e2, e3]
  by_cases h : Int32.ofNat k < Int32.ofNat 2040
  · rw [if_pos h, own_addN, if_neg (fun q => by have := (own_ltN _ _ (by omega) (by omega)).mp q; omega)]
    decide
  · rw [if_neg h, own_addN, if_neg (fun q => by have := (own_ltN _ _ (by omega) (by omega)).mp q; omega)]
    decide
theorem own_size (x : Int32) : ∃ n : Nat, 2 ≤ n ∧ n ≤ 8192 ∧ (2 : Int32) + ((x &&& (2147483647 : Int32)) % (8191 : Int32)) = Int32.ofNat n := by
  obtain ⟨k, hk, e⟩ := own_modN x 8191 (by decide) (by decide)
  exact ⟨2 + k, by omega, by omega, by rw [show (8191 : Int32) = Int32.ofNat 8191 from rfl, e]; exact own_addN 2 k⟩
theorem own_1m (x : Int32) (n : Nat) (h1 : 2 ≤ n) (h2 : n ≤ 8192) : ∃ k : Nat, 1 ≤ k ∧ k ≤ n ∧ (1 : Int32) + ((x &&& (2147483647 : Int32)) % (Int32.ofNat n)) = Int32.ofNat k := by
  obtain ⟨k, hk, e⟩ := own_modN x n (by omega) (by omega)
  exact ⟨1 + k, by omega, by omega, by rw [e]; exact own_addN 1 k⟩
theorem own_0m (x : Int32) (n : Nat) (h1 : 2 ≤ n) (h2 : n ≤ 8192) : ∃ k : Nat, k ≤ n ∧ ((x &&& (2147483647 : Int32)) % ((Int32.ofNat n) + (1 : Int32))) = Int32.ofNat k := by
  obtain ⟨k, hk, e⟩ := own_modN x (n + 1) (by omega) (by omega)
  refine ⟨k, by omega, ?_⟩
  rw [show (Int32.ofNat n) + (1 : Int32) = Int32.ofNat (n + 1) from own_addN n 1]
  exact e
theorem own_nz (n : Nat) (h1 : 1 ≤ n) (h2 : n < 2147483648) : Int32.ofNat n ≠ 0 := fun q => by
  have := (own_eqN n 0 h2 (by decide)).mp q
  omega
theorem own_pd7 : parseMethodDescriptor "(II)Z" = some ⟨[.int, .int], some .boolean⟩ := by decide +kernel
theorem d11_0 : decode prog_23_method_9_code 0 = .ok (.iload_n 2, 1) := by decide +kernel
theorem d11_1 : decode prog_23_method_9_code 1 = .ok (.sipush 2047, 3) := by decide +kernel
theorem d11_4 : decode prog_23_method_9_code 4 = .ok (.iand, 1) := by decide +kernel
theorem d11_5 : decode prog_23_method_9_code 5 = .ok (.istore 4, 2) := by decide +kernel
theorem d11_7 : decode prog_23_method_9_code 7 = .ok (.iload 4, 2) := by decide +kernel
theorem d11_9 : decode prog_23_method_9_code 9 = .ok (.iload_n 3, 1) := by decide +kernel
theorem d11_10 : decode prog_23_method_9_code 10 = .ok (.invokestatic 105, 3) := by decide +kernel
theorem d11_13 : decode prog_23_method_9_code 13 = .ok (.ifCond .eq 49, 3) := by decide +kernel
theorem d11_16 : decode prog_23_method_9_code 16 = .ok (.aload_n 0, 1) := by decide +kernel
theorem d11_17 : decode prog_23_method_9_code 17 = .ok (.getfield 13, 3) := by decide +kernel
theorem d11_20 : decode prog_23_method_9_code 20 = .ok (.iload_n 2, 1) := by decide +kernel
theorem d11_21 : decode prog_23_method_9_code 21 = .ok (.bipush 11, 2) := by decide +kernel
theorem d11_23 : decode prog_23_method_9_code 23 = .ok (.iushr, 1) := by decide +kernel
theorem d11_24 : decode prog_23_method_9_code 24 = .ok (.aaload, 1) := by decide +kernel
theorem d11_25 : decode prog_23_method_9_code 25 = .ok (.astore 5, 2) := by decide +kernel
theorem d11_27 : decode prog_23_method_9_code 27 = .ok (.iconst 0, 1) := by decide +kernel
theorem d11_28 : decode prog_23_method_9_code 28 = .ok (.istore 6, 2) := by decide +kernel
theorem d11_30 : decode prog_23_method_9_code 30 = .ok (.iload 6, 2) := by decide +kernel
theorem d11_32 : decode prog_23_method_9_code 32 = .ok (.iload_n 3, 1) := by decide +kernel
theorem d11_33 : decode prog_23_method_9_code 33 = .ok (.bipush 8, 2) := by decide +kernel
theorem d11_35 : decode prog_23_method_9_code 35 = .ok (.invokestatic 108, 3) := by decide +kernel
theorem d11_38 : decode prog_23_method_9_code 38 = .ok (.if_icmp .ge 21, 3) := by decide +kernel
theorem d11_41 : decode prog_23_method_9_code 41 = .ok (.aload 5, 2) := by decide +kernel
theorem d11_43 : decode prog_23_method_9_code 43 = .ok (.iload 4, 2) := by decide +kernel
theorem d11_45 : decode prog_23_method_9_code 45 = .ok (.iload 6, 2) := by decide +kernel
theorem d11_47 : decode prog_23_method_9_code 47 = .ok (.iadd, 1) := by decide +kernel
theorem d11_48 : decode prog_23_method_9_code 48 = .ok (.aload_n 1, 1) := by decide +kernel
theorem d11_49 : decode prog_23_method_9_code 49 = .ok (.iload 6, 2) := by decide +kernel
theorem d11_51 : decode prog_23_method_9_code 51 = .ok (.iaload, 1) := by decide +kernel
theorem d11_52 : decode prog_23_method_9_code 52 = .ok (.iastore, 1) := by decide +kernel
theorem d11_53 : decode prog_23_method_9_code 53 = .ok (.iinc 6 1, 3) := by decide +kernel
theorem d11_56 : decode prog_23_method_9_code 56 = .ok (.goto (-26), 3) := by decide +kernel
theorem d11_59 : decode prog_23_method_9_code 59 = .ok (.goto 10, 3) := by decide +kernel
theorem d11_69 : decode prog_23_method_9_code 69 = .ok (.return_, 1) := by decide +kernel
theorem ef_rm_ci (m : MethodId) (x0 : Addr) (x1 : Addr) (x2 : Int32) (x3 : Int32) : entryFrame m #[(.ref x0), (.ref x1), (.int x2), (.int x3)] 7 = mkF m 0 #[.val (.ref x0), .val (.ref x1), .val (.int x2), .val (.int x3), .unset, .unset, .unset] [] := by first | (simp [entryFrame, mkF, argsToLocals, Value.category]; done) | rfl
def Q_rm_ci (Z : State) (r0 : Addr) (a nb np : Nat) (P : Addr) (G : Nat → Addr) (mem : Nat → Int32) (r1 : Addr) (kf : ClassId) (p2 : Int32) (h0 : Heap) (n0 : Nat) (v : Option Value) (h : Heap) (L : List Loc) : Prop := v = none ∧ Fr n0 L ∧ Keep h0 h [G (a / 2048)] ∧ Mp Z h nb r0 P np G (fun i => if i = a then p2 else mem i)
set_option maxRecDepth 65536 in
set_option maxHeartbeats 40000000 in
theorem rm_ci (l : Launch) (Z : State) (a0 : Array Value) (hw : ∀ d ∈ tables_1, d.before a0 Z = true) (ws : List Jvm.Cond) (r0 : Addr) (a nb np : Nat) (P : Addr) (G : Nat → Addr) (mem : Nat → Int32) (r1 : Addr) (kf : ClassId) (p2 : Int32) (h0 : Heap) (n0 : Nat) (Z0 : n0 ≤ h0.size) (hn0 : n0 ≤ nb) (hnp : np ≤ 5) (ha : a < 2048 * np) (M0 : Mp Z h0 nb r0 P np G mem) (V_f : Arv Z h0 r1 kf .int (1 : Int32) [(.int p2)] (.int (0 : Int32))) :
    MetFree l (⟨"rowpack/growable/IntSpace", "copyIn", "([III)V"⟩ : MethodName) (head1 (Jvm.Cond.code (⟨"rowpack/growable/IntSpace", "copyIn", "([III)V"⟩ : MethodName) prog_23_method_9_code 7 none :: ws) ({ frames := 2, cells := 0, slots := 0, locals := 26 } : Room)) (fun az Uz => az = #[(.ref r0), (.ref r1), (.int (Int32.ofNat a)), (.int (1 : Int32))] ∧ Z.Warmed39 Uz.vm ∧ Uz.heap = h0) (fun _ _ _ _ _ => True) (fun _ Uz oz Vz => ∃ vz Lz, oz = .returned vz ∧ Q_rm_ci Z r0 a nb np P G mem r1 kf p2 h0 n0 vz Vz.heap Lz ∧ FrameEnd Uz oz Vz Lz ({ frames := 2, cells := 0, slots := 0, locals := 26 } : Room).cells ({ frames := 2, cells := 0, slots := 0, locals := 26 } : Room).slots) := by
  refine MetFree.of_bodySF (plainFor_of_name own_pn0) hisR ?_
  intro p e s m args below meth c s₁ Bd hml0 hP hK
  obtain ⟨rfl, hZ, hh⟩ := hP
  have hx := Bd.exec
  have hby := Bd.bytes
  have hml : c.maxLocals = 7 := hml0
  have hown : s.vm.findClass "rowpack/growable/IntSpace" = some m.cls := findClass_of_methodNamed Bd.named
  have hnm := (name_of_methodNamed Bd.named Bd.method).1
  have X0 : Stand p l e ({ frames := 2, cells := 0, slots := 0, locals := 26 } : Room) s m #[(.ref r0), (.ref r1), (.int (Int32.ofNat a)), (.int (1 : Int32))] below meth c s₁ [] 0 0 := Stand.of_body Bd
  have e0 : s₁.heap = h0 := by rw [← hh, Bd.state]; rfl
  have N0 := Fr.nil n0
  have K0 : Keep h0 h0 [] := Keep.refl _ _
  refine Go.enter (Q := Q_rm_ci Z r0 a nb np P G mem r1 kf p2 h0 n0) (C := ({ frames := 2, cells := 0, slots := 0, locals := 26 } : Room).cells) (S := ({ frames := 2, cells := 0, slots := 0, locals := 26 } : Room).slots) (ef_rm_ci m r0 r1 (Int32.ofNat a) (1 : Int32)) ?_
  refine Go.step (fun _ zz => XS.iloadN X0.here hx rfl (hb hby d11_0) rfl zz) ?_
  show Go _ _ _ _ s₁ (mkF m 1 #[.val (.ref r0), .val (.ref r1), .val (.int (Int32.ofNat a)), .val (.int (1 : Int32)), .unset, .unset, .unset] [(.int (Int32.ofNat a))])
  refine Go.step (fun _ zz => XS.sipush X0.here hx rfl (hb hby d11_1) zz) ?_
  show Go _ _ _ _ s₁ (mkF m 4 #[.val (.ref r0), .val (.ref r1), .val (.int (Int32.ofNat a)), .val (.int (1 : Int32)), .unset, .unset, .unset] [(.int (2047 : Int32)), (.int (Int32.ofNat a))])
  refine Go.step (fun _ zz => XS.iand X0.here hx rfl (hb hby d11_4) rfl zz) ?_
  show Go _ _ _ _ s₁ (mkF m 5 #[.val (.ref r0), .val (.ref r1), .val (.int (Int32.ofNat a)), .val (.int (1 : Int32)), .unset, .unset, .unset] [(.int ((Int32.ofNat a) &&& (2047 : Int32)))])
  rw [own_msk a (by omega)]
  show Go _ _ _ _ s₁ (mkF m 5 #[.val (.ref r0), .val (.ref r1), .val (.int (Int32.ofNat a)), .val (.int (1 : Int32)), .unset, .unset, .unset] [(.int (Int32.ofNat (a % 2048)))])
  refine Go.step (fun _ zz => XS.istore X0.here hx rfl (hb hby d11_5) rfl (l' := #[.val (.ref r0), .val (.ref r1), .val (.int (Int32.ofNat a)), .val (.int (1 : Int32)), .val (.int (Int32.ofNat (a % 2048))), .unset, .unset]) rfl zz) ?_
  show Go _ _ _ _ s₁ (mkF m 7 #[.val (.ref r0), .val (.ref r1), .val (.int (Int32.ofNat a)), .val (.int (1 : Int32)), .val (.int (Int32.ofNat (a % 2048))), .unset, .unset] [])
  refine Go.step (fun _ zz => XS.iload X0.here hx rfl (hb hby d11_7) rfl zz) ?_
  show Go _ _ _ _ s₁ (mkF m 9 #[.val (.ref r0), .val (.ref r1), .val (.int (Int32.ofNat a)), .val (.int (1 : Int32)), .val (.int (Int32.ofNat (a % 2048))), .unset, .unset] [(.int (Int32.ofNat (a % 2048)))])
  refine Go.step (fun _ zz => XS.iloadN X0.here hx rfl (hb hby d11_9) rfl zz) ?_
  show Go _ _ _ _ s₁ (mkF m 10 #[.val (.ref r0), .val (.ref r1), .val (.int (Int32.ofNat a)), .val (.int (1 : Int32)), .val (.int (Int32.ofNat (a % 2048))), .unset, .unset] [(.int (1 : Int32)), (.int (Int32.ofNat (a % 2048)))])
  obtain ⟨_, _, ⟨T1, L1, k1, n1⟩, -, X1, ⟨Lc1, hQ1, l1, y1, z1⟩, st1⟩ := Jvm.LawKit.callS X0 hx (y := (⟨"rowpack/growable/IntSpace", "isShortInOnePage", "(II)Z"⟩ : MethodName)) hown (mvT hZ (hw _ (List.mem_of_getElem? (i := 76) rfl))) (mvT hZ (hw _ (List.mem_of_getElem? (i := 77) rfl))) (mvT hZ (hw _ (List.mem_of_getElem? (i := 4) rfl))) (mvT hZ (hw _ (List.mem_of_getElem? (i := 78) rfl))) (by decide) (backOf (W := 0) (rm12 l Z a0 hw [] (Int32.ofNat (a % 2048)) (1 : Int32) h0 n0 Z0) hZ (hw _ (List.mem_of_getElem? (i := 78) rfl)) (hw _ (List.mem_of_getElem? (i := 4) rfl)) (by decide) (by decide)) (g := (mkF m 10 #[.val (.ref r0), .val (.ref r1), .val (.int (Int32.ofNat a)), .val (.int (1 : Int32)), .val (.int (Int32.ofNat (a % 2048))), .unset, .unset] [(.int (1 : Int32)), (.int (Int32.ofNat (a % 2048)))])) rfl (by rw [hml]; rfl) (argsL := [(.int (Int32.ofNat (a % 2048))), (.int (1 : Int32))]) (rest := []) (lenOf own_pd7 rfl) rfl (by show 2 * 0 + _ ≤ _; exact Nat.le_of_eq rfl) (hb hby d11_10) (fun _ _ => ⟨rfl, e0, (by decide : 0 + 0 ≤ _), (by decide : 0 + 0 ≤ _)⟩)
  dsimp only [Pt.U, Pt.locs, Pt.cells, Pt.slots] at X1 l1 y1 z1 st1 hQ1
  subst l1 y1 z1
  obtain ⟨rfl, N1q, e1⟩ := hQ1
  have N1 := Fr.app N0 N1q
  refine Go.step st1 ?_
  show Go _ _ _ _ T1 (mkF m 13 #[.val (.ref r0), .val (.ref r1), .val (.int (Int32.ofNat a)), .val (.int (1 : Int32)), .val (.int (Int32.ofNat (a % 2048))), .unset, .unset] [(.int (own_f12 (Int32.ofNat (a % 2048)) (1 : Int32)))])
  refine Go.step (fun _ zz => XS.ifNo X1.here hx rfl (hb hby d11_13) rfl ((if0 _ _).trans (feq (own_short _ (Nat.mod_lt _ (by decide)))).1) zz) ?_
  show Go _ _ _ _ T1 (mkF m 16 #[.val (.ref r0), .val (.ref r1), .val (.int (Int32.ofNat a)), .val (.int (1 : Int32)), .val (.int (Int32.ofNat (a % 2048))), .unset, .unset] [])
  refine Go.step (fun _ zz => XS.aloadN X1.here hx rfl (hb hby d11_16) rfl rfl zz) ?_
  show Go _ _ _ _ T1 (mkF m 17 #[.val (.ref r0), .val (.ref r1), .val (.int (Int32.ofNat a)), .val (.int (1 : Int32)), .val (.int (Int32.ofNat (a % 2048))), .unset, .unset] [(.ref r0)])
  obtain ⟨T2, X2, e2, st2⟩ := getF X1 hx hZ hown (host := "") (Or.inl (hw _ (List.mem_of_getElem? (i := 13) rfl))) Via.refl e1 M0.2.1 (g := (mkF m 17 #[.val (.ref r0), .val (.ref r1), .val (.int (Int32.ofNat a)), .val (.int (1 : Int32)), .val (.int (Int32.ofNat (a % 2048))), .unset, .unset] [(.ref r0)])) rfl rfl (hb hby d11_17)
  refine Go.step st2 ?_
  show Go _ _ _ _ T2 (mkF m 20 #[.val (.ref r0), .val (.ref r1), .val (.int (Int32.ofNat a)), .val (.int (1 : Int32)), .val (.int (Int32.ofNat (a % 2048))), .unset, .unset] [(.ref P)])
  refine Go.step (fun _ zz => XS.iloadN X2.here hx rfl (hb hby d11_20) rfl zz) ?_
  show Go _ _ _ _ T2 (mkF m 21 #[.val (.ref r0), .val (.ref r1), .val (.int (Int32.ofNat a)), .val (.int (1 : Int32)), .val (.int (Int32.ofNat (a % 2048))), .unset, .unset] [(.int (Int32.ofNat a)), (.ref P)])
  refine Go.step (fun _ zz => XS.bipush X2.here hx rfl (hb hby d11_21) zz) ?_
  show Go _ _ _ _ T2 (mkF m 23 #[.val (.ref r0), .val (.ref r1), .val (.int (Int32.ofNat a)), .val (.int (1 : Int32)), .val (.int (Int32.ofNat (a % 2048))), .unset, .unset] [(.int (11 : Int32)), (.int (Int32.ofNat a)), (.ref P)])
  refine Go.step (fun _ zz => XS.iushr X2.here hx rfl (hb hby d11_23) rfl zz) ?_
  show Go _ _ _ _ T2 (mkF m 24 #[.val (.ref r0), .val (.ref r1), .val (.int (Int32.ofNat a)), .val (.int (1 : Int32)), .val (.int (Int32.ofNat (a % 2048))), .unset, .unset] [(.int (((Int32.ofNat a).toUInt32 >>> ((11 : Int32) &&& 31).toUInt32).toInt32)), (.ref P)])
  rw [own_shr11 a (by omega)]
  show Go _ _ _ _ T2 (mkF m 24 #[.val (.ref r0), .val (.ref r1), .val (.int (Int32.ofNat a)), .val (.int (1 : Int32)), .val (.int (Int32.ofNat (a % 2048))), .unset, .unset] [(.int (Int32.ofNat (a / 2048))), (.ref P)])
  have hk : a / 2048 < np := by omega
  obtain ⟨cD, AD, qD, -, sD⟩ := M0.2.2.1
  have hin3 : ¬ ((Int32.ofNat (a / 2048)) < 0 ∨ cD.slots.size ≤ ((Int32.ofNat (a / 2048))).toNatClampNeg) := by rw [own_cl _ (by omega), qD]; exact fun q => q.elim (own_nn _ (by omega)) (fun q => by omega)
  have hat3 : cD.slots[((Int32.ofNat (a / 2048))).toNatClampNeg]? = some (.ref (G (a / 2048))) := by rw [own_cl _ (by omega)]; exact sD _ hk
  refine Go.step (fun _ zz => X2.aaload hx (j := (Int32.ofNat (a / 2048))) (v := (.ref (G (a / 2048)))) (by rw [e2]; exact AD.1) (State.isArrayOf_alike hZ.alike AD.2.1) rfl AD.2.2 hin3 hat3 (g := (mkF m 24 #[.val (.ref r0), .val (.ref r1), .val (.int (Int32.ofNat a)), .val (.int (1 : Int32)), .val (.int (Int32.ofNat (a % 2048))), .unset, .unset] [(.int (Int32.ofNat (a / 2048))), (.ref P)])) rfl rfl (hb hby d11_24) _ zz) ?_
  show Go _ _ _ _ T2 (mkF m 25 #[.val (.ref r0), .val (.ref r1), .val (.int (Int32.ofNat a)), .val (.int (1 : Int32)), .val (.int (Int32.ofNat (a % 2048))), .unset, .unset] [(.ref (G (a / 2048)))])
  refine Go.step (fun _ zz => XS.astore X2.here hx rfl (hb hby d11_25) rfl rfl (l' := #[.val (.ref r0), .val (.ref r1), .val (.int (Int32.ofNat a)), .val (.int (1 : Int32)), .val (.int (Int32.ofNat (a % 2048))), .val (.ref (G (a / 2048))), .unset]) rfl zz) ?_
  show Go _ _ _ _ T2 (mkF m 27 #[.val (.ref r0), .val (.ref r1), .val (.int (Int32.ofNat a)), .val (.int (1 : Int32)), .val (.int (Int32.ofNat (a % 2048))), .val (.ref (G (a / 2048))), .unset] [])
  refine Go.step (fun _ zz => XS.iconst X2.here hx rfl (hb hby d11_27) zz) ?_
  show Go _ _ _ _ T2 (mkF m 28 #[.val (.ref r0), .val (.ref r1), .val (.int (Int32.ofNat a)), .val (.int (1 : Int32)), .val (.int (Int32.ofNat (a % 2048))), .val (.ref (G (a / 2048))), .unset] [(.int (0 : Int32))])
  refine Go.step (fun _ zz => XS.istore X2.here hx rfl (hb hby d11_28) rfl (l' := #[.val (.ref r0), .val (.ref r1), .val (.int (Int32.ofNat a)), .val (.int (1 : Int32)), .val (.int (Int32.ofNat (a % 2048))), .val (.ref (G (a / 2048))), .val (.int (0 : Int32))]) rfl zz) ?_
  show Go _ _ _ _ T2 (mkF m 30 #[.val (.ref r0), .val (.ref r1), .val (.int (Int32.ofNat a)), .val (.int (1 : Int32)), .val (.int (Int32.ofNat (a % 2048))), .val (.ref (G (a / 2048))), .val (.int (0 : Int32))] [])
  refine Go.step (fun _ zz => XS.iload X2.here hx rfl (hb hby d11_30) rfl zz) ?_
  show Go _ _ _ _ T2 (mkF m 32 #[.val (.ref r0), .val (.ref r1), .val (.int (Int32.ofNat a)), .val (.int (1 : Int32)), .val (.int (Int32.ofNat (a % 2048))), .val (.ref (G (a / 2048))), .val (.int (0 : Int32))] [(.int (0 : Int32))])
  refine Go.step (fun _ zz => XS.iloadN X2.here hx rfl (hb hby d11_32) rfl zz) ?_
  show Go _ _ _ _ T2 (mkF m 33 #[.val (.ref r0), .val (.ref r1), .val (.int (Int32.ofNat a)), .val (.int (1 : Int32)), .val (.int (Int32.ofNat (a % 2048))), .val (.ref (G (a / 2048))), .val (.int (0 : Int32))] [(.int (1 : Int32)), (.int (0 : Int32))])
  refine Go.step (fun _ zz => XS.bipush X2.here hx rfl (hb hby d11_33) zz) ?_
  show Go _ _ _ _ T2 (mkF m 35 #[.val (.ref r0), .val (.ref r1), .val (.int (Int32.ofNat a)), .val (.int (1 : Int32)), .val (.int (Int32.ofNat (a % 2048))), .val (.ref (G (a / 2048))), .val (.int (0 : Int32))] [(.int (8 : Int32)), (.int (1 : Int32)), (.int (0 : Int32))])
  obtain ⟨_, _, ⟨T4, L4, k4, n4⟩, -, X4, ⟨Lc4, hQ4, l4, y4, z4⟩, st4⟩ := Jvm.LawKit.callS X2 hx (y := (⟨"java/lang/Math", "min", "(II)I"⟩ : MethodName)) hown (mvT hZ (hw _ (List.mem_of_getElem? (i := 82) rfl))) (mvT hZ (hw _ (List.mem_of_getElem? (i := 83) rfl))) (mvT hZ (hw _ (List.mem_of_getElem? (i := 64) rfl))) (mvT hZ (hw _ (List.mem_of_getElem? (i := 84) rfl))) (by decide) (backOf (W := 1) (rm14 l Z a0 hw [] (1 : Int32) (8 : Int32) h0 n0 Z0) hZ (hw _ (List.mem_of_getElem? (i := 84) rfl)) (hw _ (List.mem_of_getElem? (i := 64) rfl)) (by decide) (by decide)) (g := (mkF m 35 #[.val (.ref r0), .val (.ref r1), .val (.int (Int32.ofNat a)), .val (.int (1 : Int32)), .val (.int (Int32.ofNat (a % 2048))), .val (.ref (G (a / 2048))), .val (.int (0 : Int32))] [(.int (8 : Int32)), (.int (1 : Int32)), (.int (0 : Int32))])) rfl (by rw [hml]; rfl) (argsL := [(.int (1 : Int32)), (.int (8 : Int32))]) (rest := [(.int (0 : Int32))]) (lenOf own_pd6 rfl) rfl (by show 2 * 0 + _ ≤ _; exact Nat.le_of_eq rfl) (hb hby d11_35) (fun _ _ => ⟨rfl, e2, (by decide : 0 + 0 ≤ _), (by decide : 0 + 0 ≤ _)⟩)
  dsimp only [Pt.U, Pt.locs, Pt.cells, Pt.slots] at X4 l4 y4 z4 st4 hQ4
  subst l4 y4 z4
  obtain ⟨rfl, N4q, e4⟩ := hQ4
  have N4 := Fr.app N1 N4q
  refine Go.step st4 ?_
  show Go _ _ _ _ T4 (mkF m 38 #[.val (.ref r0), .val (.ref r1), .val (.int (Int32.ofNat a)), .val (.int (1 : Int32)), .val (.int (Int32.ofNat (a % 2048))), .val (.ref (G (a / 2048))), .val (.int (0 : Int32))] [(.int (own_f14 (1 : Int32) (8 : Int32))), (.int (0 : Int32))])
  refine Go.step (fun _ zz => XS.icmpNo X4.here hx rfl (hb hby d11_38) rfl (tlt (by decide)).2.1 zz) ?_
  show Go _ _ _ _ T4 (mkF m 41 #[.val (.ref r0), .val (.ref r1), .val (.int (Int32.ofNat a)), .val (.int (1 : Int32)), .val (.int (Int32.ofNat (a % 2048))), .val (.ref (G (a / 2048))), .val (.int (0 : Int32))] [])
  refine Go.step (fun _ zz => XS.aload X4.here hx rfl (hb hby d11_41) rfl rfl zz) ?_
  show Go _ _ _ _ T4 (mkF m 43 #[.val (.ref r0), .val (.ref r1), .val (.int (Int32.ofNat a)), .val (.int (1 : Int32)), .val (.int (Int32.ofNat (a % 2048))), .val (.ref (G (a / 2048))), .val (.int (0 : Int32))] [(.ref (G (a / 2048)))])
  refine Go.step (fun _ zz => XS.iload X4.here hx rfl (hb hby d11_43) rfl zz) ?_
  show Go _ _ _ _ T4 (mkF m 45 #[.val (.ref r0), .val (.ref r1), .val (.int (Int32.ofNat a)), .val (.int (1 : Int32)), .val (.int (Int32.ofNat (a % 2048))), .val (.ref (G (a / 2048))), .val (.int (0 : Int32))] [(.int (Int32.ofNat (a % 2048))), (.ref (G (a / 2048)))])
  refine Go.step (fun _ zz => XS.iload X4.here hx rfl (hb hby d11_45) rfl zz) ?_
  show Go _ _ _ _ T4 (mkF m 47 #[.val (.ref r0), .val (.ref r1), .val (.int (Int32.ofNat a)), .val (.int (1 : Int32)), .val (.int (Int32.ofNat (a % 2048))), .val (.ref (G (a / 2048))), .val (.int (0 : Int32))] [(.int (0 : Int32)), (.int (Int32.ofNat (a % 2048))), (.ref (G (a / 2048)))])
  refine Go.step (fun _ zz => XS.iadd X4.here hx rfl (hb hby d11_47) rfl zz) ?_
  show Go _ _ _ _ T4 (mkF m 48 #[.val (.ref r0), .val (.ref r1), .val (.int (Int32.ofNat a)), .val (.int (1 : Int32)), .val (.int (Int32.ofNat (a % 2048))), .val (.ref (G (a / 2048))), .val (.int (0 : Int32))] [(.int ((Int32.ofNat (a % 2048)) + (0 : Int32))), (.ref (G (a / 2048)))])
  rw [Int32.add_zero]
  show Go _ _ _ _ T4 (mkF m 48 #[.val (.ref r0), .val (.ref r1), .val (.int (Int32.ofNat a)), .val (.int (1 : Int32)), .val (.int (Int32.ofNat (a % 2048))), .val (.ref (G (a / 2048))), .val (.int (0 : Int32))] [(.int (Int32.ofNat (a % 2048))), (.ref (G (a / 2048)))])
  refine Go.step (fun _ zz => XS.aloadN X4.here hx rfl (hb hby d11_48) rfl rfl zz) ?_
  show Go _ _ _ _ T4 (mkF m 49 #[.val (.ref r0), .val (.ref r1), .val (.int (Int32.ofNat a)), .val (.int (1 : Int32)), .val (.int (Int32.ofNat (a % 2048))), .val (.ref (G (a / 2048))), .val (.int (0 : Int32))] [(.ref r1), (.int (Int32.ofNat (a % 2048))), (.ref (G (a / 2048)))])
  refine Go.step (fun _ zz => XS.iload X4.here hx rfl (hb hby d11_49) rfl zz) ?_
  show Go _ _ _ _ T4 (mkF m 51 #[.val (.ref r0), .val (.ref r1), .val (.int (Int32.ofNat a)), .val (.int (1 : Int32)), .val (.int (Int32.ofNat (a % 2048))), .val (.ref (G (a / 2048))), .val (.int (0 : Int32))] [(.int (0 : Int32)), (.ref r1), (.int (Int32.ofNat (a % 2048))), (.ref (G (a / 2048)))])
  obtain ⟨c5, Ar5, q5, S5, M5, H5, G5⟩ := id V_f
  have hin5 : ¬ ((0 : Int32) < 0 ∨ c5.slots.size ≤ ((0 : Int32)).toNatClampNeg) := inb_of S5 ⟨by decide, by decide⟩
  refine Go.step (fun _ zz => X4.iaload hx (j := (0 : Int32)) (v := (.int p2)) (by rw [e4]; exact Ar5.1) (State.isArrayOf_alike hZ.alike Ar5.2.1) Ar5.2.2 hin5 (H5.at hin5 rfl) (g := (mkF m 51 #[.val (.ref r0), .val (.ref r1), .val (.int (Int32.ofNat a)), .val (.int (1 : Int32)), .val (.int (Int32.ofNat (a % 2048))), .val (.ref (G (a / 2048))), .val (.int (0 : Int32))] [(.int (0 : Int32)), (.ref r1), (.int (Int32.ofNat (a % 2048))), (.ref (G (a / 2048)))])) rfl rfl (hb hby d11_51) _ zz) ?_
  show Go _ _ _ _ T4 (mkF m 52 #[.val (.ref r0), .val (.ref r1), .val (.int (Int32.ofNat a)), .val (.int (1 : Int32)), .val (.int (Int32.ofNat (a % 2048))), .val (.ref (G (a / 2048))), .val (.int (0 : Int32))] [(.int p2), (.int (Int32.ofNat (a % 2048))), (.ref (G (a / 2048)))])
  obtain ⟨cP, AP, qP, sP⟩ := M0.2.2.2.1 _ hk
  have hm : a % 2048 < 2048 := Nat.mod_lt _ (by decide)
  have hin6 : ¬ ((Int32.ofNat (a % 2048)) < 0 ∨ cP.slots.size ≤ ((Int32.ofNat (a % 2048))).toNatClampNeg) := by rw [own_cl _ (by omega), qP]; exact fun q => q.elim (own_nn _ (by omega)) (fun q => by omega)
  obtain ⟨T7, h7, X7, e7, W7, st7⟩ := stI X4 hx hZ e4 AP (j := (Int32.ofNat (a % 2048))) hin6 (g := (mkF m 52 #[.val (.ref r0), .val (.ref r1), .val (.int (Int32.ofNat a)), .val (.int (1 : Int32)), .val (.int (Int32.ofNat (a % 2048))), .val (.ref (G (a / 2048))), .val (.int (0 : Int32))] [(.int p2), (.int (Int32.ofNat (a % 2048))), (.ref (G (a / 2048)))])) rfl rfl (hb hby d11_52)
  refine Go.step st7 ?_
  have N7 := Fr.snoc X7 N4 (Nat.le_trans hn0 (M0.2.2.2.2.1.2.2 _ hk))
  rw [own_cl _ (by omega)] at W7
  show Go _ _ _ _ T7 (mkF m 53 #[.val (.ref r0), .val (.ref r1), .val (.int (Int32.ofNat a)), .val (.int (1 : Int32)), .val (.int (Int32.ofNat (a % 2048))), .val (.ref (G (a / 2048))), .val (.int (0 : Int32))] [])
  refine Go.step (fun _ zz => XS.iinc X7.here hx rfl (hb hby d11_53) rfl (l' := #[.val (.ref r0), .val (.ref r1), .val (.int (Int32.ofNat a)), .val (.int (1 : Int32)), .val (.int (Int32.ofNat (a % 2048))), .val (.ref (G (a / 2048))), .val (.int ((0 : Int32) + (1 : Int32)))]) rfl zz) ?_
  show Go _ _ _ _ T7 (mkF m 56 #[.val (.ref r0), .val (.ref r1), .val (.int (Int32.ofNat a)), .val (.int (1 : Int32)), .val (.int (Int32.ofNat (a % 2048))), .val (.ref (G (a / 2048))), .val (.int ((0 : Int32) + (1 : Int32)))] [])
  refine Go.step (fun _ zz => XS.goto X7.here hx rfl (pc0 := 56) (pc' := 30) rfl (hb hby d11_56) (by decide) (by decide) zz) ?_
  show Go _ _ _ _ T7 (mkF m 30 #[.val (.ref r0), .val (.ref r1), .val (.int (Int32.ofNat a)), .val (.int (1 : Int32)), .val (.int (Int32.ofNat (a % 2048))), .val (.ref (G (a / 2048))), .val (.int ((0 : Int32) + (1 : Int32)))] [])
  refine Go.step (fun _ zz => XS.iload X7.here hx rfl (hb hby d11_30) rfl zz) ?_
  show Go _ _ _ _ T7 (mkF m 32 #[.val (.ref r0), .val (.ref r1), .val (.int (Int32.ofNat a)), .val (.int (1 : Int32)), .val (.int (Int32.ofNat (a % 2048))), .val (.ref (G (a / 2048))), .val (.int ((0 : Int32) + (1 : Int32)))] [(.int ((0 : Int32) + (1 : Int32)))])
  refine Go.step (fun _ zz => XS.iloadN X7.here hx rfl (hb hby d11_32) rfl zz) ?_
  show Go _ _ _ _ T7 (mkF m 33 #[.val (.ref r0), .val (.ref r1), .val (.int (Int32.ofNat a)), .val (.int (1 : Int32)), .val (.int (Int32.ofNat (a % 2048))), .val (.ref (G (a / 2048))), .val (.int ((0 : Int32) + (1 : Int32)))] [(.int (1 : Int32)), (.int ((0 : Int32) + (1 : Int32)))])
  refine Go.step (fun _ zz => XS.bipush X7.here hx rfl (hb hby d11_33) zz) ?_
  show Go _ _ _ _ T7 (mkF m 35 #[.val (.ref r0), .val (.ref r1), .val (.int (Int32.ofNat a)), .val (.int (1 : Int32)), .val (.int (Int32.ofNat (a % 2048))), .val (.ref (G (a / 2048))), .val (.int ((0 : Int32) + (1 : Int32)))] [(.int (8 : Int32)), (.int (1 : Int32)), (.int ((0 : Int32) + (1 : Int32)))])
  obtain ⟨_, _, ⟨T8, L8, k8, n8⟩, -, X8, ⟨Lc8, hQ8, l8, y8, z8⟩, st8⟩ := Jvm.LawKit.callS X7 hx (y := (⟨"java/lang/Math", "min", "(II)I"⟩ : MethodName)) hown (mvT hZ (hw _ (List.mem_of_getElem? (i := 82) rfl))) (mvT hZ (hw _ (List.mem_of_getElem? (i := 83) rfl))) (mvT hZ (hw _ (List.mem_of_getElem? (i := 64) rfl))) (mvT hZ (hw _ (List.mem_of_getElem? (i := 84) rfl))) (by decide) (backOf (W := 1) (rm14 l Z a0 hw [] (1 : Int32) (8 : Int32) h7 n0 (Nat.le_trans Z0 (Keep.of_wr W7).1)) hZ (hw _ (List.mem_of_getElem? (i := 84) rfl)) (hw _ (List.mem_of_getElem? (i := 64) rfl)) (by decide) (by decide)) (g := (mkF m 35 #[.val (.ref r0), .val (.ref r1), .val (.int (Int32.ofNat a)), .val (.int (1 : Int32)), .val (.int (Int32.ofNat (a % 2048))), .val (.ref (G (a / 2048))), .val (.int ((0 : Int32) + (1 : Int32)))] [(.int (8 : Int32)), (.int (1 : Int32)), (.int ((0 : Int32) + (1 : Int32)))])) rfl (by rw [hml]; rfl) (argsL := [(.int (1 : Int32)), (.int (8 : Int32))]) (rest := [(.int ((0 : Int32) + (1 : Int32)))]) (lenOf own_pd6 rfl) rfl (by show 2 * 0 + _ ≤ _; exact Nat.le_of_eq rfl) (hb hby d11_35) (fun _ _ => ⟨rfl, e7, (by decide : 0 + 0 ≤ _), (by decide : 0 + 0 ≤ _)⟩)
  dsimp only [Pt.U, Pt.locs, Pt.cells, Pt.slots] at X8 l8 y8 z8 st8 hQ8
  subst l8 y8 z8
  obtain ⟨rfl, N8q, e8⟩ := hQ8
  have N8 := Fr.app N7 N8q
  refine Go.step st8 ?_
  show Go _ _ _ _ T8 (mkF m 38 #[.val (.ref r0), .val (.ref r1), .val (.int (Int32.ofNat a)), .val (.int (1 : Int32)), .val (.int (Int32.ofNat (a % 2048))), .val (.ref (G (a / 2048))), .val (.int ((0 : Int32) + (1 : Int32)))] [(.int (own_f14 (1 : Int32) (8 : Int32))), (.int ((0 : Int32) + (1 : Int32)))])
  refine Go.step (fun _ zz => XS.icmpYes X8.here hx rfl (pc0 := 38) (pc' := 59) rfl (hb hby d11_38) rfl (flt (by decide)).2.1 (by decide) (by decide) zz) ?_
  show Go _ _ _ _ T8 (mkF m 59 #[.val (.ref r0), .val (.ref r1), .val (.int (Int32.ofNat a)), .val (.int (1 : Int32)), .val (.int (Int32.ofNat (a % 2048))), .val (.ref (G (a / 2048))), .val (.int ((0 : Int32) + (1 : Int32)))] [])
  refine Go.step (fun _ zz => XS.goto X8.here hx rfl (pc0 := 59) (pc' := 69) rfl (hb hby d11_59) (by decide) (by decide) zz) ?_
  show Go _ _ _ _ T8 (mkF m 69 #[.val (.ref r0), .val (.ref r1), .val (.int (Int32.ofNat a)), .val (.int (1 : Int32)), .val (.int (Int32.ofNat (a % 2048))), .val (.ref (G (a / 2048))), .val (.int ((0 : Int32) + (1 : Int32)))] [])
  exact Go.retV X8 hx Bd.returns (hb hby d11_69) Bd.notSynchronized (by rw [e8]; exact ⟨rfl, N8, Keep.of_wr W7, M0.set ha W7⟩) (by decide) (by decide)
theorem own_pd8 : parseMethodDescriptor "(I)V" = some ⟨[.int], none⟩ := by decide +kernel
theorem own_pd9 : parseMethodDescriptor "(II)V" = some ⟨[.int, .int], none⟩ := by decide +kernel
theorem own_pd10 : parseMethodDescriptor "([III)V" = some ⟨[(.array .int), .int, .int], none⟩ := by decide +kernel
theorem own_pn11 : plainName "rowpack/growable/IntSpaceGetIntPinLaw" = true := by first | (simp [plainName, overriddenIn]; done) | decide +kernel
theorem ef_rm0 (m : MethodId) (x0 : Int32) (x1 : Int32) (x2 : Int32) (x3 : Int32) (x4 : Int32) (x5 : Int32) : entryFrame m #[(.int x0), (.int x1), (.int x2), (.int x3), (.int x4), (.int x5)] maxLocals = mkF m 0 #[.val (.int x0), .val (.int x1), .val (.int x2), .val (.int x3), .val (.int x4), .val (.int x5), .unset, .unset, .unset, .unset, .unset, .unset, .unset, .unset, .unset, .unset, .unset, .unset] [] := by first | (simp [entryFrame, mkF, argsToLocals, Value.category, maxLocals]; done) | rfl
def Q_rm0 (Z : State) (p0 : Int32) (p1 : Int32) (p2 : Int32) (p3 : Int32) (p4 : Int32) (p5 : Int32) (w : Nat → Addr) (h0 : Heap) (n0 : Nat) (v : Option Value) (h : Heap) (L : List Loc) : Prop := v = some (.int (1 : Int32)) ∧ Fr n0 L
set_option maxRecDepth 65536 in
set_option maxHeartbeats 40000000 in
theorem rm0 (l : Launch) (Z : State) (a0 : Array Value) (hw : ∀ d ∈ tables_1, d.before a0 Z = true) (ws : List Jvm.Cond) (p0 : Int32) (p1 : Int32) (p2 : Int32) (p3 : Int32) (p4 : Int32) (p5 : Int32) (w : Nat → Addr) (h0 : Heap) (n0 : Nat) (Z0 : n0 ≤ h0.size) (O0 : Old Z n0 h0) (wd : Wd Z w) :
    MetFree l x (head1 (Jvm.Cond.code x code maxLocals ret :: ws) room_1) (fun az Uz => az = #[(.int p0), (.int p1), (.int p2), (.int p3), (.int p4), (.int p5)] ∧ Z.Warmed39 Uz.vm ∧ Uz.heap = h0) (fun _ _ _ _ _ => True) (fun _ Uz oz Vz => ∃ vz Lz, oz = .returned vz ∧ Q_rm0 Z p0 p1 p2 p3 p4 p5 w h0 n0 vz Vz.heap Lz ∧ FrameEnd Uz oz Vz Lz room_1.cells room_1.slots) := by
  refine MetFree.of_bodySF (plainFor_of_name own_pn11) hisR ?_
  intro p e s m args below meth c s₁ Bd hml0 hP hK
  obtain ⟨rfl, hZ, hh⟩ := hP
  have hx := Bd.exec
  have hby := Bd.bytes
  have hml : c.maxLocals = 18 := hml0
  have hown : s.vm.findClass "rowpack/growable/IntSpaceGetIntPinLaw" = some m.cls := findClass_of_methodNamed Bd.named
  have hnm := (name_of_methodNamed Bd.named Bd.method).1
  have X0 : Stand p l e room_1 s m #[(.int p0), (.int p1), (.int p2), (.int p3), (.int p4), (.int p5)] below meth c s₁ [] 0 0 := Stand.of_body Bd
  have e0 : s₁.heap = h0 := by rw [← hh, Bd.state]; rfl
  have N0 := Fr.nil n0
  have K0 : Keep h0 h0 [] := Keep.refl _ _
  refine Go.enter (Q := Q_rm0 Z p0 p1 p2 p3 p4 p5 w h0 n0) (C := room_1.cells) (S := room_1.slots) (ef_rm0 m p0 p1 p2 p3 p4 p5) ?_
  refine Go.step (fun _ zz => XS.iconst X0.here hx rfl (hb hby at_0) zz) ?_
  show Go _ _ _ _ s₁ (mkF m 1 #[.val (.int p0), .val (.int p1), .val (.int p2), .val (.int p3), .val (.int p4), .val (.int p5), .unset, .unset, .unset, .unset, .unset, .unset, .unset, .unset, .unset, .unset, .unset, .unset] [(.int (2 : Int32))])
  refine Go.step (fun _ zz => XS.iloadN X0.here hx rfl (hb hby at_1) rfl zz) ?_
  show Go _ _ _ _ s₁ (mkF m 2 #[.val (.int p0), .val (.int p1), .val (.int p2), .val (.int p3), .val (.int p4), .val (.int p5), .unset, .unset, .unset, .unset, .unset, .unset, .unset, .unset, .unset, .unset, .unset, .unset] [(.int p0), (.int (2 : Int32))])
  refine Go.step (fun _ zz => X0.ldcInt hx hown (mvT hZ (hw _ (List.mem_of_getElem? (i := 0) rfl))) (g := (mkF m 2 #[.val (.int p0), .val (.int p1), .val (.int p2), .val (.int p3), .val (.int p4), .val (.int p5), .unset, .unset, .unset, .unset, .unset, .unset, .unset, .unset, .unset, .unset, .unset, .unset] [(.int p0), (.int (2 : Int32))])) rfl (hb hby at_2) _ zz) ?_
  show Go _ _ _ _ s₁ (mkF m 4 #[.val (.int p0), .val (.int p1), .val (.int p2), .val (.int p3), .val (.int p4), .val (.int p5), .unset, .unset, .unset, .unset, .unset, .unset, .unset, .unset, .unset, .unset, .unset, .unset] [(.int (2147483647 : Int32)), (.int p0), (.int (2 : Int32))])
  refine Go.step (fun _ zz => XS.iand X0.here hx rfl (hb hby at_4) rfl zz) ?_
  show Go _ _ _ _ s₁ (mkF m 5 #[.val (.int p0), .val (.int p1), .val (.int p2), .val (.int p3), .val (.int p4), .val (.int p5), .unset, .unset, .unset, .unset, .unset, .unset, .unset, .unset, .unset, .unset, .unset, .unset] [(.int (p0 &&& (2147483647 : Int32))), (.int (2 : Int32))])
  refine Go.step (fun _ zz => XS.sipush X0.here hx rfl (hb hby at_5) zz) ?_
  show Go _ _ _ _ s₁ (mkF m 8 #[.val (.int p0), .val (.int p1), .val (.int p2), .val (.int p3), .val (.int p4), .val (.int p5), .unset, .unset, .unset, .unset, .unset, .unset, .unset, .unset, .unset, .unset, .unset, .unset] [(.int (8191 : Int32)), (.int (p0 &&& (2147483647 : Int32))), (.int (2 : Int32))])
  refine Go.step (fun _ zz => iremM X0 hx rfl (hb hby at_8) rfl (by decide) zz) ?_
  show Go _ _ _ _ s₁ (mkF m 9 #[.val (.int p0), .val (.int p1), .val (.int p2), .val (.int p3), .val (.int p4), .val (.int p5), .unset, .unset, .unset, .unset, .unset, .unset, .unset, .unset, .unset, .unset, .unset, .unset] [(.int ((p0 &&& (2147483647 : Int32)) % (8191 : Int32))), (.int (2 : Int32))])
  refine Go.step (fun _ zz => XS.iadd X0.here hx rfl (hb hby at_9) rfl zz) ?_
  show Go _ _ _ _ s₁ (mkF m 10 #[.val (.int p0), .val (.int p1), .val (.int p2), .val (.int p3), .val (.int p4), .val (.int p5), .unset, .unset, .unset, .unset, .unset, .unset, .unset, .unset, .unset, .unset, .unset, .unset] [(.int ((2 : Int32) + ((p0 &&& (2147483647 : Int32)) % (8191 : Int32))))])
  refine Go.step (fun _ zz => XS.istore X0.here hx rfl (hb hby at_10) rfl (l' := #[.val (.int p0), .val (.int p1), .val (.int p2), .val (.int p3), .val (.int p4), .val (.int p5), .val (.int ((2 : Int32) + ((p0 &&& (2147483647 : Int32)) % (8191 : Int32)))), .unset, .unset, .unset, .unset, .unset, .unset, .unset, .unset, .unset, .unset, .unset]) rfl zz) ?_
  show Go _ _ _ _ s₁ (mkF m 12 #[.val (.int p0), .val (.int p1), .val (.int p2), .val (.int p3), .val (.int p4), .val (.int p5), .val (.int ((2 : Int32) + ((p0 &&& (2147483647 : Int32)) % (8191 : Int32)))), .unset, .unset, .unset, .unset, .unset, .unset, .unset, .unset, .unset, .unset, .unset] [])
  obtain ⟨n, hn2, hn8, en⟩ := own_size p0
  rw [en]
  show Go _ _ _ _ s₁ (mkF m 12 #[.val (.int p0), .val (.int p1), .val (.int p2), .val (.int p3), .val (.int p4), .val (.int p5), .val (.int (Int32.ofNat n)), .unset, .unset, .unset, .unset, .unset, .unset, .unset, .unset, .unset, .unset, .unset] [])
  refine Go.step (fun _ zz => XS.iconst X0.here hx rfl (hb hby at_12) zz) ?_
  show Go _ _ _ _ s₁ (mkF m 13 #[.val (.int p0), .val (.int p1), .val (.int p2), .val (.int p3), .val (.int p4), .val (.int p5), .val (.int (Int32.ofNat n)), .unset, .unset, .unset, .unset, .unset, .unset, .unset, .unset, .unset, .unset, .unset] [(.int (1 : Int32))])
  refine Go.step (fun _ zz => XS.iloadN X0.here hx rfl (hb hby at_13) rfl zz) ?_
  show Go _ _ _ _ s₁ (mkF m 14 #[.val (.int p0), .val (.int p1), .val (.int p2), .val (.int p3), .val (.int p4), .val (.int p5), .val (.int (Int32.ofNat n)), .unset, .unset, .unset, .unset, .unset, .unset, .unset, .unset, .unset, .unset, .unset] [(.int p1), (.int (1 : Int32))])
  refine Go.step (fun _ zz => X0.ldcInt hx hown (mvT hZ (hw _ (List.mem_of_getElem? (i := 0) rfl))) (g := (mkF m 14 #[.val (.int p0), .val (.int p1), .val (.int p2), .val (.int p3), .val (.int p4), .val (.int p5), .val (.int (Int32.ofNat n)), .unset, .unset, .unset, .unset, .unset, .unset, .unset, .unset, .unset, .unset, .unset] [(.int p1), (.int (1 : Int32))])) rfl (hb hby at_14) _ zz) ?_
  show Go _ _ _ _ s₁ (mkF m 16 #[.val (.int p0), .val (.int p1), .val (.int p2), .val (.int p3), .val (.int p4), .val (.int p5), .val (.int (Int32.ofNat n)), .unset, .unset, .unset, .unset, .unset, .unset, .unset, .unset, .unset, .unset, .unset] [(.int (2147483647 : Int32)), (.int p1), (.int (1 : Int32))])
  refine Go.step (fun _ zz => XS.iand X0.here hx rfl (hb hby at_16) rfl zz) ?_
  show Go _ _ _ _ s₁ (mkF m 17 #[.val (.int p0), .val (.int p1), .val (.int p2), .val (.int p3), .val (.int p4), .val (.int p5), .val (.int (Int32.ofNat n)), .unset, .unset, .unset, .unset, .unset, .unset, .unset, .unset, .unset, .unset, .unset] [(.int (p1 &&& (2147483647 : Int32))), (.int (1 : Int32))])
  refine Go.step (fun _ zz => XS.iload X0.here hx rfl (hb hby at_17) rfl zz) ?_
  show Go _ _ _ _ s₁ (mkF m 19 #[.val (.int p0), .val (.int p1), .val (.int p2), .val (.int p3), .val (.int p4), .val (.int p5), .val (.int (Int32.ofNat n)), .unset, .unset, .unset, .unset, .unset, .unset, .unset, .unset, .unset, .unset, .unset] [(.int (Int32.ofNat n)), (.int (p1 &&& (2147483647 : Int32))), (.int (1 : Int32))])
  refine Go.step (fun _ zz => iremM X0 hx rfl (hb hby at_19) rfl (own_nz n (by omega) (by omega)) zz) ?_
  show Go _ _ _ _ s₁ (mkF m 20 #[.val (.int p0), .val (.int p1), .val (.int p2), .val (.int p3), .val (.int p4), .val (.int p5), .val (.int (Int32.ofNat n)), .unset, .unset, .unset, .unset, .unset, .unset, .unset, .unset, .unset, .unset, .unset] [(.int ((p1 &&& (2147483647 : Int32)) % (Int32.ofNat n))), (.int (1 : Int32))])
  refine Go.step (fun _ zz => XS.iadd X0.here hx rfl (hb hby at_20) rfl zz) ?_
  show Go _ _ _ _ s₁ (mkF m 21 #[.val (.int p0), .val (.int p1), .val (.int p2), .val (.int p3), .val (.int p4), .val (.int p5), .val (.int (Int32.ofNat n)), .unset, .unset, .unset, .unset, .unset, .unset, .unset, .unset, .unset, .unset, .unset] [(.int ((1 : Int32) + ((p1 &&& (2147483647 : Int32)) % (Int32.ofNat n))))])
  refine Go.step (fun _ zz => XS.istore X0.here hx rfl (hb hby at_21) rfl (l' := #[.val (.int p0), .val (.int p1), .val (.int p2), .val (.int p3), .val (.int p4), .val (.int p5), .val (.int (Int32.ofNat n)), .val (.int ((1 : Int32) + ((p1 &&& (2147483647 : Int32)) % (Int32.ofNat n)))), .unset, .unset, .unset, .unset, .unset, .unset, .unset, .unset, .unset, .unset]) rfl zz) ?_
  show Go _ _ _ _ s₁ (mkF m 23 #[.val (.int p0), .val (.int p1), .val (.int p2), .val (.int p3), .val (.int p4), .val (.int p5), .val (.int (Int32.ofNat n)), .val (.int ((1 : Int32) + ((p1 &&& (2147483647 : Int32)) % (Int32.ofNat n)))), .unset, .unset, .unset, .unset, .unset, .unset, .unset, .unset, .unset, .unset] [])
  obtain ⟨xa, hx1, hx2, exa⟩ := own_1m p1 n hn2 hn8
  rw [exa]
  show Go _ _ _ _ s₁ (mkF m 23 #[.val (.int p0), .val (.int p1), .val (.int p2), .val (.int p3), .val (.int p4), .val (.int p5), .val (.int (Int32.ofNat n)), .val (.int (Int32.ofNat xa)), .unset, .unset, .unset, .unset, .unset, .unset, .unset, .unset, .unset, .unset] [])
  refine Go.step (fun _ zz => XS.iconst X0.here hx rfl (hb hby at_23) zz) ?_
  show Go _ _ _ _ s₁ (mkF m 24 #[.val (.int p0), .val (.int p1), .val (.int p2), .val (.int p3), .val (.int p4), .val (.int p5), .val (.int (Int32.ofNat n)), .val (.int (Int32.ofNat xa)), .unset, .unset, .unset, .unset, .unset, .unset, .unset, .unset, .unset, .unset] [(.int (1 : Int32))])
  refine Go.step (fun _ zz => XS.iloadN X0.here hx rfl (hb hby at_24) rfl zz) ?_
  show Go _ _ _ _ s₁ (mkF m 25 #[.val (.int p0), .val (.int p1), .val (.int p2), .val (.int p3), .val (.int p4), .val (.int p5), .val (.int (Int32.ofNat n)), .val (.int (Int32.ofNat xa)), .unset, .unset, .unset, .unset, .unset, .unset, .unset, .unset, .unset, .unset] [(.int p2), (.int (1 : Int32))])
  refine Go.step (fun _ zz => X0.ldcInt hx hown (mvT hZ (hw _ (List.mem_of_getElem? (i := 0) rfl))) (g := (mkF m 25 #[.val (.int p0), .val (.int p1), .val (.int p2), .val (.int p3), .val (.int p4), .val (.int p5), .val (.int (Int32.ofNat n)), .val (.int (Int32.ofNat xa)), .unset, .unset, .unset, .unset, .unset, .unset, .unset, .unset, .unset, .unset] [(.int p2), (.int (1 : Int32))])) rfl (hb hby at_25) _ zz) ?_
  show Go _ _ _ _ s₁ (mkF m 27 #[.val (.int p0), .val (.int p1), .val (.int p2), .val (.int p3), .val (.int p4), .val (.int p5), .val (.int (Int32.ofNat n)), .val (.int (Int32.ofNat xa)), .unset, .unset, .unset, .unset, .unset, .unset, .unset, .unset, .unset, .unset] [(.int (2147483647 : Int32)), (.int p2), (.int (1 : Int32))])
  refine Go.step (fun _ zz => XS.iand X0.here hx rfl (hb hby at_27) rfl zz) ?_
  show Go _ _ _ _ s₁ (mkF m 28 #[.val (.int p0), .val (.int p1), .val (.int p2), .val (.int p3), .val (.int p4), .val (.int p5), .val (.int (Int32.ofNat n)), .val (.int (Int32.ofNat xa)), .unset, .unset, .unset, .unset, .unset, .unset, .unset, .unset, .unset, .unset] [(.int (p2 &&& (2147483647 : Int32))), (.int (1 : Int32))])
  refine Go.step (fun _ zz => XS.iload X0.here hx rfl (hb hby at_28) rfl zz) ?_
  show Go _ _ _ _ s₁ (mkF m 30 #[.val (.int p0), .val (.int p1), .val (.int p2), .val (.int p3), .val (.int p4), .val (.int p5), .val (.int (Int32.ofNat n)), .val (.int (Int32.ofNat xa)), .unset, .unset, .unset, .unset, .unset, .unset, .unset, .unset, .unset, .unset] [(.int (Int32.ofNat n)), (.int (p2 &&& (2147483647 : Int32))), (.int (1 : Int32))])
  refine Go.step (fun _ zz => iremM X0 hx rfl (hb hby at_30) rfl (own_nz n (by omega) (by omega)) zz) ?_
  show Go _ _ _ _ s₁ (mkF m 31 #[.val (.int p0), .val (.int p1), .val (.int p2), .val (.int p3), .val (.int p4), .val (.int p5), .val (.int (Int32.ofNat n)), .val (.int (Int32.ofNat xa)), .unset, .unset, .unset, .unset, .unset, .unset, .unset, .unset, .unset, .unset] [(.int ((p2 &&& (2147483647 : Int32)) % (Int32.ofNat n))), (.int (1 : Int32))])
  refine Go.step (fun _ zz => XS.iadd X0.here hx rfl (hb hby at_31) rfl zz) ?_
  show Go _ _ _ _ s₁ (mkF m 32 #[.val (.int p0), .val (.int p1), .val (.int p2), .val (.int p3), .val (.int p4), .val (.int p5), .val (.int (Int32.ofNat n)), .val (.int (Int32.ofNat xa)), .unset, .unset, .unset, .unset, .unset, .unset, .unset, .unset, .unset, .unset] [(.int ((1 : Int32) + ((p2 &&& (2147483647 : Int32)) % (Int32.ofNat n))))])
  refine Go.step (fun _ zz => XS.istore X0.here hx rfl (hb hby at_32) rfl (l' := #[.val (.int p0), .val (.int p1), .val (.int p2), .val (.int p3), .val (.int p4), .val (.int p5), .val (.int (Int32.ofNat n)), .val (.int (Int32.ofNat xa)), .val (.int ((1 : Int32) + ((p2 &&& (2147483647 : Int32)) % (Int32.ofNat n)))), .unset, .unset, .unset, .unset, .unset, .unset, .unset, .unset, .unset]) rfl zz) ?_
  show Go _ _ _ _ s₁ (mkF m 34 #[.val (.int p0), .val (.int p1), .val (.int p2), .val (.int p3), .val (.int p4), .val (.int p5), .val (.int (Int32.ofNat n)), .val (.int (Int32.ofNat xa)), .val (.int ((1 : Int32) + ((p2 &&& (2147483647 : Int32)) % (Int32.ofNat n)))), .unset, .unset, .unset, .unset, .unset, .unset, .unset, .unset, .unset] [])
  obtain ⟨ya, hy1, hy2, eya⟩ := own_1m p2 n hn2 hn8
  rw [eya]
  show Go _ _ _ _ s₁ (mkF m 34 #[.val (.int p0), .val (.int p1), .val (.int p2), .val (.int p3), .val (.int p4), .val (.int p5), .val (.int (Int32.ofNat n)), .val (.int (Int32.ofNat xa)), .val (.int (Int32.ofNat ya)), .unset, .unset, .unset, .unset, .unset, .unset, .unset, .unset, .unset] [])
  refine Go.step (fun _ zz => XS.iloadN X0.here hx rfl (hb hby at_34) rfl zz) ?_
  show Go _ _ _ _ s₁ (mkF m 35 #[.val (.int p0), .val (.int p1), .val (.int p2), .val (.int p3), .val (.int p4), .val (.int p5), .val (.int (Int32.ofNat n)), .val (.int (Int32.ofNat xa)), .val (.int (Int32.ofNat ya)), .unset, .unset, .unset, .unset, .unset, .unset, .unset, .unset, .unset] [(.int p3)])
  refine Go.step (fun _ zz => X0.ldcInt hx hown (mvT hZ (hw _ (List.mem_of_getElem? (i := 0) rfl))) (g := (mkF m 35 #[.val (.int p0), .val (.int p1), .val (.int p2), .val (.int p3), .val (.int p4), .val (.int p5), .val (.int (Int32.ofNat n)), .val (.int (Int32.ofNat xa)), .val (.int (Int32.ofNat ya)), .unset, .unset, .unset, .unset, .unset, .unset, .unset, .unset, .unset] [(.int p3)])) rfl (hb hby at_35) _ zz) ?_
  show Go _ _ _ _ s₁ (mkF m 37 #[.val (.int p0), .val (.int p1), .val (.int p2), .val (.int p3), .val (.int p4), .val (.int p5), .val (.int (Int32.ofNat n)), .val (.int (Int32.ofNat xa)), .val (.int (Int32.ofNat ya)), .unset, .unset, .unset, .unset, .unset, .unset, .unset, .unset, .unset] [(.int (2147483647 : Int32)), (.int p3)])
  refine Go.step (fun _ zz => XS.iand X0.here hx rfl (hb hby at_37) rfl zz) ?_
  show Go _ _ _ _ s₁ (mkF m 38 #[.val (.int p0), .val (.int p1), .val (.int p2), .val (.int p3), .val (.int p4), .val (.int p5), .val (.int (Int32.ofNat n)), .val (.int (Int32.ofNat xa)), .val (.int (Int32.ofNat ya)), .unset, .unset, .unset, .unset, .unset, .unset, .unset, .unset, .unset] [(.int (p3 &&& (2147483647 : Int32)))])
  refine Go.step (fun _ zz => XS.iload X0.here hx rfl (hb hby at_38) rfl zz) ?_
  show Go _ _ _ _ s₁ (mkF m 40 #[.val (.int p0), .val (.int p1), .val (.int p2), .val (.int p3), .val (.int p4), .val (.int p5), .val (.int (Int32.ofNat n)), .val (.int (Int32.ofNat xa)), .val (.int (Int32.ofNat ya)), .unset, .unset, .unset, .unset, .unset, .unset, .unset, .unset, .unset] [(.int (Int32.ofNat n)), (.int (p3 &&& (2147483647 : Int32)))])
  refine Go.step (fun _ zz => XS.iconst X0.here hx rfl (hb hby at_40) zz) ?_
  show Go _ _ _ _ s₁ (mkF m 41 #[.val (.int p0), .val (.int p1), .val (.int p2), .val (.int p3), .val (.int p4), .val (.int p5), .val (.int (Int32.ofNat n)), .val (.int (Int32.ofNat xa)), .val (.int (Int32.ofNat ya)), .unset, .unset, .unset, .unset, .unset, .unset, .unset, .unset, .unset] [(.int (1 : Int32)), (.int (Int32.ofNat n)), (.int (p3 &&& (2147483647 : Int32)))])
  refine Go.step (fun _ zz => XS.iadd X0.here hx rfl (hb hby at_41) rfl zz) ?_
  show Go _ _ _ _ s₁ (mkF m 42 #[.val (.int p0), .val (.int p1), .val (.int p2), .val (.int p3), .val (.int p4), .val (.int p5), .val (.int (Int32.ofNat n)), .val (.int (Int32.ofNat xa)), .val (.int (Int32.ofNat ya)), .unset, .unset, .unset, .unset, .unset, .unset, .unset, .unset, .unset] [(.int ((Int32.ofNat n) + (1 : Int32))), (.int (p3 &&& (2147483647 : Int32)))])
  refine Go.step (fun _ zz => iremM X0 hx rfl (hb hby at_42) rfl (by rw [show (Int32.ofNat n) + (1 : Int32) = Int32.ofNat (n + 1) from own_addN n 1]; exact own_nz (n + 1) (by omega) (by omega)) zz) ?_
  show Go _ _ _ _ s₁ (mkF m 43 #[.val (.int p0), .val (.int p1), .val (.int p2), .val (.int p3), .val (.int p4), .val (.int p5), .val (.int (Int32.ofNat n)), .val (.int (Int32.ofNat xa)), .val (.int (Int32.ofNat ya)), .unset, .unset, .unset, .unset, .unset, .unset, .unset, .unset, .unset] [(.int ((p3 &&& (2147483647 : Int32)) % ((Int32.ofNat n) + (1 : Int32))))])
  refine Go.step (fun _ zz => XS.istore X0.here hx rfl (hb hby at_43) rfl (l' := #[.val (.int p0), .val (.int p1), .val (.int p2), .val (.int p3), .val (.int p4), .val (.int p5), .val (.int (Int32.ofNat n)), .val (.int (Int32.ofNat xa)), .val (.int (Int32.ofNat ya)), .val (.int ((p3 &&& (2147483647 : Int32)) % ((Int32.ofNat n) + (1 : Int32)))), .unset, .unset, .unset, .unset, .unset, .unset, .unset, .unset]) rfl zz) ?_
  show Go _ _ _ _ s₁ (mkF m 45 #[.val (.int p0), .val (.int p1), .val (.int p2), .val (.int p3), .val (.int p4), .val (.int p5), .val (.int (Int32.ofNat n)), .val (.int (Int32.ofNat xa)), .val (.int (Int32.ofNat ya)), .val (.int ((p3 &&& (2147483647 : Int32)) % ((Int32.ofNat n) + (1 : Int32)))), .unset, .unset, .unset, .unset, .unset, .unset, .unset, .unset] [])
  obtain ⟨za, hz2, eza⟩ := own_0m p3 n hn2 hn8
  rw [eza]
  show Go _ _ _ _ s₁ (mkF m 45 #[.val (.int p0), .val (.int p1), .val (.int p2), .val (.int p3), .val (.int p4), .val (.int p5), .val (.int (Int32.ofNat n)), .val (.int (Int32.ofNat xa)), .val (.int (Int32.ofNat ya)), .val (.int (Int32.ofNat za)), .unset, .unset, .unset, .unset, .unset, .unset, .unset, .unset] [])
  refine Go.step (fun _ zz => XS.iconst X0.here hx rfl (hb hby at_45) zz) ?_
  show Go _ _ _ _ s₁ (mkF m 46 #[.val (.int p0), .val (.int p1), .val (.int p2), .val (.int p3), .val (.int p4), .val (.int p5), .val (.int (Int32.ofNat n)), .val (.int (Int32.ofNat xa)), .val (.int (Int32.ofNat ya)), .val (.int (Int32.ofNat za)), .unset, .unset, .unset, .unset, .unset, .unset, .unset, .unset] [(.int (1 : Int32))])
  obtain ⟨T1, h1, k1, X1, e1, E1, A1, st1⟩ := newP X0 hx hZ (hw _ (List.mem_of_getElem? (i := 1) rfl)) e0 (g := (mkF m 46 #[.val (.int p0), .val (.int p1), .val (.int p2), .val (.int p3), .val (.int p4), .val (.int p5), .val (.int (Int32.ofNat n)), .val (.int (Int32.ofNat xa)), .val (.int (Int32.ofNat ya)), .val (.int (Int32.ofNat za)), .unset, .unset, .unset, .unset, .unset, .unset, .unset, .unset] [(.int (1 : Int32))])) rfl (hb hby at_46) rfl (by decide) (cap := 1) (by decide) (by decide) (by decide) (by decide)
  obtain ⟨b1, g1⟩ : ∃ z, z = h0.size := ⟨_, rfl⟩
  rw [← g1] at A1 st1
  have V1 := Arv.new A1 (by decide)
  have V1p : Arv Z h1 b1 k1 .int (1 : Int32) [(.int (0 : Int32))] (.int (0 : Int32)) := V1.pad (pad_rep [] (.int (0 : Int32)) 1)
  have g_b1 : n0 ≤ b1 := Nat.le_trans Z0 (Nat.le_of_eq g1.symm)
  have sz_b1 : h0.size ≤ b1 := Nat.le_trans K0.1 (Nat.le_of_eq g1.symm)
  have K1 : Keep h0 h1 [] := K0.ext E1
  refine Go.step st1 ?_
  show Go _ _ _ _ T1 (mkF m 48 #[.val (.int p0), .val (.int p1), .val (.int p2), .val (.int p3), .val (.int p4), .val (.int p5), .val (.int (Int32.ofNat n)), .val (.int (Int32.ofNat xa)), .val (.int (Int32.ofNat ya)), .val (.int (Int32.ofNat za)), .unset, .unset, .unset, .unset, .unset, .unset, .unset, .unset] [(.ref b1)])
  refine Go.step (fun _ zz => XS.astore X1.here hx rfl (hb hby at_48) rfl rfl (l' := #[.val (.int p0), .val (.int p1), .val (.int p2), .val (.int p3), .val (.int p4), .val (.int p5), .val (.int (Int32.ofNat n)), .val (.int (Int32.ofNat xa)), .val (.int (Int32.ofNat ya)), .val (.int (Int32.ofNat za)), .val (.ref b1), .unset, .unset, .unset, .unset, .unset, .unset, .unset]) rfl zz) ?_
  show Go _ _ _ _ T1 (mkF m 50 #[.val (.int p0), .val (.int p1), .val (.int p2), .val (.int p3), .val (.int p4), .val (.int p5), .val (.int (Int32.ofNat n)), .val (.int (Int32.ofNat xa)), .val (.int (Int32.ofNat ya)), .val (.int (Int32.ofNat za)), .val (.ref b1), .unset, .unset, .unset, .unset, .unset, .unset, .unset] [])
  refine Go.step (fun _ zz => XS.aload X1.here hx rfl (hb hby at_50) rfl rfl zz) ?_
  show Go _ _ _ _ T1 (mkF m 52 #[.val (.int p0), .val (.int p1), .val (.int p2), .val (.int p3), .val (.int p4), .val (.int p5), .val (.int (Int32.ofNat n)), .val (.int (Int32.ofNat xa)), .val (.int (Int32.ofNat ya)), .val (.int (Int32.ofNat za)), .val (.ref b1), .unset, .unset, .unset, .unset, .unset, .unset, .unset] [(.ref b1)])
  refine Go.step (fun _ zz => XS.iconst X1.here hx rfl (hb hby at_52) zz) ?_
  show Go _ _ _ _ T1 (mkF m 53 #[.val (.int p0), .val (.int p1), .val (.int p2), .val (.int p3), .val (.int p4), .val (.int p5), .val (.int (Int32.ofNat n)), .val (.int (Int32.ofNat xa)), .val (.int (Int32.ofNat ya)), .val (.int (Int32.ofNat za)), .val (.ref b1), .unset, .unset, .unset, .unset, .unset, .unset, .unset] [(.int (0 : Int32)), (.ref b1)])
  refine Go.step (fun _ zz => XS.iload X1.here hx rfl (hb hby at_53) rfl zz) ?_
  show Go _ _ _ _ T1 (mkF m 55 #[.val (.int p0), .val (.int p1), .val (.int p2), .val (.int p3), .val (.int p4), .val (.int p5), .val (.int (Int32.ofNat n)), .val (.int (Int32.ofNat xa)), .val (.int (Int32.ofNat ya)), .val (.int (Int32.ofNat za)), .val (.ref b1), .unset, .unset, .unset, .unset, .unset, .unset, .unset] [(.int p5), (.int (0 : Int32)), (.ref b1)])
  obtain ⟨c2, Ar2, q2, S2, M2, H2, G2⟩ := id V1p
  have hin2 : ¬ ((0 : Int32) < 0 ∨ c2.slots.size ≤ ((0 : Int32)).toNatClampNeg) := inb_of S2 ⟨by decide, by decide⟩
  obtain ⟨T3, h3, X3, e3, W3, st3⟩ := stI X1 hx hZ e1 Ar2 (j := (0 : Int32)) hin2 (g := (mkF m 55 #[.val (.int p0), .val (.int p1), .val (.int p2), .val (.int p3), .val (.int p4), .val (.int p5), .val (.int (Int32.ofNat n)), .val (.int (Int32.ofNat xa)), .val (.int (Int32.ofNat ya)), .val (.int (Int32.ofNat za)), .val (.ref b1), .unset, .unset, .unset, .unset, .unset, .unset, .unset] [(.int p5), (.int (0 : Int32)), (.ref b1)])) rfl rfl (hb hby at_55)
  have V3 := Arv.set Ar2 q2 S2 M2 H2 G2 rfl W3 0 rfl (Nat.le_of_ble_eq_true rfl)
  have N3 := Fr.snoc X3 N0 g_b1
  have K3 : Keep h0 h3 [] := K1.wr W3 (Or.inr sz_b1)
  refine Go.step st3 ?_
  show Go _ _ _ _ T3 (mkF m 56 #[.val (.int p0), .val (.int p1), .val (.int p2), .val (.int p3), .val (.int p4), .val (.int p5), .val (.int (Int32.ofNat n)), .val (.int (Int32.ofNat xa)), .val (.int (Int32.ofNat ya)), .val (.int (Int32.ofNat za)), .val (.ref b1), .unset, .unset, .unset, .unset, .unset, .unset, .unset] [])
  obtain ⟨T4, h4, X4, e4, E4, A4, D4, -, st4⟩ := newO X3 hx hZ hown (hw _ (List.mem_of_getElem? (i := 2) rfl)) (hw _ (List.mem_of_getElem? (i := 3) rfl)) (hw _ (List.mem_of_getElem? (i := 4) rfl)) e3 (g := (mkF m 56 #[.val (.int p0), .val (.int p1), .val (.int p2), .val (.int p3), .val (.int p4), .val (.int p5), .val (.int (Int32.ofNat n)), .val (.int (Int32.ofNat xa)), .val (.int (Int32.ofNat ya)), .val (.int (Int32.ofNat za)), .val (.ref b1), .unset, .unset, .unset, .unset, .unset, .unset, .unset] [])) rfl (hb hby at_56) (by decide) (by decide)
  obtain ⟨b4, g4⟩ : ∃ z, z = h3.size := ⟨_, rfl⟩
  rw [← g4] at A4 D4 st4
  have F4_14 : Fld Z h4 b4 "rowpack/growable/IntSpace" "pages" "[[I" .null := D4 (Or.inl (hw _ (List.mem_of_getElem? (i := 14) rfl))) (ty := (.array (.array .int))) (by decide)
  have F4_16 : Fld Z h4 b4 "rowpack/growable/IntSpace" "top" "J" (.long (0 : Int64)) := D4 (Or.inl (hw _ (List.mem_of_getElem? (i := 16) rfl))) (ty := .long) (by decide)
  have F4_20 : Fld Z h4 b4 "rowpack/growable/IntSpace" "freeBits" "[[J" .null := D4 (Or.inl (hw _ (List.mem_of_getElem? (i := 20) rfl))) (ty := (.array (.array .long))) (by decide)
  have F4_22 : Fld Z h4 b4 "rowpack/growable/IntSpace" "freeHeads" "[I" .null := D4 (Or.inl (hw _ (List.mem_of_getElem? (i := 22) rfl))) (ty := (.array .int)) (by decide)
  have F4_25 : Fld Z h4 b4 "rowpack/growable/IntSpace" "listBits" "[J" .null := D4 (Or.inl (hw _ (List.mem_of_getElem? (i := 25) rfl))) (ty := (.array .long)) (by decide)
  have F4_27 : Fld Z h4 b4 "rowpack/growable/IntSpace" "listWords" "[J" .null := D4 (Or.inl (hw _ (List.mem_of_getElem? (i := 27) rfl))) (ty := (.array .long)) (by decide)
  have F4_29 : Fld Z h4 b4 "rowpack/growable/IntSpace" "maxChunkInts" "I" (.int (0 : Int32)) := D4 (Or.inr (hw _ (List.mem_of_getElem? (i := 29) rfl))) (ty := .int) (by decide)
  have F4_51 : Fld Z h4 b4 "rowpack/growable/IntSpace" "pageCount" "I" (.int (0 : Int32)) := D4 (Or.inl (hw _ (List.mem_of_getElem? (i := 51) rfl))) (ty := .int) (by decide)
  have g_b4 : n0 ≤ b4 := Nat.le_trans (Nat.le_trans (Nat.le_trans Z0 E1.1) (Keep.of_wr W3).1) (Nat.le_of_eq g4.symm)
  have sz_b4 : h0.size ≤ b4 := Nat.le_trans K3.1 (Nat.le_of_eq g4.symm)
  have K4 : Keep h0 h4 [] := K3.ext E4
  refine Go.step st4 ?_
  show Go _ _ _ _ T4 (mkF m 59 #[.val (.int p0), .val (.int p1), .val (.int p2), .val (.int p3), .val (.int p4), .val (.int p5), .val (.int (Int32.ofNat n)), .val (.int (Int32.ofNat xa)), .val (.int (Int32.ofNat ya)), .val (.int (Int32.ofNat za)), .val (.ref b1), .unset, .unset, .unset, .unset, .unset, .unset, .unset] [(.ref b4)])
  refine Go.step (fun _ zz => XS.dup X4.here hx rfl (hb hby at_59) rfl rfl zz) ?_
  show Go _ _ _ _ T4 (mkF m 60 #[.val (.int p0), .val (.int p1), .val (.int p2), .val (.int p3), .val (.int p4), .val (.int p5), .val (.int (Int32.ofNat n)), .val (.int (Int32.ofNat xa)), .val (.int (Int32.ofNat ya)), .val (.int (Int32.ofNat za)), .val (.ref b1), .unset, .unset, .unset, .unset, .unset, .unset, .unset] [(.ref b4), (.ref b4)])
  refine Go.step (fun _ zz => XS.sipush X4.here hx rfl (hb hby at_60) zz) ?_
  show Go _ _ _ _ T4 (mkF m 63 #[.val (.int p0), .val (.int p1), .val (.int p2), .val (.int p3), .val (.int p4), .val (.int p5), .val (.int (Int32.ofNat n)), .val (.int (Int32.ofNat xa)), .val (.int (Int32.ofNat ya)), .val (.int (Int32.ofNat za)), .val (.ref b1), .unset, .unset, .unset, .unset, .unset, .unset, .unset] [(.int (8192 : Int32)), (.ref b4), (.ref b4)])
  obtain ⟨_, _, ⟨T5, L5, k5, n5⟩, -, X5, ⟨Lc5, hQ5, l5, y5, z5⟩, st5⟩ := X4.specialBack hx (y := (⟨"rowpack/growable/IntSpace", "<init>", "(I)V"⟩ : MethodName)) rfl hown (mvT hZ (hw _ (List.mem_of_getElem? (i := 5) rfl))) (mvT hZ (hw _ (List.mem_of_getElem? (i := 6) rfl))) (mvT hZ (hw _ (List.mem_of_getElem? (i := 7) rfl))) (by decide) (backOf (W := 1) (rm_init l Z a0 hw [] b4 (8192 : Int32) b4 h4 n0 (Nat.le_trans (Nat.le_trans (Nat.le_trans Z0 E1.1) (Keep.of_wr W3).1) E4.1) g_b4 (Nat.le_refl _) A4 F4_14 F4_16 F4_20 F4_22 F4_25 F4_27 F4_29 F4_51) hZ (hw _ (List.mem_of_getElem? (i := 7) rfl)) (hw _ (List.mem_of_getElem? (i := 4) rfl)) (by decide) (by decide)) (g := (mkF m 63 #[.val (.int p0), .val (.int p1), .val (.int p2), .val (.int p3), .val (.int p4), .val (.int p5), .val (.int (Int32.ofNat n)), .val (.int (Int32.ofNat xa)), .val (.int (Int32.ofNat ya)), .val (.int (Int32.ofNat za)), .val (.ref b1), .unset, .unset, .unset, .unset, .unset, .unset, .unset] [(.int (8192 : Int32)), (.ref b4), (.ref b4)])) rfl (by rw [hml]; rfl) (Steps.refl _) (a := b4) (argsL := [(.int (8192 : Int32))]) (rest := [(.ref b4)]) (lenOf own_pd8 rfl) rfl (by show 2 * 0 + _ ≤ _; exact Nat.le_of_eq rfl) (hb hby at_63) (fun _ _ => ⟨rfl, e4, (by decide : 2 + 5 ≤ _), (by decide : 10 + 16 ≤ _)⟩)
  dsimp only [Pt.U, Pt.locs, Pt.cells, Pt.slots] at X5 l5 y5 z5 st5 hQ5
  subst l5 y5 z5
  obtain ⟨rfl, N5q, K5, P5, fb5, lb5, lw5, kfb5, klb5, klw5, M5, Fpc5, Ft5, Ffb5, Vfb5, nfr5, nfP5, Flb5, Vlb5, Flw5, Vlw5⟩ := hQ5
  have N5 := Fr.app N3 N5q
  refine Go.tr st5 ?_
  show Go _ _ _ _ T5 (mkF m 66 #[.val (.int p0), .val (.int p1), .val (.int p2), .val (.int p3), .val (.int p4), .val (.int p5), .val (.int (Int32.ofNat n)), .val (.int (Int32.ofNat xa)), .val (.int (Int32.ofNat ya)), .val (.int (Int32.ofNat za)), .val (.ref b1), .unset, .unset, .unset, .unset, .unset, .unset, .unset] [(.ref b4)])
  refine Go.step (fun _ zz => XS.astore X5.here hx rfl (hb hby at_66) rfl rfl (l' := #[.val (.int p0), .val (.int p1), .val (.int p2), .val (.int p3), .val (.int p4), .val (.int p5), .val (.int (Int32.ofNat n)), .val (.int (Int32.ofNat xa)), .val (.int (Int32.ofNat ya)), .val (.int (Int32.ofNat za)), .val (.ref b1), .val (.ref b4), .unset, .unset, .unset, .unset, .unset, .unset]) rfl zz) ?_
  show Go _ _ _ _ T5 (mkF m 68 #[.val (.int p0), .val (.int p1), .val (.int p2), .val (.int p3), .val (.int p4), .val (.int p5), .val (.int (Int32.ofNat n)), .val (.int (Int32.ofNat xa)), .val (.int (Int32.ofNat ya)), .val (.int (Int32.ofNat za)), .val (.ref b1), .val (.ref b4), .unset, .unset, .unset, .unset, .unset, .unset] [])
  refine Go.step (fun _ zz => XS.aload X5.here hx rfl (hb hby at_68) rfl rfl zz) ?_
  show Go _ _ _ _ T5 (mkF m 70 #[.val (.int p0), .val (.int p1), .val (.int p2), .val (.int p3), .val (.int p4), .val (.int p5), .val (.int (Int32.ofNat n)), .val (.int (Int32.ofNat xa)), .val (.int (Int32.ofNat ya)), .val (.int (Int32.ofNat za)), .val (.ref b1), .val (.ref b4), .unset, .unset, .unset, .unset, .unset, .unset] [(.ref b4)])
  refine Go.step (fun _ zz => XS.iload X5.here hx rfl (hb hby at_70) rfl zz) ?_
  show Go _ _ _ _ T5 (mkF m 72 #[.val (.int p0), .val (.int p1), .val (.int p2), .val (.int p3), .val (.int p4), .val (.int p5), .val (.int (Int32.ofNat n)), .val (.int (Int32.ofNat xa)), .val (.int (Int32.ofNat ya)), .val (.int (Int32.ofNat za)), .val (.ref b1), .val (.ref b4), .unset, .unset, .unset, .unset, .unset, .unset] [(.int (Int32.ofNat n)), (.ref b4)])
  obtain ⟨cq6, kq6, q6a, q6b, q6c⟩ := isOf hZ rfl M5.1
  obtain ⟨_, _, ⟨T6, L6, k6, n6⟩, -, X6, ⟨Lc6, hQ6, l6, y6, z6⟩, st6⟩ := X5.virtualBack hx (y := (⟨"rowpack/growable/IntSpace", "allocate", "(I)I"⟩ : MethodName)) (z := (⟨"rowpack/growable/IntSpace", "allocate", "(I)I"⟩ : MethodName)) hown (mvT hZ (hw _ (List.mem_of_getElem? (i := 30) rfl))) (mvT hZ (hw _ (List.mem_of_getElem? (i := 31) rfl))) (notFace_of_selects (args := #[]) (mvT hZ (hw _ (List.mem_of_getElem? (i := 33) rfl)))) (mvT hZ (hw _ (List.mem_of_getElem? (i := 33) rfl))) (mvT hZ (hw _ (List.mem_of_getElem? (i := 32) rfl))) (by decide) (backOf (W := 0) (rm_al l Z a0 hw [] b4 n b4 w P5 fb5 lb5 lw5 kfb5 klb5 klw5 T5.heap n0 (Nat.le_trans (Nat.le_trans (Nat.le_trans (Nat.le_trans Z0 E1.1) (Keep.of_wr W3).1) E4.1) K5.1) ((((O0.ext E1).wr W3 g_b1).ext E4).keep K5 (allS g_b4 all0)) wd g_b4 (by omega) (by omega) M5 Fpc5 Ft5 Ffb5 Vfb5 nfr5 nfP5 Flb5 Vlb5 Flw5 Vlw5) hZ (hw _ (List.mem_of_getElem? (i := 34) rfl)) (hw _ (List.mem_of_getElem? (i := 4) rfl)) (by decide) (by decide)) q6a q6c (g := (mkF m 72 #[.val (.int p0), .val (.int p1), .val (.int p2), .val (.int p3), .val (.int p4), .val (.int p5), .val (.int (Int32.ofNat n)), .val (.int (Int32.ofNat xa)), .val (.int (Int32.ofNat ya)), .val (.int (Int32.ofNat za)), .val (.ref b1), .val (.ref b4), .unset, .unset, .unset, .unset, .unset, .unset] [(.int (Int32.ofNat n)), (.ref b4)])) rfl (by rw [hml]; rfl) (Steps.refl _) (argsL := [(.int (Int32.ofNat n))]) (rest := []) (lenOf own_pd1 rfl) rfl (by show 2 * 0 + _ ≤ _; exact Nat.le_of_eq rfl) (hb hby at_72) (fun _ _ => ⟨rfl, rfl, (by decide : 7 + 5 ≤ _), (by decide : 26 + 10240 ≤ _)⟩)
  dsimp only [Pt.U, Pt.locs, Pt.cells, Pt.slots] at X6 l6 y6 z6 st6 hQ6
  subst l6 y6 z6
  obtain ⟨rfl, N6q, K6, np6, G6, hnp6, hen6, M6⟩ := hQ6
  have N6 := Fr.app N5 N6q
  refine Go.tr st6 ?_
  show Go _ _ _ _ T6 (mkF m 75 #[.val (.int p0), .val (.int p1), .val (.int p2), .val (.int p3), .val (.int p4), .val (.int p5), .val (.int (Int32.ofNat n)), .val (.int (Int32.ofNat xa)), .val (.int (Int32.ofNat ya)), .val (.int (Int32.ofNat za)), .val (.ref b1), .val (.ref b4), .unset, .unset, .unset, .unset, .unset, .unset] [(.int (1 : Int32))])
  refine Go.step (fun _ zz => XS.istore X6.here hx rfl (hb hby at_75) rfl (l' := #[.val (.int p0), .val (.int p1), .val (.int p2), .val (.int p3), .val (.int p4), .val (.int p5), .val (.int (Int32.ofNat n)), .val (.int (Int32.ofNat xa)), .val (.int (Int32.ofNat ya)), .val (.int (Int32.ofNat za)), .val (.ref b1), .val (.ref b4), .val (.int (1 : Int32)), .unset, .unset, .unset, .unset, .unset]) rfl zz) ?_
  show Go _ _ _ _ T6 (mkF m 77 #[.val (.int p0), .val (.int p1), .val (.int p2), .val (.int p3), .val (.int p4), .val (.int p5), .val (.int (Int32.ofNat n)), .val (.int (Int32.ofNat xa)), .val (.int (Int32.ofNat ya)), .val (.int (Int32.ofNat za)), .val (.ref b1), .val (.ref b4), .val (.int (1 : Int32)), .unset, .unset, .unset, .unset, .unset] [])
  refine Go.step (fun _ zz => XS.iload X6.here hx rfl (hb hby at_77) rfl zz) ?_
  show Go _ _ _ _ T6 (mkF m 79 #[.val (.int p0), .val (.int p1), .val (.int p2), .val (.int p3), .val (.int p4), .val (.int p5), .val (.int (Int32.ofNat n)), .val (.int (Int32.ofNat xa)), .val (.int (Int32.ofNat ya)), .val (.int (Int32.ofNat za)), .val (.ref b1), .val (.ref b4), .val (.int (1 : Int32)), .unset, .unset, .unset, .unset, .unset] [(.int (1 : Int32))])
  refine Go.step (fun _ zz => XS.iconst X6.here hx rfl (hb hby at_79) zz) ?_
  show Go _ _ _ _ T6 (mkF m 80 #[.val (.int p0), .val (.int p1), .val (.int p2), .val (.int p3), .val (.int p4), .val (.int p5), .val (.int (Int32.ofNat n)), .val (.int (Int32.ofNat xa)), .val (.int (Int32.ofNat ya)), .val (.int (Int32.ofNat za)), .val (.ref b1), .val (.ref b4), .val (.int (1 : Int32)), .unset, .unset, .unset, .unset, .unset] [(.int (1 : Int32)), (.int (1 : Int32))])
  refine Go.step (fun _ zz => XS.icmpYes X6.here hx rfl (pc0 := 80) (pc' := 85) rfl (hb hby at_80) rfl (teq (by decide)).1 (by decide) (by decide) zz) ?_
  show Go _ _ _ _ T6 (mkF m 85 #[.val (.int p0), .val (.int p1), .val (.int p2), .val (.int p3), .val (.int p4), .val (.int p5), .val (.int (Int32.ofNat n)), .val (.int (Int32.ofNat xa)), .val (.int (Int32.ofNat ya)), .val (.int (Int32.ofNat za)), .val (.ref b1), .val (.ref b4), .val (.int (1 : Int32)), .unset, .unset, .unset, .unset, .unset] [])
  refine Go.step (fun _ zz => XS.aload X6.here hx rfl (hb hby at_85) rfl rfl zz) ?_
  show Go _ _ _ _ T6 (mkF m 87 #[.val (.int p0), .val (.int p1), .val (.int p2), .val (.int p3), .val (.int p4), .val (.int p5), .val (.int (Int32.ofNat n)), .val (.int (Int32.ofNat xa)), .val (.int (Int32.ofNat ya)), .val (.int (Int32.ofNat za)), .val (.ref b1), .val (.ref b4), .val (.int (1 : Int32)), .unset, .unset, .unset, .unset, .unset] [(.ref b4)])
  refine Go.step (fun _ zz => XS.iload X6.here hx rfl (hb hby at_87) rfl zz) ?_
  show Go _ _ _ _ T6 (mkF m 89 #[.val (.int p0), .val (.int p1), .val (.int p2), .val (.int p3), .val (.int p4), .val (.int p5), .val (.int (Int32.ofNat n)), .val (.int (Int32.ofNat xa)), .val (.int (Int32.ofNat ya)), .val (.int (Int32.ofNat za)), .val (.ref b1), .val (.ref b4), .val (.int (1 : Int32)), .unset, .unset, .unset, .unset, .unset] [(.int (Int32.ofNat xa)), (.ref b4)])
  refine Go.step (fun _ zz => XS.iload X6.here hx rfl (hb hby at_89) rfl zz) ?_
  show Go _ _ _ _ T6 (mkF m 91 #[.val (.int p0), .val (.int p1), .val (.int p2), .val (.int p3), .val (.int p4), .val (.int p5), .val (.int (Int32.ofNat n)), .val (.int (Int32.ofNat xa)), .val (.int (Int32.ofNat ya)), .val (.int (Int32.ofNat za)), .val (.ref b1), .val (.ref b4), .val (.int (1 : Int32)), .unset, .unset, .unset, .unset, .unset] [(.int p4), (.int (Int32.ofNat xa)), (.ref b4)])
  obtain ⟨cq7, kq7, q7a, q7b, q7c⟩ := isOf hZ rfl M6.1
  obtain ⟨_, _, ⟨T7, L7, k7, n7⟩, -, X7, ⟨Lc7, hQ7, l7, y7, z7⟩, st7⟩ := X6.virtualBack hx (y := (⟨"rowpack/growable/IntSpace", "setInt", "(II)V"⟩ : MethodName)) (z := (⟨"rowpack/growable/IntSpace", "setInt", "(II)V"⟩ : MethodName)) hown (mvT hZ (hw _ (List.mem_of_getElem? (i := 66) rfl))) (mvT hZ (hw _ (List.mem_of_getElem? (i := 67) rfl))) (notFace_of_selects (args := #[]) (mvT hZ (hw _ (List.mem_of_getElem? (i := 69) rfl)))) (mvT hZ (hw _ (List.mem_of_getElem? (i := 69) rfl))) (mvT hZ (hw _ (List.mem_of_getElem? (i := 68) rfl))) (by decide) (backOf (W := 0) (rm_set l Z a0 hw [] b4 xa b4 np6 P5 G6 (fun _ => (0 : Int32)) p4 T6.heap n0 (Nat.le_trans (Nat.le_trans (Nat.le_trans (Nat.le_trans (Nat.le_trans Z0 E1.1) (Keep.of_wr W3).1) E4.1) K5.1) K6.1) g_b4 hnp6 (by omega) M6) hZ (hw _ (List.mem_of_getElem? (i := 70) rfl)) (hw _ (List.mem_of_getElem? (i := 4) rfl)) (by decide) (by decide)) q7a q7c (g := (mkF m 91 #[.val (.int p0), .val (.int p1), .val (.int p2), .val (.int p3), .val (.int p4), .val (.int p5), .val (.int (Int32.ofNat n)), .val (.int (Int32.ofNat xa)), .val (.int (Int32.ofNat ya)), .val (.int (Int32.ofNat za)), .val (.ref b1), .val (.ref b4), .val (.int (1 : Int32)), .unset, .unset, .unset, .unset, .unset] [(.int p4), (.int (Int32.ofNat xa)), (.ref b4)])) rfl (by rw [hml]; rfl) (Steps.refl _) (argsL := [(.int (Int32.ofNat xa)), (.int p4)]) (rest := []) (lenOf own_pd9 rfl) rfl (by show 2 * 0 + _ ≤ _; exact Nat.le_of_eq rfl) (hb hby at_91) (fun _ _ => ⟨rfl, rfl, (by decide : 12 + 0 ≤ _), (by decide : 10266 + 0 ≤ _)⟩)
  dsimp only [Pt.U, Pt.locs, Pt.cells, Pt.slots] at X7 l7 y7 z7 st7 hQ7
  subst l7 y7 z7
  obtain ⟨rfl, N7q, K7, M7⟩ := hQ7
  have N7 := Fr.app N6 N7q
  refine Go.tr st7 ?_
  show Go _ _ _ _ T7 (mkF m 94 #[.val (.int p0), .val (.int p1), .val (.int p2), .val (.int p3), .val (.int p4), .val (.int p5), .val (.int (Int32.ofNat n)), .val (.int (Int32.ofNat xa)), .val (.int (Int32.ofNat ya)), .val (.int (Int32.ofNat za)), .val (.ref b1), .val (.ref b4), .val (.int (1 : Int32)), .unset, .unset, .unset, .unset, .unset] [])
  refine Go.step (fun _ zz => XS.aload X7.here hx rfl (hb hby at_94) rfl rfl zz) ?_
  show Go _ _ _ _ T7 (mkF m 96 #[.val (.int p0), .val (.int p1), .val (.int p2), .val (.int p3), .val (.int p4), .val (.int p5), .val (.int (Int32.ofNat n)), .val (.int (Int32.ofNat xa)), .val (.int (Int32.ofNat ya)), .val (.int (Int32.ofNat za)), .val (.ref b1), .val (.ref b4), .val (.int (1 : Int32)), .unset, .unset, .unset, .unset, .unset] [(.ref b4)])
  refine Go.step (fun _ zz => XS.aload X7.here hx rfl (hb hby at_96) rfl rfl zz) ?_
  show Go _ _ _ _ T7 (mkF m 98 #[.val (.int p0), .val (.int p1), .val (.int p2), .val (.int p3), .val (.int p4), .val (.int p5), .val (.int (Int32.ofNat n)), .val (.int (Int32.ofNat xa)), .val (.int (Int32.ofNat ya)), .val (.int (Int32.ofNat za)), .val (.ref b1), .val (.ref b4), .val (.int (1 : Int32)), .unset, .unset, .unset, .unset, .unset] [(.ref b1), (.ref b4)])
  refine Go.step (fun _ zz => XS.iload X7.here hx rfl (hb hby at_98) rfl zz) ?_
  show Go _ _ _ _ T7 (mkF m 100 #[.val (.int p0), .val (.int p1), .val (.int p2), .val (.int p3), .val (.int p4), .val (.int p5), .val (.int (Int32.ofNat n)), .val (.int (Int32.ofNat xa)), .val (.int (Int32.ofNat ya)), .val (.int (Int32.ofNat za)), .val (.ref b1), .val (.ref b4), .val (.int (1 : Int32)), .unset, .unset, .unset, .unset, .unset] [(.int (Int32.ofNat ya)), (.ref b1), (.ref b4)])
  refine Go.step (fun _ zz => XS.iconst X7.here hx rfl (hb hby at_100) zz) ?_
  show Go _ _ _ _ T7 (mkF m 101 #[.val (.int p0), .val (.int p1), .val (.int p2), .val (.int p3), .val (.int p4), .val (.int p5), .val (.int (Int32.ofNat n)), .val (.int (Int32.ofNat xa)), .val (.int (Int32.ofNat ya)), .val (.int (Int32.ofNat za)), .val (.ref b1), .val (.ref b4), .val (.int (1 : Int32)), .unset, .unset, .unset, .unset, .unset] [(.int (1 : Int32)), (.int (Int32.ofNat ya)), (.ref b1), (.ref b4)])
  obtain ⟨cq8, kq8, q8a, q8b, q8c⟩ := isOf hZ rfl M7.1
  obtain ⟨_, _, ⟨T8, L8, k8, n8⟩, -, X8, ⟨Lc8, hQ8, l8, y8, z8⟩, st8⟩ := X7.virtualBack hx (y := (⟨"rowpack/growable/IntSpace", "copyIn", "([III)V"⟩ : MethodName)) (z := (⟨"rowpack/growable/IntSpace", "copyIn", "([III)V"⟩ : MethodName)) hown (mvT hZ (hw _ (List.mem_of_getElem? (i := 71) rfl))) (mvT hZ (hw _ (List.mem_of_getElem? (i := 72) rfl))) (notFace_of_selects (args := #[]) (mvT hZ (hw _ (List.mem_of_getElem? (i := 74) rfl)))) (mvT hZ (hw _ (List.mem_of_getElem? (i := 74) rfl))) (mvT hZ (hw _ (List.mem_of_getElem? (i := 73) rfl))) (by decide) (backOf (W := 0) (rm_ci l Z a0 hw [] b4 ya b4 np6 P5 G6 (own_mem1 xa p4) b1 k1 p5 T7.heap n0 (Nat.le_trans (Nat.le_trans (Nat.le_trans (Nat.le_trans (Nat.le_trans (Nat.le_trans Z0 E1.1) (Keep.of_wr W3).1) E4.1) K5.1) K6.1) K7.1) g_b4 hnp6 (by omega) M7 ((((V3.ext E4).keep K5 (ninS (Nat.ne_of_lt (Nat.lt_of_lt_of_le V3.lt (Nat.le_of_eq g4.symm))) nin0)).keep K6 (ninS (Nat.ne_of_lt (Nat.lt_of_lt_of_le V3.lt (Nat.le_of_eq g4.symm))) (ninS (Nat.ne_of_lt (Nat.lt_of_lt_of_le (Nat.lt_of_lt_of_le V3.lt (Nat.le_of_eq g4.symm)) (M5.2.2.2.2.1.2.1))) nin0))).keep K7 (ninS (Nat.ne_of_lt (Nat.lt_of_lt_of_le (Nat.lt_of_lt_of_le V3.lt (Nat.le_of_eq g4.symm)) (M6.2.2.2.2.1.2.2 _ (by omega)))) nin0))) hZ (hw _ (List.mem_of_getElem? (i := 75) rfl)) (hw _ (List.mem_of_getElem? (i := 4) rfl)) (by decide) (by decide)) q8a q8c (g := (mkF m 101 #[.val (.int p0), .val (.int p1), .val (.int p2), .val (.int p3), .val (.int p4), .val (.int p5), .val (.int (Int32.ofNat n)), .val (.int (Int32.ofNat xa)), .val (.int (Int32.ofNat ya)), .val (.int (Int32.ofNat za)), .val (.ref b1), .val (.ref b4), .val (.int (1 : Int32)), .unset, .unset, .unset, .unset, .unset] [(.int (1 : Int32)), (.int (Int32.ofNat ya)), (.ref b1), (.ref b4)])) rfl (by rw [hml]; rfl) (Steps.refl _) (argsL := [(.ref b1), (.int (Int32.ofNat ya)), (.int (1 : Int32))]) (rest := []) (lenOf own_pd10 rfl) rfl (by show 2 * 0 + _ ≤ _; exact Nat.le_of_eq rfl) (hb hby at_101) (fun _ _ => ⟨rfl, rfl, (by decide : 12 + 0 ≤ _), (by decide : 10266 + 0 ≤ _)⟩)
  dsimp only [Pt.U, Pt.locs, Pt.cells, Pt.slots] at X8 l8 y8 z8 st8 hQ8
  subst l8 y8 z8
  obtain ⟨rfl, N8q, K8, M8⟩ := hQ8
  have N8 := Fr.app N7 N8q
  refine Go.tr st8 ?_
  show Go _ _ _ _ T8 (mkF m 104 #[.val (.int p0), .val (.int p1), .val (.int p2), .val (.int p3), .val (.int p4), .val (.int p5), .val (.int (Int32.ofNat n)), .val (.int (Int32.ofNat xa)), .val (.int (Int32.ofNat ya)), .val (.int (Int32.ofNat za)), .val (.ref b1), .val (.ref b4), .val (.int (1 : Int32)), .unset, .unset, .unset, .unset, .unset] [])
  refine Go.step (fun _ zz => XS.aload X8.here hx rfl (hb hby at_104) rfl rfl zz) ?_
  show Go _ _ _ _ T8 (mkF m 106 #[.val (.int p0), .val (.int p1), .val (.int p2), .val (.int p3), .val (.int p4), .val (.int p5), .val (.int (Int32.ofNat n)), .val (.int (Int32.ofNat xa)), .val (.int (Int32.ofNat ya)), .val (.int (Int32.ofNat za)), .val (.ref b1), .val (.ref b4), .val (.int (1 : Int32)), .unset, .unset, .unset, .unset, .unset] [(.ref b4)])
  refine Go.step (fun _ zz => XS.iload X8.here hx rfl (hb hby at_106) rfl zz) ?_
  show Go _ _ _ _ T8 (mkF m 108 #[.val (.int p0), .val (.int p1), .val (.int p2), .val (.int p3), .val (.int p4), .val (.int p5), .val (.int (Int32.ofNat n)), .val (.int (Int32.ofNat xa)), .val (.int (Int32.ofNat ya)), .val (.int (Int32.ofNat za)), .val (.ref b1), .val (.ref b4), .val (.int (1 : Int32)), .unset, .unset, .unset, .unset, .unset] [(.int (Int32.ofNat xa)), (.ref b4)])
  obtain ⟨cq9, kq9, q9a, q9b, q9c⟩ := isOf hZ rfl M8.1
  obtain ⟨_, _, ⟨T9, L9, k9, n9⟩, -, X9, ⟨Lc9, hQ9, l9, y9, z9⟩, st9⟩ := X8.virtualBack hx (y := (⟨"rowpack/growable/IntSpace", "getInt", "(I)I"⟩ : MethodName)) (z := (⟨"rowpack/growable/IntSpace", "getInt", "(I)I"⟩ : MethodName)) hown (mvT hZ (hw _ (List.mem_of_getElem? (i := 85) rfl))) (mvT hZ (hw _ (List.mem_of_getElem? (i := 86) rfl))) (notFace_of_selects (args := #[]) (mvT hZ (hw _ (List.mem_of_getElem? (i := 88) rfl)))) (mvT hZ (hw _ (List.mem_of_getElem? (i := 88) rfl))) (mvT hZ (hw _ (List.mem_of_getElem? (i := 87) rfl))) (by decide) (backOf (W := 0) (rm_get l Z a0 hw [] b4 xa b4 np6 P5 G6 (own_mem ya xa p5 p4) T8.heap n0 (Nat.le_trans (Nat.le_trans (Nat.le_trans (Nat.le_trans (Nat.le_trans (Nat.le_trans (Nat.le_trans Z0 E1.1) (Keep.of_wr W3).1) E4.1) K5.1) K6.1) K7.1) K8.1) g_b4 hnp6 (by omega) M8) hZ (hw _ (List.mem_of_getElem? (i := 89) rfl)) (hw _ (List.mem_of_getElem? (i := 4) rfl)) (by decide) (by decide)) q9a q9c (g := (mkF m 108 #[.val (.int p0), .val (.int p1), .val (.int p2), .val (.int p3), .val (.int p4), .val (.int p5), .val (.int (Int32.ofNat n)), .val (.int (Int32.ofNat xa)), .val (.int (Int32.ofNat ya)), .val (.int (Int32.ofNat za)), .val (.ref b1), .val (.ref b4), .val (.int (1 : Int32)), .unset, .unset, .unset, .unset, .unset] [(.int (Int32.ofNat xa)), (.ref b4)])) rfl (by rw [hml]; rfl) (Steps.refl _) (argsL := [(.int (Int32.ofNat xa))]) (rest := []) (lenOf own_pd1 rfl) rfl (by show 2 * 0 + _ ≤ _; exact Nat.le_of_eq rfl) (hb hby at_108) (fun _ _ => ⟨rfl, rfl, (by decide : 12 + 0 ≤ _), (by decide : 10266 + 0 ≤ _)⟩)
  dsimp only [Pt.U, Pt.locs, Pt.cells, Pt.slots] at X9 l9 y9 z9 st9 hQ9
  subst l9 y9 z9
  obtain ⟨rfl, N9q, e9⟩ := hQ9
  have N9 := Fr.app N8 N9q
  refine Go.tr st9 ?_
  show Go _ _ _ _ T9 (mkF m 111 #[.val (.int p0), .val (.int p1), .val (.int p2), .val (.int p3), .val (.int p4), .val (.int p5), .val (.int (Int32.ofNat n)), .val (.int (Int32.ofNat xa)), .val (.int (Int32.ofNat ya)), .val (.int (Int32.ofNat za)), .val (.ref b1), .val (.ref b4), .val (.int (1 : Int32)), .unset, .unset, .unset, .unset, .unset] [(.int ((own_mem ya xa p5 p4) xa))])
  refine Go.step (fun _ zz => XS.istore X9.here hx rfl (hb hby at_111) rfl (l' := #[.val (.int p0), .val (.int p1), .val (.int p2), .val (.int p3), .val (.int p4), .val (.int p5), .val (.int (Int32.ofNat n)), .val (.int (Int32.ofNat xa)), .val (.int (Int32.ofNat ya)), .val (.int (Int32.ofNat za)), .val (.ref b1), .val (.ref b4), .val (.int (1 : Int32)), .val (.int ((own_mem ya xa p5 p4) xa)), .unset, .unset, .unset, .unset]) rfl zz) ?_
  show Go _ _ _ _ T9 (mkF m 113 #[.val (.int p0), .val (.int p1), .val (.int p2), .val (.int p3), .val (.int p4), .val (.int p5), .val (.int (Int32.ofNat n)), .val (.int (Int32.ofNat xa)), .val (.int (Int32.ofNat ya)), .val (.int (Int32.ofNat za)), .val (.ref b1), .val (.ref b4), .val (.int (1 : Int32)), .val (.int ((own_mem ya xa p5 p4) xa)), .unset, .unset, .unset, .unset] [])
  refine Go.step (fun _ zz => XS.aload X9.here hx rfl (hb hby at_113) rfl rfl zz) ?_
  show Go _ _ _ _ T9 (mkF m 115 #[.val (.int p0), .val (.int p1), .val (.int p2), .val (.int p3), .val (.int p4), .val (.int p5), .val (.int (Int32.ofNat n)), .val (.int (Int32.ofNat xa)), .val (.int (Int32.ofNat ya)), .val (.int (Int32.ofNat za)), .val (.ref b1), .val (.ref b4), .val (.int (1 : Int32)), .val (.int ((own_mem ya xa p5 p4) xa)), .unset, .unset, .unset, .unset] [(.ref b4)])
  refine Go.step (fun _ zz => XS.iload X9.here hx rfl (hb hby at_115) rfl zz) ?_
  show Go _ _ _ _ T9 (mkF m 117 #[.val (.int p0), .val (.int p1), .val (.int p2), .val (.int p3), .val (.int p4), .val (.int p5), .val (.int (Int32.ofNat n)), .val (.int (Int32.ofNat xa)), .val (.int (Int32.ofNat ya)), .val (.int (Int32.ofNat za)), .val (.ref b1), .val (.ref b4), .val (.int (1 : Int32)), .val (.int ((own_mem ya xa p5 p4) xa)), .unset, .unset, .unset, .unset] [(.int (Int32.ofNat ya)), (.ref b4)])
  obtain ⟨cq10, kq10, q10a, q10b, q10c⟩ := isOf hZ e9 M8.1
  obtain ⟨_, _, ⟨T10, L10, k10, n10⟩, -, X10, ⟨Lc10, hQ10, l10, y10, z10⟩, st10⟩ := X9.virtualBack hx (y := (⟨"rowpack/growable/IntSpace", "getInt", "(I)I"⟩ : MethodName)) (z := (⟨"rowpack/growable/IntSpace", "getInt", "(I)I"⟩ : MethodName)) hown (mvT hZ (hw _ (List.mem_of_getElem? (i := 85) rfl))) (mvT hZ (hw _ (List.mem_of_getElem? (i := 86) rfl))) (notFace_of_selects (args := #[]) (mvT hZ (hw _ (List.mem_of_getElem? (i := 88) rfl)))) (mvT hZ (hw _ (List.mem_of_getElem? (i := 88) rfl))) (mvT hZ (hw _ (List.mem_of_getElem? (i := 87) rfl))) (by decide) (backOf (W := 0) (rm_get l Z a0 hw [] b4 ya b4 np6 P5 G6 (own_mem ya xa p5 p4) T8.heap n0 (Nat.le_trans (Nat.le_trans (Nat.le_trans (Nat.le_trans (Nat.le_trans (Nat.le_trans (Nat.le_trans Z0 E1.1) (Keep.of_wr W3).1) E4.1) K5.1) K6.1) K7.1) K8.1) g_b4 hnp6 (by omega) M8) hZ (hw _ (List.mem_of_getElem? (i := 89) rfl)) (hw _ (List.mem_of_getElem? (i := 4) rfl)) (by decide) (by decide)) q10a q10c (g := (mkF m 117 #[.val (.int p0), .val (.int p1), .val (.int p2), .val (.int p3), .val (.int p4), .val (.int p5), .val (.int (Int32.ofNat n)), .val (.int (Int32.ofNat xa)), .val (.int (Int32.ofNat ya)), .val (.int (Int32.ofNat za)), .val (.ref b1), .val (.ref b4), .val (.int (1 : Int32)), .val (.int ((own_mem ya xa p5 p4) xa)), .unset, .unset, .unset, .unset] [(.int (Int32.ofNat ya)), (.ref b4)])) rfl (by rw [hml]; rfl) (Steps.refl _) (argsL := [(.int (Int32.ofNat ya))]) (rest := []) (lenOf own_pd1 rfl) rfl (by show 2 * 0 + _ ≤ _; exact Nat.le_of_eq rfl) (hb hby at_117) (fun _ _ => ⟨rfl, e9, (by decide : 12 + 0 ≤ _), (by decide : 10266 + 0 ≤ _)⟩)
  dsimp only [Pt.U, Pt.locs, Pt.cells, Pt.slots] at X10 l10 y10 z10 st10 hQ10
  subst l10 y10 z10
  obtain ⟨rfl, N10q, e10⟩ := hQ10
  have N10 := Fr.app N9 N10q
  refine Go.tr st10 ?_
  show Go _ _ _ _ T10 (mkF m 120 #[.val (.int p0), .val (.int p1), .val (.int p2), .val (.int p3), .val (.int p4), .val (.int p5), .val (.int (Int32.ofNat n)), .val (.int (Int32.ofNat xa)), .val (.int (Int32.ofNat ya)), .val (.int (Int32.ofNat za)), .val (.ref b1), .val (.ref b4), .val (.int (1 : Int32)), .val (.int ((own_mem ya xa p5 p4) xa)), .unset, .unset, .unset, .unset] [(.int ((own_mem ya xa p5 p4) ya))])
  refine Go.step (fun _ zz => XS.istore X10.here hx rfl (hb hby at_120) rfl (l' := #[.val (.int p0), .val (.int p1), .val (.int p2), .val (.int p3), .val (.int p4), .val (.int p5), .val (.int (Int32.ofNat n)), .val (.int (Int32.ofNat xa)), .val (.int (Int32.ofNat ya)), .val (.int (Int32.ofNat za)), .val (.ref b1), .val (.ref b4), .val (.int (1 : Int32)), .val (.int ((own_mem ya xa p5 p4) xa)), .val (.int ((own_mem ya xa p5 p4) ya)), .unset, .unset, .unset]) rfl zz) ?_
  show Go _ _ _ _ T10 (mkF m 122 #[.val (.int p0), .val (.int p1), .val (.int p2), .val (.int p3), .val (.int p4), .val (.int p5), .val (.int (Int32.ofNat n)), .val (.int (Int32.ofNat xa)), .val (.int (Int32.ofNat ya)), .val (.int (Int32.ofNat za)), .val (.ref b1), .val (.ref b4), .val (.int (1 : Int32)), .val (.int ((own_mem ya xa p5 p4) xa)), .val (.int ((own_mem ya xa p5 p4) ya)), .unset, .unset, .unset] [])
  refine Go.step (fun _ zz => XS.aload X10.here hx rfl (hb hby at_122) rfl rfl zz) ?_
  show Go _ _ _ _ T10 (mkF m 124 #[.val (.int p0), .val (.int p1), .val (.int p2), .val (.int p3), .val (.int p4), .val (.int p5), .val (.int (Int32.ofNat n)), .val (.int (Int32.ofNat xa)), .val (.int (Int32.ofNat ya)), .val (.int (Int32.ofNat za)), .val (.ref b1), .val (.ref b4), .val (.int (1 : Int32)), .val (.int ((own_mem ya xa p5 p4) xa)), .val (.int ((own_mem ya xa p5 p4) ya)), .unset, .unset, .unset] [(.ref b4)])
  refine Go.step (fun _ zz => XS.iload X10.here hx rfl (hb hby at_124) rfl zz) ?_
  show Go _ _ _ _ T10 (mkF m 126 #[.val (.int p0), .val (.int p1), .val (.int p2), .val (.int p3), .val (.int p4), .val (.int p5), .val (.int (Int32.ofNat n)), .val (.int (Int32.ofNat xa)), .val (.int (Int32.ofNat ya)), .val (.int (Int32.ofNat za)), .val (.ref b1), .val (.ref b4), .val (.int (1 : Int32)), .val (.int ((own_mem ya xa p5 p4) xa)), .val (.int ((own_mem ya xa p5 p4) ya)), .unset, .unset, .unset] [(.int (Int32.ofNat za)), (.ref b4)])
  obtain ⟨cq11, kq11, q11a, q11b, q11c⟩ := isOf hZ e10 M8.1
  obtain ⟨_, _, ⟨T11, L11, k11, n11⟩, -, X11, ⟨Lc11, hQ11, l11, y11, z11⟩, st11⟩ := X10.virtualBack hx (y := (⟨"rowpack/growable/IntSpace", "getInt", "(I)I"⟩ : MethodName)) (z := (⟨"rowpack/growable/IntSpace", "getInt", "(I)I"⟩ : MethodName)) hown (mvT hZ (hw _ (List.mem_of_getElem? (i := 85) rfl))) (mvT hZ (hw _ (List.mem_of_getElem? (i := 86) rfl))) (notFace_of_selects (args := #[]) (mvT hZ (hw _ (List.mem_of_getElem? (i := 88) rfl)))) (mvT hZ (hw _ (List.mem_of_getElem? (i := 88) rfl))) (mvT hZ (hw _ (List.mem_of_getElem? (i := 87) rfl))) (by decide) (backOf (W := 0) (rm_get l Z a0 hw [] b4 za b4 np6 P5 G6 (own_mem ya xa p5 p4) T8.heap n0 (Nat.le_trans (Nat.le_trans (Nat.le_trans (Nat.le_trans (Nat.le_trans (Nat.le_trans (Nat.le_trans Z0 E1.1) (Keep.of_wr W3).1) E4.1) K5.1) K6.1) K7.1) K8.1) g_b4 hnp6 (by omega) M8) hZ (hw _ (List.mem_of_getElem? (i := 89) rfl)) (hw _ (List.mem_of_getElem? (i := 4) rfl)) (by decide) (by decide)) q11a q11c (g := (mkF m 126 #[.val (.int p0), .val (.int p1), .val (.int p2), .val (.int p3), .val (.int p4), .val (.int p5), .val (.int (Int32.ofNat n)), .val (.int (Int32.ofNat xa)), .val (.int (Int32.ofNat ya)), .val (.int (Int32.ofNat za)), .val (.ref b1), .val (.ref b4), .val (.int (1 : Int32)), .val (.int ((own_mem ya xa p5 p4) xa)), .val (.int ((own_mem ya xa p5 p4) ya)), .unset, .unset, .unset] [(.int (Int32.ofNat za)), (.ref b4)])) rfl (by rw [hml]; rfl) (Steps.refl _) (argsL := [(.int (Int32.ofNat za))]) (rest := []) (lenOf own_pd1 rfl) rfl (by show 2 * 0 + _ ≤ _; exact Nat.le_of_eq rfl) (hb hby at_126) (fun _ _ => ⟨rfl, e10, (by decide : 12 + 0 ≤ _), (by decide : 10266 + 0 ≤ _)⟩)
  dsimp only [Pt.U, Pt.locs, Pt.cells, Pt.slots] at X11 l11 y11 z11 st11 hQ11
  subst l11 y11 z11
  obtain ⟨rfl, N11q, e11⟩ := hQ11
  have N11 := Fr.app N10 N11q
  refine Go.tr st11 ?_
  show Go _ _ _ _ T11 (mkF m 129 #[.val (.int p0), .val (.int p1), .val (.int p2), .val (.int p3), .val (.int p4), .val (.int p5), .val (.int (Int32.ofNat n)), .val (.int (Int32.ofNat xa)), .val (.int (Int32.ofNat ya)), .val (.int (Int32.ofNat za)), .val (.ref b1), .val (.ref b4), .val (.int (1 : Int32)), .val (.int ((own_mem ya xa p5 p4) xa)), .val (.int ((own_mem ya xa p5 p4) ya)), .unset, .unset, .unset] [(.int ((own_mem ya xa p5 p4) za))])
  refine Go.step (fun _ zz => XS.istore X11.here hx rfl (hb hby at_129) rfl (l' := #[.val (.int p0), .val (.int p1), .val (.int p2), .val (.int p3), .val (.int p4), .val (.int p5), .val (.int (Int32.ofNat n)), .val (.int (Int32.ofNat xa)), .val (.int (Int32.ofNat ya)), .val (.int (Int32.ofNat za)), .val (.ref b1), .val (.ref b4), .val (.int (1 : Int32)), .val (.int ((own_mem ya xa p5 p4) xa)), .val (.int ((own_mem ya xa p5 p4) ya)), .val (.int ((own_mem ya xa p5 p4) za)), .unset, .unset]) rfl zz) ?_
  show Go _ _ _ _ T11 (mkF m 131 #[.val (.int p0), .val (.int p1), .val (.int p2), .val (.int p3), .val (.int p4), .val (.int p5), .val (.int (Int32.ofNat n)), .val (.int (Int32.ofNat xa)), .val (.int (Int32.ofNat ya)), .val (.int (Int32.ofNat za)), .val (.ref b1), .val (.ref b4), .val (.int (1 : Int32)), .val (.int ((own_mem ya xa p5 p4) xa)), .val (.int ((own_mem ya xa p5 p4) ya)), .val (.int ((own_mem ya xa p5 p4) za)), .unset, .unset] [])
  refine Go.step (fun _ zz => XS.iload X11.here hx rfl (hb hby at_131) rfl zz) ?_
  show Go _ _ _ _ T11 (mkF m 133 #[.val (.int p0), .val (.int p1), .val (.int p2), .val (.int p3), .val (.int p4), .val (.int p5), .val (.int (Int32.ofNat n)), .val (.int (Int32.ofNat xa)), .val (.int (Int32.ofNat ya)), .val (.int (Int32.ofNat za)), .val (.ref b1), .val (.ref b4), .val (.int (1 : Int32)), .val (.int ((own_mem ya xa p5 p4) xa)), .val (.int ((own_mem ya xa p5 p4) ya)), .val (.int ((own_mem ya xa p5 p4) za)), .unset, .unset] [(.int (Int32.ofNat xa))])
  refine Go.step (fun _ zz => XS.iload X11.here hx rfl (hb hby at_133) rfl zz) ?_
  show Go _ _ _ _ T11 (mkF m 135 #[.val (.int p0), .val (.int p1), .val (.int p2), .val (.int p3), .val (.int p4), .val (.int p5), .val (.int (Int32.ofNat n)), .val (.int (Int32.ofNat xa)), .val (.int (Int32.ofNat ya)), .val (.int (Int32.ofNat za)), .val (.ref b1), .val (.ref b4), .val (.int (1 : Int32)), .val (.int ((own_mem ya xa p5 p4) xa)), .val (.int ((own_mem ya xa p5 p4) ya)), .val (.int ((own_mem ya xa p5 p4) za)), .unset, .unset] [(.int (Int32.ofNat ya)), (.int (Int32.ofNat xa))])
  by_cases hc135 : (Int32.ofNat xa) = (Int32.ofNat ya)
  · refine Go.step (fun _ zz => XS.icmpNo X11.here hx rfl (hb hby at_135) rfl (teq hc135).2 zz) ?_
    show Go _ _ _ _ T11 (mkF m 138 #[.val (.int p0), .val (.int p1), .val (.int p2), .val (.int p3), .val (.int p4), .val (.int p5), .val (.int (Int32.ofNat n)), .val (.int (Int32.ofNat xa)), .val (.int (Int32.ofNat ya)), .val (.int (Int32.ofNat za)), .val (.ref b1), .val (.ref b4), .val (.int (1 : Int32)), .val (.int ((own_mem ya xa p5 p4) xa)), .val (.int ((own_mem ya xa p5 p4) ya)), .val (.int ((own_mem ya xa p5 p4) za)), .unset, .unset] [])
    refine Go.step (fun _ zz => XS.iload X11.here hx rfl (hb hby at_138) rfl zz) ?_
    show Go _ _ _ _ T11 (mkF m 140 #[.val (.int p0), .val (.int p1), .val (.int p2), .val (.int p3), .val (.int p4), .val (.int p5), .val (.int (Int32.ofNat n)), .val (.int (Int32.ofNat xa)), .val (.int (Int32.ofNat ya)), .val (.int (Int32.ofNat za)), .val (.ref b1), .val (.ref b4), .val (.int (1 : Int32)), .val (.int ((own_mem ya xa p5 p4) xa)), .val (.int ((own_mem ya xa p5 p4) ya)), .val (.int ((own_mem ya xa p5 p4) za)), .unset, .unset] [(.int p5)])
    refine Go.step (fun _ zz => XS.goto X11.here hx rfl (pc0 := 140) (pc' := 145) rfl (hb hby at_140) (by decide) (by decide) zz) ?_
    show Go _ _ _ _ T11 (mkF m 145 #[.val (.int p0), .val (.int p1), .val (.int p2), .val (.int p3), .val (.int p4), .val (.int p5), .val (.int (Int32.ofNat n)), .val (.int (Int32.ofNat xa)), .val (.int (Int32.ofNat ya)), .val (.int (Int32.ofNat za)), .val (.ref b1), .val (.ref b4), .val (.int (1 : Int32)), .val (.int ((own_mem ya xa p5 p4) xa)), .val (.int ((own_mem ya xa p5 p4) ya)), .val (.int ((own_mem ya xa p5 p4) za)), .unset, .unset] [(.int p5)])
    refine Go.step (fun _ zz => XS.istore X11.here hx rfl (hb hby at_145) rfl (l' := #[.val (.int p0), .val (.int p1), .val (.int p2), .val (.int p3), .val (.int p4), .val (.int p5), .val (.int (Int32.ofNat n)), .val (.int (Int32.ofNat xa)), .val (.int (Int32.ofNat ya)), .val (.int (Int32.ofNat za)), .val (.ref b1), .val (.ref b4), .val (.int (1 : Int32)), .val (.int ((own_mem ya xa p5 p4) xa)), .val (.int ((own_mem ya xa p5 p4) ya)), .val (.int ((own_mem ya xa p5 p4) za)), .val (.int p5), .unset]) rfl zz) ?_
    show Go _ _ _ _ T11 (mkF m 147 #[.val (.int p0), .val (.int p1), .val (.int p2), .val (.int p3), .val (.int p4), .val (.int p5), .val (.int (Int32.ofNat n)), .val (.int (Int32.ofNat xa)), .val (.int (Int32.ofNat ya)), .val (.int (Int32.ofNat za)), .val (.ref b1), .val (.ref b4), .val (.int (1 : Int32)), .val (.int ((own_mem ya xa p5 p4) xa)), .val (.int ((own_mem ya xa p5 p4) ya)), .val (.int ((own_mem ya xa p5 p4) za)), .val (.int p5), .unset] [])
    refine Go.step (fun _ zz => XS.iload X11.here hx rfl (hb hby at_147) rfl zz) ?_
    show Go _ _ _ _ T11 (mkF m 149 #[.val (.int p0), .val (.int p1), .val (.int p2), .val (.int p3), .val (.int p4), .val (.int p5), .val (.int (Int32.ofNat n)), .val (.int (Int32.ofNat xa)), .val (.int (Int32.ofNat ya)), .val (.int (Int32.ofNat za)), .val (.ref b1), .val (.ref b4), .val (.int (1 : Int32)), .val (.int ((own_mem ya xa p5 p4) xa)), .val (.int ((own_mem ya xa p5 p4) ya)), .val (.int ((own_mem ya xa p5 p4) za)), .val (.int p5), .unset] [(.int (Int32.ofNat za))])
    refine Go.step (fun _ zz => XS.iload X11.here hx rfl (hb hby at_149) rfl zz) ?_
    show Go _ _ _ _ T11 (mkF m 151 #[.val (.int p0), .val (.int p1), .val (.int p2), .val (.int p3), .val (.int p4), .val (.int p5), .val (.int (Int32.ofNat n)), .val (.int (Int32.ofNat xa)), .val (.int (Int32.ofNat ya)), .val (.int (Int32.ofNat za)), .val (.ref b1), .val (.ref b4), .val (.int (1 : Int32)), .val (.int ((own_mem ya xa p5 p4) xa)), .val (.int ((own_mem ya xa p5 p4) ya)), .val (.int ((own_mem ya xa p5 p4) za)), .val (.int p5), .unset] [(.int (Int32.ofNat ya)), (.int (Int32.ofNat za))])
    by_cases hc151 : (Int32.ofNat za) = (Int32.ofNat ya)
    · refine Go.step (fun _ zz => XS.icmpNo X11.here hx rfl (hb hby at_151) rfl (teq hc151).2 zz) ?_
      show Go _ _ _ _ T11 (mkF m 154 #[.val (.int p0), .val (.int p1), .val (.int p2), .val (.int p3), .val (.int p4), .val (.int p5), .val (.int (Int32.ofNat n)), .val (.int (Int32.ofNat xa)), .val (.int (Int32.ofNat ya)), .val (.int (Int32.ofNat za)), .val (.ref b1), .val (.ref b4), .val (.int (1 : Int32)), .val (.int ((own_mem ya xa p5 p4) xa)), .val (.int ((own_mem ya xa p5 p4) ya)), .val (.int ((own_mem ya xa p5 p4) za)), .val (.int p5), .unset] [])
      refine Go.step (fun _ zz => XS.iload X11.here hx rfl (hb hby at_154) rfl zz) ?_
      show Go _ _ _ _ T11 (mkF m 156 #[.val (.int p0), .val (.int p1), .val (.int p2), .val (.int p3), .val (.int p4), .val (.int p5), .val (.int (Int32.ofNat n)), .val (.int (Int32.ofNat xa)), .val (.int (Int32.ofNat ya)), .val (.int (Int32.ofNat za)), .val (.ref b1), .val (.ref b4), .val (.int (1 : Int32)), .val (.int ((own_mem ya xa p5 p4) xa)), .val (.int ((own_mem ya xa p5 p4) ya)), .val (.int ((own_mem ya xa p5 p4) za)), .val (.int p5), .unset] [(.int p5)])
      refine Go.step (fun _ zz => XS.istore X11.here hx rfl (hb hby at_156) rfl (l' := #[.val (.int p0), .val (.int p1), .val (.int p2), .val (.int p3), .val (.int p4), .val (.int p5), .val (.int (Int32.ofNat n)), .val (.int (Int32.ofNat xa)), .val (.int (Int32.ofNat ya)), .val (.int (Int32.ofNat za)), .val (.ref b1), .val (.ref b4), .val (.int (1 : Int32)), .val (.int ((own_mem ya xa p5 p4) xa)), .val (.int ((own_mem ya xa p5 p4) ya)), .val (.int ((own_mem ya xa p5 p4) za)), .val (.int p5), .val (.int p5)]) rfl zz) ?_
      show Go _ _ _ _ T11 (mkF m 158 #[.val (.int p0), .val (.int p1), .val (.int p2), .val (.int p3), .val (.int p4), .val (.int p5), .val (.int (Int32.ofNat n)), .val (.int (Int32.ofNat xa)), .val (.int (Int32.ofNat ya)), .val (.int (Int32.ofNat za)), .val (.ref b1), .val (.ref b4), .val (.int (1 : Int32)), .val (.int ((own_mem ya xa p5 p4) xa)), .val (.int ((own_mem ya xa p5 p4) ya)), .val (.int ((own_mem ya xa p5 p4) za)), .val (.int p5), .val (.int p5)] [])
      refine Go.step (fun _ zz => XS.goto X11.here hx rfl (pc0 := 158) (pc' := 178) rfl (hb hby at_158) (by decide) (by decide) zz) ?_
      show Go _ _ _ _ T11 (mkF m 178 #[.val (.int p0), .val (.int p1), .val (.int p2), .val (.int p3), .val (.int p4), .val (.int p5), .val (.int (Int32.ofNat n)), .val (.int (Int32.ofNat xa)), .val (.int (Int32.ofNat ya)), .val (.int (Int32.ofNat za)), .val (.ref b1), .val (.ref b4), .val (.int (1 : Int32)), .val (.int ((own_mem ya xa p5 p4) xa)), .val (.int ((own_mem ya xa p5 p4) ya)), .val (.int ((own_mem ya xa p5 p4) za)), .val (.int p5), .val (.int p5)] [])
      refine Go.step (fun _ zz => XS.iload X11.here hx rfl (hb hby at_178) rfl zz) ?_
      show Go _ _ _ _ T11 (mkF m 180 #[.val (.int p0), .val (.int p1), .val (.int p2), .val (.int p3), .val (.int p4), .val (.int p5), .val (.int (Int32.ofNat n)), .val (.int (Int32.ofNat xa)), .val (.int (Int32.ofNat ya)), .val (.int (Int32.ofNat za)), .val (.ref b1), .val (.ref b4), .val (.int (1 : Int32)), .val (.int ((own_mem ya xa p5 p4) xa)), .val (.int ((own_mem ya xa p5 p4) ya)), .val (.int ((own_mem ya xa p5 p4) za)), .val (.int p5), .val (.int p5)] [(.int ((own_mem ya xa p5 p4) xa))])
      refine Go.step (fun _ zz => XS.iload X11.here hx rfl (hb hby at_180) rfl zz) ?_
      show Go _ _ _ _ T11 (mkF m 182 #[.val (.int p0), .val (.int p1), .val (.int p2), .val (.int p3), .val (.int p4), .val (.int p5), .val (.int (Int32.ofNat n)), .val (.int (Int32.ofNat xa)), .val (.int (Int32.ofNat ya)), .val (.int (Int32.ofNat za)), .val (.ref b1), .val (.ref b4), .val (.int (1 : Int32)), .val (.int ((own_mem ya xa p5 p4) xa)), .val (.int ((own_mem ya xa p5 p4) ya)), .val (.int ((own_mem ya xa p5 p4) za)), .val (.int p5), .val (.int p5)] [(.int p5), (.int ((own_mem ya xa p5 p4) xa))])
      refine Go.step (fun _ zz => XS.icmpNo X11.here hx rfl (hb hby at_182) rfl (teq ((own_memB ya xa _ _ (by omega) (by omega)).trans (by rw [if_pos hc135.symm]))).2 zz) ?_
      show Go _ _ _ _ T11 (mkF m 185 #[.val (.int p0), .val (.int p1), .val (.int p2), .val (.int p3), .val (.int p4), .val (.int p5), .val (.int (Int32.ofNat n)), .val (.int (Int32.ofNat xa)), .val (.int (Int32.ofNat ya)), .val (.int (Int32.ofNat za)), .val (.ref b1), .val (.ref b4), .val (.int (1 : Int32)), .val (.int ((own_mem ya xa p5 p4) xa)), .val (.int ((own_mem ya xa p5 p4) ya)), .val (.int ((own_mem ya xa p5 p4) za)), .val (.int p5), .val (.int p5)] [])
      refine Go.step (fun _ zz => XS.iload X11.here hx rfl (hb hby at_185) rfl zz) ?_
      show Go _ _ _ _ T11 (mkF m 187 #[.val (.int p0), .val (.int p1), .val (.int p2), .val (.int p3), .val (.int p4), .val (.int p5), .val (.int (Int32.ofNat n)), .val (.int (Int32.ofNat xa)), .val (.int (Int32.ofNat ya)), .val (.int (Int32.ofNat za)), .val (.ref b1), .val (.ref b4), .val (.int (1 : Int32)), .val (.int ((own_mem ya xa p5 p4) xa)), .val (.int ((own_mem ya xa p5 p4) ya)), .val (.int ((own_mem ya xa p5 p4) za)), .val (.int p5), .val (.int p5)] [(.int ((own_mem ya xa p5 p4) ya))])
      refine Go.step (fun _ zz => XS.iload X11.here hx rfl (hb hby at_187) rfl zz) ?_
      show Go _ _ _ _ T11 (mkF m 189 #[.val (.int p0), .val (.int p1), .val (.int p2), .val (.int p3), .val (.int p4), .val (.int p5), .val (.int (Int32.ofNat n)), .val (.int (Int32.ofNat xa)), .val (.int (Int32.ofNat ya)), .val (.int (Int32.ofNat za)), .val (.ref b1), .val (.ref b4), .val (.int (1 : Int32)), .val (.int ((own_mem ya xa p5 p4) xa)), .val (.int ((own_mem ya xa p5 p4) ya)), .val (.int ((own_mem ya xa p5 p4) za)), .val (.int p5), .val (.int p5)] [(.int p5), (.int ((own_mem ya xa p5 p4) ya))])
      refine Go.step (fun _ zz => XS.icmpNo X11.here hx rfl (hb hby at_189) rfl (teq (own_memA _ _ _ _)).2 zz) ?_
      show Go _ _ _ _ T11 (mkF m 192 #[.val (.int p0), .val (.int p1), .val (.int p2), .val (.int p3), .val (.int p4), .val (.int p5), .val (.int (Int32.ofNat n)), .val (.int (Int32.ofNat xa)), .val (.int (Int32.ofNat ya)), .val (.int (Int32.ofNat za)), .val (.ref b1), .val (.ref b4), .val (.int (1 : Int32)), .val (.int ((own_mem ya xa p5 p4) xa)), .val (.int ((own_mem ya xa p5 p4) ya)), .val (.int ((own_mem ya xa p5 p4) za)), .val (.int p5), .val (.int p5)] [])
      refine Go.step (fun _ zz => XS.iload X11.here hx rfl (hb hby at_192) rfl zz) ?_
      show Go _ _ _ _ T11 (mkF m 194 #[.val (.int p0), .val (.int p1), .val (.int p2), .val (.int p3), .val (.int p4), .val (.int p5), .val (.int (Int32.ofNat n)), .val (.int (Int32.ofNat xa)), .val (.int (Int32.ofNat ya)), .val (.int (Int32.ofNat za)), .val (.ref b1), .val (.ref b4), .val (.int (1 : Int32)), .val (.int ((own_mem ya xa p5 p4) xa)), .val (.int ((own_mem ya xa p5 p4) ya)), .val (.int ((own_mem ya xa p5 p4) za)), .val (.int p5), .val (.int p5)] [(.int ((own_mem ya xa p5 p4) za))])
      refine Go.step (fun _ zz => XS.iload X11.here hx rfl (hb hby at_194) rfl zz) ?_
      show Go _ _ _ _ T11 (mkF m 196 #[.val (.int p0), .val (.int p1), .val (.int p2), .val (.int p3), .val (.int p4), .val (.int p5), .val (.int (Int32.ofNat n)), .val (.int (Int32.ofNat xa)), .val (.int (Int32.ofNat ya)), .val (.int (Int32.ofNat za)), .val (.ref b1), .val (.ref b4), .val (.int (1 : Int32)), .val (.int ((own_mem ya xa p5 p4) xa)), .val (.int ((own_mem ya xa p5 p4) ya)), .val (.int ((own_mem ya xa p5 p4) za)), .val (.int p5), .val (.int p5)] [(.int p5), (.int ((own_mem ya xa p5 p4) za))])
      refine Go.step (fun _ zz => XS.icmpNo X11.here hx rfl (hb hby at_196) rfl (teq ((own_memC ya xa za _ _ (by omega) (by omega) (by omega)).trans (by rw [if_pos hc151]))).2 zz) ?_
      show Go _ _ _ _ T11 (mkF m 199 #[.val (.int p0), .val (.int p1), .val (.int p2), .val (.int p3), .val (.int p4), .val (.int p5), .val (.int (Int32.ofNat n)), .val (.int (Int32.ofNat xa)), .val (.int (Int32.ofNat ya)), .val (.int (Int32.ofNat za)), .val (.ref b1), .val (.ref b4), .val (.int (1 : Int32)), .val (.int ((own_mem ya xa p5 p4) xa)), .val (.int ((own_mem ya xa p5 p4) ya)), .val (.int ((own_mem ya xa p5 p4) za)), .val (.int p5), .val (.int p5)] [])
      refine Go.step (fun _ zz => XS.iconst X11.here hx rfl (hb hby at_199) zz) ?_
      show Go _ _ _ _ T11 (mkF m 200 #[.val (.int p0), .val (.int p1), .val (.int p2), .val (.int p3), .val (.int p4), .val (.int p5), .val (.int (Int32.ofNat n)), .val (.int (Int32.ofNat xa)), .val (.int (Int32.ofNat ya)), .val (.int (Int32.ofNat za)), .val (.ref b1), .val (.ref b4), .val (.int (1 : Int32)), .val (.int ((own_mem ya xa p5 p4) xa)), .val (.int ((own_mem ya xa p5 p4) ya)), .val (.int ((own_mem ya xa p5 p4) za)), .val (.int p5), .val (.int p5)] [(.int (1 : Int32))])
      refine Go.step (fun _ zz => XS.goto X11.here hx rfl (pc0 := 200) (pc' := 204) rfl (hb hby at_200) (by decide) (by decide) zz) ?_
      show Go _ _ _ _ T11 (mkF m 204 #[.val (.int p0), .val (.int p1), .val (.int p2), .val (.int p3), .val (.int p4), .val (.int p5), .val (.int (Int32.ofNat n)), .val (.int (Int32.ofNat xa)), .val (.int (Int32.ofNat ya)), .val (.int (Int32.ofNat za)), .val (.ref b1), .val (.ref b4), .val (.int (1 : Int32)), .val (.int ((own_mem ya xa p5 p4) xa)), .val (.int ((own_mem ya xa p5 p4) ya)), .val (.int ((own_mem ya xa p5 p4) za)), .val (.int p5), .val (.int p5)] [(.int (1 : Int32))])
      exact Go.retN X11 hx (t := .boolean) Bd.returns (by simp) (hb hby at_204) Bd.notSynchronized (z' := (1 : Int32)) (by decide) (⟨rfl, N11⟩) (by decide) (by decide)
    · refine Go.step (fun _ zz => XS.icmpYes X11.here hx rfl (pc0 := 151) (pc' := 161) rfl (hb hby at_151) rfl (feq hc151).2 (by decide) (by decide) zz) ?_
      show Go _ _ _ _ T11 (mkF m 161 #[.val (.int p0), .val (.int p1), .val (.int p2), .val (.int p3), .val (.int p4), .val (.int p5), .val (.int (Int32.ofNat n)), .val (.int (Int32.ofNat xa)), .val (.int (Int32.ofNat ya)), .val (.int (Int32.ofNat za)), .val (.ref b1), .val (.ref b4), .val (.int (1 : Int32)), .val (.int ((own_mem ya xa p5 p4) xa)), .val (.int ((own_mem ya xa p5 p4) ya)), .val (.int ((own_mem ya xa p5 p4) za)), .val (.int p5), .unset] [])
      refine Go.step (fun _ zz => XS.iload X11.here hx rfl (hb hby at_161) rfl zz) ?_
      show Go _ _ _ _ T11 (mkF m 163 #[.val (.int p0), .val (.int p1), .val (.int p2), .val (.int p3), .val (.int p4), .val (.int p5), .val (.int (Int32.ofNat n)), .val (.int (Int32.ofNat xa)), .val (.int (Int32.ofNat ya)), .val (.int (Int32.ofNat za)), .val (.ref b1), .val (.ref b4), .val (.int (1 : Int32)), .val (.int ((own_mem ya xa p5 p4) xa)), .val (.int ((own_mem ya xa p5 p4) ya)), .val (.int ((own_mem ya xa p5 p4) za)), .val (.int p5), .unset] [(.int (Int32.ofNat za))])
      refine Go.step (fun _ zz => XS.iload X11.here hx rfl (hb hby at_163) rfl zz) ?_
      show Go _ _ _ _ T11 (mkF m 165 #[.val (.int p0), .val (.int p1), .val (.int p2), .val (.int p3), .val (.int p4), .val (.int p5), .val (.int (Int32.ofNat n)), .val (.int (Int32.ofNat xa)), .val (.int (Int32.ofNat ya)), .val (.int (Int32.ofNat za)), .val (.ref b1), .val (.ref b4), .val (.int (1 : Int32)), .val (.int ((own_mem ya xa p5 p4) xa)), .val (.int ((own_mem ya xa p5 p4) ya)), .val (.int ((own_mem ya xa p5 p4) za)), .val (.int p5), .unset] [(.int (Int32.ofNat xa)), (.int (Int32.ofNat za))])
      by_cases hc165 : (Int32.ofNat za) = (Int32.ofNat xa)
      · refine Go.step (fun _ zz => XS.icmpNo X11.here hx rfl (hb hby at_165) rfl (teq hc165).2 zz) ?_
        show Go _ _ _ _ T11 (mkF m 168 #[.val (.int p0), .val (.int p1), .val (.int p2), .val (.int p3), .val (.int p4), .val (.int p5), .val (.int (Int32.ofNat n)), .val (.int (Int32.ofNat xa)), .val (.int (Int32.ofNat ya)), .val (.int (Int32.ofNat za)), .val (.ref b1), .val (.ref b4), .val (.int (1 : Int32)), .val (.int ((own_mem ya xa p5 p4) xa)), .val (.int ((own_mem ya xa p5 p4) ya)), .val (.int ((own_mem ya xa p5 p4) za)), .val (.int p5), .unset] [])
        refine Go.step (fun _ zz => XS.iload X11.here hx rfl (hb hby at_168) rfl zz) ?_
        show Go _ _ _ _ T11 (mkF m 170 #[.val (.int p0), .val (.int p1), .val (.int p2), .val (.int p3), .val (.int p4), .val (.int p5), .val (.int (Int32.ofNat n)), .val (.int (Int32.ofNat xa)), .val (.int (Int32.ofNat ya)), .val (.int (Int32.ofNat za)), .val (.ref b1), .val (.ref b4), .val (.int (1 : Int32)), .val (.int ((own_mem ya xa p5 p4) xa)), .val (.int ((own_mem ya xa p5 p4) ya)), .val (.int ((own_mem ya xa p5 p4) za)), .val (.int p5), .unset] [(.int p4)])
        refine Go.step (fun _ zz => XS.istore X11.here hx rfl (hb hby at_170) rfl (l' := #[.val (.int p0), .val (.int p1), .val (.int p2), .val (.int p3), .val (.int p4), .val (.int p5), .val (.int (Int32.ofNat n)), .val (.int (Int32.ofNat xa)), .val (.int (Int32.ofNat ya)), .val (.int (Int32.ofNat za)), .val (.ref b1), .val (.ref b4), .val (.int (1 : Int32)), .val (.int ((own_mem ya xa p5 p4) xa)), .val (.int ((own_mem ya xa p5 p4) ya)), .val (.int ((own_mem ya xa p5 p4) za)), .val (.int p5), .val (.int p4)]) rfl zz) ?_
        show Go _ _ _ _ T11 (mkF m 172 #[.val (.int p0), .val (.int p1), .val (.int p2), .val (.int p3), .val (.int p4), .val (.int p5), .val (.int (Int32.ofNat n)), .val (.int (Int32.ofNat xa)), .val (.int (Int32.ofNat ya)), .val (.int (Int32.ofNat za)), .val (.ref b1), .val (.ref b4), .val (.int (1 : Int32)), .val (.int ((own_mem ya xa p5 p4) xa)), .val (.int ((own_mem ya xa p5 p4) ya)), .val (.int ((own_mem ya xa p5 p4) za)), .val (.int p5), .val (.int p4)] [])
        refine Go.step (fun _ zz => XS.goto X11.here hx rfl (pc0 := 172) (pc' := 178) rfl (hb hby at_172) (by decide) (by decide) zz) ?_
        show Go _ _ _ _ T11 (mkF m 178 #[.val (.int p0), .val (.int p1), .val (.int p2), .val (.int p3), .val (.int p4), .val (.int p5), .val (.int (Int32.ofNat n)), .val (.int (Int32.ofNat xa)), .val (.int (Int32.ofNat ya)), .val (.int (Int32.ofNat za)), .val (.ref b1), .val (.ref b4), .val (.int (1 : Int32)), .val (.int ((own_mem ya xa p5 p4) xa)), .val (.int ((own_mem ya xa p5 p4) ya)), .val (.int ((own_mem ya xa p5 p4) za)), .val (.int p5), .val (.int p4)] [])
        refine Go.step (fun _ zz => XS.iload X11.here hx rfl (hb hby at_178) rfl zz) ?_
        show Go _ _ _ _ T11 (mkF m 180 #[.val (.int p0), .val (.int p1), .val (.int p2), .val (.int p3), .val (.int p4), .val (.int p5), .val (.int (Int32.ofNat n)), .val (.int (Int32.ofNat xa)), .val (.int (Int32.ofNat ya)), .val (.int (Int32.ofNat za)), .val (.ref b1), .val (.ref b4), .val (.int (1 : Int32)), .val (.int ((own_mem ya xa p5 p4) xa)), .val (.int ((own_mem ya xa p5 p4) ya)), .val (.int ((own_mem ya xa p5 p4) za)), .val (.int p5), .val (.int p4)] [(.int ((own_mem ya xa p5 p4) xa))])
        refine Go.step (fun _ zz => XS.iload X11.here hx rfl (hb hby at_180) rfl zz) ?_
        show Go _ _ _ _ T11 (mkF m 182 #[.val (.int p0), .val (.int p1), .val (.int p2), .val (.int p3), .val (.int p4), .val (.int p5), .val (.int (Int32.ofNat n)), .val (.int (Int32.ofNat xa)), .val (.int (Int32.ofNat ya)), .val (.int (Int32.ofNat za)), .val (.ref b1), .val (.ref b4), .val (.int (1 : Int32)), .val (.int ((own_mem ya xa p5 p4) xa)), .val (.int ((own_mem ya xa p5 p4) ya)), .val (.int ((own_mem ya xa p5 p4) za)), .val (.int p5), .val (.int p4)] [(.int p5), (.int ((own_mem ya xa p5 p4) xa))])
        refine Go.step (fun _ zz => XS.icmpNo X11.here hx rfl (hb hby at_182) rfl (teq ((own_memB ya xa _ _ (by omega) (by omega)).trans (by rw [if_pos hc135.symm]))).2 zz) ?_
        show Go _ _ _ _ T11 (mkF m 185 #[.val (.int p0), .val (.int p1), .val (.int p2), .val (.int p3), .val (.int p4), .val (.int p5), .val (.int (Int32.ofNat n)), .val (.int (Int32.ofNat xa)), .val (.int (Int32.ofNat ya)), .val (.int (Int32.ofNat za)), .val (.ref b1), .val (.ref b4), .val (.int (1 : Int32)), .val (.int ((own_mem ya xa p5 p4) xa)), .val (.int ((own_mem ya xa p5 p4) ya)), .val (.int ((own_mem ya xa p5 p4) za)), .val (.int p5), .val (.int p4)] [])
        refine Go.step (fun _ zz => XS.iload X11.here hx rfl (hb hby at_185) rfl zz) ?_
        show Go _ _ _ _ T11 (mkF m 187 #[.val (.int p0), .val (.int p1), .val (.int p2), .val (.int p3), .val (.int p4), .val (.int p5), .val (.int (Int32.ofNat n)), .val (.int (Int32.ofNat xa)), .val (.int (Int32.ofNat ya)), .val (.int (Int32.ofNat za)), .val (.ref b1), .val (.ref b4), .val (.int (1 : Int32)), .val (.int ((own_mem ya xa p5 p4) xa)), .val (.int ((own_mem ya xa p5 p4) ya)), .val (.int ((own_mem ya xa p5 p4) za)), .val (.int p5), .val (.int p4)] [(.int ((own_mem ya xa p5 p4) ya))])
        refine Go.step (fun _ zz => XS.iload X11.here hx rfl (hb hby at_187) rfl zz) ?_
        show Go _ _ _ _ T11 (mkF m 189 #[.val (.int p0), .val (.int p1), .val (.int p2), .val (.int p3), .val (.int p4), .val (.int p5), .val (.int (Int32.ofNat n)), .val (.int (Int32.ofNat xa)), .val (.int (Int32.ofNat ya)), .val (.int (Int32.ofNat za)), .val (.ref b1), .val (.ref b4), .val (.int (1 : Int32)), .val (.int ((own_mem ya xa p5 p4) xa)), .val (.int ((own_mem ya xa p5 p4) ya)), .val (.int ((own_mem ya xa p5 p4) za)), .val (.int p5), .val (.int p4)] [(.int p5), (.int ((own_mem ya xa p5 p4) ya))])
        refine Go.step (fun _ zz => XS.icmpNo X11.here hx rfl (hb hby at_189) rfl (teq (own_memA _ _ _ _)).2 zz) ?_
        show Go _ _ _ _ T11 (mkF m 192 #[.val (.int p0), .val (.int p1), .val (.int p2), .val (.int p3), .val (.int p4), .val (.int p5), .val (.int (Int32.ofNat n)), .val (.int (Int32.ofNat xa)), .val (.int (Int32.ofNat ya)), .val (.int (Int32.ofNat za)), .val (.ref b1), .val (.ref b4), .val (.int (1 : Int32)), .val (.int ((own_mem ya xa p5 p4) xa)), .val (.int ((own_mem ya xa p5 p4) ya)), .val (.int ((own_mem ya xa p5 p4) za)), .val (.int p5), .val (.int p4)] [])
        refine Go.step (fun _ zz => XS.iload X11.here hx rfl (hb hby at_192) rfl zz) ?_
        show Go _ _ _ _ T11 (mkF m 194 #[.val (.int p0), .val (.int p1), .val (.int p2), .val (.int p3), .val (.int p4), .val (.int p5), .val (.int (Int32.ofNat n)), .val (.int (Int32.ofNat xa)), .val (.int (Int32.ofNat ya)), .val (.int (Int32.ofNat za)), .val (.ref b1), .val (.ref b4), .val (.int (1 : Int32)), .val (.int ((own_mem ya xa p5 p4) xa)), .val (.int ((own_mem ya xa p5 p4) ya)), .val (.int ((own_mem ya xa p5 p4) za)), .val (.int p5), .val (.int p4)] [(.int ((own_mem ya xa p5 p4) za))])
        refine Go.step (fun _ zz => XS.iload X11.here hx rfl (hb hby at_194) rfl zz) ?_
        show Go _ _ _ _ T11 (mkF m 196 #[.val (.int p0), .val (.int p1), .val (.int p2), .val (.int p3), .val (.int p4), .val (.int p5), .val (.int (Int32.ofNat n)), .val (.int (Int32.ofNat xa)), .val (.int (Int32.ofNat ya)), .val (.int (Int32.ofNat za)), .val (.ref b1), .val (.ref b4), .val (.int (1 : Int32)), .val (.int ((own_mem ya xa p5 p4) xa)), .val (.int ((own_mem ya xa p5 p4) ya)), .val (.int ((own_mem ya xa p5 p4) za)), .val (.int p5), .val (.int p4)] [(.int p4), (.int ((own_mem ya xa p5 p4) za))])
        refine Go.step (fun _ zz => XS.icmpNo X11.here hx rfl (hb hby at_196) rfl (teq ((own_memC ya xa za _ _ (by omega) (by omega) (by omega)).trans (by rw [if_neg hc151, if_pos hc165]))).2 zz) ?_
        show Go _ _ _ _ T11 (mkF m 199 #[.val (.int p0), .val (.int p1), .val (.int p2), .val (.int p3), .val (.int p4), .val (.int p5), .val (.int (Int32.ofNat n)), .val (.int (Int32.ofNat xa)), .val (.int (Int32.ofNat ya)), .val (.int (Int32.ofNat za)), .val (.ref b1), .val (.ref b4), .val (.int (1 : Int32)), .val (.int ((own_mem ya xa p5 p4) xa)), .val (.int ((own_mem ya xa p5 p4) ya)), .val (.int ((own_mem ya xa p5 p4) za)), .val (.int p5), .val (.int p4)] [])
        refine Go.step (fun _ zz => XS.iconst X11.here hx rfl (hb hby at_199) zz) ?_
        show Go _ _ _ _ T11 (mkF m 200 #[.val (.int p0), .val (.int p1), .val (.int p2), .val (.int p3), .val (.int p4), .val (.int p5), .val (.int (Int32.ofNat n)), .val (.int (Int32.ofNat xa)), .val (.int (Int32.ofNat ya)), .val (.int (Int32.ofNat za)), .val (.ref b1), .val (.ref b4), .val (.int (1 : Int32)), .val (.int ((own_mem ya xa p5 p4) xa)), .val (.int ((own_mem ya xa p5 p4) ya)), .val (.int ((own_mem ya xa p5 p4) za)), .val (.int p5), .val (.int p4)] [(.int (1 : Int32))])
        refine Go.step (fun _ zz => XS.goto X11.here hx rfl (pc0 := 200) (pc' := 204) rfl (hb hby at_200) (by decide) (by decide) zz) ?_
        show Go _ _ _ _ T11 (mkF m 204 #[.val (.int p0), .val (.int p1), .val (.int p2), .val (.int p3), .val (.int p4), .val (.int p5), .val (.int (Int32.ofNat n)), .val (.int (Int32.ofNat xa)), .val (.int (Int32.ofNat ya)), .val (.int (Int32.ofNat za)), .val (.ref b1), .val (.ref b4), .val (.int (1 : Int32)), .val (.int ((own_mem ya xa p5 p4) xa)), .val (.int ((own_mem ya xa p5 p4) ya)), .val (.int ((own_mem ya xa p5 p4) za)), .val (.int p5), .val (.int p4)] [(.int (1 : Int32))])
        exact Go.retN X11 hx (t := .boolean) Bd.returns (by simp) (hb hby at_204) Bd.notSynchronized (z' := (1 : Int32)) (by decide) (⟨rfl, N11⟩) (by decide) (by decide)
      · refine Go.step (fun _ zz => XS.icmpYes X11.here hx rfl (pc0 := 165) (pc' := 175) rfl (hb hby at_165) rfl (feq hc165).2 (by decide) (by decide) zz) ?_
        show Go _ _ _ _ T11 (mkF m 175 #[.val (.int p0), .val (.int p1), .val (.int p2), .val (.int p3), .val (.int p4), .val (.int p5), .val (.int (Int32.ofNat n)), .val (.int (Int32.ofNat xa)), .val (.int (Int32.ofNat ya)), .val (.int (Int32.ofNat za)), .val (.ref b1), .val (.ref b4), .val (.int (1 : Int32)), .val (.int ((own_mem ya xa p5 p4) xa)), .val (.int ((own_mem ya xa p5 p4) ya)), .val (.int ((own_mem ya xa p5 p4) za)), .val (.int p5), .unset] [])
        refine Go.step (fun _ zz => XS.iconst X11.here hx rfl (hb hby at_175) zz) ?_
        show Go _ _ _ _ T11 (mkF m 176 #[.val (.int p0), .val (.int p1), .val (.int p2), .val (.int p3), .val (.int p4), .val (.int p5), .val (.int (Int32.ofNat n)), .val (.int (Int32.ofNat xa)), .val (.int (Int32.ofNat ya)), .val (.int (Int32.ofNat za)), .val (.ref b1), .val (.ref b4), .val (.int (1 : Int32)), .val (.int ((own_mem ya xa p5 p4) xa)), .val (.int ((own_mem ya xa p5 p4) ya)), .val (.int ((own_mem ya xa p5 p4) za)), .val (.int p5), .unset] [(.int (0 : Int32))])
        refine Go.step (fun _ zz => XS.istore X11.here hx rfl (hb hby at_176) rfl (l' := #[.val (.int p0), .val (.int p1), .val (.int p2), .val (.int p3), .val (.int p4), .val (.int p5), .val (.int (Int32.ofNat n)), .val (.int (Int32.ofNat xa)), .val (.int (Int32.ofNat ya)), .val (.int (Int32.ofNat za)), .val (.ref b1), .val (.ref b4), .val (.int (1 : Int32)), .val (.int ((own_mem ya xa p5 p4) xa)), .val (.int ((own_mem ya xa p5 p4) ya)), .val (.int ((own_mem ya xa p5 p4) za)), .val (.int p5), .val (.int (0 : Int32))]) rfl zz) ?_
        show Go _ _ _ _ T11 (mkF m 178 #[.val (.int p0), .val (.int p1), .val (.int p2), .val (.int p3), .val (.int p4), .val (.int p5), .val (.int (Int32.ofNat n)), .val (.int (Int32.ofNat xa)), .val (.int (Int32.ofNat ya)), .val (.int (Int32.ofNat za)), .val (.ref b1), .val (.ref b4), .val (.int (1 : Int32)), .val (.int ((own_mem ya xa p5 p4) xa)), .val (.int ((own_mem ya xa p5 p4) ya)), .val (.int ((own_mem ya xa p5 p4) za)), .val (.int p5), .val (.int (0 : Int32))] [])
        refine Go.step (fun _ zz => XS.iload X11.here hx rfl (hb hby at_178) rfl zz) ?_
        show Go _ _ _ _ T11 (mkF m 180 #[.val (.int p0), .val (.int p1), .val (.int p2), .val (.int p3), .val (.int p4), .val (.int p5), .val (.int (Int32.ofNat n)), .val (.int (Int32.ofNat xa)), .val (.int (Int32.ofNat ya)), .val (.int (Int32.ofNat za)), .val (.ref b1), .val (.ref b4), .val (.int (1 : Int32)), .val (.int ((own_mem ya xa p5 p4) xa)), .val (.int ((own_mem ya xa p5 p4) ya)), .val (.int ((own_mem ya xa p5 p4) za)), .val (.int p5), .val (.int (0 : Int32))] [(.int ((own_mem ya xa p5 p4) xa))])
        refine Go.step (fun _ zz => XS.iload X11.here hx rfl (hb hby at_180) rfl zz) ?_
        show Go _ _ _ _ T11 (mkF m 182 #[.val (.int p0), .val (.int p1), .val (.int p2), .val (.int p3), .val (.int p4), .val (.int p5), .val (.int (Int32.ofNat n)), .val (.int (Int32.ofNat xa)), .val (.int (Int32.ofNat ya)), .val (.int (Int32.ofNat za)), .val (.ref b1), .val (.ref b4), .val (.int (1 : Int32)), .val (.int ((own_mem ya xa p5 p4) xa)), .val (.int ((own_mem ya xa p5 p4) ya)), .val (.int ((own_mem ya xa p5 p4) za)), .val (.int p5), .val (.int (0 : Int32))] [(.int p5), (.int ((own_mem ya xa p5 p4) xa))])
        refine Go.step (fun _ zz => XS.icmpNo X11.here hx rfl (hb hby at_182) rfl (teq ((own_memB ya xa _ _ (by omega) (by omega)).trans (by rw [if_pos hc135.symm]))).2 zz) ?_
        show Go _ _ _ _ T11 (mkF m 185 #[.val (.int p0), .val (.int p1), .val (.int p2), .val (.int p3), .val (.int p4), .val (.int p5), .val (.int (Int32.ofNat n)), .val (.int (Int32.ofNat xa)), .val (.int (Int32.ofNat ya)), .val (.int (Int32.ofNat za)), .val (.ref b1), .val (.ref b4), .val (.int (1 : Int32)), .val (.int ((own_mem ya xa p5 p4) xa)), .val (.int ((own_mem ya xa p5 p4) ya)), .val (.int ((own_mem ya xa p5 p4) za)), .val (.int p5), .val (.int (0 : Int32))] [])
        refine Go.step (fun _ zz => XS.iload X11.here hx rfl (hb hby at_185) rfl zz) ?_
        show Go _ _ _ _ T11 (mkF m 187 #[.val (.int p0), .val (.int p1), .val (.int p2), .val (.int p3), .val (.int p4), .val (.int p5), .val (.int (Int32.ofNat n)), .val (.int (Int32.ofNat xa)), .val (.int (Int32.ofNat ya)), .val (.int (Int32.ofNat za)), .val (.ref b1), .val (.ref b4), .val (.int (1 : Int32)), .val (.int ((own_mem ya xa p5 p4) xa)), .val (.int ((own_mem ya xa p5 p4) ya)), .val (.int ((own_mem ya xa p5 p4) za)), .val (.int p5), .val (.int (0 : Int32))] [(.int ((own_mem ya xa p5 p4) ya))])
        refine Go.step (fun _ zz => XS.iload X11.here hx rfl (hb hby at_187) rfl zz) ?_
        show Go _ _ _ _ T11 (mkF m 189 #[.val (.int p0), .val (.int p1), .val (.int p2), .val (.int p3), .val (.int p4), .val (.int p5), .val (.int (Int32.ofNat n)), .val (.int (Int32.ofNat xa)), .val (.int (Int32.ofNat ya)), .val (.int (Int32.ofNat za)), .val (.ref b1), .val (.ref b4), .val (.int (1 : Int32)), .val (.int ((own_mem ya xa p5 p4) xa)), .val (.int ((own_mem ya xa p5 p4) ya)), .val (.int ((own_mem ya xa p5 p4) za)), .val (.int p5), .val (.int (0 : Int32))] [(.int p5), (.int ((own_mem ya xa p5 p4) ya))])
        refine Go.step (fun _ zz => XS.icmpNo X11.here hx rfl (hb hby at_189) rfl (teq (own_memA _ _ _ _)).2 zz) ?_
        show Go _ _ _ _ T11 (mkF m 192 #[.val (.int p0), .val (.int p1), .val (.int p2), .val (.int p3), .val (.int p4), .val (.int p5), .val (.int (Int32.ofNat n)), .val (.int (Int32.ofNat xa)), .val (.int (Int32.ofNat ya)), .val (.int (Int32.ofNat za)), .val (.ref b1), .val (.ref b4), .val (.int (1 : Int32)), .val (.int ((own_mem ya xa p5 p4) xa)), .val (.int ((own_mem ya xa p5 p4) ya)), .val (.int ((own_mem ya xa p5 p4) za)), .val (.int p5), .val (.int (0 : Int32))] [])
        refine Go.step (fun _ zz => XS.iload X11.here hx rfl (hb hby at_192) rfl zz) ?_
        show Go _ _ _ _ T11 (mkF m 194 #[.val (.int p0), .val (.int p1), .val (.int p2), .val (.int p3), .val (.int p4), .val (.int p5), .val (.int (Int32.ofNat n)), .val (.int (Int32.ofNat xa)), .val (.int (Int32.ofNat ya)), .val (.int (Int32.ofNat za)), .val (.ref b1), .val (.ref b4), .val (.int (1 : Int32)), .val (.int ((own_mem ya xa p5 p4) xa)), .val (.int ((own_mem ya xa p5 p4) ya)), .val (.int ((own_mem ya xa p5 p4) za)), .val (.int p5), .val (.int (0 : Int32))] [(.int ((own_mem ya xa p5 p4) za))])
        refine Go.step (fun _ zz => XS.iload X11.here hx rfl (hb hby at_194) rfl zz) ?_
        show Go _ _ _ _ T11 (mkF m 196 #[.val (.int p0), .val (.int p1), .val (.int p2), .val (.int p3), .val (.int p4), .val (.int p5), .val (.int (Int32.ofNat n)), .val (.int (Int32.ofNat xa)), .val (.int (Int32.ofNat ya)), .val (.int (Int32.ofNat za)), .val (.ref b1), .val (.ref b4), .val (.int (1 : Int32)), .val (.int ((own_mem ya xa p5 p4) xa)), .val (.int ((own_mem ya xa p5 p4) ya)), .val (.int ((own_mem ya xa p5 p4) za)), .val (.int p5), .val (.int (0 : Int32))] [(.int (0 : Int32)), (.int ((own_mem ya xa p5 p4) za))])
        refine Go.step (fun _ zz => XS.icmpNo X11.here hx rfl (hb hby at_196) rfl (teq ((own_memC ya xa za _ _ (by omega) (by omega) (by omega)).trans (by rw [if_neg hc151, if_neg hc165]))).2 zz) ?_
        show Go _ _ _ _ T11 (mkF m 199 #[.val (.int p0), .val (.int p1), .val (.int p2), .val (.int p3), .val (.int p4), .val (.int p5), .val (.int (Int32.ofNat n)), .val (.int (Int32.ofNat xa)), .val (.int (Int32.ofNat ya)), .val (.int (Int32.ofNat za)), .val (.ref b1), .val (.ref b4), .val (.int (1 : Int32)), .val (.int ((own_mem ya xa p5 p4) xa)), .val (.int ((own_mem ya xa p5 p4) ya)), .val (.int ((own_mem ya xa p5 p4) za)), .val (.int p5), .val (.int (0 : Int32))] [])
        refine Go.step (fun _ zz => XS.iconst X11.here hx rfl (hb hby at_199) zz) ?_
        show Go _ _ _ _ T11 (mkF m 200 #[.val (.int p0), .val (.int p1), .val (.int p2), .val (.int p3), .val (.int p4), .val (.int p5), .val (.int (Int32.ofNat n)), .val (.int (Int32.ofNat xa)), .val (.int (Int32.ofNat ya)), .val (.int (Int32.ofNat za)), .val (.ref b1), .val (.ref b4), .val (.int (1 : Int32)), .val (.int ((own_mem ya xa p5 p4) xa)), .val (.int ((own_mem ya xa p5 p4) ya)), .val (.int ((own_mem ya xa p5 p4) za)), .val (.int p5), .val (.int (0 : Int32))] [(.int (1 : Int32))])
        refine Go.step (fun _ zz => XS.goto X11.here hx rfl (pc0 := 200) (pc' := 204) rfl (hb hby at_200) (by decide) (by decide) zz) ?_
        show Go _ _ _ _ T11 (mkF m 204 #[.val (.int p0), .val (.int p1), .val (.int p2), .val (.int p3), .val (.int p4), .val (.int p5), .val (.int (Int32.ofNat n)), .val (.int (Int32.ofNat xa)), .val (.int (Int32.ofNat ya)), .val (.int (Int32.ofNat za)), .val (.ref b1), .val (.ref b4), .val (.int (1 : Int32)), .val (.int ((own_mem ya xa p5 p4) xa)), .val (.int ((own_mem ya xa p5 p4) ya)), .val (.int ((own_mem ya xa p5 p4) za)), .val (.int p5), .val (.int (0 : Int32))] [(.int (1 : Int32))])
        exact Go.retN X11 hx (t := .boolean) Bd.returns (by simp) (hb hby at_204) Bd.notSynchronized (z' := (1 : Int32)) (by decide) (⟨rfl, N11⟩) (by decide) (by decide)
  · refine Go.step (fun _ zz => XS.icmpYes X11.here hx rfl (pc0 := 135) (pc' := 143) rfl (hb hby at_135) rfl (feq hc135).2 (by decide) (by decide) zz) ?_
    show Go _ _ _ _ T11 (mkF m 143 #[.val (.int p0), .val (.int p1), .val (.int p2), .val (.int p3), .val (.int p4), .val (.int p5), .val (.int (Int32.ofNat n)), .val (.int (Int32.ofNat xa)), .val (.int (Int32.ofNat ya)), .val (.int (Int32.ofNat za)), .val (.ref b1), .val (.ref b4), .val (.int (1 : Int32)), .val (.int ((own_mem ya xa p5 p4) xa)), .val (.int ((own_mem ya xa p5 p4) ya)), .val (.int ((own_mem ya xa p5 p4) za)), .unset, .unset] [])
    refine Go.step (fun _ zz => XS.iload X11.here hx rfl (hb hby at_143) rfl zz) ?_
    show Go _ _ _ _ T11 (mkF m 145 #[.val (.int p0), .val (.int p1), .val (.int p2), .val (.int p3), .val (.int p4), .val (.int p5), .val (.int (Int32.ofNat n)), .val (.int (Int32.ofNat xa)), .val (.int (Int32.ofNat ya)), .val (.int (Int32.ofNat za)), .val (.ref b1), .val (.ref b4), .val (.int (1 : Int32)), .val (.int ((own_mem ya xa p5 p4) xa)), .val (.int ((own_mem ya xa p5 p4) ya)), .val (.int ((own_mem ya xa p5 p4) za)), .unset, .unset] [(.int p4)])
    refine Go.step (fun _ zz => XS.istore X11.here hx rfl (hb hby at_145) rfl (l' := #[.val (.int p0), .val (.int p1), .val (.int p2), .val (.int p3), .val (.int p4), .val (.int p5), .val (.int (Int32.ofNat n)), .val (.int (Int32.ofNat xa)), .val (.int (Int32.ofNat ya)), .val (.int (Int32.ofNat za)), .val (.ref b1), .val (.ref b4), .val (.int (1 : Int32)), .val (.int ((own_mem ya xa p5 p4) xa)), .val (.int ((own_mem ya xa p5 p4) ya)), .val (.int ((own_mem ya xa p5 p4) za)), .val (.int p4), .unset]) rfl zz) ?_
    show Go _ _ _ _ T11 (mkF m 147 #[.val (.int p0), .val (.int p1), .val (.int p2), .val (.int p3), .val (.int p4), .val (.int p5), .val (.int (Int32.ofNat n)), .val (.int (Int32.ofNat xa)), .val (.int (Int32.ofNat ya)), .val (.int (Int32.ofNat za)), .val (.ref b1), .val (.ref b4), .val (.int (1 : Int32)), .val (.int ((own_mem ya xa p5 p4) xa)), .val (.int ((own_mem ya xa p5 p4) ya)), .val (.int ((own_mem ya xa p5 p4) za)), .val (.int p4), .unset] [])
    refine Go.step (fun _ zz => XS.iload X11.here hx rfl (hb hby at_147) rfl zz) ?_
    show Go _ _ _ _ T11 (mkF m 149 #[.val (.int p0), .val (.int p1), .val (.int p2), .val (.int p3), .val (.int p4), .val (.int p5), .val (.int (Int32.ofNat n)), .val (.int (Int32.ofNat xa)), .val (.int (Int32.ofNat ya)), .val (.int (Int32.ofNat za)), .val (.ref b1), .val (.ref b4), .val (.int (1 : Int32)), .val (.int ((own_mem ya xa p5 p4) xa)), .val (.int ((own_mem ya xa p5 p4) ya)), .val (.int ((own_mem ya xa p5 p4) za)), .val (.int p4), .unset] [(.int (Int32.ofNat za))])
    refine Go.step (fun _ zz => XS.iload X11.here hx rfl (hb hby at_149) rfl zz) ?_
    show Go _ _ _ _ T11 (mkF m 151 #[.val (.int p0), .val (.int p1), .val (.int p2), .val (.int p3), .val (.int p4), .val (.int p5), .val (.int (Int32.ofNat n)), .val (.int (Int32.ofNat xa)), .val (.int (Int32.ofNat ya)), .val (.int (Int32.ofNat za)), .val (.ref b1), .val (.ref b4), .val (.int (1 : Int32)), .val (.int ((own_mem ya xa p5 p4) xa)), .val (.int ((own_mem ya xa p5 p4) ya)), .val (.int ((own_mem ya xa p5 p4) za)), .val (.int p4), .unset] [(.int (Int32.ofNat ya)), (.int (Int32.ofNat za))])
    by_cases hc151 : (Int32.ofNat za) = (Int32.ofNat ya)
    · refine Go.step (fun _ zz => XS.icmpNo X11.here hx rfl (hb hby at_151) rfl (teq hc151).2 zz) ?_
      show Go _ _ _ _ T11 (mkF m 154 #[.val (.int p0), .val (.int p1), .val (.int p2), .val (.int p3), .val (.int p4), .val (.int p5), .val (.int (Int32.ofNat n)), .val (.int (Int32.ofNat xa)), .val (.int (Int32.ofNat ya)), .val (.int (Int32.ofNat za)), .val (.ref b1), .val (.ref b4), .val (.int (1 : Int32)), .val (.int ((own_mem ya xa p5 p4) xa)), .val (.int ((own_mem ya xa p5 p4) ya)), .val (.int ((own_mem ya xa p5 p4) za)), .val (.int p4), .unset] [])
      refine Go.step (fun _ zz => XS.iload X11.here hx rfl (hb hby at_154) rfl zz) ?_
      show Go _ _ _ _ T11 (mkF m 156 #[.val (.int p0), .val (.int p1), .val (.int p2), .val (.int p3), .val (.int p4), .val (.int p5), .val (.int (Int32.ofNat n)), .val (.int (Int32.ofNat xa)), .val (.int (Int32.ofNat ya)), .val (.int (Int32.ofNat za)), .val (.ref b1), .val (.ref b4), .val (.int (1 : Int32)), .val (.int ((own_mem ya xa p5 p4) xa)), .val (.int ((own_mem ya xa p5 p4) ya)), .val (.int ((own_mem ya xa p5 p4) za)), .val (.int p4), .unset] [(.int p5)])
      refine Go.step (fun _ zz => XS.istore X11.here hx rfl (hb hby at_156) rfl (l' := #[.val (.int p0), .val (.int p1), .val (.int p2), .val (.int p3), .val (.int p4), .val (.int p5), .val (.int (Int32.ofNat n)), .val (.int (Int32.ofNat xa)), .val (.int (Int32.ofNat ya)), .val (.int (Int32.ofNat za)), .val (.ref b1), .val (.ref b4), .val (.int (1 : Int32)), .val (.int ((own_mem ya xa p5 p4) xa)), .val (.int ((own_mem ya xa p5 p4) ya)), .val (.int ((own_mem ya xa p5 p4) za)), .val (.int p4), .val (.int p5)]) rfl zz) ?_
      show Go _ _ _ _ T11 (mkF m 158 #[.val (.int p0), .val (.int p1), .val (.int p2), .val (.int p3), .val (.int p4), .val (.int p5), .val (.int (Int32.ofNat n)), .val (.int (Int32.ofNat xa)), .val (.int (Int32.ofNat ya)), .val (.int (Int32.ofNat za)), .val (.ref b1), .val (.ref b4), .val (.int (1 : Int32)), .val (.int ((own_mem ya xa p5 p4) xa)), .val (.int ((own_mem ya xa p5 p4) ya)), .val (.int ((own_mem ya xa p5 p4) za)), .val (.int p4), .val (.int p5)] [])
      refine Go.step (fun _ zz => XS.goto X11.here hx rfl (pc0 := 158) (pc' := 178) rfl (hb hby at_158) (by decide) (by decide) zz) ?_
      show Go _ _ _ _ T11 (mkF m 178 #[.val (.int p0), .val (.int p1), .val (.int p2), .val (.int p3), .val (.int p4), .val (.int p5), .val (.int (Int32.ofNat n)), .val (.int (Int32.ofNat xa)), .val (.int (Int32.ofNat ya)), .val (.int (Int32.ofNat za)), .val (.ref b1), .val (.ref b4), .val (.int (1 : Int32)), .val (.int ((own_mem ya xa p5 p4) xa)), .val (.int ((own_mem ya xa p5 p4) ya)), .val (.int ((own_mem ya xa p5 p4) za)), .val (.int p4), .val (.int p5)] [])
      refine Go.step (fun _ zz => XS.iload X11.here hx rfl (hb hby at_178) rfl zz) ?_
      show Go _ _ _ _ T11 (mkF m 180 #[.val (.int p0), .val (.int p1), .val (.int p2), .val (.int p3), .val (.int p4), .val (.int p5), .val (.int (Int32.ofNat n)), .val (.int (Int32.ofNat xa)), .val (.int (Int32.ofNat ya)), .val (.int (Int32.ofNat za)), .val (.ref b1), .val (.ref b4), .val (.int (1 : Int32)), .val (.int ((own_mem ya xa p5 p4) xa)), .val (.int ((own_mem ya xa p5 p4) ya)), .val (.int ((own_mem ya xa p5 p4) za)), .val (.int p4), .val (.int p5)] [(.int ((own_mem ya xa p5 p4) xa))])
      refine Go.step (fun _ zz => XS.iload X11.here hx rfl (hb hby at_180) rfl zz) ?_
      show Go _ _ _ _ T11 (mkF m 182 #[.val (.int p0), .val (.int p1), .val (.int p2), .val (.int p3), .val (.int p4), .val (.int p5), .val (.int (Int32.ofNat n)), .val (.int (Int32.ofNat xa)), .val (.int (Int32.ofNat ya)), .val (.int (Int32.ofNat za)), .val (.ref b1), .val (.ref b4), .val (.int (1 : Int32)), .val (.int ((own_mem ya xa p5 p4) xa)), .val (.int ((own_mem ya xa p5 p4) ya)), .val (.int ((own_mem ya xa p5 p4) za)), .val (.int p4), .val (.int p5)] [(.int p4), (.int ((own_mem ya xa p5 p4) xa))])
      refine Go.step (fun _ zz => XS.icmpNo X11.here hx rfl (hb hby at_182) rfl (teq ((own_memB ya xa _ _ (by omega) (by omega)).trans (by rw [if_neg (fun q => hc135 q.symm)]))).2 zz) ?_
      show Go _ _ _ _ T11 (mkF m 185 #[.val (.int p0), .val (.int p1), .val (.int p2), .val (.int p3), .val (.int p4), .val (.int p5), .val (.int (Int32.ofNat n)), .val (.int (Int32.ofNat xa)), .val (.int (Int32.ofNat ya)), .val (.int (Int32.ofNat za)), .val (.ref b1), .val (.ref b4), .val (.int (1 : Int32)), .val (.int ((own_mem ya xa p5 p4) xa)), .val (.int ((own_mem ya xa p5 p4) ya)), .val (.int ((own_mem ya xa p5 p4) za)), .val (.int p4), .val (.int p5)] [])
      refine Go.step (fun _ zz => XS.iload X11.here hx rfl (hb hby at_185) rfl zz) ?_
      show Go _ _ _ _ T11 (mkF m 187 #[.val (.int p0), .val (.int p1), .val (.int p2), .val (.int p3), .val (.int p4), .val (.int p5), .val (.int (Int32.ofNat n)), .val (.int (Int32.ofNat xa)), .val (.int (Int32.ofNat ya)), .val (.int (Int32.ofNat za)), .val (.ref b1), .val (.ref b4), .val (.int (1 : Int32)), .val (.int ((own_mem ya xa p5 p4) xa)), .val (.int ((own_mem ya xa p5 p4) ya)), .val (.int ((own_mem ya xa p5 p4) za)), .val (.int p4), .val (.int p5)] [(.int ((own_mem ya xa p5 p4) ya))])
      refine Go.step (fun _ zz => XS.iload X11.here hx rfl (hb hby at_187) rfl zz) ?_
      show Go _ _ _ _ T11 (mkF m 189 #[.val (.int p0), .val (.int p1), .val (.int p2), .val (.int p3), .val (.int p4), .val (.int p5), .val (.int (Int32.ofNat n)), .val (.int (Int32.ofNat xa)), .val (.int (Int32.ofNat ya)), .val (.int (Int32.ofNat za)), .val (.ref b1), .val (.ref b4), .val (.int (1 : Int32)), .val (.int ((own_mem ya xa p5 p4) xa)), .val (.int ((own_mem ya xa p5 p4) ya)), .val (.int ((own_mem ya xa p5 p4) za)), .val (.int p4), .val (.int p5)] [(.int p5), (.int ((own_mem ya xa p5 p4) ya))])
      refine Go.step (fun _ zz => XS.icmpNo X11.here hx rfl (hb hby at_189) rfl (teq (own_memA _ _ _ _)).2 zz) ?_
      show Go _ _ _ _ T11 (mkF m 192 #[.val (.int p0), .val (.int p1), .val (.int p2), .val (.int p3), .val (.int p4), .val (.int p5), .val (.int (Int32.ofNat n)), .val (.int (Int32.ofNat xa)), .val (.int (Int32.ofNat ya)), .val (.int (Int32.ofNat za)), .val (.ref b1), .val (.ref b4), .val (.int (1 : Int32)), .val (.int ((own_mem ya xa p5 p4) xa)), .val (.int ((own_mem ya xa p5 p4) ya)), .val (.int ((own_mem ya xa p5 p4) za)), .val (.int p4), .val (.int p5)] [])
      refine Go.step (fun _ zz => XS.iload X11.here hx rfl (hb hby at_192) rfl zz) ?_
      show Go _ _ _ _ T11 (mkF m 194 #[.val (.int p0), .val (.int p1), .val (.int p2), .val (.int p3), .val (.int p4), .val (.int p5), .val (.int (Int32.ofNat n)), .val (.int (Int32.ofNat xa)), .val (.int (Int32.ofNat ya)), .val (.int (Int32.ofNat za)), .val (.ref b1), .val (.ref b4), .val (.int (1 : Int32)), .val (.int ((own_mem ya xa p5 p4) xa)), .val (.int ((own_mem ya xa p5 p4) ya)), .val (.int ((own_mem ya xa p5 p4) za)), .val (.int p4), .val (.int p5)] [(.int ((own_mem ya xa p5 p4) za))])
      refine Go.step (fun _ zz => XS.iload X11.here hx rfl (hb hby at_194) rfl zz) ?_
      show Go _ _ _ _ T11 (mkF m 196 #[.val (.int p0), .val (.int p1), .val (.int p2), .val (.int p3), .val (.int p4), .val (.int p5), .val (.int (Int32.ofNat n)), .val (.int (Int32.ofNat xa)), .val (.int (Int32.ofNat ya)), .val (.int (Int32.ofNat za)), .val (.ref b1), .val (.ref b4), .val (.int (1 : Int32)), .val (.int ((own_mem ya xa p5 p4) xa)), .val (.int ((own_mem ya xa p5 p4) ya)), .val (.int ((own_mem ya xa p5 p4) za)), .val (.int p4), .val (.int p5)] [(.int p5), (.int ((own_mem ya xa p5 p4) za))])
      refine Go.step (fun _ zz => XS.icmpNo X11.here hx rfl (hb hby at_196) rfl (teq ((own_memC ya xa za _ _ (by omega) (by omega) (by omega)).trans (by rw [if_pos hc151]))).2 zz) ?_
      show Go _ _ _ _ T11 (mkF m 199 #[.val (.int p0), .val (.int p1), .val (.int p2), .val (.int p3), .val (.int p4), .val (.int p5), .val (.int (Int32.ofNat n)), .val (.int (Int32.ofNat xa)), .val (.int (Int32.ofNat ya)), .val (.int (Int32.ofNat za)), .val (.ref b1), .val (.ref b4), .val (.int (1 : Int32)), .val (.int ((own_mem ya xa p5 p4) xa)), .val (.int ((own_mem ya xa p5 p4) ya)), .val (.int ((own_mem ya xa p5 p4) za)), .val (.int p4), .val (.int p5)] [])
      refine Go.step (fun _ zz => XS.iconst X11.here hx rfl (hb hby at_199) zz) ?_
      show Go _ _ _ _ T11 (mkF m 200 #[.val (.int p0), .val (.int p1), .val (.int p2), .val (.int p3), .val (.int p4), .val (.int p5), .val (.int (Int32.ofNat n)), .val (.int (Int32.ofNat xa)), .val (.int (Int32.ofNat ya)), .val (.int (Int32.ofNat za)), .val (.ref b1), .val (.ref b4), .val (.int (1 : Int32)), .val (.int ((own_mem ya xa p5 p4) xa)), .val (.int ((own_mem ya xa p5 p4) ya)), .val (.int ((own_mem ya xa p5 p4) za)), .val (.int p4), .val (.int p5)] [(.int (1 : Int32))])
      refine Go.step (fun _ zz => XS.goto X11.here hx rfl (pc0 := 200) (pc' := 204) rfl (hb hby at_200) (by decide) (by decide) zz) ?_
      show Go _ _ _ _ T11 (mkF m 204 #[.val (.int p0), .val (.int p1), .val (.int p2), .val (.int p3), .val (.int p4), .val (.int p5), .val (.int (Int32.ofNat n)), .val (.int (Int32.ofNat xa)), .val (.int (Int32.ofNat ya)), .val (.int (Int32.ofNat za)), .val (.ref b1), .val (.ref b4), .val (.int (1 : Int32)), .val (.int ((own_mem ya xa p5 p4) xa)), .val (.int ((own_mem ya xa p5 p4) ya)), .val (.int ((own_mem ya xa p5 p4) za)), .val (.int p4), .val (.int p5)] [(.int (1 : Int32))])
      exact Go.retN X11 hx (t := .boolean) Bd.returns (by simp) (hb hby at_204) Bd.notSynchronized (z' := (1 : Int32)) (by decide) (⟨rfl, N11⟩) (by decide) (by decide)
    · refine Go.step (fun _ zz => XS.icmpYes X11.here hx rfl (pc0 := 151) (pc' := 161) rfl (hb hby at_151) rfl (feq hc151).2 (by decide) (by decide) zz) ?_
      show Go _ _ _ _ T11 (mkF m 161 #[.val (.int p0), .val (.int p1), .val (.int p2), .val (.int p3), .val (.int p4), .val (.int p5), .val (.int (Int32.ofNat n)), .val (.int (Int32.ofNat xa)), .val (.int (Int32.ofNat ya)), .val (.int (Int32.ofNat za)), .val (.ref b1), .val (.ref b4), .val (.int (1 : Int32)), .val (.int ((own_mem ya xa p5 p4) xa)), .val (.int ((own_mem ya xa p5 p4) ya)), .val (.int ((own_mem ya xa p5 p4) za)), .val (.int p4), .unset] [])
      refine Go.step (fun _ zz => XS.iload X11.here hx rfl (hb hby at_161) rfl zz) ?_
      show Go _ _ _ _ T11 (mkF m 163 #[.val (.int p0), .val (.int p1), .val (.int p2), .val (.int p3), .val (.int p4), .val (.int p5), .val (.int (Int32.ofNat n)), .val (.int (Int32.ofNat xa)), .val (.int (Int32.ofNat ya)), .val (.int (Int32.ofNat za)), .val (.ref b1), .val (.ref b4), .val (.int (1 : Int32)), .val (.int ((own_mem ya xa p5 p4) xa)), .val (.int ((own_mem ya xa p5 p4) ya)), .val (.int ((own_mem ya xa p5 p4) za)), .val (.int p4), .unset] [(.int (Int32.ofNat za))])
      refine Go.step (fun _ zz => XS.iload X11.here hx rfl (hb hby at_163) rfl zz) ?_
      show Go _ _ _ _ T11 (mkF m 165 #[.val (.int p0), .val (.int p1), .val (.int p2), .val (.int p3), .val (.int p4), .val (.int p5), .val (.int (Int32.ofNat n)), .val (.int (Int32.ofNat xa)), .val (.int (Int32.ofNat ya)), .val (.int (Int32.ofNat za)), .val (.ref b1), .val (.ref b4), .val (.int (1 : Int32)), .val (.int ((own_mem ya xa p5 p4) xa)), .val (.int ((own_mem ya xa p5 p4) ya)), .val (.int ((own_mem ya xa p5 p4) za)), .val (.int p4), .unset] [(.int (Int32.ofNat xa)), (.int (Int32.ofNat za))])
      by_cases hc165 : (Int32.ofNat za) = (Int32.ofNat xa)
      · refine Go.step (fun _ zz => XS.icmpNo X11.here hx rfl (hb hby at_165) rfl (teq hc165).2 zz) ?_
        show Go _ _ _ _ T11 (mkF m 168 #[.val (.int p0), .val (.int p1), .val (.int p2), .val (.int p3), .val (.int p4), .val (.int p5), .val (.int (Int32.ofNat n)), .val (.int (Int32.ofNat xa)), .val (.int (Int32.ofNat ya)), .val (.int (Int32.ofNat za)), .val (.ref b1), .val (.ref b4), .val (.int (1 : Int32)), .val (.int ((own_mem ya xa p5 p4) xa)), .val (.int ((own_mem ya xa p5 p4) ya)), .val (.int ((own_mem ya xa p5 p4) za)), .val (.int p4), .unset] [])
        refine Go.step (fun _ zz => XS.iload X11.here hx rfl (hb hby at_168) rfl zz) ?_
        show Go _ _ _ _ T11 (mkF m 170 #[.val (.int p0), .val (.int p1), .val (.int p2), .val (.int p3), .val (.int p4), .val (.int p5), .val (.int (Int32.ofNat n)), .val (.int (Int32.ofNat xa)), .val (.int (Int32.ofNat ya)), .val (.int (Int32.ofNat za)), .val (.ref b1), .val (.ref b4), .val (.int (1 : Int32)), .val (.int ((own_mem ya xa p5 p4) xa)), .val (.int ((own_mem ya xa p5 p4) ya)), .val (.int ((own_mem ya xa p5 p4) za)), .val (.int p4), .unset] [(.int p4)])
        refine Go.step (fun _ zz => XS.istore X11.here hx rfl (hb hby at_170) rfl (l' := #[.val (.int p0), .val (.int p1), .val (.int p2), .val (.int p3), .val (.int p4), .val (.int p5), .val (.int (Int32.ofNat n)), .val (.int (Int32.ofNat xa)), .val (.int (Int32.ofNat ya)), .val (.int (Int32.ofNat za)), .val (.ref b1), .val (.ref b4), .val (.int (1 : Int32)), .val (.int ((own_mem ya xa p5 p4) xa)), .val (.int ((own_mem ya xa p5 p4) ya)), .val (.int ((own_mem ya xa p5 p4) za)), .val (.int p4), .val (.int p4)]) rfl zz) ?_
        show Go _ _ _ _ T11 (mkF m 172 #[.val (.int p0), .val (.int p1), .val (.int p2), .val (.int p3), .val (.int p4), .val (.int p5), .val (.int (Int32.ofNat n)), .val (.int (Int32.ofNat xa)), .val (.int (Int32.ofNat ya)), .val (.int (Int32.ofNat za)), .val (.ref b1), .val (.ref b4), .val (.int (1 : Int32)), .val (.int ((own_mem ya xa p5 p4) xa)), .val (.int ((own_mem ya xa p5 p4) ya)), .val (.int ((own_mem ya xa p5 p4) za)), .val (.int p4), .val (.int p4)] [])
        refine Go.step (fun _ zz => XS.goto X11.here hx rfl (pc0 := 172) (pc' := 178) rfl (hb hby at_172) (by decide) (by decide) zz) ?_
        show Go _ _ _ _ T11 (mkF m 178 #[.val (.int p0), .val (.int p1), .val (.int p2), .val (.int p3), .val (.int p4), .val (.int p5), .val (.int (Int32.ofNat n)), .val (.int (Int32.ofNat xa)), .val (.int (Int32.ofNat ya)), .val (.int (Int32.ofNat za)), .val (.ref b1), .val (.ref b4), .val (.int (1 : Int32)), .val (.int ((own_mem ya xa p5 p4) xa)), .val (.int ((own_mem ya xa p5 p4) ya)), .val (.int ((own_mem ya xa p5 p4) za)), .val (.int p4), .val (.int p4)] [])
        refine Go.step (fun _ zz => XS.iload X11.here hx rfl (hb hby at_178) rfl zz) ?_
        show Go _ _ _ _ T11 (mkF m 180 #[.val (.int p0), .val (.int p1), .val (.int p2), .val (.int p3), .val (.int p4), .val (.int p5), .val (.int (Int32.ofNat n)), .val (.int (Int32.ofNat xa)), .val (.int (Int32.ofNat ya)), .val (.int (Int32.ofNat za)), .val (.ref b1), .val (.ref b4), .val (.int (1 : Int32)), .val (.int ((own_mem ya xa p5 p4) xa)), .val (.int ((own_mem ya xa p5 p4) ya)), .val (.int ((own_mem ya xa p5 p4) za)), .val (.int p4), .val (.int p4)] [(.int ((own_mem ya xa p5 p4) xa))])
        refine Go.step (fun _ zz => XS.iload X11.here hx rfl (hb hby at_180) rfl zz) ?_
        show Go _ _ _ _ T11 (mkF m 182 #[.val (.int p0), .val (.int p1), .val (.int p2), .val (.int p3), .val (.int p4), .val (.int p5), .val (.int (Int32.ofNat n)), .val (.int (Int32.ofNat xa)), .val (.int (Int32.ofNat ya)), .val (.int (Int32.ofNat za)), .val (.ref b1), .val (.ref b4), .val (.int (1 : Int32)), .val (.int ((own_mem ya xa p5 p4) xa)), .val (.int ((own_mem ya xa p5 p4) ya)), .val (.int ((own_mem ya xa p5 p4) za)), .val (.int p4), .val (.int p4)] [(.int p4), (.int ((own_mem ya xa p5 p4) xa))])
        refine Go.step (fun _ zz => XS.icmpNo X11.here hx rfl (hb hby at_182) rfl (teq ((own_memB ya xa _ _ (by omega) (by omega)).trans (by rw [if_neg (fun q => hc135 q.symm)]))).2 zz) ?_
        show Go _ _ _ _ T11 (mkF m 185 #[.val (.int p0), .val (.int p1), .val (.int p2), .val (.int p3), .val (.int p4), .val (.int p5), .val (.int (Int32.ofNat n)), .val (.int (Int32.ofNat xa)), .val (.int (Int32.ofNat ya)), .val (.int (Int32.ofNat za)), .val (.ref b1), .val (.ref b4), .val (.int (1 : Int32)), .val (.int ((own_mem ya xa p5 p4) xa)), .val (.int ((own_mem ya xa p5 p4) ya)), .val (.int ((own_mem ya xa p5 p4) za)), .val (.int p4), .val (.int p4)] [])
        refine Go.step (fun _ zz => XS.iload X11.here hx rfl (hb hby at_185) rfl zz) ?_
        show Go _ _ _ _ T11 (mkF m 187 #[.val (.int p0), .val (.int p1), .val (.int p2), .val (.int p3), .val (.int p4), .val (.int p5), .val (.int (Int32.ofNat n)), .val (.int (Int32.ofNat xa)), .val (.int (Int32.ofNat ya)), .val (.int (Int32.ofNat za)), .val (.ref b1), .val (.ref b4), .val (.int (1 : Int32)), .val (.int ((own_mem ya xa p5 p4) xa)), .val (.int ((own_mem ya xa p5 p4) ya)), .val (.int ((own_mem ya xa p5 p4) za)), .val (.int p4), .val (.int p4)] [(.int ((own_mem ya xa p5 p4) ya))])
        refine Go.step (fun _ zz => XS.iload X11.here hx rfl (hb hby at_187) rfl zz) ?_
        show Go _ _ _ _ T11 (mkF m 189 #[.val (.int p0), .val (.int p1), .val (.int p2), .val (.int p3), .val (.int p4), .val (.int p5), .val (.int (Int32.ofNat n)), .val (.int (Int32.ofNat xa)), .val (.int (Int32.ofNat ya)), .val (.int (Int32.ofNat za)), .val (.ref b1), .val (.ref b4), .val (.int (1 : Int32)), .val (.int ((own_mem ya xa p5 p4) xa)), .val (.int ((own_mem ya xa p5 p4) ya)), .val (.int ((own_mem ya xa p5 p4) za)), .val (.int p4), .val (.int p4)] [(.int p5), (.int ((own_mem ya xa p5 p4) ya))])
        refine Go.step (fun _ zz => XS.icmpNo X11.here hx rfl (hb hby at_189) rfl (teq (own_memA _ _ _ _)).2 zz) ?_
        show Go _ _ _ _ T11 (mkF m 192 #[.val (.int p0), .val (.int p1), .val (.int p2), .val (.int p3), .val (.int p4), .val (.int p5), .val (.int (Int32.ofNat n)), .val (.int (Int32.ofNat xa)), .val (.int (Int32.ofNat ya)), .val (.int (Int32.ofNat za)), .val (.ref b1), .val (.ref b4), .val (.int (1 : Int32)), .val (.int ((own_mem ya xa p5 p4) xa)), .val (.int ((own_mem ya xa p5 p4) ya)), .val (.int ((own_mem ya xa p5 p4) za)), .val (.int p4), .val (.int p4)] [])
        refine Go.step (fun _ zz => XS.iload X11.here hx rfl (hb hby at_192) rfl zz) ?_
        show Go _ _ _ _ T11 (mkF m 194 #[.val (.int p0), .val (.int p1), .val (.int p2), .val (.int p3), .val (.int p4), .val (.int p5), .val (.int (Int32.ofNat n)), .val (.int (Int32.ofNat xa)), .val (.int (Int32.ofNat ya)), .val (.int (Int32.ofNat za)), .val (.ref b1), .val (.ref b4), .val (.int (1 : Int32)), .val (.int ((own_mem ya xa p5 p4) xa)), .val (.int ((own_mem ya xa p5 p4) ya)), .val (.int ((own_mem ya xa p5 p4) za)), .val (.int p4), .val (.int p4)] [(.int ((own_mem ya xa p5 p4) za))])
        refine Go.step (fun _ zz => XS.iload X11.here hx rfl (hb hby at_194) rfl zz) ?_
        show Go _ _ _ _ T11 (mkF m 196 #[.val (.int p0), .val (.int p1), .val (.int p2), .val (.int p3), .val (.int p4), .val (.int p5), .val (.int (Int32.ofNat n)), .val (.int (Int32.ofNat xa)), .val (.int (Int32.ofNat ya)), .val (.int (Int32.ofNat za)), .val (.ref b1), .val (.ref b4), .val (.int (1 : Int32)), .val (.int ((own_mem ya xa p5 p4) xa)), .val (.int ((own_mem ya xa p5 p4) ya)), .val (.int ((own_mem ya xa p5 p4) za)), .val (.int p4), .val (.int p4)] [(.int p4), (.int ((own_mem ya xa p5 p4) za))])
        refine Go.step (fun _ zz => XS.icmpNo X11.here hx rfl (hb hby at_196) rfl (teq ((own_memC ya xa za _ _ (by omega) (by omega) (by omega)).trans (by rw [if_neg hc151, if_pos hc165]))).2 zz) ?_
        show Go _ _ _ _ T11 (mkF m 199 #[.val (.int p0), .val (.int p1), .val (.int p2), .val (.int p3), .val (.int p4), .val (.int p5), .val (.int (Int32.ofNat n)), .val (.int (Int32.ofNat xa)), .val (.int (Int32.ofNat ya)), .val (.int (Int32.ofNat za)), .val (.ref b1), .val (.ref b4), .val (.int (1 : Int32)), .val (.int ((own_mem ya xa p5 p4) xa)), .val (.int ((own_mem ya xa p5 p4) ya)), .val (.int ((own_mem ya xa p5 p4) za)), .val (.int p4), .val (.int p4)] [])
        refine Go.step (fun _ zz => XS.iconst X11.here hx rfl (hb hby at_199) zz) ?_
        show Go _ _ _ _ T11 (mkF m 200 #[.val (.int p0), .val (.int p1), .val (.int p2), .val (.int p3), .val (.int p4), .val (.int p5), .val (.int (Int32.ofNat n)), .val (.int (Int32.ofNat xa)), .val (.int (Int32.ofNat ya)), .val (.int (Int32.ofNat za)), .val (.ref b1), .val (.ref b4), .val (.int (1 : Int32)), .val (.int ((own_mem ya xa p5 p4) xa)), .val (.int ((own_mem ya xa p5 p4) ya)), .val (.int ((own_mem ya xa p5 p4) za)), .val (.int p4), .val (.int p4)] [(.int (1 : Int32))])
        refine Go.step (fun _ zz => XS.goto X11.here hx rfl (pc0 := 200) (pc' := 204) rfl (hb hby at_200) (by decide) (by decide) zz) ?_
        show Go _ _ _ _ T11 (mkF m 204 #[.val (.int p0), .val (.int p1), .val (.int p2), .val (.int p3), .val (.int p4), .val (.int p5), .val (.int (Int32.ofNat n)), .val (.int (Int32.ofNat xa)), .val (.int (Int32.ofNat ya)), .val (.int (Int32.ofNat za)), .val (.ref b1), .val (.ref b4), .val (.int (1 : Int32)), .val (.int ((own_mem ya xa p5 p4) xa)), .val (.int ((own_mem ya xa p5 p4) ya)), .val (.int ((own_mem ya xa p5 p4) za)), .val (.int p4), .val (.int p4)] [(.int (1 : Int32))])
        exact Go.retN X11 hx (t := .boolean) Bd.returns (by simp) (hb hby at_204) Bd.notSynchronized (z' := (1 : Int32)) (by decide) (⟨rfl, N11⟩) (by decide) (by decide)
      · refine Go.step (fun _ zz => XS.icmpYes X11.here hx rfl (pc0 := 165) (pc' := 175) rfl (hb hby at_165) rfl (feq hc165).2 (by decide) (by decide) zz) ?_
        show Go _ _ _ _ T11 (mkF m 175 #[.val (.int p0), .val (.int p1), .val (.int p2), .val (.int p3), .val (.int p4), .val (.int p5), .val (.int (Int32.ofNat n)), .val (.int (Int32.ofNat xa)), .val (.int (Int32.ofNat ya)), .val (.int (Int32.ofNat za)), .val (.ref b1), .val (.ref b4), .val (.int (1 : Int32)), .val (.int ((own_mem ya xa p5 p4) xa)), .val (.int ((own_mem ya xa p5 p4) ya)), .val (.int ((own_mem ya xa p5 p4) za)), .val (.int p4), .unset] [])
        refine Go.step (fun _ zz => XS.iconst X11.here hx rfl (hb hby at_175) zz) ?_
        show Go _ _ _ _ T11 (mkF m 176 #[.val (.int p0), .val (.int p1), .val (.int p2), .val (.int p3), .val (.int p4), .val (.int p5), .val (.int (Int32.ofNat n)), .val (.int (Int32.ofNat xa)), .val (.int (Int32.ofNat ya)), .val (.int (Int32.ofNat za)), .val (.ref b1), .val (.ref b4), .val (.int (1 : Int32)), .val (.int ((own_mem ya xa p5 p4) xa)), .val (.int ((own_mem ya xa p5 p4) ya)), .val (.int ((own_mem ya xa p5 p4) za)), .val (.int p4), .unset] [(.int (0 : Int32))])
        refine Go.step (fun _ zz => XS.istore X11.here hx rfl (hb hby at_176) rfl (l' := #[.val (.int p0), .val (.int p1), .val (.int p2), .val (.int p3), .val (.int p4), .val (.int p5), .val (.int (Int32.ofNat n)), .val (.int (Int32.ofNat xa)), .val (.int (Int32.ofNat ya)), .val (.int (Int32.ofNat za)), .val (.ref b1), .val (.ref b4), .val (.int (1 : Int32)), .val (.int ((own_mem ya xa p5 p4) xa)), .val (.int ((own_mem ya xa p5 p4) ya)), .val (.int ((own_mem ya xa p5 p4) za)), .val (.int p4), .val (.int (0 : Int32))]) rfl zz) ?_
        show Go _ _ _ _ T11 (mkF m 178 #[.val (.int p0), .val (.int p1), .val (.int p2), .val (.int p3), .val (.int p4), .val (.int p5), .val (.int (Int32.ofNat n)), .val (.int (Int32.ofNat xa)), .val (.int (Int32.ofNat ya)), .val (.int (Int32.ofNat za)), .val (.ref b1), .val (.ref b4), .val (.int (1 : Int32)), .val (.int ((own_mem ya xa p5 p4) xa)), .val (.int ((own_mem ya xa p5 p4) ya)), .val (.int ((own_mem ya xa p5 p4) za)), .val (.int p4), .val (.int (0 : Int32))] [])
        refine Go.step (fun _ zz => XS.iload X11.here hx rfl (hb hby at_178) rfl zz) ?_
        show Go _ _ _ _ T11 (mkF m 180 #[.val (.int p0), .val (.int p1), .val (.int p2), .val (.int p3), .val (.int p4), .val (.int p5), .val (.int (Int32.ofNat n)), .val (.int (Int32.ofNat xa)), .val (.int (Int32.ofNat ya)), .val (.int (Int32.ofNat za)), .val (.ref b1), .val (.ref b4), .val (.int (1 : Int32)), .val (.int ((own_mem ya xa p5 p4) xa)), .val (.int ((own_mem ya xa p5 p4) ya)), .val (.int ((own_mem ya xa p5 p4) za)), .val (.int p4), .val (.int (0 : Int32))] [(.int ((own_mem ya xa p5 p4) xa))])
        refine Go.step (fun _ zz => XS.iload X11.here hx rfl (hb hby at_180) rfl zz) ?_
        show Go _ _ _ _ T11 (mkF m 182 #[.val (.int p0), .val (.int p1), .val (.int p2), .val (.int p3), .val (.int p4), .val (.int p5), .val (.int (Int32.ofNat n)), .val (.int (Int32.ofNat xa)), .val (.int (Int32.ofNat ya)), .val (.int (Int32.ofNat za)), .val (.ref b1), .val (.ref b4), .val (.int (1 : Int32)), .val (.int ((own_mem ya xa p5 p4) xa)), .val (.int ((own_mem ya xa p5 p4) ya)), .val (.int ((own_mem ya xa p5 p4) za)), .val (.int p4), .val (.int (0 : Int32))] [(.int p4), (.int ((own_mem ya xa p5 p4) xa))])
        refine Go.step (fun _ zz => XS.icmpNo X11.here hx rfl (hb hby at_182) rfl (teq ((own_memB ya xa _ _ (by omega) (by omega)).trans (by rw [if_neg (fun q => hc135 q.symm)]))).2 zz) ?_
        show Go _ _ _ _ T11 (mkF m 185 #[.val (.int p0), .val (.int p1), .val (.int p2), .val (.int p3), .val (.int p4), .val (.int p5), .val (.int (Int32.ofNat n)), .val (.int (Int32.ofNat xa)), .val (.int (Int32.ofNat ya)), .val (.int (Int32.ofNat za)), .val (.ref b1), .val (.ref b4), .val (.int (1 : Int32)), .val (.int ((own_mem ya xa p5 p4) xa)), .val (.int ((own_mem ya xa p5 p4) ya)), .val (.int ((own_mem ya xa p5 p4) za)), .val (.int p4), .val (.int (0 : Int32))] [])
        refine Go.step (fun _ zz => XS.iload X11.here hx rfl (hb hby at_185) rfl zz) ?_
        show Go _ _ _ _ T11 (mkF m 187 #[.val (.int p0), .val (.int p1), .val (.int p2), .val (.int p3), .val (.int p4), .val (.int p5), .val (.int (Int32.ofNat n)), .val (.int (Int32.ofNat xa)), .val (.int (Int32.ofNat ya)), .val (.int (Int32.ofNat za)), .val (.ref b1), .val (.ref b4), .val (.int (1 : Int32)), .val (.int ((own_mem ya xa p5 p4) xa)), .val (.int ((own_mem ya xa p5 p4) ya)), .val (.int ((own_mem ya xa p5 p4) za)), .val (.int p4), .val (.int (0 : Int32))] [(.int ((own_mem ya xa p5 p4) ya))])
        refine Go.step (fun _ zz => XS.iload X11.here hx rfl (hb hby at_187) rfl zz) ?_
        show Go _ _ _ _ T11 (mkF m 189 #[.val (.int p0), .val (.int p1), .val (.int p2), .val (.int p3), .val (.int p4), .val (.int p5), .val (.int (Int32.ofNat n)), .val (.int (Int32.ofNat xa)), .val (.int (Int32.ofNat ya)), .val (.int (Int32.ofNat za)), .val (.ref b1), .val (.ref b4), .val (.int (1 : Int32)), .val (.int ((own_mem ya xa p5 p4) xa)), .val (.int ((own_mem ya xa p5 p4) ya)), .val (.int ((own_mem ya xa p5 p4) za)), .val (.int p4), .val (.int (0 : Int32))] [(.int p5), (.int ((own_mem ya xa p5 p4) ya))])
        refine Go.step (fun _ zz => XS.icmpNo X11.here hx rfl (hb hby at_189) rfl (teq (own_memA _ _ _ _)).2 zz) ?_
        show Go _ _ _ _ T11 (mkF m 192 #[.val (.int p0), .val (.int p1), .val (.int p2), .val (.int p3), .val (.int p4), .val (.int p5), .val (.int (Int32.ofNat n)), .val (.int (Int32.ofNat xa)), .val (.int (Int32.ofNat ya)), .val (.int (Int32.ofNat za)), .val (.ref b1), .val (.ref b4), .val (.int (1 : Int32)), .val (.int ((own_mem ya xa p5 p4) xa)), .val (.int ((own_mem ya xa p5 p4) ya)), .val (.int ((own_mem ya xa p5 p4) za)), .val (.int p4), .val (.int (0 : Int32))] [])
        refine Go.step (fun _ zz => XS.iload X11.here hx rfl (hb hby at_192) rfl zz) ?_
        show Go _ _ _ _ T11 (mkF m 194 #[.val (.int p0), .val (.int p1), .val (.int p2), .val (.int p3), .val (.int p4), .val (.int p5), .val (.int (Int32.ofNat n)), .val (.int (Int32.ofNat xa)), .val (.int (Int32.ofNat ya)), .val (.int (Int32.ofNat za)), .val (.ref b1), .val (.ref b4), .val (.int (1 : Int32)), .val (.int ((own_mem ya xa p5 p4) xa)), .val (.int ((own_mem ya xa p5 p4) ya)), .val (.int ((own_mem ya xa p5 p4) za)), .val (.int p4), .val (.int (0 : Int32))] [(.int ((own_mem ya xa p5 p4) za))])
        refine Go.step (fun _ zz => XS.iload X11.here hx rfl (hb hby at_194) rfl zz) ?_
        show Go _ _ _ _ T11 (mkF m 196 #[.val (.int p0), .val (.int p1), .val (.int p2), .val (.int p3), .val (.int p4), .val (.int p5), .val (.int (Int32.ofNat n)), .val (.int (Int32.ofNat xa)), .val (.int (Int32.ofNat ya)), .val (.int (Int32.ofNat za)), .val (.ref b1), .val (.ref b4), .val (.int (1 : Int32)), .val (.int ((own_mem ya xa p5 p4) xa)), .val (.int ((own_mem ya xa p5 p4) ya)), .val (.int ((own_mem ya xa p5 p4) za)), .val (.int p4), .val (.int (0 : Int32))] [(.int (0 : Int32)), (.int ((own_mem ya xa p5 p4) za))])
        refine Go.step (fun _ zz => XS.icmpNo X11.here hx rfl (hb hby at_196) rfl (teq ((own_memC ya xa za _ _ (by omega) (by omega) (by omega)).trans (by rw [if_neg hc151, if_neg hc165]))).2 zz) ?_
        show Go _ _ _ _ T11 (mkF m 199 #[.val (.int p0), .val (.int p1), .val (.int p2), .val (.int p3), .val (.int p4), .val (.int p5), .val (.int (Int32.ofNat n)), .val (.int (Int32.ofNat xa)), .val (.int (Int32.ofNat ya)), .val (.int (Int32.ofNat za)), .val (.ref b1), .val (.ref b4), .val (.int (1 : Int32)), .val (.int ((own_mem ya xa p5 p4) xa)), .val (.int ((own_mem ya xa p5 p4) ya)), .val (.int ((own_mem ya xa p5 p4) za)), .val (.int p4), .val (.int (0 : Int32))] [])
        refine Go.step (fun _ zz => XS.iconst X11.here hx rfl (hb hby at_199) zz) ?_
        show Go _ _ _ _ T11 (mkF m 200 #[.val (.int p0), .val (.int p1), .val (.int p2), .val (.int p3), .val (.int p4), .val (.int p5), .val (.int (Int32.ofNat n)), .val (.int (Int32.ofNat xa)), .val (.int (Int32.ofNat ya)), .val (.int (Int32.ofNat za)), .val (.ref b1), .val (.ref b4), .val (.int (1 : Int32)), .val (.int ((own_mem ya xa p5 p4) xa)), .val (.int ((own_mem ya xa p5 p4) ya)), .val (.int ((own_mem ya xa p5 p4) za)), .val (.int p4), .val (.int (0 : Int32))] [(.int (1 : Int32))])
        refine Go.step (fun _ zz => XS.goto X11.here hx rfl (pc0 := 200) (pc' := 204) rfl (hb hby at_200) (by decide) (by decide) zz) ?_
        show Go _ _ _ _ T11 (mkF m 204 #[.val (.int p0), .val (.int p1), .val (.int p2), .val (.int p3), .val (.int p4), .val (.int p5), .val (.int (Int32.ofNat n)), .val (.int (Int32.ofNat xa)), .val (.int (Int32.ofNat ya)), .val (.int (Int32.ofNat za)), .val (.ref b1), .val (.ref b4), .val (.int (1 : Int32)), .val (.int ((own_mem ya xa p5 p4) xa)), .val (.int ((own_mem ya xa p5 p4) ya)), .val (.int ((own_mem ya xa p5 p4) za)), .val (.int p4), .val (.int (0 : Int32))] [(.int (1 : Int32))])
        exact Go.retN X11 hx (t := .boolean) Bd.returns (by simp) (hb hby at_204) Bd.notSynchronized (z' := (1 : Int32)) (by decide) (⟨rfl, N11⟩) (by decide) (by decide)
set_option maxRecDepth 65536 in
set_option maxHeartbeats 40000000 in
theorem comes_1 {Post : Tables → Env → Array Value → State → Outcome → State → Prop} (hpost : ∀ tb e args s v u, (limb_1_1.after args s (.returned v) u = true ∧ limb_1_2.after args s (.returned v) u = true ∧ True) → FrameEnd s (.returned v) u (Jvm.fieldLocs frame_1_writes args s ++ Jvm.arrayLocs frame_1_arrays args s ++ Jvm.staticLocs frame_1_statics s) 32 16512 → Post tb e args s (.returned v) u) :
    ArmFor flags0 classFile x code maxLocals ret World_1 tables_1 room_1 Calls_1 rest_1 Pre_1 Post := by
  intro l hfl _ _ p e ha hc hk s m args below hf hA hF happ hP
  obtain ⟨hcalls, hrest, hpre⟩ := hP
  obtain ⟨-, -, -, hnamed, -, -, -, hat⟩ := (Spec.applies_iff hf).mp happ
  obtain ⟨hg, hn⟩ := and_e (Cond.before_iff.mp (show (Jvm.Cond.and given_1 narrow_1).before args s = true from hpre))
  obtain ⟨hg_a, hg_b⟩ := and_e hg
  obtain ⟨hg_b_a, hg_b_b⟩ := and_e hg_b
  obtain ⟨hg_b_b_a, hg_b_b_b⟩ := and_e hg_b_b
  obtain ⟨hg_b_b_b_a, hg_b_b_b_b⟩ := and_e hg_b_b_b
  obtain ⟨hg_b_b_b_b_a, hg_b_b_b_b_b⟩ := and_e hg_b_b_b_b
  obtain ⟨hg_b_b_b_b_b_a, hg_b_b_b_b_b_b⟩ := and_e hg_b_b_b_b_b
  obtain ⟨u0, u1, u2, u3, u4, u5, rfl⟩ : ∃ u0 u1 u2 u3 u4 u5 : Value, args = #[u0, u1, u2, u3, u4, u5] := by
    have hs : args.size = 6 := by simpa [Cond.value, given_1] using hg_a
    obtain ⟨L⟩ := args
    match L, hs with
    | [u0, u1, u2, u3, u4, u5], _ => exact ⟨u0, u1, u2, u3, u4, u5, rfl⟩
  have hw := fun d (hd : d ∈ tables_1) => atoms_spec (ws := Jvm.Cond.code x code maxLocals ret :: tables_1) hat d (List.mem_cons_of_mem _ hd)
  have hfit : Fit s := fun {y c} hc i hi => by
    obtain ⟨ha, rfl⟩ := Array.getElem?_eq_some_iff.mp hc
    have q := List.all_eq_true.mp ((Array.all_eq_true_iff_forall_mem.mp hF) _ (Array.getElem_mem ha)) i (List.mem_range.mpr hi)
    simpa [Array.getElem?_eq_getElem hi] using q
  obtain ⟨i0, ei0⟩ := is_v hg_b_a
  obtain rfl : u0 = (.int i0) := Option.some.inj ei0
  obtain ⟨i1, ei1⟩ := is_v hg_b_b_a
  obtain rfl : u1 = (.int i1) := Option.some.inj ei1
  obtain ⟨i2, ei2⟩ := is_v hg_b_b_b_a
  obtain rfl : u2 = (.int i2) := Option.some.inj ei2
  obtain ⟨i3, ei3⟩ := is_v hg_b_b_b_b_a
  obtain rfl : u3 = (.int i3) := Option.some.inj ei3
  obtain ⟨i4, ei4⟩ := is_v hg_b_b_b_b_b_a
  obtain rfl : u4 = (.int i4) := Option.some.inj ei4
  obtain ⟨i5, ei5⟩ := is_v hg_b_b_b_b_b_b
  obtain rfl : u5 = (.int i5) := Option.some.inj ei5
  have wd : Wd s (fun i => ([] : List Addr).getD i 0) := Sta.start (own_eqi hn) (Or.inr ⟨(hw _ (List.mem_of_getElem? (i := 4) rfl)), (hw _ (List.mem_of_getElem? (i := 36) rfl))⟩)
  obtain ⟨n, o, h1, h2, h3, _, L, rfl, ⟨rfl, N⟩, hq⟩ := rm0 l s _ hw tables_1 i0 i1 i2 i3 i4 i5 (fun i => ([] : List Addr).getD i 0) s.heap s.heap.size (Nat.le_refl _) (Old.start s) wd p e ha hc hk s m _ below hf ((Spec.applies_iff_loose hf).mp happ).1 ⟨rfl, State.Warmed39.refl s, rfl⟩ trivial
  refine ⟨n, _, h1, h2, h3, hpost _ _ _ _ _ _ ⟨Cond.after_iff.mpr rfl, Cond.after_iff.mpr (eq_i res_at (Term.int_eval (1)) rfl), trivial⟩ ⟨hq.1, hq.2.1, (hq.2.2.sift fun y hy => Or.inr (N y hy)).mono (by decide) (by decide)⟩⟩
theorem main_1_1 : Claimed_1_1 := comes_1 fun _ _ _ _ _ _ h hF => ⟨h.1, hF⟩
theorem main_1_2 : Claimed_1_2 := comes_1 fun _ _ _ _ _ _ h hF => ⟨h.2.1, hF⟩
end Jvm.Pilot.@@N@@
namespace Jvm.Pilot.@@N@@
open Jvm Jvm.ClassFile Sem Op Lib Jvm.Free Jvm.Stand Jvm.Pilot.@@N@@.Jvm.D
/-! MADE BY PROGRAM (witnessworld.py) out of the Statement's table words and the real class files: 17 classes; the members and pool entries that the words name. The judged class is class 1, her method 1. -/
namespace start1
open Jvm.ClassFile
def u (s : String) : CpInfo := .utf8 (stringToUtf16 s)
/-- a pool by its gaps: so many unusable entries, then the entry; so many at the end -/
def gap : Nat → List CpInfo → List CpInfo
  | 0, r => r
  | n + 1, r => .unusable :: gap n r
def poolList (es : List (Nat × CpInfo)) (last : Nat) : List CpInfo := es.foldr (fun e r => gap e.1 (e.2 :: r)) (gap last [])
def pool (es : List (Nat × CpInfo)) (last : Nat) : Array CpInfo := ⟨poolList es last⟩
def fileOf (pool : Array CpInfo) (this : Nat) (attrs : Array Attribute := #[]) (ms : Array MethodInfo := #[]) (fl : Nat := 33) (sup : Nat := 0) (ifs : Array Nat := #[]) (fds : Array FieldInfo := #[]) : ClassFile where
  minorVersion := 0
  majorVersion := 65
  constantPool := pool
  accessFlags := fl
  thisClass := this
  superClass := sup
  interfaces := ifs
  fields := fds
  methods := ms
  attributes := attrs
def plain (name : String) (sup : Option ClassId) : Class where
  name := name
  kind := .ordinary
  loader := none
  accessFlags := 33
  super := sup
  interfaces := #[]
  cf := none
  fields := #[]
  methods := #[]
  instanceTypes := #[]
  staticTypes := #[]
  resolved := #[]
  callSites := []
  init := .initialized
  statics := none
  mirror := none

def pool0 : Array CpInfo := pool [(5, u "<init>"), (0, u "()V"), (1, .class_ 10), (1, u "java/lang/Object")] 113

def k0c0 : Code := { maxStack := 0, maxLocals := 1, code := object_method_1_code, exceptionTable := #[], attributes := #[] }
def k0m0 : Method := { name := "<init>", desc := "()V", sig := { parameters := [], returnType := none }, accessFlags := 1, code := some k0c0 }
/-- java/lang/Object -/
def k0 : Class := { plain "java/lang/Object" none with
  accessFlags := 33
  interfaces := #[]
  cf := some (fileOf pool0 8 #[] #[{ accessFlags := 1, nameIndex := 5, descriptorIndex := 6, attributes := #[] }] 33 0 #[] #[])
  fields := #[]
  methods := #[k0m0]
  instanceTypes := #[]
  staticTypes := #[]
  resolved := Array.replicate 124 none
  statics := none }

def pool1 : Array CpInfo := pool [(2, .class_ 4), (1, u "java/lang/Object"), (0, u "<init>"), (0, u "()V"), (0, .integer 2147483647), (0, .class_ 9), (0, u "rowpack/growable/IntSpace"), (0, .methodref 8 11), (0, .nameAndType 5 12), (0, u "(I)V"), (0, .methodref 8 14), (0, .nameAndType 15 16), (0, u "allocate"), (0, u "(I)I"), (0, .methodref 8 18), (0, .nameAndType 19 20), (0, u "setInt"), (0, u "(II)V"), (0, .methodref 8 22), (0, .nameAndType 23 24), (0, u "copyIn"), (0, u "([III)V"), (0, .methodref 8 26), (0, .nameAndType 27 16), (0, u "getInt"), (0, .class_ 29), (0, u "rowpack/growable/IntSpaceGetIntPinLaw"), (2, u "law"), (0, u "(IIIIII)Z")] 5

def k1m0 : Method := { name := "<init>", desc := "()V", sig := { parameters := [], returnType := none }, accessFlags := 1, code := none }
def k1c1 : Code := { maxStack := 4, maxLocals := 18, code := code, exceptionTable := #[], attributes := #[] }
def k1m1 : Method := { name := "law", desc := "(IIIIII)Z", sig := { parameters := [.int, .int, .int, .int, .int, .int], returnType := some .boolean }, accessFlags := 9, code := some k1c1 }
/-- rowpack/growable/IntSpaceGetIntPinLaw -/
def k1 : Class := { plain "rowpack/growable/IntSpaceGetIntPinLaw" (some 0) with
  accessFlags := 49
  interfaces := #[]
  cf := some (fileOf pool1 28 #[] #[{ accessFlags := 1, nameIndex := 5, descriptorIndex := 6, attributes := #[] }, { accessFlags := 9, nameIndex := 32, descriptorIndex := 33, attributes := #[] }] 49 2 #[] #[])
  fields := #[]
  methods := #[k1m0, k1m1]
  instanceTypes := #[]
  staticTypes := #[]
  resolved := Array.replicate 39 none
  statics := none }

def pool2 : Array CpInfo := pool [(1, .class_ 2), (0, u "rowpack/growable/IntSpace"), (0, .class_ 4), (0, u "java/lang/Integer"), (0, .methodref 6 7), (0, .class_ 8), (0, .nameAndType 9 10), (0, u "java/lang/Object"), (0, u "<init>"), (0, u "()V"), (0, .class_ 12), (0, u "[I"), (0, .fieldref 1 14), (0, .nameAndType 15 16), (0, u "pages"), (0, u "[[I"), (0, .fieldref 1 18), (0, .nameAndType 19 20), (0, u "top"), (0, u "J"), (0, .class_ 22), (0, u "[J"), (0, .fieldref 1 24), (0, .nameAndType 25 26), (0, u "freeBits"), (0, u "[[J"), (0, .fieldref 1 28), (0, .nameAndType 29 12), (0, u "freeHeads"), (0, .fieldref 1 31), (0, .nameAndType 32 22), (0, u "listBits"), (0, .fieldref 1 34), (0, .nameAndType 35 22), (0, u "listWords"), (0, .fieldref 1 37), (0, .nameAndType 38 39), (0, u "maxChunkInts"), (0, u "I"), (0, .fieldref 1 41), (0, .nameAndType 42 43), (0, u "$assertionsDisabled"), (0, u "Z"), (4, u "(I)V"), (0, .methodref 1 50), (0, .nameAndType 51 52), (0, u "leastListFrom"), (0, u "(I)I"), (0, .methodref 1 54), (0, .nameAndType 55 52), (0, u "fromTop"), (3, u "(I)J"), (3, u "(II)V"), (4, .methodref 1 69), (0, .nameAndType 70 71), (0, u "markFree"), (0, u "(IIZ)V"), (3, u "(II)Z"), (4, .methodref 3 81), (0, .nameAndType 82 59), (0, u "toUnsignedLong"), (21, u "getInt"), (0, .methodref 1 106), (0, .nameAndType 107 75), (0, u "isShortInOnePage"), (0, .methodref 109 110), (0, .class_ 111), (0, .nameAndType 112 113), (0, u "java/lang/Math"), (0, u "min"), (0, u "(II)I"), (7, u "([III)V"), (0, .methodref 109 123), (0, .nameAndType 124 113), (0, u "max"), (11, .fieldref 1 137), (0, .nameAndType 138 39), (0, u "pageCount"), (6, u "freeBitPages"), (0, .long 4294967296), (21, u "setInt"), (7, .long 18446744073709551615), (1, .methodref 109 179), (0, .nameAndType 112 180), (0, u "(JJ)J"), (6, .methodref 1 188), (0, .nameAndType 189 52), (0, u "nextListWord"), (3, .long 63), (1, .long 64), (8, u "PAGE_SHIFT"), (2, u "PAGE_INTS"), (1, u "PAGE_MASK"), (1, u "MAX_INTS"), (0, u "SHORT_COPY_INTS"), (1, u "MIN_CHUNK_INTS"), (1, u "NEXT"), (1, u "PREV"), (1, u "SIZE"), (0, u "NO_LINK"), (0, u "BIT_PAGE_SHIFT"), (1, u "BIT_WORD_MASK"), (3, u "allocate"), (3, u "copyIn")] 24

def k2c0 : Code := { maxStack := 3, maxLocals := 2, code := prog_23_method_1_code, exceptionTable := #[], attributes := #[] }
def k2m0 : Method := { name := "<init>", desc := "(I)V", sig := { parameters := [.int], returnType := none }, accessFlags := 0, code := some k2c0 }
def k2c1 : Code := { maxStack := 6, maxLocals := 6, code := prog_23_method_2_code, exceptionTable := #[], attributes := #[] }
def k2m1 : Method := { name := "allocate", desc := "(I)I", sig := { parameters := [.int], returnType := some .int }, accessFlags := 0, code := some k2c1 }
def k2c2 : Code := { maxStack := 3, maxLocals := 2, code := prog_23_method_5_code, exceptionTable := #[], attributes := #[] }
def k2m2 : Method := { name := "getInt", desc := "(I)I", sig := { parameters := [.int], returnType := some .int }, accessFlags := 0, code := some k2c2 }
def k2c3 : Code := { maxStack := 3, maxLocals := 3, code := prog_23_method_7_code, exceptionTable := #[], attributes := #[] }
def k2m3 : Method := { name := "setInt", desc := "(II)V", sig := { parameters := [.int, .int], returnType := none }, accessFlags := 0, code := some k2c3 }
def k2c4 : Code := { maxStack := 4, maxLocals := 7, code := prog_23_method_9_code, exceptionTable := #[], attributes := #[] }
def k2m4 : Method := { name := "copyIn", desc := "([III)V", sig := { parameters := [(.array .int), .int, .int], returnType := none }, accessFlags := 0, code := some k2c4 }
def k2c5 : Code := { maxStack := 5, maxLocals := 5, code := prog_23_method_15_code, exceptionTable := #[], attributes := #[] }
def k2m5 : Method := { name := "fromTop", desc := "(I)I", sig := { parameters := [.int], returnType := some .int }, accessFlags := 2, code := some k2c5 }
def k2c6 : Code := { maxStack := 5, maxLocals := 5, code := prog_23_method_23_code, exceptionTable := #[], attributes := #[] }
def k2m6 : Method := { name := "leastListFrom", desc := "(I)I", sig := { parameters := [.int], returnType := some .int }, accessFlags := 2, code := some k2c6 }
def k2c7 : Code := { maxStack := 5, maxLocals := 5, code := prog_23_method_24_code, exceptionTable := #[], attributes := #[] }
def k2m7 : Method := { name := "nextListWord", desc := "(I)I", sig := { parameters := [.int], returnType := some .int }, accessFlags := 2, code := some k2c7 }
def k2c8 : Code := { maxStack := 8, maxLocals := 17, code := prog_23_method_28_code, exceptionTable := #[], attributes := #[] }
def k2m8 : Method := { name := "markFree", desc := "(IIZ)V", sig := { parameters := [.int, .int, .boolean], returnType := none }, accessFlags := 2, code := some k2c8 }
def k2c9 : Code := { maxStack := 2, maxLocals := 2, code := prog_23_method_31_code, exceptionTable := #[], attributes := #[] }
def k2m9 : Method := { name := "isShortInOnePage", desc := "(II)Z", sig := { parameters := [.int, .int], returnType := some .boolean }, accessFlags := 10, code := some k2c9 }
/-- rowpack/growable/IntSpace -/
def k2 : Class := { plain "rowpack/growable/IntSpace" (some 0) with
  accessFlags := 48
  interfaces := #[]
  cf := some (fileOf pool2 1 #[] #[{ accessFlags := 0, nameIndex := 9, descriptorIndex := 48, attributes := #[] }, { accessFlags := 0, nameIndex := 228, descriptorIndex := 52, attributes := #[] }, { accessFlags := 0, nameIndex := 104, descriptorIndex := 52, attributes := #[] }, { accessFlags := 0, nameIndex := 168, descriptorIndex := 63, attributes := #[] }, { accessFlags := 0, nameIndex := 232, descriptorIndex := 121, attributes := #[] }, { accessFlags := 2, nameIndex := 55, descriptorIndex := 52, attributes := #[] }, { accessFlags := 2, nameIndex := 51, descriptorIndex := 52, attributes := #[] }, { accessFlags := 2, nameIndex := 189, descriptorIndex := 52, attributes := #[] }, { accessFlags := 2, nameIndex := 70, descriptorIndex := 71, attributes := #[] }, { accessFlags := 10, nameIndex := 107, descriptorIndex := 75, attributes := #[] }] 48 6 #[] #[{ accessFlags := 26, nameIndex := 204, descriptorIndex := 39, attributes := #[] }, { accessFlags := 26, nameIndex := 207, descriptorIndex := 39, attributes := #[] }, { accessFlags := 26, nameIndex := 209, descriptorIndex := 39, attributes := #[] }, { accessFlags := 26, nameIndex := 211, descriptorIndex := 20, attributes := #[] }, { accessFlags := 26, nameIndex := 212, descriptorIndex := 39, attributes := #[] }, { accessFlags := 26, nameIndex := 214, descriptorIndex := 39, attributes := #[] }, { accessFlags := 26, nameIndex := 216, descriptorIndex := 39, attributes := #[] }, { accessFlags := 26, nameIndex := 218, descriptorIndex := 39, attributes := #[] }, { accessFlags := 26, nameIndex := 220, descriptorIndex := 39, attributes := #[] }, { accessFlags := 26, nameIndex := 221, descriptorIndex := 39, attributes := #[] }, { accessFlags := 26, nameIndex := 222, descriptorIndex := 39, attributes := #[] }, { accessFlags := 26, nameIndex := 224, descriptorIndex := 39, attributes := #[] }, { accessFlags := 18, nameIndex := 38, descriptorIndex := 39, attributes := #[] }, { accessFlags := 2, nameIndex := 15, descriptorIndex := 16, attributes := #[] }, { accessFlags := 2, nameIndex := 138, descriptorIndex := 39, attributes := #[] }, { accessFlags := 2, nameIndex := 19, descriptorIndex := 20, attributes := #[] }, { accessFlags := 2, nameIndex := 25, descriptorIndex := 26, attributes := #[] }, { accessFlags := 2, nameIndex := 145, descriptorIndex := 39, attributes := #[] }, { accessFlags := 2, nameIndex := 29, descriptorIndex := 12, attributes := #[] }, { accessFlags := 2, nameIndex := 32, descriptorIndex := 22, attributes := #[] }, { accessFlags := 2, nameIndex := 35, descriptorIndex := 22, attributes := #[] }, { accessFlags := 4120, nameIndex := 42, descriptorIndex := 43, attributes := #[] }])
  fields := #[{ name := "PAGE_SHIFT", type := .int, accessFlags := 26, slot := 0, constantValue := 0 }, { name := "PAGE_INTS", type := .int, accessFlags := 26, slot := 1, constantValue := 0 }, { name := "PAGE_MASK", type := .int, accessFlags := 26, slot := 2, constantValue := 0 }, { name := "MAX_INTS", type := .long, accessFlags := 26, slot := 3, constantValue := 0 }, { name := "SHORT_COPY_INTS", type := .int, accessFlags := 26, slot := 4, constantValue := 0 }, { name := "MIN_CHUNK_INTS", type := .int, accessFlags := 26, slot := 5, constantValue := 0 }, { name := "NEXT", type := .int, accessFlags := 26, slot := 6, constantValue := 0 }, { name := "PREV", type := .int, accessFlags := 26, slot := 7, constantValue := 0 }, { name := "SIZE", type := .int, accessFlags := 26, slot := 8, constantValue := 0 }, { name := "NO_LINK", type := .int, accessFlags := 26, slot := 9, constantValue := 0 }, { name := "BIT_PAGE_SHIFT", type := .int, accessFlags := 26, slot := 10, constantValue := 0 }, { name := "BIT_WORD_MASK", type := .int, accessFlags := 26, slot := 11, constantValue := 0 }, { name := "maxChunkInts", type := .int, accessFlags := 18, slot := 0, constantValue := 0 }, { name := "pages", type := (.array (.array .int)), accessFlags := 2, slot := 1, constantValue := 0 }, { name := "pageCount", type := .int, accessFlags := 2, slot := 2, constantValue := 0 }, { name := "top", type := .long, accessFlags := 2, slot := 3, constantValue := 0 }, { name := "freeBits", type := (.array (.array .long)), accessFlags := 2, slot := 4, constantValue := 0 }, { name := "freeBitPages", type := .int, accessFlags := 2, slot := 5, constantValue := 0 }, { name := "freeHeads", type := (.array .int), accessFlags := 2, slot := 6, constantValue := 0 }, { name := "listBits", type := (.array .long), accessFlags := 2, slot := 7, constantValue := 0 }, { name := "listWords", type := (.array .long), accessFlags := 2, slot := 8, constantValue := 0 }, { name := "$assertionsDisabled", type := .boolean, accessFlags := 4120, slot := 12, constantValue := 0 }]
  methods := #[k2m0, k2m1, k2m2, k2m3, k2m4, k2m5, k2m6, k2m7, k2m8, k2m9]
  instanceTypes := #[.int, (.array (.array .int)), .int, .long, (.array (.array .long)), .int, (.array .int), (.array .long), (.array .long)]
  staticTypes := #[.int, .int, .int, .long, .int, .int, .int, .int, .int, .int, .int, .int, .boolean]
  resolved := Array.replicate 257 none
  statics := some 0 }

def pool3 : Array CpInfo := pool [(1, .class_ 2), (0, u "java/io/Serializable"), (0, .class_ 4), (0, u "java/lang/Object")] 2

/-- java/io/Serializable -/
def k3 : Class := { plain "java/io/Serializable" (some 0) with
  accessFlags := 1537
  interfaces := #[]
  cf := some (fileOf pool3 1 #[] #[] 1537 3 #[] #[])
  fields := #[]
  methods := #[]
  instanceTypes := #[]
  staticTypes := #[]
  resolved := Array.replicate 7 none
  statics := none }

def pool4 : Array CpInfo := pool [(2, .class_ 4), (1, u "java/lang/Object"), (0, u "<init>"), (0, u "()V"), (1, .class_ 10), (1, u "java/lang/Number"), (2, .class_ 14), (0, u "java/io/Serializable"), (0, u "serialVersionUID"), (0, u "J")] 20

def k4m0 : Method := { name := "<init>", desc := "()V", sig := { parameters := [], returnType := none }, accessFlags := 1, code := none }
/-- java/lang/Number -/
def k4 : Class := { plain "java/lang/Number" (some 0) with
  accessFlags := 1057
  interfaces := #[3]
  cf := some (fileOf pool4 8 #[] #[{ accessFlags := 1, nameIndex := 5, descriptorIndex := 6, attributes := #[] }] 1057 2 #[13] #[{ accessFlags := 26, nameIndex := 15, descriptorIndex := 16, attributes := #[] }])
  fields := #[{ name := "serialVersionUID", type := .long, accessFlags := 26, slot := 0, constantValue := 0 }]
  methods := #[k4m0]
  instanceTypes := #[]
  staticTypes := #[.long]
  resolved := Array.replicate 37 none
  statics := none }

def pool5 : Array CpInfo := pool [(1, .class_ 2), (0, u "java/lang/Comparable"), (0, .class_ 4), (0, u "java/lang/Object")] 7

/-- java/lang/Comparable -/
def k5 : Class := { plain "java/lang/Comparable" (some 0) with
  accessFlags := 1537
  interfaces := #[]
  cf := some (fileOf pool5 1 #[] #[] 1537 3 #[] #[])
  fields := #[]
  methods := #[]
  instanceTypes := #[]
  staticTypes := #[]
  resolved := Array.replicate 12 none
  statics := none }

def pool6 : Array CpInfo := pool [(1, .class_ 2), (0, u "java/lang/constant/Constable"), (0, .class_ 4), (0, u "java/lang/Object")] 6

/-- java/lang/constant/Constable -/
def k6 : Class := { plain "java/lang/constant/Constable" (some 0) with
  accessFlags := 1537
  interfaces := #[]
  cf := some (fileOf pool6 1 #[] #[] 1537 3 #[] #[])
  fields := #[]
  methods := #[]
  instanceTypes := #[]
  staticTypes := #[]
  resolved := Array.replicate 11 none
  statics := none }

def pool7 : Array CpInfo := pool [(1, .class_ 2), (0, u "java/lang/constant/ConstantDesc"), (0, .class_ 4), (0, u "java/lang/Object")] 32

/-- java/lang/constant/ConstantDesc -/
def k7 : Class := { plain "java/lang/constant/ConstantDesc" (some 0) with
  accessFlags := 1537
  interfaces := #[]
  cf := some (fileOf pool7 1 #[] #[] 1537 3 #[] #[])
  fields := #[]
  methods := #[]
  instanceTypes := #[]
  staticTypes := #[]
  resolved := Array.replicate 37 none
  statics := none }

def pool8 : Array CpInfo := pool [(1, .class_ 2), (0, u "java/lang/Integer"), (16, u "digits"), (0, u "[C"), (19, u "toUnsignedLong"), (0, u "(I)J"), (43, u "DigitOnes"), (0, u "[B"), (2, u "DigitTens"), (99, .class_ 190), (0, u "java/lang/Integer$IntegerCache"), (3, u "I"), (8, .class_ 204), (0, u "java/lang/Number"), (2, u "value"), (54, .long 4294967295), (39, u "TYPE"), (0, u "Ljava/lang/Class;"), (0, .class_ 305), (0, u "java/lang/Comparable"), (0, .class_ 307), (0, u "java/lang/constant/Constable"), (0, .class_ 309), (0, u "java/lang/constant/ConstantDesc"), (0, u "MIN_VALUE"), (1, u "MAX_VALUE"), (3, u "SIZE"), (1, u "BYTES"), (1, u "serialVersionUID"), (0, u "J")] 131

def k8c0 : Code := { maxStack := 4, maxLocals := 1, code := jdk_33_method_42_code, exceptionTable := #[], attributes := #[] }
def k8m0 : Method := { name := "toUnsignedLong", desc := "(I)J", sig := { parameters := [.int], returnType := some .long }, accessFlags := 9, code := some k8c0 }
/-- java/lang/Integer -/
def k8 : Class := { plain "java/lang/Integer" (some 4) with
  accessFlags := 49
  interfaces := #[5, 6, 7]
  cf := some (fileOf pool8 1 #[.nestMembers #[189]] #[{ accessFlags := 9, nameIndex := 40, descriptorIndex := 41, attributes := #[] }] 49 203 #[304, 306, 308] #[{ accessFlags := 25, nameIndex := 310, descriptorIndex := 194, attributes := #[] }, { accessFlags := 25, nameIndex := 312, descriptorIndex := 194, attributes := #[] }, { accessFlags := 25, nameIndex := 302, descriptorIndex := 303, attributes := #[] }, { accessFlags := 24, nameIndex := 19, descriptorIndex := 20, attributes := #[] }, { accessFlags := 24, nameIndex := 89, descriptorIndex := 86, attributes := #[] }, { accessFlags := 24, nameIndex := 85, descriptorIndex := 86, attributes := #[] }, { accessFlags := 18, nameIndex := 207, descriptorIndex := 194, attributes := #[] }, { accessFlags := 25, nameIndex := 316, descriptorIndex := 194, attributes := #[] }, { accessFlags := 25, nameIndex := 318, descriptorIndex := 194, attributes := #[] }, { accessFlags := 26, nameIndex := 320, descriptorIndex := 321, attributes := #[] }])
  fields := #[{ name := "MIN_VALUE", type := .int, accessFlags := 25, slot := 0, constantValue := 0 }, { name := "MAX_VALUE", type := .int, accessFlags := 25, slot := 1, constantValue := 0 }, { name := "TYPE", type := (.object "java/lang/Class"), accessFlags := 25, slot := 2, constantValue := 0 }, { name := "digits", type := (.array .char), accessFlags := 24, slot := 3, constantValue := 0 }, { name := "DigitTens", type := (.array .byte), accessFlags := 24, slot := 4, constantValue := 0 }, { name := "DigitOnes", type := (.array .byte), accessFlags := 24, slot := 5, constantValue := 0 }, { name := "value", type := .int, accessFlags := 18, slot := 0, constantValue := 0 }, { name := "SIZE", type := .int, accessFlags := 25, slot := 6, constantValue := 0 }, { name := "BYTES", type := .int, accessFlags := 25, slot := 7, constantValue := 0 }, { name := "serialVersionUID", type := .long, accessFlags := 26, slot := 8, constantValue := 0 }]
  methods := #[k8m0]
  instanceTypes := #[.int]
  staticTypes := #[.int, .int, (.object "java/lang/Class"), (.array .char), (.array .byte), (.array .byte), .int, .int, .long]
  resolved := Array.replicate 453 none
  statics := none }

def pool9 : Array CpInfo := pool [(1, .class_ 2), (0, u "java/lang/Math"), (1, .class_ 6), (1, u "java/lang/Object"), (0, u "<init>"), (0, u "()V"), (89, .class_ 100), (1, u "java/lang/Math$RandomNumberGeneratorHolder"), (20, u "(JJ)J"), (50, u "negativeZeroFloatBits"), (0, u "J"), (2, u "negativeZeroDoubleBits"), (21, u "max"), (2, u "min"), (43, u "$assertionsDisabled"), (0, u "Z"), (88, u "(II)I"), (2, u "twoToTheDoubleScaleDown"), (0, u "D"), (4, u "twoToTheDoubleScaleUp"), (9, u "E"), (3, u "PI"), (2, u "TAU"), (2, u "DEGREES_TO_RADIANS"), (0, u "RADIANS_TO_DEGREES")] 94

def k9m0 : Method := { name := "<init>", desc := "()V", sig := { parameters := [], returnType := none }, accessFlags := 2, code := none }
def k9c1 : Code := { maxStack := 2, maxLocals := 2, code := jdk_29_method_65_code, exceptionTable := #[], attributes := #[] }
def k9m1 : Method := { name := "max", desc := "(II)I", sig := { parameters := [.int, .int], returnType := some .int }, accessFlags := 9, code := some k9c1 }
def k9c2 : Code := { maxStack := 2, maxLocals := 2, code := jdk_29_method_69_code, exceptionTable := #[], attributes := #[] }
def k9m2 : Method := { name := "min", desc := "(II)I", sig := { parameters := [.int, .int], returnType := some .int }, accessFlags := 9, code := some k9c2 }
def k9c3 : Code := { maxStack := 4, maxLocals := 4, code := jdk_29_method_70_code, exceptionTable := #[], attributes := #[] }
def k9m3 : Method := { name := "min", desc := "(JJ)J", sig := { parameters := [.long, .long], returnType := some .long }, accessFlags := 9, code := some k9c3 }
/-- java/lang/Math -/
def k9 : Class := { plain "java/lang/Math" (some 0) with
  accessFlags := 49
  interfaces := #[]
  cf := some (fileOf pool9 1 #[.nestMembers #[98]] #[{ accessFlags := 2, nameIndex := 7, descriptorIndex := 8, attributes := #[] }, { accessFlags := 9, nameIndex := 198, descriptorIndex := 335, attributes := #[] }, { accessFlags := 9, nameIndex := 201, descriptorIndex := 335, attributes := #[] }, { accessFlags := 9, nameIndex := 201, descriptorIndex := 121, attributes := #[] }] 49 4 #[] #[{ accessFlags := 25, nameIndex := 354, descriptorIndex := 339, attributes := #[] }, { accessFlags := 25, nameIndex := 358, descriptorIndex := 339, attributes := #[] }, { accessFlags := 25, nameIndex := 361, descriptorIndex := 339, attributes := #[] }, { accessFlags := 26, nameIndex := 364, descriptorIndex := 339, attributes := #[] }, { accessFlags := 26, nameIndex := 365, descriptorIndex := 339, attributes := #[] }, { accessFlags := 26, nameIndex := 172, descriptorIndex := 173, attributes := #[] }, { accessFlags := 26, nameIndex := 176, descriptorIndex := 173, attributes := #[] }, { accessFlags := 8, nameIndex := 344, descriptorIndex := 339, attributes := #[] }, { accessFlags := 8, nameIndex := 338, descriptorIndex := 339, attributes := #[] }, { accessFlags := 4120, nameIndex := 245, descriptorIndex := 246, attributes := #[] }])
  fields := #[{ name := "E", type := .double, accessFlags := 25, slot := 0, constantValue := 0 }, { name := "PI", type := .double, accessFlags := 25, slot := 1, constantValue := 0 }, { name := "TAU", type := .double, accessFlags := 25, slot := 2, constantValue := 0 }, { name := "DEGREES_TO_RADIANS", type := .double, accessFlags := 26, slot := 3, constantValue := 0 }, { name := "RADIANS_TO_DEGREES", type := .double, accessFlags := 26, slot := 4, constantValue := 0 }, { name := "negativeZeroFloatBits", type := .long, accessFlags := 26, slot := 5, constantValue := 0 }, { name := "negativeZeroDoubleBits", type := .long, accessFlags := 26, slot := 6, constantValue := 0 }, { name := "twoToTheDoubleScaleUp", type := .double, accessFlags := 8, slot := 7, constantValue := 0 }, { name := "twoToTheDoubleScaleDown", type := .double, accessFlags := 8, slot := 8, constantValue := 0 }, { name := "$assertionsDisabled", type := .boolean, accessFlags := 4120, slot := 9, constantValue := 0 }]
  methods := #[k9m0, k9m1, k9m2, k9m3]
  instanceTypes := #[]
  staticTypes := #[.double, .double, .double, .double, .double, .long, .long, .double, .double, .boolean]
  resolved := Array.replicate 460 none
  statics := none }

def pool10 : Array CpInfo := pool [(1, u "java/lang/Cloneable"), (0, .class_ 1), (0, u "java/lang/Object"), (0, .class_ 3)] 3

/-- java/lang/Cloneable -/
def k10 : Class := { plain "java/lang/Cloneable" (some 0) with
  accessFlags := 1537
  interfaces := #[]
  cf := some (fileOf pool10 2 #[] #[] 1537 4 #[] #[])
  fields := #[]
  methods := #[]
  instanceTypes := #[]
  staticTypes := #[]
  resolved := Array.replicate 8 none
  statics := none }

/-- the primitive byte -/
def k11 : Class := { plain "byte" none with kind := .primitive 'B', accessFlags := 0x411 }
/-- [B -/
def k12 : Class := { plain "[B" (some 0) with kind := .array 11 .byte, interfaces := #[10, 3], accessFlags := 1041 }

/-- the primitive int -/
def k13 : Class := { plain "int" none with kind := .primitive 'I', accessFlags := 0x411 }
/-- [I -/
def k14 : Class := { plain "[I" (some 0) with kind := .array 13 .int, interfaces := #[10, 3], accessFlags := 1041 }

/-- the primitive long -/
def k15 : Class := { plain "long" none with kind := .primitive 'J', accessFlags := 0x411 }
/-- [J -/
def k16 : Class := { plain "[J" (some 0) with kind := .array 15 .long, interfaces := #[10, 3], accessFlags := 1041 }

/-- [[I -/
def k17 : Class := { plain "[[I" (some 0) with kind := .array 14 (.array .int), interfaces := #[10, 3], accessFlags := 1041 }
/-- [[J -/
def k18 : Class := { plain "[[J" (some 0) with kind := .array 16 (.array .long), interfaces := #[10, 3], accessFlags := 1041 }

def heap : Heap := #[{ cls := 2, slots := #[.int 0, .int 0, .int 0, .long 0, .int 0, .int 0, .int 0, .int 0, .int 0, .int 0, .int 0, .int 0, .int 1], vm := .statics 2 }]
def classes : Array Class := #[k0, k1, k2, k3, k4, k5, k6, k7, k8, k9, k10, k11, k12, k13, k14, k15, k16, k17, k18]
def interned : List (Array UInt16 × Addr) := []
def slotsUsed : Nat := 13
def theMethod : MethodId := ⟨1, 1⟩
def args0 : Array Value := #[.int 5, .int 5, .int 5, .int 5, .int 5, .int 5]
def aboutOver (below : List Frame) : State where
  vm := { classes := classes, interned := interned.toArray }
  heap := heap
  slotsUsed := slotsUsed
  threads := #[{ frames := .invoking theMethod args0 :: below }]
def below0 : List Frame := [.native { method := ⟨0, 0⟩, args := #[] }]
def about1 : State := aboutOver below0
def p0 : Program := .bare "" "" ""
def e0 : Env := launch0.env 0 0 0
theorem w_frames : about1.frames = Frame.invoking theMethod args0 :: below0 := rfl
set_option maxRecDepth 65536 in
theorem w_args : argsFit about1.vm theMethod args0 = true := by decide +kernel
set_option maxRecDepth 65536 in
theorem w_heap : heapFits about1 = true := by decide +kernel
set_option maxRecDepth 65536 in
theorem w_runnable : about1.curStatus? = some .runnable := by decide +kernel
set_option maxRecDepth 65536 in
theorem w_alone : about1.alone = true := by decide +kernel
set_option maxRecDepth 65536 in
theorem w_named : about1.methodNamed? x = some theMethod := by decide +kernel
set_option maxRecDepth 65536 in
theorem w_hears : about1.hears theMethod below0 = true := by decide +kernel
set_option maxRecDepth 65536 in
theorem w_ripe : about1.ripe theMethod args0 below0 = true := by decide +kernel
theorem w_running : about1.status = .running := rfl
set_option maxRecDepth 65536 in
theorem w_room : about1.hasRoom e0.platform room_1 = true :=
  launch0.hasRoom_least _ room_1 (by decide +kernel) (by decide +kernel) (by decide +kernel) (by decide +kernel) (by decide +kernel) (by decide +kernel)
theorem allAtoms_all (ts : List Jvm.Cond) (a : Array Jvm.Value) (st : Jvm.State) : (allAtoms ts).before a st = ts.all (fun c => c.before a st) := by
  induction ts with
  | nil => rfl
  | cons c t ih =>
    show (Jvm.Cond.and c (allAtoms t)).before a st = _
    rw [Jvm.Cond.before_and, ih, List.all_cons]
def words1 : List Jvm.Cond := Jvm.Cond.code x code maxLocals ret :: tables_1
/-- a 'code' word, met by the world's own term for the bytes: nothing is compared byte by byte -/
theorem code_word {y : MethodName} {bytes : ByteArray} {mx : Nat} {rt : Option FieldType} {a : Array Value} {s : State} {m : MethodId} {meth : Method} {c : Code} (h1 : s.methodNamed? y = some m) (h2 : s.vm.method? m = some meth) (h3 : meth.code = some c) (h4 : c.code = bytes)
    (h5 : (c.maxLocals == mx && c.exceptionTable.isEmpty && decide (c.maxStack ≤ mostOperands) && decide (meth.sig.returnType = rt) && !meth.locks && decide (parseMethodDescriptor y.desc = some meth.sig)) = true) : (Jvm.Cond.code y bytes mx rt).before a s = true := by
  simp only [Bool.and_eq_true, beq_iff_eq, Bool.not_eq_true', decide_eq_true_eq] at h5
  obtain ⟨⟨⟨⟨⟨g1, g2⟩, g3⟩, g4⟩, g5⟩, g6⟩ := h5
  simp [Cond.before, Cond.holds, Cond.value, h1, h2, h3, h4, g1, g2, g3, g4, g5, g6]
def isCode : Jvm.Cond → Bool
  | .code _ _ _ _ => true
  | _ => false
theorem all_split {L : List Jvm.Cond} {P : Jvm.Cond → Bool} (h1 : L.all (fun c => isCode c || P c) = true) (h2 : ∀ c ∈ L.filter isCode, P c = true) : L.all P = true := by
  refine List.all_eq_true.mpr fun c hc => ?_
  have h := List.all_eq_true.mp h1 c hc
  rcases Bool.eq_false_or_eq_true (isCode c) with hi | hi
  · exact h2 c (List.mem_filter.mpr ⟨hc, hi⟩)
  · simpa [hi] using h
set_option maxRecDepth 65536 in
theorem w_c0 : (Jvm.Cond.code x code maxLocals ret).before args0 about1 = true := code_word (m := ⟨1, 1⟩) (meth := k1m1) (c := k1c1) (by decide +kernel) rfl rfl rfl (by decide +kernel)
set_option maxRecDepth 65536 in
theorem w_c1 : (Jvm.Cond.code ({ cls := "rowpack/growable/IntSpace", name := "<init>", desc := "(I)V" } : Jvm.MethodName) prog_23_method_1_code (2 : Nat) (Option.none : Option Jvm.ClassFile.FieldType)).before args0 about1 = true := code_word (m := ⟨2, 0⟩) (meth := k2m0) (c := k2c0) (by decide +kernel) rfl rfl rfl (by decide +kernel)
set_option maxRecDepth 65536 in
theorem w_c2 : (Jvm.Cond.code ({ cls := "java/lang/Object", name := "<init>", desc := "()V" } : Jvm.MethodName) object_method_1_code (1 : Nat) (Option.none : Option Jvm.ClassFile.FieldType)).before args0 about1 = true := code_word (m := ⟨0, 0⟩) (meth := k0m0) (c := k0c0) (by decide +kernel) rfl rfl rfl (by decide +kernel)
set_option maxRecDepth 65536 in
theorem w_c3 : (Jvm.Cond.code ({ cls := "rowpack/growable/IntSpace", name := "allocate", desc := "(I)I" } : Jvm.MethodName) prog_23_method_2_code (6 : Nat) (Option.some Jvm.ClassFile.FieldType.int)).before args0 about1 = true := code_word (m := ⟨2, 1⟩) (meth := k2m1) (c := k2c1) (by decide +kernel) rfl rfl rfl (by decide +kernel)
set_option maxRecDepth 65536 in
theorem w_c4 : (Jvm.Cond.code ({ cls := "rowpack/growable/IntSpace", name := "leastListFrom", desc := "(I)I" } : Jvm.MethodName) prog_23_method_23_code (5 : Nat) (Option.some Jvm.ClassFile.FieldType.int)).before args0 about1 = true := code_word (m := ⟨2, 6⟩) (meth := k2m6) (c := k2c6) (by decide +kernel) rfl rfl rfl (by decide +kernel)
set_option maxRecDepth 65536 in
theorem w_c5 : (Jvm.Cond.code ({ cls := "rowpack/growable/IntSpace", name := "nextListWord", desc := "(I)I" } : Jvm.MethodName) prog_23_method_24_code (5 : Nat) (Option.some Jvm.ClassFile.FieldType.int)).before args0 about1 = true := code_word (m := ⟨2, 7⟩) (meth := k2m7) (c := k2c7) (by decide +kernel) rfl rfl rfl (by decide +kernel)
set_option maxRecDepth 65536 in
theorem w_c6 : (Jvm.Cond.code ({ cls := "rowpack/growable/IntSpace", name := "fromTop", desc := "(I)I" } : Jvm.MethodName) prog_23_method_15_code (5 : Nat) (Option.some Jvm.ClassFile.FieldType.int)).before args0 about1 = true := code_word (m := ⟨2, 5⟩) (meth := k2m5) (c := k2c5) (by decide +kernel) rfl rfl rfl (by decide +kernel)
set_option maxRecDepth 65536 in
theorem w_c7 : (Jvm.Cond.code ({ cls := "rowpack/growable/IntSpace", name := "markFree", desc := "(IIZ)V" } : Jvm.MethodName) prog_23_method_28_code (17 : Nat) (Option.none : Option Jvm.ClassFile.FieldType)).before args0 about1 = true := code_word (m := ⟨2, 8⟩) (meth := k2m8) (c := k2c8) (by decide +kernel) rfl rfl rfl (by decide +kernel)
set_option maxRecDepth 65536 in
theorem w_c8 : (Jvm.Cond.code ({ cls := "java/lang/Integer", name := "toUnsignedLong", desc := "(I)J" } : Jvm.MethodName) jdk_33_method_42_code (1 : Nat) (Option.some Jvm.ClassFile.FieldType.long)).before args0 about1 = true := code_word (m := ⟨8, 0⟩) (meth := k8m0) (c := k8c0) (by decide +kernel) rfl rfl rfl (by decide +kernel)
set_option maxRecDepth 65536 in
theorem w_c9 : (Jvm.Cond.code ({ cls := "java/lang/Math", name := "min", desc := "(JJ)J" } : Jvm.MethodName) jdk_29_method_70_code (4 : Nat) (Option.some Jvm.ClassFile.FieldType.long)).before args0 about1 = true := code_word (m := ⟨9, 3⟩) (meth := k9m3) (c := k9c3) (by decide +kernel) rfl rfl rfl (by decide +kernel)
set_option maxRecDepth 65536 in
theorem w_c10 : (Jvm.Cond.code ({ cls := "rowpack/growable/IntSpace", name := "setInt", desc := "(II)V" } : Jvm.MethodName) prog_23_method_7_code (3 : Nat) (Option.none : Option Jvm.ClassFile.FieldType)).before args0 about1 = true := code_word (m := ⟨2, 3⟩) (meth := k2m3) (c := k2c3) (by decide +kernel) rfl rfl rfl (by decide +kernel)
set_option maxRecDepth 65536 in
theorem w_c11 : (Jvm.Cond.code ({ cls := "rowpack/growable/IntSpace", name := "copyIn", desc := "([III)V" } : Jvm.MethodName) prog_23_method_9_code (7 : Nat) (Option.none : Option Jvm.ClassFile.FieldType)).before args0 about1 = true := code_word (m := ⟨2, 4⟩) (meth := k2m4) (c := k2c4) (by decide +kernel) rfl rfl rfl (by decide +kernel)
set_option maxRecDepth 65536 in
theorem w_c12 : (Jvm.Cond.code ({ cls := "rowpack/growable/IntSpace", name := "isShortInOnePage", desc := "(II)Z" } : Jvm.MethodName) prog_23_method_31_code (2 : Nat) (Option.some Jvm.ClassFile.FieldType.boolean)).before args0 about1 = true := code_word (m := ⟨2, 9⟩) (meth := k2m9) (c := k2c9) (by decide +kernel) rfl rfl rfl (by decide +kernel)
set_option maxRecDepth 65536 in
theorem w_c13 : (Jvm.Cond.code ({ cls := "java/lang/Math", name := "max", desc := "(II)I" } : Jvm.MethodName) jdk_29_method_65_code (2 : Nat) (Option.some Jvm.ClassFile.FieldType.int)).before args0 about1 = true := code_word (m := ⟨9, 1⟩) (meth := k9m1) (c := k9c1) (by decide +kernel) rfl rfl rfl (by decide +kernel)
set_option maxRecDepth 65536 in
theorem w_c14 : (Jvm.Cond.code ({ cls := "java/lang/Math", name := "min", desc := "(II)I" } : Jvm.MethodName) jdk_29_method_69_code (2 : Nat) (Option.some Jvm.ClassFile.FieldType.int)).before args0 about1 = true := code_word (m := ⟨9, 2⟩) (meth := k9m2) (c := k9c2) (by decide +kernel) rfl rfl rfl (by decide +kernel)
set_option maxRecDepth 65536 in
theorem w_c15 : (Jvm.Cond.code ({ cls := "rowpack/growable/IntSpace", name := "getInt", desc := "(I)I" } : Jvm.MethodName) prog_23_method_5_code (2 : Nat) (Option.some Jvm.ClassFile.FieldType.int)).before args0 about1 = true := code_word (m := ⟨2, 2⟩) (meth := k2m2) (c := k2c2) (by decide +kernel) rfl rfl rfl (by decide +kernel)
def codes1 : List Jvm.Cond := [Jvm.Cond.code x code maxLocals ret, Jvm.Cond.code ({ cls := "rowpack/growable/IntSpace", name := "<init>", desc := "(I)V" } : Jvm.MethodName) prog_23_method_1_code (2 : Nat) (Option.none : Option Jvm.ClassFile.FieldType), Jvm.Cond.code ({ cls := "java/lang/Object", name := "<init>", desc := "()V" } : Jvm.MethodName) object_method_1_code (1 : Nat) (Option.none : Option Jvm.ClassFile.FieldType), Jvm.Cond.code ({ cls := "rowpack/growable/IntSpace", name := "allocate", desc := "(I)I" } : Jvm.MethodName) prog_23_method_2_code (6 : Nat) (Option.some Jvm.ClassFile.FieldType.int), Jvm.Cond.code ({ cls := "rowpack/growable/IntSpace", name := "leastListFrom", desc := "(I)I" } : Jvm.MethodName) prog_23_method_23_code (5 : Nat) (Option.some Jvm.ClassFile.FieldType.int), Jvm.Cond.code ({ cls := "rowpack/growable/IntSpace", name := "nextListWord", desc := "(I)I" } : Jvm.MethodName) prog_23_method_24_code (5 : Nat) (Option.some Jvm.ClassFile.FieldType.int), Jvm.Cond.code ({ cls := "rowpack/growable/IntSpace", name := "fromTop", desc := "(I)I" } : Jvm.MethodName) prog_23_method_15_code (5 : Nat) (Option.some Jvm.ClassFile.FieldType.int), Jvm.Cond.code ({ cls := "rowpack/growable/IntSpace", name := "markFree", desc := "(IIZ)V" } : Jvm.MethodName) prog_23_method_28_code (17 : Nat) (Option.none : Option Jvm.ClassFile.FieldType), Jvm.Cond.code ({ cls := "java/lang/Integer", name := "toUnsignedLong", desc := "(I)J" } : Jvm.MethodName) jdk_33_method_42_code (1 : Nat) (Option.some Jvm.ClassFile.FieldType.long), Jvm.Cond.code ({ cls := "java/lang/Math", name := "min", desc := "(JJ)J" } : Jvm.MethodName) jdk_29_method_70_code (4 : Nat) (Option.some Jvm.ClassFile.FieldType.long), Jvm.Cond.code ({ cls := "rowpack/growable/IntSpace", name := "setInt", desc := "(II)V" } : Jvm.MethodName) prog_23_method_7_code (3 : Nat) (Option.none : Option Jvm.ClassFile.FieldType), Jvm.Cond.code ({ cls := "rowpack/growable/IntSpace", name := "copyIn", desc := "([III)V" } : Jvm.MethodName) prog_23_method_9_code (7 : Nat) (Option.none : Option Jvm.ClassFile.FieldType), Jvm.Cond.code ({ cls := "rowpack/growable/IntSpace", name := "isShortInOnePage", desc := "(II)Z" } : Jvm.MethodName) prog_23_method_31_code (2 : Nat) (Option.some Jvm.ClassFile.FieldType.boolean), Jvm.Cond.code ({ cls := "java/lang/Math", name := "max", desc := "(II)I" } : Jvm.MethodName) jdk_29_method_65_code (2 : Nat) (Option.some Jvm.ClassFile.FieldType.int), Jvm.Cond.code ({ cls := "java/lang/Math", name := "min", desc := "(II)I" } : Jvm.MethodName) jdk_29_method_69_code (2 : Nat) (Option.some Jvm.ClassFile.FieldType.int), Jvm.Cond.code ({ cls := "rowpack/growable/IntSpace", name := "getInt", desc := "(I)I" } : Jvm.MethodName) prog_23_method_5_code (2 : Nat) (Option.some Jvm.ClassFile.FieldType.int)]
set_option maxRecDepth 65536 in
theorem codes_eq : words1.filter isCode = codes1 := rfl
theorem w_codes : ∀ c ∈ words1.filter isCode, c.before args0 about1 = true := by
  rw [codes_eq]
  intro c hc
  simp only [codes1, List.mem_cons, List.not_mem_nil, or_false] at hc
  rcases hc with rfl | rfl | rfl | rfl | rfl | rfl | rfl | rfl | rfl | rfl | rfl | rfl | rfl | rfl | rfl | rfl
  · exact w_c0
  · exact w_c1
  · exact w_c2
  · exact w_c3
  · exact w_c4
  · exact w_c5
  · exact w_c6
  · exact w_c7
  · exact w_c8
  · exact w_c9
  · exact w_c10
  · exact w_c11
  · exact w_c12
  · exact w_c13
  · exact w_c14
  · exact w_c15
set_option maxRecDepth 65536 in
theorem w_t1 : (words1.take 24).all (fun c => isCode c || c.before args0 about1) = true := by decide +kernel
set_option maxRecDepth 65536 in
theorem w_t2 : ((words1.drop 24).take 24).all (fun c => isCode c || c.before args0 about1) = true := by decide +kernel
set_option maxRecDepth 65536 in
theorem w_t3 : (((words1.drop 24).drop 24).take 24).all (fun c => isCode c || c.before args0 about1) = true := by decide +kernel
set_option maxRecDepth 65536 in
theorem w_t4 : (((words1.drop 24).drop 24).drop 24).all (fun c => isCode c || c.before args0 about1) = true := by decide +kernel
theorem w_tables : (allAtoms (Jvm.Cond.code x code maxLocals ret :: tables_1)).before args0 about1 = true := by
  rw [allAtoms_all]
  show words1.all (fun c => c.before args0 about1) = true
  refine all_split ?_ w_codes
  rw [← List.take_append_drop 24 words1, List.all_append, w_t1, ← List.take_append_drop 24 (words1.drop 24), List.all_append, w_t2, ← List.take_append_drop 24 ((words1.drop 24).drop 24), List.all_append, w_t3, w_t4]
  rfl
set_option maxRecDepth 65536 in
theorem w_case : (Jvm.Cond.and given_1 narrow_1).before args0 about1 = true := by decide +kernel
theorem w_applies : (headSpec (Jvm.Cond.code x code maxLocals ret :: tables_1) room_1).applies x e0.platform about1 = true :=
  (Spec.applies_iff w_frames).mpr ⟨w_running, w_runnable, w_alone, w_named, w_hears, w_ripe, w_room, w_tables⟩
theorem atStart : AtStart classFile x code maxLocals ret World_1 tables_1 room_1 Calls_1 rest_1 Pre_1 launch0 p0 e0 about1 theMethod args0 below0 :=
  ⟨lists_1, trivial, launch0.admits_env _ _ _, launch0.least_env, fairChoices_fair.cas, fairChoices_fair.clock, w_frames, w_args, w_heap, w_applies, trivial, trivial, w_case⟩
end start1
theorem witness_1 : WitnessClaimed_1 := ⟨start1.p0, start1.e0, start1.about1, start1.theMethod, start1.args0, start1.below0, start1.atStart⟩
end Jvm.Pilot.@@N@@
