import JvmDerived
import JvmDerived.Pilot.@@N@@Statement
import JvmDerived.Pilot.@@N@@Code
set_option linter.unusedVariables false
set_option linter.unusedSimpArgs false
namespace Jvm.Pilot.@@N@@
open Jvm Jvm.ClassFile Sem Op Lib Jvm.Free Jvm.Stand Jvm.LawKit Jvm.RoadKit Bundle Jvm.Pilot.@@N@@.Jvm.D
/-- the walk from here on: it comes to an end that meets R -/
def Go (tb : Tables) (e : Env) (below : List Frame) (R : Outcome → State → Prop) (T : State) (g : JFrame) : Prop :=
  ∃ s₂ o, Steps tb e below (T.setTop g) s₂ ∧ s₂.status = .running ∧ Ended s₂ below o ∧ R o s₂
def RT (Q : Option Value → Heap → List Loc → Prop) (s : State) (C S : Nat) : Outcome → State → Prop :=
  fun o U' => ∃ v L, o = .returned v ∧ Q v U'.heap L ∧ FrameEnd s o U' L C S
theorem Go.step {tb : Tables} {e : Env} {below : List Frame} {R : Outcome → State → Prop} {T T' : State} {g g' : JFrame} (h : ∀ t, Steps tb e below (T'.setTop g') t → Steps tb e below (T.setTop g) t) (k : Go tb e below R T' g') : Go tb e below R T g := by
  obtain ⟨s₂, o, h1, h2⟩ := k
  exact ⟨s₂, o, h _ h1, h2⟩
theorem Go.tr {tb : Tables} {e : Env} {below : List Frame} {R : Outcome → State → Prop} {T T' : State} {g g' : JFrame} (h : Steps tb e below (T.setTop g) (T'.setTop g')) (k : Go tb e below R T' g') : Go tb e below R T g :=
  Go.step (fun _ q => h.trans q) k
theorem Go.enter {tb : Tables} {e : Env} {below : List Frame} {Q : Option Value → Heap → List Loc → Prop} {s : State} {C S : Nat} {T : State} {g g' : JFrame} (q : g = g') (k : Go tb e below (RT Q s C S) T g') :
    ∃ s₂ o, Steps tb e below (T.setTop g) s₂ ∧ s₂.status = .running ∧ Ended s₂ below o ∧ ∃ v L, o = .returned v ∧ Q v s₂.heap L ∧ FrameEnd s o s₂ L C S := by
  subst q
  exact k
section Ret
variable {p : Program} {l : Launch} {e : Env} {R : Room} {s : State} {m : MethodId} {args : Array Value} {below : List Frame} {meth : Method} {c : Code} {T : State} {locs : List Loc} {cells slots : Nat} {Q : Option Value → Heap → List Loc → Prop} {C S : Nat} {pc : Nat} {Ls : Array Slot} {rest : List Value}
theorem Go.fin (X : Stand p l e R s m args below meth c T locs cells slots) {v : Option Value} {g : JFrame} (hv : meth.sig.returnType = none → v = none) (hlk : meth.locks = false)
    (hst : ∀ fs, (∀ (f : JFrame) (acts : List Action), f.method = m → f.locked = none → f.entered = [] → (doReturn e (T.setTop f) acts v).1 = T.setFrames fs) → Steps p.tables e below (T.setTop g) (T.setFrames fs))
    (hQ : Q v T.heap locs) (hc : cells ≤ C) (hs : slots ≤ S) : Go p.tables e below (RT Q s C S) T g := by
  obtain ⟨fs, hr, hrun, hended, hW, hsame⟩ := X.leave hv hlk
  exact ⟨_, _, hst fs hr, hrun, hended, _, _, rfl, hQ, ⟨_, rfl⟩, hW, hsame.mono hc hs⟩
theorem Go.retN (X : Stand p l e R s m args below meth c T locs cells slots) (hx : p.tables.exec = Jvm.exec) {z z' : Int32} {t : FieldType} (hret : meth.sig.returnType = some t) (ht : t = .boolean ∨ t = .byte ∨ t = .char ∨ t = .short) (hd : decode c.code pc = .ok (.ireturn, 1)) (hlk : meth.locks = false) (hz : nar t z = z')
    (hQ : Q (some (.int z')) T.heap locs) (hc : cells ≤ C) (hs : slots ≤ S) : Go p.tables e below (RT Q s C S) T (mkF m pc Ls (.int z :: rest)) := by
  subst hz
  exact Go.fin X (fun h => by rw [hret] at h; cases h) hlk (fun fs hr => Jvm.RoadKit.retN X hx hret ht hd hr) hQ hc hs
theorem Go.retI (X : Stand p l e R s m args below meth c T locs cells slots) (hx : p.tables.exec = Jvm.exec) {z : Int32} (hret : meth.sig.returnType = some .int) (hd : decode c.code pc = .ok (.ireturn, 1)) (hlk : meth.locks = false)
    (hQ : Q (some (.int z)) T.heap locs) (hc : cells ≤ C) (hs : slots ≤ S) : Go p.tables e below (RT Q s C S) T (mkF m pc Ls (.int z :: rest)) := by
  refine Go.fin X (fun h => by rw [hret] at h; cases h) hlk (fun fs hr => ?_) hQ hc hs
  have hm' : T.vm.method? m = some meth := X.method'
  have hn : narrow .int (.int z) = .int z := rfl
  show Steps p.tables e below (T.setTop { method := m, pc := pc, locals := Ls, stack := _ :: rest, locked := none }) _
  jvm_step X.here [X.here.top, hx, hd, hm', hret, hn]
  first | (intro acts; rw [hr _ acts rfl rfl rfl]) | rw [hr _ _ rfl rfl rfl]
  exact Steps.refl _
theorem Go.retJ (X : Stand p l e R s m args below meth c T locs cells slots) (hx : p.tables.exec = Jvm.exec) {z : Int64} (hret : meth.sig.returnType = some .long) (hd : decode c.code pc = .ok (.lreturn, 1)) (hlk : meth.locks = false)
    (hQ : Q (some (.long z)) T.heap locs) (hc : cells ≤ C) (hs : slots ≤ S) : Go p.tables e below (RT Q s C S) T (mkF m pc Ls (.long z :: rest)) := by
  refine Go.fin X (fun h => by rw [hret] at h; cases h) hlk (fun fs hr => ?_) hQ hc hs
  have hm' : T.vm.method? m = some meth := X.method'
  show Steps p.tables e below (T.setTop { method := m, pc := pc, locals := Ls, stack := _ :: rest, locked := none }) _
  jvm_step X.here [X.here.top, hx, hd, hm', hret, narrow]
  first | (intro acts; rw [hr _ acts rfl rfl rfl]) | rw [hr _ _ rfl rfl rfl]
  exact Steps.refl _
theorem Go.retA (X : Stand p l e R s m args below meth c T locs cells slots) (hx : p.tables.exec = Jvm.exec) {z : Value} {t : FieldType} (hret : meth.sig.returnType = some t) (ht : t.isReference = true) (hd : decode c.code pc = .ok (.areturn, 1)) (hz : z.isRef = true) (hlk : meth.locks = false)
    (hQ : Q (some z) T.heap locs) (hc : cells ≤ C) (hs : slots ≤ S) : Go p.tables e below (RT Q s C S) T (mkF m pc Ls (z :: rest)) := by
  refine Go.fin X (fun h => by rw [hret] at h; cases h) hlk (fun fs hr => ?_) hQ hc hs
  have hm' : T.vm.method? m = some meth := X.method'
  show Steps p.tables e below (T.setTop { method := m, pc := pc, locals := Ls, stack := _ :: rest, locked := none }) _
  jvm_step X.here [X.here.top, hx, hd, hm', hret, hz, ht]
  first | (intro acts; rw [hr _ acts rfl rfl rfl]) | rw [hr _ _ rfl rfl rfl]
  exact Steps.refl _
theorem Go.retV (X : Stand p l e R s m args below meth c T locs cells slots) (hx : p.tables.exec = Jvm.exec) (hret : meth.sig.returnType = none) (hd : decode c.code pc = .ok (.return_, 1)) (hlk : meth.locks = false)
    (hQ : Q none T.heap locs) (hc : cells ≤ C) (hs : slots ≤ S) : Go p.tables e below (RT Q s C S) T (mkF m pc Ls []) :=
  Go.fin X (fun _ => rfl) hlk (fun fs hr => X.returnOut hx hret hd hr) hQ hc hs
end Ret
theorem own_and_nonneg (a : Int32) : 0 ≤ (a &&& 2147483647).toInt := by
  have h : (a &&& 2147483647).toBitVec.msb = false := by
    rw [Int32.toBitVec_and, BitVec.msb_and]
    have : (2147483647 : Int32).toBitVec.msb = false := by decide
    rw [this, Bool.and_false]
  show 0 ≤ (a &&& 2147483647).toBitVec.toInt
  rw [BitVec.toInt_eq_msb_cond, h]
  simp
theorem own_mod (a n : Int32) (hn : 0 < n.toInt) : 0 ≤ ((a &&& 2147483647) % n).toInt ∧ ((a &&& 2147483647) % n).toInt < n.toInt := by
  rw [Int32.toInt_mod]
  have h := own_and_nonneg a
  exact ⟨Int.tmod_nonneg _ h, by have := Int.tmod_lt_of_pos (a &&& 2147483647).toInt hn; exact this⟩
theorem own_char (x : Int32) : 0 ≤ (x.toUInt32.toUInt16.toUInt32.toInt32).toInt ∧ (x.toUInt32.toUInt16.toUInt32.toInt32).toInt < 65536 := by
  generalize x.toUInt32.toUInt16 = u
  have h : u.toNat < 65536 := u.toNat_lt
  have : (u.toUInt32.toInt32).toInt = (u.toNat : Int) := by
    show (u.toUInt32.toBitVec).toInt = _
    rw [BitVec.toInt_eq_toNat_of_lt]
    · simp
    · simp; omega
  omega
theorem own_lrem (x y : Int64) : x - x / y * y = x % y := by
  apply Int64.toInt_inj.mp
  rw [Int64.toInt_sub, Int64.toInt_mul, Int64.toInt_div, Int64.toInt_mod, Int.tmod_def, Int.mul_comm y.toInt]
  have hb := Int.bmod_emod (x := x.toInt.tdiv y.toInt) (m := 2 ^ 64)
  rw [Int.sub_bmod_bmod]
  have e : (x.toInt - (x.toInt.tdiv y.toInt).bmod (2 ^ 64) * y.toInt).bmod (2 ^ 64) = (x.toInt - x.toInt.tdiv y.toInt * y.toInt).bmod (2 ^ 64) := by
    rw [← Int.sub_bmod_bmod, Int.bmod_mul_bmod, Int.sub_bmod_bmod]
  rw [e]
  have h := Int64.toInt_mod x y
  have h2 := (x % y).le_toInt
  have h3 := (x % y).toInt_lt
  rw [h, Int.tmod_def, Int.mul_comm y.toInt] at h2 h3
  apply Int.bmod_eq_of_le
  · simpa using h2
  · simpa using h3
theorem own_lremM {p : Program} {l : Launch} {e : Env} {R : Room} {s : State} {m : MethodId} {args : Array Value} {below : List Frame} {meth : Method} {c : Code} {T : State} {locs : List Loc} {cells slots : Nat} {g : JFrame} {target : State} (X : Stand p l e R s m args below meth c T locs cells slots) (hx : p.tables.exec = Jvm.exec) (hg : g.method = m) {x y : Int64} {rest : List Value} (hd : decode c.code g.pc = .ok (.lrem, 1)) (hs : g.stack = .long y :: .long x :: rest) (hy : y ≠ 0)
    (hr : Steps p.tables e below (T.setTop { g with pc := g.pc + 1, stack := .long (x % y) :: rest }) target) : Steps p.tables e below (T.setTop g) target := by
  have q := own_lrem x y
  exact XS.lrem X.here hx hg hd hs hy (by rw [q]; exact hr)
theorem own_selp {s : State} {args : Array Value} {C : String} {y z : MethodName} (hsel : (Cond.selects C z z).before args s = true) (hz : z.cls = y.cls) (hinst : (Cond.instanceMethod y).before args s = true) (hpriv : s.PrivateAt y) (hy : y.cls ≠ "java/lang/invoke/MethodHandle" ∧ y.cls ≠ "java/lang/invoke/VarHandle") : (Cond.selects y.cls y y).before args s = true := by
  obtain ⟨c, r, m, -, -, h3, -, k, h5, h6⟩ := Cond.selects_spec hsel
  exact selects_self_of_private (hz ▸ findClass_of_methodNamed h3) h5 h6 hpriv hinst hy
theorem own_eqi {t : Term} {k : Int32} {args : Array Value} {first : State} {o : Option Outcome} {s : State} {idx : List Nat} (h : (Cond.eq t (.int k)).value args first o s idx = some true) : t.eval args first o idx s = some (.int k) := by
  cases ht : t.eval args first o idx s with
  | none => simp [Cond.value, ht] at h
  | some x => cases x <;> simp [Cond.value, Term.eval, ht] at h ⊢; exact h
theorem own_eqr {t u : Term} {b : Addr} {args : Array Value} {first : State} {o : Option Outcome} {s : State} {idx : List Nat} (h : (Cond.eq t u).value args first o s idx = some true) (hu : u.eval args first o idx s = some (.ref b)) : t.eval args first o idx s = some (.ref b) := by
  cases ht : t.eval args first o idx s with
  | none => simp [Cond.value, ht] at h
  | some x => cases x <;> simp [Cond.value, ht, hu] at h ⊢; exact h
/-- what the case says of the statics -/
def Wd (Z : State) (w : Nat → Addr) : Prop := Sta Z Z.heap "com/example/deferral_ledger/deferralledger/model/EntryKind" "DEFERRAL" "Lcom/example/deferral_ledger/deferralledger/model/EntryKind;" (.ref (w 0)) ∧ Exa Z Z.heap (w 0) "com/example/deferral_ledger/deferralledger/model/EntryKind" ∧ Sta Z Z.heap "com/example/deferral_ledger/deferralledger/model/EntryKind" "DEFERRAL_REVERSED" "Lcom/example/deferral_ledger/deferralledger/model/EntryKind;" (.ref (w 1)) ∧ Exa Z Z.heap (w 1) "com/example/deferral_ledger/deferralledger/model/EntryKind" ∧ Sta Z Z.heap "com/example/deferral_ledger/deferralledger/model/EntryKind" "INTEREST" "Lcom/example/deferral_ledger/deferralledger/model/EntryKind;" (.ref (w 2)) ∧ Exa Z Z.heap (w 2) "com/example/deferral_ledger/deferralledger/model/EntryKind" ∧ Sta Z Z.heap "com/example/deferral_ledger/deferralledger/model/EntryKind" "MATCHING" "Lcom/example/deferral_ledger/deferralledger/model/EntryKind;" (.ref (w 3)) ∧ Exa Z Z.heap (w 3) "com/example/deferral_ledger/deferralledger/model/EntryKind" ∧ Sta Z Z.heap "com/example/deferral_ledger/deferralledger/model/EntryKind" "CORE" "Lcom/example/deferral_ledger/deferralledger/model/EntryKind;" (.ref (w 4)) ∧ Exa Z Z.heap (w 4) "com/example/deferral_ledger/deferralledger/model/EntryKind" ∧ Sta Z Z.heap "com/example/deferral_ledger/deferralledger/model/EntryKind" "MATCHING_REVERSED" "Lcom/example/deferral_ledger/deferralledger/model/EntryKind;" (.ref (w 5)) ∧ Exa Z Z.heap (w 5) "com/example/deferral_ledger/deferralledger/model/EntryKind" ∧ Sta Z Z.heap "com/example/deferral_ledger/deferralledger/model/EntryKind" "LATE_INTEREST" "Lcom/example/deferral_ledger/deferralledger/model/EntryKind;" (.ref (w 6)) ∧ Exa Z Z.heap (w 6) "com/example/deferral_ledger/deferralledger/model/EntryKind" ∧ Sta Z Z.heap "com/example/deferral_ledger/deferralledger/model/EntryKind" "PAYMENT" "Lcom/example/deferral_ledger/deferralledger/model/EntryKind;" (.ref (w 7)) ∧ Exa Z Z.heap (w 7) "com/example/deferral_ledger/deferralledger/model/EntryKind" ∧ Sta Z Z.heap "com/example/deferral_ledger/deferralledger/model/EntryKind" "EARNINGS" "Lcom/example/deferral_ledger/deferralledger/model/EntryKind;" (.ref (w 8)) ∧ Exa Z Z.heap (w 8) "com/example/deferral_ledger/deferralledger/model/EntryKind" ∧ Fld Z Z.heap (w 0) "java/lang/Enum" "ordinal" "I" (.int (0 : Int32)) ∧ Fld Z Z.heap (w 1) "java/lang/Enum" "ordinal" "I" (.int (3 : Int32)) ∧ Fld Z Z.heap (w 0) "com/example/deferral_ledger/deferralledger/model/EntryKind" "reverses" "Lcom/example/deferral_ledger/deferralledger/model/EntryKind;" .null ∧ Fld Z Z.heap (w 2) "java/lang/Enum" "ordinal" "I" (.int (5 : Int32)) ∧ Fld Z Z.heap (w 3) "java/lang/Enum" "ordinal" "I" (.int (1 : Int32)) ∧ Fld Z Z.heap (w 2) "com/example/deferral_ledger/deferralledger/model/EntryKind" "reverses" "Lcom/example/deferral_ledger/deferralledger/model/EntryKind;" .null ∧ Fld Z Z.heap (w 4) "java/lang/Enum" "ordinal" "I" (.int (2 : Int32)) ∧ Fld Z Z.heap (w 5) "java/lang/Enum" "ordinal" "I" (.int (4 : Int32)) ∧ Fld Z Z.heap (w 5) "com/example/deferral_ledger/deferralledger/model/EntryKind" "reverses" "Lcom/example/deferral_ledger/deferralledger/model/EntryKind;" (.ref (w 3)) ∧ Fld Z Z.heap (w 3) "com/example/deferral_ledger/deferralledger/model/EntryKind" "reverses" "Lcom/example/deferral_ledger/deferralledger/model/EntryKind;" .null ∧ Fld Z Z.heap (w 6) "java/lang/Enum" "ordinal" "I" (.int (6 : Int32)) ∧ Fld Z Z.heap (w 6) "com/example/deferral_ledger/deferralledger/model/EntryKind" "reverses" "Lcom/example/deferral_ledger/deferralledger/model/EntryKind;" .null ∧ Fld Z Z.heap (w 7) "java/lang/Enum" "ordinal" "I" (.int (8 : Int32)) ∧ Fld Z Z.heap (w 7) "com/example/deferral_ledger/deferralledger/model/EntryKind" "reverses" "Lcom/example/deferral_ledger/deferralledger/model/EntryKind;" .null ∧ Fld Z Z.heap (w 1) "com/example/deferral_ledger/deferralledger/model/EntryKind" "reverses" "Lcom/example/deferral_ledger/deferralledger/model/EntryKind;" (.ref (w 0)) ∧ Fld Z Z.heap (w 4) "com/example/deferral_ledger/deferralledger/model/EntryKind" "reverses" "Lcom/example/deferral_ledger/deferralledger/model/EntryKind;" .null ∧ Fld Z Z.heap (w 8) "java/lang/Enum" "ordinal" "I" (.int (7 : Int32)) ∧ Fld Z Z.heap (w 8) "com/example/deferral_ledger/deferralledger/model/EntryKind" "reverses" "Lcom/example/deferral_ledger/deferralledger/model/EntryKind;" .null
theorem wd0 {Z : State} {w : Nat → Addr} (wd : Wd Z w) : Sta Z Z.heap "com/example/deferral_ledger/deferralledger/model/EntryKind" "DEFERRAL" "Lcom/example/deferral_ledger/deferralledger/model/EntryKind;" (.ref (w 0)) := wd.1
theorem wd1 {Z : State} {w : Nat → Addr} (wd : Wd Z w) : Exa Z Z.heap (w 0) "com/example/deferral_ledger/deferralledger/model/EntryKind" := wd.2.1
theorem wd2 {Z : State} {w : Nat → Addr} (wd : Wd Z w) : Sta Z Z.heap "com/example/deferral_ledger/deferralledger/model/EntryKind" "DEFERRAL_REVERSED" "Lcom/example/deferral_ledger/deferralledger/model/EntryKind;" (.ref (w 1)) := wd.2.2.1
theorem wd3 {Z : State} {w : Nat → Addr} (wd : Wd Z w) : Exa Z Z.heap (w 1) "com/example/deferral_ledger/deferralledger/model/EntryKind" := wd.2.2.2.1
theorem wd4 {Z : State} {w : Nat → Addr} (wd : Wd Z w) : Sta Z Z.heap "com/example/deferral_ledger/deferralledger/model/EntryKind" "INTEREST" "Lcom/example/deferral_ledger/deferralledger/model/EntryKind;" (.ref (w 2)) := wd.2.2.2.2.1
theorem wd5 {Z : State} {w : Nat → Addr} (wd : Wd Z w) : Exa Z Z.heap (w 2) "com/example/deferral_ledger/deferralledger/model/EntryKind" := wd.2.2.2.2.2.1
theorem wd6 {Z : State} {w : Nat → Addr} (wd : Wd Z w) : Sta Z Z.heap "com/example/deferral_ledger/deferralledger/model/EntryKind" "MATCHING" "Lcom/example/deferral_ledger/deferralledger/model/EntryKind;" (.ref (w 3)) := wd.2.2.2.2.2.2.1
theorem wd7 {Z : State} {w : Nat → Addr} (wd : Wd Z w) : Exa Z Z.heap (w 3) "com/example/deferral_ledger/deferralledger/model/EntryKind" := wd.2.2.2.2.2.2.2.1
theorem wd8 {Z : State} {w : Nat → Addr} (wd : Wd Z w) : Sta Z Z.heap "com/example/deferral_ledger/deferralledger/model/EntryKind" "CORE" "Lcom/example/deferral_ledger/deferralledger/model/EntryKind;" (.ref (w 4)) := wd.2.2.2.2.2.2.2.2.1
theorem wd9 {Z : State} {w : Nat → Addr} (wd : Wd Z w) : Exa Z Z.heap (w 4) "com/example/deferral_ledger/deferralledger/model/EntryKind" := wd.2.2.2.2.2.2.2.2.2.1
theorem wd10 {Z : State} {w : Nat → Addr} (wd : Wd Z w) : Sta Z Z.heap "com/example/deferral_ledger/deferralledger/model/EntryKind" "MATCHING_REVERSED" "Lcom/example/deferral_ledger/deferralledger/model/EntryKind;" (.ref (w 5)) := wd.2.2.2.2.2.2.2.2.2.2.1
theorem wd11 {Z : State} {w : Nat → Addr} (wd : Wd Z w) : Exa Z Z.heap (w 5) "com/example/deferral_ledger/deferralledger/model/EntryKind" := wd.2.2.2.2.2.2.2.2.2.2.2.1
theorem wd12 {Z : State} {w : Nat → Addr} (wd : Wd Z w) : Sta Z Z.heap "com/example/deferral_ledger/deferralledger/model/EntryKind" "LATE_INTEREST" "Lcom/example/deferral_ledger/deferralledger/model/EntryKind;" (.ref (w 6)) := wd.2.2.2.2.2.2.2.2.2.2.2.2.1
theorem wd13 {Z : State} {w : Nat → Addr} (wd : Wd Z w) : Exa Z Z.heap (w 6) "com/example/deferral_ledger/deferralledger/model/EntryKind" := wd.2.2.2.2.2.2.2.2.2.2.2.2.2.1
theorem wd14 {Z : State} {w : Nat → Addr} (wd : Wd Z w) : Sta Z Z.heap "com/example/deferral_ledger/deferralledger/model/EntryKind" "PAYMENT" "Lcom/example/deferral_ledger/deferralledger/model/EntryKind;" (.ref (w 7)) := wd.2.2.2.2.2.2.2.2.2.2.2.2.2.2.1
theorem wd15 {Z : State} {w : Nat → Addr} (wd : Wd Z w) : Exa Z Z.heap (w 7) "com/example/deferral_ledger/deferralledger/model/EntryKind" := wd.2.2.2.2.2.2.2.2.2.2.2.2.2.2.2.1
theorem wd16 {Z : State} {w : Nat → Addr} (wd : Wd Z w) : Sta Z Z.heap "com/example/deferral_ledger/deferralledger/model/EntryKind" "EARNINGS" "Lcom/example/deferral_ledger/deferralledger/model/EntryKind;" (.ref (w 8)) := wd.2.2.2.2.2.2.2.2.2.2.2.2.2.2.2.2.1
theorem wd17 {Z : State} {w : Nat → Addr} (wd : Wd Z w) : Exa Z Z.heap (w 8) "com/example/deferral_ledger/deferralledger/model/EntryKind" := wd.2.2.2.2.2.2.2.2.2.2.2.2.2.2.2.2.2.1
theorem wd18 {Z : State} {w : Nat → Addr} (wd : Wd Z w) : Fld Z Z.heap (w 0) "java/lang/Enum" "ordinal" "I" (.int (0 : Int32)) := wd.2.2.2.2.2.2.2.2.2.2.2.2.2.2.2.2.2.2.1
theorem wd19 {Z : State} {w : Nat → Addr} (wd : Wd Z w) : Fld Z Z.heap (w 1) "java/lang/Enum" "ordinal" "I" (.int (3 : Int32)) := wd.2.2.2.2.2.2.2.2.2.2.2.2.2.2.2.2.2.2.2.1
theorem wd20 {Z : State} {w : Nat → Addr} (wd : Wd Z w) : Fld Z Z.heap (w 0) "com/example/deferral_ledger/deferralledger/model/EntryKind" "reverses" "Lcom/example/deferral_ledger/deferralledger/model/EntryKind;" .null := wd.2.2.2.2.2.2.2.2.2.2.2.2.2.2.2.2.2.2.2.2.1
theorem wd21 {Z : State} {w : Nat → Addr} (wd : Wd Z w) : Fld Z Z.heap (w 2) "java/lang/Enum" "ordinal" "I" (.int (5 : Int32)) := wd.2.2.2.2.2.2.2.2.2.2.2.2.2.2.2.2.2.2.2.2.2.1
theorem wd22 {Z : State} {w : Nat → Addr} (wd : Wd Z w) : Fld Z Z.heap (w 3) "java/lang/Enum" "ordinal" "I" (.int (1 : Int32)) := wd.2.2.2.2.2.2.2.2.2.2.2.2.2.2.2.2.2.2.2.2.2.2.1
theorem wd23 {Z : State} {w : Nat → Addr} (wd : Wd Z w) : Fld Z Z.heap (w 2) "com/example/deferral_ledger/deferralledger/model/EntryKind" "reverses" "Lcom/example/deferral_ledger/deferralledger/model/EntryKind;" .null := wd.2.2.2.2.2.2.2.2.2.2.2.2.2.2.2.2.2.2.2.2.2.2.2.1
theorem wd24 {Z : State} {w : Nat → Addr} (wd : Wd Z w) : Fld Z Z.heap (w 4) "java/lang/Enum" "ordinal" "I" (.int (2 : Int32)) := wd.2.2.2.2.2.2.2.2.2.2.2.2.2.2.2.2.2.2.2.2.2.2.2.2.1
theorem wd25 {Z : State} {w : Nat → Addr} (wd : Wd Z w) : Fld Z Z.heap (w 5) "java/lang/Enum" "ordinal" "I" (.int (4 : Int32)) := wd.2.2.2.2.2.2.2.2.2.2.2.2.2.2.2.2.2.2.2.2.2.2.2.2.2.1
theorem wd26 {Z : State} {w : Nat → Addr} (wd : Wd Z w) : Fld Z Z.heap (w 5) "com/example/deferral_ledger/deferralledger/model/EntryKind" "reverses" "Lcom/example/deferral_ledger/deferralledger/model/EntryKind;" (.ref (w 3)) := wd.2.2.2.2.2.2.2.2.2.2.2.2.2.2.2.2.2.2.2.2.2.2.2.2.2.2.1
theorem wd27 {Z : State} {w : Nat → Addr} (wd : Wd Z w) : Fld Z Z.heap (w 3) "com/example/deferral_ledger/deferralledger/model/EntryKind" "reverses" "Lcom/example/deferral_ledger/deferralledger/model/EntryKind;" .null := wd.2.2.2.2.2.2.2.2.2.2.2.2.2.2.2.2.2.2.2.2.2.2.2.2.2.2.2.1
theorem wd28 {Z : State} {w : Nat → Addr} (wd : Wd Z w) : Fld Z Z.heap (w 6) "java/lang/Enum" "ordinal" "I" (.int (6 : Int32)) := wd.2.2.2.2.2.2.2.2.2.2.2.2.2.2.2.2.2.2.2.2.2.2.2.2.2.2.2.2.1
theorem wd29 {Z : State} {w : Nat → Addr} (wd : Wd Z w) : Fld Z Z.heap (w 6) "com/example/deferral_ledger/deferralledger/model/EntryKind" "reverses" "Lcom/example/deferral_ledger/deferralledger/model/EntryKind;" .null := wd.2.2.2.2.2.2.2.2.2.2.2.2.2.2.2.2.2.2.2.2.2.2.2.2.2.2.2.2.2.1
theorem wd30 {Z : State} {w : Nat → Addr} (wd : Wd Z w) : Fld Z Z.heap (w 7) "java/lang/Enum" "ordinal" "I" (.int (8 : Int32)) := wd.2.2.2.2.2.2.2.2.2.2.2.2.2.2.2.2.2.2.2.2.2.2.2.2.2.2.2.2.2.2.1
theorem wd31 {Z : State} {w : Nat → Addr} (wd : Wd Z w) : Fld Z Z.heap (w 7) "com/example/deferral_ledger/deferralledger/model/EntryKind" "reverses" "Lcom/example/deferral_ledger/deferralledger/model/EntryKind;" .null := wd.2.2.2.2.2.2.2.2.2.2.2.2.2.2.2.2.2.2.2.2.2.2.2.2.2.2.2.2.2.2.2.1
theorem wd32 {Z : State} {w : Nat → Addr} (wd : Wd Z w) : Fld Z Z.heap (w 1) "com/example/deferral_ledger/deferralledger/model/EntryKind" "reverses" "Lcom/example/deferral_ledger/deferralledger/model/EntryKind;" (.ref (w 0)) := wd.2.2.2.2.2.2.2.2.2.2.2.2.2.2.2.2.2.2.2.2.2.2.2.2.2.2.2.2.2.2.2.2.1
theorem wd33 {Z : State} {w : Nat → Addr} (wd : Wd Z w) : Fld Z Z.heap (w 4) "com/example/deferral_ledger/deferralledger/model/EntryKind" "reverses" "Lcom/example/deferral_ledger/deferralledger/model/EntryKind;" .null := wd.2.2.2.2.2.2.2.2.2.2.2.2.2.2.2.2.2.2.2.2.2.2.2.2.2.2.2.2.2.2.2.2.2.1
theorem wd34 {Z : State} {w : Nat → Addr} (wd : Wd Z w) : Fld Z Z.heap (w 8) "java/lang/Enum" "ordinal" "I" (.int (7 : Int32)) := wd.2.2.2.2.2.2.2.2.2.2.2.2.2.2.2.2.2.2.2.2.2.2.2.2.2.2.2.2.2.2.2.2.2.2.1
theorem wd35 {Z : State} {w : Nat → Addr} (wd : Wd Z w) : Fld Z Z.heap (w 8) "com/example/deferral_ledger/deferralledger/model/EntryKind" "reverses" "Lcom/example/deferral_ledger/deferralledger/model/EntryKind;" .null := wd.2.2.2.2.2.2.2.2.2.2.2.2.2.2.2.2.2.2.2.2.2.2.2.2.2.2.2.2.2.2.2.2.2.2.2
theorem d1_0 : decode method_2_code 0 = .ok (.iload_n 0, 1) := by decide +kernel
theorem d1_1 : decode method_2_code 1 = .ok (.ifCond .ne 7, 3) := by decide +kernel
theorem d1_4 : decode method_2_code 4 = .ok (.getstatic 7, 3) := by decide +kernel
theorem d1_7 : decode method_2_code 7 = .ok (.areturn, 1) := by decide +kernel
theorem d1_8 : decode method_2_code 8 = .ok (.iload_n 0, 1) := by decide +kernel
theorem d1_9 : decode method_2_code 9 = .ok (.iconst 1, 1) := by decide +kernel
theorem d1_10 : decode method_2_code 10 = .ok (.if_icmp .ne 7, 3) := by decide +kernel
theorem d1_13 : decode method_2_code 13 = .ok (.getstatic 13, 3) := by decide +kernel
theorem d1_16 : decode method_2_code 16 = .ok (.areturn, 1) := by decide +kernel
theorem d1_17 : decode method_2_code 17 = .ok (.iload_n 0, 1) := by decide +kernel
theorem d1_18 : decode method_2_code 18 = .ok (.iconst 2, 1) := by decide +kernel
theorem d1_19 : decode method_2_code 19 = .ok (.if_icmp .ne 7, 3) := by decide +kernel
theorem d1_22 : decode method_2_code 22 = .ok (.getstatic 16, 3) := by decide +kernel
theorem d1_25 : decode method_2_code 25 = .ok (.areturn, 1) := by decide +kernel
theorem d1_26 : decode method_2_code 26 = .ok (.iload_n 0, 1) := by decide +kernel
theorem d1_27 : decode method_2_code 27 = .ok (.iconst 3, 1) := by decide +kernel
theorem d1_28 : decode method_2_code 28 = .ok (.if_icmp .ne 7, 3) := by decide +kernel
theorem d1_31 : decode method_2_code 31 = .ok (.getstatic 19, 3) := by decide +kernel
theorem d1_34 : decode method_2_code 34 = .ok (.areturn, 1) := by decide +kernel
theorem d1_35 : decode method_2_code 35 = .ok (.iload_n 0, 1) := by decide +kernel
theorem d1_36 : decode method_2_code 36 = .ok (.iconst 4, 1) := by decide +kernel
theorem d1_37 : decode method_2_code 37 = .ok (.if_icmp .ne 7, 3) := by decide +kernel
theorem d1_40 : decode method_2_code 40 = .ok (.getstatic 22, 3) := by decide +kernel
theorem d1_43 : decode method_2_code 43 = .ok (.areturn, 1) := by decide +kernel
theorem d1_44 : decode method_2_code 44 = .ok (.iload_n 0, 1) := by decide +kernel
theorem d1_45 : decode method_2_code 45 = .ok (.iconst 5, 1) := by decide +kernel
theorem d1_46 : decode method_2_code 46 = .ok (.if_icmp .ne 7, 3) := by decide +kernel
theorem d1_49 : decode method_2_code 49 = .ok (.getstatic 25, 3) := by decide +kernel
theorem d1_52 : decode method_2_code 52 = .ok (.areturn, 1) := by decide +kernel
theorem d1_53 : decode method_2_code 53 = .ok (.iload_n 0, 1) := by decide +kernel
theorem d1_54 : decode method_2_code 54 = .ok (.bipush 6, 2) := by decide +kernel
theorem d1_56 : decode method_2_code 56 = .ok (.if_icmp .ne 7, 3) := by decide +kernel
theorem d1_59 : decode method_2_code 59 = .ok (.getstatic 28, 3) := by decide +kernel
theorem d1_62 : decode method_2_code 62 = .ok (.areturn, 1) := by decide +kernel
theorem d1_63 : decode method_2_code 63 = .ok (.iload_n 0, 1) := by decide +kernel
theorem d1_64 : decode method_2_code 64 = .ok (.bipush 7, 2) := by decide +kernel
theorem d1_66 : decode method_2_code 66 = .ok (.if_icmp .ne 7, 3) := by decide +kernel
theorem d1_69 : decode method_2_code 69 = .ok (.getstatic 31, 3) := by decide +kernel
theorem d1_72 : decode method_2_code 72 = .ok (.areturn, 1) := by decide +kernel
theorem d1_73 : decode method_2_code 73 = .ok (.getstatic 34, 3) := by decide +kernel
theorem d1_76 : decode method_2_code 76 = .ok (.areturn, 1) := by decide +kernel
theorem own_pn0 : plainName "com/example/deferral_ledger/deferralledger/model/EntryKindStandsForPinLaw" = true := by first | (simp [plainName, overriddenIn]; done) | decide +kernel
theorem ef_rm1 (m : MethodId) (x0 : Int32) : entryFrame m #[(.int x0)] 1 = mkF m 0 #[.val (.int x0)] [] := by first | (simp [entryFrame, mkF, argsToLocals, Value.category]; done) | rfl
def own_f1 (p0 : Int32) (w : Nat → Addr) : Addr := (if p0 = (0 : Int32) then (w 0) else (if p0 = (1 : Int32) then (w 3) else (if p0 = (2 : Int32) then (w 4) else (if p0 = (3 : Int32) then (w 1) else (if p0 = (4 : Int32) then (w 5) else (if p0 = (5 : Int32) then (w 2) else (if p0 = (6 : Int32) then (w 6) else (if p0 = (7 : Int32) then (w 8) else (w 7)))))))))
def Q_rm1 (Z : State) (p0 : Int32) (w : Nat → Addr) (h0 : Heap) (n0 : Nat) (v : Option Value) (h : Heap) (L : List Loc) : Prop := v = some (Value.ref (own_f1 p0 w)) ∧ Fr n0 L ∧ h = h0
set_option maxRecDepth 65536 in
set_option maxHeartbeats 40000000 in
theorem rm1 (l : Launch) (Z : State) (a0 : Array Value) (hw : ∀ d ∈ tables_1, d.before a0 Z = true) (ws : List Jvm.Cond) (p0 : Int32) (w : Nat → Addr) (h0 : Heap) (n0 : Nat) (Z0 : n0 ≤ h0.size) (O0 : Old Z n0 h0) (wd : Wd Z w) :
    MetFree l (⟨"com/example/deferral_ledger/deferralledger/model/EntryKindStandsForPinLaw", "kind", "(I)Lcom/example/deferral_ledger/deferralledger/model/EntryKind;"⟩ : MethodName) (head1 (Jvm.Cond.code (⟨"com/example/deferral_ledger/deferralledger/model/EntryKindStandsForPinLaw", "kind", "(I)Lcom/example/deferral_ledger/deferralledger/model/EntryKind;"⟩ : MethodName) method_2_code 1 (some (.object "com/example/deferral_ledger/deferralledger/model/EntryKind")) :: ws) ({ frames := 0, cells := 0, slots := 0, locals := 0 } : Room)) (fun az Uz => az = #[(.int p0)] ∧ Z.Warmed39 Uz.vm ∧ Uz.heap = h0) (fun _ _ _ _ _ => True) (fun _ Uz oz Vz => ∃ vz Lz, oz = .returned vz ∧ Q_rm1 Z p0 w h0 n0 vz Vz.heap Lz ∧ FrameEnd Uz oz Vz Lz ({ frames := 0, cells := 0, slots := 0, locals := 0 } : Room).cells ({ frames := 0, cells := 0, slots := 0, locals := 0 } : Room).slots) := by
  refine MetFree.of_bodySF (plainFor_of_name own_pn0) hisR ?_
  intro p e s m args below meth c s₁ Bd hml0 hP hK
  obtain ⟨rfl, hZ, hh⟩ := hP
  have hx := Bd.exec
  have hby := Bd.bytes
  have hml : c.maxLocals = 1 := hml0
  have hown : s.vm.findClass "com/example/deferral_ledger/deferralledger/model/EntryKindStandsForPinLaw" = some m.cls := findClass_of_methodNamed Bd.named
  have hnm := (name_of_methodNamed Bd.named Bd.method).1
  have X0 : Stand p l e ({ frames := 0, cells := 0, slots := 0, locals := 0 } : Room) s m #[(.int p0)] below meth c s₁ [] 0 0 := Stand.of_body Bd
  have e0 : s₁.heap = h0 := by rw [← hh, Bd.state]; rfl
  have N0 := Fr.nil n0
  have K0 : Keep h0 h0 [] := Keep.refl _ _
  refine Go.enter (Q := Q_rm1 Z p0 w h0 n0) (C := ({ frames := 0, cells := 0, slots := 0, locals := 0 } : Room).cells) (S := ({ frames := 0, cells := 0, slots := 0, locals := 0 } : Room).slots) (ef_rm1 m p0) ?_
  refine Go.step (fun _ zz => XS.iloadN X0.here hx rfl (hb hby d1_0) rfl zz) ?_
  show Go _ _ _ _ s₁ (mkF m 1 #[.val (.int p0)] [(.int p0)])
  by_cases hc1 : p0 = (0 : Int32)
  · refine Go.step (fun _ zz => XS.ifNo X0.here hx rfl (hb hby d1_1) rfl ((if0 _ _).trans (teq hc1).2) zz) ?_
    show Go _ _ _ _ s₁ (mkF m 4 #[.val (.int p0)] [])
    obtain ⟨T1, X1, e1, st1⟩ := getS2 X0 hx hZ hown (host := "") (Or.inl (hw _ (List.mem_of_getElem? (i := 5) rfl))) Via.refl e0 ((wd0 wd).ext O0.2) (g := (mkF m 4 #[.val (.int p0)] [])) rfl (hb hby d1_4)
    refine Go.step st1 ?_
    show Go _ _ _ _ T1 (mkF m 7 #[.val (.int p0)] [(.ref (w 0))])
    exact Go.retA X1 hx Bd.returns rfl (hb hby d1_7) rfl Bd.notSynchronized (⟨congrArg (fun q => some (Value.ref q)) (show own_f1 p0 w = (w 0) from by unfold own_f1; rw [if_pos hc1]).symm, N0, e1⟩) (by decide) (by decide)
  · refine Go.step (fun _ zz => XS.ifYes X0.here hx rfl (pc0 := 1) (pc' := 8) rfl (hb hby d1_1) rfl ((if0 _ _).trans (feq hc1).2) (by decide) (by decide) zz) ?_
    show Go _ _ _ _ s₁ (mkF m 8 #[.val (.int p0)] [])
    refine Go.step (fun _ zz => XS.iloadN X0.here hx rfl (hb hby d1_8) rfl zz) ?_
    show Go _ _ _ _ s₁ (mkF m 9 #[.val (.int p0)] [(.int p0)])
    refine Go.step (fun _ zz => XS.iconst X0.here hx rfl (hb hby d1_9) zz) ?_
    show Go _ _ _ _ s₁ (mkF m 10 #[.val (.int p0)] [(.int (1 : Int32)), (.int p0)])
    by_cases hc10 : p0 = (1 : Int32)
    · refine Go.step (fun _ zz => XS.icmpNo X0.here hx rfl (hb hby d1_10) rfl (teq hc10).2 zz) ?_
      show Go _ _ _ _ s₁ (mkF m 13 #[.val (.int p0)] [])
      obtain ⟨T2, X2, e2, st2⟩ := getS2 X0 hx hZ hown (host := "") (Or.inl (hw _ (List.mem_of_getElem? (i := 19) rfl))) Via.refl e0 ((wd6 wd).ext O0.2) (g := (mkF m 13 #[.val (.int p0)] [])) rfl (hb hby d1_13)
      refine Go.step st2 ?_
      show Go _ _ _ _ T2 (mkF m 16 #[.val (.int p0)] [(.ref (w 3))])
      exact Go.retA X2 hx Bd.returns rfl (hb hby d1_16) rfl Bd.notSynchronized (⟨congrArg (fun q => some (Value.ref q)) (show own_f1 p0 w = (w 3) from by unfold own_f1; rw [if_neg hc1, if_pos hc10]).symm, N0, e2⟩) (by decide) (by decide)
    · refine Go.step (fun _ zz => XS.icmpYes X0.here hx rfl (pc0 := 10) (pc' := 17) rfl (hb hby d1_10) rfl (feq hc10).2 (by decide) (by decide) zz) ?_
      show Go _ _ _ _ s₁ (mkF m 17 #[.val (.int p0)] [])
      refine Go.step (fun _ zz => XS.iloadN X0.here hx rfl (hb hby d1_17) rfl zz) ?_
      show Go _ _ _ _ s₁ (mkF m 18 #[.val (.int p0)] [(.int p0)])
      refine Go.step (fun _ zz => XS.iconst X0.here hx rfl (hb hby d1_18) zz) ?_
      show Go _ _ _ _ s₁ (mkF m 19 #[.val (.int p0)] [(.int (2 : Int32)), (.int p0)])
      by_cases hc19 : p0 = (2 : Int32)
      · refine Go.step (fun _ zz => XS.icmpNo X0.here hx rfl (hb hby d1_19) rfl (teq hc19).2 zz) ?_
        show Go _ _ _ _ s₁ (mkF m 22 #[.val (.int p0)] [])
        obtain ⟨T3, X3, e3, st3⟩ := getS2 X0 hx hZ hown (host := "") (Or.inl (hw _ (List.mem_of_getElem? (i := 21) rfl))) Via.refl e0 ((wd8 wd).ext O0.2) (g := (mkF m 22 #[.val (.int p0)] [])) rfl (hb hby d1_22)
        refine Go.step st3 ?_
        show Go _ _ _ _ T3 (mkF m 25 #[.val (.int p0)] [(.ref (w 4))])
        exact Go.retA X3 hx Bd.returns rfl (hb hby d1_25) rfl Bd.notSynchronized (⟨congrArg (fun q => some (Value.ref q)) (show own_f1 p0 w = (w 4) from by unfold own_f1; rw [if_neg hc1, if_neg hc10, if_pos hc19]).symm, N0, e3⟩) (by decide) (by decide)
      · refine Go.step (fun _ zz => XS.icmpYes X0.here hx rfl (pc0 := 19) (pc' := 26) rfl (hb hby d1_19) rfl (feq hc19).2 (by decide) (by decide) zz) ?_
        show Go _ _ _ _ s₁ (mkF m 26 #[.val (.int p0)] [])
        refine Go.step (fun _ zz => XS.iloadN X0.here hx rfl (hb hby d1_26) rfl zz) ?_
        show Go _ _ _ _ s₁ (mkF m 27 #[.val (.int p0)] [(.int p0)])
        refine Go.step (fun _ zz => XS.iconst X0.here hx rfl (hb hby d1_27) zz) ?_
        show Go _ _ _ _ s₁ (mkF m 28 #[.val (.int p0)] [(.int (3 : Int32)), (.int p0)])
        by_cases hc28 : p0 = (3 : Int32)
        · refine Go.step (fun _ zz => XS.icmpNo X0.here hx rfl (hb hby d1_28) rfl (teq hc28).2 zz) ?_
          show Go _ _ _ _ s₁ (mkF m 31 #[.val (.int p0)] [])
          obtain ⟨T4, X4, e4, st4⟩ := getS2 X0 hx hZ hown (host := "") (Or.inl (hw _ (List.mem_of_getElem? (i := 8) rfl))) Via.refl e0 ((wd2 wd).ext O0.2) (g := (mkF m 31 #[.val (.int p0)] [])) rfl (hb hby d1_31)
          refine Go.step st4 ?_
          show Go _ _ _ _ T4 (mkF m 34 #[.val (.int p0)] [(.ref (w 1))])
          exact Go.retA X4 hx Bd.returns rfl (hb hby d1_34) rfl Bd.notSynchronized (⟨congrArg (fun q => some (Value.ref q)) (show own_f1 p0 w = (w 1) from by unfold own_f1; rw [if_neg hc1, if_neg hc10, if_neg hc19, if_pos hc28]).symm, N0, e4⟩) (by decide) (by decide)
        · refine Go.step (fun _ zz => XS.icmpYes X0.here hx rfl (pc0 := 28) (pc' := 35) rfl (hb hby d1_28) rfl (feq hc28).2 (by decide) (by decide) zz) ?_
          show Go _ _ _ _ s₁ (mkF m 35 #[.val (.int p0)] [])
          refine Go.step (fun _ zz => XS.iloadN X0.here hx rfl (hb hby d1_35) rfl zz) ?_
          show Go _ _ _ _ s₁ (mkF m 36 #[.val (.int p0)] [(.int p0)])
          refine Go.step (fun _ zz => XS.iconst X0.here hx rfl (hb hby d1_36) zz) ?_
          show Go _ _ _ _ s₁ (mkF m 37 #[.val (.int p0)] [(.int (4 : Int32)), (.int p0)])
          by_cases hc37 : p0 = (4 : Int32)
          · refine Go.step (fun _ zz => XS.icmpNo X0.here hx rfl (hb hby d1_37) rfl (teq hc37).2 zz) ?_
            show Go _ _ _ _ s₁ (mkF m 40 #[.val (.int p0)] [])
            obtain ⟨T5, X5, e5, st5⟩ := getS2 X0 hx hZ hown (host := "") (Or.inl (hw _ (List.mem_of_getElem? (i := 23) rfl))) Via.refl e0 ((wd10 wd).ext O0.2) (g := (mkF m 40 #[.val (.int p0)] [])) rfl (hb hby d1_40)
            refine Go.step st5 ?_
            show Go _ _ _ _ T5 (mkF m 43 #[.val (.int p0)] [(.ref (w 5))])
            exact Go.retA X5 hx Bd.returns rfl (hb hby d1_43) rfl Bd.notSynchronized (⟨congrArg (fun q => some (Value.ref q)) (show own_f1 p0 w = (w 5) from by unfold own_f1; rw [if_neg hc1, if_neg hc10, if_neg hc19, if_neg hc28, if_pos hc37]).symm, N0, e5⟩) (by decide) (by decide)
          · refine Go.step (fun _ zz => XS.icmpYes X0.here hx rfl (pc0 := 37) (pc' := 44) rfl (hb hby d1_37) rfl (feq hc37).2 (by decide) (by decide) zz) ?_
            show Go _ _ _ _ s₁ (mkF m 44 #[.val (.int p0)] [])
            refine Go.step (fun _ zz => XS.iloadN X0.here hx rfl (hb hby d1_44) rfl zz) ?_
            show Go _ _ _ _ s₁ (mkF m 45 #[.val (.int p0)] [(.int p0)])
            refine Go.step (fun _ zz => XS.iconst X0.here hx rfl (hb hby d1_45) zz) ?_
            show Go _ _ _ _ s₁ (mkF m 46 #[.val (.int p0)] [(.int (5 : Int32)), (.int p0)])
            by_cases hc46 : p0 = (5 : Int32)
            · refine Go.step (fun _ zz => XS.icmpNo X0.here hx rfl (hb hby d1_46) rfl (teq hc46).2 zz) ?_
              show Go _ _ _ _ s₁ (mkF m 49 #[.val (.int p0)] [])
              obtain ⟨T6, X6, e6, st6⟩ := getS2 X0 hx hZ hown (host := "") (Or.inl (hw _ (List.mem_of_getElem? (i := 17) rfl))) Via.refl e0 ((wd4 wd).ext O0.2) (g := (mkF m 49 #[.val (.int p0)] [])) rfl (hb hby d1_49)
              refine Go.step st6 ?_
              show Go _ _ _ _ T6 (mkF m 52 #[.val (.int p0)] [(.ref (w 2))])
              exact Go.retA X6 hx Bd.returns rfl (hb hby d1_52) rfl Bd.notSynchronized (⟨congrArg (fun q => some (Value.ref q)) (show own_f1 p0 w = (w 2) from by unfold own_f1; rw [if_neg hc1, if_neg hc10, if_neg hc19, if_neg hc28, if_neg hc37, if_pos hc46]).symm, N0, e6⟩) (by decide) (by decide)
            · refine Go.step (fun _ zz => XS.icmpYes X0.here hx rfl (pc0 := 46) (pc' := 53) rfl (hb hby d1_46) rfl (feq hc46).2 (by decide) (by decide) zz) ?_
              show Go _ _ _ _ s₁ (mkF m 53 #[.val (.int p0)] [])
              refine Go.step (fun _ zz => XS.iloadN X0.here hx rfl (hb hby d1_53) rfl zz) ?_
              show Go _ _ _ _ s₁ (mkF m 54 #[.val (.int p0)] [(.int p0)])
              refine Go.step (fun _ zz => XS.bipush X0.here hx rfl (hb hby d1_54) zz) ?_
              show Go _ _ _ _ s₁ (mkF m 56 #[.val (.int p0)] [(.int (6 : Int32)), (.int p0)])
              by_cases hc56 : p0 = (6 : Int32)
              · refine Go.step (fun _ zz => XS.icmpNo X0.here hx rfl (hb hby d1_56) rfl (teq hc56).2 zz) ?_
                show Go _ _ _ _ s₁ (mkF m 59 #[.val (.int p0)] [])
                obtain ⟨T7, X7, e7, st7⟩ := getS2 X0 hx hZ hown (host := "") (Or.inl (hw _ (List.mem_of_getElem? (i := 25) rfl))) Via.refl e0 ((wd12 wd).ext O0.2) (g := (mkF m 59 #[.val (.int p0)] [])) rfl (hb hby d1_59)
                refine Go.step st7 ?_
                show Go _ _ _ _ T7 (mkF m 62 #[.val (.int p0)] [(.ref (w 6))])
                exact Go.retA X7 hx Bd.returns rfl (hb hby d1_62) rfl Bd.notSynchronized (⟨congrArg (fun q => some (Value.ref q)) (show own_f1 p0 w = (w 6) from by unfold own_f1; rw [if_neg hc1, if_neg hc10, if_neg hc19, if_neg hc28, if_neg hc37, if_neg hc46, if_pos hc56]).symm, N0, e7⟩) (by decide) (by decide)
              · refine Go.step (fun _ zz => XS.icmpYes X0.here hx rfl (pc0 := 56) (pc' := 63) rfl (hb hby d1_56) rfl (feq hc56).2 (by decide) (by decide) zz) ?_
                show Go _ _ _ _ s₁ (mkF m 63 #[.val (.int p0)] [])
                refine Go.step (fun _ zz => XS.iloadN X0.here hx rfl (hb hby d1_63) rfl zz) ?_
                show Go _ _ _ _ s₁ (mkF m 64 #[.val (.int p0)] [(.int p0)])
                refine Go.step (fun _ zz => XS.bipush X0.here hx rfl (hb hby d1_64) zz) ?_
                show Go _ _ _ _ s₁ (mkF m 66 #[.val (.int p0)] [(.int (7 : Int32)), (.int p0)])
                by_cases hc66 : p0 = (7 : Int32)
                · refine Go.step (fun _ zz => XS.icmpNo X0.here hx rfl (hb hby d1_66) rfl (teq hc66).2 zz) ?_
                  show Go _ _ _ _ s₁ (mkF m 69 #[.val (.int p0)] [])
                  obtain ⟨T8, X8, e8, st8⟩ := getS2 X0 hx hZ hown (host := "") (Or.inl (hw _ (List.mem_of_getElem? (i := 29) rfl))) Via.refl e0 ((wd16 wd).ext O0.2) (g := (mkF m 69 #[.val (.int p0)] [])) rfl (hb hby d1_69)
                  refine Go.step st8 ?_
                  show Go _ _ _ _ T8 (mkF m 72 #[.val (.int p0)] [(.ref (w 8))])
                  exact Go.retA X8 hx Bd.returns rfl (hb hby d1_72) rfl Bd.notSynchronized (⟨congrArg (fun q => some (Value.ref q)) (show own_f1 p0 w = (w 8) from by unfold own_f1; rw [if_neg hc1, if_neg hc10, if_neg hc19, if_neg hc28, if_neg hc37, if_neg hc46, if_neg hc56, if_pos hc66]).symm, N0, e8⟩) (by decide) (by decide)
                · refine Go.step (fun _ zz => XS.icmpYes X0.here hx rfl (pc0 := 66) (pc' := 73) rfl (hb hby d1_66) rfl (feq hc66).2 (by decide) (by decide) zz) ?_
                  show Go _ _ _ _ s₁ (mkF m 73 #[.val (.int p0)] [])
                  obtain ⟨T9, X9, e9, st9⟩ := getS2 X0 hx hZ hown (host := "") (Or.inl (hw _ (List.mem_of_getElem? (i := 27) rfl))) Via.refl e0 ((wd14 wd).ext O0.2) (g := (mkF m 73 #[.val (.int p0)] [])) rfl (hb hby d1_73)
                  refine Go.step st9 ?_
                  show Go _ _ _ _ T9 (mkF m 76 #[.val (.int p0)] [(.ref (w 7))])
                  exact Go.retA X9 hx Bd.returns rfl (hb hby d1_76) rfl Bd.notSynchronized (⟨congrArg (fun q => some (Value.ref q)) (show own_f1 p0 w = (w 7) from by unfold own_f1; rw [if_neg hc1, if_neg hc10, if_neg hc19, if_neg hc28, if_neg hc37, if_neg hc46, if_neg hc56, if_neg hc66]).symm, N0, e9⟩) (by decide) (by decide)
theorem d2_0 : decode prog_26_method_8_code 0 = .ok (.aload_n 0, 1) := by decide +kernel
theorem d2_1 : decode prog_26_method_8_code 1 = .ok (.aload_n 1, 1) := by decide +kernel
theorem d2_2 : decode prog_26_method_8_code 2 = .ok (.if_acmp .eq 11, 3) := by decide +kernel
theorem d2_5 : decode prog_26_method_8_code 5 = .ok (.aload_n 0, 1) := by decide +kernel
theorem d2_6 : decode prog_26_method_8_code 6 = .ok (.getfield 64, 3) := by decide +kernel
theorem d2_9 : decode prog_26_method_8_code 9 = .ok (.aload_n 1, 1) := by decide +kernel
theorem d2_10 : decode prog_26_method_8_code 10 = .ok (.if_acmp .ne 7, 3) := by decide +kernel
theorem d2_13 : decode prog_26_method_8_code 13 = .ok (.iconst 1, 1) := by decide +kernel
theorem d2_14 : decode prog_26_method_8_code 14 = .ok (.goto 4, 3) := by decide +kernel
theorem d2_17 : decode prog_26_method_8_code 17 = .ok (.iconst 0, 1) := by decide +kernel
theorem d2_18 : decode prog_26_method_8_code 18 = .ok (.ireturn, 1) := by decide +kernel
theorem own_pn1 : plainName "com/example/deferral_ledger/deferralledger/model/EntryKind" = true := by first | (simp [plainName, overriddenIn]; done) | decide +kernel
theorem ef_rm2 (m : MethodId) (x0 : Addr) (x1 : Addr) : entryFrame m #[(.ref x0), (.ref x1)] 2 = mkF m 0 #[.val (.ref x0), .val (.ref x1)] [] := by first | (simp [entryFrame, mkF, argsToLocals, Value.category]; done) | rfl
def own_f2 (r0 : Addr) (r1 : Addr) (u : Value) : Int32 := (if r0 = r1 then (1 : Int32) else (if u = Value.ref r1 then (1 : Int32) else (0 : Int32)))
def Q_rm2 (Z : State) (r0 : Addr) (r1 : Addr) (u : Value) (h0 : Heap) (n0 : Nat) (v : Option Value) (h : Heap) (L : List Loc) : Prop := v = some (Value.int (own_f2 r0 r1 u)) ∧ Fr n0 L ∧ h = h0
set_option maxRecDepth 65536 in
set_option maxHeartbeats 40000000 in
theorem rm2 (l : Launch) (Z : State) (a0 : Array Value) (hw : ∀ d ∈ tables_1, d.before a0 Z = true) (ws : List Jvm.Cond) (r0 : Addr) (r1 : Addr) (u : Value) (h0 : Heap) (n0 : Nat) (Z0 : n0 ≤ h0.size) (hu : u.isRef = true) (Fu : Fld Z h0 r0 "com/example/deferral_ledger/deferralledger/model/EntryKind" "reverses" "Lcom/example/deferral_ledger/deferralledger/model/EntryKind;" u) :
    MetFree l (⟨"com/example/deferral_ledger/deferralledger/model/EntryKind", "standsFor", "(Lcom/example/deferral_ledger/deferralledger/model/EntryKind;)Z"⟩ : MethodName) (head1 (Jvm.Cond.code (⟨"com/example/deferral_ledger/deferralledger/model/EntryKind", "standsFor", "(Lcom/example/deferral_ledger/deferralledger/model/EntryKind;)Z"⟩ : MethodName) prog_26_method_8_code 2 (some .boolean) :: ws) ({ frames := 0, cells := 0, slots := 0, locals := 0 } : Room)) (fun az Uz => az = #[(.ref r0), (.ref r1)] ∧ Z.Warmed39 Uz.vm ∧ Uz.heap = h0) (fun _ _ _ _ _ => True) (fun _ Uz oz Vz => ∃ vz Lz, oz = .returned vz ∧ Q_rm2 Z r0 r1 u h0 n0 vz Vz.heap Lz ∧ FrameEnd Uz oz Vz Lz ({ frames := 0, cells := 0, slots := 0, locals := 0 } : Room).cells ({ frames := 0, cells := 0, slots := 0, locals := 0 } : Room).slots) := by
  refine MetFree.of_bodySF (plainFor_of_name own_pn1) hisR ?_
  intro p e s m args below meth c s₁ Bd hml0 hP hK
  obtain ⟨rfl, hZ, hh⟩ := hP
  have hx := Bd.exec
  have hby := Bd.bytes
  have hml : c.maxLocals = 2 := hml0
  have hown : s.vm.findClass "com/example/deferral_ledger/deferralledger/model/EntryKind" = some m.cls := findClass_of_methodNamed Bd.named
  have hnm := (name_of_methodNamed Bd.named Bd.method).1
  have X0 : Stand p l e ({ frames := 0, cells := 0, slots := 0, locals := 0 } : Room) s m #[(.ref r0), (.ref r1)] below meth c s₁ [] 0 0 := Stand.of_body Bd
  have e0 : s₁.heap = h0 := by rw [← hh, Bd.state]; rfl
  have N0 := Fr.nil n0
  have K0 : Keep h0 h0 [] := Keep.refl _ _
  refine Go.enter (Q := Q_rm2 Z r0 r1 u h0 n0) (C := ({ frames := 0, cells := 0, slots := 0, locals := 0 } : Room).cells) (S := ({ frames := 0, cells := 0, slots := 0, locals := 0 } : Room).slots) (ef_rm2 m r0 r1) ?_
  refine Go.step (fun _ zz => XS.aloadN X0.here hx rfl (hb hby d2_0) rfl rfl zz) ?_
  show Go _ _ _ _ s₁ (mkF m 1 #[.val (.ref r0), .val (.ref r1)] [(.ref r0)])
  refine Go.step (fun _ zz => XS.aloadN X0.here hx rfl (hb hby d2_1) rfl rfl zz) ?_
  show Go _ _ _ _ s₁ (mkF m 2 #[.val (.ref r0), .val (.ref r1)] [(.ref r1), (.ref r0)])
  by_cases ha2 : r0 = r1
  · refine Go.step (fun _ zz => Jvm.RoadKit.acmp (g := (mkF m 2 #[.val (.ref r0), .val (.ref r1)] [(.ref r1), (.ref r0)])) X0 hx rfl rfl rfl (pc0 := 2) (pc' := 13) (same := true) rfl (hb hby d2_2) rfl (decide_eq_true (congrArg Value.ref ha2)) (by decide) (by decide) zz) ?_
    show Go _ _ _ _ s₁ (mkF m 13 #[.val (.ref r0), .val (.ref r1)] [])
    refine Go.step (fun _ zz => XS.iconst X0.here hx rfl (hb hby d2_13) zz) ?_
    show Go _ _ _ _ s₁ (mkF m 14 #[.val (.ref r0), .val (.ref r1)] [(.int (1 : Int32))])
    refine Go.step (fun _ zz => XS.goto X0.here hx rfl (pc0 := 14) (pc' := 18) rfl (hb hby d2_14) (by decide) (by decide) zz) ?_
    show Go _ _ _ _ s₁ (mkF m 18 #[.val (.ref r0), .val (.ref r1)] [(.int (1 : Int32))])
    exact Go.retN X0 hx (t := .boolean) Bd.returns (by simp) (hb hby d2_18) Bd.notSynchronized (z' := (1 : Int32)) (by decide) (⟨congrArg (fun q => some (Value.int q)) (show own_f2 r0 r1 u = (1 : Int32) from by unfold own_f2; rw [if_pos ha2]).symm, N0, e0⟩) (by decide) (by decide)
  · refine Go.step (fun _ zz => Jvm.RoadKit.acmp (g := (mkF m 2 #[.val (.ref r0), .val (.ref r1)] [(.ref r1), (.ref r0)])) X0 hx rfl rfl rfl (pc0 := 2) (pc' := 5) (same := false) rfl (hb hby d2_2) rfl (decide_eq_false fun q => ha2 (Value.ref.inj q)) (by decide) (by decide) zz) ?_
    show Go _ _ _ _ s₁ (mkF m 5 #[.val (.ref r0), .val (.ref r1)] [])
    refine Go.step (fun _ zz => XS.aloadN X0.here hx rfl (hb hby d2_5) rfl rfl zz) ?_
    show Go _ _ _ _ s₁ (mkF m 6 #[.val (.ref r0), .val (.ref r1)] [(.ref r0)])
    obtain ⟨T1, X1, e1, st1⟩ := getF X0 hx hZ hown (host := "") (Or.inl (hw _ (List.mem_of_getElem? (i := 15) rfl))) Via.refl e0 Fu (g := (mkF m 6 #[.val (.ref r0), .val (.ref r1)] [(.ref r0)])) rfl rfl (hb hby d2_6)
    refine Go.step st1 ?_
    show Go _ _ _ _ T1 (mkF m 9 #[.val (.ref r0), .val (.ref r1)] [u])
    refine Go.step (fun _ zz => XS.aloadN X1.here hx rfl (hb hby d2_9) rfl rfl zz) ?_
    show Go _ _ _ _ T1 (mkF m 10 #[.val (.ref r0), .val (.ref r1)] [(.ref r1), u])
    by_cases ha10 : u = Value.ref r1
    · refine Go.step (fun _ zz => Jvm.RoadKit.acmp (g := (mkF m 10 #[.val (.ref r0), .val (.ref r1)] [(.ref r1), u])) X1 hx rfl hu rfl (pc0 := 10) (pc' := 13) (same := true) rfl (hb hby d2_10) rfl (decide_eq_true ha10) (by decide) (by decide) zz) ?_
      show Go _ _ _ _ T1 (mkF m 13 #[.val (.ref r0), .val (.ref r1)] [])
      refine Go.step (fun _ zz => XS.iconst X1.here hx rfl (hb hby d2_13) zz) ?_
      show Go _ _ _ _ T1 (mkF m 14 #[.val (.ref r0), .val (.ref r1)] [(.int (1 : Int32))])
      refine Go.step (fun _ zz => XS.goto X1.here hx rfl (pc0 := 14) (pc' := 18) rfl (hb hby d2_14) (by decide) (by decide) zz) ?_
      show Go _ _ _ _ T1 (mkF m 18 #[.val (.ref r0), .val (.ref r1)] [(.int (1 : Int32))])
      exact Go.retN X1 hx (t := .boolean) Bd.returns (by simp) (hb hby d2_18) Bd.notSynchronized (z' := (1 : Int32)) (by decide) (⟨congrArg (fun q => some (Value.int q)) (show own_f2 r0 r1 u = (1 : Int32) from by unfold own_f2; rw [if_neg ha2, if_pos ha10]).symm, N0, e1⟩) (by decide) (by decide)
    · refine Go.step (fun _ zz => Jvm.RoadKit.acmp (g := (mkF m 10 #[.val (.ref r0), .val (.ref r1)] [(.ref r1), u])) X1 hx rfl hu rfl (pc0 := 10) (pc' := 17) (same := false) rfl (hb hby d2_10) rfl (decide_eq_false ha10) (by decide) (by decide) zz) ?_
      show Go _ _ _ _ T1 (mkF m 17 #[.val (.ref r0), .val (.ref r1)] [])
      refine Go.step (fun _ zz => XS.iconst X1.here hx rfl (hb hby d2_17) zz) ?_
      show Go _ _ _ _ T1 (mkF m 18 #[.val (.ref r0), .val (.ref r1)] [(.int (0 : Int32))])
      exact Go.retN X1 hx (t := .boolean) Bd.returns (by simp) (hb hby d2_18) Bd.notSynchronized (z' := (0 : Int32)) (by decide) (⟨congrArg (fun q => some (Value.int q)) (show own_f2 r0 r1 u = (0 : Int32) from by unfold own_f2; rw [if_neg ha2, if_neg ha10]).symm, N0, e1⟩) (by decide) (by decide)
def own_rev (i : Int32) (w : Nat → Addr) : Value := if i = 0 then .null else if i = 1 then .null else if i = 2 then .null else if i = 3 then (.ref (w 0)) else if i = 4 then (.ref (w 3)) else if i = 5 then .null else if i = 6 then .null else if i = 7 then .null else .null
theorem own_rev_ref (i : Int32) (w : Nat → Addr) : (own_rev i w).isRef = true := by
  unfold own_rev
  repeat' split
  all_goals rfl
theorem own_exa {Z : State} {w : Nat → Addr} (wd : Wd Z w) (i : Int32) : Exa Z Z.heap (own_f1 i w) "com/example/deferral_ledger/deferralledger/model/EntryKind" := by
  unfold own_f1
  repeat' split
  all_goals first | exact (wd1 wd) | exact (wd7 wd) | exact (wd9 wd) | exact (wd3 wd) | exact (wd11 wd) | exact (wd5 wd) | exact (wd13 wd) | exact (wd17 wd) | exact (wd15 wd) 
theorem own_fld {Z : State} {w : Nat → Addr} (wd : Wd Z w) (i : Int32) : Fld Z Z.heap (own_f1 i w) "com/example/deferral_ledger/deferralledger/model/EntryKind" "reverses" "Lcom/example/deferral_ledger/deferralledger/model/EntryKind;" (own_rev i w) := by
  unfold own_f1 own_rev
  repeat' split
  all_goals first | exact (wd20 wd) | exact (wd27 wd) | exact (wd33 wd) | exact (wd32 wd) | exact (wd26 wd) | exact (wd23 wd) | exact (wd29 wd) | exact (wd35 wd) | exact (wd31 wd) 
def own_R (i : Int32) : Prop := i = 0 ∨ i = 1 ∨ i = 2 ∨ i = 3 ∨ i = 4 ∨ i = 5 ∨ i = 6 ∨ i = 7 ∨ i = 8
theorem own_in (a : Int32) : own_R ((a &&& (2147483647 : Int32)) % (9 : Int32)) := by
  have h := own_mod a 9 (by decide)
  have e : (9 : Int32).toInt = 9 := rfl
  rw [e] at h
  unfold own_R
  generalize (a &&& (2147483647 : Int32)) % (9 : Int32) = x at h ⊢
  simp only [← Int32.toInt_inj]
  simp
  omega
theorem own_ord {Z : State} {w : Nat → Addr} (wd : Wd Z w) {i : Int32} (h : own_R i) : Fld Z Z.heap (own_f1 i w) "java/lang/Enum" "ordinal" "I" (.int i) := by
  rcases h with rfl | rfl | rfl | rfl | rfl | rfl | rfl | rfl | rfl
  · exact (wd18 wd)
  · exact (wd22 wd)
  · exact (wd24 wd)
  · exact (wd19 wd)
  · exact (wd25 wd)
  · exact (wd21 wd)
  · exact (wd28 wd)
  · exact (wd34 wd)
  · exact (wd30 wd)
theorem own_inj {Z : State} {w : Nat → Addr} (wd : Wd Z w) {i j : Int32} (hi : own_R i) (hj : own_R j) (e : own_f1 i w = own_f1 j w) : i = j := by
  by_cases q : i = j
  · exact q
  · exact absurd e (Fld.ne (own_ord wd hi) (own_ord wd hj) (fun z => q (Value.int.inj z)))
theorem own_fin {Z : State} {w : Nat → Addr} (wd : Wd Z w) {i j : Int32} (hi : own_R i) (hj : own_R j) : own_f2 (own_f1 i w) (own_f1 j w) (own_rev i w) = if i = j then 1 else if i = 3 then (if j = 0 then 1 else 0) else if i = 4 then (if j = 1 then 1 else 0) else 0 := by
  by_cases q : i = j
  · subst q
    unfold own_f2
    rw [if_pos rfl, if_pos rfl]
  · have q' : ¬ own_f1 i w = own_f1 j w := fun e => q (own_inj wd hi hj e)
    unfold own_f2
    rw [if_neg q', if_neg q]
    by_cases h3 : i = 3
    · subst h3
      rw [if_pos rfl]
      by_cases hj0 : j = 0
      · subst hj0
        rw [if_pos rfl, if_pos (by rfl)]
      · rw [if_neg hj0, show own_rev 3 w = Value.ref (own_f1 0 w) from rfl, if_neg (fun e => hj0 (own_inj wd (i := 0) (j := j) (Or.inl rfl) hj (Value.ref.inj e)).symm)]
    · rw [if_neg h3]
      by_cases h4 : i = 4
      · subst h4
        rw [if_pos rfl]
        by_cases hj1 : j = 1
        · subst hj1
          rw [if_pos rfl, if_pos (by rfl)]
        · rw [if_neg hj1, show own_rev 4 w = Value.ref (own_f1 1 w) from rfl, if_neg (fun e => hj1 (own_inj wd (i := 1) (j := j) (Or.inr (Or.inl rfl)) hj (Value.ref.inj e)).symm)]
      · rw [if_neg h4, if_neg]
        unfold own_rev
        intro e
        repeat' split at e
        all_goals first | contradiction | (cases e; done)
theorem own_pd2 : parseMethodDescriptor "(I)Lcom/example/deferral_ledger/deferralledger/model/EntryKind;" = some ⟨[.int], some (.object "com/example/deferral_ledger/deferralledger/model/EntryKind")⟩ := by decide +kernel
theorem own_pd3 : parseMethodDescriptor "(Lcom/example/deferral_ledger/deferralledger/model/EntryKind;)Z" = some ⟨[(.object "com/example/deferral_ledger/deferralledger/model/EntryKind")], some .boolean⟩ := by decide +kernel
theorem ef_rm0 (m : MethodId) (x0 : Int32) (x1 : Int32) : entryFrame m #[(.int x0), (.int x1)] maxLocals = mkF m 0 #[.val (.int x0), .val (.int x1), .unset, .unset, .unset, .unset, .unset] [] := by first | (simp [entryFrame, mkF, argsToLocals, Value.category, maxLocals]; done) | rfl
def Q_rm0 (Z : State) (p0 : Int32) (p1 : Int32) (w : Nat → Addr) (h0 : Heap) (n0 : Nat) (v : Option Value) (h : Heap) (L : List Loc) : Prop := v = some (.int (1 : Int32)) ∧ Fr n0 L
set_option maxRecDepth 65536 in
set_option maxHeartbeats 40000000 in
theorem rm0 (l : Launch) (Z : State) (a0 : Array Value) (hw : ∀ d ∈ tables_1, d.before a0 Z = true) (ws : List Jvm.Cond) (p0 : Int32) (p1 : Int32) (w : Nat → Addr) (h0 : Heap) (n0 : Nat) (Z0 : n0 ≤ h0.size) (O0 : Old Z n0 h0) (wd : Wd Z w) :
    MetFree l x (head1 (Jvm.Cond.code x code maxLocals ret :: ws) room_1) (fun az Uz => az = #[(.int p0), (.int p1)] ∧ Z.Warmed39 Uz.vm ∧ Uz.heap = h0) (fun _ _ _ _ _ => True) (fun _ Uz oz Vz => ∃ vz Lz, oz = .returned vz ∧ Q_rm0 Z p0 p1 w h0 n0 vz Vz.heap Lz ∧ FrameEnd Uz oz Vz Lz room_1.cells room_1.slots) := by
  refine MetFree.of_bodySF (plainFor_of_name own_pn0) hisR ?_
  intro p e s m args below meth c s₁ Bd hml0 hP hK
  obtain ⟨rfl, hZ, hh⟩ := hP
  have hx := Bd.exec
  have hby := Bd.bytes
  have hml : c.maxLocals = 7 := hml0
  have hown : s.vm.findClass "com/example/deferral_ledger/deferralledger/model/EntryKindStandsForPinLaw" = some m.cls := findClass_of_methodNamed Bd.named
  have hnm := (name_of_methodNamed Bd.named Bd.method).1
  have X0 : Stand p l e room_1 s m #[(.int p0), (.int p1)] below meth c s₁ [] 0 0 := Stand.of_body Bd
  have e0 : s₁.heap = h0 := by rw [← hh, Bd.state]; rfl
  have N0 := Fr.nil n0
  have K0 : Keep h0 h0 [] := Keep.refl _ _
  refine Go.enter (Q := Q_rm0 Z p0 p1 w h0 n0) (C := room_1.cells) (S := room_1.slots) (ef_rm0 m p0 p1) ?_
  refine Go.step (fun _ zz => XS.iloadN X0.here hx rfl (hb hby at_0) rfl zz) ?_
  show Go _ _ _ _ s₁ (mkF m 1 #[.val (.int p0), .val (.int p1), .unset, .unset, .unset, .unset, .unset] [(.int p0)])
  refine Go.step (fun _ zz => X0.ldcInt hx hown (mvT hZ (hw _ (List.mem_of_getElem? (i := 0) rfl))) (g := (mkF m 1 #[.val (.int p0), .val (.int p1), .unset, .unset, .unset, .unset, .unset] [(.int p0)])) rfl (hb hby at_1) _ zz) ?_
  show Go _ _ _ _ s₁ (mkF m 3 #[.val (.int p0), .val (.int p1), .unset, .unset, .unset, .unset, .unset] [(.int (2147483647 : Int32)), (.int p0)])
  refine Go.step (fun _ zz => XS.iand X0.here hx rfl (hb hby at_3) rfl zz) ?_
  show Go _ _ _ _ s₁ (mkF m 4 #[.val (.int p0), .val (.int p1), .unset, .unset, .unset, .unset, .unset] [(.int (p0 &&& (2147483647 : Int32)))])
  refine Go.step (fun _ zz => XS.bipush X0.here hx rfl (hb hby at_4) zz) ?_
  show Go _ _ _ _ s₁ (mkF m 6 #[.val (.int p0), .val (.int p1), .unset, .unset, .unset, .unset, .unset] [(.int (9 : Int32)), (.int (p0 &&& (2147483647 : Int32)))])
  refine Go.step (fun _ zz => iremM X0 hx rfl (hb hby at_6) rfl (by decide) zz) ?_
  show Go _ _ _ _ s₁ (mkF m 7 #[.val (.int p0), .val (.int p1), .unset, .unset, .unset, .unset, .unset] [(.int ((p0 &&& (2147483647 : Int32)) % (9 : Int32)))])
  refine Go.step (fun _ zz => XS.istoreN X0.here hx rfl (hb hby at_7) rfl (l' := #[.val (.int p0), .val (.int p1), .val (.int ((p0 &&& (2147483647 : Int32)) % (9 : Int32))), .unset, .unset, .unset, .unset]) rfl zz) ?_
  show Go _ _ _ _ s₁ (mkF m 8 #[.val (.int p0), .val (.int p1), .val (.int ((p0 &&& (2147483647 : Int32)) % (9 : Int32))), .unset, .unset, .unset, .unset] [])
  refine Go.step (fun _ zz => XS.iloadN X0.here hx rfl (hb hby at_8) rfl zz) ?_
  show Go _ _ _ _ s₁ (mkF m 9 #[.val (.int p0), .val (.int p1), .val (.int ((p0 &&& (2147483647 : Int32)) % (9 : Int32))), .unset, .unset, .unset, .unset] [(.int p1)])
  refine Go.step (fun _ zz => X0.ldcInt hx hown (mvT hZ (hw _ (List.mem_of_getElem? (i := 0) rfl))) (g := (mkF m 9 #[.val (.int p0), .val (.int p1), .val (.int ((p0 &&& (2147483647 : Int32)) % (9 : Int32))), .unset, .unset, .unset, .unset] [(.int p1)])) rfl (hb hby at_9) _ zz) ?_
  show Go _ _ _ _ s₁ (mkF m 11 #[.val (.int p0), .val (.int p1), .val (.int ((p0 &&& (2147483647 : Int32)) % (9 : Int32))), .unset, .unset, .unset, .unset] [(.int (2147483647 : Int32)), (.int p1)])
  refine Go.step (fun _ zz => XS.iand X0.here hx rfl (hb hby at_11) rfl zz) ?_
  show Go _ _ _ _ s₁ (mkF m 12 #[.val (.int p0), .val (.int p1), .val (.int ((p0 &&& (2147483647 : Int32)) % (9 : Int32))), .unset, .unset, .unset, .unset] [(.int (p1 &&& (2147483647 : Int32)))])
  refine Go.step (fun _ zz => XS.bipush X0.here hx rfl (hb hby at_12) zz) ?_
  show Go _ _ _ _ s₁ (mkF m 14 #[.val (.int p0), .val (.int p1), .val (.int ((p0 &&& (2147483647 : Int32)) % (9 : Int32))), .unset, .unset, .unset, .unset] [(.int (9 : Int32)), (.int (p1 &&& (2147483647 : Int32)))])
  refine Go.step (fun _ zz => iremM X0 hx rfl (hb hby at_14) rfl (by decide) zz) ?_
  show Go _ _ _ _ s₁ (mkF m 15 #[.val (.int p0), .val (.int p1), .val (.int ((p0 &&& (2147483647 : Int32)) % (9 : Int32))), .unset, .unset, .unset, .unset] [(.int ((p1 &&& (2147483647 : Int32)) % (9 : Int32)))])
  refine Go.step (fun _ zz => XS.istoreN X0.here hx rfl (hb hby at_15) rfl (l' := #[.val (.int p0), .val (.int p1), .val (.int ((p0 &&& (2147483647 : Int32)) % (9 : Int32))), .val (.int ((p1 &&& (2147483647 : Int32)) % (9 : Int32))), .unset, .unset, .unset]) rfl zz) ?_
  show Go _ _ _ _ s₁ (mkF m 16 #[.val (.int p0), .val (.int p1), .val (.int ((p0 &&& (2147483647 : Int32)) % (9 : Int32))), .val (.int ((p1 &&& (2147483647 : Int32)) % (9 : Int32))), .unset, .unset, .unset] [])
  refine Go.step (fun _ zz => XS.iloadN X0.here hx rfl (hb hby at_16) rfl zz) ?_
  show Go _ _ _ _ s₁ (mkF m 17 #[.val (.int p0), .val (.int p1), .val (.int ((p0 &&& (2147483647 : Int32)) % (9 : Int32))), .val (.int ((p1 &&& (2147483647 : Int32)) % (9 : Int32))), .unset, .unset, .unset] [(.int ((p0 &&& (2147483647 : Int32)) % (9 : Int32)))])
  refine Go.step (fun _ zz => XS.iloadN X0.here hx rfl (hb hby at_17) rfl zz) ?_
  show Go _ _ _ _ s₁ (mkF m 18 #[.val (.int p0), .val (.int p1), .val (.int ((p0 &&& (2147483647 : Int32)) % (9 : Int32))), .val (.int ((p1 &&& (2147483647 : Int32)) % (9 : Int32))), .unset, .unset, .unset] [(.int ((p1 &&& (2147483647 : Int32)) % (9 : Int32))), (.int ((p0 &&& (2147483647 : Int32)) % (9 : Int32)))])
  by_cases hc18 : ((p0 &&& (2147483647 : Int32)) % (9 : Int32)) = ((p1 &&& (2147483647 : Int32)) % (9 : Int32))
  · refine Go.step (fun _ zz => XS.icmpYes X0.here hx rfl (pc0 := 18) (pc' := 40) rfl (hb hby at_18) rfl (teq hc18).1 (by decide) (by decide) zz) ?_
    show Go _ _ _ _ s₁ (mkF m 40 #[.val (.int p0), .val (.int p1), .val (.int ((p0 &&& (2147483647 : Int32)) % (9 : Int32))), .val (.int ((p1 &&& (2147483647 : Int32)) % (9 : Int32))), .unset, .unset, .unset] [])
    refine Go.step (fun _ zz => XS.iconst X0.here hx rfl (hb hby at_40) zz) ?_
    show Go _ _ _ _ s₁ (mkF m 41 #[.val (.int p0), .val (.int p1), .val (.int ((p0 &&& (2147483647 : Int32)) % (9 : Int32))), .val (.int ((p1 &&& (2147483647 : Int32)) % (9 : Int32))), .unset, .unset, .unset] [(.int (1 : Int32))])
    refine Go.step (fun _ zz => XS.goto X0.here hx rfl (pc0 := 41) (pc' := 45) rfl (hb hby at_41) (by decide) (by decide) zz) ?_
    show Go _ _ _ _ s₁ (mkF m 45 #[.val (.int p0), .val (.int p1), .val (.int ((p0 &&& (2147483647 : Int32)) % (9 : Int32))), .val (.int ((p1 &&& (2147483647 : Int32)) % (9 : Int32))), .unset, .unset, .unset] [(.int (1 : Int32))])
    refine Go.step (fun _ zz => XS.istore X0.here hx rfl (hb hby at_45) rfl (l' := #[.val (.int p0), .val (.int p1), .val (.int ((p0 &&& (2147483647 : Int32)) % (9 : Int32))), .val (.int ((p1 &&& (2147483647 : Int32)) % (9 : Int32))), .val (.int (1 : Int32)), .unset, .unset]) rfl zz) ?_
    show Go _ _ _ _ s₁ (mkF m 47 #[.val (.int p0), .val (.int p1), .val (.int ((p0 &&& (2147483647 : Int32)) % (9 : Int32))), .val (.int ((p1 &&& (2147483647 : Int32)) % (9 : Int32))), .val (.int (1 : Int32)), .unset, .unset] [])
    refine Go.step (fun _ zz => XS.iloadN X0.here hx rfl (hb hby at_47) rfl zz) ?_
    show Go _ _ _ _ s₁ (mkF m 48 #[.val (.int p0), .val (.int p1), .val (.int ((p0 &&& (2147483647 : Int32)) % (9 : Int32))), .val (.int ((p1 &&& (2147483647 : Int32)) % (9 : Int32))), .val (.int (1 : Int32)), .unset, .unset] [(.int ((p0 &&& (2147483647 : Int32)) % (9 : Int32)))])
    obtain ⟨_, _, ⟨T1, L1, k1, n1⟩, -, X1, ⟨Lc1, hQ1, l1, y1, z1⟩, st1⟩ := Jvm.LawKit.callS X0 hx (y := (⟨"com/example/deferral_ledger/deferralledger/model/EntryKindStandsForPinLaw", "kind", "(I)Lcom/example/deferral_ledger/deferralledger/model/EntryKind;"⟩ : MethodName)) hown (mvT hZ (hw _ (List.mem_of_getElem? (i := 1) rfl))) (mvT hZ (hw _ (List.mem_of_getElem? (i := 2) rfl))) (mvT hZ (hw _ (List.mem_of_getElem? (i := 3) rfl))) (mvT hZ (hw _ (List.mem_of_getElem? (i := 4) rfl))) (by decide) (backOf (W := 0) (rm1 l Z a0 hw [] ((p0 &&& (2147483647 : Int32)) % (9 : Int32)) w h0 n0 Z0 O0 wd) hZ (hw _ (List.mem_of_getElem? (i := 4) rfl)) (hw _ (List.mem_of_getElem? (i := 3) rfl)) (by decide) (by decide)) (g := (mkF m 48 #[.val (.int p0), .val (.int p1), .val (.int ((p0 &&& (2147483647 : Int32)) % (9 : Int32))), .val (.int ((p1 &&& (2147483647 : Int32)) % (9 : Int32))), .val (.int (1 : Int32)), .unset, .unset] [(.int ((p0 &&& (2147483647 : Int32)) % (9 : Int32)))])) rfl (by rw [hml]; rfl) (argsL := [(.int ((p0 &&& (2147483647 : Int32)) % (9 : Int32)))]) (rest := []) (lenOf own_pd2 rfl) rfl (by show 2 * 0 + _ ≤ _; exact Nat.le_of_eq rfl) (hb hby at_48) (fun _ _ => ⟨rfl, e0, (by decide : 0 + 0 ≤ _), (by decide : 0 + 0 ≤ _)⟩)
    dsimp only [Pt.U, Pt.locs, Pt.cells, Pt.slots] at X1 l1 y1 z1 st1 hQ1
    subst l1 y1 z1
    obtain ⟨rfl, N1q, e1⟩ := hQ1
    have N1 := Fr.app N0 N1q
    refine Go.step st1 ?_
    show Go _ _ _ _ T1 (mkF m 51 #[.val (.int p0), .val (.int p1), .val (.int ((p0 &&& (2147483647 : Int32)) % (9 : Int32))), .val (.int ((p1 &&& (2147483647 : Int32)) % (9 : Int32))), .val (.int (1 : Int32)), .unset, .unset] [(.ref (own_f1 ((p0 &&& (2147483647 : Int32)) % (9 : Int32)) w))])
    refine Go.step (fun _ zz => XS.astore X1.here hx rfl (hb hby at_51) rfl rfl (l' := #[.val (.int p0), .val (.int p1), .val (.int ((p0 &&& (2147483647 : Int32)) % (9 : Int32))), .val (.int ((p1 &&& (2147483647 : Int32)) % (9 : Int32))), .val (.int (1 : Int32)), .val (.ref (own_f1 ((p0 &&& (2147483647 : Int32)) % (9 : Int32)) w)), .unset]) rfl zz) ?_
    show Go _ _ _ _ T1 (mkF m 53 #[.val (.int p0), .val (.int p1), .val (.int ((p0 &&& (2147483647 : Int32)) % (9 : Int32))), .val (.int ((p1 &&& (2147483647 : Int32)) % (9 : Int32))), .val (.int (1 : Int32)), .val (.ref (own_f1 ((p0 &&& (2147483647 : Int32)) % (9 : Int32)) w)), .unset] [])
    refine Go.step (fun _ zz => XS.iloadN X1.here hx rfl (hb hby at_53) rfl zz) ?_
    show Go _ _ _ _ T1 (mkF m 54 #[.val (.int p0), .val (.int p1), .val (.int ((p0 &&& (2147483647 : Int32)) % (9 : Int32))), .val (.int ((p1 &&& (2147483647 : Int32)) % (9 : Int32))), .val (.int (1 : Int32)), .val (.ref (own_f1 ((p0 &&& (2147483647 : Int32)) % (9 : Int32)) w)), .unset] [(.int ((p1 &&& (2147483647 : Int32)) % (9 : Int32)))])
    obtain ⟨_, _, ⟨T2, L2, k2, n2⟩, -, X2, ⟨Lc2, hQ2, l2, y2, z2⟩, st2⟩ := Jvm.LawKit.callS X1 hx (y := (⟨"com/example/deferral_ledger/deferralledger/model/EntryKindStandsForPinLaw", "kind", "(I)Lcom/example/deferral_ledger/deferralledger/model/EntryKind;"⟩ : MethodName)) hown (mvT hZ (hw _ (List.mem_of_getElem? (i := 1) rfl))) (mvT hZ (hw _ (List.mem_of_getElem? (i := 2) rfl))) (mvT hZ (hw _ (List.mem_of_getElem? (i := 3) rfl))) (mvT hZ (hw _ (List.mem_of_getElem? (i := 4) rfl))) (by decide) (backOf (W := 0) (rm1 l Z a0 hw [] ((p1 &&& (2147483647 : Int32)) % (9 : Int32)) w h0 n0 Z0 O0 wd) hZ (hw _ (List.mem_of_getElem? (i := 4) rfl)) (hw _ (List.mem_of_getElem? (i := 3) rfl)) (by decide) (by decide)) (g := (mkF m 54 #[.val (.int p0), .val (.int p1), .val (.int ((p0 &&& (2147483647 : Int32)) % (9 : Int32))), .val (.int ((p1 &&& (2147483647 : Int32)) % (9 : Int32))), .val (.int (1 : Int32)), .val (.ref (own_f1 ((p0 &&& (2147483647 : Int32)) % (9 : Int32)) w)), .unset] [(.int ((p1 &&& (2147483647 : Int32)) % (9 : Int32)))])) rfl (by rw [hml]; rfl) (argsL := [(.int ((p1 &&& (2147483647 : Int32)) % (9 : Int32)))]) (rest := []) (lenOf own_pd2 rfl) rfl (by show 2 * 0 + _ ≤ _; exact Nat.le_of_eq rfl) (hb hby at_54) (fun _ _ => ⟨rfl, e1, (by decide : 0 + 0 ≤ _), (by decide : 0 + 0 ≤ _)⟩)
    dsimp only [Pt.U, Pt.locs, Pt.cells, Pt.slots] at X2 l2 y2 z2 st2 hQ2
    subst l2 y2 z2
    obtain ⟨rfl, N2q, e2⟩ := hQ2
    have N2 := Fr.app N1 N2q
    refine Go.step st2 ?_
    show Go _ _ _ _ T2 (mkF m 57 #[.val (.int p0), .val (.int p1), .val (.int ((p0 &&& (2147483647 : Int32)) % (9 : Int32))), .val (.int ((p1 &&& (2147483647 : Int32)) % (9 : Int32))), .val (.int (1 : Int32)), .val (.ref (own_f1 ((p0 &&& (2147483647 : Int32)) % (9 : Int32)) w)), .unset] [(.ref (own_f1 ((p1 &&& (2147483647 : Int32)) % (9 : Int32)) w))])
    refine Go.step (fun _ zz => XS.astore X2.here hx rfl (hb hby at_57) rfl rfl (l' := #[.val (.int p0), .val (.int p1), .val (.int ((p0 &&& (2147483647 : Int32)) % (9 : Int32))), .val (.int ((p1 &&& (2147483647 : Int32)) % (9 : Int32))), .val (.int (1 : Int32)), .val (.ref (own_f1 ((p0 &&& (2147483647 : Int32)) % (9 : Int32)) w)), .val (.ref (own_f1 ((p1 &&& (2147483647 : Int32)) % (9 : Int32)) w))]) rfl zz) ?_
    show Go _ _ _ _ T2 (mkF m 59 #[.val (.int p0), .val (.int p1), .val (.int ((p0 &&& (2147483647 : Int32)) % (9 : Int32))), .val (.int ((p1 &&& (2147483647 : Int32)) % (9 : Int32))), .val (.int (1 : Int32)), .val (.ref (own_f1 ((p0 &&& (2147483647 : Int32)) % (9 : Int32)) w)), .val (.ref (own_f1 ((p1 &&& (2147483647 : Int32)) % (9 : Int32)) w))] [])
    refine Go.step (fun _ zz => XS.aload X2.here hx rfl (hb hby at_59) rfl rfl zz) ?_
    show Go _ _ _ _ T2 (mkF m 61 #[.val (.int p0), .val (.int p1), .val (.int ((p0 &&& (2147483647 : Int32)) % (9 : Int32))), .val (.int ((p1 &&& (2147483647 : Int32)) % (9 : Int32))), .val (.int (1 : Int32)), .val (.ref (own_f1 ((p0 &&& (2147483647 : Int32)) % (9 : Int32)) w)), .val (.ref (own_f1 ((p1 &&& (2147483647 : Int32)) % (9 : Int32)) w))] [(.ref (own_f1 ((p0 &&& (2147483647 : Int32)) % (9 : Int32)) w))])
    refine Go.step (fun _ zz => XS.aload X2.here hx rfl (hb hby at_61) rfl rfl zz) ?_
    show Go _ _ _ _ T2 (mkF m 63 #[.val (.int p0), .val (.int p1), .val (.int ((p0 &&& (2147483647 : Int32)) % (9 : Int32))), .val (.int ((p1 &&& (2147483647 : Int32)) % (9 : Int32))), .val (.int (1 : Int32)), .val (.ref (own_f1 ((p0 &&& (2147483647 : Int32)) % (9 : Int32)) w)), .val (.ref (own_f1 ((p1 &&& (2147483647 : Int32)) % (9 : Int32)) w))] [(.ref (own_f1 ((p1 &&& (2147483647 : Int32)) % (9 : Int32)) w)), (.ref (own_f1 ((p0 &&& (2147483647 : Int32)) % (9 : Int32)) w))])
    obtain ⟨cq3, kq3, q3a, q3b, q3c⟩ := isOf hZ e2 ((own_exa wd _).ext O0.2)
    obtain ⟨_, _, ⟨T3, L3, k3, n3⟩, -, X3, ⟨Lc3, hQ3, l3, y3, z3⟩, st3⟩ := X2.virtualBack hx (y := (⟨"com/example/deferral_ledger/deferralledger/model/EntryKind", "standsFor", "(Lcom/example/deferral_ledger/deferralledger/model/EntryKind;)Z"⟩ : MethodName)) (z := (⟨"com/example/deferral_ledger/deferralledger/model/EntryKind", "standsFor", "(Lcom/example/deferral_ledger/deferralledger/model/EntryKind;)Z"⟩ : MethodName)) hown (mvT hZ (hw _ (List.mem_of_getElem? (i := 10) rfl))) (mvT hZ (hw _ (List.mem_of_getElem? (i := 11) rfl))) (notFace_of_selects (args := #[]) (mvT hZ (hw _ (List.mem_of_getElem? (i := 13) rfl)))) (mvT hZ (hw _ (List.mem_of_getElem? (i := 13) rfl))) (mvT hZ (hw _ (List.mem_of_getElem? (i := 12) rfl))) (by decide) (backOf (W := 0) (rm2 l Z a0 hw [] (own_f1 ((p0 &&& (2147483647 : Int32)) % (9 : Int32)) w) (own_f1 ((p1 &&& (2147483647 : Int32)) % (9 : Int32)) w) (own_rev ((p0 &&& (2147483647 : Int32)) % (9 : Int32)) w) h0 n0 Z0 (own_rev_ref _ w) ((own_fld wd _).ext O0.2)) hZ (hw _ (List.mem_of_getElem? (i := 14) rfl)) (hw _ (List.mem_of_getElem? (i := 6) rfl)) (by decide) (by decide)) q3a q3c (g := (mkF m 63 #[.val (.int p0), .val (.int p1), .val (.int ((p0 &&& (2147483647 : Int32)) % (9 : Int32))), .val (.int ((p1 &&& (2147483647 : Int32)) % (9 : Int32))), .val (.int (1 : Int32)), .val (.ref (own_f1 ((p0 &&& (2147483647 : Int32)) % (9 : Int32)) w)), .val (.ref (own_f1 ((p1 &&& (2147483647 : Int32)) % (9 : Int32)) w))] [(.ref (own_f1 ((p1 &&& (2147483647 : Int32)) % (9 : Int32)) w)), (.ref (own_f1 ((p0 &&& (2147483647 : Int32)) % (9 : Int32)) w))])) rfl (by rw [hml]; rfl) (Steps.refl _) (argsL := [(.ref (own_f1 ((p1 &&& (2147483647 : Int32)) % (9 : Int32)) w))]) (rest := []) (lenOf own_pd3 rfl) rfl (by show 2 * 0 + _ ≤ _; exact Nat.le_of_eq rfl) (hb hby at_63) (fun _ _ => ⟨rfl, e2, (by decide : 0 + 0 ≤ _), (by decide : 0 + 0 ≤ _)⟩)
    dsimp only [Pt.U, Pt.locs, Pt.cells, Pt.slots] at X3 l3 y3 z3 st3 hQ3
    subst l3 y3 z3
    obtain ⟨rfl, N3q, e3⟩ := hQ3
    have N3 := Fr.app N2 N3q
    refine Go.tr st3 ?_
    show Go _ _ _ _ T3 (mkF m 66 #[.val (.int p0), .val (.int p1), .val (.int ((p0 &&& (2147483647 : Int32)) % (9 : Int32))), .val (.int ((p1 &&& (2147483647 : Int32)) % (9 : Int32))), .val (.int (1 : Int32)), .val (.ref (own_f1 ((p0 &&& (2147483647 : Int32)) % (9 : Int32)) w)), .val (.ref (own_f1 ((p1 &&& (2147483647 : Int32)) % (9 : Int32)) w))] [(.int (own_f2 (own_f1 ((p0 &&& (2147483647 : Int32)) % (9 : Int32)) w) (own_f1 ((p1 &&& (2147483647 : Int32)) % (9 : Int32)) w) (own_rev ((p0 &&& (2147483647 : Int32)) % (9 : Int32)) w)))])
    refine Go.step (fun _ zz => XS.iload X3.here hx rfl (hb hby at_66) rfl zz) ?_
    show Go _ _ _ _ T3 (mkF m 68 #[.val (.int p0), .val (.int p1), .val (.int ((p0 &&& (2147483647 : Int32)) % (9 : Int32))), .val (.int ((p1 &&& (2147483647 : Int32)) % (9 : Int32))), .val (.int (1 : Int32)), .val (.ref (own_f1 ((p0 &&& (2147483647 : Int32)) % (9 : Int32)) w)), .val (.ref (own_f1 ((p1 &&& (2147483647 : Int32)) % (9 : Int32)) w))] [(.int (1 : Int32)), (.int (own_f2 (own_f1 ((p0 &&& (2147483647 : Int32)) % (9 : Int32)) w) (own_f1 ((p1 &&& (2147483647 : Int32)) % (9 : Int32)) w) (own_rev ((p0 &&& (2147483647 : Int32)) % (9 : Int32)) w)))])
    refine Go.step (fun _ zz => XS.icmpNo X3.here hx rfl (hb hby at_68) rfl (teq ((own_fin wd (own_in p0) (own_in p1)).trans (by rw [if_pos hc18]))).2 zz) ?_
    show Go _ _ _ _ T3 (mkF m 71 #[.val (.int p0), .val (.int p1), .val (.int ((p0 &&& (2147483647 : Int32)) % (9 : Int32))), .val (.int ((p1 &&& (2147483647 : Int32)) % (9 : Int32))), .val (.int (1 : Int32)), .val (.ref (own_f1 ((p0 &&& (2147483647 : Int32)) % (9 : Int32)) w)), .val (.ref (own_f1 ((p1 &&& (2147483647 : Int32)) % (9 : Int32)) w))] [])
    refine Go.step (fun _ zz => XS.iconst X3.here hx rfl (hb hby at_71) zz) ?_
    show Go _ _ _ _ T3 (mkF m 72 #[.val (.int p0), .val (.int p1), .val (.int ((p0 &&& (2147483647 : Int32)) % (9 : Int32))), .val (.int ((p1 &&& (2147483647 : Int32)) % (9 : Int32))), .val (.int (1 : Int32)), .val (.ref (own_f1 ((p0 &&& (2147483647 : Int32)) % (9 : Int32)) w)), .val (.ref (own_f1 ((p1 &&& (2147483647 : Int32)) % (9 : Int32)) w))] [(.int (1 : Int32))])
    refine Go.step (fun _ zz => XS.goto X3.here hx rfl (pc0 := 72) (pc' := 76) rfl (hb hby at_72) (by decide) (by decide) zz) ?_
    show Go _ _ _ _ T3 (mkF m 76 #[.val (.int p0), .val (.int p1), .val (.int ((p0 &&& (2147483647 : Int32)) % (9 : Int32))), .val (.int ((p1 &&& (2147483647 : Int32)) % (9 : Int32))), .val (.int (1 : Int32)), .val (.ref (own_f1 ((p0 &&& (2147483647 : Int32)) % (9 : Int32)) w)), .val (.ref (own_f1 ((p1 &&& (2147483647 : Int32)) % (9 : Int32)) w))] [(.int (1 : Int32))])
    exact Go.retN X3 hx (t := .boolean) Bd.returns (by simp) (hb hby at_76) Bd.notSynchronized (z' := (1 : Int32)) (by decide) (⟨rfl, N3⟩) (by decide) (by decide)
  · refine Go.step (fun _ zz => XS.icmpNo X0.here hx rfl (hb hby at_18) rfl (feq hc18).1 zz) ?_
    show Go _ _ _ _ s₁ (mkF m 21 #[.val (.int p0), .val (.int p1), .val (.int ((p0 &&& (2147483647 : Int32)) % (9 : Int32))), .val (.int ((p1 &&& (2147483647 : Int32)) % (9 : Int32))), .unset, .unset, .unset] [])
    refine Go.step (fun _ zz => XS.iloadN X0.here hx rfl (hb hby at_21) rfl zz) ?_
    show Go _ _ _ _ s₁ (mkF m 22 #[.val (.int p0), .val (.int p1), .val (.int ((p0 &&& (2147483647 : Int32)) % (9 : Int32))), .val (.int ((p1 &&& (2147483647 : Int32)) % (9 : Int32))), .unset, .unset, .unset] [(.int ((p0 &&& (2147483647 : Int32)) % (9 : Int32)))])
    refine Go.step (fun _ zz => XS.iconst X0.here hx rfl (hb hby at_22) zz) ?_
    show Go _ _ _ _ s₁ (mkF m 23 #[.val (.int p0), .val (.int p1), .val (.int ((p0 &&& (2147483647 : Int32)) % (9 : Int32))), .val (.int ((p1 &&& (2147483647 : Int32)) % (9 : Int32))), .unset, .unset, .unset] [(.int (3 : Int32)), (.int ((p0 &&& (2147483647 : Int32)) % (9 : Int32)))])
    by_cases hc23 : ((p0 &&& (2147483647 : Int32)) % (9 : Int32)) = (3 : Int32)
    · refine Go.step (fun _ zz => XS.icmpNo X0.here hx rfl (hb hby at_23) rfl (teq hc23).2 zz) ?_
      show Go _ _ _ _ s₁ (mkF m 26 #[.val (.int p0), .val (.int p1), .val (.int ((p0 &&& (2147483647 : Int32)) % (9 : Int32))), .val (.int ((p1 &&& (2147483647 : Int32)) % (9 : Int32))), .unset, .unset, .unset] [])
      refine Go.step (fun _ zz => XS.iloadN X0.here hx rfl (hb hby at_26) rfl zz) ?_
      show Go _ _ _ _ s₁ (mkF m 27 #[.val (.int p0), .val (.int p1), .val (.int ((p0 &&& (2147483647 : Int32)) % (9 : Int32))), .val (.int ((p1 &&& (2147483647 : Int32)) % (9 : Int32))), .unset, .unset, .unset] [(.int ((p1 &&& (2147483647 : Int32)) % (9 : Int32)))])
      by_cases hc27 : ((p1 &&& (2147483647 : Int32)) % (9 : Int32)) = (0 : Int32)
      · refine Go.step (fun _ zz => XS.ifYes X0.here hx rfl (pc0 := 27) (pc' := 40) rfl (hb hby at_27) rfl ((if0 _ _).trans (teq hc27).1) (by decide) (by decide) zz) ?_
        show Go _ _ _ _ s₁ (mkF m 40 #[.val (.int p0), .val (.int p1), .val (.int ((p0 &&& (2147483647 : Int32)) % (9 : Int32))), .val (.int ((p1 &&& (2147483647 : Int32)) % (9 : Int32))), .unset, .unset, .unset] [])
        refine Go.step (fun _ zz => XS.iconst X0.here hx rfl (hb hby at_40) zz) ?_
        show Go _ _ _ _ s₁ (mkF m 41 #[.val (.int p0), .val (.int p1), .val (.int ((p0 &&& (2147483647 : Int32)) % (9 : Int32))), .val (.int ((p1 &&& (2147483647 : Int32)) % (9 : Int32))), .unset, .unset, .unset] [(.int (1 : Int32))])
        refine Go.step (fun _ zz => XS.goto X0.here hx rfl (pc0 := 41) (pc' := 45) rfl (hb hby at_41) (by decide) (by decide) zz) ?_
        show Go _ _ _ _ s₁ (mkF m 45 #[.val (.int p0), .val (.int p1), .val (.int ((p0 &&& (2147483647 : Int32)) % (9 : Int32))), .val (.int ((p1 &&& (2147483647 : Int32)) % (9 : Int32))), .unset, .unset, .unset] [(.int (1 : Int32))])
        refine Go.step (fun _ zz => XS.istore X0.here hx rfl (hb hby at_45) rfl (l' := #[.val (.int p0), .val (.int p1), .val (.int ((p0 &&& (2147483647 : Int32)) % (9 : Int32))), .val (.int ((p1 &&& (2147483647 : Int32)) % (9 : Int32))), .val (.int (1 : Int32)), .unset, .unset]) rfl zz) ?_
        show Go _ _ _ _ s₁ (mkF m 47 #[.val (.int p0), .val (.int p1), .val (.int ((p0 &&& (2147483647 : Int32)) % (9 : Int32))), .val (.int ((p1 &&& (2147483647 : Int32)) % (9 : Int32))), .val (.int (1 : Int32)), .unset, .unset] [])
        refine Go.step (fun _ zz => XS.iloadN X0.here hx rfl (hb hby at_47) rfl zz) ?_
        show Go _ _ _ _ s₁ (mkF m 48 #[.val (.int p0), .val (.int p1), .val (.int ((p0 &&& (2147483647 : Int32)) % (9 : Int32))), .val (.int ((p1 &&& (2147483647 : Int32)) % (9 : Int32))), .val (.int (1 : Int32)), .unset, .unset] [(.int ((p0 &&& (2147483647 : Int32)) % (9 : Int32)))])
        obtain ⟨_, _, ⟨T4, L4, k4, n4⟩, -, X4, ⟨Lc4, hQ4, l4, y4, z4⟩, st4⟩ := Jvm.LawKit.callS X0 hx (y := (⟨"com/example/deferral_ledger/deferralledger/model/EntryKindStandsForPinLaw", "kind", "(I)Lcom/example/deferral_ledger/deferralledger/model/EntryKind;"⟩ : MethodName)) hown (mvT hZ (hw _ (List.mem_of_getElem? (i := 1) rfl))) (mvT hZ (hw _ (List.mem_of_getElem? (i := 2) rfl))) (mvT hZ (hw _ (List.mem_of_getElem? (i := 3) rfl))) (mvT hZ (hw _ (List.mem_of_getElem? (i := 4) rfl))) (by decide) (backOf (W := 0) (rm1 l Z a0 hw [] ((p0 &&& (2147483647 : Int32)) % (9 : Int32)) w h0 n0 Z0 O0 wd) hZ (hw _ (List.mem_of_getElem? (i := 4) rfl)) (hw _ (List.mem_of_getElem? (i := 3) rfl)) (by decide) (by decide)) (g := (mkF m 48 #[.val (.int p0), .val (.int p1), .val (.int ((p0 &&& (2147483647 : Int32)) % (9 : Int32))), .val (.int ((p1 &&& (2147483647 : Int32)) % (9 : Int32))), .val (.int (1 : Int32)), .unset, .unset] [(.int ((p0 &&& (2147483647 : Int32)) % (9 : Int32)))])) rfl (by rw [hml]; rfl) (argsL := [(.int ((p0 &&& (2147483647 : Int32)) % (9 : Int32)))]) (rest := []) (lenOf own_pd2 rfl) rfl (by show 2 * 0 + _ ≤ _; exact Nat.le_of_eq rfl) (hb hby at_48) (fun _ _ => ⟨rfl, e0, (by decide : 0 + 0 ≤ _), (by decide : 0 + 0 ≤ _)⟩)
        dsimp only [Pt.U, Pt.locs, Pt.cells, Pt.slots] at X4 l4 y4 z4 st4 hQ4
        subst l4 y4 z4
        obtain ⟨rfl, N4q, e4⟩ := hQ4
        have N4 := Fr.app N0 N4q
        refine Go.step st4 ?_
        show Go _ _ _ _ T4 (mkF m 51 #[.val (.int p0), .val (.int p1), .val (.int ((p0 &&& (2147483647 : Int32)) % (9 : Int32))), .val (.int ((p1 &&& (2147483647 : Int32)) % (9 : Int32))), .val (.int (1 : Int32)), .unset, .unset] [(.ref (own_f1 ((p0 &&& (2147483647 : Int32)) % (9 : Int32)) w))])
        refine Go.step (fun _ zz => XS.astore X4.here hx rfl (hb hby at_51) rfl rfl (l' := #[.val (.int p0), .val (.int p1), .val (.int ((p0 &&& (2147483647 : Int32)) % (9 : Int32))), .val (.int ((p1 &&& (2147483647 : Int32)) % (9 : Int32))), .val (.int (1 : Int32)), .val (.ref (own_f1 ((p0 &&& (2147483647 : Int32)) % (9 : Int32)) w)), .unset]) rfl zz) ?_
        show Go _ _ _ _ T4 (mkF m 53 #[.val (.int p0), .val (.int p1), .val (.int ((p0 &&& (2147483647 : Int32)) % (9 : Int32))), .val (.int ((p1 &&& (2147483647 : Int32)) % (9 : Int32))), .val (.int (1 : Int32)), .val (.ref (own_f1 ((p0 &&& (2147483647 : Int32)) % (9 : Int32)) w)), .unset] [])
        refine Go.step (fun _ zz => XS.iloadN X4.here hx rfl (hb hby at_53) rfl zz) ?_
        show Go _ _ _ _ T4 (mkF m 54 #[.val (.int p0), .val (.int p1), .val (.int ((p0 &&& (2147483647 : Int32)) % (9 : Int32))), .val (.int ((p1 &&& (2147483647 : Int32)) % (9 : Int32))), .val (.int (1 : Int32)), .val (.ref (own_f1 ((p0 &&& (2147483647 : Int32)) % (9 : Int32)) w)), .unset] [(.int ((p1 &&& (2147483647 : Int32)) % (9 : Int32)))])
        obtain ⟨_, _, ⟨T5, L5, k5, n5⟩, -, X5, ⟨Lc5, hQ5, l5, y5, z5⟩, st5⟩ := Jvm.LawKit.callS X4 hx (y := (⟨"com/example/deferral_ledger/deferralledger/model/EntryKindStandsForPinLaw", "kind", "(I)Lcom/example/deferral_ledger/deferralledger/model/EntryKind;"⟩ : MethodName)) hown (mvT hZ (hw _ (List.mem_of_getElem? (i := 1) rfl))) (mvT hZ (hw _ (List.mem_of_getElem? (i := 2) rfl))) (mvT hZ (hw _ (List.mem_of_getElem? (i := 3) rfl))) (mvT hZ (hw _ (List.mem_of_getElem? (i := 4) rfl))) (by decide) (backOf (W := 0) (rm1 l Z a0 hw [] ((p1 &&& (2147483647 : Int32)) % (9 : Int32)) w h0 n0 Z0 O0 wd) hZ (hw _ (List.mem_of_getElem? (i := 4) rfl)) (hw _ (List.mem_of_getElem? (i := 3) rfl)) (by decide) (by decide)) (g := (mkF m 54 #[.val (.int p0), .val (.int p1), .val (.int ((p0 &&& (2147483647 : Int32)) % (9 : Int32))), .val (.int ((p1 &&& (2147483647 : Int32)) % (9 : Int32))), .val (.int (1 : Int32)), .val (.ref (own_f1 ((p0 &&& (2147483647 : Int32)) % (9 : Int32)) w)), .unset] [(.int ((p1 &&& (2147483647 : Int32)) % (9 : Int32)))])) rfl (by rw [hml]; rfl) (argsL := [(.int ((p1 &&& (2147483647 : Int32)) % (9 : Int32)))]) (rest := []) (lenOf own_pd2 rfl) rfl (by show 2 * 0 + _ ≤ _; exact Nat.le_of_eq rfl) (hb hby at_54) (fun _ _ => ⟨rfl, e4, (by decide : 0 + 0 ≤ _), (by decide : 0 + 0 ≤ _)⟩)
        dsimp only [Pt.U, Pt.locs, Pt.cells, Pt.slots] at X5 l5 y5 z5 st5 hQ5
        subst l5 y5 z5
        obtain ⟨rfl, N5q, e5⟩ := hQ5
        have N5 := Fr.app N4 N5q
        refine Go.step st5 ?_
        show Go _ _ _ _ T5 (mkF m 57 #[.val (.int p0), .val (.int p1), .val (.int ((p0 &&& (2147483647 : Int32)) % (9 : Int32))), .val (.int ((p1 &&& (2147483647 : Int32)) % (9 : Int32))), .val (.int (1 : Int32)), .val (.ref (own_f1 ((p0 &&& (2147483647 : Int32)) % (9 : Int32)) w)), .unset] [(.ref (own_f1 ((p1 &&& (2147483647 : Int32)) % (9 : Int32)) w))])
        refine Go.step (fun _ zz => XS.astore X5.here hx rfl (hb hby at_57) rfl rfl (l' := #[.val (.int p0), .val (.int p1), .val (.int ((p0 &&& (2147483647 : Int32)) % (9 : Int32))), .val (.int ((p1 &&& (2147483647 : Int32)) % (9 : Int32))), .val (.int (1 : Int32)), .val (.ref (own_f1 ((p0 &&& (2147483647 : Int32)) % (9 : Int32)) w)), .val (.ref (own_f1 ((p1 &&& (2147483647 : Int32)) % (9 : Int32)) w))]) rfl zz) ?_
        show Go _ _ _ _ T5 (mkF m 59 #[.val (.int p0), .val (.int p1), .val (.int ((p0 &&& (2147483647 : Int32)) % (9 : Int32))), .val (.int ((p1 &&& (2147483647 : Int32)) % (9 : Int32))), .val (.int (1 : Int32)), .val (.ref (own_f1 ((p0 &&& (2147483647 : Int32)) % (9 : Int32)) w)), .val (.ref (own_f1 ((p1 &&& (2147483647 : Int32)) % (9 : Int32)) w))] [])
        refine Go.step (fun _ zz => XS.aload X5.here hx rfl (hb hby at_59) rfl rfl zz) ?_
        show Go _ _ _ _ T5 (mkF m 61 #[.val (.int p0), .val (.int p1), .val (.int ((p0 &&& (2147483647 : Int32)) % (9 : Int32))), .val (.int ((p1 &&& (2147483647 : Int32)) % (9 : Int32))), .val (.int (1 : Int32)), .val (.ref (own_f1 ((p0 &&& (2147483647 : Int32)) % (9 : Int32)) w)), .val (.ref (own_f1 ((p1 &&& (2147483647 : Int32)) % (9 : Int32)) w))] [(.ref (own_f1 ((p0 &&& (2147483647 : Int32)) % (9 : Int32)) w))])
        refine Go.step (fun _ zz => XS.aload X5.here hx rfl (hb hby at_61) rfl rfl zz) ?_
        show Go _ _ _ _ T5 (mkF m 63 #[.val (.int p0), .val (.int p1), .val (.int ((p0 &&& (2147483647 : Int32)) % (9 : Int32))), .val (.int ((p1 &&& (2147483647 : Int32)) % (9 : Int32))), .val (.int (1 : Int32)), .val (.ref (own_f1 ((p0 &&& (2147483647 : Int32)) % (9 : Int32)) w)), .val (.ref (own_f1 ((p1 &&& (2147483647 : Int32)) % (9 : Int32)) w))] [(.ref (own_f1 ((p1 &&& (2147483647 : Int32)) % (9 : Int32)) w)), (.ref (own_f1 ((p0 &&& (2147483647 : Int32)) % (9 : Int32)) w))])
        obtain ⟨cq6, kq6, q6a, q6b, q6c⟩ := isOf hZ e5 ((own_exa wd _).ext O0.2)
        obtain ⟨_, _, ⟨T6, L6, k6, n6⟩, -, X6, ⟨Lc6, hQ6, l6, y6, z6⟩, st6⟩ := X5.virtualBack hx (y := (⟨"com/example/deferral_ledger/deferralledger/model/EntryKind", "standsFor", "(Lcom/example/deferral_ledger/deferralledger/model/EntryKind;)Z"⟩ : MethodName)) (z := (⟨"com/example/deferral_ledger/deferralledger/model/EntryKind", "standsFor", "(Lcom/example/deferral_ledger/deferralledger/model/EntryKind;)Z"⟩ : MethodName)) hown (mvT hZ (hw _ (List.mem_of_getElem? (i := 10) rfl))) (mvT hZ (hw _ (List.mem_of_getElem? (i := 11) rfl))) (notFace_of_selects (args := #[]) (mvT hZ (hw _ (List.mem_of_getElem? (i := 13) rfl)))) (mvT hZ (hw _ (List.mem_of_getElem? (i := 13) rfl))) (mvT hZ (hw _ (List.mem_of_getElem? (i := 12) rfl))) (by decide) (backOf (W := 0) (rm2 l Z a0 hw [] (own_f1 ((p0 &&& (2147483647 : Int32)) % (9 : Int32)) w) (own_f1 ((p1 &&& (2147483647 : Int32)) % (9 : Int32)) w) (own_rev ((p0 &&& (2147483647 : Int32)) % (9 : Int32)) w) h0 n0 Z0 (own_rev_ref _ w) ((own_fld wd _).ext O0.2)) hZ (hw _ (List.mem_of_getElem? (i := 14) rfl)) (hw _ (List.mem_of_getElem? (i := 6) rfl)) (by decide) (by decide)) q6a q6c (g := (mkF m 63 #[.val (.int p0), .val (.int p1), .val (.int ((p0 &&& (2147483647 : Int32)) % (9 : Int32))), .val (.int ((p1 &&& (2147483647 : Int32)) % (9 : Int32))), .val (.int (1 : Int32)), .val (.ref (own_f1 ((p0 &&& (2147483647 : Int32)) % (9 : Int32)) w)), .val (.ref (own_f1 ((p1 &&& (2147483647 : Int32)) % (9 : Int32)) w))] [(.ref (own_f1 ((p1 &&& (2147483647 : Int32)) % (9 : Int32)) w)), (.ref (own_f1 ((p0 &&& (2147483647 : Int32)) % (9 : Int32)) w))])) rfl (by rw [hml]; rfl) (Steps.refl _) (argsL := [(.ref (own_f1 ((p1 &&& (2147483647 : Int32)) % (9 : Int32)) w))]) (rest := []) (lenOf own_pd3 rfl) rfl (by show 2 * 0 + _ ≤ _; exact Nat.le_of_eq rfl) (hb hby at_63) (fun _ _ => ⟨rfl, e5, (by decide : 0 + 0 ≤ _), (by decide : 0 + 0 ≤ _)⟩)
        dsimp only [Pt.U, Pt.locs, Pt.cells, Pt.slots] at X6 l6 y6 z6 st6 hQ6
        subst l6 y6 z6
        obtain ⟨rfl, N6q, e6⟩ := hQ6
        have N6 := Fr.app N5 N6q
        refine Go.tr st6 ?_
        show Go _ _ _ _ T6 (mkF m 66 #[.val (.int p0), .val (.int p1), .val (.int ((p0 &&& (2147483647 : Int32)) % (9 : Int32))), .val (.int ((p1 &&& (2147483647 : Int32)) % (9 : Int32))), .val (.int (1 : Int32)), .val (.ref (own_f1 ((p0 &&& (2147483647 : Int32)) % (9 : Int32)) w)), .val (.ref (own_f1 ((p1 &&& (2147483647 : Int32)) % (9 : Int32)) w))] [(.int (own_f2 (own_f1 ((p0 &&& (2147483647 : Int32)) % (9 : Int32)) w) (own_f1 ((p1 &&& (2147483647 : Int32)) % (9 : Int32)) w) (own_rev ((p0 &&& (2147483647 : Int32)) % (9 : Int32)) w)))])
        refine Go.step (fun _ zz => XS.iload X6.here hx rfl (hb hby at_66) rfl zz) ?_
        show Go _ _ _ _ T6 (mkF m 68 #[.val (.int p0), .val (.int p1), .val (.int ((p0 &&& (2147483647 : Int32)) % (9 : Int32))), .val (.int ((p1 &&& (2147483647 : Int32)) % (9 : Int32))), .val (.int (1 : Int32)), .val (.ref (own_f1 ((p0 &&& (2147483647 : Int32)) % (9 : Int32)) w)), .val (.ref (own_f1 ((p1 &&& (2147483647 : Int32)) % (9 : Int32)) w))] [(.int (1 : Int32)), (.int (own_f2 (own_f1 ((p0 &&& (2147483647 : Int32)) % (9 : Int32)) w) (own_f1 ((p1 &&& (2147483647 : Int32)) % (9 : Int32)) w) (own_rev ((p0 &&& (2147483647 : Int32)) % (9 : Int32)) w)))])
        refine Go.step (fun _ zz => XS.icmpNo X6.here hx rfl (hb hby at_68) rfl (teq ((own_fin wd (own_in p0) (own_in p1)).trans (by rw [if_neg hc18, if_pos hc23, if_pos hc27]))).2 zz) ?_
        show Go _ _ _ _ T6 (mkF m 71 #[.val (.int p0), .val (.int p1), .val (.int ((p0 &&& (2147483647 : Int32)) % (9 : Int32))), .val (.int ((p1 &&& (2147483647 : Int32)) % (9 : Int32))), .val (.int (1 : Int32)), .val (.ref (own_f1 ((p0 &&& (2147483647 : Int32)) % (9 : Int32)) w)), .val (.ref (own_f1 ((p1 &&& (2147483647 : Int32)) % (9 : Int32)) w))] [])
        refine Go.step (fun _ zz => XS.iconst X6.here hx rfl (hb hby at_71) zz) ?_
        show Go _ _ _ _ T6 (mkF m 72 #[.val (.int p0), .val (.int p1), .val (.int ((p0 &&& (2147483647 : Int32)) % (9 : Int32))), .val (.int ((p1 &&& (2147483647 : Int32)) % (9 : Int32))), .val (.int (1 : Int32)), .val (.ref (own_f1 ((p0 &&& (2147483647 : Int32)) % (9 : Int32)) w)), .val (.ref (own_f1 ((p1 &&& (2147483647 : Int32)) % (9 : Int32)) w))] [(.int (1 : Int32))])
        refine Go.step (fun _ zz => XS.goto X6.here hx rfl (pc0 := 72) (pc' := 76) rfl (hb hby at_72) (by decide) (by decide) zz) ?_
        show Go _ _ _ _ T6 (mkF m 76 #[.val (.int p0), .val (.int p1), .val (.int ((p0 &&& (2147483647 : Int32)) % (9 : Int32))), .val (.int ((p1 &&& (2147483647 : Int32)) % (9 : Int32))), .val (.int (1 : Int32)), .val (.ref (own_f1 ((p0 &&& (2147483647 : Int32)) % (9 : Int32)) w)), .val (.ref (own_f1 ((p1 &&& (2147483647 : Int32)) % (9 : Int32)) w))] [(.int (1 : Int32))])
        exact Go.retN X6 hx (t := .boolean) Bd.returns (by simp) (hb hby at_76) Bd.notSynchronized (z' := (1 : Int32)) (by decide) (⟨rfl, N6⟩) (by decide) (by decide)
      · refine Go.step (fun _ zz => XS.ifNo X0.here hx rfl (hb hby at_27) rfl ((if0 _ _).trans (feq hc27).1) zz) ?_
        show Go _ _ _ _ s₁ (mkF m 30 #[.val (.int p0), .val (.int p1), .val (.int ((p0 &&& (2147483647 : Int32)) % (9 : Int32))), .val (.int ((p1 &&& (2147483647 : Int32)) % (9 : Int32))), .unset, .unset, .unset] [])
        refine Go.step (fun _ zz => XS.iloadN X0.here hx rfl (hb hby at_30) rfl zz) ?_
        show Go _ _ _ _ s₁ (mkF m 31 #[.val (.int p0), .val (.int p1), .val (.int ((p0 &&& (2147483647 : Int32)) % (9 : Int32))), .val (.int ((p1 &&& (2147483647 : Int32)) % (9 : Int32))), .unset, .unset, .unset] [(.int ((p0 &&& (2147483647 : Int32)) % (9 : Int32)))])
        refine Go.step (fun _ zz => XS.iconst X0.here hx rfl (hb hby at_31) zz) ?_
        show Go _ _ _ _ s₁ (mkF m 32 #[.val (.int p0), .val (.int p1), .val (.int ((p0 &&& (2147483647 : Int32)) % (9 : Int32))), .val (.int ((p1 &&& (2147483647 : Int32)) % (9 : Int32))), .unset, .unset, .unset] [(.int (4 : Int32)), (.int ((p0 &&& (2147483647 : Int32)) % (9 : Int32)))])
        refine Go.step (fun _ zz => XS.icmpYes X0.here hx rfl (pc0 := 32) (pc' := 44) rfl (hb hby at_32) rfl (feq (fun q => absurd (hc23.symm.trans q) (by decide))).2 (by decide) (by decide) zz) ?_
        show Go _ _ _ _ s₁ (mkF m 44 #[.val (.int p0), .val (.int p1), .val (.int ((p0 &&& (2147483647 : Int32)) % (9 : Int32))), .val (.int ((p1 &&& (2147483647 : Int32)) % (9 : Int32))), .unset, .unset, .unset] [])
        refine Go.step (fun _ zz => XS.iconst X0.here hx rfl (hb hby at_44) zz) ?_
        show Go _ _ _ _ s₁ (mkF m 45 #[.val (.int p0), .val (.int p1), .val (.int ((p0 &&& (2147483647 : Int32)) % (9 : Int32))), .val (.int ((p1 &&& (2147483647 : Int32)) % (9 : Int32))), .unset, .unset, .unset] [(.int (0 : Int32))])
        refine Go.step (fun _ zz => XS.istore X0.here hx rfl (hb hby at_45) rfl (l' := #[.val (.int p0), .val (.int p1), .val (.int ((p0 &&& (2147483647 : Int32)) % (9 : Int32))), .val (.int ((p1 &&& (2147483647 : Int32)) % (9 : Int32))), .val (.int (0 : Int32)), .unset, .unset]) rfl zz) ?_
        show Go _ _ _ _ s₁ (mkF m 47 #[.val (.int p0), .val (.int p1), .val (.int ((p0 &&& (2147483647 : Int32)) % (9 : Int32))), .val (.int ((p1 &&& (2147483647 : Int32)) % (9 : Int32))), .val (.int (0 : Int32)), .unset, .unset] [])
        refine Go.step (fun _ zz => XS.iloadN X0.here hx rfl (hb hby at_47) rfl zz) ?_
        show Go _ _ _ _ s₁ (mkF m 48 #[.val (.int p0), .val (.int p1), .val (.int ((p0 &&& (2147483647 : Int32)) % (9 : Int32))), .val (.int ((p1 &&& (2147483647 : Int32)) % (9 : Int32))), .val (.int (0 : Int32)), .unset, .unset] [(.int ((p0 &&& (2147483647 : Int32)) % (9 : Int32)))])
        obtain ⟨_, _, ⟨T7, L7, k7, n7⟩, -, X7, ⟨Lc7, hQ7, l7, y7, z7⟩, st7⟩ := Jvm.LawKit.callS X0 hx (y := (⟨"com/example/deferral_ledger/deferralledger/model/EntryKindStandsForPinLaw", "kind", "(I)Lcom/example/deferral_ledger/deferralledger/model/EntryKind;"⟩ : MethodName)) hown (mvT hZ (hw _ (List.mem_of_getElem? (i := 1) rfl))) (mvT hZ (hw _ (List.mem_of_getElem? (i := 2) rfl))) (mvT hZ (hw _ (List.mem_of_getElem? (i := 3) rfl))) (mvT hZ (hw _ (List.mem_of_getElem? (i := 4) rfl))) (by decide) (backOf (W := 0) (rm1 l Z a0 hw [] ((p0 &&& (2147483647 : Int32)) % (9 : Int32)) w h0 n0 Z0 O0 wd) hZ (hw _ (List.mem_of_getElem? (i := 4) rfl)) (hw _ (List.mem_of_getElem? (i := 3) rfl)) (by decide) (by decide)) (g := (mkF m 48 #[.val (.int p0), .val (.int p1), .val (.int ((p0 &&& (2147483647 : Int32)) % (9 : Int32))), .val (.int ((p1 &&& (2147483647 : Int32)) % (9 : Int32))), .val (.int (0 : Int32)), .unset, .unset] [(.int ((p0 &&& (2147483647 : Int32)) % (9 : Int32)))])) rfl (by rw [hml]; rfl) (argsL := [(.int ((p0 &&& (2147483647 : Int32)) % (9 : Int32)))]) (rest := []) (lenOf own_pd2 rfl) rfl (by show 2 * 0 + _ ≤ _; exact Nat.le_of_eq rfl) (hb hby at_48) (fun _ _ => ⟨rfl, e0, (by decide : 0 + 0 ≤ _), (by decide : 0 + 0 ≤ _)⟩)
        dsimp only [Pt.U, Pt.locs, Pt.cells, Pt.slots] at X7 l7 y7 z7 st7 hQ7
        subst l7 y7 z7
        obtain ⟨rfl, N7q, e7⟩ := hQ7
        have N7 := Fr.app N0 N7q
        refine Go.step st7 ?_
        show Go _ _ _ _ T7 (mkF m 51 #[.val (.int p0), .val (.int p1), .val (.int ((p0 &&& (2147483647 : Int32)) % (9 : Int32))), .val (.int ((p1 &&& (2147483647 : Int32)) % (9 : Int32))), .val (.int (0 : Int32)), .unset, .unset] [(.ref (own_f1 ((p0 &&& (2147483647 : Int32)) % (9 : Int32)) w))])
        refine Go.step (fun _ zz => XS.astore X7.here hx rfl (hb hby at_51) rfl rfl (l' := #[.val (.int p0), .val (.int p1), .val (.int ((p0 &&& (2147483647 : Int32)) % (9 : Int32))), .val (.int ((p1 &&& (2147483647 : Int32)) % (9 : Int32))), .val (.int (0 : Int32)), .val (.ref (own_f1 ((p0 &&& (2147483647 : Int32)) % (9 : Int32)) w)), .unset]) rfl zz) ?_
        show Go _ _ _ _ T7 (mkF m 53 #[.val (.int p0), .val (.int p1), .val (.int ((p0 &&& (2147483647 : Int32)) % (9 : Int32))), .val (.int ((p1 &&& (2147483647 : Int32)) % (9 : Int32))), .val (.int (0 : Int32)), .val (.ref (own_f1 ((p0 &&& (2147483647 : Int32)) % (9 : Int32)) w)), .unset] [])
        refine Go.step (fun _ zz => XS.iloadN X7.here hx rfl (hb hby at_53) rfl zz) ?_
        show Go _ _ _ _ T7 (mkF m 54 #[.val (.int p0), .val (.int p1), .val (.int ((p0 &&& (2147483647 : Int32)) % (9 : Int32))), .val (.int ((p1 &&& (2147483647 : Int32)) % (9 : Int32))), .val (.int (0 : Int32)), .val (.ref (own_f1 ((p0 &&& (2147483647 : Int32)) % (9 : Int32)) w)), .unset] [(.int ((p1 &&& (2147483647 : Int32)) % (9 : Int32)))])
        obtain ⟨_, _, ⟨T8, L8, k8, n8⟩, -, X8, ⟨Lc8, hQ8, l8, y8, z8⟩, st8⟩ := Jvm.LawKit.callS X7 hx (y := (⟨"com/example/deferral_ledger/deferralledger/model/EntryKindStandsForPinLaw", "kind", "(I)Lcom/example/deferral_ledger/deferralledger/model/EntryKind;"⟩ : MethodName)) hown (mvT hZ (hw _ (List.mem_of_getElem? (i := 1) rfl))) (mvT hZ (hw _ (List.mem_of_getElem? (i := 2) rfl))) (mvT hZ (hw _ (List.mem_of_getElem? (i := 3) rfl))) (mvT hZ (hw _ (List.mem_of_getElem? (i := 4) rfl))) (by decide) (backOf (W := 0) (rm1 l Z a0 hw [] ((p1 &&& (2147483647 : Int32)) % (9 : Int32)) w h0 n0 Z0 O0 wd) hZ (hw _ (List.mem_of_getElem? (i := 4) rfl)) (hw _ (List.mem_of_getElem? (i := 3) rfl)) (by decide) (by decide)) (g := (mkF m 54 #[.val (.int p0), .val (.int p1), .val (.int ((p0 &&& (2147483647 : Int32)) % (9 : Int32))), .val (.int ((p1 &&& (2147483647 : Int32)) % (9 : Int32))), .val (.int (0 : Int32)), .val (.ref (own_f1 ((p0 &&& (2147483647 : Int32)) % (9 : Int32)) w)), .unset] [(.int ((p1 &&& (2147483647 : Int32)) % (9 : Int32)))])) rfl (by rw [hml]; rfl) (argsL := [(.int ((p1 &&& (2147483647 : Int32)) % (9 : Int32)))]) (rest := []) (lenOf own_pd2 rfl) rfl (by show 2 * 0 + _ ≤ _; exact Nat.le_of_eq rfl) (hb hby at_54) (fun _ _ => ⟨rfl, e7, (by decide : 0 + 0 ≤ _), (by decide : 0 + 0 ≤ _)⟩)
        dsimp only [Pt.U, Pt.locs, Pt.cells, Pt.slots] at X8 l8 y8 z8 st8 hQ8
        subst l8 y8 z8
        obtain ⟨rfl, N8q, e8⟩ := hQ8
        have N8 := Fr.app N7 N8q
        refine Go.step st8 ?_
        show Go _ _ _ _ T8 (mkF m 57 #[.val (.int p0), .val (.int p1), .val (.int ((p0 &&& (2147483647 : Int32)) % (9 : Int32))), .val (.int ((p1 &&& (2147483647 : Int32)) % (9 : Int32))), .val (.int (0 : Int32)), .val (.ref (own_f1 ((p0 &&& (2147483647 : Int32)) % (9 : Int32)) w)), .unset] [(.ref (own_f1 ((p1 &&& (2147483647 : Int32)) % (9 : Int32)) w))])
        refine Go.step (fun _ zz => XS.astore X8.here hx rfl (hb hby at_57) rfl rfl (l' := #[.val (.int p0), .val (.int p1), .val (.int ((p0 &&& (2147483647 : Int32)) % (9 : Int32))), .val (.int ((p1 &&& (2147483647 : Int32)) % (9 : Int32))), .val (.int (0 : Int32)), .val (.ref (own_f1 ((p0 &&& (2147483647 : Int32)) % (9 : Int32)) w)), .val (.ref (own_f1 ((p1 &&& (2147483647 : Int32)) % (9 : Int32)) w))]) rfl zz) ?_
        show Go _ _ _ _ T8 (mkF m 59 #[.val (.int p0), .val (.int p1), .val (.int ((p0 &&& (2147483647 : Int32)) % (9 : Int32))), .val (.int ((p1 &&& (2147483647 : Int32)) % (9 : Int32))), .val (.int (0 : Int32)), .val (.ref (own_f1 ((p0 &&& (2147483647 : Int32)) % (9 : Int32)) w)), .val (.ref (own_f1 ((p1 &&& (2147483647 : Int32)) % (9 : Int32)) w))] [])
        refine Go.step (fun _ zz => XS.aload X8.here hx rfl (hb hby at_59) rfl rfl zz) ?_
        show Go _ _ _ _ T8 (mkF m 61 #[.val (.int p0), .val (.int p1), .val (.int ((p0 &&& (2147483647 : Int32)) % (9 : Int32))), .val (.int ((p1 &&& (2147483647 : Int32)) % (9 : Int32))), .val (.int (0 : Int32)), .val (.ref (own_f1 ((p0 &&& (2147483647 : Int32)) % (9 : Int32)) w)), .val (.ref (own_f1 ((p1 &&& (2147483647 : Int32)) % (9 : Int32)) w))] [(.ref (own_f1 ((p0 &&& (2147483647 : Int32)) % (9 : Int32)) w))])
        refine Go.step (fun _ zz => XS.aload X8.here hx rfl (hb hby at_61) rfl rfl zz) ?_
        show Go _ _ _ _ T8 (mkF m 63 #[.val (.int p0), .val (.int p1), .val (.int ((p0 &&& (2147483647 : Int32)) % (9 : Int32))), .val (.int ((p1 &&& (2147483647 : Int32)) % (9 : Int32))), .val (.int (0 : Int32)), .val (.ref (own_f1 ((p0 &&& (2147483647 : Int32)) % (9 : Int32)) w)), .val (.ref (own_f1 ((p1 &&& (2147483647 : Int32)) % (9 : Int32)) w))] [(.ref (own_f1 ((p1 &&& (2147483647 : Int32)) % (9 : Int32)) w)), (.ref (own_f1 ((p0 &&& (2147483647 : Int32)) % (9 : Int32)) w))])
        obtain ⟨cq9, kq9, q9a, q9b, q9c⟩ := isOf hZ e8 ((own_exa wd _).ext O0.2)
        obtain ⟨_, _, ⟨T9, L9, k9, n9⟩, -, X9, ⟨Lc9, hQ9, l9, y9, z9⟩, st9⟩ := X8.virtualBack hx (y := (⟨"com/example/deferral_ledger/deferralledger/model/EntryKind", "standsFor", "(Lcom/example/deferral_ledger/deferralledger/model/EntryKind;)Z"⟩ : MethodName)) (z := (⟨"com/example/deferral_ledger/deferralledger/model/EntryKind", "standsFor", "(Lcom/example/deferral_ledger/deferralledger/model/EntryKind;)Z"⟩ : MethodName)) hown (mvT hZ (hw _ (List.mem_of_getElem? (i := 10) rfl))) (mvT hZ (hw _ (List.mem_of_getElem? (i := 11) rfl))) (notFace_of_selects (args := #[]) (mvT hZ (hw _ (List.mem_of_getElem? (i := 13) rfl)))) (mvT hZ (hw _ (List.mem_of_getElem? (i := 13) rfl))) (mvT hZ (hw _ (List.mem_of_getElem? (i := 12) rfl))) (by decide) (backOf (W := 0) (rm2 l Z a0 hw [] (own_f1 ((p0 &&& (2147483647 : Int32)) % (9 : Int32)) w) (own_f1 ((p1 &&& (2147483647 : Int32)) % (9 : Int32)) w) (own_rev ((p0 &&& (2147483647 : Int32)) % (9 : Int32)) w) h0 n0 Z0 (own_rev_ref _ w) ((own_fld wd _).ext O0.2)) hZ (hw _ (List.mem_of_getElem? (i := 14) rfl)) (hw _ (List.mem_of_getElem? (i := 6) rfl)) (by decide) (by decide)) q9a q9c (g := (mkF m 63 #[.val (.int p0), .val (.int p1), .val (.int ((p0 &&& (2147483647 : Int32)) % (9 : Int32))), .val (.int ((p1 &&& (2147483647 : Int32)) % (9 : Int32))), .val (.int (0 : Int32)), .val (.ref (own_f1 ((p0 &&& (2147483647 : Int32)) % (9 : Int32)) w)), .val (.ref (own_f1 ((p1 &&& (2147483647 : Int32)) % (9 : Int32)) w))] [(.ref (own_f1 ((p1 &&& (2147483647 : Int32)) % (9 : Int32)) w)), (.ref (own_f1 ((p0 &&& (2147483647 : Int32)) % (9 : Int32)) w))])) rfl (by rw [hml]; rfl) (Steps.refl _) (argsL := [(.ref (own_f1 ((p1 &&& (2147483647 : Int32)) % (9 : Int32)) w))]) (rest := []) (lenOf own_pd3 rfl) rfl (by show 2 * 0 + _ ≤ _; exact Nat.le_of_eq rfl) (hb hby at_63) (fun _ _ => ⟨rfl, e8, (by decide : 0 + 0 ≤ _), (by decide : 0 + 0 ≤ _)⟩)
        dsimp only [Pt.U, Pt.locs, Pt.cells, Pt.slots] at X9 l9 y9 z9 st9 hQ9
        subst l9 y9 z9
        obtain ⟨rfl, N9q, e9⟩ := hQ9
        have N9 := Fr.app N8 N9q
        refine Go.tr st9 ?_
        show Go _ _ _ _ T9 (mkF m 66 #[.val (.int p0), .val (.int p1), .val (.int ((p0 &&& (2147483647 : Int32)) % (9 : Int32))), .val (.int ((p1 &&& (2147483647 : Int32)) % (9 : Int32))), .val (.int (0 : Int32)), .val (.ref (own_f1 ((p0 &&& (2147483647 : Int32)) % (9 : Int32)) w)), .val (.ref (own_f1 ((p1 &&& (2147483647 : Int32)) % (9 : Int32)) w))] [(.int (own_f2 (own_f1 ((p0 &&& (2147483647 : Int32)) % (9 : Int32)) w) (own_f1 ((p1 &&& (2147483647 : Int32)) % (9 : Int32)) w) (own_rev ((p0 &&& (2147483647 : Int32)) % (9 : Int32)) w)))])
        refine Go.step (fun _ zz => XS.iload X9.here hx rfl (hb hby at_66) rfl zz) ?_
        show Go _ _ _ _ T9 (mkF m 68 #[.val (.int p0), .val (.int p1), .val (.int ((p0 &&& (2147483647 : Int32)) % (9 : Int32))), .val (.int ((p1 &&& (2147483647 : Int32)) % (9 : Int32))), .val (.int (0 : Int32)), .val (.ref (own_f1 ((p0 &&& (2147483647 : Int32)) % (9 : Int32)) w)), .val (.ref (own_f1 ((p1 &&& (2147483647 : Int32)) % (9 : Int32)) w))] [(.int (0 : Int32)), (.int (own_f2 (own_f1 ((p0 &&& (2147483647 : Int32)) % (9 : Int32)) w) (own_f1 ((p1 &&& (2147483647 : Int32)) % (9 : Int32)) w) (own_rev ((p0 &&& (2147483647 : Int32)) % (9 : Int32)) w)))])
        refine Go.step (fun _ zz => XS.icmpNo X9.here hx rfl (hb hby at_68) rfl (teq ((own_fin wd (own_in p0) (own_in p1)).trans (by rw [if_neg hc18, if_pos hc23, if_neg hc27]))).2 zz) ?_
        show Go _ _ _ _ T9 (mkF m 71 #[.val (.int p0), .val (.int p1), .val (.int ((p0 &&& (2147483647 : Int32)) % (9 : Int32))), .val (.int ((p1 &&& (2147483647 : Int32)) % (9 : Int32))), .val (.int (0 : Int32)), .val (.ref (own_f1 ((p0 &&& (2147483647 : Int32)) % (9 : Int32)) w)), .val (.ref (own_f1 ((p1 &&& (2147483647 : Int32)) % (9 : Int32)) w))] [])
        refine Go.step (fun _ zz => XS.iconst X9.here hx rfl (hb hby at_71) zz) ?_
        show Go _ _ _ _ T9 (mkF m 72 #[.val (.int p0), .val (.int p1), .val (.int ((p0 &&& (2147483647 : Int32)) % (9 : Int32))), .val (.int ((p1 &&& (2147483647 : Int32)) % (9 : Int32))), .val (.int (0 : Int32)), .val (.ref (own_f1 ((p0 &&& (2147483647 : Int32)) % (9 : Int32)) w)), .val (.ref (own_f1 ((p1 &&& (2147483647 : Int32)) % (9 : Int32)) w))] [(.int (1 : Int32))])
        refine Go.step (fun _ zz => XS.goto X9.here hx rfl (pc0 := 72) (pc' := 76) rfl (hb hby at_72) (by decide) (by decide) zz) ?_
        show Go _ _ _ _ T9 (mkF m 76 #[.val (.int p0), .val (.int p1), .val (.int ((p0 &&& (2147483647 : Int32)) % (9 : Int32))), .val (.int ((p1 &&& (2147483647 : Int32)) % (9 : Int32))), .val (.int (0 : Int32)), .val (.ref (own_f1 ((p0 &&& (2147483647 : Int32)) % (9 : Int32)) w)), .val (.ref (own_f1 ((p1 &&& (2147483647 : Int32)) % (9 : Int32)) w))] [(.int (1 : Int32))])
        exact Go.retN X9 hx (t := .boolean) Bd.returns (by simp) (hb hby at_76) Bd.notSynchronized (z' := (1 : Int32)) (by decide) (⟨rfl, N9⟩) (by decide) (by decide)
    · refine Go.step (fun _ zz => XS.icmpYes X0.here hx rfl (pc0 := 23) (pc' := 30) rfl (hb hby at_23) rfl (feq hc23).2 (by decide) (by decide) zz) ?_
      show Go _ _ _ _ s₁ (mkF m 30 #[.val (.int p0), .val (.int p1), .val (.int ((p0 &&& (2147483647 : Int32)) % (9 : Int32))), .val (.int ((p1 &&& (2147483647 : Int32)) % (9 : Int32))), .unset, .unset, .unset] [])
      refine Go.step (fun _ zz => XS.iloadN X0.here hx rfl (hb hby at_30) rfl zz) ?_
      show Go _ _ _ _ s₁ (mkF m 31 #[.val (.int p0), .val (.int p1), .val (.int ((p0 &&& (2147483647 : Int32)) % (9 : Int32))), .val (.int ((p1 &&& (2147483647 : Int32)) % (9 : Int32))), .unset, .unset, .unset] [(.int ((p0 &&& (2147483647 : Int32)) % (9 : Int32)))])
      refine Go.step (fun _ zz => XS.iconst X0.here hx rfl (hb hby at_31) zz) ?_
      show Go _ _ _ _ s₁ (mkF m 32 #[.val (.int p0), .val (.int p1), .val (.int ((p0 &&& (2147483647 : Int32)) % (9 : Int32))), .val (.int ((p1 &&& (2147483647 : Int32)) % (9 : Int32))), .unset, .unset, .unset] [(.int (4 : Int32)), (.int ((p0 &&& (2147483647 : Int32)) % (9 : Int32)))])
      by_cases hc32 : ((p0 &&& (2147483647 : Int32)) % (9 : Int32)) = (4 : Int32)
      · refine Go.step (fun _ zz => XS.icmpNo X0.here hx rfl (hb hby at_32) rfl (teq hc32).2 zz) ?_
        show Go _ _ _ _ s₁ (mkF m 35 #[.val (.int p0), .val (.int p1), .val (.int ((p0 &&& (2147483647 : Int32)) % (9 : Int32))), .val (.int ((p1 &&& (2147483647 : Int32)) % (9 : Int32))), .unset, .unset, .unset] [])
        refine Go.step (fun _ zz => XS.iloadN X0.here hx rfl (hb hby at_35) rfl zz) ?_
        show Go _ _ _ _ s₁ (mkF m 36 #[.val (.int p0), .val (.int p1), .val (.int ((p0 &&& (2147483647 : Int32)) % (9 : Int32))), .val (.int ((p1 &&& (2147483647 : Int32)) % (9 : Int32))), .unset, .unset, .unset] [(.int ((p1 &&& (2147483647 : Int32)) % (9 : Int32)))])
        refine Go.step (fun _ zz => XS.iconst X0.here hx rfl (hb hby at_36) zz) ?_
        show Go _ _ _ _ s₁ (mkF m 37 #[.val (.int p0), .val (.int p1), .val (.int ((p0 &&& (2147483647 : Int32)) % (9 : Int32))), .val (.int ((p1 &&& (2147483647 : Int32)) % (9 : Int32))), .unset, .unset, .unset] [(.int (1 : Int32)), (.int ((p1 &&& (2147483647 : Int32)) % (9 : Int32)))])
        by_cases hc37 : ((p1 &&& (2147483647 : Int32)) % (9 : Int32)) = (1 : Int32)
        · refine Go.step (fun _ zz => XS.icmpNo X0.here hx rfl (hb hby at_37) rfl (teq hc37).2 zz) ?_
          show Go _ _ _ _ s₁ (mkF m 40 #[.val (.int p0), .val (.int p1), .val (.int ((p0 &&& (2147483647 : Int32)) % (9 : Int32))), .val (.int ((p1 &&& (2147483647 : Int32)) % (9 : Int32))), .unset, .unset, .unset] [])
          refine Go.step (fun _ zz => XS.iconst X0.here hx rfl (hb hby at_40) zz) ?_
          show Go _ _ _ _ s₁ (mkF m 41 #[.val (.int p0), .val (.int p1), .val (.int ((p0 &&& (2147483647 : Int32)) % (9 : Int32))), .val (.int ((p1 &&& (2147483647 : Int32)) % (9 : Int32))), .unset, .unset, .unset] [(.int (1 : Int32))])
          refine Go.step (fun _ zz => XS.goto X0.here hx rfl (pc0 := 41) (pc' := 45) rfl (hb hby at_41) (by decide) (by decide) zz) ?_
          show Go _ _ _ _ s₁ (mkF m 45 #[.val (.int p0), .val (.int p1), .val (.int ((p0 &&& (2147483647 : Int32)) % (9 : Int32))), .val (.int ((p1 &&& (2147483647 : Int32)) % (9 : Int32))), .unset, .unset, .unset] [(.int (1 : Int32))])
          refine Go.step (fun _ zz => XS.istore X0.here hx rfl (hb hby at_45) rfl (l' := #[.val (.int p0), .val (.int p1), .val (.int ((p0 &&& (2147483647 : Int32)) % (9 : Int32))), .val (.int ((p1 &&& (2147483647 : Int32)) % (9 : Int32))), .val (.int (1 : Int32)), .unset, .unset]) rfl zz) ?_
          show Go _ _ _ _ s₁ (mkF m 47 #[.val (.int p0), .val (.int p1), .val (.int ((p0 &&& (2147483647 : Int32)) % (9 : Int32))), .val (.int ((p1 &&& (2147483647 : Int32)) % (9 : Int32))), .val (.int (1 : Int32)), .unset, .unset] [])
          refine Go.step (fun _ zz => XS.iloadN X0.here hx rfl (hb hby at_47) rfl zz) ?_
          show Go _ _ _ _ s₁ (mkF m 48 #[.val (.int p0), .val (.int p1), .val (.int ((p0 &&& (2147483647 : Int32)) % (9 : Int32))), .val (.int ((p1 &&& (2147483647 : Int32)) % (9 : Int32))), .val (.int (1 : Int32)), .unset, .unset] [(.int ((p0 &&& (2147483647 : Int32)) % (9 : Int32)))])
          obtain ⟨_, _, ⟨T10, L10, k10, n10⟩, -, X10, ⟨Lc10, hQ10, l10, y10, z10⟩, st10⟩ := Jvm.LawKit.callS X0 hx (y := (⟨"com/example/deferral_ledger/deferralledger/model/EntryKindStandsForPinLaw", "kind", "(I)Lcom/example/deferral_ledger/deferralledger/model/EntryKind;"⟩ : MethodName)) hown (mvT hZ (hw _ (List.mem_of_getElem? (i := 1) rfl))) (mvT hZ (hw _ (List.mem_of_getElem? (i := 2) rfl))) (mvT hZ (hw _ (List.mem_of_getElem? (i := 3) rfl))) (mvT hZ (hw _ (List.mem_of_getElem? (i := 4) rfl))) (by decide) (backOf (W := 0) (rm1 l Z a0 hw [] ((p0 &&& (2147483647 : Int32)) % (9 : Int32)) w h0 n0 Z0 O0 wd) hZ (hw _ (List.mem_of_getElem? (i := 4) rfl)) (hw _ (List.mem_of_getElem? (i := 3) rfl)) (by decide) (by decide)) (g := (mkF m 48 #[.val (.int p0), .val (.int p1), .val (.int ((p0 &&& (2147483647 : Int32)) % (9 : Int32))), .val (.int ((p1 &&& (2147483647 : Int32)) % (9 : Int32))), .val (.int (1 : Int32)), .unset, .unset] [(.int ((p0 &&& (2147483647 : Int32)) % (9 : Int32)))])) rfl (by rw [hml]; rfl) (argsL := [(.int ((p0 &&& (2147483647 : Int32)) % (9 : Int32)))]) (rest := []) (lenOf own_pd2 rfl) rfl (by show 2 * 0 + _ ≤ _; exact Nat.le_of_eq rfl) (hb hby at_48) (fun _ _ => ⟨rfl, e0, (by decide : 0 + 0 ≤ _), (by decide : 0 + 0 ≤ _)⟩)
          dsimp only [Pt.U, Pt.locs, Pt.cells, Pt.slots] at X10 l10 y10 z10 st10 hQ10
          subst l10 y10 z10
          obtain ⟨rfl, N10q, e10⟩ := hQ10
          have N10 := Fr.app N0 N10q
          refine Go.step st10 ?_
          show Go _ _ _ _ T10 (mkF m 51 #[.val (.int p0), .val (.int p1), .val (.int ((p0 &&& (2147483647 : Int32)) % (9 : Int32))), .val (.int ((p1 &&& (2147483647 : Int32)) % (9 : Int32))), .val (.int (1 : Int32)), .unset, .unset] [(.ref (own_f1 ((p0 &&& (2147483647 : Int32)) % (9 : Int32)) w))])
          refine Go.step (fun _ zz => XS.astore X10.here hx rfl (hb hby at_51) rfl rfl (l' := #[.val (.int p0), .val (.int p1), .val (.int ((p0 &&& (2147483647 : Int32)) % (9 : Int32))), .val (.int ((p1 &&& (2147483647 : Int32)) % (9 : Int32))), .val (.int (1 : Int32)), .val (.ref (own_f1 ((p0 &&& (2147483647 : Int32)) % (9 : Int32)) w)), .unset]) rfl zz) ?_
          show Go _ _ _ _ T10 (mkF m 53 #[.val (.int p0), .val (.int p1), .val (.int ((p0 &&& (2147483647 : Int32)) % (9 : Int32))), .val (.int ((p1 &&& (2147483647 : Int32)) % (9 : Int32))), .val (.int (1 : Int32)), .val (.ref (own_f1 ((p0 &&& (2147483647 : Int32)) % (9 : Int32)) w)), .unset] [])
          refine Go.step (fun _ zz => XS.iloadN X10.here hx rfl (hb hby at_53) rfl zz) ?_
          show Go _ _ _ _ T10 (mkF m 54 #[.val (.int p0), .val (.int p1), .val (.int ((p0 &&& (2147483647 : Int32)) % (9 : Int32))), .val (.int ((p1 &&& (2147483647 : Int32)) % (9 : Int32))), .val (.int (1 : Int32)), .val (.ref (own_f1 ((p0 &&& (2147483647 : Int32)) % (9 : Int32)) w)), .unset] [(.int ((p1 &&& (2147483647 : Int32)) % (9 : Int32)))])
          obtain ⟨_, _, ⟨T11, L11, k11, n11⟩, -, X11, ⟨Lc11, hQ11, l11, y11, z11⟩, st11⟩ := Jvm.LawKit.callS X10 hx (y := (⟨"com/example/deferral_ledger/deferralledger/model/EntryKindStandsForPinLaw", "kind", "(I)Lcom/example/deferral_ledger/deferralledger/model/EntryKind;"⟩ : MethodName)) hown (mvT hZ (hw _ (List.mem_of_getElem? (i := 1) rfl))) (mvT hZ (hw _ (List.mem_of_getElem? (i := 2) rfl))) (mvT hZ (hw _ (List.mem_of_getElem? (i := 3) rfl))) (mvT hZ (hw _ (List.mem_of_getElem? (i := 4) rfl))) (by decide) (backOf (W := 0) (rm1 l Z a0 hw [] ((p1 &&& (2147483647 : Int32)) % (9 : Int32)) w h0 n0 Z0 O0 wd) hZ (hw _ (List.mem_of_getElem? (i := 4) rfl)) (hw _ (List.mem_of_getElem? (i := 3) rfl)) (by decide) (by decide)) (g := (mkF m 54 #[.val (.int p0), .val (.int p1), .val (.int ((p0 &&& (2147483647 : Int32)) % (9 : Int32))), .val (.int ((p1 &&& (2147483647 : Int32)) % (9 : Int32))), .val (.int (1 : Int32)), .val (.ref (own_f1 ((p0 &&& (2147483647 : Int32)) % (9 : Int32)) w)), .unset] [(.int ((p1 &&& (2147483647 : Int32)) % (9 : Int32)))])) rfl (by rw [hml]; rfl) (argsL := [(.int ((p1 &&& (2147483647 : Int32)) % (9 : Int32)))]) (rest := []) (lenOf own_pd2 rfl) rfl (by show 2 * 0 + _ ≤ _; exact Nat.le_of_eq rfl) (hb hby at_54) (fun _ _ => ⟨rfl, e10, (by decide : 0 + 0 ≤ _), (by decide : 0 + 0 ≤ _)⟩)
          dsimp only [Pt.U, Pt.locs, Pt.cells, Pt.slots] at X11 l11 y11 z11 st11 hQ11
          subst l11 y11 z11
          obtain ⟨rfl, N11q, e11⟩ := hQ11
          have N11 := Fr.app N10 N11q
          refine Go.step st11 ?_
          show Go _ _ _ _ T11 (mkF m 57 #[.val (.int p0), .val (.int p1), .val (.int ((p0 &&& (2147483647 : Int32)) % (9 : Int32))), .val (.int ((p1 &&& (2147483647 : Int32)) % (9 : Int32))), .val (.int (1 : Int32)), .val (.ref (own_f1 ((p0 &&& (2147483647 : Int32)) % (9 : Int32)) w)), .unset] [(.ref (own_f1 ((p1 &&& (2147483647 : Int32)) % (9 : Int32)) w))])
          refine Go.step (fun _ zz => XS.astore X11.here hx rfl (hb hby at_57) rfl rfl (l' := #[.val (.int p0), .val (.int p1), .val (.int ((p0 &&& (2147483647 : Int32)) % (9 : Int32))), .val (.int ((p1 &&& (2147483647 : Int32)) % (9 : Int32))), .val (.int (1 : Int32)), .val (.ref (own_f1 ((p0 &&& (2147483647 : Int32)) % (9 : Int32)) w)), .val (.ref (own_f1 ((p1 &&& (2147483647 : Int32)) % (9 : Int32)) w))]) rfl zz) ?_
          show Go _ _ _ _ T11 (mkF m 59 #[.val (.int p0), .val (.int p1), .val (.int ((p0 &&& (2147483647 : Int32)) % (9 : Int32))), .val (.int ((p1 &&& (2147483647 : Int32)) % (9 : Int32))), .val (.int (1 : Int32)), .val (.ref (own_f1 ((p0 &&& (2147483647 : Int32)) % (9 : Int32)) w)), .val (.ref (own_f1 ((p1 &&& (2147483647 : Int32)) % (9 : Int32)) w))] [])
          refine Go.step (fun _ zz => XS.aload X11.here hx rfl (hb hby at_59) rfl rfl zz) ?_
          show Go _ _ _ _ T11 (mkF m 61 #[.val (.int p0), .val (.int p1), .val (.int ((p0 &&& (2147483647 : Int32)) % (9 : Int32))), .val (.int ((p1 &&& (2147483647 : Int32)) % (9 : Int32))), .val (.int (1 : Int32)), .val (.ref (own_f1 ((p0 &&& (2147483647 : Int32)) % (9 : Int32)) w)), .val (.ref (own_f1 ((p1 &&& (2147483647 : Int32)) % (9 : Int32)) w))] [(.ref (own_f1 ((p0 &&& (2147483647 : Int32)) % (9 : Int32)) w))])
          refine Go.step (fun _ zz => XS.aload X11.here hx rfl (hb hby at_61) rfl rfl zz) ?_
          show Go _ _ _ _ T11 (mkF m 63 #[.val (.int p0), .val (.int p1), .val (.int ((p0 &&& (2147483647 : Int32)) % (9 : Int32))), .val (.int ((p1 &&& (2147483647 : Int32)) % (9 : Int32))), .val (.int (1 : Int32)), .val (.ref (own_f1 ((p0 &&& (2147483647 : Int32)) % (9 : Int32)) w)), .val (.ref (own_f1 ((p1 &&& (2147483647 : Int32)) % (9 : Int32)) w))] [(.ref (own_f1 ((p1 &&& (2147483647 : Int32)) % (9 : Int32)) w)), (.ref (own_f1 ((p0 &&& (2147483647 : Int32)) % (9 : Int32)) w))])
          obtain ⟨cq12, kq12, q12a, q12b, q12c⟩ := isOf hZ e11 ((own_exa wd _).ext O0.2)
          obtain ⟨_, _, ⟨T12, L12, k12, n12⟩, -, X12, ⟨Lc12, hQ12, l12, y12, z12⟩, st12⟩ := X11.virtualBack hx (y := (⟨"com/example/deferral_ledger/deferralledger/model/EntryKind", "standsFor", "(Lcom/example/deferral_ledger/deferralledger/model/EntryKind;)Z"⟩ : MethodName)) (z := (⟨"com/example/deferral_ledger/deferralledger/model/EntryKind", "standsFor", "(Lcom/example/deferral_ledger/deferralledger/model/EntryKind;)Z"⟩ : MethodName)) hown (mvT hZ (hw _ (List.mem_of_getElem? (i := 10) rfl))) (mvT hZ (hw _ (List.mem_of_getElem? (i := 11) rfl))) (notFace_of_selects (args := #[]) (mvT hZ (hw _ (List.mem_of_getElem? (i := 13) rfl)))) (mvT hZ (hw _ (List.mem_of_getElem? (i := 13) rfl))) (mvT hZ (hw _ (List.mem_of_getElem? (i := 12) rfl))) (by decide) (backOf (W := 0) (rm2 l Z a0 hw [] (own_f1 ((p0 &&& (2147483647 : Int32)) % (9 : Int32)) w) (own_f1 ((p1 &&& (2147483647 : Int32)) % (9 : Int32)) w) (own_rev ((p0 &&& (2147483647 : Int32)) % (9 : Int32)) w) h0 n0 Z0 (own_rev_ref _ w) ((own_fld wd _).ext O0.2)) hZ (hw _ (List.mem_of_getElem? (i := 14) rfl)) (hw _ (List.mem_of_getElem? (i := 6) rfl)) (by decide) (by decide)) q12a q12c (g := (mkF m 63 #[.val (.int p0), .val (.int p1), .val (.int ((p0 &&& (2147483647 : Int32)) % (9 : Int32))), .val (.int ((p1 &&& (2147483647 : Int32)) % (9 : Int32))), .val (.int (1 : Int32)), .val (.ref (own_f1 ((p0 &&& (2147483647 : Int32)) % (9 : Int32)) w)), .val (.ref (own_f1 ((p1 &&& (2147483647 : Int32)) % (9 : Int32)) w))] [(.ref (own_f1 ((p1 &&& (2147483647 : Int32)) % (9 : Int32)) w)), (.ref (own_f1 ((p0 &&& (2147483647 : Int32)) % (9 : Int32)) w))])) rfl (by rw [hml]; rfl) (Steps.refl _) (argsL := [(.ref (own_f1 ((p1 &&& (2147483647 : Int32)) % (9 : Int32)) w))]) (rest := []) (lenOf own_pd3 rfl) rfl (by show 2 * 0 + _ ≤ _; exact Nat.le_of_eq rfl) (hb hby at_63) (fun _ _ => ⟨rfl, e11, (by decide : 0 + 0 ≤ _), (by decide : 0 + 0 ≤ _)⟩)
          dsimp only [Pt.U, Pt.locs, Pt.cells, Pt.slots] at X12 l12 y12 z12 st12 hQ12
          subst l12 y12 z12
          obtain ⟨rfl, N12q, e12⟩ := hQ12
          have N12 := Fr.app N11 N12q
          refine Go.tr st12 ?_
          show Go _ _ _ _ T12 (mkF m 66 #[.val (.int p0), .val (.int p1), .val (.int ((p0 &&& (2147483647 : Int32)) % (9 : Int32))), .val (.int ((p1 &&& (2147483647 : Int32)) % (9 : Int32))), .val (.int (1 : Int32)), .val (.ref (own_f1 ((p0 &&& (2147483647 : Int32)) % (9 : Int32)) w)), .val (.ref (own_f1 ((p1 &&& (2147483647 : Int32)) % (9 : Int32)) w))] [(.int (own_f2 (own_f1 ((p0 &&& (2147483647 : Int32)) % (9 : Int32)) w) (own_f1 ((p1 &&& (2147483647 : Int32)) % (9 : Int32)) w) (own_rev ((p0 &&& (2147483647 : Int32)) % (9 : Int32)) w)))])
          refine Go.step (fun _ zz => XS.iload X12.here hx rfl (hb hby at_66) rfl zz) ?_
          show Go _ _ _ _ T12 (mkF m 68 #[.val (.int p0), .val (.int p1), .val (.int ((p0 &&& (2147483647 : Int32)) % (9 : Int32))), .val (.int ((p1 &&& (2147483647 : Int32)) % (9 : Int32))), .val (.int (1 : Int32)), .val (.ref (own_f1 ((p0 &&& (2147483647 : Int32)) % (9 : Int32)) w)), .val (.ref (own_f1 ((p1 &&& (2147483647 : Int32)) % (9 : Int32)) w))] [(.int (1 : Int32)), (.int (own_f2 (own_f1 ((p0 &&& (2147483647 : Int32)) % (9 : Int32)) w) (own_f1 ((p1 &&& (2147483647 : Int32)) % (9 : Int32)) w) (own_rev ((p0 &&& (2147483647 : Int32)) % (9 : Int32)) w)))])
          refine Go.step (fun _ zz => XS.icmpNo X12.here hx rfl (hb hby at_68) rfl (teq ((own_fin wd (own_in p0) (own_in p1)).trans (by rw [if_neg hc18, if_neg hc23, if_pos hc32, if_pos hc37]))).2 zz) ?_
          show Go _ _ _ _ T12 (mkF m 71 #[.val (.int p0), .val (.int p1), .val (.int ((p0 &&& (2147483647 : Int32)) % (9 : Int32))), .val (.int ((p1 &&& (2147483647 : Int32)) % (9 : Int32))), .val (.int (1 : Int32)), .val (.ref (own_f1 ((p0 &&& (2147483647 : Int32)) % (9 : Int32)) w)), .val (.ref (own_f1 ((p1 &&& (2147483647 : Int32)) % (9 : Int32)) w))] [])
          refine Go.step (fun _ zz => XS.iconst X12.here hx rfl (hb hby at_71) zz) ?_
          show Go _ _ _ _ T12 (mkF m 72 #[.val (.int p0), .val (.int p1), .val (.int ((p0 &&& (2147483647 : Int32)) % (9 : Int32))), .val (.int ((p1 &&& (2147483647 : Int32)) % (9 : Int32))), .val (.int (1 : Int32)), .val (.ref (own_f1 ((p0 &&& (2147483647 : Int32)) % (9 : Int32)) w)), .val (.ref (own_f1 ((p1 &&& (2147483647 : Int32)) % (9 : Int32)) w))] [(.int (1 : Int32))])
          refine Go.step (fun _ zz => XS.goto X12.here hx rfl (pc0 := 72) (pc' := 76) rfl (hb hby at_72) (by decide) (by decide) zz) ?_
          show Go _ _ _ _ T12 (mkF m 76 #[.val (.int p0), .val (.int p1), .val (.int ((p0 &&& (2147483647 : Int32)) % (9 : Int32))), .val (.int ((p1 &&& (2147483647 : Int32)) % (9 : Int32))), .val (.int (1 : Int32)), .val (.ref (own_f1 ((p0 &&& (2147483647 : Int32)) % (9 : Int32)) w)), .val (.ref (own_f1 ((p1 &&& (2147483647 : Int32)) % (9 : Int32)) w))] [(.int (1 : Int32))])
          exact Go.retN X12 hx (t := .boolean) Bd.returns (by simp) (hb hby at_76) Bd.notSynchronized (z' := (1 : Int32)) (by decide) (⟨rfl, N12⟩) (by decide) (by decide)
        · refine Go.step (fun _ zz => XS.icmpYes X0.here hx rfl (pc0 := 37) (pc' := 44) rfl (hb hby at_37) rfl (feq hc37).2 (by decide) (by decide) zz) ?_
          show Go _ _ _ _ s₁ (mkF m 44 #[.val (.int p0), .val (.int p1), .val (.int ((p0 &&& (2147483647 : Int32)) % (9 : Int32))), .val (.int ((p1 &&& (2147483647 : Int32)) % (9 : Int32))), .unset, .unset, .unset] [])
          refine Go.step (fun _ zz => XS.iconst X0.here hx rfl (hb hby at_44) zz) ?_
          show Go _ _ _ _ s₁ (mkF m 45 #[.val (.int p0), .val (.int p1), .val (.int ((p0 &&& (2147483647 : Int32)) % (9 : Int32))), .val (.int ((p1 &&& (2147483647 : Int32)) % (9 : Int32))), .unset, .unset, .unset] [(.int (0 : Int32))])
          refine Go.step (fun _ zz => XS.istore X0.here hx rfl (hb hby at_45) rfl (l' := #[.val (.int p0), .val (.int p1), .val (.int ((p0 &&& (2147483647 : Int32)) % (9 : Int32))), .val (.int ((p1 &&& (2147483647 : Int32)) % (9 : Int32))), .val (.int (0 : Int32)), .unset, .unset]) rfl zz) ?_
          show Go _ _ _ _ s₁ (mkF m 47 #[.val (.int p0), .val (.int p1), .val (.int ((p0 &&& (2147483647 : Int32)) % (9 : Int32))), .val (.int ((p1 &&& (2147483647 : Int32)) % (9 : Int32))), .val (.int (0 : Int32)), .unset, .unset] [])
          refine Go.step (fun _ zz => XS.iloadN X0.here hx rfl (hb hby at_47) rfl zz) ?_
          show Go _ _ _ _ s₁ (mkF m 48 #[.val (.int p0), .val (.int p1), .val (.int ((p0 &&& (2147483647 : Int32)) % (9 : Int32))), .val (.int ((p1 &&& (2147483647 : Int32)) % (9 : Int32))), .val (.int (0 : Int32)), .unset, .unset] [(.int ((p0 &&& (2147483647 : Int32)) % (9 : Int32)))])
          obtain ⟨_, _, ⟨T13, L13, k13, n13⟩, -, X13, ⟨Lc13, hQ13, l13, y13, z13⟩, st13⟩ := Jvm.LawKit.callS X0 hx (y := (⟨"com/example/deferral_ledger/deferralledger/model/EntryKindStandsForPinLaw", "kind", "(I)Lcom/example/deferral_ledger/deferralledger/model/EntryKind;"⟩ : MethodName)) hown (mvT hZ (hw _ (List.mem_of_getElem? (i := 1) rfl))) (mvT hZ (hw _ (List.mem_of_getElem? (i := 2) rfl))) (mvT hZ (hw _ (List.mem_of_getElem? (i := 3) rfl))) (mvT hZ (hw _ (List.mem_of_getElem? (i := 4) rfl))) (by decide) (backOf (W := 0) (rm1 l Z a0 hw [] ((p0 &&& (2147483647 : Int32)) % (9 : Int32)) w h0 n0 Z0 O0 wd) hZ (hw _ (List.mem_of_getElem? (i := 4) rfl)) (hw _ (List.mem_of_getElem? (i := 3) rfl)) (by decide) (by decide)) (g := (mkF m 48 #[.val (.int p0), .val (.int p1), .val (.int ((p0 &&& (2147483647 : Int32)) % (9 : Int32))), .val (.int ((p1 &&& (2147483647 : Int32)) % (9 : Int32))), .val (.int (0 : Int32)), .unset, .unset] [(.int ((p0 &&& (2147483647 : Int32)) % (9 : Int32)))])) rfl (by rw [hml]; rfl) (argsL := [(.int ((p0 &&& (2147483647 : Int32)) % (9 : Int32)))]) (rest := []) (lenOf own_pd2 rfl) rfl (by show 2 * 0 + _ ≤ _; exact Nat.le_of_eq rfl) (hb hby at_48) (fun _ _ => ⟨rfl, e0, (by decide : 0 + 0 ≤ _), (by decide : 0 + 0 ≤ _)⟩)
          dsimp only [Pt.U, Pt.locs, Pt.cells, Pt.slots] at X13 l13 y13 z13 st13 hQ13
          subst l13 y13 z13
          obtain ⟨rfl, N13q, e13⟩ := hQ13
          have N13 := Fr.app N0 N13q
          refine Go.step st13 ?_
          show Go _ _ _ _ T13 (mkF m 51 #[.val (.int p0), .val (.int p1), .val (.int ((p0 &&& (2147483647 : Int32)) % (9 : Int32))), .val (.int ((p1 &&& (2147483647 : Int32)) % (9 : Int32))), .val (.int (0 : Int32)), .unset, .unset] [(.ref (own_f1 ((p0 &&& (2147483647 : Int32)) % (9 : Int32)) w))])
          refine Go.step (fun _ zz => XS.astore X13.here hx rfl (hb hby at_51) rfl rfl (l' := #[.val (.int p0), .val (.int p1), .val (.int ((p0 &&& (2147483647 : Int32)) % (9 : Int32))), .val (.int ((p1 &&& (2147483647 : Int32)) % (9 : Int32))), .val (.int (0 : Int32)), .val (.ref (own_f1 ((p0 &&& (2147483647 : Int32)) % (9 : Int32)) w)), .unset]) rfl zz) ?_
          show Go _ _ _ _ T13 (mkF m 53 #[.val (.int p0), .val (.int p1), .val (.int ((p0 &&& (2147483647 : Int32)) % (9 : Int32))), .val (.int ((p1 &&& (2147483647 : Int32)) % (9 : Int32))), .val (.int (0 : Int32)), .val (.ref (own_f1 ((p0 &&& (2147483647 : Int32)) % (9 : Int32)) w)), .unset] [])
          refine Go.step (fun _ zz => XS.iloadN X13.here hx rfl (hb hby at_53) rfl zz) ?_
          show Go _ _ _ _ T13 (mkF m 54 #[.val (.int p0), .val (.int p1), .val (.int ((p0 &&& (2147483647 : Int32)) % (9 : Int32))), .val (.int ((p1 &&& (2147483647 : Int32)) % (9 : Int32))), .val (.int (0 : Int32)), .val (.ref (own_f1 ((p0 &&& (2147483647 : Int32)) % (9 : Int32)) w)), .unset] [(.int ((p1 &&& (2147483647 : Int32)) % (9 : Int32)))])
          obtain ⟨_, _, ⟨T14, L14, k14, n14⟩, -, X14, ⟨Lc14, hQ14, l14, y14, z14⟩, st14⟩ := Jvm.LawKit.callS X13 hx (y := (⟨"com/example/deferral_ledger/deferralledger/model/EntryKindStandsForPinLaw", "kind", "(I)Lcom/example/deferral_ledger/deferralledger/model/EntryKind;"⟩ : MethodName)) hown (mvT hZ (hw _ (List.mem_of_getElem? (i := 1) rfl))) (mvT hZ (hw _ (List.mem_of_getElem? (i := 2) rfl))) (mvT hZ (hw _ (List.mem_of_getElem? (i := 3) rfl))) (mvT hZ (hw _ (List.mem_of_getElem? (i := 4) rfl))) (by decide) (backOf (W := 0) (rm1 l Z a0 hw [] ((p1 &&& (2147483647 : Int32)) % (9 : Int32)) w h0 n0 Z0 O0 wd) hZ (hw _ (List.mem_of_getElem? (i := 4) rfl)) (hw _ (List.mem_of_getElem? (i := 3) rfl)) (by decide) (by decide)) (g := (mkF m 54 #[.val (.int p0), .val (.int p1), .val (.int ((p0 &&& (2147483647 : Int32)) % (9 : Int32))), .val (.int ((p1 &&& (2147483647 : Int32)) % (9 : Int32))), .val (.int (0 : Int32)), .val (.ref (own_f1 ((p0 &&& (2147483647 : Int32)) % (9 : Int32)) w)), .unset] [(.int ((p1 &&& (2147483647 : Int32)) % (9 : Int32)))])) rfl (by rw [hml]; rfl) (argsL := [(.int ((p1 &&& (2147483647 : Int32)) % (9 : Int32)))]) (rest := []) (lenOf own_pd2 rfl) rfl (by show 2 * 0 + _ ≤ _; exact Nat.le_of_eq rfl) (hb hby at_54) (fun _ _ => ⟨rfl, e13, (by decide : 0 + 0 ≤ _), (by decide : 0 + 0 ≤ _)⟩)
          dsimp only [Pt.U, Pt.locs, Pt.cells, Pt.slots] at X14 l14 y14 z14 st14 hQ14
          subst l14 y14 z14
          obtain ⟨rfl, N14q, e14⟩ := hQ14
          have N14 := Fr.app N13 N14q
          refine Go.step st14 ?_
          show Go _ _ _ _ T14 (mkF m 57 #[.val (.int p0), .val (.int p1), .val (.int ((p0 &&& (2147483647 : Int32)) % (9 : Int32))), .val (.int ((p1 &&& (2147483647 : Int32)) % (9 : Int32))), .val (.int (0 : Int32)), .val (.ref (own_f1 ((p0 &&& (2147483647 : Int32)) % (9 : Int32)) w)), .unset] [(.ref (own_f1 ((p1 &&& (2147483647 : Int32)) % (9 : Int32)) w))])
          refine Go.step (fun _ zz => XS.astore X14.here hx rfl (hb hby at_57) rfl rfl (l' := #[.val (.int p0), .val (.int p1), .val (.int ((p0 &&& (2147483647 : Int32)) % (9 : Int32))), .val (.int ((p1 &&& (2147483647 : Int32)) % (9 : Int32))), .val (.int (0 : Int32)), .val (.ref (own_f1 ((p0 &&& (2147483647 : Int32)) % (9 : Int32)) w)), .val (.ref (own_f1 ((p1 &&& (2147483647 : Int32)) % (9 : Int32)) w))]) rfl zz) ?_
          show Go _ _ _ _ T14 (mkF m 59 #[.val (.int p0), .val (.int p1), .val (.int ((p0 &&& (2147483647 : Int32)) % (9 : Int32))), .val (.int ((p1 &&& (2147483647 : Int32)) % (9 : Int32))), .val (.int (0 : Int32)), .val (.ref (own_f1 ((p0 &&& (2147483647 : Int32)) % (9 : Int32)) w)), .val (.ref (own_f1 ((p1 &&& (2147483647 : Int32)) % (9 : Int32)) w))] [])
          refine Go.step (fun _ zz => XS.aload X14.here hx rfl (hb hby at_59) rfl rfl zz) ?_
          show Go _ _ _ _ T14 (mkF m 61 #[.val (.int p0), .val (.int p1), .val (.int ((p0 &&& (2147483647 : Int32)) % (9 : Int32))), .val (.int ((p1 &&& (2147483647 : Int32)) % (9 : Int32))), .val (.int (0 : Int32)), .val (.ref (own_f1 ((p0 &&& (2147483647 : Int32)) % (9 : Int32)) w)), .val (.ref (own_f1 ((p1 &&& (2147483647 : Int32)) % (9 : Int32)) w))] [(.ref (own_f1 ((p0 &&& (2147483647 : Int32)) % (9 : Int32)) w))])
          refine Go.step (fun _ zz => XS.aload X14.here hx rfl (hb hby at_61) rfl rfl zz) ?_
          show Go _ _ _ _ T14 (mkF m 63 #[.val (.int p0), .val (.int p1), .val (.int ((p0 &&& (2147483647 : Int32)) % (9 : Int32))), .val (.int ((p1 &&& (2147483647 : Int32)) % (9 : Int32))), .val (.int (0 : Int32)), .val (.ref (own_f1 ((p0 &&& (2147483647 : Int32)) % (9 : Int32)) w)), .val (.ref (own_f1 ((p1 &&& (2147483647 : Int32)) % (9 : Int32)) w))] [(.ref (own_f1 ((p1 &&& (2147483647 : Int32)) % (9 : Int32)) w)), (.ref (own_f1 ((p0 &&& (2147483647 : Int32)) % (9 : Int32)) w))])
          obtain ⟨cq15, kq15, q15a, q15b, q15c⟩ := isOf hZ e14 ((own_exa wd _).ext O0.2)
          obtain ⟨_, _, ⟨T15, L15, k15, n15⟩, -, X15, ⟨Lc15, hQ15, l15, y15, z15⟩, st15⟩ := X14.virtualBack hx (y := (⟨"com/example/deferral_ledger/deferralledger/model/EntryKind", "standsFor", "(Lcom/example/deferral_ledger/deferralledger/model/EntryKind;)Z"⟩ : MethodName)) (z := (⟨"com/example/deferral_ledger/deferralledger/model/EntryKind", "standsFor", "(Lcom/example/deferral_ledger/deferralledger/model/EntryKind;)Z"⟩ : MethodName)) hown (mvT hZ (hw _ (List.mem_of_getElem? (i := 10) rfl))) (mvT hZ (hw _ (List.mem_of_getElem? (i := 11) rfl))) (notFace_of_selects (args := #[]) (mvT hZ (hw _ (List.mem_of_getElem? (i := 13) rfl)))) (mvT hZ (hw _ (List.mem_of_getElem? (i := 13) rfl))) (mvT hZ (hw _ (List.mem_of_getElem? (i := 12) rfl))) (by decide) (backOf (W := 0) (rm2 l Z a0 hw [] (own_f1 ((p0 &&& (2147483647 : Int32)) % (9 : Int32)) w) (own_f1 ((p1 &&& (2147483647 : Int32)) % (9 : Int32)) w) (own_rev ((p0 &&& (2147483647 : Int32)) % (9 : Int32)) w) h0 n0 Z0 (own_rev_ref _ w) ((own_fld wd _).ext O0.2)) hZ (hw _ (List.mem_of_getElem? (i := 14) rfl)) (hw _ (List.mem_of_getElem? (i := 6) rfl)) (by decide) (by decide)) q15a q15c (g := (mkF m 63 #[.val (.int p0), .val (.int p1), .val (.int ((p0 &&& (2147483647 : Int32)) % (9 : Int32))), .val (.int ((p1 &&& (2147483647 : Int32)) % (9 : Int32))), .val (.int (0 : Int32)), .val (.ref (own_f1 ((p0 &&& (2147483647 : Int32)) % (9 : Int32)) w)), .val (.ref (own_f1 ((p1 &&& (2147483647 : Int32)) % (9 : Int32)) w))] [(.ref (own_f1 ((p1 &&& (2147483647 : Int32)) % (9 : Int32)) w)), (.ref (own_f1 ((p0 &&& (2147483647 : Int32)) % (9 : Int32)) w))])) rfl (by rw [hml]; rfl) (Steps.refl _) (argsL := [(.ref (own_f1 ((p1 &&& (2147483647 : Int32)) % (9 : Int32)) w))]) (rest := []) (lenOf own_pd3 rfl) rfl (by show 2 * 0 + _ ≤ _; exact Nat.le_of_eq rfl) (hb hby at_63) (fun _ _ => ⟨rfl, e14, (by decide : 0 + 0 ≤ _), (by decide : 0 + 0 ≤ _)⟩)
          dsimp only [Pt.U, Pt.locs, Pt.cells, Pt.slots] at X15 l15 y15 z15 st15 hQ15
          subst l15 y15 z15
          obtain ⟨rfl, N15q, e15⟩ := hQ15
          have N15 := Fr.app N14 N15q
          refine Go.tr st15 ?_
          show Go _ _ _ _ T15 (mkF m 66 #[.val (.int p0), .val (.int p1), .val (.int ((p0 &&& (2147483647 : Int32)) % (9 : Int32))), .val (.int ((p1 &&& (2147483647 : Int32)) % (9 : Int32))), .val (.int (0 : Int32)), .val (.ref (own_f1 ((p0 &&& (2147483647 : Int32)) % (9 : Int32)) w)), .val (.ref (own_f1 ((p1 &&& (2147483647 : Int32)) % (9 : Int32)) w))] [(.int (own_f2 (own_f1 ((p0 &&& (2147483647 : Int32)) % (9 : Int32)) w) (own_f1 ((p1 &&& (2147483647 : Int32)) % (9 : Int32)) w) (own_rev ((p0 &&& (2147483647 : Int32)) % (9 : Int32)) w)))])
          refine Go.step (fun _ zz => XS.iload X15.here hx rfl (hb hby at_66) rfl zz) ?_
          show Go _ _ _ _ T15 (mkF m 68 #[.val (.int p0), .val (.int p1), .val (.int ((p0 &&& (2147483647 : Int32)) % (9 : Int32))), .val (.int ((p1 &&& (2147483647 : Int32)) % (9 : Int32))), .val (.int (0 : Int32)), .val (.ref (own_f1 ((p0 &&& (2147483647 : Int32)) % (9 : Int32)) w)), .val (.ref (own_f1 ((p1 &&& (2147483647 : Int32)) % (9 : Int32)) w))] [(.int (0 : Int32)), (.int (own_f2 (own_f1 ((p0 &&& (2147483647 : Int32)) % (9 : Int32)) w) (own_f1 ((p1 &&& (2147483647 : Int32)) % (9 : Int32)) w) (own_rev ((p0 &&& (2147483647 : Int32)) % (9 : Int32)) w)))])
          refine Go.step (fun _ zz => XS.icmpNo X15.here hx rfl (hb hby at_68) rfl (teq ((own_fin wd (own_in p0) (own_in p1)).trans (by rw [if_neg hc18, if_neg hc23, if_pos hc32, if_neg hc37]))).2 zz) ?_
          show Go _ _ _ _ T15 (mkF m 71 #[.val (.int p0), .val (.int p1), .val (.int ((p0 &&& (2147483647 : Int32)) % (9 : Int32))), .val (.int ((p1 &&& (2147483647 : Int32)) % (9 : Int32))), .val (.int (0 : Int32)), .val (.ref (own_f1 ((p0 &&& (2147483647 : Int32)) % (9 : Int32)) w)), .val (.ref (own_f1 ((p1 &&& (2147483647 : Int32)) % (9 : Int32)) w))] [])
          refine Go.step (fun _ zz => XS.iconst X15.here hx rfl (hb hby at_71) zz) ?_
          show Go _ _ _ _ T15 (mkF m 72 #[.val (.int p0), .val (.int p1), .val (.int ((p0 &&& (2147483647 : Int32)) % (9 : Int32))), .val (.int ((p1 &&& (2147483647 : Int32)) % (9 : Int32))), .val (.int (0 : Int32)), .val (.ref (own_f1 ((p0 &&& (2147483647 : Int32)) % (9 : Int32)) w)), .val (.ref (own_f1 ((p1 &&& (2147483647 : Int32)) % (9 : Int32)) w))] [(.int (1 : Int32))])
          refine Go.step (fun _ zz => XS.goto X15.here hx rfl (pc0 := 72) (pc' := 76) rfl (hb hby at_72) (by decide) (by decide) zz) ?_
          show Go _ _ _ _ T15 (mkF m 76 #[.val (.int p0), .val (.int p1), .val (.int ((p0 &&& (2147483647 : Int32)) % (9 : Int32))), .val (.int ((p1 &&& (2147483647 : Int32)) % (9 : Int32))), .val (.int (0 : Int32)), .val (.ref (own_f1 ((p0 &&& (2147483647 : Int32)) % (9 : Int32)) w)), .val (.ref (own_f1 ((p1 &&& (2147483647 : Int32)) % (9 : Int32)) w))] [(.int (1 : Int32))])
          exact Go.retN X15 hx (t := .boolean) Bd.returns (by simp) (hb hby at_76) Bd.notSynchronized (z' := (1 : Int32)) (by decide) (⟨rfl, N15⟩) (by decide) (by decide)
      · refine Go.step (fun _ zz => XS.icmpYes X0.here hx rfl (pc0 := 32) (pc' := 44) rfl (hb hby at_32) rfl (feq hc32).2 (by decide) (by decide) zz) ?_
        show Go _ _ _ _ s₁ (mkF m 44 #[.val (.int p0), .val (.int p1), .val (.int ((p0 &&& (2147483647 : Int32)) % (9 : Int32))), .val (.int ((p1 &&& (2147483647 : Int32)) % (9 : Int32))), .unset, .unset, .unset] [])
        refine Go.step (fun _ zz => XS.iconst X0.here hx rfl (hb hby at_44) zz) ?_
        show Go _ _ _ _ s₁ (mkF m 45 #[.val (.int p0), .val (.int p1), .val (.int ((p0 &&& (2147483647 : Int32)) % (9 : Int32))), .val (.int ((p1 &&& (2147483647 : Int32)) % (9 : Int32))), .unset, .unset, .unset] [(.int (0 : Int32))])
        refine Go.step (fun _ zz => XS.istore X0.here hx rfl (hb hby at_45) rfl (l' := #[.val (.int p0), .val (.int p1), .val (.int ((p0 &&& (2147483647 : Int32)) % (9 : Int32))), .val (.int ((p1 &&& (2147483647 : Int32)) % (9 : Int32))), .val (.int (0 : Int32)), .unset, .unset]) rfl zz) ?_
        show Go _ _ _ _ s₁ (mkF m 47 #[.val (.int p0), .val (.int p1), .val (.int ((p0 &&& (2147483647 : Int32)) % (9 : Int32))), .val (.int ((p1 &&& (2147483647 : Int32)) % (9 : Int32))), .val (.int (0 : Int32)), .unset, .unset] [])
        refine Go.step (fun _ zz => XS.iloadN X0.here hx rfl (hb hby at_47) rfl zz) ?_
        show Go _ _ _ _ s₁ (mkF m 48 #[.val (.int p0), .val (.int p1), .val (.int ((p0 &&& (2147483647 : Int32)) % (9 : Int32))), .val (.int ((p1 &&& (2147483647 : Int32)) % (9 : Int32))), .val (.int (0 : Int32)), .unset, .unset] [(.int ((p0 &&& (2147483647 : Int32)) % (9 : Int32)))])
        obtain ⟨_, _, ⟨T16, L16, k16, n16⟩, -, X16, ⟨Lc16, hQ16, l16, y16, z16⟩, st16⟩ := Jvm.LawKit.callS X0 hx (y := (⟨"com/example/deferral_ledger/deferralledger/model/EntryKindStandsForPinLaw", "kind", "(I)Lcom/example/deferral_ledger/deferralledger/model/EntryKind;"⟩ : MethodName)) hown (mvT hZ (hw _ (List.mem_of_getElem? (i := 1) rfl))) (mvT hZ (hw _ (List.mem_of_getElem? (i := 2) rfl))) (mvT hZ (hw _ (List.mem_of_getElem? (i := 3) rfl))) (mvT hZ (hw _ (List.mem_of_getElem? (i := 4) rfl))) (by decide) (backOf (W := 0) (rm1 l Z a0 hw [] ((p0 &&& (2147483647 : Int32)) % (9 : Int32)) w h0 n0 Z0 O0 wd) hZ (hw _ (List.mem_of_getElem? (i := 4) rfl)) (hw _ (List.mem_of_getElem? (i := 3) rfl)) (by decide) (by decide)) (g := (mkF m 48 #[.val (.int p0), .val (.int p1), .val (.int ((p0 &&& (2147483647 : Int32)) % (9 : Int32))), .val (.int ((p1 &&& (2147483647 : Int32)) % (9 : Int32))), .val (.int (0 : Int32)), .unset, .unset] [(.int ((p0 &&& (2147483647 : Int32)) % (9 : Int32)))])) rfl (by rw [hml]; rfl) (argsL := [(.int ((p0 &&& (2147483647 : Int32)) % (9 : Int32)))]) (rest := []) (lenOf own_pd2 rfl) rfl (by show 2 * 0 + _ ≤ _; exact Nat.le_of_eq rfl) (hb hby at_48) (fun _ _ => ⟨rfl, e0, (by decide : 0 + 0 ≤ _), (by decide : 0 + 0 ≤ _)⟩)
        dsimp only [Pt.U, Pt.locs, Pt.cells, Pt.slots] at X16 l16 y16 z16 st16 hQ16
        subst l16 y16 z16
        obtain ⟨rfl, N16q, e16⟩ := hQ16
        have N16 := Fr.app N0 N16q
        refine Go.step st16 ?_
        show Go _ _ _ _ T16 (mkF m 51 #[.val (.int p0), .val (.int p1), .val (.int ((p0 &&& (2147483647 : Int32)) % (9 : Int32))), .val (.int ((p1 &&& (2147483647 : Int32)) % (9 : Int32))), .val (.int (0 : Int32)), .unset, .unset] [(.ref (own_f1 ((p0 &&& (2147483647 : Int32)) % (9 : Int32)) w))])
        refine Go.step (fun _ zz => XS.astore X16.here hx rfl (hb hby at_51) rfl rfl (l' := #[.val (.int p0), .val (.int p1), .val (.int ((p0 &&& (2147483647 : Int32)) % (9 : Int32))), .val (.int ((p1 &&& (2147483647 : Int32)) % (9 : Int32))), .val (.int (0 : Int32)), .val (.ref (own_f1 ((p0 &&& (2147483647 : Int32)) % (9 : Int32)) w)), .unset]) rfl zz) ?_
        show Go _ _ _ _ T16 (mkF m 53 #[.val (.int p0), .val (.int p1), .val (.int ((p0 &&& (2147483647 : Int32)) % (9 : Int32))), .val (.int ((p1 &&& (2147483647 : Int32)) % (9 : Int32))), .val (.int (0 : Int32)), .val (.ref (own_f1 ((p0 &&& (2147483647 : Int32)) % (9 : Int32)) w)), .unset] [])
        refine Go.step (fun _ zz => XS.iloadN X16.here hx rfl (hb hby at_53) rfl zz) ?_
        show Go _ _ _ _ T16 (mkF m 54 #[.val (.int p0), .val (.int p1), .val (.int ((p0 &&& (2147483647 : Int32)) % (9 : Int32))), .val (.int ((p1 &&& (2147483647 : Int32)) % (9 : Int32))), .val (.int (0 : Int32)), .val (.ref (own_f1 ((p0 &&& (2147483647 : Int32)) % (9 : Int32)) w)), .unset] [(.int ((p1 &&& (2147483647 : Int32)) % (9 : Int32)))])
        obtain ⟨_, _, ⟨T17, L17, k17, n17⟩, -, X17, ⟨Lc17, hQ17, l17, y17, z17⟩, st17⟩ := Jvm.LawKit.callS X16 hx (y := (⟨"com/example/deferral_ledger/deferralledger/model/EntryKindStandsForPinLaw", "kind", "(I)Lcom/example/deferral_ledger/deferralledger/model/EntryKind;"⟩ : MethodName)) hown (mvT hZ (hw _ (List.mem_of_getElem? (i := 1) rfl))) (mvT hZ (hw _ (List.mem_of_getElem? (i := 2) rfl))) (mvT hZ (hw _ (List.mem_of_getElem? (i := 3) rfl))) (mvT hZ (hw _ (List.mem_of_getElem? (i := 4) rfl))) (by decide) (backOf (W := 0) (rm1 l Z a0 hw [] ((p1 &&& (2147483647 : Int32)) % (9 : Int32)) w h0 n0 Z0 O0 wd) hZ (hw _ (List.mem_of_getElem? (i := 4) rfl)) (hw _ (List.mem_of_getElem? (i := 3) rfl)) (by decide) (by decide)) (g := (mkF m 54 #[.val (.int p0), .val (.int p1), .val (.int ((p0 &&& (2147483647 : Int32)) % (9 : Int32))), .val (.int ((p1 &&& (2147483647 : Int32)) % (9 : Int32))), .val (.int (0 : Int32)), .val (.ref (own_f1 ((p0 &&& (2147483647 : Int32)) % (9 : Int32)) w)), .unset] [(.int ((p1 &&& (2147483647 : Int32)) % (9 : Int32)))])) rfl (by rw [hml]; rfl) (argsL := [(.int ((p1 &&& (2147483647 : Int32)) % (9 : Int32)))]) (rest := []) (lenOf own_pd2 rfl) rfl (by show 2 * 0 + _ ≤ _; exact Nat.le_of_eq rfl) (hb hby at_54) (fun _ _ => ⟨rfl, e16, (by decide : 0 + 0 ≤ _), (by decide : 0 + 0 ≤ _)⟩)
        dsimp only [Pt.U, Pt.locs, Pt.cells, Pt.slots] at X17 l17 y17 z17 st17 hQ17
        subst l17 y17 z17
        obtain ⟨rfl, N17q, e17⟩ := hQ17
        have N17 := Fr.app N16 N17q
        refine Go.step st17 ?_
        show Go _ _ _ _ T17 (mkF m 57 #[.val (.int p0), .val (.int p1), .val (.int ((p0 &&& (2147483647 : Int32)) % (9 : Int32))), .val (.int ((p1 &&& (2147483647 : Int32)) % (9 : Int32))), .val (.int (0 : Int32)), .val (.ref (own_f1 ((p0 &&& (2147483647 : Int32)) % (9 : Int32)) w)), .unset] [(.ref (own_f1 ((p1 &&& (2147483647 : Int32)) % (9 : Int32)) w))])
        refine Go.step (fun _ zz => XS.astore X17.here hx rfl (hb hby at_57) rfl rfl (l' := #[.val (.int p0), .val (.int p1), .val (.int ((p0 &&& (2147483647 : Int32)) % (9 : Int32))), .val (.int ((p1 &&& (2147483647 : Int32)) % (9 : Int32))), .val (.int (0 : Int32)), .val (.ref (own_f1 ((p0 &&& (2147483647 : Int32)) % (9 : Int32)) w)), .val (.ref (own_f1 ((p1 &&& (2147483647 : Int32)) % (9 : Int32)) w))]) rfl zz) ?_
        show Go _ _ _ _ T17 (mkF m 59 #[.val (.int p0), .val (.int p1), .val (.int ((p0 &&& (2147483647 : Int32)) % (9 : Int32))), .val (.int ((p1 &&& (2147483647 : Int32)) % (9 : Int32))), .val (.int (0 : Int32)), .val (.ref (own_f1 ((p0 &&& (2147483647 : Int32)) % (9 : Int32)) w)), .val (.ref (own_f1 ((p1 &&& (2147483647 : Int32)) % (9 : Int32)) w))] [])
        refine Go.step (fun _ zz => XS.aload X17.here hx rfl (hb hby at_59) rfl rfl zz) ?_
        show Go _ _ _ _ T17 (mkF m 61 #[.val (.int p0), .val (.int p1), .val (.int ((p0 &&& (2147483647 : Int32)) % (9 : Int32))), .val (.int ((p1 &&& (2147483647 : Int32)) % (9 : Int32))), .val (.int (0 : Int32)), .val (.ref (own_f1 ((p0 &&& (2147483647 : Int32)) % (9 : Int32)) w)), .val (.ref (own_f1 ((p1 &&& (2147483647 : Int32)) % (9 : Int32)) w))] [(.ref (own_f1 ((p0 &&& (2147483647 : Int32)) % (9 : Int32)) w))])
        refine Go.step (fun _ zz => XS.aload X17.here hx rfl (hb hby at_61) rfl rfl zz) ?_
        show Go _ _ _ _ T17 (mkF m 63 #[.val (.int p0), .val (.int p1), .val (.int ((p0 &&& (2147483647 : Int32)) % (9 : Int32))), .val (.int ((p1 &&& (2147483647 : Int32)) % (9 : Int32))), .val (.int (0 : Int32)), .val (.ref (own_f1 ((p0 &&& (2147483647 : Int32)) % (9 : Int32)) w)), .val (.ref (own_f1 ((p1 &&& (2147483647 : Int32)) % (9 : Int32)) w))] [(.ref (own_f1 ((p1 &&& (2147483647 : Int32)) % (9 : Int32)) w)), (.ref (own_f1 ((p0 &&& (2147483647 : Int32)) % (9 : Int32)) w))])
        obtain ⟨cq18, kq18, q18a, q18b, q18c⟩ := isOf hZ e17 ((own_exa wd _).ext O0.2)
        obtain ⟨_, _, ⟨T18, L18, k18, n18⟩, -, X18, ⟨Lc18, hQ18, l18, y18, z18⟩, st18⟩ := X17.virtualBack hx (y := (⟨"com/example/deferral_ledger/deferralledger/model/EntryKind", "standsFor", "(Lcom/example/deferral_ledger/deferralledger/model/EntryKind;)Z"⟩ : MethodName)) (z := (⟨"com/example/deferral_ledger/deferralledger/model/EntryKind", "standsFor", "(Lcom/example/deferral_ledger/deferralledger/model/EntryKind;)Z"⟩ : MethodName)) hown (mvT hZ (hw _ (List.mem_of_getElem? (i := 10) rfl))) (mvT hZ (hw _ (List.mem_of_getElem? (i := 11) rfl))) (notFace_of_selects (args := #[]) (mvT hZ (hw _ (List.mem_of_getElem? (i := 13) rfl)))) (mvT hZ (hw _ (List.mem_of_getElem? (i := 13) rfl))) (mvT hZ (hw _ (List.mem_of_getElem? (i := 12) rfl))) (by decide) (backOf (W := 0) (rm2 l Z a0 hw [] (own_f1 ((p0 &&& (2147483647 : Int32)) % (9 : Int32)) w) (own_f1 ((p1 &&& (2147483647 : Int32)) % (9 : Int32)) w) (own_rev ((p0 &&& (2147483647 : Int32)) % (9 : Int32)) w) h0 n0 Z0 (own_rev_ref _ w) ((own_fld wd _).ext O0.2)) hZ (hw _ (List.mem_of_getElem? (i := 14) rfl)) (hw _ (List.mem_of_getElem? (i := 6) rfl)) (by decide) (by decide)) q18a q18c (g := (mkF m 63 #[.val (.int p0), .val (.int p1), .val (.int ((p0 &&& (2147483647 : Int32)) % (9 : Int32))), .val (.int ((p1 &&& (2147483647 : Int32)) % (9 : Int32))), .val (.int (0 : Int32)), .val (.ref (own_f1 ((p0 &&& (2147483647 : Int32)) % (9 : Int32)) w)), .val (.ref (own_f1 ((p1 &&& (2147483647 : Int32)) % (9 : Int32)) w))] [(.ref (own_f1 ((p1 &&& (2147483647 : Int32)) % (9 : Int32)) w)), (.ref (own_f1 ((p0 &&& (2147483647 : Int32)) % (9 : Int32)) w))])) rfl (by rw [hml]; rfl) (Steps.refl _) (argsL := [(.ref (own_f1 ((p1 &&& (2147483647 : Int32)) % (9 : Int32)) w))]) (rest := []) (lenOf own_pd3 rfl) rfl (by show 2 * 0 + _ ≤ _; exact Nat.le_of_eq rfl) (hb hby at_63) (fun _ _ => ⟨rfl, e17, (by decide : 0 + 0 ≤ _), (by decide : 0 + 0 ≤ _)⟩)
        dsimp only [Pt.U, Pt.locs, Pt.cells, Pt.slots] at X18 l18 y18 z18 st18 hQ18
        subst l18 y18 z18
        obtain ⟨rfl, N18q, e18⟩ := hQ18
        have N18 := Fr.app N17 N18q
        refine Go.tr st18 ?_
        show Go _ _ _ _ T18 (mkF m 66 #[.val (.int p0), .val (.int p1), .val (.int ((p0 &&& (2147483647 : Int32)) % (9 : Int32))), .val (.int ((p1 &&& (2147483647 : Int32)) % (9 : Int32))), .val (.int (0 : Int32)), .val (.ref (own_f1 ((p0 &&& (2147483647 : Int32)) % (9 : Int32)) w)), .val (.ref (own_f1 ((p1 &&& (2147483647 : Int32)) % (9 : Int32)) w))] [(.int (own_f2 (own_f1 ((p0 &&& (2147483647 : Int32)) % (9 : Int32)) w) (own_f1 ((p1 &&& (2147483647 : Int32)) % (9 : Int32)) w) (own_rev ((p0 &&& (2147483647 : Int32)) % (9 : Int32)) w)))])
        refine Go.step (fun _ zz => XS.iload X18.here hx rfl (hb hby at_66) rfl zz) ?_
        show Go _ _ _ _ T18 (mkF m 68 #[.val (.int p0), .val (.int p1), .val (.int ((p0 &&& (2147483647 : Int32)) % (9 : Int32))), .val (.int ((p1 &&& (2147483647 : Int32)) % (9 : Int32))), .val (.int (0 : Int32)), .val (.ref (own_f1 ((p0 &&& (2147483647 : Int32)) % (9 : Int32)) w)), .val (.ref (own_f1 ((p1 &&& (2147483647 : Int32)) % (9 : Int32)) w))] [(.int (0 : Int32)), (.int (own_f2 (own_f1 ((p0 &&& (2147483647 : Int32)) % (9 : Int32)) w) (own_f1 ((p1 &&& (2147483647 : Int32)) % (9 : Int32)) w) (own_rev ((p0 &&& (2147483647 : Int32)) % (9 : Int32)) w)))])
        refine Go.step (fun _ zz => XS.icmpNo X18.here hx rfl (hb hby at_68) rfl (teq ((own_fin wd (own_in p0) (own_in p1)).trans (by rw [if_neg hc18, if_neg hc23, if_neg hc32]))).2 zz) ?_
        show Go _ _ _ _ T18 (mkF m 71 #[.val (.int p0), .val (.int p1), .val (.int ((p0 &&& (2147483647 : Int32)) % (9 : Int32))), .val (.int ((p1 &&& (2147483647 : Int32)) % (9 : Int32))), .val (.int (0 : Int32)), .val (.ref (own_f1 ((p0 &&& (2147483647 : Int32)) % (9 : Int32)) w)), .val (.ref (own_f1 ((p1 &&& (2147483647 : Int32)) % (9 : Int32)) w))] [])
        refine Go.step (fun _ zz => XS.iconst X18.here hx rfl (hb hby at_71) zz) ?_
        show Go _ _ _ _ T18 (mkF m 72 #[.val (.int p0), .val (.int p1), .val (.int ((p0 &&& (2147483647 : Int32)) % (9 : Int32))), .val (.int ((p1 &&& (2147483647 : Int32)) % (9 : Int32))), .val (.int (0 : Int32)), .val (.ref (own_f1 ((p0 &&& (2147483647 : Int32)) % (9 : Int32)) w)), .val (.ref (own_f1 ((p1 &&& (2147483647 : Int32)) % (9 : Int32)) w))] [(.int (1 : Int32))])
        refine Go.step (fun _ zz => XS.goto X18.here hx rfl (pc0 := 72) (pc' := 76) rfl (hb hby at_72) (by decide) (by decide) zz) ?_
        show Go _ _ _ _ T18 (mkF m 76 #[.val (.int p0), .val (.int p1), .val (.int ((p0 &&& (2147483647 : Int32)) % (9 : Int32))), .val (.int ((p1 &&& (2147483647 : Int32)) % (9 : Int32))), .val (.int (0 : Int32)), .val (.ref (own_f1 ((p0 &&& (2147483647 : Int32)) % (9 : Int32)) w)), .val (.ref (own_f1 ((p1 &&& (2147483647 : Int32)) % (9 : Int32)) w))] [(.int (1 : Int32))])
        exact Go.retN X18 hx (t := .boolean) Bd.returns (by simp) (hb hby at_76) Bd.notSynchronized (z' := (1 : Int32)) (by decide) (⟨rfl, N18⟩) (by decide) (by decide)
set_option maxRecDepth 65536 in
set_option maxHeartbeats 40000000 in
theorem comes_1 {Post : Tables → Env → Array Value → State → Outcome → State → Prop} (hpost : ∀ tb e args s v u, (limb_1_1.after args s (.returned v) u = true ∧ limb_1_2.after args s (.returned v) u = true ∧ True) → FrameEnd s (.returned v) u (Jvm.fieldLocs frame_1_writes args s ++ Jvm.arrayLocs frame_1_arrays args s ++ Jvm.staticLocs frame_1_statics s) 0 0 → Post tb e args s (.returned v) u) :
    ArmFor flags0 classFile x code maxLocals ret World_1 tables_1 room_1 Calls_1 rest_1 Pre_1 Post := by
  intro l hfl _ _ p e ha hc hk s m args below hf hA hF happ hP
  obtain ⟨hcalls, hrest, hpre⟩ := hP
  obtain ⟨-, -, -, hnamed, -, -, -, hat⟩ := (Spec.applies_iff hf).mp happ
  obtain ⟨hg, hn⟩ := and_e (Cond.before_iff.mp (show (Jvm.Cond.and given_1 narrow_1).before args s = true from hpre))
  obtain ⟨hg_a, hg_b⟩ := and_e hg
  obtain ⟨hg_b_a, hg_b_b⟩ := and_e hg_b
  obtain ⟨u0, u1, rfl⟩ : ∃ u0 u1 : Value, args = #[u0, u1] := by
    have hs : args.size = 2 := by simpa [Cond.value, given_1] using hg_a
    obtain ⟨L⟩ := args
    match L, hs with
    | [u0, u1], _ => exact ⟨u0, u1, rfl⟩
  have hw := fun d (hd : d ∈ tables_1) => atoms_spec (ws := Jvm.Cond.code x code maxLocals ret :: tables_1) hat d (List.mem_cons_of_mem _ hd)
  have hfit : Fit s := fun {y c} hc i hi => by
    obtain ⟨ha, rfl⟩ := Array.getElem?_eq_some_iff.mp hc
    have q := List.all_eq_true.mp ((Array.all_eq_true_iff_forall_mem.mp hF) _ (Array.getElem_mem ha)) i (List.mem_range.mpr hi)
    simpa [Array.getElem?_eq_getElem hi] using q
  obtain ⟨i0, ei0⟩ := is_v hg_b_a
  obtain rfl : u0 = (.int i0) := Option.some.inj ei0
  obtain ⟨i1, ei1⟩ := is_v hg_b_b
  obtain rfl : u1 = (.int i1) := Option.some.inj ei1
  obtain ⟨hn_a, hn_b⟩ := and_e hn
  obtain ⟨hn_b_a, hn_b_b⟩ := and_e hn_b
  obtain ⟨hn_b_b_a, hn_b_b_b⟩ := and_e hn_b_b
  obtain ⟨hn_b_b_b_a, hn_b_b_b_b⟩ := and_e hn_b_b_b
  obtain ⟨hn_b_b_b_b_a, hn_b_b_b_b_b⟩ := and_e hn_b_b_b_b
  obtain ⟨hn_b_b_b_b_b_a, hn_b_b_b_b_b_b⟩ := and_e hn_b_b_b_b_b
  obtain ⟨hn_b_b_b_b_b_b_a, hn_b_b_b_b_b_b_b⟩ := and_e hn_b_b_b_b_b_b
  obtain ⟨hn_b_b_b_b_b_b_b_a, hn_b_b_b_b_b_b_b_b⟩ := and_e hn_b_b_b_b_b_b_b
  obtain ⟨hn_b_b_b_b_b_b_b_b_a, hn_b_b_b_b_b_b_b_b_b⟩ := and_e hn_b_b_b_b_b_b_b_b
  obtain ⟨hn_b_b_b_b_b_b_b_b_b_a, hn_b_b_b_b_b_b_b_b_b_b⟩ := and_e hn_b_b_b_b_b_b_b_b_b
  obtain ⟨hn_b_b_b_b_b_b_b_b_b_b_a, hn_b_b_b_b_b_b_b_b_b_b_b⟩ := and_e hn_b_b_b_b_b_b_b_b_b_b
  obtain ⟨hn_b_b_b_b_b_b_b_b_b_b_b_a, hn_b_b_b_b_b_b_b_b_b_b_b_b⟩ := and_e hn_b_b_b_b_b_b_b_b_b_b_b
  obtain ⟨hn_b_b_b_b_b_b_b_b_b_b_b_b_a, hn_b_b_b_b_b_b_b_b_b_b_b_b_b⟩ := and_e hn_b_b_b_b_b_b_b_b_b_b_b_b
  obtain ⟨hn_b_b_b_b_b_b_b_b_b_b_b_b_b_a, hn_b_b_b_b_b_b_b_b_b_b_b_b_b_b⟩ := and_e hn_b_b_b_b_b_b_b_b_b_b_b_b_b
  obtain ⟨hn_b_b_b_b_b_b_b_b_b_b_b_b_b_b_a, hn_b_b_b_b_b_b_b_b_b_b_b_b_b_b_b⟩ := and_e hn_b_b_b_b_b_b_b_b_b_b_b_b_b_b
  obtain ⟨hn_b_b_b_b_b_b_b_b_b_b_b_b_b_b_b_a, hn_b_b_b_b_b_b_b_b_b_b_b_b_b_b_b_b⟩ := and_e hn_b_b_b_b_b_b_b_b_b_b_b_b_b_b_b
  obtain ⟨hn_b_b_b_b_b_b_b_b_b_b_b_b_b_b_b_b_a, hn_b_b_b_b_b_b_b_b_b_b_b_b_b_b_b_b_b⟩ := and_e hn_b_b_b_b_b_b_b_b_b_b_b_b_b_b_b_b
  obtain ⟨hn_b_b_b_b_b_b_b_b_b_b_b_b_b_b_b_b_b_a, hn_b_b_b_b_b_b_b_b_b_b_b_b_b_b_b_b_b_b⟩ := and_e hn_b_b_b_b_b_b_b_b_b_b_b_b_b_b_b_b_b
  obtain ⟨hn_b_b_b_b_b_b_b_b_b_b_b_b_b_b_b_b_b_b_a, hn_b_b_b_b_b_b_b_b_b_b_b_b_b_b_b_b_b_b_b⟩ := and_e hn_b_b_b_b_b_b_b_b_b_b_b_b_b_b_b_b_b_b
  obtain ⟨hn_b_b_b_b_b_b_b_b_b_b_b_b_b_b_b_b_b_b_b_a, hn_b_b_b_b_b_b_b_b_b_b_b_b_b_b_b_b_b_b_b_b⟩ := and_e hn_b_b_b_b_b_b_b_b_b_b_b_b_b_b_b_b_b_b_b
  obtain ⟨hn_b_b_b_b_b_b_b_b_b_b_b_b_b_b_b_b_b_b_b_b_a, hn_b_b_b_b_b_b_b_b_b_b_b_b_b_b_b_b_b_b_b_b_b⟩ := and_e hn_b_b_b_b_b_b_b_b_b_b_b_b_b_b_b_b_b_b_b_b
  obtain ⟨hn_b_b_b_b_b_b_b_b_b_b_b_b_b_b_b_b_b_b_b_b_b_a, hn_b_b_b_b_b_b_b_b_b_b_b_b_b_b_b_b_b_b_b_b_b_b⟩ := and_e hn_b_b_b_b_b_b_b_b_b_b_b_b_b_b_b_b_b_b_b_b_b
  obtain ⟨hn_b_b_b_b_b_b_b_b_b_b_b_b_b_b_b_b_b_b_b_b_b_b_a, hn_b_b_b_b_b_b_b_b_b_b_b_b_b_b_b_b_b_b_b_b_b_b_b⟩ := and_e hn_b_b_b_b_b_b_b_b_b_b_b_b_b_b_b_b_b_b_b_b_b_b
  obtain ⟨hn_b_b_b_b_b_b_b_b_b_b_b_b_b_b_b_b_b_b_b_b_b_b_b_a, hn_b_b_b_b_b_b_b_b_b_b_b_b_b_b_b_b_b_b_b_b_b_b_b_b⟩ := and_e hn_b_b_b_b_b_b_b_b_b_b_b_b_b_b_b_b_b_b_b_b_b_b_b
  obtain ⟨hn_b_b_b_b_b_b_b_b_b_b_b_b_b_b_b_b_b_b_b_b_b_b_b_b_a, hn_b_b_b_b_b_b_b_b_b_b_b_b_b_b_b_b_b_b_b_b_b_b_b_b_b⟩ := and_e hn_b_b_b_b_b_b_b_b_b_b_b_b_b_b_b_b_b_b_b_b_b_b_b_b
  obtain ⟨hn_b_b_b_b_b_b_b_b_b_b_b_b_b_b_b_b_b_b_b_b_b_b_b_b_b_a, hn_b_b_b_b_b_b_b_b_b_b_b_b_b_b_b_b_b_b_b_b_b_b_b_b_b_b⟩ := and_e hn_b_b_b_b_b_b_b_b_b_b_b_b_b_b_b_b_b_b_b_b_b_b_b_b_b
  obtain ⟨w0, ev0⟩ := exa_v hn_a
  obtain ⟨w1, ev1⟩ := exa_v hn_b_a
  obtain ⟨w2, ev2⟩ := exa_v hn_b_b_b_b_b_a
  obtain ⟨w3, ev3⟩ := exa_v hn_b_b_b_b_b_b_a
  obtain ⟨w4, ev4⟩ := exa_v hn_b_b_b_b_b_b_b_b_b_b_a
  obtain ⟨w5, ev5⟩ := exa_v hn_b_b_b_b_b_b_b_b_b_b_b_b_a
  obtain ⟨w6, ev6⟩ := exa_v hn_b_b_b_b_b_b_b_b_b_b_b_b_b_b_b_b_a
  obtain ⟨w7, ev7⟩ := exa_v hn_b_b_b_b_b_b_b_b_b_b_b_b_b_b_b_b_b_b_b_a
  obtain ⟨w8, ev8⟩ := exa_v hn_b_b_b_b_b_b_b_b_b_b_b_b_b_b_b_b_b_b_b_b_b_b_b_b_a
  have wd : Wd s (fun i => ([w0, w1, w2, w3, w4, w5, w6, w7, w8] : List Addr).getD i 0) := ⟨Sta.start ev0 (Or.inr ⟨(hw _ (List.mem_of_getElem? (i := 6) rfl)), (hw _ (List.mem_of_getElem? (i := 7) rfl))⟩), Exa.start ev0 hn_a, Sta.start ev1 (Or.inr ⟨(hw _ (List.mem_of_getElem? (i := 6) rfl)), (hw _ (List.mem_of_getElem? (i := 9) rfl))⟩), Exa.start ev1 hn_b_a, Sta.start ev2 (Or.inr ⟨(hw _ (List.mem_of_getElem? (i := 6) rfl)), (hw _ (List.mem_of_getElem? (i := 18) rfl))⟩), Exa.start ev2 hn_b_b_b_b_b_a, Sta.start ev3 (Or.inr ⟨(hw _ (List.mem_of_getElem? (i := 6) rfl)), (hw _ (List.mem_of_getElem? (i := 20) rfl))⟩), Exa.start ev3 hn_b_b_b_b_b_b_a, Sta.start ev4 (Or.inr ⟨(hw _ (List.mem_of_getElem? (i := 6) rfl)), (hw _ (List.mem_of_getElem? (i := 22) rfl))⟩), Exa.start ev4 hn_b_b_b_b_b_b_b_b_b_b_a, Sta.start ev5 (Or.inr ⟨(hw _ (List.mem_of_getElem? (i := 6) rfl)), (hw _ (List.mem_of_getElem? (i := 24) rfl))⟩), Exa.start ev5 hn_b_b_b_b_b_b_b_b_b_b_b_b_a, Sta.start ev6 (Or.inr ⟨(hw _ (List.mem_of_getElem? (i := 6) rfl)), (hw _ (List.mem_of_getElem? (i := 26) rfl))⟩), Exa.start ev6 hn_b_b_b_b_b_b_b_b_b_b_b_b_b_b_b_b_a, Sta.start ev7 (Or.inr ⟨(hw _ (List.mem_of_getElem? (i := 6) rfl)), (hw _ (List.mem_of_getElem? (i := 28) rfl))⟩), Exa.start ev7 hn_b_b_b_b_b_b_b_b_b_b_b_b_b_b_b_b_b_b_b_a, Sta.start ev8 (Or.inr ⟨(hw _ (List.mem_of_getElem? (i := 6) rfl)), (hw _ (List.mem_of_getElem? (i := 30) rfl))⟩), Exa.start ev8 hn_b_b_b_b_b_b_b_b_b_b_b_b_b_b_b_b_b_b_b_b_b_b_b_b_a, Fld.start ((fld_at ev0).symm.trans (own_eqi hn_b_b_a)), Fld.start ((fld_at ev1).symm.trans (own_eqi hn_b_b_b_a)), Fld.start ((fld_at ev0).symm.trans (null_v hn_b_b_b_b_a)), Fld.start ((fld_at ev2).symm.trans (own_eqi hn_b_b_b_b_b_b_b_a)), Fld.start ((fld_at ev3).symm.trans (own_eqi hn_b_b_b_b_b_b_b_b_a)), Fld.start ((fld_at ev2).symm.trans (null_v hn_b_b_b_b_b_b_b_b_b_a)), Fld.start ((fld_at ev4).symm.trans (own_eqi hn_b_b_b_b_b_b_b_b_b_b_b_a)), Fld.start ((fld_at ev5).symm.trans (own_eqi hn_b_b_b_b_b_b_b_b_b_b_b_b_b_a)), Fld.start ((fld_at ev5).symm.trans (own_eqr hn_b_b_b_b_b_b_b_b_b_b_b_b_b_b_a ev3)), Fld.start ((fld_at ev3).symm.trans (null_v hn_b_b_b_b_b_b_b_b_b_b_b_b_b_b_b_a)), Fld.start ((fld_at ev6).symm.trans (own_eqi hn_b_b_b_b_b_b_b_b_b_b_b_b_b_b_b_b_b_a)), Fld.start ((fld_at ev6).symm.trans (null_v hn_b_b_b_b_b_b_b_b_b_b_b_b_b_b_b_b_b_b_a)), Fld.start ((fld_at ev7).symm.trans (own_eqi hn_b_b_b_b_b_b_b_b_b_b_b_b_b_b_b_b_b_b_b_b_a)), Fld.start ((fld_at ev7).symm.trans (null_v hn_b_b_b_b_b_b_b_b_b_b_b_b_b_b_b_b_b_b_b_b_b_a)), Fld.start ((fld_at ev1).symm.trans (own_eqr hn_b_b_b_b_b_b_b_b_b_b_b_b_b_b_b_b_b_b_b_b_b_b_a ev0)), Fld.start ((fld_at ev4).symm.trans (null_v hn_b_b_b_b_b_b_b_b_b_b_b_b_b_b_b_b_b_b_b_b_b_b_b_a)), Fld.start ((fld_at ev8).symm.trans (own_eqi hn_b_b_b_b_b_b_b_b_b_b_b_b_b_b_b_b_b_b_b_b_b_b_b_b_b_a)), Fld.start ((fld_at ev8).symm.trans (null_v hn_b_b_b_b_b_b_b_b_b_b_b_b_b_b_b_b_b_b_b_b_b_b_b_b_b_b))⟩
  obtain ⟨n, o, h1, h2, h3, _, L, rfl, ⟨rfl, N⟩, hq⟩ := rm0 l s _ hw tables_1 i0 i1 (fun i => ([w0, w1, w2, w3, w4, w5, w6, w7, w8] : List Addr).getD i 0) s.heap s.heap.size (Nat.le_refl _) (Old.start s) wd p e ha hc hk s m _ below hf ((Spec.applies_iff_loose hf).mp happ).1 ⟨rfl, State.Warmed39.refl s, rfl⟩ trivial
  refine ⟨n, _, h1, h2, h3, hpost _ _ _ _ _ _ ⟨Cond.after_iff.mpr rfl, Cond.after_iff.mpr (eq_i res_at (Term.int_eval (1)) rfl), trivial⟩ ⟨hq.1, hq.2.1, (hq.2.2.sift fun y hy => Or.inr (N y hy)).mono (by decide) (by decide)⟩⟩
theorem main_1_1 : Claimed_1_1 := comes_1 fun _ _ _ _ _ _ h hF => ⟨h.1, hF⟩
theorem main_1_2 : Claimed_1_2 := comes_1 fun _ _ _ _ _ _ h hF => ⟨h.2.1, hF⟩
end Jvm.Pilot.@@N@@
namespace Jvm.Pilot.@@N@@
open Jvm Jvm.ClassFile Sem Op Lib Jvm.Free Jvm.Stand Jvm.Pilot.@@N@@.Jvm.D
/-! MADE BY PROGRAM (witnessworld.py) out of the Statement's table words and the real class files: 10 classes; the members and pool entries that the words name. The judged class is class 1, her method 2. -/
namespace start1
open Jvm.ClassFile
def u (s : String) : CpInfo := .utf8 (stringToUtf16 s)
/-- a pool by its gaps: so many unusable entries, then the entry; so many at the end -/
def gap : Nat → List CpInfo → List CpInfo
  | 0, r => r
  | n + 1, r => .unusable :: gap n r
def poolList (es : List (Nat × CpInfo)) (last : Nat) : List CpInfo := es.foldr (fun e r => gap e.1 (e.2 :: r)) (gap last [])
def pool (es : List (Nat × CpInfo)) (last : Nat) : Array CpInfo := ⟨poolList es last⟩
def fileOf (pool : Array CpInfo) (this : Nat) (attrs : Array Attribute := #[]) (ms : Array MethodInfo := #[]) (fl : Nat := 33) (sup : Nat := 0) (ifs : Array Nat := #[]) (fds : Array FieldInfo := #[]) : ClassFile where
  minorVersion := 0
  majorVersion := 65
  constantPool := pool
  accessFlags := fl
  thisClass := this
  superClass := sup
  interfaces := ifs
  fields := fds
  methods := ms
  attributes := attrs
def plain (name : String) (sup : Option ClassId) : Class where
  name := name
  kind := .ordinary
  loader := none
  accessFlags := 33
  super := sup
  interfaces := #[]
  cf := none
  fields := #[]
  methods := #[]
  instanceTypes := #[]
  staticTypes := #[]
  resolved := #[]
  callSites := []
  init := .initialized
  statics := none
  mirror := none

def pool0 : Array CpInfo := pool [(5, u "<init>"), (0, u "()V"), (1, .class_ 10), (1, u "java/lang/Object")] 113

def k0m0 : Method := { name := "<init>", desc := "()V", sig := { parameters := [], returnType := none }, accessFlags := 1, code := none }
/-- java/lang/Object -/
def k0 : Class := { plain "java/lang/Object" none with
  accessFlags := 33
  interfaces := #[]
  cf := some (fileOf pool0 8 #[] #[{ accessFlags := 1, nameIndex := 5, descriptorIndex := 6, attributes := #[] }] 33 0 #[] #[])
  fields := #[]
  methods := #[k0m0]
  instanceTypes := #[]
  staticTypes := #[]
  resolved := Array.replicate 124 none
  statics := none }

def pool1 : Array CpInfo := pool [(2, .class_ 4), (1, u "java/lang/Object"), (0, u "<init>"), (0, u "()V"), (0, .fieldref 8 9), (0, .class_ 10), (0, .nameAndType 11 12), (0, u "com/example/deferral_ledger/deferralledger/model/EntryKind"), (0, u "DEFERRAL"), (0, u "Lcom/example/deferral_ledger/deferralledger/model/EntryKind;"), (0, .fieldref 8 14), (0, .nameAndType 15 12), (0, u "MATCHING"), (0, .fieldref 8 17), (0, .nameAndType 18 12), (0, u "CORE"), (0, .fieldref 8 20), (0, .nameAndType 21 12), (0, u "DEFERRAL_REVERSED"), (0, .fieldref 8 23), (0, .nameAndType 24 12), (0, u "MATCHING_REVERSED"), (0, .fieldref 8 26), (0, .nameAndType 27 12), (0, u "INTEREST"), (0, .fieldref 8 29), (0, .nameAndType 30 12), (0, u "LATE_INTEREST"), (0, .fieldref 8 32), (0, .nameAndType 33 12), (0, u "EARNINGS"), (0, .fieldref 8 35), (0, .nameAndType 36 12), (0, u "PAYMENT"), (0, .integer 2147483647), (0, .methodref 39 40), (0, .class_ 41), (0, .nameAndType 42 43), (0, u "com/example/deferral_ledger/deferralledger/model/EntryKindStandsForPinLaw"), (0, u "kind"), (0, u "(I)Lcom/example/deferral_ledger/deferralledger/model/EntryKind;"), (0, .methodref 8 45), (0, .nameAndType 46 47), (0, u "standsFor"), (0, u "(Lcom/example/deferral_ledger/deferralledger/model/EntryKind;)Z"), (3, u "law"), (0, u "(II)Z")] 2

def k1m0 : Method := { name := "<init>", desc := "()V", sig := { parameters := [], returnType := none }, accessFlags := 2, code := none }
def k1c1 : Code := { maxStack := 2, maxLocals := 1, code := method_2_code, exceptionTable := #[], attributes := #[] }
def k1m1 : Method := { name := "kind", desc := "(I)Lcom/example/deferral_ledger/deferralledger/model/EntryKind;", sig := { parameters := [.int], returnType := some (.object "com/example/deferral_ledger/deferralledger/model/EntryKind") }, accessFlags := 10, code := some k1c1 }
def k1c2 : Code := { maxStack := 2, maxLocals := 7, code := code, exceptionTable := #[], attributes := #[] }
def k1m2 : Method := { name := "law", desc := "(II)Z", sig := { parameters := [.int, .int], returnType := some .boolean }, accessFlags := 9, code := some k1c2 }
/-- com/example/deferral_ledger/deferralledger/model/EntryKindStandsForPinLaw -/
def k1 : Class := { plain "com/example/deferral_ledger/deferralledger/model/EntryKindStandsForPinLaw" (some 0) with
  accessFlags := 49
  interfaces := #[]
  cf := some (fileOf pool1 39 #[] #[{ accessFlags := 2, nameIndex := 5, descriptorIndex := 6, attributes := #[] }, { accessFlags := 10, nameIndex := 42, descriptorIndex := 43, attributes := #[] }, { accessFlags := 9, nameIndex := 51, descriptorIndex := 52, attributes := #[] }] 49 2 #[] #[])
  fields := #[]
  methods := #[k1m0, k1m1, k1m2]
  instanceTypes := #[]
  staticTypes := #[]
  resolved := Array.replicate 55 none
  statics := none }

def pool2 : Array CpInfo := pool [(1, .class_ 2), (0, u "java/lang/constant/Constable"), (0, .class_ 4), (0, u "java/lang/Object")] 6

/-- java/lang/constant/Constable -/
def k2 : Class := { plain "java/lang/constant/Constable" (some 0) with
  accessFlags := 1537
  interfaces := #[]
  cf := some (fileOf pool2 1 #[] #[] 1537 3 #[] #[])
  fields := #[]
  methods := #[]
  instanceTypes := #[]
  staticTypes := #[]
  resolved := Array.replicate 11 none
  statics := none }

def pool3 : Array CpInfo := pool [(1, .class_ 2), (0, u "java/lang/Comparable"), (0, .class_ 4), (0, u "java/lang/Object")] 7

/-- java/lang/Comparable -/
def k3 : Class := { plain "java/lang/Comparable" (some 0) with
  accessFlags := 1537
  interfaces := #[]
  cf := some (fileOf pool3 1 #[] #[] 1537 3 #[] #[])
  fields := #[]
  methods := #[]
  instanceTypes := #[]
  staticTypes := #[]
  resolved := Array.replicate 12 none
  statics := none }

def pool4 : Array CpInfo := pool [(1, .class_ 2), (0, u "java/io/Serializable"), (0, .class_ 4), (0, u "java/lang/Object")] 2

/-- java/io/Serializable -/
def k4 : Class := { plain "java/io/Serializable" (some 0) with
  accessFlags := 1537
  interfaces := #[]
  cf := some (fileOf pool4 1 #[] #[] 1537 3 #[] #[])
  fields := #[]
  methods := #[]
  instanceTypes := #[]
  staticTypes := #[]
  resolved := Array.replicate 7 none
  statics := none }

def pool5 : Array CpInfo := pool [(2, .class_ 4), (1, u "java/lang/Enum"), (0, u "name"), (0, u "Ljava/lang/String;"), (2, u "ordinal"), (0, u "I"), (1, .class_ 14), (1, u "java/lang/Object"), (4, u "hash"), (86, .class_ 108), (1, u "java/lang/Enum$EnumDesc"), (2, .class_ 112), (0, u "java/lang/constant/Constable"), (0, .class_ 114), (0, u "java/lang/Comparable"), (0, .class_ 116), (0, u "java/io/Serializable")] 87

/-- java/lang/Enum -/
def k5 : Class := { plain "java/lang/Enum" (some 0) with
  accessFlags := 1057
  interfaces := #[2, 3, 4]
  cf := some (fileOf pool5 2 #[.nestMembers #[106]] #[] 1057 12 #[111, 113, 115] #[{ accessFlags := 18, nameIndex := 5, descriptorIndex := 6, attributes := #[] }, { accessFlags := 18, nameIndex := 9, descriptorIndex := 10, attributes := #[] }, { accessFlags := 2, nameIndex := 19, descriptorIndex := 10, attributes := #[] }])
  fields := #[{ name := "name", type := (.object "java/lang/String"), accessFlags := 18, slot := 0, constantValue := 0 }, { name := "ordinal", type := .int, accessFlags := 18, slot := 1, constantValue := 0 }, { name := "hash", type := .int, accessFlags := 2, slot := 2, constantValue := 0 }]
  methods := #[]
  instanceTypes := #[(.object "java/lang/String"), .int, .int]
  staticTypes := #[]
  resolved := Array.replicate 204 none
  statics := none }

def pool6 : Array CpInfo := pool [(1, .class_ 2), (0, u "com/example/deferral_ledger/deferralledger/model/EntryKind"), (2, u "DEFERRAL"), (0, u "Lcom/example/deferral_ledger/deferralledger/model/EntryKind;"), (2, u "MATCHING"), (2, u "CORE"), (2, u "DEFERRAL_REVERSED"), (2, u "MATCHING_REVERSED"), (2, u "INTEREST"), (2, u "LATE_INTEREST"), (2, u "EARNINGS"), (2, u "PAYMENT"), (2, u "$VALUES"), (0, u "[Lcom/example/deferral_ledger/deferralledger/model/EntryKind;"), (6, .class_ 43), (1, u "java/lang/Enum"), (8, u "word"), (0, u "Ljava/lang/String;"), (2, u "label"), (2, u "counterAccount"), (2, u "subaccount"), (0, u "Lcom/example/deferral_ledger/deferralledger/model/Subaccount;"), (0, .fieldref 1 65), (0, .nameAndType 66 6), (0, u "reverses"), (95, u "standsFor"), (0, u "(Lcom/example/deferral_ledger/deferralledger/model/EntryKind;)Z")] 27

def k6c0 : Code := { maxStack := 2, maxLocals := 2, code := prog_26_method_8_code, exceptionTable := #[], attributes := #[] }
def k6m0 : Method := { name := "standsFor", desc := "(Lcom/example/deferral_ledger/deferralledger/model/EntryKind;)Z", sig := { parameters := [(.object "com/example/deferral_ledger/deferralledger/model/EntryKind")], returnType := some .boolean }, accessFlags := 1, code := some k6c0 }
/-- com/example/deferral_ledger/deferralledger/model/EntryKind -/
def k6 : Class := { plain "com/example/deferral_ledger/deferralledger/model/EntryKind" (some 5) with
  accessFlags := 16433
  interfaces := #[]
  cf := some (fileOf pool6 1 #[] #[{ accessFlags := 1, nameIndex := 162, descriptorIndex := 163, attributes := #[] }] 16433 41 #[] #[{ accessFlags := 16409, nameIndex := 5, descriptorIndex := 6, attributes := #[] }, { accessFlags := 16409, nameIndex := 9, descriptorIndex := 6, attributes := #[] }, { accessFlags := 16409, nameIndex := 12, descriptorIndex := 6, attributes := #[] }, { accessFlags := 16409, nameIndex := 15, descriptorIndex := 6, attributes := #[] }, { accessFlags := 16409, nameIndex := 18, descriptorIndex := 6, attributes := #[] }, { accessFlags := 16409, nameIndex := 21, descriptorIndex := 6, attributes := #[] }, { accessFlags := 16409, nameIndex := 24, descriptorIndex := 6, attributes := #[] }, { accessFlags := 16409, nameIndex := 27, descriptorIndex := 6, attributes := #[] }, { accessFlags := 16409, nameIndex := 30, descriptorIndex := 6, attributes := #[] }, { accessFlags := 18, nameIndex := 52, descriptorIndex := 53, attributes := #[] }, { accessFlags := 18, nameIndex := 56, descriptorIndex := 53, attributes := #[] }, { accessFlags := 18, nameIndex := 59, descriptorIndex := 53, attributes := #[] }, { accessFlags := 18, nameIndex := 62, descriptorIndex := 63, attributes := #[] }, { accessFlags := 18, nameIndex := 66, descriptorIndex := 6, attributes := #[] }, { accessFlags := 4122, nameIndex := 33, descriptorIndex := 34, attributes := #[] }])
  fields := #[{ name := "DEFERRAL", type := (.object "com/example/deferral_ledger/deferralledger/model/EntryKind"), accessFlags := 16409, slot := 0, constantValue := 0 }, { name := "MATCHING", type := (.object "com/example/deferral_ledger/deferralledger/model/EntryKind"), accessFlags := 16409, slot := 1, constantValue := 0 }, { name := "CORE", type := (.object "com/example/deferral_ledger/deferralledger/model/EntryKind"), accessFlags := 16409, slot := 2, constantValue := 0 }, { name := "DEFERRAL_REVERSED", type := (.object "com/example/deferral_ledger/deferralledger/model/EntryKind"), accessFlags := 16409, slot := 3, constantValue := 0 }, { name := "MATCHING_REVERSED", type := (.object "com/example/deferral_ledger/deferralledger/model/EntryKind"), accessFlags := 16409, slot := 4, constantValue := 0 }, { name := "INTEREST", type := (.object "com/example/deferral_ledger/deferralledger/model/EntryKind"), accessFlags := 16409, slot := 5, constantValue := 0 }, { name := "LATE_INTEREST", type := (.object "com/example/deferral_ledger/deferralledger/model/EntryKind"), accessFlags := 16409, slot := 6, constantValue := 0 }, { name := "EARNINGS", type := (.object "com/example/deferral_ledger/deferralledger/model/EntryKind"), accessFlags := 16409, slot := 7, constantValue := 0 }, { name := "PAYMENT", type := (.object "com/example/deferral_ledger/deferralledger/model/EntryKind"), accessFlags := 16409, slot := 8, constantValue := 0 }, { name := "word", type := (.object "java/lang/String"), accessFlags := 18, slot := 3, constantValue := 0 }, { name := "label", type := (.object "java/lang/String"), accessFlags := 18, slot := 4, constantValue := 0 }, { name := "counterAccount", type := (.object "java/lang/String"), accessFlags := 18, slot := 5, constantValue := 0 }, { name := "subaccount", type := (.object "com/example/deferral_ledger/deferralledger/model/Subaccount"), accessFlags := 18, slot := 6, constantValue := 0 }, { name := "reverses", type := (.object "com/example/deferral_ledger/deferralledger/model/EntryKind"), accessFlags := 18, slot := 7, constantValue := 0 }, { name := "$VALUES", type := (.array (.object "com/example/deferral_ledger/deferralledger/model/EntryKind")), accessFlags := 4122, slot := 9, constantValue := 0 }]
  methods := #[k6m0]
  instanceTypes := #[(.object "java/lang/String"), .int, .int, (.object "java/lang/String"), (.object "java/lang/String"), (.object "java/lang/String"), (.object "com/example/deferral_ledger/deferralledger/model/Subaccount"), (.object "com/example/deferral_ledger/deferralledger/model/EntryKind")]
  staticTypes := #[(.object "com/example/deferral_ledger/deferralledger/model/EntryKind"), (.object "com/example/deferral_ledger/deferralledger/model/EntryKind"), (.object "com/example/deferral_ledger/deferralledger/model/EntryKind"), (.object "com/example/deferral_ledger/deferralledger/model/EntryKind"), (.object "com/example/deferral_ledger/deferralledger/model/EntryKind"), (.object "com/example/deferral_ledger/deferralledger/model/EntryKind"), (.object "com/example/deferral_ledger/deferralledger/model/EntryKind"), (.object "com/example/deferral_ledger/deferralledger/model/EntryKind"), (.object "com/example/deferral_ledger/deferralledger/model/EntryKind"), (.array (.object "com/example/deferral_ledger/deferralledger/model/EntryKind"))]
  resolved := Array.replicate 191 none
  statics := some 0 }

def pool7 : Array CpInfo := pool [(1, u "java/lang/Cloneable"), (0, .class_ 1), (0, u "java/lang/Object"), (0, .class_ 3)] 3

/-- java/lang/Cloneable -/
def k7 : Class := { plain "java/lang/Cloneable" (some 0) with
  accessFlags := 1537
  interfaces := #[]
  cf := some (fileOf pool7 2 #[] #[] 1537 4 #[] #[])
  fields := #[]
  methods := #[]
  instanceTypes := #[]
  staticTypes := #[]
  resolved := Array.replicate 8 none
  statics := none }

/-- the primitive byte -/
def k8 : Class := { plain "byte" none with kind := .primitive 'B', accessFlags := 0x411 }
/-- [B -/
def k9 : Class := { plain "[B" (some 0) with kind := .array 8 .byte, interfaces := #[7, 4], accessFlags := 1041 }

def heap : Heap := #[{ cls := 6, slots := #[.ref 1, .ref 2, .ref 3, .ref 4, .ref 5, .ref 6, .ref 7, .ref 8, .ref 9, .null], vm := .statics 6 },
  { cls := 6, slots := #[.null, .int 0, .int 0, .null, .null, .null, .null, .null], vm := .none },
  { cls := 6, slots := #[.null, .int 1, .int 0, .null, .null, .null, .null, .null], vm := .none },
  { cls := 6, slots := #[.null, .int 2, .int 0, .null, .null, .null, .null, .null], vm := .none },
  { cls := 6, slots := #[.null, .int 3, .int 0, .null, .null, .null, .null, .ref 1], vm := .none },
  { cls := 6, slots := #[.null, .int 4, .int 0, .null, .null, .null, .null, .ref 2], vm := .none },
  { cls := 6, slots := #[.null, .int 5, .int 0, .null, .null, .null, .null, .null], vm := .none },
  { cls := 6, slots := #[.null, .int 6, .int 0, .null, .null, .null, .null, .null], vm := .none },
  { cls := 6, slots := #[.null, .int 7, .int 0, .null, .null, .null, .null, .null], vm := .none },
  { cls := 6, slots := #[.null, .int 8, .int 0, .null, .null, .null, .null, .null], vm := .none }]
def classes : Array Class := #[k0, k1, k2, k3, k4, k5, k6, k7, k8, k9]
def interned : List (Array UInt16 × Addr) := []
def slotsUsed : Nat := 82
def theMethod : MethodId := ⟨1, 2⟩
def args0 : Array Value := #[.int 5, .int 5]
def aboutOver (below : List Frame) : State where
  vm := { classes := classes, interned := interned.toArray }
  heap := heap
  slotsUsed := slotsUsed
  threads := #[{ frames := .invoking theMethod args0 :: below }]
def below0 : List Frame := [.native { method := ⟨0, 0⟩, args := #[] }]
def about1 : State := aboutOver below0
def p0 : Program := .bare "" "" ""
def e0 : Env := launch0.env 0 0 0
theorem w_frames : about1.frames = Frame.invoking theMethod args0 :: below0 := rfl
set_option maxRecDepth 65536 in
theorem w_args : argsFit about1.vm theMethod args0 = true := by decide +kernel
set_option maxRecDepth 65536 in
theorem w_heap : heapFits about1 = true := by decide +kernel
set_option maxRecDepth 65536 in
theorem w_runnable : about1.curStatus? = some .runnable := by decide +kernel
set_option maxRecDepth 65536 in
theorem w_alone : about1.alone = true := by decide +kernel
set_option maxRecDepth 65536 in
theorem w_named : about1.methodNamed? x = some theMethod := by decide +kernel
set_option maxRecDepth 65536 in
theorem w_hears : about1.hears theMethod below0 = true := by decide +kernel
set_option maxRecDepth 65536 in
theorem w_ripe : about1.ripe theMethod args0 below0 = true := by decide +kernel
theorem w_running : about1.status = .running := rfl
set_option maxRecDepth 65536 in
theorem w_room : about1.hasRoom e0.platform room_1 = true :=
  launch0.hasRoom_least _ room_1 (by decide +kernel) (by decide +kernel) (by decide +kernel) (by decide +kernel) (by decide +kernel) (by decide +kernel)
theorem allAtoms_all (ts : List Jvm.Cond) (a : Array Jvm.Value) (st : Jvm.State) : (allAtoms ts).before a st = ts.all (fun c => c.before a st) := by
  induction ts with
  | nil => rfl
  | cons c t ih =>
    show (Jvm.Cond.and c (allAtoms t)).before a st = _
    rw [Jvm.Cond.before_and, ih, List.all_cons]
def words1 : List Jvm.Cond := Jvm.Cond.code x code maxLocals ret :: tables_1
/-- a 'code' word, met by the world's own term for the bytes: nothing is compared byte by byte -/
theorem code_word {y : MethodName} {bytes : ByteArray} {mx : Nat} {rt : Option FieldType} {a : Array Value} {s : State} {m : MethodId} {meth : Method} {c : Code} (h1 : s.methodNamed? y = some m) (h2 : s.vm.method? m = some meth) (h3 : meth.code = some c) (h4 : c.code = bytes)
    (h5 : (c.maxLocals == mx && c.exceptionTable.isEmpty && decide (c.maxStack ≤ mostOperands) && decide (meth.sig.returnType = rt) && !meth.locks && decide (parseMethodDescriptor y.desc = some meth.sig)) = true) : (Jvm.Cond.code y bytes mx rt).before a s = true := by
  simp only [Bool.and_eq_true, beq_iff_eq, Bool.not_eq_true', decide_eq_true_eq] at h5
  obtain ⟨⟨⟨⟨⟨g1, g2⟩, g3⟩, g4⟩, g5⟩, g6⟩ := h5
  simp [Cond.before, Cond.holds, Cond.value, h1, h2, h3, h4, g1, g2, g3, g4, g5, g6]
def isCode : Jvm.Cond → Bool
  | .code _ _ _ _ => true
  | _ => false
theorem all_split {L : List Jvm.Cond} {P : Jvm.Cond → Bool} (h1 : L.all (fun c => isCode c || P c) = true) (h2 : ∀ c ∈ L.filter isCode, P c = true) : L.all P = true := by
  refine List.all_eq_true.mpr fun c hc => ?_
  have h := List.all_eq_true.mp h1 c hc
  rcases Bool.eq_false_or_eq_true (isCode c) with hi | hi
  · exact h2 c (List.mem_filter.mpr ⟨hc, hi⟩)
  · simpa [hi] using h
set_option maxRecDepth 65536 in
theorem w_c0 : (Jvm.Cond.code x code maxLocals ret).before args0 about1 = true := code_word (m := ⟨1, 2⟩) (meth := k1m2) (c := k1c2) (by decide +kernel) rfl rfl rfl (by decide +kernel)
set_option maxRecDepth 65536 in
theorem w_c1 : (Jvm.Cond.code ({ cls := "com/example/deferral_ledger/deferralledger/model/EntryKindStandsForPinLaw", name := "kind", desc := "(I)Lcom/example/deferral_ledger/deferralledger/model/EntryKind;" } : Jvm.MethodName) method_2_code (1 : Nat) (Option.some (Jvm.ClassFile.FieldType.object "com/example/deferral_ledger/deferralledger/model/EntryKind"))).before args0 about1 = true := code_word (m := ⟨1, 1⟩) (meth := k1m1) (c := k1c1) (by decide +kernel) rfl rfl rfl (by decide +kernel)
set_option maxRecDepth 65536 in
theorem w_c2 : (Jvm.Cond.code ({ cls := "com/example/deferral_ledger/deferralledger/model/EntryKind", name := "standsFor", desc := "(Lcom/example/deferral_ledger/deferralledger/model/EntryKind;)Z" } : Jvm.MethodName) prog_26_method_8_code (2 : Nat) (Option.some Jvm.ClassFile.FieldType.boolean)).before args0 about1 = true := code_word (m := ⟨6, 0⟩) (meth := k6m0) (c := k6c0) (by decide +kernel) rfl rfl rfl (by decide +kernel)
def codes1 : List Jvm.Cond := [Jvm.Cond.code x code maxLocals ret, Jvm.Cond.code ({ cls := "com/example/deferral_ledger/deferralledger/model/EntryKindStandsForPinLaw", name := "kind", desc := "(I)Lcom/example/deferral_ledger/deferralledger/model/EntryKind;" } : Jvm.MethodName) method_2_code (1 : Nat) (Option.some (Jvm.ClassFile.FieldType.object "com/example/deferral_ledger/deferralledger/model/EntryKind")), Jvm.Cond.code ({ cls := "com/example/deferral_ledger/deferralledger/model/EntryKind", name := "standsFor", desc := "(Lcom/example/deferral_ledger/deferralledger/model/EntryKind;)Z" } : Jvm.MethodName) prog_26_method_8_code (2 : Nat) (Option.some Jvm.ClassFile.FieldType.boolean)]
set_option maxRecDepth 65536 in
theorem codes_eq : words1.filter isCode = codes1 := rfl
theorem w_codes : ∀ c ∈ words1.filter isCode, c.before args0 about1 = true := by
  rw [codes_eq]
  intro c hc
  simp only [codes1, List.mem_cons, List.not_mem_nil, or_false] at hc
  rcases hc with rfl | rfl | rfl
  · exact w_c0
  · exact w_c1
  · exact w_c2
set_option maxRecDepth 65536 in
theorem w_t1 : (words1.take 24).all (fun c => isCode c || c.before args0 about1) = true := by decide +kernel
set_option maxRecDepth 65536 in
theorem w_t2 : (words1.drop 24).all (fun c => isCode c || c.before args0 about1) = true := by decide +kernel
theorem w_tables : (allAtoms (Jvm.Cond.code x code maxLocals ret :: tables_1)).before args0 about1 = true := by
  rw [allAtoms_all]
  show words1.all (fun c => c.before args0 about1) = true
  refine all_split ?_ w_codes
  rw [← List.take_append_drop 24 words1, List.all_append, w_t1, w_t2]
  rfl
set_option maxRecDepth 65536 in
theorem w_case : (Jvm.Cond.and given_1 narrow_1).before args0 about1 = true := by decide +kernel
theorem w_applies : (headSpec (Jvm.Cond.code x code maxLocals ret :: tables_1) room_1).applies x e0.platform about1 = true :=
  (Spec.applies_iff w_frames).mpr ⟨w_running, w_runnable, w_alone, w_named, w_hears, w_ripe, w_room, w_tables⟩
theorem atStart : AtStart classFile x code maxLocals ret World_1 tables_1 room_1 Calls_1 rest_1 Pre_1 launch0 p0 e0 about1 theMethod args0 below0 :=
  ⟨lists_1, trivial, launch0.admits_env _ _ _, launch0.least_env, fairChoices_fair.cas, fairChoices_fair.clock, w_frames, w_args, w_heap, w_applies, trivial, trivial, w_case⟩
end start1
theorem witness_1 : WitnessClaimed_1 := ⟨start1.p0, start1.e0, start1.about1, start1.theMethod, start1.args0, start1.below0, start1.atStart⟩
end Jvm.Pilot.@@N@@
