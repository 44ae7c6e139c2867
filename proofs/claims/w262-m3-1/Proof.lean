import JvmDerived
import JvmDerived.Pilot.@@N@@Statement
import JvmDerived.Pilot.@@N@@Code
set_option linter.unusedVariables false
set_option linter.unusedSimpArgs false
namespace Jvm.Pilot.@@N@@
open Jvm Jvm.ClassFile Sem Op Lib Jvm.Free Jvm.Stand Jvm.LawKit Jvm.RoadKit Bundle Jvm.Pilot.@@N@@.Jvm.D
/-- the walk from here on: it comes to an end that meets R -/
def Go (tb : Tables) (e : Env) (below : List Frame) (R : Outcome → State → Prop) (T : State) (g : JFrame) : Prop :=
  ∃ s₂ o, Steps tb e below (T.setTop g) s₂ ∧ s₂.status = .running ∧ Ended s₂ below o ∧ R o s₂
def RT (Q : Option Value → Heap → List Loc → Prop) (s : State) (C S : Nat) : Outcome → State → Prop :=
  fun o U' => ∃ v L, o = .returned v ∧ Q v U'.heap L ∧ FrameEnd s o U' L C S
theorem Go.step {tb : Tables} {e : Env} {below : List Frame} {R : Outcome → State → Prop} {T T' : State} {g g' : JFrame} (h : ∀ t, Steps tb e below (T'.setTop g') t → Steps tb e below (T.setTop g) t) (k : Go tb e below R T' g') : Go tb e below R T g := by
  obtain ⟨s₂, o, h1, h2⟩ := k
  exact ⟨s₂, o, h _ h1, h2⟩
theorem Go.tr {tb : Tables} {e : Env} {below : List Frame} {R : Outcome → State → Prop} {T T' : State} {g g' : JFrame} (h : Steps tb e below (T.setTop g) (T'.setTop g')) (k : Go tb e below R T' g') : Go tb e below R T g :=
  Go.step (fun _ q => h.trans q) k
theorem Go.enter {tb : Tables} {e : Env} {below : List Frame} {Q : Option Value → Heap → List Loc → Prop} {s : State} {C S : Nat} {T : State} {g g' : JFrame} (q : g = g') (k : Go tb e below (RT Q s C S) T g') :
    ∃ s₂ o, Steps tb e below (T.setTop g) s₂ ∧ s₂.status = .running ∧ Ended s₂ below o ∧ ∃ v L, o = .returned v ∧ Q v s₂.heap L ∧ FrameEnd s o s₂ L C S := by
  subst q
  exact k
section Ret
variable {p : Program} {l : Launch} {e : Env} {R : Room} {s : State} {m : MethodId} {args : Array Value} {below : List Frame} {meth : Method} {c : Code} {T : State} {locs : List Loc} {cells slots : Nat} {Q : Option Value → Heap → List Loc → Prop} {C S : Nat} {pc : Nat} {Ls : Array Slot} {rest : List Value}
theorem Go.fin (X : Stand p l e R s m args below meth c T locs cells slots) {v : Option Value} {g : JFrame} (hv : meth.sig.returnType = none → v = none) (hlk : meth.locks = false)
    (hst : ∀ fs, (∀ (f : JFrame) (acts : List Action), f.method = m → f.locked = none → f.entered = [] → (doReturn e (T.setTop f) acts v).1 = T.setFrames fs) → Steps p.tables e below (T.setTop g) (T.setFrames fs))
    (hQ : Q v T.heap locs) (hc : cells ≤ C) (hs : slots ≤ S) : Go p.tables e below (RT Q s C S) T g := by
  obtain ⟨fs, hr, hrun, hended, hW, hsame⟩ := X.leave hv hlk
  exact ⟨_, _, hst fs hr, hrun, hended, _, _, rfl, hQ, ⟨_, rfl⟩, hW, hsame.mono hc hs⟩
theorem Go.retN (X : Stand p l e R s m args below meth c T locs cells slots) (hx : p.tables.exec = Jvm.exec) {z z' : Int32} {t : FieldType} (hret : meth.sig.returnType = some t) (ht : t = .boolean ∨ t = .byte ∨ t = .char ∨ t = .short) (hd : decode c.code pc = .ok (.ireturn, 1)) (hlk : meth.locks = false) (hz : nar t z = z')
    (hQ : Q (some (.int z')) T.heap locs) (hc : cells ≤ C) (hs : slots ≤ S) : Go p.tables e below (RT Q s C S) T (mkF m pc Ls (.int z :: rest)) := by
  subst hz
  exact Go.fin X (fun h => by rw [hret] at h; cases h) hlk (fun fs hr => Jvm.RoadKit.retN X hx hret ht hd hr) hQ hc hs
theorem Go.retI (X : Stand p l e R s m args below meth c T locs cells slots) (hx : p.tables.exec = Jvm.exec) {z : Int32} (hret : meth.sig.returnType = some .int) (hd : decode c.code pc = .ok (.ireturn, 1)) (hlk : meth.locks = false)
    (hQ : Q (some (.int z)) T.heap locs) (hc : cells ≤ C) (hs : slots ≤ S) : Go p.tables e below (RT Q s C S) T (mkF m pc Ls (.int z :: rest)) := by
  refine Go.fin X (fun h => by rw [hret] at h; cases h) hlk (fun fs hr => ?_) hQ hc hs
  have hm' : T.vm.method? m = some meth := X.method'
  have hn : narrow .int (.int z) = .int z := rfl
  show Steps p.tables e below (T.setTop { method := m, pc := pc, locals := Ls, stack := _ :: rest, locked := none }) _
  jvm_step X.here [X.here.top, hx, hd, hm', hret, hn]
  first | (intro acts; rw [hr _ acts rfl rfl rfl]) | rw [hr _ _ rfl rfl rfl]
  exact Steps.refl _
theorem Go.retJ (X : Stand p l e R s m args below meth c T locs cells slots) (hx : p.tables.exec = Jvm.exec) {z : Int64} (hret : meth.sig.returnType = some .long) (hd : decode c.code pc = .ok (.lreturn, 1)) (hlk : meth.locks = false)
    (hQ : Q (some (.long z)) T.heap locs) (hc : cells ≤ C) (hs : slots ≤ S) : Go p.tables e below (RT Q s C S) T (mkF m pc Ls (.long z :: rest)) := by
  refine Go.fin X (fun h => by rw [hret] at h; cases h) hlk (fun fs hr => ?_) hQ hc hs
  have hm' : T.vm.method? m = some meth := X.method'
  show Steps p.tables e below (T.setTop { method := m, pc := pc, locals := Ls, stack := _ :: rest, locked := none }) _
  jvm_step X.here [X.here.top, hx, hd, hm', hret, narrow]
  first | (intro acts; rw [hr _ acts rfl rfl rfl]) | rw [hr _ _ rfl rfl rfl]
  exact Steps.refl _
theorem Go.retA (X : Stand p l e R s m args below meth c T locs cells slots) (hx : p.tables.exec = Jvm.exec) {z : Value} {t : FieldType} (hret : meth.sig.returnType = some t) (ht : t.isReference = true) (hd : decode c.code pc = .ok (.areturn, 1)) (hz : z.isRef = true) (hlk : meth.locks = false)
    (hQ : Q (some z) T.heap locs) (hc : cells ≤ C) (hs : slots ≤ S) : Go p.tables e below (RT Q s C S) T (mkF m pc Ls (z :: rest)) := by
  refine Go.fin X (fun h => by rw [hret] at h; cases h) hlk (fun fs hr => ?_) hQ hc hs
  have hm' : T.vm.method? m = some meth := X.method'
  show Steps p.tables e below (T.setTop { method := m, pc := pc, locals := Ls, stack := _ :: rest, locked := none }) _
  jvm_step X.here [X.here.top, hx, hd, hm', hret, hz, ht]
  first | (intro acts; rw [hr _ acts rfl rfl rfl]) | rw [hr _ _ rfl rfl rfl]
  exact Steps.refl _
theorem Go.retV (X : Stand p l e R s m args below meth c T locs cells slots) (hx : p.tables.exec = Jvm.exec) (hret : meth.sig.returnType = none) (hd : decode c.code pc = .ok (.return_, 1)) (hlk : meth.locks = false)
    (hQ : Q none T.heap locs) (hc : cells ≤ C) (hs : slots ≤ S) : Go p.tables e below (RT Q s C S) T (mkF m pc Ls []) :=
  Go.fin X (fun _ => rfl) hlk (fun fs hr => X.returnOut hx hret hd hr) hQ hc hs
end Ret
theorem own_and_nonneg (a : Int32) : 0 ≤ (a &&& 2147483647).toInt := by
  have h : (a &&& 2147483647).toBitVec.msb = false := by
    rw [Int32.toBitVec_and, BitVec.msb_and]
    have : (2147483647 : Int32).toBitVec.msb = false := by decide
    rw [this, Bool.and_false]
  show 0 ≤ (a &&& 2147483647).toBitVec.toInt
  rw [BitVec.toInt_eq_msb_cond, h]
  simp
theorem own_mod (a n : Int32) (hn : 0 < n.toInt) : 0 ≤ ((a &&& 2147483647) % n).toInt ∧ ((a &&& 2147483647) % n).toInt < n.toInt := by
  rw [Int32.toInt_mod]
  have h := own_and_nonneg a
  exact ⟨Int.tmod_nonneg _ h, by have := Int.tmod_lt_of_pos (a &&& 2147483647).toInt hn; exact this⟩
theorem own_char (x : Int32) : 0 ≤ (x.toUInt32.toUInt16.toUInt32.toInt32).toInt ∧ (x.toUInt32.toUInt16.toUInt32.toInt32).toInt < 65536 := by
  generalize x.toUInt32.toUInt16 = u
  have h : u.toNat < 65536 := u.toNat_lt
  have : (u.toUInt32.toInt32).toInt = (u.toNat : Int) := by
    show (u.toUInt32.toBitVec).toInt = _
    rw [BitVec.toInt_eq_toNat_of_lt]
    · simp
    · simp; omega
  omega
theorem own_lrem (x y : Int64) : x - x / y * y = x % y := by
  apply Int64.toInt_inj.mp
  rw [Int64.toInt_sub, Int64.toInt_mul, Int64.toInt_div, Int64.toInt_mod, Int.tmod_def, Int.mul_comm y.toInt]
  have hb := Int.bmod_emod (x := x.toInt.tdiv y.toInt) (m := 2 ^ 64)
  rw [Int.sub_bmod_bmod]
  have e : (x.toInt - (x.toInt.tdiv y.toInt).bmod (2 ^ 64) * y.toInt).bmod (2 ^ 64) = (x.toInt - x.toInt.tdiv y.toInt * y.toInt).bmod (2 ^ 64) := by
    rw [← Int.sub_bmod_bmod, Int.bmod_mul_bmod, Int.sub_bmod_bmod]
  rw [e]
  have h := Int64.toInt_mod x y
  have h2 := (x % y).le_toInt
  have h3 := (x % y).toInt_lt
  rw [h, Int.tmod_def, Int.mul_comm y.toInt] at h2 h3
  apply Int.bmod_eq_of_le
  · simpa using h2
  · simpa using h3
theorem own_lremM {p : Program} {l : Launch} {e : Env} {R : Room} {s : State} {m : MethodId} {args : Array Value} {below : List Frame} {meth : Method} {c : Code} {T : State} {locs : List Loc} {cells slots : Nat} {g : JFrame} {target : State} (X : Stand p l e R s m args below meth c T locs cells slots) (hx : p.tables.exec = Jvm.exec) (hg : g.method = m) {x y : Int64} {rest : List Value} (hd : decode c.code g.pc = .ok (.lrem, 1)) (hs : g.stack = .long y :: .long x :: rest) (hy : y ≠ 0)
    (hr : Steps p.tables e below (T.setTop { g with pc := g.pc + 1, stack := .long (x % y) :: rest }) target) : Steps p.tables e below (T.setTop g) target := by
  have q := own_lrem x y
  exact XS.lrem X.here hx hg hd hs hy (by rw [q]; exact hr)
theorem own_selp {s : State} {args : Array Value} {C : String} {y z : MethodName} (hsel : (Cond.selects C z z).before args s = true) (hz : z.cls = y.cls) (hinst : (Cond.instanceMethod y).before args s = true) (hpriv : s.PrivateAt y) (hy : y.cls ≠ "java/lang/invoke/MethodHandle" ∧ y.cls ≠ "java/lang/invoke/VarHandle") : (Cond.selects y.cls y y).before args s = true := by
  obtain ⟨c, r, m, -, -, h3, -, k, h5, h6⟩ := Cond.selects_spec hsel
  exact selects_self_of_private (hz ▸ findClass_of_methodNamed h3) h5 h6 hpriv hinst hy
theorem own_eqi {t : Term} {k : Int32} {args : Array Value} {first : State} {o : Option Outcome} {s : State} {idx : List Nat} (h : (Cond.eq t (.int k)).value args first o s idx = some true) : t.eval args first o idx s = some (.int k) := by
  cases ht : t.eval args first o idx s with
  | none => simp [Cond.value, ht] at h
  | some x => cases x <;> simp [Cond.value, Term.eval, ht] at h ⊢; exact h
theorem own_eqr {t u : Term} {b : Addr} {args : Array Value} {first : State} {o : Option Outcome} {s : State} {idx : List Nat} (h : (Cond.eq t u).value args first o s idx = some true) (hu : u.eval args first o idx s = some (.ref b)) : t.eval args first o idx s = some (.ref b) := by
  cases ht : t.eval args first o idx s with
  | none => simp [Cond.value, ht] at h
  | some x => cases x <;> simp [Cond.value, ht, hu] at h ⊢; exact h
/-- what the case says of the statics -/
def Wd (Z : State) (w : Nat → Addr) : Prop := Sta Z Z.heap "com/example/deferral_ledger/deferralledger/model/EntryKind" "DEFERRAL" "Lcom/example/deferral_ledger/deferralledger/model/EntryKind;" (.ref (w 0)) ∧ Exa Z Z.heap (w 0) "com/example/deferral_ledger/deferralledger/model/EntryKind" ∧ Sta Z Z.heap "com/example/deferral_ledger/deferralledger/model/Subaccount" "DEFERRALS" "Lcom/example/deferral_ledger/deferralledger/model/Subaccount;" (.ref (w 1)) ∧ Exa Z Z.heap (w 1) "com/example/deferral_ledger/deferralledger/model/Subaccount" ∧ Sta Z Z.heap "com/example/deferral_ledger/deferralledger/model/EntryKind" "DEFERRAL_REVERSED" "Lcom/example/deferral_ledger/deferralledger/model/EntryKind;" (.ref (w 2)) ∧ Exa Z Z.heap (w 2) "com/example/deferral_ledger/deferralledger/model/EntryKind" ∧ Sta Z Z.heap "com/example/deferral_ledger/deferralledger/model/EntryKind" "CORE" "Lcom/example/deferral_ledger/deferralledger/model/EntryKind;" (.ref (w 3)) ∧ Exa Z Z.heap (w 3) "com/example/deferral_ledger/deferralledger/model/EntryKind" ∧ Sta Z Z.heap "com/example/deferral_ledger/deferralledger/model/Subaccount" "CORE" "Lcom/example/deferral_ledger/deferralledger/model/Subaccount;" (.ref (w 4)) ∧ Exa Z Z.heap (w 4) "com/example/deferral_ledger/deferralledger/model/Subaccount" ∧ Sta Z Z.heap "com/example/deferral_ledger/deferralledger/model/EntryKind" "MATCHING" "Lcom/example/deferral_ledger/deferralledger/model/EntryKind;" (.ref (w 5)) ∧ Exa Z Z.heap (w 5) "com/example/deferral_ledger/deferralledger/model/EntryKind" ∧ Sta Z Z.heap "com/example/deferral_ledger/deferralledger/model/Subaccount" "MATCHING" "Lcom/example/deferral_ledger/deferralledger/model/Subaccount;" (.ref (w 6)) ∧ Exa Z Z.heap (w 6) "com/example/deferral_ledger/deferralledger/model/Subaccount" ∧ Sta Z Z.heap "com/example/deferral_ledger/deferralledger/model/EntryKind" "EARNINGS" "Lcom/example/deferral_ledger/deferralledger/model/EntryKind;" (.ref (w 7)) ∧ Exa Z Z.heap (w 7) "com/example/deferral_ledger/deferralledger/model/EntryKind" ∧ Sta Z Z.heap "com/example/deferral_ledger/deferralledger/model/EntryKind" "MATCHING_REVERSED" "Lcom/example/deferral_ledger/deferralledger/model/EntryKind;" (.ref (w 8)) ∧ Exa Z Z.heap (w 8) "com/example/deferral_ledger/deferralledger/model/EntryKind" ∧ Sta Z Z.heap "com/example/deferral_ledger/deferralledger/model/EntryKind" "PAYMENT" "Lcom/example/deferral_ledger/deferralledger/model/EntryKind;" (.ref (w 9)) ∧ Exa Z Z.heap (w 9) "com/example/deferral_ledger/deferralledger/model/EntryKind" ∧ Sta Z Z.heap "com/example/deferral_ledger/deferralledger/model/EntryKind" "LATE_INTEREST" "Lcom/example/deferral_ledger/deferralledger/model/EntryKind;" (.ref (w 10)) ∧ Exa Z Z.heap (w 10) "com/example/deferral_ledger/deferralledger/model/EntryKind" ∧ Sta Z Z.heap "com/example/deferral_ledger/deferralledger/model/EntryKind" "INTEREST" "Lcom/example/deferral_ledger/deferralledger/model/EntryKind;" (.ref (w 11)) ∧ Exa Z Z.heap (w 11) "com/example/deferral_ledger/deferralledger/model/EntryKind" ∧ Fld Z Z.heap (w 0) "com/example/deferral_ledger/deferralledger/model/EntryKind" "subaccount" "Lcom/example/deferral_ledger/deferralledger/model/Subaccount;" (.ref (w 1)) ∧ Fld Z Z.heap (w 2) "com/example/deferral_ledger/deferralledger/model/EntryKind" "subaccount" "Lcom/example/deferral_ledger/deferralledger/model/Subaccount;" (.ref (w 1)) ∧ Fld Z Z.heap (w 3) "com/example/deferral_ledger/deferralledger/model/EntryKind" "subaccount" "Lcom/example/deferral_ledger/deferralledger/model/Subaccount;" (.ref (w 4)) ∧ Fld Z Z.heap (w 5) "com/example/deferral_ledger/deferralledger/model/EntryKind" "subaccount" "Lcom/example/deferral_ledger/deferralledger/model/Subaccount;" (.ref (w 6)) ∧ Fld Z Z.heap (w 7) "com/example/deferral_ledger/deferralledger/model/EntryKind" "subaccount" "Lcom/example/deferral_ledger/deferralledger/model/Subaccount;" .null ∧ Fld Z Z.heap (w 8) "com/example/deferral_ledger/deferralledger/model/EntryKind" "subaccount" "Lcom/example/deferral_ledger/deferralledger/model/Subaccount;" (.ref (w 6)) ∧ Fld Z Z.heap (w 9) "com/example/deferral_ledger/deferralledger/model/EntryKind" "subaccount" "Lcom/example/deferral_ledger/deferralledger/model/Subaccount;" .null ∧ Fld Z Z.heap (w 10) "com/example/deferral_ledger/deferralledger/model/EntryKind" "subaccount" "Lcom/example/deferral_ledger/deferralledger/model/Subaccount;" .null ∧ Fld Z Z.heap (w 11) "com/example/deferral_ledger/deferralledger/model/EntryKind" "subaccount" "Lcom/example/deferral_ledger/deferralledger/model/Subaccount;" .null
theorem wd0 {Z : State} {w : Nat → Addr} (wd : Wd Z w) : Sta Z Z.heap "com/example/deferral_ledger/deferralledger/model/EntryKind" "DEFERRAL" "Lcom/example/deferral_ledger/deferralledger/model/EntryKind;" (.ref (w 0)) := wd.1
theorem wd1 {Z : State} {w : Nat → Addr} (wd : Wd Z w) : Exa Z Z.heap (w 0) "com/example/deferral_ledger/deferralledger/model/EntryKind" := wd.2.1
theorem wd2 {Z : State} {w : Nat → Addr} (wd : Wd Z w) : Sta Z Z.heap "com/example/deferral_ledger/deferralledger/model/Subaccount" "DEFERRALS" "Lcom/example/deferral_ledger/deferralledger/model/Subaccount;" (.ref (w 1)) := wd.2.2.1
theorem wd3 {Z : State} {w : Nat → Addr} (wd : Wd Z w) : Exa Z Z.heap (w 1) "com/example/deferral_ledger/deferralledger/model/Subaccount" := wd.2.2.2.1
theorem wd4 {Z : State} {w : Nat → Addr} (wd : Wd Z w) : Sta Z Z.heap "com/example/deferral_ledger/deferralledger/model/EntryKind" "DEFERRAL_REVERSED" "Lcom/example/deferral_ledger/deferralledger/model/EntryKind;" (.ref (w 2)) := wd.2.2.2.2.1
theorem wd5 {Z : State} {w : Nat → Addr} (wd : Wd Z w) : Exa Z Z.heap (w 2) "com/example/deferral_ledger/deferralledger/model/EntryKind" := wd.2.2.2.2.2.1
theorem wd6 {Z : State} {w : Nat → Addr} (wd : Wd Z w) : Sta Z Z.heap "com/example/deferral_ledger/deferralledger/model/EntryKind" "CORE" "Lcom/example/deferral_ledger/deferralledger/model/EntryKind;" (.ref (w 3)) := wd.2.2.2.2.2.2.1
theorem wd7 {Z : State} {w : Nat → Addr} (wd : Wd Z w) : Exa Z Z.heap (w 3) "com/example/deferral_ledger/deferralledger/model/EntryKind" := wd.2.2.2.2.2.2.2.1
theorem wd8 {Z : State} {w : Nat → Addr} (wd : Wd Z w) : Sta Z Z.heap "com/example/deferral_ledger/deferralledger/model/Subaccount" "CORE" "Lcom/example/deferral_ledger/deferralledger/model/Subaccount;" (.ref (w 4)) := wd.2.2.2.2.2.2.2.2.1
theorem wd9 {Z : State} {w : Nat → Addr} (wd : Wd Z w) : Exa Z Z.heap (w 4) "com/example/deferral_ledger/deferralledger/model/Subaccount" := wd.2.2.2.2.2.2.2.2.2.1
theorem wd10 {Z : State} {w : Nat → Addr} (wd : Wd Z w) : Sta Z Z.heap "com/example/deferral_ledger/deferralledger/model/EntryKind" "MATCHING" "Lcom/example/deferral_ledger/deferralledger/model/EntryKind;" (.ref (w 5)) := wd.2.2.2.2.2.2.2.2.2.2.1
theorem wd11 {Z : State} {w : Nat → Addr} (wd : Wd Z w) : Exa Z Z.heap (w 5) "com/example/deferral_ledger/deferralledger/model/EntryKind" := wd.2.2.2.2.2.2.2.2.2.2.2.1
theorem wd12 {Z : State} {w : Nat → Addr} (wd : Wd Z w) : Sta Z Z.heap "com/example/deferral_ledger/deferralledger/model/Subaccount" "MATCHING" "Lcom/example/deferral_ledger/deferralledger/model/Subaccount;" (.ref (w 6)) := wd.2.2.2.2.2.2.2.2.2.2.2.2.1
theorem wd13 {Z : State} {w : Nat → Addr} (wd : Wd Z w) : Exa Z Z.heap (w 6) "com/example/deferral_ledger/deferralledger/model/Subaccount" := wd.2.2.2.2.2.2.2.2.2.2.2.2.2.1
theorem wd14 {Z : State} {w : Nat → Addr} (wd : Wd Z w) : Sta Z Z.heap "com/example/deferral_ledger/deferralledger/model/EntryKind" "EARNINGS" "Lcom/example/deferral_ledger/deferralledger/model/EntryKind;" (.ref (w 7)) := wd.2.2.2.2.2.2.2.2.2.2.2.2.2.2.1
theorem wd15 {Z : State} {w : Nat → Addr} (wd : Wd Z w) : Exa Z Z.heap (w 7) "com/example/deferral_ledger/deferralledger/model/EntryKind" := wd.2.2.2.2.2.2.2.2.2.2.2.2.2.2.2.1
theorem wd16 {Z : State} {w : Nat → Addr} (wd : Wd Z w) : Sta Z Z.heap "com/example/deferral_ledger/deferralledger/model/EntryKind" "MATCHING_REVERSED" "Lcom/example/deferral_ledger/deferralledger/model/EntryKind;" (.ref (w 8)) := wd.2.2.2.2.2.2.2.2.2.2.2.2.2.2.2.2.1
theorem wd17 {Z : State} {w : Nat → Addr} (wd : Wd Z w) : Exa Z Z.heap (w 8) "com/example/deferral_ledger/deferralledger/model/EntryKind" := wd.2.2.2.2.2.2.2.2.2.2.2.2.2.2.2.2.2.1
theorem wd18 {Z : State} {w : Nat → Addr} (wd : Wd Z w) : Sta Z Z.heap "com/example/deferral_ledger/deferralledger/model/EntryKind" "PAYMENT" "Lcom/example/deferral_ledger/deferralledger/model/EntryKind;" (.ref (w 9)) := wd.2.2.2.2.2.2.2.2.2.2.2.2.2.2.2.2.2.2.1
theorem wd19 {Z : State} {w : Nat → Addr} (wd : Wd Z w) : Exa Z Z.heap (w 9) "com/example/deferral_ledger/deferralledger/model/EntryKind" := wd.2.2.2.2.2.2.2.2.2.2.2.2.2.2.2.2.2.2.2.1
theorem wd20 {Z : State} {w : Nat → Addr} (wd : Wd Z w) : Sta Z Z.heap "com/example/deferral_ledger/deferralledger/model/EntryKind" "LATE_INTEREST" "Lcom/example/deferral_ledger/deferralledger/model/EntryKind;" (.ref (w 10)) := wd.2.2.2.2.2.2.2.2.2.2.2.2.2.2.2.2.2.2.2.2.1
theorem wd21 {Z : State} {w : Nat → Addr} (wd : Wd Z w) : Exa Z Z.heap (w 10) "com/example/deferral_ledger/deferralledger/model/EntryKind" := wd.2.2.2.2.2.2.2.2.2.2.2.2.2.2.2.2.2.2.2.2.2.1
theorem wd22 {Z : State} {w : Nat → Addr} (wd : Wd Z w) : Sta Z Z.heap "com/example/deferral_ledger/deferralledger/model/EntryKind" "INTEREST" "Lcom/example/deferral_ledger/deferralledger/model/EntryKind;" (.ref (w 11)) := wd.2.2.2.2.2.2.2.2.2.2.2.2.2.2.2.2.2.2.2.2.2.2.1
theorem wd23 {Z : State} {w : Nat → Addr} (wd : Wd Z w) : Exa Z Z.heap (w 11) "com/example/deferral_ledger/deferralledger/model/EntryKind" := wd.2.2.2.2.2.2.2.2.2.2.2.2.2.2.2.2.2.2.2.2.2.2.2.1
theorem wd24 {Z : State} {w : Nat → Addr} (wd : Wd Z w) : Fld Z Z.heap (w 0) "com/example/deferral_ledger/deferralledger/model/EntryKind" "subaccount" "Lcom/example/deferral_ledger/deferralledger/model/Subaccount;" (.ref (w 1)) := wd.2.2.2.2.2.2.2.2.2.2.2.2.2.2.2.2.2.2.2.2.2.2.2.2.1
theorem wd25 {Z : State} {w : Nat → Addr} (wd : Wd Z w) : Fld Z Z.heap (w 2) "com/example/deferral_ledger/deferralledger/model/EntryKind" "subaccount" "Lcom/example/deferral_ledger/deferralledger/model/Subaccount;" (.ref (w 1)) := wd.2.2.2.2.2.2.2.2.2.2.2.2.2.2.2.2.2.2.2.2.2.2.2.2.2.1
theorem wd26 {Z : State} {w : Nat → Addr} (wd : Wd Z w) : Fld Z Z.heap (w 3) "com/example/deferral_ledger/deferralledger/model/EntryKind" "subaccount" "Lcom/example/deferral_ledger/deferralledger/model/Subaccount;" (.ref (w 4)) := wd.2.2.2.2.2.2.2.2.2.2.2.2.2.2.2.2.2.2.2.2.2.2.2.2.2.2.1
theorem wd27 {Z : State} {w : Nat → Addr} (wd : Wd Z w) : Fld Z Z.heap (w 5) "com/example/deferral_ledger/deferralledger/model/EntryKind" "subaccount" "Lcom/example/deferral_ledger/deferralledger/model/Subaccount;" (.ref (w 6)) := wd.2.2.2.2.2.2.2.2.2.2.2.2.2.2.2.2.2.2.2.2.2.2.2.2.2.2.2.1
theorem wd28 {Z : State} {w : Nat → Addr} (wd : Wd Z w) : Fld Z Z.heap (w 7) "com/example/deferral_ledger/deferralledger/model/EntryKind" "subaccount" "Lcom/example/deferral_ledger/deferralledger/model/Subaccount;" .null := wd.2.2.2.2.2.2.2.2.2.2.2.2.2.2.2.2.2.2.2.2.2.2.2.2.2.2.2.2.1
theorem wd29 {Z : State} {w : Nat → Addr} (wd : Wd Z w) : Fld Z Z.heap (w 8) "com/example/deferral_ledger/deferralledger/model/EntryKind" "subaccount" "Lcom/example/deferral_ledger/deferralledger/model/Subaccount;" (.ref (w 6)) := wd.2.2.2.2.2.2.2.2.2.2.2.2.2.2.2.2.2.2.2.2.2.2.2.2.2.2.2.2.2.1
theorem wd30 {Z : State} {w : Nat → Addr} (wd : Wd Z w) : Fld Z Z.heap (w 9) "com/example/deferral_ledger/deferralledger/model/EntryKind" "subaccount" "Lcom/example/deferral_ledger/deferralledger/model/Subaccount;" .null := wd.2.2.2.2.2.2.2.2.2.2.2.2.2.2.2.2.2.2.2.2.2.2.2.2.2.2.2.2.2.2.1
theorem wd31 {Z : State} {w : Nat → Addr} (wd : Wd Z w) : Fld Z Z.heap (w 10) "com/example/deferral_ledger/deferralledger/model/EntryKind" "subaccount" "Lcom/example/deferral_ledger/deferralledger/model/Subaccount;" .null := wd.2.2.2.2.2.2.2.2.2.2.2.2.2.2.2.2.2.2.2.2.2.2.2.2.2.2.2.2.2.2.2.1
theorem wd32 {Z : State} {w : Nat → Addr} (wd : Wd Z w) : Fld Z Z.heap (w 11) "com/example/deferral_ledger/deferralledger/model/EntryKind" "subaccount" "Lcom/example/deferral_ledger/deferralledger/model/Subaccount;" .null := wd.2.2.2.2.2.2.2.2.2.2.2.2.2.2.2.2.2.2.2.2.2.2.2.2.2.2.2.2.2.2.2.2
theorem d1_0 : decode method_2_code 0 = .ok (.iload_n 0, 1) := by decide +kernel
theorem d1_1 : decode method_2_code 1 = .ok (.ifCond .ne 7, 3) := by decide +kernel
theorem d1_4 : decode method_2_code 4 = .ok (.getstatic 7, 3) := by decide +kernel
theorem d1_7 : decode method_2_code 7 = .ok (.areturn, 1) := by decide +kernel
theorem d1_8 : decode method_2_code 8 = .ok (.iload_n 0, 1) := by decide +kernel
theorem d1_9 : decode method_2_code 9 = .ok (.iconst 1, 1) := by decide +kernel
theorem d1_10 : decode method_2_code 10 = .ok (.if_icmp .ne 7, 3) := by decide +kernel
theorem d1_13 : decode method_2_code 13 = .ok (.getstatic 13, 3) := by decide +kernel
theorem d1_16 : decode method_2_code 16 = .ok (.areturn, 1) := by decide +kernel
theorem d1_17 : decode method_2_code 17 = .ok (.iload_n 0, 1) := by decide +kernel
theorem d1_18 : decode method_2_code 18 = .ok (.iconst 2, 1) := by decide +kernel
theorem d1_19 : decode method_2_code 19 = .ok (.if_icmp .ne 7, 3) := by decide +kernel
theorem d1_22 : decode method_2_code 22 = .ok (.getstatic 16, 3) := by decide +kernel
theorem d1_25 : decode method_2_code 25 = .ok (.areturn, 1) := by decide +kernel
theorem d1_26 : decode method_2_code 26 = .ok (.iload_n 0, 1) := by decide +kernel
theorem d1_27 : decode method_2_code 27 = .ok (.iconst 3, 1) := by decide +kernel
theorem d1_28 : decode method_2_code 28 = .ok (.if_icmp .ne 7, 3) := by decide +kernel
theorem d1_31 : decode method_2_code 31 = .ok (.getstatic 19, 3) := by decide +kernel
theorem d1_34 : decode method_2_code 34 = .ok (.areturn, 1) := by decide +kernel
theorem d1_35 : decode method_2_code 35 = .ok (.iload_n 0, 1) := by decide +kernel
theorem d1_36 : decode method_2_code 36 = .ok (.iconst 4, 1) := by decide +kernel
theorem d1_37 : decode method_2_code 37 = .ok (.if_icmp .ne 7, 3) := by decide +kernel
theorem d1_40 : decode method_2_code 40 = .ok (.getstatic 22, 3) := by decide +kernel
theorem d1_43 : decode method_2_code 43 = .ok (.areturn, 1) := by decide +kernel
theorem d1_44 : decode method_2_code 44 = .ok (.iload_n 0, 1) := by decide +kernel
theorem d1_45 : decode method_2_code 45 = .ok (.iconst 5, 1) := by decide +kernel
theorem d1_46 : decode method_2_code 46 = .ok (.if_icmp .ne 7, 3) := by decide +kernel
theorem d1_49 : decode method_2_code 49 = .ok (.getstatic 25, 3) := by decide +kernel
theorem d1_52 : decode method_2_code 52 = .ok (.areturn, 1) := by decide +kernel
theorem d1_53 : decode method_2_code 53 = .ok (.iload_n 0, 1) := by decide +kernel
theorem d1_54 : decode method_2_code 54 = .ok (.bipush 6, 2) := by decide +kernel
theorem d1_56 : decode method_2_code 56 = .ok (.if_icmp .ne 7, 3) := by decide +kernel
theorem d1_59 : decode method_2_code 59 = .ok (.getstatic 28, 3) := by decide +kernel
theorem d1_62 : decode method_2_code 62 = .ok (.areturn, 1) := by decide +kernel
theorem d1_63 : decode method_2_code 63 = .ok (.iload_n 0, 1) := by decide +kernel
theorem d1_64 : decode method_2_code 64 = .ok (.bipush 7, 2) := by decide +kernel
theorem d1_66 : decode method_2_code 66 = .ok (.if_icmp .ne 7, 3) := by decide +kernel
theorem d1_69 : decode method_2_code 69 = .ok (.getstatic 31, 3) := by decide +kernel
theorem d1_72 : decode method_2_code 72 = .ok (.areturn, 1) := by decide +kernel
theorem d1_73 : decode method_2_code 73 = .ok (.getstatic 34, 3) := by decide +kernel
theorem d1_76 : decode method_2_code 76 = .ok (.areturn, 1) := by decide +kernel
theorem own_pn0 : plainName "com/example/deferral_ledger/deferralledger/model/EntryKindIsCreditPinLaw" = true := by first | (simp [plainName, overriddenIn]; done) | decide +kernel
theorem ef_rm1 (m : MethodId) (x0 : Int32) : entryFrame m #[(.int x0)] 1 = mkF m 0 #[.val (.int x0)] [] := by first | (simp [entryFrame, mkF, argsToLocals, Value.category]; done) | rfl
def own_f1 (p0 : Int32) (w : Nat → Addr) : Addr := (if p0 = (0 : Int32) then (w 0) else (if p0 = (1 : Int32) then (w 5) else (if p0 = (2 : Int32) then (w 3) else (if p0 = (3 : Int32) then (w 2) else (if p0 = (4 : Int32) then (w 8) else (if p0 = (5 : Int32) then (w 11) else (if p0 = (6 : Int32) then (w 10) else (if p0 = (7 : Int32) then (w 7) else (w 9)))))))))
def Q_rm1 (Z : State) (p0 : Int32) (w : Nat → Addr) (h0 : Heap) (n0 : Nat) (v : Option Value) (h : Heap) (L : List Loc) : Prop := v = some (Value.ref (own_f1 p0 w)) ∧ Fr n0 L ∧ h = h0
set_option maxRecDepth 65536 in
set_option maxHeartbeats 40000000 in
theorem rm1 (l : Launch) (Z : State) (a0 : Array Value) (hw : ∀ d ∈ tables_1, d.before a0 Z = true) (ws : List Jvm.Cond) (p0 : Int32) (w : Nat → Addr) (h0 : Heap) (n0 : Nat) (Z0 : n0 ≤ h0.size) (O0 : Old Z n0 h0) (wd : Wd Z w) :
    MetFree l (⟨"com/example/deferral_ledger/deferralledger/model/EntryKindIsCreditPinLaw", "kindOf", "(I)Lcom/example/deferral_ledger/deferralledger/model/EntryKind;"⟩ : MethodName) (head1 (Jvm.Cond.code (⟨"com/example/deferral_ledger/deferralledger/model/EntryKindIsCreditPinLaw", "kindOf", "(I)Lcom/example/deferral_ledger/deferralledger/model/EntryKind;"⟩ : MethodName) method_2_code 1 (some (.object "com/example/deferral_ledger/deferralledger/model/EntryKind")) :: ws) ({ frames := 0, cells := 0, slots := 0, locals := 0 } : Room)) (fun az Uz => az = #[(.int p0)] ∧ Z.Warmed39 Uz.vm ∧ Uz.heap = h0) (fun _ _ _ _ _ => True) (fun _ Uz oz Vz => ∃ vz Lz, oz = .returned vz ∧ Q_rm1 Z p0 w h0 n0 vz Vz.heap Lz ∧ FrameEnd Uz oz Vz Lz ({ frames := 0, cells := 0, slots := 0, locals := 0 } : Room).cells ({ frames := 0, cells := 0, slots := 0, locals := 0 } : Room).slots) := by
  refine MetFree.of_bodySF (plainFor_of_name own_pn0) hisR ?_
  intro p e s m args below meth c s₁ Bd hml0 hP hK
  obtain ⟨rfl, hZ, hh⟩ := hP
  have hx := Bd.exec
  have hby := Bd.bytes
  have hml : c.maxLocals = 1 := hml0
  have hown : s.vm.findClass "com/example/deferral_ledger/deferralledger/model/EntryKindIsCreditPinLaw" = some m.cls := findClass_of_methodNamed Bd.named
  have hnm := (name_of_methodNamed Bd.named Bd.method).1
  have X0 : Stand p l e ({ frames := 0, cells := 0, slots := 0, locals := 0 } : Room) s m #[(.int p0)] below meth c s₁ [] 0 0 := Stand.of_body Bd
  have e0 : s₁.heap = h0 := by rw [← hh, Bd.state]; rfl
  have N0 := Fr.nil n0
  have K0 : Keep h0 h0 [] := Keep.refl _ _
  refine Go.enter (Q := Q_rm1 Z p0 w h0 n0) (C := ({ frames := 0, cells := 0, slots := 0, locals := 0 } : Room).cells) (S := ({ frames := 0, cells := 0, slots := 0, locals := 0 } : Room).slots) (ef_rm1 m p0) ?_
  refine Go.step (fun _ zz => XS.iloadN X0.here hx rfl (hb hby d1_0) rfl zz) ?_
  show Go _ _ _ _ s₁ (mkF m 1 #[.val (.int p0)] [(.int p0)])
  by_cases hc1 : p0 = (0 : Int32)
  · refine Go.step (fun _ zz => XS.ifNo X0.here hx rfl (hb hby d1_1) rfl ((if0 _ _).trans (teq hc1).2) zz) ?_
    show Go _ _ _ _ s₁ (mkF m 4 #[.val (.int p0)] [])
    obtain ⟨T1, X1, e1, st1⟩ := getS2 X0 hx hZ hown (host := "") (Or.inl (hw _ (List.mem_of_getElem? (i := 5) rfl))) Via.refl e0 ((wd0 wd).ext O0.2) (g := (mkF m 4 #[.val (.int p0)] [])) rfl (hb hby d1_4)
    refine Go.step st1 ?_
    show Go _ _ _ _ T1 (mkF m 7 #[.val (.int p0)] [(.ref (w 0))])
    exact Go.retA X1 hx Bd.returns rfl (hb hby d1_7) rfl Bd.notSynchronized (⟨congrArg (fun q => some (Value.ref q)) (show own_f1 p0 w = (w 0) from by unfold own_f1; rw [if_pos hc1]).symm, N0, e1⟩) (by decide) (by decide)
  · refine Go.step (fun _ zz => XS.ifYes X0.here hx rfl (pc0 := 1) (pc' := 8) rfl (hb hby d1_1) rfl ((if0 _ _).trans (feq hc1).2) (by decide) (by decide) zz) ?_
    show Go _ _ _ _ s₁ (mkF m 8 #[.val (.int p0)] [])
    refine Go.step (fun _ zz => XS.iloadN X0.here hx rfl (hb hby d1_8) rfl zz) ?_
    show Go _ _ _ _ s₁ (mkF m 9 #[.val (.int p0)] [(.int p0)])
    refine Go.step (fun _ zz => XS.iconst X0.here hx rfl (hb hby d1_9) zz) ?_
    show Go _ _ _ _ s₁ (mkF m 10 #[.val (.int p0)] [(.int (1 : Int32)), (.int p0)])
    by_cases hc10 : p0 = (1 : Int32)
    · refine Go.step (fun _ zz => XS.icmpNo X0.here hx rfl (hb hby d1_10) rfl (teq hc10).2 zz) ?_
      show Go _ _ _ _ s₁ (mkF m 13 #[.val (.int p0)] [])
      obtain ⟨T2, X2, e2, st2⟩ := getS2 X0 hx hZ hown (host := "") (Or.inl (hw _ (List.mem_of_getElem? (i := 25) rfl))) Via.refl e0 ((wd10 wd).ext O0.2) (g := (mkF m 13 #[.val (.int p0)] [])) rfl (hb hby d1_13)
      refine Go.step st2 ?_
      show Go _ _ _ _ T2 (mkF m 16 #[.val (.int p0)] [(.ref (w 5))])
      exact Go.retA X2 hx Bd.returns rfl (hb hby d1_16) rfl Bd.notSynchronized (⟨congrArg (fun q => some (Value.ref q)) (show own_f1 p0 w = (w 5) from by unfold own_f1; rw [if_neg hc1, if_pos hc10]).symm, N0, e2⟩) (by decide) (by decide)
    · refine Go.step (fun _ zz => XS.icmpYes X0.here hx rfl (pc0 := 10) (pc' := 17) rfl (hb hby d1_10) rfl (feq hc10).2 (by decide) (by decide) zz) ?_
      show Go _ _ _ _ s₁ (mkF m 17 #[.val (.int p0)] [])
      refine Go.step (fun _ zz => XS.iloadN X0.here hx rfl (hb hby d1_17) rfl zz) ?_
      show Go _ _ _ _ s₁ (mkF m 18 #[.val (.int p0)] [(.int p0)])
      refine Go.step (fun _ zz => XS.iconst X0.here hx rfl (hb hby d1_18) zz) ?_
      show Go _ _ _ _ s₁ (mkF m 19 #[.val (.int p0)] [(.int (2 : Int32)), (.int p0)])
      by_cases hc19 : p0 = (2 : Int32)
      · refine Go.step (fun _ zz => XS.icmpNo X0.here hx rfl (hb hby d1_19) rfl (teq hc19).2 zz) ?_
        show Go _ _ _ _ s₁ (mkF m 22 #[.val (.int p0)] [])
        obtain ⟨T3, X3, e3, st3⟩ := getS2 X0 hx hZ hown (host := "") (Or.inl (hw _ (List.mem_of_getElem? (i := 22) rfl))) Via.refl e0 ((wd6 wd).ext O0.2) (g := (mkF m 22 #[.val (.int p0)] [])) rfl (hb hby d1_22)
        refine Go.step st3 ?_
        show Go _ _ _ _ T3 (mkF m 25 #[.val (.int p0)] [(.ref (w 3))])
        exact Go.retA X3 hx Bd.returns rfl (hb hby d1_25) rfl Bd.notSynchronized (⟨congrArg (fun q => some (Value.ref q)) (show own_f1 p0 w = (w 3) from by unfold own_f1; rw [if_neg hc1, if_neg hc10, if_pos hc19]).symm, N0, e3⟩) (by decide) (by decide)
      · refine Go.step (fun _ zz => XS.icmpYes X0.here hx rfl (pc0 := 19) (pc' := 26) rfl (hb hby d1_19) rfl (feq hc19).2 (by decide) (by decide) zz) ?_
        show Go _ _ _ _ s₁ (mkF m 26 #[.val (.int p0)] [])
        refine Go.step (fun _ zz => XS.iloadN X0.here hx rfl (hb hby d1_26) rfl zz) ?_
        show Go _ _ _ _ s₁ (mkF m 27 #[.val (.int p0)] [(.int p0)])
        refine Go.step (fun _ zz => XS.iconst X0.here hx rfl (hb hby d1_27) zz) ?_
        show Go _ _ _ _ s₁ (mkF m 28 #[.val (.int p0)] [(.int (3 : Int32)), (.int p0)])
        by_cases hc28 : p0 = (3 : Int32)
        · refine Go.step (fun _ zz => XS.icmpNo X0.here hx rfl (hb hby d1_28) rfl (teq hc28).2 zz) ?_
          show Go _ _ _ _ s₁ (mkF m 31 #[.val (.int p0)] [])
          obtain ⟨T4, X4, e4, st4⟩ := getS2 X0 hx hZ hown (host := "") (Or.inl (hw _ (List.mem_of_getElem? (i := 20) rfl))) Via.refl e0 ((wd4 wd).ext O0.2) (g := (mkF m 31 #[.val (.int p0)] [])) rfl (hb hby d1_31)
          refine Go.step st4 ?_
          show Go _ _ _ _ T4 (mkF m 34 #[.val (.int p0)] [(.ref (w 2))])
          exact Go.retA X4 hx Bd.returns rfl (hb hby d1_34) rfl Bd.notSynchronized (⟨congrArg (fun q => some (Value.ref q)) (show own_f1 p0 w = (w 2) from by unfold own_f1; rw [if_neg hc1, if_neg hc10, if_neg hc19, if_pos hc28]).symm, N0, e4⟩) (by decide) (by decide)
        · refine Go.step (fun _ zz => XS.icmpYes X0.here hx rfl (pc0 := 28) (pc' := 35) rfl (hb hby d1_28) rfl (feq hc28).2 (by decide) (by decide) zz) ?_
          show Go _ _ _ _ s₁ (mkF m 35 #[.val (.int p0)] [])
          refine Go.step (fun _ zz => XS.iloadN X0.here hx rfl (hb hby d1_35) rfl zz) ?_
          show Go _ _ _ _ s₁ (mkF m 36 #[.val (.int p0)] [(.int p0)])
          refine Go.step (fun _ zz => XS.iconst X0.here hx rfl (hb hby d1_36) zz) ?_
          show Go _ _ _ _ s₁ (mkF m 37 #[.val (.int p0)] [(.int (4 : Int32)), (.int p0)])
          by_cases hc37 : p0 = (4 : Int32)
          · refine Go.step (fun _ zz => XS.icmpNo X0.here hx rfl (hb hby d1_37) rfl (teq hc37).2 zz) ?_
            show Go _ _ _ _ s₁ (mkF m 40 #[.val (.int p0)] [])
            obtain ⟨T5, X5, e5, st5⟩ := getS2 X0 hx hZ hown (host := "") (Or.inl (hw _ (List.mem_of_getElem? (i := 30) rfl))) Via.refl e0 ((wd16 wd).ext O0.2) (g := (mkF m 40 #[.val (.int p0)] [])) rfl (hb hby d1_40)
            refine Go.step st5 ?_
            show Go _ _ _ _ T5 (mkF m 43 #[.val (.int p0)] [(.ref (w 8))])
            exact Go.retA X5 hx Bd.returns rfl (hb hby d1_43) rfl Bd.notSynchronized (⟨congrArg (fun q => some (Value.ref q)) (show own_f1 p0 w = (w 8) from by unfold own_f1; rw [if_neg hc1, if_neg hc10, if_neg hc19, if_neg hc28, if_pos hc37]).symm, N0, e5⟩) (by decide) (by decide)
          · refine Go.step (fun _ zz => XS.icmpYes X0.here hx rfl (pc0 := 37) (pc' := 44) rfl (hb hby d1_37) rfl (feq hc37).2 (by decide) (by decide) zz) ?_
            show Go _ _ _ _ s₁ (mkF m 44 #[.val (.int p0)] [])
            refine Go.step (fun _ zz => XS.iloadN X0.here hx rfl (hb hby d1_44) rfl zz) ?_
            show Go _ _ _ _ s₁ (mkF m 45 #[.val (.int p0)] [(.int p0)])
            refine Go.step (fun _ zz => XS.iconst X0.here hx rfl (hb hby d1_45) zz) ?_
            show Go _ _ _ _ s₁ (mkF m 46 #[.val (.int p0)] [(.int (5 : Int32)), (.int p0)])
            by_cases hc46 : p0 = (5 : Int32)
            · refine Go.step (fun _ zz => XS.icmpNo X0.here hx rfl (hb hby d1_46) rfl (teq hc46).2 zz) ?_
              show Go _ _ _ _ s₁ (mkF m 49 #[.val (.int p0)] [])
              obtain ⟨T6, X6, e6, st6⟩ := getS2 X0 hx hZ hown (host := "") (Or.inl (hw _ (List.mem_of_getElem? (i := 36) rfl))) Via.refl e0 ((wd22 wd).ext O0.2) (g := (mkF m 49 #[.val (.int p0)] [])) rfl (hb hby d1_49)
              refine Go.step st6 ?_
              show Go _ _ _ _ T6 (mkF m 52 #[.val (.int p0)] [(.ref (w 11))])
              exact Go.retA X6 hx Bd.returns rfl (hb hby d1_52) rfl Bd.notSynchronized (⟨congrArg (fun q => some (Value.ref q)) (show own_f1 p0 w = (w 11) from by unfold own_f1; rw [if_neg hc1, if_neg hc10, if_neg hc19, if_neg hc28, if_neg hc37, if_pos hc46]).symm, N0, e6⟩) (by decide) (by decide)
            · refine Go.step (fun _ zz => XS.icmpYes X0.here hx rfl (pc0 := 46) (pc' := 53) rfl (hb hby d1_46) rfl (feq hc46).2 (by decide) (by decide) zz) ?_
              show Go _ _ _ _ s₁ (mkF m 53 #[.val (.int p0)] [])
              refine Go.step (fun _ zz => XS.iloadN X0.here hx rfl (hb hby d1_53) rfl zz) ?_
              show Go _ _ _ _ s₁ (mkF m 54 #[.val (.int p0)] [(.int p0)])
              refine Go.step (fun _ zz => XS.bipush X0.here hx rfl (hb hby d1_54) zz) ?_
              show Go _ _ _ _ s₁ (mkF m 56 #[.val (.int p0)] [(.int (6 : Int32)), (.int p0)])
              by_cases hc56 : p0 = (6 : Int32)
              · refine Go.step (fun _ zz => XS.icmpNo X0.here hx rfl (hb hby d1_56) rfl (teq hc56).2 zz) ?_
                show Go _ _ _ _ s₁ (mkF m 59 #[.val (.int p0)] [])
                obtain ⟨T7, X7, e7, st7⟩ := getS2 X0 hx hZ hown (host := "") (Or.inl (hw _ (List.mem_of_getElem? (i := 34) rfl))) Via.refl e0 ((wd20 wd).ext O0.2) (g := (mkF m 59 #[.val (.int p0)] [])) rfl (hb hby d1_59)
                refine Go.step st7 ?_
                show Go _ _ _ _ T7 (mkF m 62 #[.val (.int p0)] [(.ref (w 10))])
                exact Go.retA X7 hx Bd.returns rfl (hb hby d1_62) rfl Bd.notSynchronized (⟨congrArg (fun q => some (Value.ref q)) (show own_f1 p0 w = (w 10) from by unfold own_f1; rw [if_neg hc1, if_neg hc10, if_neg hc19, if_neg hc28, if_neg hc37, if_neg hc46, if_pos hc56]).symm, N0, e7⟩) (by decide) (by decide)
              · refine Go.step (fun _ zz => XS.icmpYes X0.here hx rfl (pc0 := 56) (pc' := 63) rfl (hb hby d1_56) rfl (feq hc56).2 (by decide) (by decide) zz) ?_
                show Go _ _ _ _ s₁ (mkF m 63 #[.val (.int p0)] [])
                refine Go.step (fun _ zz => XS.iloadN X0.here hx rfl (hb hby d1_63) rfl zz) ?_
                show Go _ _ _ _ s₁ (mkF m 64 #[.val (.int p0)] [(.int p0)])
                refine Go.step (fun _ zz => XS.bipush X0.here hx rfl (hb hby d1_64) zz) ?_
                show Go _ _ _ _ s₁ (mkF m 66 #[.val (.int p0)] [(.int (7 : Int32)), (.int p0)])
                by_cases hc66 : p0 = (7 : Int32)
                · refine Go.step (fun _ zz => XS.icmpNo X0.here hx rfl (hb hby d1_66) rfl (teq hc66).2 zz) ?_
                  show Go _ _ _ _ s₁ (mkF m 69 #[.val (.int p0)] [])
                  obtain ⟨T8, X8, e8, st8⟩ := getS2 X0 hx hZ hown (host := "") (Or.inl (hw _ (List.mem_of_getElem? (i := 28) rfl))) Via.refl e0 ((wd14 wd).ext O0.2) (g := (mkF m 69 #[.val (.int p0)] [])) rfl (hb hby d1_69)
                  refine Go.step st8 ?_
                  show Go _ _ _ _ T8 (mkF m 72 #[.val (.int p0)] [(.ref (w 7))])
                  exact Go.retA X8 hx Bd.returns rfl (hb hby d1_72) rfl Bd.notSynchronized (⟨congrArg (fun q => some (Value.ref q)) (show own_f1 p0 w = (w 7) from by unfold own_f1; rw [if_neg hc1, if_neg hc10, if_neg hc19, if_neg hc28, if_neg hc37, if_neg hc46, if_neg hc56, if_pos hc66]).symm, N0, e8⟩) (by decide) (by decide)
                · refine Go.step (fun _ zz => XS.icmpYes X0.here hx rfl (pc0 := 66) (pc' := 73) rfl (hb hby d1_66) rfl (feq hc66).2 (by decide) (by decide) zz) ?_
                  show Go _ _ _ _ s₁ (mkF m 73 #[.val (.int p0)] [])
                  obtain ⟨T9, X9, e9, st9⟩ := getS2 X0 hx hZ hown (host := "") (Or.inl (hw _ (List.mem_of_getElem? (i := 32) rfl))) Via.refl e0 ((wd18 wd).ext O0.2) (g := (mkF m 73 #[.val (.int p0)] [])) rfl (hb hby d1_73)
                  refine Go.step st9 ?_
                  show Go _ _ _ _ T9 (mkF m 76 #[.val (.int p0)] [(.ref (w 9))])
                  exact Go.retA X9 hx Bd.returns rfl (hb hby d1_76) rfl Bd.notSynchronized (⟨congrArg (fun q => some (Value.ref q)) (show own_f1 p0 w = (w 9) from by unfold own_f1; rw [if_neg hc1, if_neg hc10, if_neg hc19, if_neg hc28, if_neg hc37, if_neg hc46, if_neg hc56, if_neg hc66]).symm, N0, e9⟩) (by decide) (by decide)
theorem d3_0 : decode method_3_code 0 = .ok (.iload_n 0, 1) := by decide +kernel
theorem d3_1 : decode method_3_code 1 = .ok (.ifCond .eq 13, 3) := by decide +kernel
theorem d3_4 : decode method_3_code 4 = .ok (.iload_n 0, 1) := by decide +kernel
theorem d3_5 : decode method_3_code 5 = .ok (.iconst 1, 1) := by decide +kernel
theorem d3_6 : decode method_3_code 6 = .ok (.if_icmp .eq 8, 3) := by decide +kernel
theorem d3_9 : decode method_3_code 9 = .ok (.iload_n 0, 1) := by decide +kernel
theorem d3_10 : decode method_3_code 10 = .ok (.iconst 2, 1) := by decide +kernel
theorem d3_11 : decode method_3_code 11 = .ok (.if_icmp .ne 5, 3) := by decide +kernel
theorem d3_14 : decode method_3_code 14 = .ok (.iconst 1, 1) := by decide +kernel
theorem d3_15 : decode method_3_code 15 = .ok (.ireturn, 1) := by decide +kernel
theorem d3_16 : decode method_3_code 16 = .ok (.iload_n 0, 1) := by decide +kernel
theorem d3_17 : decode method_3_code 17 = .ok (.iconst 3, 1) := by decide +kernel
theorem d3_18 : decode method_3_code 18 = .ok (.if_icmp .eq 8, 3) := by decide +kernel
theorem d3_21 : decode method_3_code 21 = .ok (.iload_n 0, 1) := by decide +kernel
theorem d3_22 : decode method_3_code 22 = .ok (.iconst 4, 1) := by decide +kernel
theorem d3_23 : decode method_3_code 23 = .ok (.if_icmp .ne 5, 3) := by decide +kernel
theorem d3_26 : decode method_3_code 26 = .ok (.iconst 1, 1) := by decide +kernel
theorem d3_27 : decode method_3_code 27 = .ok (.ireturn, 1) := by decide +kernel
theorem d3_28 : decode method_3_code 28 = .ok (.iconst 0, 1) := by decide +kernel
theorem d3_29 : decode method_3_code 29 = .ok (.ireturn, 1) := by decide +kernel
theorem ef_rm3 (m : MethodId) (x0 : Int32) : entryFrame m #[(.int x0)] 1 = mkF m 0 #[.val (.int x0)] [] := by first | (simp [entryFrame, mkF, argsToLocals, Value.category]; done) | rfl
def own_f3 (p0 : Int32) : Int32 := (if p0 = (0 : Int32) then (1 : Int32) else (if p0 = (1 : Int32) then (1 : Int32) else (if p0 = (2 : Int32) then (1 : Int32) else (if p0 = (3 : Int32) then (1 : Int32) else (if p0 = (4 : Int32) then (1 : Int32) else (0 : Int32))))))
def Q_rm3 (Z : State) (p0 : Int32) (h0 : Heap) (n0 : Nat) (v : Option Value) (h : Heap) (L : List Loc) : Prop := v = some (Value.int (own_f3 p0)) ∧ Fr n0 L ∧ h = h0
set_option maxRecDepth 65536 in
set_option maxHeartbeats 40000000 in
theorem rm3 (l : Launch) (Z : State) (a0 : Array Value) (hw : ∀ d ∈ tables_1, d.before a0 Z = true) (ws : List Jvm.Cond) (p0 : Int32) (h0 : Heap) (n0 : Nat) (Z0 : n0 ≤ h0.size) :
    MetFree l (⟨"com/example/deferral_ledger/deferralledger/model/EntryKindIsCreditPinLaw", "expectedCredit", "(I)Z"⟩ : MethodName) (head1 (Jvm.Cond.code (⟨"com/example/deferral_ledger/deferralledger/model/EntryKindIsCreditPinLaw", "expectedCredit", "(I)Z"⟩ : MethodName) method_3_code 1 (some .boolean) :: ws) ({ frames := 0, cells := 0, slots := 0, locals := 0 } : Room)) (fun az Uz => az = #[(.int p0)] ∧ Z.Warmed39 Uz.vm ∧ Uz.heap = h0) (fun _ _ _ _ _ => True) (fun _ Uz oz Vz => ∃ vz Lz, oz = .returned vz ∧ Q_rm3 Z p0 h0 n0 vz Vz.heap Lz ∧ FrameEnd Uz oz Vz Lz ({ frames := 0, cells := 0, slots := 0, locals := 0 } : Room).cells ({ frames := 0, cells := 0, slots := 0, locals := 0 } : Room).slots) := by
  refine MetFree.of_bodySF (plainFor_of_name own_pn0) hisR ?_
  intro p e s m args below meth c s₁ Bd hml0 hP hK
  obtain ⟨rfl, hZ, hh⟩ := hP
  have hx := Bd.exec
  have hby := Bd.bytes
  have hml : c.maxLocals = 1 := hml0
  have hown : s.vm.findClass "com/example/deferral_ledger/deferralledger/model/EntryKindIsCreditPinLaw" = some m.cls := findClass_of_methodNamed Bd.named
  have hnm := (name_of_methodNamed Bd.named Bd.method).1
  have X0 : Stand p l e ({ frames := 0, cells := 0, slots := 0, locals := 0 } : Room) s m #[(.int p0)] below meth c s₁ [] 0 0 := Stand.of_body Bd
  have e0 : s₁.heap = h0 := by rw [← hh, Bd.state]; rfl
  have N0 := Fr.nil n0
  have K0 : Keep h0 h0 [] := Keep.refl _ _
  refine Go.enter (Q := Q_rm3 Z p0 h0 n0) (C := ({ frames := 0, cells := 0, slots := 0, locals := 0 } : Room).cells) (S := ({ frames := 0, cells := 0, slots := 0, locals := 0 } : Room).slots) (ef_rm3 m p0) ?_
  refine Go.step (fun _ zz => XS.iloadN X0.here hx rfl (hb hby d3_0) rfl zz) ?_
  show Go _ _ _ _ s₁ (mkF m 1 #[.val (.int p0)] [(.int p0)])
  by_cases hc1 : p0 = (0 : Int32)
  · refine Go.step (fun _ zz => XS.ifYes X0.here hx rfl (pc0 := 1) (pc' := 14) rfl (hb hby d3_1) rfl ((if0 _ _).trans (teq hc1).1) (by decide) (by decide) zz) ?_
    show Go _ _ _ _ s₁ (mkF m 14 #[.val (.int p0)] [])
    refine Go.step (fun _ zz => XS.iconst X0.here hx rfl (hb hby d3_14) zz) ?_
    show Go _ _ _ _ s₁ (mkF m 15 #[.val (.int p0)] [(.int (1 : Int32))])
    exact Go.retN X0 hx (t := .boolean) Bd.returns (by simp) (hb hby d3_15) Bd.notSynchronized (z' := (1 : Int32)) (by decide) (⟨congrArg (fun q => some (Value.int q)) (show own_f3 p0 = (1 : Int32) from by unfold own_f3; rw [if_pos hc1]).symm, N0, e0⟩) (by decide) (by decide)
  · refine Go.step (fun _ zz => XS.ifNo X0.here hx rfl (hb hby d3_1) rfl ((if0 _ _).trans (feq hc1).1) zz) ?_
    show Go _ _ _ _ s₁ (mkF m 4 #[.val (.int p0)] [])
    refine Go.step (fun _ zz => XS.iloadN X0.here hx rfl (hb hby d3_4) rfl zz) ?_
    show Go _ _ _ _ s₁ (mkF m 5 #[.val (.int p0)] [(.int p0)])
    refine Go.step (fun _ zz => XS.iconst X0.here hx rfl (hb hby d3_5) zz) ?_
    show Go _ _ _ _ s₁ (mkF m 6 #[.val (.int p0)] [(.int (1 : Int32)), (.int p0)])
    by_cases hc6 : p0 = (1 : Int32)
    · refine Go.step (fun _ zz => XS.icmpYes X0.here hx rfl (pc0 := 6) (pc' := 14) rfl (hb hby d3_6) rfl (teq hc6).1 (by decide) (by decide) zz) ?_
      show Go _ _ _ _ s₁ (mkF m 14 #[.val (.int p0)] [])
      refine Go.step (fun _ zz => XS.iconst X0.here hx rfl (hb hby d3_14) zz) ?_
      show Go _ _ _ _ s₁ (mkF m 15 #[.val (.int p0)] [(.int (1 : Int32))])
      exact Go.retN X0 hx (t := .boolean) Bd.returns (by simp) (hb hby d3_15) Bd.notSynchronized (z' := (1 : Int32)) (by decide) (⟨congrArg (fun q => some (Value.int q)) (show own_f3 p0 = (1 : Int32) from by unfold own_f3; rw [if_neg hc1, if_pos hc6]).symm, N0, e0⟩) (by decide) (by decide)
    · refine Go.step (fun _ zz => XS.icmpNo X0.here hx rfl (hb hby d3_6) rfl (feq hc6).1 zz) ?_
      show Go _ _ _ _ s₁ (mkF m 9 #[.val (.int p0)] [])
      refine Go.step (fun _ zz => XS.iloadN X0.here hx rfl (hb hby d3_9) rfl zz) ?_
      show Go _ _ _ _ s₁ (mkF m 10 #[.val (.int p0)] [(.int p0)])
      refine Go.step (fun _ zz => XS.iconst X0.here hx rfl (hb hby d3_10) zz) ?_
      show Go _ _ _ _ s₁ (mkF m 11 #[.val (.int p0)] [(.int (2 : Int32)), (.int p0)])
      by_cases hc11 : p0 = (2 : Int32)
      · refine Go.step (fun _ zz => XS.icmpNo X0.here hx rfl (hb hby d3_11) rfl (teq hc11).2 zz) ?_
        show Go _ _ _ _ s₁ (mkF m 14 #[.val (.int p0)] [])
        refine Go.step (fun _ zz => XS.iconst X0.here hx rfl (hb hby d3_14) zz) ?_
        show Go _ _ _ _ s₁ (mkF m 15 #[.val (.int p0)] [(.int (1 : Int32))])
        exact Go.retN X0 hx (t := .boolean) Bd.returns (by simp) (hb hby d3_15) Bd.notSynchronized (z' := (1 : Int32)) (by decide) (⟨congrArg (fun q => some (Value.int q)) (show own_f3 p0 = (1 : Int32) from by unfold own_f3; rw [if_neg hc1, if_neg hc6, if_pos hc11]).symm, N0, e0⟩) (by decide) (by decide)
      · refine Go.step (fun _ zz => XS.icmpYes X0.here hx rfl (pc0 := 11) (pc' := 16) rfl (hb hby d3_11) rfl (feq hc11).2 (by decide) (by decide) zz) ?_
        show Go _ _ _ _ s₁ (mkF m 16 #[.val (.int p0)] [])
        refine Go.step (fun _ zz => XS.iloadN X0.here hx rfl (hb hby d3_16) rfl zz) ?_
        show Go _ _ _ _ s₁ (mkF m 17 #[.val (.int p0)] [(.int p0)])
        refine Go.step (fun _ zz => XS.iconst X0.here hx rfl (hb hby d3_17) zz) ?_
        show Go _ _ _ _ s₁ (mkF m 18 #[.val (.int p0)] [(.int (3 : Int32)), (.int p0)])
        by_cases hc18 : p0 = (3 : Int32)
        · refine Go.step (fun _ zz => XS.icmpYes X0.here hx rfl (pc0 := 18) (pc' := 26) rfl (hb hby d3_18) rfl (teq hc18).1 (by decide) (by decide) zz) ?_
          show Go _ _ _ _ s₁ (mkF m 26 #[.val (.int p0)] [])
          refine Go.step (fun _ zz => XS.iconst X0.here hx rfl (hb hby d3_26) zz) ?_
          show Go _ _ _ _ s₁ (mkF m 27 #[.val (.int p0)] [(.int (1 : Int32))])
          exact Go.retN X0 hx (t := .boolean) Bd.returns (by simp) (hb hby d3_27) Bd.notSynchronized (z' := (1 : Int32)) (by decide) (⟨congrArg (fun q => some (Value.int q)) (show own_f3 p0 = (1 : Int32) from by unfold own_f3; rw [if_neg hc1, if_neg hc6, if_neg hc11, if_pos hc18]).symm, N0, e0⟩) (by decide) (by decide)
        · refine Go.step (fun _ zz => XS.icmpNo X0.here hx rfl (hb hby d3_18) rfl (feq hc18).1 zz) ?_
          show Go _ _ _ _ s₁ (mkF m 21 #[.val (.int p0)] [])
          refine Go.step (fun _ zz => XS.iloadN X0.here hx rfl (hb hby d3_21) rfl zz) ?_
          show Go _ _ _ _ s₁ (mkF m 22 #[.val (.int p0)] [(.int p0)])
          refine Go.step (fun _ zz => XS.iconst X0.here hx rfl (hb hby d3_22) zz) ?_
          show Go _ _ _ _ s₁ (mkF m 23 #[.val (.int p0)] [(.int (4 : Int32)), (.int p0)])
          by_cases hc23 : p0 = (4 : Int32)
          · refine Go.step (fun _ zz => XS.icmpNo X0.here hx rfl (hb hby d3_23) rfl (teq hc23).2 zz) ?_
            show Go _ _ _ _ s₁ (mkF m 26 #[.val (.int p0)] [])
            refine Go.step (fun _ zz => XS.iconst X0.here hx rfl (hb hby d3_26) zz) ?_
            show Go _ _ _ _ s₁ (mkF m 27 #[.val (.int p0)] [(.int (1 : Int32))])
            exact Go.retN X0 hx (t := .boolean) Bd.returns (by simp) (hb hby d3_27) Bd.notSynchronized (z' := (1 : Int32)) (by decide) (⟨congrArg (fun q => some (Value.int q)) (show own_f3 p0 = (1 : Int32) from by unfold own_f3; rw [if_neg hc1, if_neg hc6, if_neg hc11, if_neg hc18, if_pos hc23]).symm, N0, e0⟩) (by decide) (by decide)
          · refine Go.step (fun _ zz => XS.icmpYes X0.here hx rfl (pc0 := 23) (pc' := 28) rfl (hb hby d3_23) rfl (feq hc23).2 (by decide) (by decide) zz) ?_
            show Go _ _ _ _ s₁ (mkF m 28 #[.val (.int p0)] [])
            refine Go.step (fun _ zz => XS.iconst X0.here hx rfl (hb hby d3_28) zz) ?_
            show Go _ _ _ _ s₁ (mkF m 29 #[.val (.int p0)] [(.int (0 : Int32))])
            exact Go.retN X0 hx (t := .boolean) Bd.returns (by simp) (hb hby d3_29) Bd.notSynchronized (z' := (0 : Int32)) (by decide) (⟨congrArg (fun q => some (Value.int q)) (show own_f3 p0 = (0 : Int32) from by unfold own_f3; rw [if_neg hc1, if_neg hc6, if_neg hc11, if_neg hc18, if_neg hc23]).symm, N0, e0⟩) (by decide) (by decide)
theorem d2_0 : decode prog_26_method_13_code 0 = .ok (.aload_n 0, 1) := by decide +kernel
theorem d2_1 : decode prog_26_method_13_code 1 = .ok (.getfield 60, 3) := by decide +kernel
theorem d2_4 : decode prog_26_method_13_code 4 = .ok (.ifnull 7, 3) := by decide +kernel
theorem d2_7 : decode prog_26_method_13_code 7 = .ok (.iconst 1, 1) := by decide +kernel
theorem d2_8 : decode prog_26_method_13_code 8 = .ok (.goto 4, 3) := by decide +kernel
theorem d2_11 : decode prog_26_method_13_code 11 = .ok (.iconst 0, 1) := by decide +kernel
theorem d2_12 : decode prog_26_method_13_code 12 = .ok (.ireturn, 1) := by decide +kernel
theorem own_pn1 : plainName "com/example/deferral_ledger/deferralledger/model/EntryKind" = true := by first | (simp [plainName, overriddenIn]; done) | decide +kernel
theorem ef_rm2 (m : MethodId) (x0 : Addr) : entryFrame m #[(.ref x0)] 1 = mkF m 0 #[.val (.ref x0)] [] := by first | (simp [entryFrame, mkF, argsToLocals, Value.category]; done) | rfl
def own_f2 (r0 : Addr) (u : Value) : Int32 := (if u = .null then (0 : Int32) else (1 : Int32))
def Q_rm2 (Z : State) (r0 : Addr) (u : Value) (h0 : Heap) (n0 : Nat) (v : Option Value) (h : Heap) (L : List Loc) : Prop := v = some (Value.int (own_f2 r0 u)) ∧ Fr n0 L ∧ h = h0
set_option maxRecDepth 65536 in
set_option maxHeartbeats 40000000 in
theorem rm2 (l : Launch) (Z : State) (a0 : Array Value) (hw : ∀ d ∈ tables_1, d.before a0 Z = true) (ws : List Jvm.Cond) (r0 : Addr) (u : Value) (h0 : Heap) (n0 : Nat) (Z0 : n0 ≤ h0.size) (hu : u.isRef = true) (Fu : Fld Z h0 r0 "com/example/deferral_ledger/deferralledger/model/EntryKind" "subaccount" "Lcom/example/deferral_ledger/deferralledger/model/Subaccount;" u) :
    MetFree l (⟨"com/example/deferral_ledger/deferralledger/model/EntryKind", "isCredit", "()Z"⟩ : MethodName) (head1 (Jvm.Cond.code (⟨"com/example/deferral_ledger/deferralledger/model/EntryKind", "isCredit", "()Z"⟩ : MethodName) prog_26_method_13_code 1 (some .boolean) :: ws) ({ frames := 0, cells := 0, slots := 0, locals := 0 } : Room)) (fun az Uz => az = #[(.ref r0)] ∧ Z.Warmed39 Uz.vm ∧ Uz.heap = h0) (fun _ _ _ _ _ => True) (fun _ Uz oz Vz => ∃ vz Lz, oz = .returned vz ∧ Q_rm2 Z r0 u h0 n0 vz Vz.heap Lz ∧ FrameEnd Uz oz Vz Lz ({ frames := 0, cells := 0, slots := 0, locals := 0 } : Room).cells ({ frames := 0, cells := 0, slots := 0, locals := 0 } : Room).slots) := by
  refine MetFree.of_bodySF (plainFor_of_name own_pn1) hisR ?_
  intro p e s m args below meth c s₁ Bd hml0 hP hK
  obtain ⟨rfl, hZ, hh⟩ := hP
  have hx := Bd.exec
  have hby := Bd.bytes
  have hml : c.maxLocals = 1 := hml0
  have hown : s.vm.findClass "com/example/deferral_ledger/deferralledger/model/EntryKind" = some m.cls := findClass_of_methodNamed Bd.named
  have hnm := (name_of_methodNamed Bd.named Bd.method).1
  have X0 : Stand p l e ({ frames := 0, cells := 0, slots := 0, locals := 0 } : Room) s m #[(.ref r0)] below meth c s₁ [] 0 0 := Stand.of_body Bd
  have e0 : s₁.heap = h0 := by rw [← hh, Bd.state]; rfl
  have N0 := Fr.nil n0
  have K0 : Keep h0 h0 [] := Keep.refl _ _
  refine Go.enter (Q := Q_rm2 Z r0 u h0 n0) (C := ({ frames := 0, cells := 0, slots := 0, locals := 0 } : Room).cells) (S := ({ frames := 0, cells := 0, slots := 0, locals := 0 } : Room).slots) (ef_rm2 m r0) ?_
  refine Go.step (fun _ zz => XS.aloadN X0.here hx rfl (hb hby d2_0) rfl rfl zz) ?_
  show Go _ _ _ _ s₁ (mkF m 1 #[.val (.ref r0)] [(.ref r0)])
  obtain ⟨T1, X1, e1, st1⟩ := getF X0 hx hZ hown (host := "") (Or.inl (hw _ (List.mem_of_getElem? (i := 13) rfl))) Via.refl e0 Fu (g := (mkF m 1 #[.val (.ref r0)] [(.ref r0)])) rfl rfl (hb hby d2_1)
  refine Go.step st1 ?_
  show Go _ _ _ _ T1 (mkF m 4 #[.val (.ref r0)] [u])
  by_cases hz4 : u = .null
  · refine Go.step (fun _ zz => Jvm.Free.XT.nullYes X1.here hx rfl (pc0 := 4) (pc' := 11) rfl (hb hby d2_4) rfl hz4 (by decide) (by decide) zz) ?_
    show Go _ _ _ _ T1 (mkF m 11 #[.val (.ref r0)] [])
    refine Go.step (fun _ zz => XS.iconst X1.here hx rfl (hb hby d2_11) zz) ?_
    show Go _ _ _ _ T1 (mkF m 12 #[.val (.ref r0)] [(.int (0 : Int32))])
    exact Go.retN X1 hx (t := .boolean) Bd.returns (by simp) (hb hby d2_12) Bd.notSynchronized (z' := (0 : Int32)) (by decide) (⟨congrArg (fun q => some (Value.int q)) (show own_f2 r0 u = (0 : Int32) from by unfold own_f2; rw [if_pos hz4]).symm, N0, e1⟩) (by decide) (by decide)
  · refine Go.step (fun _ zz => Jvm.Free.XT.nullNo X1.here hx rfl (hb hby d2_4) rfl hu hz4 zz) ?_
    show Go _ _ _ _ T1 (mkF m 7 #[.val (.ref r0)] [])
    refine Go.step (fun _ zz => XS.iconst X1.here hx rfl (hb hby d2_7) zz) ?_
    show Go _ _ _ _ T1 (mkF m 8 #[.val (.ref r0)] [(.int (1 : Int32))])
    refine Go.step (fun _ zz => XS.goto X1.here hx rfl (pc0 := 8) (pc' := 12) rfl (hb hby d2_8) (by decide) (by decide) zz) ?_
    show Go _ _ _ _ T1 (mkF m 12 #[.val (.ref r0)] [(.int (1 : Int32))])
    exact Go.retN X1 hx (t := .boolean) Bd.returns (by simp) (hb hby d2_12) Bd.notSynchronized (z' := (1 : Int32)) (by decide) (⟨congrArg (fun q => some (Value.int q)) (show own_f2 r0 u = (1 : Int32) from by unfold own_f2; rw [if_neg hz4]).symm, N0, e1⟩) (by decide) (by decide)
def own_sub (i : Int32) (w : Nat → Addr) : Value := if i = 0 then (.ref (w 1)) else if i = 1 then (.ref (w 6)) else if i = 2 then (.ref (w 4)) else if i = 3 then (.ref (w 1)) else if i = 4 then (.ref (w 6)) else if i = 5 then .null else if i = 6 then .null else if i = 7 then .null else .null
theorem own_sub_ref (i : Int32) (w : Nat → Addr) : (own_sub i w).isRef = true := by
  unfold own_sub
  repeat' split
  all_goals rfl
theorem own_exa {Z : State} {w : Nat → Addr} (wd : Wd Z w) (i : Int32) : Exa Z Z.heap (own_f1 i w) "com/example/deferral_ledger/deferralledger/model/EntryKind" := by
  unfold own_f1
  repeat' split
  all_goals first | exact (wd1 wd) | exact (wd11 wd) | exact (wd7 wd) | exact (wd5 wd) | exact (wd17 wd) | exact (wd23 wd) | exact (wd21 wd) | exact (wd15 wd) | exact (wd19 wd) 
theorem own_fld {Z : State} {w : Nat → Addr} (wd : Wd Z w) (i : Int32) : Fld Z Z.heap (own_f1 i w) "com/example/deferral_ledger/deferralledger/model/EntryKind" "subaccount" "Lcom/example/deferral_ledger/deferralledger/model/Subaccount;" (own_sub i w) := by
  unfold own_f1 own_sub
  repeat' split
  all_goals first | exact (wd24 wd) | exact (wd27 wd) | exact (wd26 wd) | exact (wd25 wd) | exact (wd29 wd) | exact (wd32 wd) | exact (wd31 wd) | exact (wd28 wd) | exact (wd30 wd) 
theorem own_fin (i : Int32) (w : Nat → Addr) : own_f2 (own_f1 i w) (own_sub i w) = own_f3 i := by
  unfold own_f2 own_f3 own_sub
  repeat' split
  all_goals simp_all
theorem own_pd2 : parseMethodDescriptor "(I)Lcom/example/deferral_ledger/deferralledger/model/EntryKind;" = some ⟨[.int], some (.object "com/example/deferral_ledger/deferralledger/model/EntryKind")⟩ := by decide +kernel
theorem own_pd3 : parseMethodDescriptor "()Z" = some ⟨[], some .boolean⟩ := by decide +kernel
theorem own_pd4 : parseMethodDescriptor "(I)Z" = some ⟨[.int], some .boolean⟩ := by decide +kernel
theorem ef_rm0 (m : MethodId) (x0 : Int32) : entryFrame m #[(.int x0)] maxLocals = mkF m 0 #[.val (.int x0), .unset, .unset] [] := by first | (simp [entryFrame, mkF, argsToLocals, Value.category, maxLocals]; done) | rfl
def Q_rm0 (Z : State) (p0 : Int32) (w : Nat → Addr) (h0 : Heap) (n0 : Nat) (v : Option Value) (h : Heap) (L : List Loc) : Prop := v = some (.int (1 : Int32)) ∧ Fr n0 L
set_option maxRecDepth 65536 in
set_option maxHeartbeats 40000000 in
theorem rm0 (l : Launch) (Z : State) (a0 : Array Value) (hw : ∀ d ∈ tables_1, d.before a0 Z = true) (ws : List Jvm.Cond) (p0 : Int32) (w : Nat → Addr) (h0 : Heap) (n0 : Nat) (Z0 : n0 ≤ h0.size) (O0 : Old Z n0 h0) (wd : Wd Z w) :
    MetFree l x (head1 (Jvm.Cond.code x code maxLocals ret :: ws) room_1) (fun az Uz => az = #[(.int p0)] ∧ Z.Warmed39 Uz.vm ∧ Uz.heap = h0) (fun _ _ _ _ _ => True) (fun _ Uz oz Vz => ∃ vz Lz, oz = .returned vz ∧ Q_rm0 Z p0 w h0 n0 vz Vz.heap Lz ∧ FrameEnd Uz oz Vz Lz room_1.cells room_1.slots) := by
  refine MetFree.of_bodySF (plainFor_of_name own_pn0) hisR ?_
  intro p e s m args below meth c s₁ Bd hml0 hP hK
  obtain ⟨rfl, hZ, hh⟩ := hP
  have hx := Bd.exec
  have hby := Bd.bytes
  have hml : c.maxLocals = 3 := hml0
  have hown : s.vm.findClass "com/example/deferral_ledger/deferralledger/model/EntryKindIsCreditPinLaw" = some m.cls := findClass_of_methodNamed Bd.named
  have hnm := (name_of_methodNamed Bd.named Bd.method).1
  have X0 : Stand p l e room_1 s m #[(.int p0)] below meth c s₁ [] 0 0 := Stand.of_body Bd
  have e0 : s₁.heap = h0 := by rw [← hh, Bd.state]; rfl
  have N0 := Fr.nil n0
  have K0 : Keep h0 h0 [] := Keep.refl _ _
  refine Go.enter (Q := Q_rm0 Z p0 w h0 n0) (C := room_1.cells) (S := room_1.slots) (ef_rm0 m p0) ?_
  refine Go.step (fun _ zz => XS.iloadN X0.here hx rfl (hb hby at_0) rfl zz) ?_
  show Go _ _ _ _ s₁ (mkF m 1 #[.val (.int p0), .unset, .unset] [(.int p0)])
  refine Go.step (fun _ zz => X0.ldcInt hx hown (mvT hZ (hw _ (List.mem_of_getElem? (i := 0) rfl))) (g := (mkF m 1 #[.val (.int p0), .unset, .unset] [(.int p0)])) rfl (hb hby at_1) _ zz) ?_
  show Go _ _ _ _ s₁ (mkF m 3 #[.val (.int p0), .unset, .unset] [(.int (2147483647 : Int32)), (.int p0)])
  refine Go.step (fun _ zz => XS.iand X0.here hx rfl (hb hby at_3) rfl zz) ?_
  show Go _ _ _ _ s₁ (mkF m 4 #[.val (.int p0), .unset, .unset] [(.int (p0 &&& (2147483647 : Int32)))])
  refine Go.step (fun _ zz => XS.bipush X0.here hx rfl (hb hby at_4) zz) ?_
  show Go _ _ _ _ s₁ (mkF m 6 #[.val (.int p0), .unset, .unset] [(.int (9 : Int32)), (.int (p0 &&& (2147483647 : Int32)))])
  refine Go.step (fun _ zz => iremM X0 hx rfl (hb hby at_6) rfl (by decide) zz) ?_
  show Go _ _ _ _ s₁ (mkF m 7 #[.val (.int p0), .unset, .unset] [(.int ((p0 &&& (2147483647 : Int32)) % (9 : Int32)))])
  refine Go.step (fun _ zz => XS.istoreN X0.here hx rfl (hb hby at_7) rfl (l' := #[.val (.int p0), .val (.int ((p0 &&& (2147483647 : Int32)) % (9 : Int32))), .unset]) rfl zz) ?_
  show Go _ _ _ _ s₁ (mkF m 8 #[.val (.int p0), .val (.int ((p0 &&& (2147483647 : Int32)) % (9 : Int32))), .unset] [])
  refine Go.step (fun _ zz => XS.iloadN X0.here hx rfl (hb hby at_8) rfl zz) ?_
  show Go _ _ _ _ s₁ (mkF m 9 #[.val (.int p0), .val (.int ((p0 &&& (2147483647 : Int32)) % (9 : Int32))), .unset] [(.int ((p0 &&& (2147483647 : Int32)) % (9 : Int32)))])
  obtain ⟨_, _, ⟨T1, L1, k1, n1⟩, -, X1, ⟨Lc1, hQ1, l1, y1, z1⟩, st1⟩ := Jvm.LawKit.callS X0 hx (y := (⟨"com/example/deferral_ledger/deferralledger/model/EntryKindIsCreditPinLaw", "kindOf", "(I)Lcom/example/deferral_ledger/deferralledger/model/EntryKind;"⟩ : MethodName)) hown (mvT hZ (hw _ (List.mem_of_getElem? (i := 1) rfl))) (mvT hZ (hw _ (List.mem_of_getElem? (i := 2) rfl))) (mvT hZ (hw _ (List.mem_of_getElem? (i := 3) rfl))) (mvT hZ (hw _ (List.mem_of_getElem? (i := 4) rfl))) (by decide) (backOf (W := 0) (rm1 l Z a0 hw [] ((p0 &&& (2147483647 : Int32)) % (9 : Int32)) w h0 n0 Z0 O0 wd) hZ (hw _ (List.mem_of_getElem? (i := 4) rfl)) (hw _ (List.mem_of_getElem? (i := 3) rfl)) (by decide) (by decide)) (g := (mkF m 9 #[.val (.int p0), .val (.int ((p0 &&& (2147483647 : Int32)) % (9 : Int32))), .unset] [(.int ((p0 &&& (2147483647 : Int32)) % (9 : Int32)))])) rfl (by rw [hml]; rfl) (argsL := [(.int ((p0 &&& (2147483647 : Int32)) % (9 : Int32)))]) (rest := []) (lenOf own_pd2 rfl) rfl (by show 2 * 0 + _ ≤ _; exact Nat.le_of_eq rfl) (hb hby at_9) (fun _ _ => ⟨rfl, e0, (by decide : 0 + 0 ≤ _), (by decide : 0 + 0 ≤ _)⟩)
  dsimp only [Pt.U, Pt.locs, Pt.cells, Pt.slots] at X1 l1 y1 z1 st1 hQ1
  subst l1 y1 z1
  obtain ⟨rfl, N1q, e1⟩ := hQ1
  have N1 := Fr.app N0 N1q
  refine Go.step st1 ?_
  show Go _ _ _ _ T1 (mkF m 12 #[.val (.int p0), .val (.int ((p0 &&& (2147483647 : Int32)) % (9 : Int32))), .unset] [(.ref (own_f1 ((p0 &&& (2147483647 : Int32)) % (9 : Int32)) w))])
  refine Go.step (fun _ zz => XS.astoreN X1.here hx rfl (hb hby at_12) rfl rfl (l' := #[.val (.int p0), .val (.int ((p0 &&& (2147483647 : Int32)) % (9 : Int32))), .val (.ref (own_f1 ((p0 &&& (2147483647 : Int32)) % (9 : Int32)) w))]) rfl zz) ?_
  show Go _ _ _ _ T1 (mkF m 13 #[.val (.int p0), .val (.int ((p0 &&& (2147483647 : Int32)) % (9 : Int32))), .val (.ref (own_f1 ((p0 &&& (2147483647 : Int32)) % (9 : Int32)) w))] [])
  refine Go.step (fun _ zz => XS.aloadN X1.here hx rfl (hb hby at_13) rfl rfl zz) ?_
  show Go _ _ _ _ T1 (mkF m 14 #[.val (.int p0), .val (.int ((p0 &&& (2147483647 : Int32)) % (9 : Int32))), .val (.ref (own_f1 ((p0 &&& (2147483647 : Int32)) % (9 : Int32)) w))] [(.ref (own_f1 ((p0 &&& (2147483647 : Int32)) % (9 : Int32)) w))])
  obtain ⟨cq2, kq2, q2a, q2b, q2c⟩ := isOf hZ e1 ((own_exa wd _).ext O0.2)
  obtain ⟨_, _, ⟨T2, L2, k2, n2⟩, -, X2, ⟨Lc2, hQ2, l2, y2, z2⟩, st2⟩ := X1.virtualBack hx (y := (⟨"com/example/deferral_ledger/deferralledger/model/EntryKind", "isCredit", "()Z"⟩ : MethodName)) (z := (⟨"com/example/deferral_ledger/deferralledger/model/EntryKind", "isCredit", "()Z"⟩ : MethodName)) hown (mvT hZ (hw _ (List.mem_of_getElem? (i := 8) rfl))) (mvT hZ (hw _ (List.mem_of_getElem? (i := 9) rfl))) (notFace_of_selects (args := #[]) (mvT hZ (hw _ (List.mem_of_getElem? (i := 11) rfl)))) (mvT hZ (hw _ (List.mem_of_getElem? (i := 11) rfl))) (mvT hZ (hw _ (List.mem_of_getElem? (i := 10) rfl))) (by decide) (backOf (W := 0) (rm2 l Z a0 hw [] (own_f1 ((p0 &&& (2147483647 : Int32)) % (9 : Int32)) w) (own_sub ((p0 &&& (2147483647 : Int32)) % (9 : Int32)) w) h0 n0 Z0 (own_sub_ref _ w) ((own_fld wd _).ext O0.2)) hZ (hw _ (List.mem_of_getElem? (i := 12) rfl)) (hw _ (List.mem_of_getElem? (i := 6) rfl)) (by decide) (by decide)) q2a q2c (g := (mkF m 14 #[.val (.int p0), .val (.int ((p0 &&& (2147483647 : Int32)) % (9 : Int32))), .val (.ref (own_f1 ((p0 &&& (2147483647 : Int32)) % (9 : Int32)) w))] [(.ref (own_f1 ((p0 &&& (2147483647 : Int32)) % (9 : Int32)) w))])) rfl (by rw [hml]; rfl) (Steps.refl _) (argsL := []) (rest := []) (lenOf own_pd3 rfl) rfl (by show 2 * 0 + _ ≤ _; exact Nat.le_of_eq rfl) (hb hby at_14) (fun _ _ => ⟨rfl, e1, (by decide : 0 + 0 ≤ _), (by decide : 0 + 0 ≤ _)⟩)
  dsimp only [Pt.U, Pt.locs, Pt.cells, Pt.slots] at X2 l2 y2 z2 st2 hQ2
  subst l2 y2 z2
  obtain ⟨rfl, N2q, e2⟩ := hQ2
  have N2 := Fr.app N1 N2q
  refine Go.tr st2 ?_
  show Go _ _ _ _ T2 (mkF m 17 #[.val (.int p0), .val (.int ((p0 &&& (2147483647 : Int32)) % (9 : Int32))), .val (.ref (own_f1 ((p0 &&& (2147483647 : Int32)) % (9 : Int32)) w))] [(.int (own_f2 (own_f1 ((p0 &&& (2147483647 : Int32)) % (9 : Int32)) w) (own_sub ((p0 &&& (2147483647 : Int32)) % (9 : Int32)) w)))])
  refine Go.step (fun _ zz => XS.iloadN X2.here hx rfl (hb hby at_17) rfl zz) ?_
  show Go _ _ _ _ T2 (mkF m 18 #[.val (.int p0), .val (.int ((p0 &&& (2147483647 : Int32)) % (9 : Int32))), .val (.ref (own_f1 ((p0 &&& (2147483647 : Int32)) % (9 : Int32)) w))] [(.int ((p0 &&& (2147483647 : Int32)) % (9 : Int32))), (.int (own_f2 (own_f1 ((p0 &&& (2147483647 : Int32)) % (9 : Int32)) w) (own_sub ((p0 &&& (2147483647 : Int32)) % (9 : Int32)) w)))])
  obtain ⟨_, _, ⟨T3, L3, k3, n3⟩, -, X3, ⟨Lc3, hQ3, l3, y3, z3⟩, st3⟩ := Jvm.LawKit.callS X2 hx (y := (⟨"com/example/deferral_ledger/deferralledger/model/EntryKindIsCreditPinLaw", "expectedCredit", "(I)Z"⟩ : MethodName)) hown (mvT hZ (hw _ (List.mem_of_getElem? (i := 17) rfl))) (mvT hZ (hw _ (List.mem_of_getElem? (i := 18) rfl))) (mvT hZ (hw _ (List.mem_of_getElem? (i := 3) rfl))) (mvT hZ (hw _ (List.mem_of_getElem? (i := 19) rfl))) (by decide) (backOf (W := 1) (rm3 l Z a0 hw [] ((p0 &&& (2147483647 : Int32)) % (9 : Int32)) h0 n0 Z0) hZ (hw _ (List.mem_of_getElem? (i := 19) rfl)) (hw _ (List.mem_of_getElem? (i := 3) rfl)) (by decide) (by decide)) (g := (mkF m 18 #[.val (.int p0), .val (.int ((p0 &&& (2147483647 : Int32)) % (9 : Int32))), .val (.ref (own_f1 ((p0 &&& (2147483647 : Int32)) % (9 : Int32)) w))] [(.int ((p0 &&& (2147483647 : Int32)) % (9 : Int32))), (.int (own_f2 (own_f1 ((p0 &&& (2147483647 : Int32)) % (9 : Int32)) w) (own_sub ((p0 &&& (2147483647 : Int32)) % (9 : Int32)) w)))])) rfl (by rw [hml]; rfl) (argsL := [(.int ((p0 &&& (2147483647 : Int32)) % (9 : Int32)))]) (rest := [(.int (own_f2 (own_f1 ((p0 &&& (2147483647 : Int32)) % (9 : Int32)) w) (own_sub ((p0 &&& (2147483647 : Int32)) % (9 : Int32)) w)))]) (lenOf own_pd4 rfl) rfl (by show 2 * 0 + _ ≤ _; exact Nat.le_of_eq rfl) (hb hby at_18) (fun _ _ => ⟨rfl, e2, (by decide : 0 + 0 ≤ _), (by decide : 0 + 0 ≤ _)⟩)
  dsimp only [Pt.U, Pt.locs, Pt.cells, Pt.slots] at X3 l3 y3 z3 st3 hQ3
  subst l3 y3 z3
  obtain ⟨rfl, N3q, e3⟩ := hQ3
  have N3 := Fr.app N2 N3q
  refine Go.step st3 ?_
  show Go _ _ _ _ T3 (mkF m 21 #[.val (.int p0), .val (.int ((p0 &&& (2147483647 : Int32)) % (9 : Int32))), .val (.ref (own_f1 ((p0 &&& (2147483647 : Int32)) % (9 : Int32)) w))] [(.int (own_f3 ((p0 &&& (2147483647 : Int32)) % (9 : Int32)))), (.int (own_f2 (own_f1 ((p0 &&& (2147483647 : Int32)) % (9 : Int32)) w) (own_sub ((p0 &&& (2147483647 : Int32)) % (9 : Int32)) w)))])
  refine Go.step (fun _ zz => XS.icmpNo X3.here hx rfl (hb hby at_21) rfl (teq (own_fin _ w)).2 zz) ?_
  show Go _ _ _ _ T3 (mkF m 24 #[.val (.int p0), .val (.int ((p0 &&& (2147483647 : Int32)) % (9 : Int32))), .val (.ref (own_f1 ((p0 &&& (2147483647 : Int32)) % (9 : Int32)) w))] [])
  refine Go.step (fun _ zz => XS.iconst X3.here hx rfl (hb hby at_24) zz) ?_
  show Go _ _ _ _ T3 (mkF m 25 #[.val (.int p0), .val (.int ((p0 &&& (2147483647 : Int32)) % (9 : Int32))), .val (.ref (own_f1 ((p0 &&& (2147483647 : Int32)) % (9 : Int32)) w))] [(.int (1 : Int32))])
  refine Go.step (fun _ zz => XS.goto X3.here hx rfl (pc0 := 25) (pc' := 29) rfl (hb hby at_25) (by decide) (by decide) zz) ?_
  show Go _ _ _ _ T3 (mkF m 29 #[.val (.int p0), .val (.int ((p0 &&& (2147483647 : Int32)) % (9 : Int32))), .val (.ref (own_f1 ((p0 &&& (2147483647 : Int32)) % (9 : Int32)) w))] [(.int (1 : Int32))])
  exact Go.retN X3 hx (t := .boolean) Bd.returns (by simp) (hb hby at_29) Bd.notSynchronized (z' := (1 : Int32)) (by decide) (⟨rfl, N3⟩) (by decide) (by decide)
set_option maxRecDepth 65536 in
set_option maxHeartbeats 40000000 in
theorem comes_1 {Post : Tables → Env → Array Value → State → Outcome → State → Prop} (hpost : ∀ tb e args s v u, (limb_1_1.after args s (.returned v) u = true ∧ limb_1_2.after args s (.returned v) u = true ∧ True) → FrameEnd s (.returned v) u (Jvm.fieldLocs frame_1_writes args s ++ Jvm.arrayLocs frame_1_arrays args s ++ Jvm.staticLocs frame_1_statics s) 0 0 → Post tb e args s (.returned v) u) :
    ArmFor flags0 classFile x code maxLocals ret World_1 tables_1 room_1 Calls_1 rest_1 Pre_1 Post := by
  intro l hfl _ _ p e ha hc hk s m args below hf hA hF happ hP
  obtain ⟨hcalls, hrest, hpre⟩ := hP
  obtain ⟨-, -, -, hnamed, -, -, -, hat⟩ := (Spec.applies_iff hf).mp happ
  obtain ⟨hg, hn⟩ := and_e (Cond.before_iff.mp (show (Jvm.Cond.and given_1 narrow_1).before args s = true from hpre))
  obtain ⟨hg_a, hg_b⟩ := and_e hg
  obtain ⟨u0, rfl⟩ : ∃ u0 : Value, args = #[u0] := by
    have hs : args.size = 1 := by simpa [Cond.value, given_1] using hg_a
    obtain ⟨L⟩ := args
    match L, hs with
    | [u0], _ => exact ⟨u0, rfl⟩
  have hw := fun d (hd : d ∈ tables_1) => atoms_spec (ws := Jvm.Cond.code x code maxLocals ret :: tables_1) hat d (List.mem_cons_of_mem _ hd)
  have hfit : Fit s := fun {y c} hc i hi => by
    obtain ⟨ha, rfl⟩ := Array.getElem?_eq_some_iff.mp hc
    have q := List.all_eq_true.mp ((Array.all_eq_true_iff_forall_mem.mp hF) _ (Array.getElem_mem ha)) i (List.mem_range.mpr hi)
    simpa [Array.getElem?_eq_getElem hi] using q
  obtain ⟨i0, ei0⟩ := is_v hg_b
  obtain rfl : u0 = (.int i0) := Option.some.inj ei0
  obtain ⟨hn_a, hn_b⟩ := and_e hn
  obtain ⟨hn_b_a, hn_b_b⟩ := and_e hn_b
  obtain ⟨hn_b_b_a, hn_b_b_b⟩ := and_e hn_b_b
  obtain ⟨hn_b_b_b_a, hn_b_b_b_b⟩ := and_e hn_b_b_b
  obtain ⟨hn_b_b_b_b_a, hn_b_b_b_b_b⟩ := and_e hn_b_b_b_b
  obtain ⟨hn_b_b_b_b_b_a, hn_b_b_b_b_b_b⟩ := and_e hn_b_b_b_b_b
  obtain ⟨hn_b_b_b_b_b_b_a, hn_b_b_b_b_b_b_b⟩ := and_e hn_b_b_b_b_b_b
  obtain ⟨hn_b_b_b_b_b_b_b_a, hn_b_b_b_b_b_b_b_b⟩ := and_e hn_b_b_b_b_b_b_b
  obtain ⟨hn_b_b_b_b_b_b_b_b_a, hn_b_b_b_b_b_b_b_b_b⟩ := and_e hn_b_b_b_b_b_b_b_b
  obtain ⟨hn_b_b_b_b_b_b_b_b_b_a, hn_b_b_b_b_b_b_b_b_b_b⟩ := and_e hn_b_b_b_b_b_b_b_b_b
  obtain ⟨hn_b_b_b_b_b_b_b_b_b_b_a, hn_b_b_b_b_b_b_b_b_b_b_b⟩ := and_e hn_b_b_b_b_b_b_b_b_b_b
  obtain ⟨hn_b_b_b_b_b_b_b_b_b_b_b_a, hn_b_b_b_b_b_b_b_b_b_b_b_b⟩ := and_e hn_b_b_b_b_b_b_b_b_b_b_b
  obtain ⟨hn_b_b_b_b_b_b_b_b_b_b_b_b_a, hn_b_b_b_b_b_b_b_b_b_b_b_b_b⟩ := and_e hn_b_b_b_b_b_b_b_b_b_b_b_b
  obtain ⟨hn_b_b_b_b_b_b_b_b_b_b_b_b_b_a, hn_b_b_b_b_b_b_b_b_b_b_b_b_b_b⟩ := and_e hn_b_b_b_b_b_b_b_b_b_b_b_b_b
  obtain ⟨hn_b_b_b_b_b_b_b_b_b_b_b_b_b_b_a, hn_b_b_b_b_b_b_b_b_b_b_b_b_b_b_b⟩ := and_e hn_b_b_b_b_b_b_b_b_b_b_b_b_b_b
  obtain ⟨hn_b_b_b_b_b_b_b_b_b_b_b_b_b_b_b_a, hn_b_b_b_b_b_b_b_b_b_b_b_b_b_b_b_b⟩ := and_e hn_b_b_b_b_b_b_b_b_b_b_b_b_b_b_b
  obtain ⟨hn_b_b_b_b_b_b_b_b_b_b_b_b_b_b_b_b_a, hn_b_b_b_b_b_b_b_b_b_b_b_b_b_b_b_b_b⟩ := and_e hn_b_b_b_b_b_b_b_b_b_b_b_b_b_b_b_b
  obtain ⟨hn_b_b_b_b_b_b_b_b_b_b_b_b_b_b_b_b_b_a, hn_b_b_b_b_b_b_b_b_b_b_b_b_b_b_b_b_b_b⟩ := and_e hn_b_b_b_b_b_b_b_b_b_b_b_b_b_b_b_b_b
  obtain ⟨hn_b_b_b_b_b_b_b_b_b_b_b_b_b_b_b_b_b_b_a, hn_b_b_b_b_b_b_b_b_b_b_b_b_b_b_b_b_b_b_b⟩ := and_e hn_b_b_b_b_b_b_b_b_b_b_b_b_b_b_b_b_b_b
  obtain ⟨hn_b_b_b_b_b_b_b_b_b_b_b_b_b_b_b_b_b_b_b_a, hn_b_b_b_b_b_b_b_b_b_b_b_b_b_b_b_b_b_b_b_b⟩ := and_e hn_b_b_b_b_b_b_b_b_b_b_b_b_b_b_b_b_b_b_b
  obtain ⟨w0, ev0⟩ := exa_v hn_a
  obtain ⟨w1, ev1⟩ := exa_v hn_b_a
  obtain ⟨w2, ev2⟩ := exa_v hn_b_b_b_a
  obtain ⟨w3, ev3⟩ := exa_v hn_b_b_b_b_b_a
  obtain ⟨w4, ev4⟩ := exa_v hn_b_b_b_b_b_b_a
  obtain ⟨w5, ev5⟩ := exa_v hn_b_b_b_b_b_b_b_b_a
  obtain ⟨w6, ev6⟩ := exa_v hn_b_b_b_b_b_b_b_b_b_a
  obtain ⟨w7, ev7⟩ := exa_v hn_b_b_b_b_b_b_b_b_b_b_b_a
  obtain ⟨w8, ev8⟩ := exa_v hn_b_b_b_b_b_b_b_b_b_b_b_b_b_a
  obtain ⟨w9, ev9⟩ := exa_v hn_b_b_b_b_b_b_b_b_b_b_b_b_b_b_b_a
  obtain ⟨w10, ev10⟩ := exa_v hn_b_b_b_b_b_b_b_b_b_b_b_b_b_b_b_b_b_a
  obtain ⟨w11, ev11⟩ := exa_v hn_b_b_b_b_b_b_b_b_b_b_b_b_b_b_b_b_b_b_b_a
  have wd : Wd s (fun i => ([w0, w1, w2, w3, w4, w5, w6, w7, w8, w9, w10, w11] : List Addr).getD i 0) := ⟨Sta.start ev0 (Or.inr ⟨(hw _ (List.mem_of_getElem? (i := 6) rfl)), (hw _ (List.mem_of_getElem? (i := 7) rfl))⟩), Exa.start ev0 hn_a, Sta.start ev1 (Or.inr ⟨(hw _ (List.mem_of_getElem? (i := 15) rfl)), (hw _ (List.mem_of_getElem? (i := 16) rfl))⟩), Exa.start ev1 hn_b_a, Sta.start ev2 (Or.inr ⟨(hw _ (List.mem_of_getElem? (i := 6) rfl)), (hw _ (List.mem_of_getElem? (i := 21) rfl))⟩), Exa.start ev2 hn_b_b_b_a, Sta.start ev3 (Or.inr ⟨(hw _ (List.mem_of_getElem? (i := 6) rfl)), (hw _ (List.mem_of_getElem? (i := 23) rfl))⟩), Exa.start ev3 hn_b_b_b_b_b_a, Sta.start ev4 (Or.inr ⟨(hw _ (List.mem_of_getElem? (i := 15) rfl)), (hw _ (List.mem_of_getElem? (i := 24) rfl))⟩), Exa.start ev4 hn_b_b_b_b_b_b_a, Sta.start ev5 (Or.inr ⟨(hw _ (List.mem_of_getElem? (i := 6) rfl)), (hw _ (List.mem_of_getElem? (i := 26) rfl))⟩), Exa.start ev5 hn_b_b_b_b_b_b_b_b_a, Sta.start ev6 (Or.inr ⟨(hw _ (List.mem_of_getElem? (i := 15) rfl)), (hw _ (List.mem_of_getElem? (i := 27) rfl))⟩), Exa.start ev6 hn_b_b_b_b_b_b_b_b_b_a, Sta.start ev7 (Or.inr ⟨(hw _ (List.mem_of_getElem? (i := 6) rfl)), (hw _ (List.mem_of_getElem? (i := 29) rfl))⟩), Exa.start ev7 hn_b_b_b_b_b_b_b_b_b_b_b_a, Sta.start ev8 (Or.inr ⟨(hw _ (List.mem_of_getElem? (i := 6) rfl)), (hw _ (List.mem_of_getElem? (i := 31) rfl))⟩), Exa.start ev8 hn_b_b_b_b_b_b_b_b_b_b_b_b_b_a, Sta.start ev9 (Or.inr ⟨(hw _ (List.mem_of_getElem? (i := 6) rfl)), (hw _ (List.mem_of_getElem? (i := 33) rfl))⟩), Exa.start ev9 hn_b_b_b_b_b_b_b_b_b_b_b_b_b_b_b_a, Sta.start ev10 (Or.inr ⟨(hw _ (List.mem_of_getElem? (i := 6) rfl)), (hw _ (List.mem_of_getElem? (i := 35) rfl))⟩), Exa.start ev10 hn_b_b_b_b_b_b_b_b_b_b_b_b_b_b_b_b_b_a, Sta.start ev11 (Or.inr ⟨(hw _ (List.mem_of_getElem? (i := 6) rfl)), (hw _ (List.mem_of_getElem? (i := 37) rfl))⟩), Exa.start ev11 hn_b_b_b_b_b_b_b_b_b_b_b_b_b_b_b_b_b_b_b_a, Fld.start ((fld_at ev0).symm.trans (own_eqr hn_b_b_a ev1)), Fld.start ((fld_at ev2).symm.trans (own_eqr hn_b_b_b_b_a ev1)), Fld.start ((fld_at ev3).symm.trans (own_eqr hn_b_b_b_b_b_b_b_a ev4)), Fld.start ((fld_at ev5).symm.trans (own_eqr hn_b_b_b_b_b_b_b_b_b_b_a ev6)), Fld.start ((fld_at ev7).symm.trans (null_v hn_b_b_b_b_b_b_b_b_b_b_b_b_a)), Fld.start ((fld_at ev8).symm.trans (own_eqr hn_b_b_b_b_b_b_b_b_b_b_b_b_b_b_a ev6)), Fld.start ((fld_at ev9).symm.trans (null_v hn_b_b_b_b_b_b_b_b_b_b_b_b_b_b_b_b_a)), Fld.start ((fld_at ev10).symm.trans (null_v hn_b_b_b_b_b_b_b_b_b_b_b_b_b_b_b_b_b_b_a)), Fld.start ((fld_at ev11).symm.trans (null_v hn_b_b_b_b_b_b_b_b_b_b_b_b_b_b_b_b_b_b_b_b))⟩
  obtain ⟨n, o, h1, h2, h3, _, L, rfl, ⟨rfl, N⟩, hq⟩ := rm0 l s _ hw tables_1 i0 (fun i => ([w0, w1, w2, w3, w4, w5, w6, w7, w8, w9, w10, w11] : List Addr).getD i 0) s.heap s.heap.size (Nat.le_refl _) (Old.start s) wd p e ha hc hk s m _ below hf ((Spec.applies_iff_loose hf).mp happ).1 ⟨rfl, State.Warmed39.refl s, rfl⟩ trivial
  refine ⟨n, _, h1, h2, h3, hpost _ _ _ _ _ _ ⟨Cond.after_iff.mpr rfl, Cond.after_iff.mpr (eq_i res_at (Term.int_eval (1)) rfl), trivial⟩ ⟨hq.1, hq.2.1, (hq.2.2.sift fun y hy => Or.inr (N y hy)).mono (by decide) (by decide)⟩⟩
theorem main_1_1 : Claimed_1_1 := comes_1 fun _ _ _ _ _ _ h hF => ⟨h.1, hF⟩
theorem main_1_2 : Claimed_1_2 := comes_1 fun _ _ _ _ _ _ h hF => ⟨h.2.1, hF⟩
end Jvm.Pilot.@@N@@
namespace Jvm.Pilot.@@N@@
open Jvm Jvm.ClassFile Sem Op Lib Jvm.Free Jvm.Stand Jvm.Pilot.@@N@@.Jvm.D
/-! MADE BY PROGRAM (witnessworld.py) out of the Statement's table words and the real class files: 11 classes; the members and pool entries that the words name. The judged class is class 1, her method 3. -/
namespace start1
open Jvm.ClassFile
def u (s : String) : CpInfo := .utf8 (stringToUtf16 s)
/-- a pool by its gaps: so many unusable entries, then the entry; so many at the end -/
def gap : Nat → List CpInfo → List CpInfo
  | 0, r => r
  | n + 1, r => .unusable :: gap n r
def poolList (es : List (Nat × CpInfo)) (last : Nat) : List CpInfo := es.foldr (fun e r => gap e.1 (e.2 :: r)) (gap last [])
def pool (es : List (Nat × CpInfo)) (last : Nat) : Array CpInfo := ⟨poolList es last⟩
def fileOf (pool : Array CpInfo) (this : Nat) (attrs : Array Attribute := #[]) (ms : Array MethodInfo := #[]) (fl : Nat := 33) (sup : Nat := 0) (ifs : Array Nat := #[]) (fds : Array FieldInfo := #[]) : ClassFile where
  minorVersion := 0
  majorVersion := 65
  constantPool := pool
  accessFlags := fl
  thisClass := this
  superClass := sup
  interfaces := ifs
  fields := fds
  methods := ms
  attributes := attrs
def plain (name : String) (sup : Option ClassId) : Class where
  name := name
  kind := .ordinary
  loader := none
  accessFlags := 33
  super := sup
  interfaces := #[]
  cf := none
  fields := #[]
  methods := #[]
  instanceTypes := #[]
  staticTypes := #[]
  resolved := #[]
  callSites := []
  init := .initialized
  statics := none
  mirror := none

def pool0 : Array CpInfo := pool [(5, u "<init>"), (0, u "()V"), (1, .class_ 10), (1, u "java/lang/Object")] 113

def k0m0 : Method := { name := "<init>", desc := "()V", sig := { parameters := [], returnType := none }, accessFlags := 1, code := none }
/-- java/lang/Object -/
def k0 : Class := { plain "java/lang/Object" none with
  accessFlags := 33
  interfaces := #[]
  cf := some (fileOf pool0 8 #[] #[{ accessFlags := 1, nameIndex := 5, descriptorIndex := 6, attributes := #[] }] 33 0 #[] #[])
  fields := #[]
  methods := #[k0m0]
  instanceTypes := #[]
  staticTypes := #[]
  resolved := Array.replicate 124 none
  statics := none }

def pool1 : Array CpInfo := pool [(2, .class_ 4), (1, u "java/lang/Object"), (0, u "<init>"), (0, u "()V"), (0, .fieldref 8 9), (0, .class_ 10), (0, .nameAndType 11 12), (0, u "com/example/deferral_ledger/deferralledger/model/EntryKind"), (0, u "DEFERRAL"), (0, u "Lcom/example/deferral_ledger/deferralledger/model/EntryKind;"), (0, .fieldref 8 14), (0, .nameAndType 15 12), (0, u "MATCHING"), (0, .fieldref 8 17), (0, .nameAndType 18 12), (0, u "CORE"), (0, .fieldref 8 20), (0, .nameAndType 21 12), (0, u "DEFERRAL_REVERSED"), (0, .fieldref 8 23), (0, .nameAndType 24 12), (0, u "MATCHING_REVERSED"), (0, .fieldref 8 26), (0, .nameAndType 27 12), (0, u "INTEREST"), (0, .fieldref 8 29), (0, .nameAndType 30 12), (0, u "LATE_INTEREST"), (0, .fieldref 8 32), (0, .nameAndType 33 12), (0, u "EARNINGS"), (0, .fieldref 8 35), (0, .nameAndType 36 12), (0, u "PAYMENT"), (0, .integer 2147483647), (0, .methodref 39 40), (0, .class_ 41), (0, .nameAndType 42 43), (0, u "com/example/deferral_ledger/deferralledger/model/EntryKindIsCreditPinLaw"), (0, u "kindOf"), (0, u "(I)Lcom/example/deferral_ledger/deferralledger/model/EntryKind;"), (0, .methodref 8 45), (0, .nameAndType 46 47), (0, u "isCredit"), (0, u "()Z"), (0, .methodref 39 49), (0, .nameAndType 50 51), (0, u "expectedCredit"), (0, u "(I)Z"), (3, u "law")] 2

def k1m0 : Method := { name := "<init>", desc := "()V", sig := { parameters := [], returnType := none }, accessFlags := 1, code := none }
def k1c1 : Code := { maxStack := 2, maxLocals := 1, code := method_2_code, exceptionTable := #[], attributes := #[] }
def k1m1 : Method := { name := "kindOf", desc := "(I)Lcom/example/deferral_ledger/deferralledger/model/EntryKind;", sig := { parameters := [.int], returnType := some (.object "com/example/deferral_ledger/deferralledger/model/EntryKind") }, accessFlags := 10, code := some k1c1 }
def k1c2 : Code := { maxStack := 2, maxLocals := 1, code := method_3_code, exceptionTable := #[], attributes := #[] }
def k1m2 : Method := { name := "expectedCredit", desc := "(I)Z", sig := { parameters := [.int], returnType := some .boolean }, accessFlags := 10, code := some k1c2 }
def k1c3 : Code := { maxStack := 2, maxLocals := 3, code := code, exceptionTable := #[], attributes := #[] }
def k1m3 : Method := { name := "law", desc := "(I)Z", sig := { parameters := [.int], returnType := some .boolean }, accessFlags := 9, code := some k1c3 }
/-- com/example/deferral_ledger/deferralledger/model/EntryKindIsCreditPinLaw -/
def k1 : Class := { plain "com/example/deferral_ledger/deferralledger/model/EntryKindIsCreditPinLaw" (some 0) with
  accessFlags := 49
  interfaces := #[]
  cf := some (fileOf pool1 39 #[] #[{ accessFlags := 1, nameIndex := 5, descriptorIndex := 6, attributes := #[] }, { accessFlags := 10, nameIndex := 42, descriptorIndex := 43, attributes := #[] }, { accessFlags := 10, nameIndex := 50, descriptorIndex := 51, attributes := #[] }, { accessFlags := 9, nameIndex := 55, descriptorIndex := 51, attributes := #[] }] 49 2 #[] #[])
  fields := #[]
  methods := #[k1m0, k1m1, k1m2, k1m3]
  instanceTypes := #[]
  staticTypes := #[]
  resolved := Array.replicate 58 none
  statics := none }

def pool2 : Array CpInfo := pool [(1, .class_ 2), (0, u "java/lang/constant/Constable"), (0, .class_ 4), (0, u "java/lang/Object")] 6

/-- java/lang/constant/Constable -/
def k2 : Class := { plain "java/lang/constant/Constable" (some 0) with
  accessFlags := 1537
  interfaces := #[]
  cf := some (fileOf pool2 1 #[] #[] 1537 3 #[] #[])
  fields := #[]
  methods := #[]
  instanceTypes := #[]
  staticTypes := #[]
  resolved := Array.replicate 11 none
  statics := none }

def pool3 : Array CpInfo := pool [(1, .class_ 2), (0, u "java/lang/Comparable"), (0, .class_ 4), (0, u "java/lang/Object")] 7

/-- java/lang/Comparable -/
def k3 : Class := { plain "java/lang/Comparable" (some 0) with
  accessFlags := 1537
  interfaces := #[]
  cf := some (fileOf pool3 1 #[] #[] 1537 3 #[] #[])
  fields := #[]
  methods := #[]
  instanceTypes := #[]
  staticTypes := #[]
  resolved := Array.replicate 12 none
  statics := none }

def pool4 : Array CpInfo := pool [(1, .class_ 2), (0, u "java/io/Serializable"), (0, .class_ 4), (0, u "java/lang/Object")] 2

/-- java/io/Serializable -/
def k4 : Class := { plain "java/io/Serializable" (some 0) with
  accessFlags := 1537
  interfaces := #[]
  cf := some (fileOf pool4 1 #[] #[] 1537 3 #[] #[])
  fields := #[]
  methods := #[]
  instanceTypes := #[]
  staticTypes := #[]
  resolved := Array.replicate 7 none
  statics := none }

def pool5 : Array CpInfo := pool [(2, .class_ 4), (1, u "java/lang/Enum"), (0, u "name"), (0, u "Ljava/lang/String;"), (2, u "ordinal"), (0, u "I"), (1, .class_ 14), (1, u "java/lang/Object"), (4, u "hash"), (86, .class_ 108), (1, u "java/lang/Enum$EnumDesc"), (2, .class_ 112), (0, u "java/lang/constant/Constable"), (0, .class_ 114), (0, u "java/lang/Comparable"), (0, .class_ 116), (0, u "java/io/Serializable")] 87

/-- java/lang/Enum -/
def k5 : Class := { plain "java/lang/Enum" (some 0) with
  accessFlags := 1057
  interfaces := #[2, 3, 4]
  cf := some (fileOf pool5 2 #[.nestMembers #[106]] #[] 1057 12 #[111, 113, 115] #[{ accessFlags := 18, nameIndex := 5, descriptorIndex := 6, attributes := #[] }, { accessFlags := 18, nameIndex := 9, descriptorIndex := 10, attributes := #[] }, { accessFlags := 2, nameIndex := 19, descriptorIndex := 10, attributes := #[] }])
  fields := #[{ name := "name", type := (.object "java/lang/String"), accessFlags := 18, slot := 0, constantValue := 0 }, { name := "ordinal", type := .int, accessFlags := 18, slot := 1, constantValue := 0 }, { name := "hash", type := .int, accessFlags := 2, slot := 2, constantValue := 0 }]
  methods := #[]
  instanceTypes := #[(.object "java/lang/String"), .int, .int]
  staticTypes := #[]
  resolved := Array.replicate 204 none
  statics := none }

def pool6 : Array CpInfo := pool [(1, .class_ 2), (0, u "com/example/deferral_ledger/deferralledger/model/EntryKind"), (2, u "DEFERRAL"), (0, u "Lcom/example/deferral_ledger/deferralledger/model/EntryKind;"), (2, u "MATCHING"), (2, u "CORE"), (2, u "DEFERRAL_REVERSED"), (2, u "MATCHING_REVERSED"), (2, u "INTEREST"), (2, u "LATE_INTEREST"), (2, u "EARNINGS"), (2, u "PAYMENT"), (2, u "$VALUES"), (0, u "[Lcom/example/deferral_ledger/deferralledger/model/EntryKind;"), (6, .class_ 43), (1, u "java/lang/Enum"), (8, u "word"), (0, u "Ljava/lang/String;"), (2, u "label"), (2, u "counterAccount"), (0, .fieldref 1 61), (0, .nameAndType 62 63), (0, u "subaccount"), (0, u "Lcom/example/deferral_ledger/deferralledger/model/Subaccount;"), (2, u "reverses"), (93, u "()Z"), (5, u "isCredit")] 24

def k6c0 : Code := { maxStack := 1, maxLocals := 1, code := prog_26_method_13_code, exceptionTable := #[], attributes := #[] }
def k6m0 : Method := { name := "isCredit", desc := "()Z", sig := { parameters := [], returnType := some .boolean }, accessFlags := 1, code := some k6c0 }
/-- com/example/deferral_ledger/deferralledger/model/EntryKind -/
def k6 : Class := { plain "com/example/deferral_ledger/deferralledger/model/EntryKind" (some 5) with
  accessFlags := 16433
  interfaces := #[]
  cf := some (fileOf pool6 1 #[] #[{ accessFlags := 1, nameIndex := 166, descriptorIndex := 160, attributes := #[] }] 16433 41 #[] #[{ accessFlags := 16409, nameIndex := 5, descriptorIndex := 6, attributes := #[] }, { accessFlags := 16409, nameIndex := 9, descriptorIndex := 6, attributes := #[] }, { accessFlags := 16409, nameIndex := 12, descriptorIndex := 6, attributes := #[] }, { accessFlags := 16409, nameIndex := 15, descriptorIndex := 6, attributes := #[] }, { accessFlags := 16409, nameIndex := 18, descriptorIndex := 6, attributes := #[] }, { accessFlags := 16409, nameIndex := 21, descriptorIndex := 6, attributes := #[] }, { accessFlags := 16409, nameIndex := 24, descriptorIndex := 6, attributes := #[] }, { accessFlags := 16409, nameIndex := 27, descriptorIndex := 6, attributes := #[] }, { accessFlags := 16409, nameIndex := 30, descriptorIndex := 6, attributes := #[] }, { accessFlags := 18, nameIndex := 52, descriptorIndex := 53, attributes := #[] }, { accessFlags := 18, nameIndex := 56, descriptorIndex := 53, attributes := #[] }, { accessFlags := 18, nameIndex := 59, descriptorIndex := 53, attributes := #[] }, { accessFlags := 18, nameIndex := 62, descriptorIndex := 63, attributes := #[] }, { accessFlags := 18, nameIndex := 66, descriptorIndex := 6, attributes := #[] }, { accessFlags := 4122, nameIndex := 33, descriptorIndex := 34, attributes := #[] }])
  fields := #[{ name := "DEFERRAL", type := (.object "com/example/deferral_ledger/deferralledger/model/EntryKind"), accessFlags := 16409, slot := 0, constantValue := 0 }, { name := "MATCHING", type := (.object "com/example/deferral_ledger/deferralledger/model/EntryKind"), accessFlags := 16409, slot := 1, constantValue := 0 }, { name := "CORE", type := (.object "com/example/deferral_ledger/deferralledger/model/EntryKind"), accessFlags := 16409, slot := 2, constantValue := 0 }, { name := "DEFERRAL_REVERSED", type := (.object "com/example/deferral_ledger/deferralledger/model/EntryKind"), accessFlags := 16409, slot := 3, constantValue := 0 }, { name := "MATCHING_REVERSED", type := (.object "com/example/deferral_ledger/deferralledger/model/EntryKind"), accessFlags := 16409, slot := 4, constantValue := 0 }, { name := "INTEREST", type := (.object "com/example/deferral_ledger/deferralledger/model/EntryKind"), accessFlags := 16409, slot := 5, constantValue := 0 }, { name := "LATE_INTEREST", type := (.object "com/example/deferral_ledger/deferralledger/model/EntryKind"), accessFlags := 16409, slot := 6, constantValue := 0 }, { name := "EARNINGS", type := (.object "com/example/deferral_ledger/deferralledger/model/EntryKind"), accessFlags := 16409, slot := 7, constantValue := 0 }, { name := "PAYMENT", type := (.object "com/example/deferral_ledger/deferralledger/model/EntryKind"), accessFlags := 16409, slot := 8, constantValue := 0 }, { name := "word", type := (.object "java/lang/String"), accessFlags := 18, slot := 3, constantValue := 0 }, { name := "label", type := (.object "java/lang/String"), accessFlags := 18, slot := 4, constantValue := 0 }, { name := "counterAccount", type := (.object "java/lang/String"), accessFlags := 18, slot := 5, constantValue := 0 }, { name := "subaccount", type := (.object "com/example/deferral_ledger/deferralledger/model/Subaccount"), accessFlags := 18, slot := 6, constantValue := 0 }, { name := "reverses", type := (.object "com/example/deferral_ledger/deferralledger/model/EntryKind"), accessFlags := 18, slot := 7, constantValue := 0 }, { name := "$VALUES", type := (.array (.object "com/example/deferral_ledger/deferralledger/model/EntryKind")), accessFlags := 4122, slot := 9, constantValue := 0 }]
  methods := #[k6m0]
  instanceTypes := #[(.object "java/lang/String"), .int, .int, (.object "java/lang/String"), (.object "java/lang/String"), (.object "java/lang/String"), (.object "com/example/deferral_ledger/deferralledger/model/Subaccount"), (.object "com/example/deferral_ledger/deferralledger/model/EntryKind")]
  staticTypes := #[(.object "com/example/deferral_ledger/deferralledger/model/EntryKind"), (.object "com/example/deferral_ledger/deferralledger/model/EntryKind"), (.object "com/example/deferral_ledger/deferralledger/model/EntryKind"), (.object "com/example/deferral_ledger/deferralledger/model/EntryKind"), (.object "com/example/deferral_ledger/deferralledger/model/EntryKind"), (.object "com/example/deferral_ledger/deferralledger/model/EntryKind"), (.object "com/example/deferral_ledger/deferralledger/model/EntryKind"), (.object "com/example/deferral_ledger/deferralledger/model/EntryKind"), (.object "com/example/deferral_ledger/deferralledger/model/EntryKind"), (.array (.object "com/example/deferral_ledger/deferralledger/model/EntryKind"))]
  resolved := Array.replicate 191 none
  statics := some 0 }

def pool7 : Array CpInfo := pool [(1, .class_ 2), (0, u "com/example/deferral_ledger/deferralledger/model/Subaccount"), (2, u "DEFERRALS"), (0, u "Lcom/example/deferral_ledger/deferralledger/model/Subaccount;"), (2, u "MATCHING"), (2, u "CORE"), (2, u "$VALUES"), (0, u "[Lcom/example/deferral_ledger/deferralledger/model/Subaccount;"), (6, .class_ 25), (1, u "java/lang/Enum"), (8, u "word"), (0, u "Ljava/lang/String;"), (2, u "title")] 35

/-- com/example/deferral_ledger/deferralledger/model/Subaccount -/
def k7 : Class := { plain "com/example/deferral_ledger/deferralledger/model/Subaccount" (some 5) with
  accessFlags := 16433
  interfaces := #[]
  cf := some (fileOf pool7 1 #[] #[] 16433 23 #[] #[{ accessFlags := 16409, nameIndex := 5, descriptorIndex := 6, attributes := #[] }, { accessFlags := 16409, nameIndex := 9, descriptorIndex := 6, attributes := #[] }, { accessFlags := 16409, nameIndex := 12, descriptorIndex := 6, attributes := #[] }, { accessFlags := 18, nameIndex := 34, descriptorIndex := 35, attributes := #[] }, { accessFlags := 18, nameIndex := 38, descriptorIndex := 35, attributes := #[] }, { accessFlags := 4122, nameIndex := 15, descriptorIndex := 16, attributes := #[] }])
  fields := #[{ name := "DEFERRALS", type := (.object "com/example/deferral_ledger/deferralledger/model/Subaccount"), accessFlags := 16409, slot := 0, constantValue := 0 }, { name := "MATCHING", type := (.object "com/example/deferral_ledger/deferralledger/model/Subaccount"), accessFlags := 16409, slot := 1, constantValue := 0 }, { name := "CORE", type := (.object "com/example/deferral_ledger/deferralledger/model/Subaccount"), accessFlags := 16409, slot := 2, constantValue := 0 }, { name := "word", type := (.object "java/lang/String"), accessFlags := 18, slot := 3, constantValue := 0 }, { name := "title", type := (.object "java/lang/String"), accessFlags := 18, slot := 4, constantValue := 0 }, { name := "$VALUES", type := (.array (.object "com/example/deferral_ledger/deferralledger/model/Subaccount")), accessFlags := 4122, slot := 3, constantValue := 0 }]
  methods := #[]
  instanceTypes := #[(.object "java/lang/String"), .int, .int, (.object "java/lang/String"), (.object "java/lang/String")]
  staticTypes := #[(.object "com/example/deferral_ledger/deferralledger/model/Subaccount"), (.object "com/example/deferral_ledger/deferralledger/model/Subaccount"), (.object "com/example/deferral_ledger/deferralledger/model/Subaccount"), (.array (.object "com/example/deferral_ledger/deferralledger/model/Subaccount"))]
  resolved := Array.replicate 74 none
  statics := some 1 }

def pool8 : Array CpInfo := pool [(1, u "java/lang/Cloneable"), (0, .class_ 1), (0, u "java/lang/Object"), (0, .class_ 3)] 3

/-- java/lang/Cloneable -/
def k8 : Class := { plain "java/lang/Cloneable" (some 0) with
  accessFlags := 1537
  interfaces := #[]
  cf := some (fileOf pool8 2 #[] #[] 1537 4 #[] #[])
  fields := #[]
  methods := #[]
  instanceTypes := #[]
  staticTypes := #[]
  resolved := Array.replicate 8 none
  statics := none }

/-- the primitive byte -/
def k9 : Class := { plain "byte" none with kind := .primitive 'B', accessFlags := 0x411 }
/-- [B -/
def k10 : Class := { plain "[B" (some 0) with kind := .array 9 .byte, interfaces := #[8, 4], accessFlags := 1041 }

def heap : Heap := #[{ cls := 6, slots := #[.ref 2, .ref 3, .ref 4, .ref 5, .ref 6, .ref 7, .ref 8, .ref 9, .ref 10, .null], vm := .statics 6 },
  { cls := 7, slots := #[.ref 11, .ref 12, .ref 13, .null], vm := .statics 7 },
  { cls := 6, slots := #[.null, .int 0, .int 0, .null, .null, .null, .ref 11, .null], vm := .none },
  { cls := 6, slots := #[.null, .int 1, .int 0, .null, .null, .null, .ref 12, .null], vm := .none },
  { cls := 6, slots := #[.null, .int 2, .int 0, .null, .null, .null, .ref 13, .null], vm := .none },
  { cls := 6, slots := #[.null, .int 3, .int 0, .null, .null, .null, .ref 11, .null], vm := .none },
  { cls := 6, slots := #[.null, .int 4, .int 0, .null, .null, .null, .ref 12, .null], vm := .none },
  { cls := 6, slots := #[.null, .int 5, .int 0, .null, .null, .null, .null, .null], vm := .none },
  { cls := 6, slots := #[.null, .int 6, .int 0, .null, .null, .null, .null, .null], vm := .none },
  { cls := 6, slots := #[.null, .int 7, .int 0, .null, .null, .null, .null, .null], vm := .none },
  { cls := 6, slots := #[.null, .int 8, .int 0, .null, .null, .null, .null, .null], vm := .none },
  { cls := 7, slots := #[.null, .int 0, .int 0, .null, .null], vm := .none },
  { cls := 7, slots := #[.null, .int 1, .int 0, .null, .null], vm := .none },
  { cls := 7, slots := #[.null, .int 2, .int 0, .null, .null], vm := .none }]
def classes : Array Class := #[k0, k1, k2, k3, k4, k5, k6, k7, k8, k9, k10]
def interned : List (Array UInt16 × Addr) := []
def slotsUsed : Nat := 101
def theMethod : MethodId := ⟨1, 3⟩
def args0 : Array Value := #[.int 5]
def aboutOver (below : List Frame) : State where
  vm := { classes := classes, interned := interned.toArray }
  heap := heap
  slotsUsed := slotsUsed
  threads := #[{ frames := .invoking theMethod args0 :: below }]
def below0 : List Frame := [.native { method := ⟨0, 0⟩, args := #[] }]
def about1 : State := aboutOver below0
def p0 : Program := .bare "" "" ""
def e0 : Env := launch0.env 0 0 0
theorem w_frames : about1.frames = Frame.invoking theMethod args0 :: below0 := rfl
set_option maxRecDepth 65536 in
theorem w_args : argsFit about1.vm theMethod args0 = true := by decide +kernel
set_option maxRecDepth 65536 in
theorem w_heap : heapFits about1 = true := by decide +kernel
set_option maxRecDepth 65536 in
theorem w_runnable : about1.curStatus? = some .runnable := by decide +kernel
set_option maxRecDepth 65536 in
theorem w_alone : about1.alone = true := by decide +kernel
set_option maxRecDepth 65536 in
theorem w_named : about1.methodNamed? x = some theMethod := by decide +kernel
set_option maxRecDepth 65536 in
theorem w_hears : about1.hears theMethod below0 = true := by decide +kernel
set_option maxRecDepth 65536 in
theorem w_ripe : about1.ripe theMethod args0 below0 = true := by decide +kernel
theorem w_running : about1.status = .running := rfl
set_option maxRecDepth 65536 in
theorem w_room : about1.hasRoom e0.platform room_1 = true :=
  launch0.hasRoom_least _ room_1 (by decide +kernel) (by decide +kernel) (by decide +kernel) (by decide +kernel) (by decide +kernel) (by decide +kernel)
theorem allAtoms_all (ts : List Jvm.Cond) (a : Array Jvm.Value) (st : Jvm.State) : (allAtoms ts).before a st = ts.all (fun c => c.before a st) := by
  induction ts with
  | nil => rfl
  | cons c t ih =>
    show (Jvm.Cond.and c (allAtoms t)).before a st = _
    rw [Jvm.Cond.before_and, ih, List.all_cons]
def words1 : List Jvm.Cond := Jvm.Cond.code x code maxLocals ret :: tables_1
/-- a 'code' word, met by the world's own term for the bytes: nothing is compared byte by byte -/
theorem code_word {y : MethodName} {bytes : ByteArray} {mx : Nat} {rt : Option FieldType} {a : Array Value} {s : State} {m : MethodId} {meth : Method} {c : Code} (h1 : s.methodNamed? y = some m) (h2 : s.vm.method? m = some meth) (h3 : meth.code = some c) (h4 : c.code = bytes)
    (h5 : (c.maxLocals == mx && c.exceptionTable.isEmpty && decide (c.maxStack ≤ mostOperands) && decide (meth.sig.returnType = rt) && !meth.locks && decide (parseMethodDescriptor y.desc = some meth.sig)) = true) : (Jvm.Cond.code y bytes mx rt).before a s = true := by
  simp only [Bool.and_eq_true, beq_iff_eq, Bool.not_eq_true', decide_eq_true_eq] at h5
  obtain ⟨⟨⟨⟨⟨g1, g2⟩, g3⟩, g4⟩, g5⟩, g6⟩ := h5
  simp [Cond.before, Cond.holds, Cond.value, h1, h2, h3, h4, g1, g2, g3, g4, g5, g6]
def isCode : Jvm.Cond → Bool
  | .code _ _ _ _ => true
  | _ => false
theorem all_split {L : List Jvm.Cond} {P : Jvm.Cond → Bool} (h1 : L.all (fun c => isCode c || P c) = true) (h2 : ∀ c ∈ L.filter isCode, P c = true) : L.all P = true := by
  refine List.all_eq_true.mpr fun c hc => ?_
  have h := List.all_eq_true.mp h1 c hc
  rcases Bool.eq_false_or_eq_true (isCode c) with hi | hi
  · exact h2 c (List.mem_filter.mpr ⟨hc, hi⟩)
  · simpa [hi] using h
set_option maxRecDepth 65536 in
theorem w_c0 : (Jvm.Cond.code x code maxLocals ret).before args0 about1 = true := code_word (m := ⟨1, 3⟩) (meth := k1m3) (c := k1c3) (by decide +kernel) rfl rfl rfl (by decide +kernel)
set_option maxRecDepth 65536 in
theorem w_c1 : (Jvm.Cond.code ({ cls := "com/example/deferral_ledger/deferralledger/model/EntryKindIsCreditPinLaw", name := "kindOf", desc := "(I)Lcom/example/deferral_ledger/deferralledger/model/EntryKind;" } : Jvm.MethodName) method_2_code (1 : Nat) (Option.some (Jvm.ClassFile.FieldType.object "com/example/deferral_ledger/deferralledger/model/EntryKind"))).before args0 about1 = true := code_word (m := ⟨1, 1⟩) (meth := k1m1) (c := k1c1) (by decide +kernel) rfl rfl rfl (by decide +kernel)
set_option maxRecDepth 65536 in
theorem w_c2 : (Jvm.Cond.code ({ cls := "com/example/deferral_ledger/deferralledger/model/EntryKind", name := "isCredit", desc := "()Z" } : Jvm.MethodName) prog_26_method_13_code (1 : Nat) (Option.some Jvm.ClassFile.FieldType.boolean)).before args0 about1 = true := code_word (m := ⟨6, 0⟩) (meth := k6m0) (c := k6c0) (by decide +kernel) rfl rfl rfl (by decide +kernel)
set_option maxRecDepth 65536 in
theorem w_c3 : (Jvm.Cond.code ({ cls := "com/example/deferral_ledger/deferralledger/model/EntryKindIsCreditPinLaw", name := "expectedCredit", desc := "(I)Z" } : Jvm.MethodName) method_3_code (1 : Nat) (Option.some Jvm.ClassFile.FieldType.boolean)).before args0 about1 = true := code_word (m := ⟨1, 2⟩) (meth := k1m2) (c := k1c2) (by decide +kernel) rfl rfl rfl (by decide +kernel)
def codes1 : List Jvm.Cond := [Jvm.Cond.code x code maxLocals ret, Jvm.Cond.code ({ cls := "com/example/deferral_ledger/deferralledger/model/EntryKindIsCreditPinLaw", name := "kindOf", desc := "(I)Lcom/example/deferral_ledger/deferralledger/model/EntryKind;" } : Jvm.MethodName) method_2_code (1 : Nat) (Option.some (Jvm.ClassFile.FieldType.object "com/example/deferral_ledger/deferralledger/model/EntryKind")), Jvm.Cond.code ({ cls := "com/example/deferral_ledger/deferralledger/model/EntryKind", name := "isCredit", desc := "()Z" } : Jvm.MethodName) prog_26_method_13_code (1 : Nat) (Option.some Jvm.ClassFile.FieldType.boolean), Jvm.Cond.code ({ cls := "com/example/deferral_ledger/deferralledger/model/EntryKindIsCreditPinLaw", name := "expectedCredit", desc := "(I)Z" } : Jvm.MethodName) method_3_code (1 : Nat) (Option.some Jvm.ClassFile.FieldType.boolean)]
set_option maxRecDepth 65536 in
theorem codes_eq : words1.filter isCode = codes1 := rfl
theorem w_codes : ∀ c ∈ words1.filter isCode, c.before args0 about1 = true := by
  rw [codes_eq]
  intro c hc
  simp only [codes1, List.mem_cons, List.not_mem_nil, or_false] at hc
  rcases hc with rfl | rfl | rfl | rfl
  · exact w_c0
  · exact w_c1
  · exact w_c2
  · exact w_c3
set_option maxRecDepth 65536 in
theorem w_t1 : (words1.take 24).all (fun c => isCode c || c.before args0 about1) = true := by decide +kernel
set_option maxRecDepth 65536 in
theorem w_t2 : (words1.drop 24).all (fun c => isCode c || c.before args0 about1) = true := by decide +kernel
theorem w_tables : (allAtoms (Jvm.Cond.code x code maxLocals ret :: tables_1)).before args0 about1 = true := by
  rw [allAtoms_all]
  show words1.all (fun c => c.before args0 about1) = true
  refine all_split ?_ w_codes
  rw [← List.take_append_drop 24 words1, List.all_append, w_t1, w_t2]
  rfl
set_option maxRecDepth 65536 in
theorem w_case : (Jvm.Cond.and given_1 narrow_1).before args0 about1 = true := by decide +kernel
theorem w_applies : (headSpec (Jvm.Cond.code x code maxLocals ret :: tables_1) room_1).applies x e0.platform about1 = true :=
  (Spec.applies_iff w_frames).mpr ⟨w_running, w_runnable, w_alone, w_named, w_hears, w_ripe, w_room, w_tables⟩
theorem atStart : AtStart classFile x code maxLocals ret World_1 tables_1 room_1 Calls_1 rest_1 Pre_1 launch0 p0 e0 about1 theMethod args0 below0 :=
  ⟨lists_1, trivial, launch0.admits_env _ _ _, launch0.least_env, fairChoices_fair.cas, fairChoices_fair.clock, w_frames, w_args, w_heap, w_applies, trivial, trivial, w_case⟩
end start1
theorem witness_1 : WitnessClaimed_1 := ⟨start1.p0, start1.e0, start1.about1, start1.theMethod, start1.args0, start1.below0, start1.atStart⟩
end Jvm.Pilot.@@N@@
