import JvmDerived
import JvmDerived.Pilot.@@N@@Statement
import JvmDerived.Pilot.@@N@@Code
set_option linter.unusedVariables false
set_option linter.unusedSimpArgs false
namespace Jvm.Pilot.@@N@@
open Jvm Jvm.ClassFile Sem Op Lib Jvm.Free Jvm.Stand Jvm.LawKit Jvm.RoadKit Bundle Jvm.Pilot.@@N@@.Jvm.D
/-- the walk from here on: it comes to an end that meets R -/
def Go (tb : Tables) (e : Env) (below : List Frame) (R : Outcome → State → Prop) (T : State) (g : JFrame) : Prop :=
  ∃ s₂ o, Steps tb e below (T.setTop g) s₂ ∧ s₂.status = .running ∧ Ended s₂ below o ∧ R o s₂
def RT (Q : Option Value → Heap → List Loc → Prop) (s : State) (C S : Nat) : Outcome → State → Prop :=
  fun o U' => ∃ v L, o = .returned v ∧ Q v U'.heap L ∧ FrameEnd s o U' L C S
theorem Go.step {tb : Tables} {e : Env} {below : List Frame} {R : Outcome → State → Prop} {T T' : State} {g g' : JFrame} (h : ∀ t, Steps tb e below (T'.setTop g') t → Steps tb e below (T.setTop g) t) (k : Go tb e below R T' g') : Go tb e below R T g := by
  obtain ⟨s₂, o, h1, h2⟩ := k
  exact ⟨s₂, o, h _ h1, h2⟩
theorem Go.tr {tb : Tables} {e : Env} {below : List Frame} {R : Outcome → State → Prop} {T T' : State} {g g' : JFrame} (h : Steps tb e below (T.setTop g) (T'.setTop g')) (k : Go tb e below R T' g') : Go tb e below R T g :=
  Go.step (fun _ q => h.trans q) k
theorem Go.enter {tb : Tables} {e : Env} {below : List Frame} {Q : Option Value → Heap → List Loc → Prop} {s : State} {C S : Nat} {T : State} {g g' : JFrame} (q : g = g') (k : Go tb e below (RT Q s C S) T g') :
    ∃ s₂ o, Steps tb e below (T.setTop g) s₂ ∧ s₂.status = .running ∧ Ended s₂ below o ∧ ∃ v L, o = .returned v ∧ Q v s₂.heap L ∧ FrameEnd s o s₂ L C S := by
  subst q
  exact k
section Ret
variable {p : Program} {l : Launch} {e : Env} {R : Room} {s : State} {m : MethodId} {args : Array Value} {below : List Frame} {meth : Method} {c : Code} {T : State} {locs : List Loc} {cells slots : Nat} {Q : Option Value → Heap → List Loc → Prop} {C S : Nat} {pc : Nat} {Ls : Array Slot} {rest : List Value}
theorem Go.fin (X : Stand p l e R s m args below meth c T locs cells slots) {v : Option Value} {g : JFrame} (hv : meth.sig.returnType = none → v = none) (hlk : meth.locks = false)
    (hst : ∀ fs, (∀ (f : JFrame) (acts : List Action), f.method = m → f.locked = none → f.entered = [] → (doReturn e (T.setTop f) acts v).1 = T.setFrames fs) → Steps p.tables e below (T.setTop g) (T.setFrames fs))
    (hQ : Q v T.heap locs) (hc : cells ≤ C) (hs : slots ≤ S) : Go p.tables e below (RT Q s C S) T g := by
  obtain ⟨fs, hr, hrun, hended, hW, hsame⟩ := X.leave hv hlk
  exact ⟨_, _, hst fs hr, hrun, hended, _, _, rfl, hQ, ⟨_, rfl⟩, hW, hsame.mono hc hs⟩
theorem Go.retN (X : Stand p l e R s m args below meth c T locs cells slots) (hx : p.tables.exec = Jvm.exec) {z z' : Int32} {t : FieldType} (hret : meth.sig.returnType = some t) (ht : t = .boolean ∨ t = .byte ∨ t = .char ∨ t = .short) (hd : decode c.code pc = .ok (.ireturn, 1)) (hlk : meth.locks = false) (hz : nar t z = z')
    (hQ : Q (some (.int z')) T.heap locs) (hc : cells ≤ C) (hs : slots ≤ S) : Go p.tables e below (RT Q s C S) T (mkF m pc Ls (.int z :: rest)) := by
  subst hz
  exact Go.fin X (fun h => by rw [hret] at h; cases h) hlk (fun fs hr => Jvm.RoadKit.retN X hx hret ht hd hr) hQ hc hs
theorem Go.retI (X : Stand p l e R s m args below meth c T locs cells slots) (hx : p.tables.exec = Jvm.exec) {z : Int32} (hret : meth.sig.returnType = some .int) (hd : decode c.code pc = .ok (.ireturn, 1)) (hlk : meth.locks = false)
    (hQ : Q (some (.int z)) T.heap locs) (hc : cells ≤ C) (hs : slots ≤ S) : Go p.tables e below (RT Q s C S) T (mkF m pc Ls (.int z :: rest)) := by
  refine Go.fin X (fun h => by rw [hret] at h; cases h) hlk (fun fs hr => ?_) hQ hc hs
  have hm' : T.vm.method? m = some meth := X.method'
  have hn : narrow .int (.int z) = .int z := rfl
  show Steps p.tables e below (T.setTop { method := m, pc := pc, locals := Ls, stack := _ :: rest, locked := none }) _
  jvm_step X.here [X.here.top, hx, hd, hm', hret, hn]
  first | (intro acts; rw [hr _ acts rfl rfl rfl]) | rw [hr _ _ rfl rfl rfl]
  exact Steps.refl _
theorem Go.retJ (X : Stand p l e R s m args below meth c T locs cells slots) (hx : p.tables.exec = Jvm.exec) {z : Int64} (hret : meth.sig.returnType = some .long) (hd : decode c.code pc = .ok (.lreturn, 1)) (hlk : meth.locks = false)
    (hQ : Q (some (.long z)) T.heap locs) (hc : cells ≤ C) (hs : slots ≤ S) : Go p.tables e below (RT Q s C S) T (mkF m pc Ls (.long z :: rest)) := by
  refine Go.fin X (fun h => by rw [hret] at h; cases h) hlk (fun fs hr => ?_) hQ hc hs
  have hm' : T.vm.method? m = some meth := X.method'
  show Steps p.tables e below (T.setTop { method := m, pc := pc, locals := Ls, stack := _ :: rest, locked := none }) _
  jvm_step X.here [X.here.top, hx, hd, hm', hret, narrow]
  first | (intro acts; rw [hr _ acts rfl rfl rfl]) | rw [hr _ _ rfl rfl rfl]
  exact Steps.refl _
theorem Go.retA (X : Stand p l e R s m args below meth c T locs cells slots) (hx : p.tables.exec = Jvm.exec) {z : Value} {t : FieldType} (hret : meth.sig.returnType = some t) (ht : t.isReference = true) (hd : decode c.code pc = .ok (.areturn, 1)) (hz : z.isRef = true) (hlk : meth.locks = false)
    (hQ : Q (some z) T.heap locs) (hc : cells ≤ C) (hs : slots ≤ S) : Go p.tables e below (RT Q s C S) T (mkF m pc Ls (z :: rest)) := by
  refine Go.fin X (fun h => by rw [hret] at h; cases h) hlk (fun fs hr => ?_) hQ hc hs
  have hm' : T.vm.method? m = some meth := X.method'
  show Steps p.tables e below (T.setTop { method := m, pc := pc, locals := Ls, stack := _ :: rest, locked := none }) _
  jvm_step X.here [X.here.top, hx, hd, hm', hret, hz, ht]
  first | (intro acts; rw [hr _ acts rfl rfl rfl]) | rw [hr _ _ rfl rfl rfl]
  exact Steps.refl _
theorem Go.retV (X : Stand p l e R s m args below meth c T locs cells slots) (hx : p.tables.exec = Jvm.exec) (hret : meth.sig.returnType = none) (hd : decode c.code pc = .ok (.return_, 1)) (hlk : meth.locks = false)
    (hQ : Q none T.heap locs) (hc : cells ≤ C) (hs : slots ≤ S) : Go p.tables e below (RT Q s C S) T (mkF m pc Ls []) :=
  Go.fin X (fun _ => rfl) hlk (fun fs hr => X.returnOut hx hret hd hr) hQ hc hs
end Ret
theorem own_and_nonneg (a : Int32) : 0 ≤ (a &&& 2147483647).toInt := by
  have h : (a &&& 2147483647).toBitVec.msb = false := by
    rw [Int32.toBitVec_and, BitVec.msb_and]
    have : (2147483647 : Int32).toBitVec.msb = false := by decide
    rw [this, Bool.and_false]
  show 0 ≤ (a &&& 2147483647).toBitVec.toInt
  rw [BitVec.toInt_eq_msb_cond, h]
  simp
theorem own_mod (a n : Int32) (hn : 0 < n.toInt) : 0 ≤ ((a &&& 2147483647) % n).toInt ∧ ((a &&& 2147483647) % n).toInt < n.toInt := by
  rw [Int32.toInt_mod]
  have h := own_and_nonneg a
  exact ⟨Int.tmod_nonneg _ h, by have := Int.tmod_lt_of_pos (a &&& 2147483647).toInt hn; exact this⟩
theorem own_char (x : Int32) : 0 ≤ (x.toUInt32.toUInt16.toUInt32.toInt32).toInt ∧ (x.toUInt32.toUInt16.toUInt32.toInt32).toInt < 65536 := by
  generalize x.toUInt32.toUInt16 = u
  have h : u.toNat < 65536 := u.toNat_lt
  have : (u.toUInt32.toInt32).toInt = (u.toNat : Int) := by
    show (u.toUInt32.toBitVec).toInt = _
    rw [BitVec.toInt_eq_toNat_of_lt]
    · simp
    · simp; omega
  omega
theorem own_lrem (x y : Int64) : x - x / y * y = x % y := by
  apply Int64.toInt_inj.mp
  rw [Int64.toInt_sub, Int64.toInt_mul, Int64.toInt_div, Int64.toInt_mod, Int.tmod_def, Int.mul_comm y.toInt]
  have hb := Int.bmod_emod (x := x.toInt.tdiv y.toInt) (m := 2 ^ 64)
  rw [Int.sub_bmod_bmod]
  have e : (x.toInt - (x.toInt.tdiv y.toInt).bmod (2 ^ 64) * y.toInt).bmod (2 ^ 64) = (x.toInt - x.toInt.tdiv y.toInt * y.toInt).bmod (2 ^ 64) := by
    rw [← Int.sub_bmod_bmod, Int.bmod_mul_bmod, Int.sub_bmod_bmod]
  rw [e]
  have h := Int64.toInt_mod x y
  have h2 := (x % y).le_toInt
  have h3 := (x % y).toInt_lt
  rw [h, Int.tmod_def, Int.mul_comm y.toInt] at h2 h3
  apply Int.bmod_eq_of_le
  · simpa using h2
  · simpa using h3
theorem own_lremM {p : Program} {l : Launch} {e : Env} {R : Room} {s : State} {m : MethodId} {args : Array Value} {below : List Frame} {meth : Method} {c : Code} {T : State} {locs : List Loc} {cells slots : Nat} {g : JFrame} {target : State} (X : Stand p l e R s m args below meth c T locs cells slots) (hx : p.tables.exec = Jvm.exec) (hg : g.method = m) {x y : Int64} {rest : List Value} (hd : decode c.code g.pc = .ok (.lrem, 1)) (hs : g.stack = .long y :: .long x :: rest) (hy : y ≠ 0)
    (hr : Steps p.tables e below (T.setTop { g with pc := g.pc + 1, stack := .long (x % y) :: rest }) target) : Steps p.tables e below (T.setTop g) target := by
  have q := own_lrem x y
  exact XS.lrem X.here hx hg hd hs hy (by rw [q]; exact hr)
theorem own_selp {s : State} {args : Array Value} {C : String} {y z : MethodName} (hsel : (Cond.selects C z z).before args s = true) (hz : z.cls = y.cls) (hinst : (Cond.instanceMethod y).before args s = true) (hpriv : s.PrivateAt y) (hy : y.cls ≠ "java/lang/invoke/MethodHandle" ∧ y.cls ≠ "java/lang/invoke/VarHandle") : (Cond.selects y.cls y y).before args s = true := by
  obtain ⟨c, r, m, -, -, h3, -, k, h5, h6⟩ := Cond.selects_spec hsel
  exact selects_self_of_private (hz ▸ findClass_of_methodNamed h3) h5 h6 hpriv hinst hy
theorem own_eqi {t : Term} {k : Int32} {args : Array Value} {first : State} {o : Option Outcome} {s : State} {idx : List Nat} (h : (Cond.eq t (.int k)).value args first o s idx = some true) : t.eval args first o idx s = some (.int k) := by
  cases ht : t.eval args first o idx s with
  | none => simp [Cond.value, ht] at h
  | some x => cases x <;> simp [Cond.value, Term.eval, ht] at h ⊢; exact h
theorem own_eqr {t u : Term} {b : Addr} {args : Array Value} {first : State} {o : Option Outcome} {s : State} {idx : List Nat} (h : (Cond.eq t u).value args first o s idx = some true) (hu : u.eval args first o idx s = some (.ref b)) : t.eval args first o idx s = some (.ref b) := by
  cases ht : t.eval args first o idx s with
  | none => simp [Cond.value, ht] at h
  | some x => cases x <;> simp [Cond.value, ht, hu] at h ⊢; exact h
/-- what the case says of the statics -/
def Wd (Z : State) (w : Nat → Addr) : Prop := Sta Z Z.heap "com/example/assayline/assayline/wire/AstmChecksum" "EXCLUDES_TERMINATOR" "Lcom/example/assayline/assayline/wire/AstmChecksum;" (.ref (w 0)) ∧ Exa Z Z.heap (w 0) "com/example/assayline/assayline/wire/AstmChecksum" ∧ Sta Z Z.heap "com/example/assayline/assayline/wire/AstmChecksum" "STANDARD" "Lcom/example/assayline/assayline/wire/AstmChecksum;" (.ref (w 1)) ∧ Exa Z Z.heap (w 1) "com/example/assayline/assayline/wire/AstmChecksum" ∧ Fld Z Z.heap (w 0) "com/example/assayline/assayline/wire/AstmChecksum" "sumsTerminator" "Z" (.int (0 : Int32)) ∧ Fld Z Z.heap (w 1) "com/example/assayline/assayline/wire/AstmChecksum" "sumsTerminator" "Z" (.int (1 : Int32))
theorem wd0 {Z : State} {w : Nat → Addr} (wd : Wd Z w) : Sta Z Z.heap "com/example/assayline/assayline/wire/AstmChecksum" "EXCLUDES_TERMINATOR" "Lcom/example/assayline/assayline/wire/AstmChecksum;" (.ref (w 0)) := wd.1
theorem wd1 {Z : State} {w : Nat → Addr} (wd : Wd Z w) : Exa Z Z.heap (w 0) "com/example/assayline/assayline/wire/AstmChecksum" := wd.2.1
theorem wd2 {Z : State} {w : Nat → Addr} (wd : Wd Z w) : Sta Z Z.heap "com/example/assayline/assayline/wire/AstmChecksum" "STANDARD" "Lcom/example/assayline/assayline/wire/AstmChecksum;" (.ref (w 1)) := wd.2.2.1
theorem wd3 {Z : State} {w : Nat → Addr} (wd : Wd Z w) : Exa Z Z.heap (w 1) "com/example/assayline/assayline/wire/AstmChecksum" := wd.2.2.2.1
theorem wd4 {Z : State} {w : Nat → Addr} (wd : Wd Z w) : Fld Z Z.heap (w 0) "com/example/assayline/assayline/wire/AstmChecksum" "sumsTerminator" "Z" (.int (0 : Int32)) := wd.2.2.2.2.1
theorem wd5 {Z : State} {w : Nat → Addr} (wd : Wd Z w) : Fld Z Z.heap (w 1) "com/example/assayline/assayline/wire/AstmChecksum" "sumsTerminator" "Z" (.int (1 : Int32)) := wd.2.2.2.2.2
def own_sum (b : Nat → Int32) : Nat → Nat → Int32 → Int32
  | _, 0, S => S
  | i, j + 1, S => own_sum b (i + 1) j (S + (b i &&& 255))
theorem own_small (x m : Int32) (n : Nat) (hn : n < 2 ^ 31) (hm : m.toBitVec.toNat ≤ n) : ∃ o : Nat, o ≤ n ∧ x &&& m = Int32.ofNat o := by
  refine ⟨(x &&& m).toBitVec.toNat, ?_, ?_⟩
  · rw [Int32.toBitVec_and, BitVec.toNat_and]
    exact Nat.le_trans Nat.and_le_right hm
  · apply Int32.toBitVec_inj.mp
    show _ = BitVec.ofNat 32 _
    simp
theorem own_fin1 : ∀ o < 4, ∀ j < 8, (5 : Int32) - Int32.ofNat o ≠ 0 ∧ Int32.ofNat j % (5 - Int32.ofNat o) = Int32.ofNat (j % (5 - o)) := by decide +kernel
theorem own_ok (x y : Int32) : (5 : Int32) - (x &&& 3) ≠ 0 ∧ ∃ o k : Nat, x &&& 3 = Int32.ofNat o ∧ (y &&& 7) % ((5 : Int32) - (x &&& 3)) = Int32.ofNat k ∧ o + k ≤ 4 := by
  obtain ⟨o, ho, eo⟩ := own_small x 3 3 (by decide) (by decide)
  obtain ⟨j, hj, ej⟩ := own_small y 7 7 (by decide) (by decide)
  have h := own_fin1 o (by omega) j (by omega)
  rw [eo, ej]
  refine ⟨h.1, o, j % (5 - o), rfl, h.2, ?_⟩
  have := Nat.mod_lt j (by omega : 0 < 5 - o)
  omega
theorem own_lt : ∀ i < 5, ∀ o < 5, ∀ k < 5, (Int32.ofNat i < Int32.ofNat o + Int32.ofNat k ↔ i < o + k) := by decide +kernel
theorem own_lt1 : ∀ i < 5, ∀ o < 5, (Int32.ofNat i < Int32.ofNat o ↔ i < o) := by decide +kernel
def own_part (b : Nat → Int32) (i : Nat) (p2 p3 : Int32) : Int32 := if Int32.ofNat i < p2 then 0 else if Int32.ofNat i < p2 + p3 then (b i &&& 255) else 0
theorem own_law (b : Nat → Int32) (S : Int32) (o k : Nat) (h : o + k ≤ 4) : own_sum b o k S = S + (((own_part b 0 (Int32.ofNat o) (Int32.ofNat k) + own_part b 1 (Int32.ofNat o) (Int32.ofNat k)) + own_part b 2 (Int32.ofNat o) (Int32.ofNat k)) + own_part b 3 (Int32.ofNat o) (Int32.ofNat k)) := by
  unfold own_part
  have hs : ∀ i, i < 5 → (Int32.ofNat i < Int32.ofNat o + Int32.ofNat k ↔ i < o + k) := fun i hi => own_lt i hi o (by omega) k (by omega)
  have h1 : ∀ i, i < 5 → (Int32.ofNat i < Int32.ofNat o ↔ i < o) := fun i hi => own_lt1 i hi o (by omega)
  simp only [hs 0 (by decide), hs 1 (by decide), hs 2 (by decide), hs 3 (by decide), h1 0 (by decide), h1 1 (by decide), h1 2 (by decide), h1 3 (by decide)]
  have hc : (o = 0 ∨ o = 1 ∨ o = 2 ∨ o = 3 ∨ o = 4) ∧ (k = 0 ∨ k = 1 ∨ k = 2 ∨ k = 3 ∨ k = 4) := by omega
  obtain ⟨ho, hk⟩ := hc
  rcases ho with rfl | rfl | rfl | rfl | rfl <;> rcases hk with rfl | rfl | rfl | rfl | rfl <;> first | (exfalso; omega) | (simp [own_sum, Int32.add_assoc])
theorem own_in4 : ∀ i < 4, ¬ Int32.ofNat i < 0 ∧ Int32.ofNat i < 4 := by decide +kernel
theorem own_succ (i : Nat) : Int32.ofNat i + 1 = Int32.ofNat (i + 1) := by
  rw [Int32.ofNat_add]; rfl
theorem own_clamp : ∀ i < 4, (Int32.ofNat i).toNatClampNeg = i := by decide +kernel
theorem own_at (b : Nat → Int32) : ∀ i, i < 4 → ([(.int (b 0)), (.int (b 1)), (.int (b 2)), (.int (b 3))] : List Value).getD (Int32.ofNat i).toNatClampNeg (.int (0 : Int32)) = .int (b i) := by
  intro i hi
  rw [own_clamp i hi]
  have h : i = 0 ∨ i = 1 ∨ i = 2 ∨ i = 3 := by omega
  rcases h with rfl | rfl | rfl | rfl <;> rfl
theorem d1_0 : decode method_3_code 0 = .ok (.iload_n 1, 1) := by decide +kernel
theorem d1_1 : decode method_3_code 1 = .ok (.iload_n 2, 1) := by decide +kernel
theorem d1_2 : decode method_3_code 2 = .ok (.if_icmp .lt 18, 3) := by decide +kernel
theorem d1_5 : decode method_3_code 5 = .ok (.iload_n 1, 1) := by decide +kernel
theorem d1_6 : decode method_3_code 6 = .ok (.iload_n 2, 1) := by decide +kernel
theorem d1_7 : decode method_3_code 7 = .ok (.iload_n 3, 1) := by decide +kernel
theorem d1_8 : decode method_3_code 8 = .ok (.iadd, 1) := by decide +kernel
theorem d1_9 : decode method_3_code 9 = .ok (.if_icmp .ge 11, 3) := by decide +kernel
theorem d1_12 : decode method_3_code 12 = .ok (.aload_n 0, 1) := by decide +kernel
theorem d1_13 : decode method_3_code 13 = .ok (.iload_n 1, 1) := by decide +kernel
theorem d1_14 : decode method_3_code 14 = .ok (.baload, 1) := by decide +kernel
theorem d1_15 : decode method_3_code 15 = .ok (.sipush 255, 3) := by decide +kernel
theorem d1_18 : decode method_3_code 18 = .ok (.iand, 1) := by decide +kernel
theorem d1_19 : decode method_3_code 19 = .ok (.ireturn, 1) := by decide +kernel
theorem d1_20 : decode method_3_code 20 = .ok (.iconst 0, 1) := by decide +kernel
theorem d1_21 : decode method_3_code 21 = .ok (.ireturn, 1) := by decide +kernel
theorem own_pn0 : plainName "com/example/assayline/assayline/wire/AstmChecksumOfPinLaw" = true := by first | (simp [plainName, overriddenIn]; done) | decide +kernel
theorem ef_rm1 (m : MethodId) (x0 : Addr) (x1 : Int32) (x2 : Int32) (x3 : Int32) : entryFrame m #[(.ref x0), (.int x1), (.int x2), (.int x3)] 4 = mkF m 0 #[.val (.ref x0), .val (.int x1), .val (.int x2), .val (.int x3)] [] := by first | (simp [entryFrame, mkF, argsToLocals, Value.category]; done) | rfl
def Q_rm1 (Z : State) (r0 : Addr) (i : Nat) (p2 : Int32) (p3 : Int32) (b : Nat → Int32) (kk : ClassId) (h0 : Heap) (n0 : Nat) (v : Option Value) (h : Heap) (L : List Loc) : Prop := v = some (.int (own_part b i p2 p3)) ∧ Fr n0 L ∧ h = h0
set_option maxRecDepth 65536 in
set_option maxHeartbeats 40000000 in
theorem rm1 (l : Launch) (Z : State) (a0 : Array Value) (hw : ∀ d ∈ tables_1, d.before a0 Z = true) (ws : List Jvm.Cond) (r0 : Addr) (i : Nat) (p2 : Int32) (p3 : Int32) (b : Nat → Int32) (kk : ClassId) (h0 : Heap) (n0 : Nat) (Z0 : n0 ≤ h0.size) (hi : i < 4) (V_a : Arv Z h0 r0 kk .byte (4 : Int32) [(.int (b 0)), (.int (b 1)), (.int (b 2)), (.int (b 3))] (.int (0 : Int32))) :
    MetFree l (⟨"com/example/assayline/assayline/wire/AstmChecksumOfPinLaw", "part", "([BIII)I"⟩ : MethodName) (head1 (Jvm.Cond.code (⟨"com/example/assayline/assayline/wire/AstmChecksumOfPinLaw", "part", "([BIII)I"⟩ : MethodName) method_3_code 4 (some .int) :: ws) ({ frames := 0, cells := 0, slots := 0, locals := 0 } : Room)) (fun az Uz => az = #[(.ref r0), (.int (Int32.ofNat i)), (.int p2), (.int p3)] ∧ Z.Warmed39 Uz.vm ∧ Uz.heap = h0) (fun _ _ _ _ _ => True) (fun _ Uz oz Vz => ∃ vz Lz, oz = .returned vz ∧ Q_rm1 Z r0 i p2 p3 b kk h0 n0 vz Vz.heap Lz ∧ FrameEnd Uz oz Vz Lz ({ frames := 0, cells := 0, slots := 0, locals := 0 } : Room).cells ({ frames := 0, cells := 0, slots := 0, locals := 0 } : Room).slots) := by
  refine MetFree.of_bodySF (plainFor_of_name own_pn0) hisR ?_
  intro p e s m args below meth c s₁ Bd hml0 hP hK
  obtain ⟨rfl, hZ, hh⟩ := hP
  have hx := Bd.exec
  have hby := Bd.bytes
  have hml : c.maxLocals = 4 := hml0
  have hown : s.vm.findClass "com/example/assayline/assayline/wire/AstmChecksumOfPinLaw" = some m.cls := findClass_of_methodNamed Bd.named
  have hnm := (name_of_methodNamed Bd.named Bd.method).1
  have X0 : Stand p l e ({ frames := 0, cells := 0, slots := 0, locals := 0 } : Room) s m #[(.ref r0), (.int (Int32.ofNat i)), (.int p2), (.int p3)] below meth c s₁ [] 0 0 := Stand.of_body Bd
  have e0 : s₁.heap = h0 := by rw [← hh, Bd.state]; rfl
  have N0 := Fr.nil n0
  have K0 : Keep h0 h0 [] := Keep.refl _ _
  refine Go.enter (Q := Q_rm1 Z r0 i p2 p3 b kk h0 n0) (C := ({ frames := 0, cells := 0, slots := 0, locals := 0 } : Room).cells) (S := ({ frames := 0, cells := 0, slots := 0, locals := 0 } : Room).slots) (ef_rm1 m r0 (Int32.ofNat i) p2 p3) ?_
  refine Go.step (fun _ zz => XS.iloadN X0.here hx rfl (hb hby d1_0) rfl zz) ?_
  show Go _ _ _ _ s₁ (mkF m 1 #[.val (.ref r0), .val (.int (Int32.ofNat i)), .val (.int p2), .val (.int p3)] [(.int (Int32.ofNat i))])
  refine Go.step (fun _ zz => XS.iloadN X0.here hx rfl (hb hby d1_1) rfl zz) ?_
  show Go _ _ _ _ s₁ (mkF m 2 #[.val (.ref r0), .val (.int (Int32.ofNat i)), .val (.int p2), .val (.int p3)] [(.int p2), (.int (Int32.ofNat i))])
  by_cases hc2 : (Int32.ofNat i) < p2
  · refine Go.step (fun _ zz => XS.icmpYes X0.here hx rfl (pc0 := 2) (pc' := 20) rfl (hb hby d1_2) rfl (tlt hc2).1 (by decide) (by decide) zz) ?_
    show Go _ _ _ _ s₁ (mkF m 20 #[.val (.ref r0), .val (.int (Int32.ofNat i)), .val (.int p2), .val (.int p3)] [])
    refine Go.step (fun _ zz => XS.iconst X0.here hx rfl (hb hby d1_20) zz) ?_
    show Go _ _ _ _ s₁ (mkF m 21 #[.val (.ref r0), .val (.int (Int32.ofNat i)), .val (.int p2), .val (.int p3)] [(.int (0 : Int32))])
    exact Go.retI X0 hx Bd.returns (hb hby d1_21) Bd.notSynchronized (⟨congrArg (fun q => some (Value.int q)) (show (0 : Int32) = own_part b i p2 p3 from by unfold own_part; rw [if_pos hc2]), N0, e0⟩) (by decide) (by decide)
  · refine Go.step (fun _ zz => XS.icmpNo X0.here hx rfl (hb hby d1_2) rfl (flt hc2).1 zz) ?_
    show Go _ _ _ _ s₁ (mkF m 5 #[.val (.ref r0), .val (.int (Int32.ofNat i)), .val (.int p2), .val (.int p3)] [])
    refine Go.step (fun _ zz => XS.iloadN X0.here hx rfl (hb hby d1_5) rfl zz) ?_
    show Go _ _ _ _ s₁ (mkF m 6 #[.val (.ref r0), .val (.int (Int32.ofNat i)), .val (.int p2), .val (.int p3)] [(.int (Int32.ofNat i))])
    refine Go.step (fun _ zz => XS.iloadN X0.here hx rfl (hb hby d1_6) rfl zz) ?_
    show Go _ _ _ _ s₁ (mkF m 7 #[.val (.ref r0), .val (.int (Int32.ofNat i)), .val (.int p2), .val (.int p3)] [(.int p2), (.int (Int32.ofNat i))])
    refine Go.step (fun _ zz => XS.iloadN X0.here hx rfl (hb hby d1_7) rfl zz) ?_
    show Go _ _ _ _ s₁ (mkF m 8 #[.val (.ref r0), .val (.int (Int32.ofNat i)), .val (.int p2), .val (.int p3)] [(.int p3), (.int p2), (.int (Int32.ofNat i))])
    refine Go.step (fun _ zz => XS.iadd X0.here hx rfl (hb hby d1_8) rfl zz) ?_
    show Go _ _ _ _ s₁ (mkF m 9 #[.val (.ref r0), .val (.int (Int32.ofNat i)), .val (.int p2), .val (.int p3)] [(.int (p2 + p3)), (.int (Int32.ofNat i))])
    by_cases hc9 : (Int32.ofNat i) < (p2 + p3)
    · refine Go.step (fun _ zz => XS.icmpNo X0.here hx rfl (hb hby d1_9) rfl (tlt hc9).2.1 zz) ?_
      show Go _ _ _ _ s₁ (mkF m 12 #[.val (.ref r0), .val (.int (Int32.ofNat i)), .val (.int p2), .val (.int p3)] [])
      refine Go.step (fun _ zz => XS.aloadN X0.here hx rfl (hb hby d1_12) rfl rfl zz) ?_
      show Go _ _ _ _ s₁ (mkF m 13 #[.val (.ref r0), .val (.int (Int32.ofNat i)), .val (.int p2), .val (.int p3)] [(.ref r0)])
      refine Go.step (fun _ zz => XS.iloadN X0.here hx rfl (hb hby d1_13) rfl zz) ?_
      show Go _ _ _ _ s₁ (mkF m 14 #[.val (.ref r0), .val (.int (Int32.ofNat i)), .val (.int p2), .val (.int p3)] [(.int (Int32.ofNat i)), (.ref r0)])
      obtain ⟨c1, Ar1, q1, S1, M1, H1, G1⟩ := V_a
      have hin1 : ¬ ((Int32.ofNat i) < 0 ∨ c1.slots.size ≤ ((Int32.ofNat i)).toNatClampNeg) := inb_of S1 (own_in4 i (hi))
      refine Go.step (fun _ zz => X0.baloadBytes hx (j := (Int32.ofNat i)) (v := (.int (b i))) (by rw [e0]; exact Ar1.1) (State.isArrayOf_alike hZ.alike Ar1.2.1) Ar1.2.2 hin1 (H1.at hin1 (own_at b i (hi))) (g := (mkF m 14 #[.val (.ref r0), .val (.int (Int32.ofNat i)), .val (.int p2), .val (.int p3)] [(.int (Int32.ofNat i)), (.ref r0)])) rfl rfl (hb hby d1_14) _ zz) ?_
      show Go _ _ _ _ s₁ (mkF m 15 #[.val (.ref r0), .val (.int (Int32.ofNat i)), .val (.int p2), .val (.int p3)] [(.int (b i))])
      refine Go.step (fun _ zz => XS.sipush X0.here hx rfl (hb hby d1_15) zz) ?_
      show Go _ _ _ _ s₁ (mkF m 18 #[.val (.ref r0), .val (.int (Int32.ofNat i)), .val (.int p2), .val (.int p3)] [(.int (255 : Int32)), (.int (b i))])
      refine Go.step (fun _ zz => XS.iand X0.here hx rfl (hb hby d1_18) rfl zz) ?_
      show Go _ _ _ _ s₁ (mkF m 19 #[.val (.ref r0), .val (.int (Int32.ofNat i)), .val (.int p2), .val (.int p3)] [(.int ((b i) &&& (255 : Int32)))])
      exact Go.retI X0 hx Bd.returns (hb hby d1_19) Bd.notSynchronized (⟨congrArg (fun q => some (Value.int q)) (show ((b i) &&& (255 : Int32)) = own_part b i p2 p3 from by unfold own_part; rw [if_neg hc2, if_pos hc9]), N0, e0⟩) (by decide) (by decide)
    · refine Go.step (fun _ zz => XS.icmpYes X0.here hx rfl (pc0 := 9) (pc' := 20) rfl (hb hby d1_9) rfl (flt hc9).2.1 (by decide) (by decide) zz) ?_
      show Go _ _ _ _ s₁ (mkF m 20 #[.val (.ref r0), .val (.int (Int32.ofNat i)), .val (.int p2), .val (.int p3)] [])
      refine Go.step (fun _ zz => XS.iconst X0.here hx rfl (hb hby d1_20) zz) ?_
      show Go _ _ _ _ s₁ (mkF m 21 #[.val (.ref r0), .val (.int (Int32.ofNat i)), .val (.int p2), .val (.int p3)] [(.int (0 : Int32))])
      exact Go.retI X0 hx Bd.returns (hb hby d1_21) Bd.notSynchronized (⟨congrArg (fun q => some (Value.int q)) (show (0 : Int32) = own_part b i p2 p3 from by unfold own_part; rw [if_neg hc2, if_neg hc9]), N0, e0⟩) (by decide) (by decide)
theorem d2_0 : decode prog_89_method_4_code 0 = .ok (.iload_n 1, 1) := by decide +kernel
theorem d2_1 : decode prog_89_method_4_code 1 = .ok (.aload_n 0, 1) := by decide +kernel
theorem d2_2 : decode prog_89_method_4_code 2 = .ok (.getfield 29, 3) := by decide +kernel
theorem d2_5 : decode prog_89_method_4_code 5 = .ok (.ifCond .eq 8, 3) := by decide +kernel
theorem d2_8 : decode prog_89_method_4_code 8 = .ok (.iload 5, 2) := by decide +kernel
theorem d2_10 : decode prog_89_method_4_code 10 = .ok (.goto 4, 3) := by decide +kernel
theorem d2_13 : decode prog_89_method_4_code 13 = .ok (.iconst 0, 1) := by decide +kernel
theorem d2_14 : decode prog_89_method_4_code 14 = .ok (.iadd, 1) := by decide +kernel
theorem d2_15 : decode prog_89_method_4_code 15 = .ok (.istore 6, 2) := by decide +kernel
theorem d2_17 : decode prog_89_method_4_code 17 = .ok (.iload_n 3, 1) := by decide +kernel
theorem d2_18 : decode prog_89_method_4_code 18 = .ok (.istore 7, 2) := by decide +kernel
theorem d2_20 : decode prog_89_method_4_code 20 = .ok (.iload 7, 2) := by decide +kernel
theorem d2_22 : decode prog_89_method_4_code 22 = .ok (.iload_n 3, 1) := by decide +kernel
theorem d2_23 : decode prog_89_method_4_code 23 = .ok (.iload 4, 2) := by decide +kernel
theorem d2_25 : decode prog_89_method_4_code 25 = .ok (.iadd, 1) := by decide +kernel
theorem d2_26 : decode prog_89_method_4_code 26 = .ok (.if_icmp .ge 22, 3) := by decide +kernel
theorem d2_29 : decode prog_89_method_4_code 29 = .ok (.iload 6, 2) := by decide +kernel
theorem d2_31 : decode prog_89_method_4_code 31 = .ok (.aload_n 2, 1) := by decide +kernel
theorem d2_32 : decode prog_89_method_4_code 32 = .ok (.iload 7, 2) := by decide +kernel
theorem d2_34 : decode prog_89_method_4_code 34 = .ok (.baload, 1) := by decide +kernel
theorem d2_35 : decode prog_89_method_4_code 35 = .ok (.sipush 255, 3) := by decide +kernel
theorem d2_38 : decode prog_89_method_4_code 38 = .ok (.iand, 1) := by decide +kernel
theorem d2_39 : decode prog_89_method_4_code 39 = .ok (.iadd, 1) := by decide +kernel
theorem d2_40 : decode prog_89_method_4_code 40 = .ok (.istore 6, 2) := by decide +kernel
theorem d2_42 : decode prog_89_method_4_code 42 = .ok (.iinc 7 1, 3) := by decide +kernel
theorem d2_45 : decode prog_89_method_4_code 45 = .ok (.goto (-25), 3) := by decide +kernel
theorem d2_48 : decode prog_89_method_4_code 48 = .ok (.iload 6, 2) := by decide +kernel
theorem d2_50 : decode prog_89_method_4_code 50 = .ok (.sipush 255, 3) := by decide +kernel
theorem d2_53 : decode prog_89_method_4_code 53 = .ok (.iand, 1) := by decide +kernel
theorem d2_54 : decode prog_89_method_4_code 54 = .ok (.ireturn, 1) := by decide +kernel
theorem own_pn1 : plainName "com/example/assayline/assayline/wire/AstmChecksum" = true := by first | (simp [plainName, overriddenIn]; done) | decide +kernel
theorem ef_rm2 (m : MethodId) (x0 : Addr) (x1 : Int32) (x2 : Addr) (x3 : Int32) (x4 : Int32) (x5 : Int32) : entryFrame m #[(.ref x0), (.int x1), (.ref x2), (.int x3), (.int x4), (.int x5)] 8 = mkF m 0 #[.val (.ref x0), .val (.int x1), .val (.ref x2), .val (.int x3), .val (.int x4), .val (.int x5), .unset, .unset] [] := by first | (simp [entryFrame, mkF, argsToLocals, Value.category]; done) | rfl
def Q_rm2 (Z : State) (r0 : Addr) (p1 : Int32) (r2 : Addr) (o : Nat) (k : Nat) (p5 : Int32) (cT : Int32) (b : Nat → Int32) (kk : ClassId) (h0 : Heap) (n0 : Nat) (v : Option Value) (h : Heap) (L : List Loc) : Prop := v = some (.int (own_sum b o k (p1 + (if cT = 0 then 0 else p5)) &&& 255)) ∧ Fr n0 L ∧ h = h0
set_option maxRecDepth 65536 in
set_option maxHeartbeats 40000000 in
theorem rm2 (l : Launch) (Z : State) (a0 : Array Value) (hw : ∀ d ∈ tables_1, d.before a0 Z = true) (ws : List Jvm.Cond) (r0 : Addr) (p1 : Int32) (r2 : Addr) (o : Nat) (k : Nat) (p5 : Int32) (cT : Int32) (b : Nat → Int32) (kk : ClassId) (h0 : Heap) (n0 : Nat) (Z0 : n0 ≤ h0.size) (hok : o + k ≤ 4) (F_c : Fld Z h0 r0 "com/example/assayline/assayline/wire/AstmChecksum" "sumsTerminator" "Z" (.int cT)) (V_a : Arv Z h0 r2 kk .byte (4 : Int32) [(.int (b 0)), (.int (b 1)), (.int (b 2)), (.int (b 3))] (.int (0 : Int32))) :
    MetFree l (⟨"com/example/assayline/assayline/wire/AstmChecksum", "of", "(I[BIII)I"⟩ : MethodName) (head1 (Jvm.Cond.code (⟨"com/example/assayline/assayline/wire/AstmChecksum", "of", "(I[BIII)I"⟩ : MethodName) prog_89_method_4_code 8 (some .int) :: ws) ({ frames := 0, cells := 0, slots := 0, locals := 0 } : Room)) (fun az Uz => az = #[(.ref r0), (.int p1), (.ref r2), (.int (Int32.ofNat o)), (.int (Int32.ofNat k)), (.int p5)] ∧ Z.Warmed39 Uz.vm ∧ Uz.heap = h0) (fun _ _ _ _ _ => True) (fun _ Uz oz Vz => ∃ vz Lz, oz = .returned vz ∧ Q_rm2 Z r0 p1 r2 o k p5 cT b kk h0 n0 vz Vz.heap Lz ∧ FrameEnd Uz oz Vz Lz ({ frames := 0, cells := 0, slots := 0, locals := 0 } : Room).cells ({ frames := 0, cells := 0, slots := 0, locals := 0 } : Room).slots) := by
  refine MetFree.of_bodySF (plainFor_of_name own_pn1) hisR ?_
  intro p e s m args below meth c s₁ Bd hml0 hP hK
  obtain ⟨rfl, hZ, hh⟩ := hP
  have hx := Bd.exec
  have hby := Bd.bytes
  have hml : c.maxLocals = 8 := hml0
  have hown : s.vm.findClass "com/example/assayline/assayline/wire/AstmChecksum" = some m.cls := findClass_of_methodNamed Bd.named
  have hnm := (name_of_methodNamed Bd.named Bd.method).1
  have X0 : Stand p l e ({ frames := 0, cells := 0, slots := 0, locals := 0 } : Room) s m #[(.ref r0), (.int p1), (.ref r2), (.int (Int32.ofNat o)), (.int (Int32.ofNat k)), (.int p5)] below meth c s₁ [] 0 0 := Stand.of_body Bd
  have e0 : s₁.heap = h0 := by rw [← hh, Bd.state]; rfl
  have N0 := Fr.nil n0
  have K0 : Keep h0 h0 [] := Keep.refl _ _
  refine Go.enter (Q := Q_rm2 Z r0 p1 r2 o k p5 cT b kk h0 n0) (C := ({ frames := 0, cells := 0, slots := 0, locals := 0 } : Room).cells) (S := ({ frames := 0, cells := 0, slots := 0, locals := 0 } : Room).slots) (ef_rm2 m r0 p1 r2 (Int32.ofNat o) (Int32.ofNat k) p5) ?_
  refine Go.step (fun _ zz => XS.iloadN X0.here hx rfl (hb hby d2_0) rfl zz) ?_
  show Go _ _ _ _ s₁ (mkF m 1 #[.val (.ref r0), .val (.int p1), .val (.ref r2), .val (.int (Int32.ofNat o)), .val (.int (Int32.ofNat k)), .val (.int p5), .unset, .unset] [(.int p1)])
  refine Go.step (fun _ zz => XS.aloadN X0.here hx rfl (hb hby d2_1) rfl rfl zz) ?_
  show Go _ _ _ _ s₁ (mkF m 2 #[.val (.ref r0), .val (.int p1), .val (.ref r2), .val (.int (Int32.ofNat o)), .val (.int (Int32.ofNat k)), .val (.int p5), .unset, .unset] [(.ref r0), (.int p1)])
  obtain ⟨T1, X1, e1, st1⟩ := getF X0 hx hZ hown (host := "") (Or.inl (hw _ (List.mem_of_getElem? (i := 13) rfl))) Via.refl e0 F_c (g := (mkF m 2 #[.val (.ref r0), .val (.int p1), .val (.ref r2), .val (.int (Int32.ofNat o)), .val (.int (Int32.ofNat k)), .val (.int p5), .unset, .unset] [(.ref r0), (.int p1)])) rfl rfl (hb hby d2_2)
  refine Go.step st1 ?_
  show Go _ _ _ _ T1 (mkF m 5 #[.val (.ref r0), .val (.int p1), .val (.ref r2), .val (.int (Int32.ofNat o)), .val (.int (Int32.ofNat k)), .val (.int p5), .unset, .unset] [(.int cT), (.int p1)])
  by_cases hc5 : cT = (0 : Int32)
  · refine Go.step (fun _ zz => XS.ifYes X1.here hx rfl (pc0 := 5) (pc' := 13) rfl (hb hby d2_5) rfl ((if0 _ _).trans (teq hc5).1) (by decide) (by decide) zz) ?_
    show Go _ _ _ _ T1 (mkF m 13 #[.val (.ref r0), .val (.int p1), .val (.ref r2), .val (.int (Int32.ofNat o)), .val (.int (Int32.ofNat k)), .val (.int p5), .unset, .unset] [(.int p1)])
    refine Go.step (fun _ zz => XS.iconst X1.here hx rfl (hb hby d2_13) zz) ?_
    show Go _ _ _ _ T1 (mkF m 14 #[.val (.ref r0), .val (.int p1), .val (.ref r2), .val (.int (Int32.ofNat o)), .val (.int (Int32.ofNat k)), .val (.int p5), .unset, .unset] [(.int (0 : Int32)), (.int p1)])
    refine Go.step (fun _ zz => XS.iadd X1.here hx rfl (hb hby d2_14) rfl zz) ?_
    show Go _ _ _ _ T1 (mkF m 15 #[.val (.ref r0), .val (.int p1), .val (.ref r2), .val (.int (Int32.ofNat o)), .val (.int (Int32.ofNat k)), .val (.int p5), .unset, .unset] [(.int (p1 + (0 : Int32)))])
    refine Go.step (fun _ zz => XS.istore X1.here hx rfl (hb hby d2_15) rfl (l' := #[.val (.ref r0), .val (.int p1), .val (.ref r2), .val (.int (Int32.ofNat o)), .val (.int (Int32.ofNat k)), .val (.int p5), .val (.int (p1 + (0 : Int32))), .unset]) rfl zz) ?_
    show Go _ _ _ _ T1 (mkF m 17 #[.val (.ref r0), .val (.int p1), .val (.ref r2), .val (.int (Int32.ofNat o)), .val (.int (Int32.ofNat k)), .val (.int p5), .val (.int (p1 + (0 : Int32))), .unset] [])
    refine Go.step (fun _ zz => XS.iloadN X1.here hx rfl (hb hby d2_17) rfl zz) ?_
    show Go _ _ _ _ T1 (mkF m 18 #[.val (.ref r0), .val (.int p1), .val (.ref r2), .val (.int (Int32.ofNat o)), .val (.int (Int32.ofNat k)), .val (.int p5), .val (.int (p1 + (0 : Int32))), .unset] [(.int (Int32.ofNat o))])
    refine Go.step (fun _ zz => XS.istore X1.here hx rfl (hb hby d2_18) rfl (l' := #[.val (.ref r0), .val (.int p1), .val (.ref r2), .val (.int (Int32.ofNat o)), .val (.int (Int32.ofNat k)), .val (.int p5), .val (.int (p1 + (0 : Int32))), .val (.int (Int32.ofNat o))]) rfl zz) ?_
    show Go _ _ _ _ T1 (mkF m 20 #[.val (.ref r0), .val (.int p1), .val (.ref r2), .val (.int (Int32.ofNat o)), .val (.int (Int32.ofNat k)), .val (.int p5), .val (.int (p1 + (0 : Int32))), .val (.int (Int32.ofNat o))] [])
    have lp : ∀ (j i : Nat) (S : Int32), i + j = o + k → (own_sum b i j S &&& 255) = (own_sum b o k (p1 + (if cT = 0 then 0 else p5)) &&& 255) → Go p.tables e below (RT (Q_rm2 Z r0 p1 r2 o k p5 cT b kk h0 n0) s ({ frames := 0, cells := 0, slots := 0, locals := 0 } : Room).cells ({ frames := 0, cells := 0, slots := 0, locals := 0 } : Room).slots) T1 (mkF m 20 #[.val (.ref r0), .val (.int p1), .val (.ref r2), .val (.int (Int32.ofNat o)), .val (.int (Int32.ofNat k)), .val (.int p5), .val (.int S), .val (.int (Int32.ofNat i))] []) := by
      intro j
      induction j with
      | zero =>
        intro i S hij hR
        refine Go.step (fun _ zz => XS.iload X1.here hx rfl (hb hby d2_20) rfl zz) ?_
        show Go _ _ _ _ T1 (mkF m 22 #[.val (.ref r0), .val (.int p1), .val (.ref r2), .val (.int (Int32.ofNat o)), .val (.int (Int32.ofNat k)), .val (.int p5), .val (.int S), .val (.int (Int32.ofNat i))] [(.int (Int32.ofNat i))])
        refine Go.step (fun _ zz => XS.iloadN X1.here hx rfl (hb hby d2_22) rfl zz) ?_
        show Go _ _ _ _ T1 (mkF m 23 #[.val (.ref r0), .val (.int p1), .val (.ref r2), .val (.int (Int32.ofNat o)), .val (.int (Int32.ofNat k)), .val (.int p5), .val (.int S), .val (.int (Int32.ofNat i))] [(.int (Int32.ofNat o)), (.int (Int32.ofNat i))])
        refine Go.step (fun _ zz => XS.iload X1.here hx rfl (hb hby d2_23) rfl zz) ?_
        show Go _ _ _ _ T1 (mkF m 25 #[.val (.ref r0), .val (.int p1), .val (.ref r2), .val (.int (Int32.ofNat o)), .val (.int (Int32.ofNat k)), .val (.int p5), .val (.int S), .val (.int (Int32.ofNat i))] [(.int (Int32.ofNat k)), (.int (Int32.ofNat o)), (.int (Int32.ofNat i))])
        refine Go.step (fun _ zz => XS.iadd X1.here hx rfl (hb hby d2_25) rfl zz) ?_
        show Go _ _ _ _ T1 (mkF m 26 #[.val (.ref r0), .val (.int p1), .val (.ref r2), .val (.int (Int32.ofNat o)), .val (.int (Int32.ofNat k)), .val (.int p5), .val (.int S), .val (.int (Int32.ofNat i))] [(.int ((Int32.ofNat o) + (Int32.ofNat k))), (.int (Int32.ofNat i))])
        refine Go.step (fun _ zz => XS.icmpYes X1.here hx rfl (pc0 := 26) (pc' := 48) rfl (hb hby d2_26) rfl (flt (fun q => by have := (own_lt i (by omega) o (by omega) k (by omega)).mp q; omega)).2.1 (by decide) (by decide) zz) ?_
        show Go _ _ _ _ T1 (mkF m 48 #[.val (.ref r0), .val (.int p1), .val (.ref r2), .val (.int (Int32.ofNat o)), .val (.int (Int32.ofNat k)), .val (.int p5), .val (.int S), .val (.int (Int32.ofNat i))] [])
        refine Go.step (fun _ zz => XS.iload X1.here hx rfl (hb hby d2_48) rfl zz) ?_
        show Go _ _ _ _ T1 (mkF m 50 #[.val (.ref r0), .val (.int p1), .val (.ref r2), .val (.int (Int32.ofNat o)), .val (.int (Int32.ofNat k)), .val (.int p5), .val (.int S), .val (.int (Int32.ofNat i))] [(.int S)])
        refine Go.step (fun _ zz => XS.sipush X1.here hx rfl (hb hby d2_50) zz) ?_
        show Go _ _ _ _ T1 (mkF m 53 #[.val (.ref r0), .val (.int p1), .val (.ref r2), .val (.int (Int32.ofNat o)), .val (.int (Int32.ofNat k)), .val (.int p5), .val (.int S), .val (.int (Int32.ofNat i))] [(.int (255 : Int32)), (.int S)])
        refine Go.step (fun _ zz => XS.iand X1.here hx rfl (hb hby d2_53) rfl zz) ?_
        show Go _ _ _ _ T1 (mkF m 54 #[.val (.ref r0), .val (.int p1), .val (.ref r2), .val (.int (Int32.ofNat o)), .val (.int (Int32.ofNat k)), .val (.int p5), .val (.int S), .val (.int (Int32.ofNat i))] [(.int (S &&& (255 : Int32)))])
        exact Go.retI X1 hx Bd.returns (hb hby d2_54) Bd.notSynchronized (⟨congrArg (fun q => some (Value.int q)) hR, N0, e1⟩) (by decide) (by decide)
      | succ j ih =>
        intro i S hij hR
        refine Go.step (fun _ zz => XS.iload X1.here hx rfl (hb hby d2_20) rfl zz) ?_
        show Go _ _ _ _ T1 (mkF m 22 #[.val (.ref r0), .val (.int p1), .val (.ref r2), .val (.int (Int32.ofNat o)), .val (.int (Int32.ofNat k)), .val (.int p5), .val (.int S), .val (.int (Int32.ofNat i))] [(.int (Int32.ofNat i))])
        refine Go.step (fun _ zz => XS.iloadN X1.here hx rfl (hb hby d2_22) rfl zz) ?_
        show Go _ _ _ _ T1 (mkF m 23 #[.val (.ref r0), .val (.int p1), .val (.ref r2), .val (.int (Int32.ofNat o)), .val (.int (Int32.ofNat k)), .val (.int p5), .val (.int S), .val (.int (Int32.ofNat i))] [(.int (Int32.ofNat o)), (.int (Int32.ofNat i))])
        refine Go.step (fun _ zz => XS.iload X1.here hx rfl (hb hby d2_23) rfl zz) ?_
        show Go _ _ _ _ T1 (mkF m 25 #[.val (.ref r0), .val (.int p1), .val (.ref r2), .val (.int (Int32.ofNat o)), .val (.int (Int32.ofNat k)), .val (.int p5), .val (.int S), .val (.int (Int32.ofNat i))] [(.int (Int32.ofNat k)), (.int (Int32.ofNat o)), (.int (Int32.ofNat i))])
        refine Go.step (fun _ zz => XS.iadd X1.here hx rfl (hb hby d2_25) rfl zz) ?_
        show Go _ _ _ _ T1 (mkF m 26 #[.val (.ref r0), .val (.int p1), .val (.ref r2), .val (.int (Int32.ofNat o)), .val (.int (Int32.ofNat k)), .val (.int p5), .val (.int S), .val (.int (Int32.ofNat i))] [(.int ((Int32.ofNat o) + (Int32.ofNat k))), (.int (Int32.ofNat i))])
        refine Go.step (fun _ zz => XS.icmpNo X1.here hx rfl (hb hby d2_26) rfl (tlt ((own_lt i (by omega) o (by omega) k (by omega)).mpr (by omega))).2.1 zz) ?_
        show Go _ _ _ _ T1 (mkF m 29 #[.val (.ref r0), .val (.int p1), .val (.ref r2), .val (.int (Int32.ofNat o)), .val (.int (Int32.ofNat k)), .val (.int p5), .val (.int S), .val (.int (Int32.ofNat i))] [])
        refine Go.step (fun _ zz => XS.iload X1.here hx rfl (hb hby d2_29) rfl zz) ?_
        show Go _ _ _ _ T1 (mkF m 31 #[.val (.ref r0), .val (.int p1), .val (.ref r2), .val (.int (Int32.ofNat o)), .val (.int (Int32.ofNat k)), .val (.int p5), .val (.int S), .val (.int (Int32.ofNat i))] [(.int S)])
        refine Go.step (fun _ zz => XS.aloadN X1.here hx rfl (hb hby d2_31) rfl rfl zz) ?_
        show Go _ _ _ _ T1 (mkF m 32 #[.val (.ref r0), .val (.int p1), .val (.ref r2), .val (.int (Int32.ofNat o)), .val (.int (Int32.ofNat k)), .val (.int p5), .val (.int S), .val (.int (Int32.ofNat i))] [(.ref r2), (.int S)])
        refine Go.step (fun _ zz => XS.iload X1.here hx rfl (hb hby d2_32) rfl zz) ?_
        show Go _ _ _ _ T1 (mkF m 34 #[.val (.ref r0), .val (.int p1), .val (.ref r2), .val (.int (Int32.ofNat o)), .val (.int (Int32.ofNat k)), .val (.int p5), .val (.int S), .val (.int (Int32.ofNat i))] [(.int (Int32.ofNat i)), (.ref r2), (.int S)])
        obtain ⟨c2, Ar2, q2, S2, M2, H2, G2⟩ := V_a
        have hin2 : ¬ ((Int32.ofNat i) < 0 ∨ c2.slots.size ≤ ((Int32.ofNat i)).toNatClampNeg) := inb_of S2 (own_in4 i (by omega))
        refine Go.step (fun _ zz => X1.baloadBytes hx (j := (Int32.ofNat i)) (v := (.int (b i))) (by rw [e1]; exact Ar2.1) (State.isArrayOf_alike hZ.alike Ar2.2.1) Ar2.2.2 hin2 (H2.at hin2 (own_at b i (by omega))) (g := (mkF m 34 #[.val (.ref r0), .val (.int p1), .val (.ref r2), .val (.int (Int32.ofNat o)), .val (.int (Int32.ofNat k)), .val (.int p5), .val (.int S), .val (.int (Int32.ofNat i))] [(.int (Int32.ofNat i)), (.ref r2), (.int S)])) rfl rfl (hb hby d2_34) _ zz) ?_
        show Go _ _ _ _ T1 (mkF m 35 #[.val (.ref r0), .val (.int p1), .val (.ref r2), .val (.int (Int32.ofNat o)), .val (.int (Int32.ofNat k)), .val (.int p5), .val (.int S), .val (.int (Int32.ofNat i))] [(.int (b i)), (.int S)])
        refine Go.step (fun _ zz => XS.sipush X1.here hx rfl (hb hby d2_35) zz) ?_
        show Go _ _ _ _ T1 (mkF m 38 #[.val (.ref r0), .val (.int p1), .val (.ref r2), .val (.int (Int32.ofNat o)), .val (.int (Int32.ofNat k)), .val (.int p5), .val (.int S), .val (.int (Int32.ofNat i))] [(.int (255 : Int32)), (.int (b i)), (.int S)])
        refine Go.step (fun _ zz => XS.iand X1.here hx rfl (hb hby d2_38) rfl zz) ?_
        show Go _ _ _ _ T1 (mkF m 39 #[.val (.ref r0), .val (.int p1), .val (.ref r2), .val (.int (Int32.ofNat o)), .val (.int (Int32.ofNat k)), .val (.int p5), .val (.int S), .val (.int (Int32.ofNat i))] [(.int ((b i) &&& (255 : Int32))), (.int S)])
        refine Go.step (fun _ zz => XS.iadd X1.here hx rfl (hb hby d2_39) rfl zz) ?_
        show Go _ _ _ _ T1 (mkF m 40 #[.val (.ref r0), .val (.int p1), .val (.ref r2), .val (.int (Int32.ofNat o)), .val (.int (Int32.ofNat k)), .val (.int p5), .val (.int S), .val (.int (Int32.ofNat i))] [(.int (S + ((b i) &&& (255 : Int32))))])
        refine Go.step (fun _ zz => XS.istore X1.here hx rfl (hb hby d2_40) rfl (l' := #[.val (.ref r0), .val (.int p1), .val (.ref r2), .val (.int (Int32.ofNat o)), .val (.int (Int32.ofNat k)), .val (.int p5), .val (.int (S + ((b i) &&& (255 : Int32)))), .val (.int (Int32.ofNat i))]) rfl zz) ?_
        show Go _ _ _ _ T1 (mkF m 42 #[.val (.ref r0), .val (.int p1), .val (.ref r2), .val (.int (Int32.ofNat o)), .val (.int (Int32.ofNat k)), .val (.int p5), .val (.int (S + ((b i) &&& (255 : Int32)))), .val (.int (Int32.ofNat i))] [])
        refine Go.step (fun _ zz => XS.iinc X1.here hx rfl (hb hby d2_42) rfl (l' := #[.val (.ref r0), .val (.int p1), .val (.ref r2), .val (.int (Int32.ofNat o)), .val (.int (Int32.ofNat k)), .val (.int p5), .val (.int (S + ((b i) &&& (255 : Int32)))), .val (.int ((Int32.ofNat i) + (1 : Int32)))]) rfl zz) ?_
        show Go _ _ _ _ T1 (mkF m 45 #[.val (.ref r0), .val (.int p1), .val (.ref r2), .val (.int (Int32.ofNat o)), .val (.int (Int32.ofNat k)), .val (.int p5), .val (.int (S + ((b i) &&& (255 : Int32)))), .val (.int ((Int32.ofNat i) + (1 : Int32)))] [])
        refine Go.step (fun _ zz => XS.goto X1.here hx rfl (pc0 := 45) (pc' := 20) rfl (hb hby d2_45) (by decide) (by decide) zz) ?_
        show Go _ _ _ _ T1 (mkF m 20 #[.val (.ref r0), .val (.int p1), .val (.ref r2), .val (.int (Int32.ofNat o)), .val (.int (Int32.ofNat k)), .val (.int p5), .val (.int (S + ((b i) &&& (255 : Int32)))), .val (.int ((Int32.ofNat i) + (1 : Int32)))] [])
        rw [own_succ]
        exact ih (i + 1) _ (by omega) hR
    exact lp k o _ rfl (by rw [if_pos hc5])
  · refine Go.step (fun _ zz => XS.ifNo X1.here hx rfl (hb hby d2_5) rfl ((if0 _ _).trans (feq hc5).1) zz) ?_
    show Go _ _ _ _ T1 (mkF m 8 #[.val (.ref r0), .val (.int p1), .val (.ref r2), .val (.int (Int32.ofNat o)), .val (.int (Int32.ofNat k)), .val (.int p5), .unset, .unset] [(.int p1)])
    refine Go.step (fun _ zz => XS.iload X1.here hx rfl (hb hby d2_8) rfl zz) ?_
    show Go _ _ _ _ T1 (mkF m 10 #[.val (.ref r0), .val (.int p1), .val (.ref r2), .val (.int (Int32.ofNat o)), .val (.int (Int32.ofNat k)), .val (.int p5), .unset, .unset] [(.int p5), (.int p1)])
    refine Go.step (fun _ zz => XS.goto X1.here hx rfl (pc0 := 10) (pc' := 14) rfl (hb hby d2_10) (by decide) (by decide) zz) ?_
    show Go _ _ _ _ T1 (mkF m 14 #[.val (.ref r0), .val (.int p1), .val (.ref r2), .val (.int (Int32.ofNat o)), .val (.int (Int32.ofNat k)), .val (.int p5), .unset, .unset] [(.int p5), (.int p1)])
    refine Go.step (fun _ zz => XS.iadd X1.here hx rfl (hb hby d2_14) rfl zz) ?_
    show Go _ _ _ _ T1 (mkF m 15 #[.val (.ref r0), .val (.int p1), .val (.ref r2), .val (.int (Int32.ofNat o)), .val (.int (Int32.ofNat k)), .val (.int p5), .unset, .unset] [(.int (p1 + p5))])
    refine Go.step (fun _ zz => XS.istore X1.here hx rfl (hb hby d2_15) rfl (l' := #[.val (.ref r0), .val (.int p1), .val (.ref r2), .val (.int (Int32.ofNat o)), .val (.int (Int32.ofNat k)), .val (.int p5), .val (.int (p1 + p5)), .unset]) rfl zz) ?_
    show Go _ _ _ _ T1 (mkF m 17 #[.val (.ref r0), .val (.int p1), .val (.ref r2), .val (.int (Int32.ofNat o)), .val (.int (Int32.ofNat k)), .val (.int p5), .val (.int (p1 + p5)), .unset] [])
    refine Go.step (fun _ zz => XS.iloadN X1.here hx rfl (hb hby d2_17) rfl zz) ?_
    show Go _ _ _ _ T1 (mkF m 18 #[.val (.ref r0), .val (.int p1), .val (.ref r2), .val (.int (Int32.ofNat o)), .val (.int (Int32.ofNat k)), .val (.int p5), .val (.int (p1 + p5)), .unset] [(.int (Int32.ofNat o))])
    refine Go.step (fun _ zz => XS.istore X1.here hx rfl (hb hby d2_18) rfl (l' := #[.val (.ref r0), .val (.int p1), .val (.ref r2), .val (.int (Int32.ofNat o)), .val (.int (Int32.ofNat k)), .val (.int p5), .val (.int (p1 + p5)), .val (.int (Int32.ofNat o))]) rfl zz) ?_
    show Go _ _ _ _ T1 (mkF m 20 #[.val (.ref r0), .val (.int p1), .val (.ref r2), .val (.int (Int32.ofNat o)), .val (.int (Int32.ofNat k)), .val (.int p5), .val (.int (p1 + p5)), .val (.int (Int32.ofNat o))] [])
    have lp : ∀ (j i : Nat) (S : Int32), i + j = o + k → (own_sum b i j S &&& 255) = (own_sum b o k (p1 + (if cT = 0 then 0 else p5)) &&& 255) → Go p.tables e below (RT (Q_rm2 Z r0 p1 r2 o k p5 cT b kk h0 n0) s ({ frames := 0, cells := 0, slots := 0, locals := 0 } : Room).cells ({ frames := 0, cells := 0, slots := 0, locals := 0 } : Room).slots) T1 (mkF m 20 #[.val (.ref r0), .val (.int p1), .val (.ref r2), .val (.int (Int32.ofNat o)), .val (.int (Int32.ofNat k)), .val (.int p5), .val (.int S), .val (.int (Int32.ofNat i))] []) := by
      intro j
      induction j with
      | zero =>
        intro i S hij hR
        refine Go.step (fun _ zz => XS.iload X1.here hx rfl (hb hby d2_20) rfl zz) ?_
        show Go _ _ _ _ T1 (mkF m 22 #[.val (.ref r0), .val (.int p1), .val (.ref r2), .val (.int (Int32.ofNat o)), .val (.int (Int32.ofNat k)), .val (.int p5), .val (.int S), .val (.int (Int32.ofNat i))] [(.int (Int32.ofNat i))])
        refine Go.step (fun _ zz => XS.iloadN X1.here hx rfl (hb hby d2_22) rfl zz) ?_
        show Go _ _ _ _ T1 (mkF m 23 #[.val (.ref r0), .val (.int p1), .val (.ref r2), .val (.int (Int32.ofNat o)), .val (.int (Int32.ofNat k)), .val (.int p5), .val (.int S), .val (.int (Int32.ofNat i))] [(.int (Int32.ofNat o)), (.int (Int32.ofNat i))])
        refine Go.step (fun _ zz => XS.iload X1.here hx rfl (hb hby d2_23) rfl zz) ?_
        show Go _ _ _ _ T1 (mkF m 25 #[.val (.ref r0), .val (.int p1), .val (.ref r2), .val (.int (Int32.ofNat o)), .val (.int (Int32.ofNat k)), .val (.int p5), .val (.int S), .val (.int (Int32.ofNat i))] [(.int (Int32.ofNat k)), (.int (Int32.ofNat o)), (.int (Int32.ofNat i))])
        refine Go.step (fun _ zz => XS.iadd X1.here hx rfl (hb hby d2_25) rfl zz) ?_
        show Go _ _ _ _ T1 (mkF m 26 #[.val (.ref r0), .val (.int p1), .val (.ref r2), .val (.int (Int32.ofNat o)), .val (.int (Int32.ofNat k)), .val (.int p5), .val (.int S), .val (.int (Int32.ofNat i))] [(.int ((Int32.ofNat o) + (Int32.ofNat k))), (.int (Int32.ofNat i))])
        refine Go.step (fun _ zz => XS.icmpYes X1.here hx rfl (pc0 := 26) (pc' := 48) rfl (hb hby d2_26) rfl (flt (fun q => by have := (own_lt i (by omega) o (by omega) k (by omega)).mp q; omega)).2.1 (by decide) (by decide) zz) ?_
        show Go _ _ _ _ T1 (mkF m 48 #[.val (.ref r0), .val (.int p1), .val (.ref r2), .val (.int (Int32.ofNat o)), .val (.int (Int32.ofNat k)), .val (.int p5), .val (.int S), .val (.int (Int32.ofNat i))] [])
        refine Go.step (fun _ zz => XS.iload X1.here hx rfl (hb hby d2_48) rfl zz) ?_
        show Go _ _ _ _ T1 (mkF m 50 #[.val (.ref r0), .val (.int p1), .val (.ref r2), .val (.int (Int32.ofNat o)), .val (.int (Int32.ofNat k)), .val (.int p5), .val (.int S), .val (.int (Int32.ofNat i))] [(.int S)])
        refine Go.step (fun _ zz => XS.sipush X1.here hx rfl (hb hby d2_50) zz) ?_
        show Go _ _ _ _ T1 (mkF m 53 #[.val (.ref r0), .val (.int p1), .val (.ref r2), .val (.int (Int32.ofNat o)), .val (.int (Int32.ofNat k)), .val (.int p5), .val (.int S), .val (.int (Int32.ofNat i))] [(.int (255 : Int32)), (.int S)])
        refine Go.step (fun _ zz => XS.iand X1.here hx rfl (hb hby d2_53) rfl zz) ?_
        show Go _ _ _ _ T1 (mkF m 54 #[.val (.ref r0), .val (.int p1), .val (.ref r2), .val (.int (Int32.ofNat o)), .val (.int (Int32.ofNat k)), .val (.int p5), .val (.int S), .val (.int (Int32.ofNat i))] [(.int (S &&& (255 : Int32)))])
        exact Go.retI X1 hx Bd.returns (hb hby d2_54) Bd.notSynchronized (⟨congrArg (fun q => some (Value.int q)) hR, N0, e1⟩) (by decide) (by decide)
      | succ j ih =>
        intro i S hij hR
        refine Go.step (fun _ zz => XS.iload X1.here hx rfl (hb hby d2_20) rfl zz) ?_
        show Go _ _ _ _ T1 (mkF m 22 #[.val (.ref r0), .val (.int p1), .val (.ref r2), .val (.int (Int32.ofNat o)), .val (.int (Int32.ofNat k)), .val (.int p5), .val (.int S), .val (.int (Int32.ofNat i))] [(.int (Int32.ofNat i))])
        refine Go.step (fun _ zz => XS.iloadN X1.here hx rfl (hb hby d2_22) rfl zz) ?_
        show Go _ _ _ _ T1 (mkF m 23 #[.val (.ref r0), .val (.int p1), .val (.ref r2), .val (.int (Int32.ofNat o)), .val (.int (Int32.ofNat k)), .val (.int p5), .val (.int S), .val (.int (Int32.ofNat i))] [(.int (Int32.ofNat o)), (.int (Int32.ofNat i))])
        refine Go.step (fun _ zz => XS.iload X1.here hx rfl (hb hby d2_23) rfl zz) ?_
        show Go _ _ _ _ T1 (mkF m 25 #[.val (.ref r0), .val (.int p1), .val (.ref r2), .val (.int (Int32.ofNat o)), .val (.int (Int32.ofNat k)), .val (.int p5), .val (.int S), .val (.int (Int32.ofNat i))] [(.int (Int32.ofNat k)), (.int (Int32.ofNat o)), (.int (Int32.ofNat i))])
        refine Go.step (fun _ zz => XS.iadd X1.here hx rfl (hb hby d2_25) rfl zz) ?_
        show Go _ _ _ _ T1 (mkF m 26 #[.val (.ref r0), .val (.int p1), .val (.ref r2), .val (.int (Int32.ofNat o)), .val (.int (Int32.ofNat k)), .val (.int p5), .val (.int S), .val (.int (Int32.ofNat i))] [(.int ((Int32.ofNat o) + (Int32.ofNat k))), (.int (Int32.ofNat i))])
        refine Go.step (fun _ zz => XS.icmpNo X1.here hx rfl (hb hby d2_26) rfl (tlt ((own_lt i (by omega) o (by omega) k (by omega)).mpr (by omega))).2.1 zz) ?_
        show Go _ _ _ _ T1 (mkF m 29 #[.val (.ref r0), .val (.int p1), .val (.ref r2), .val (.int (Int32.ofNat o)), .val (.int (Int32.ofNat k)), .val (.int p5), .val (.int S), .val (.int (Int32.ofNat i))] [])
        refine Go.step (fun _ zz => XS.iload X1.here hx rfl (hb hby d2_29) rfl zz) ?_
        show Go _ _ _ _ T1 (mkF m 31 #[.val (.ref r0), .val (.int p1), .val (.ref r2), .val (.int (Int32.ofNat o)), .val (.int (Int32.ofNat k)), .val (.int p5), .val (.int S), .val (.int (Int32.ofNat i))] [(.int S)])
        refine Go.step (fun _ zz => XS.aloadN X1.here hx rfl (hb hby d2_31) rfl rfl zz) ?_
        show Go _ _ _ _ T1 (mkF m 32 #[.val (.ref r0), .val (.int p1), .val (.ref r2), .val (.int (Int32.ofNat o)), .val (.int (Int32.ofNat k)), .val (.int p5), .val (.int S), .val (.int (Int32.ofNat i))] [(.ref r2), (.int S)])
        refine Go.step (fun _ zz => XS.iload X1.here hx rfl (hb hby d2_32) rfl zz) ?_
        show Go _ _ _ _ T1 (mkF m 34 #[.val (.ref r0), .val (.int p1), .val (.ref r2), .val (.int (Int32.ofNat o)), .val (.int (Int32.ofNat k)), .val (.int p5), .val (.int S), .val (.int (Int32.ofNat i))] [(.int (Int32.ofNat i)), (.ref r2), (.int S)])
        obtain ⟨c3, Ar3, q3, S3, M3, H3, G3⟩ := V_a
        have hin3 : ¬ ((Int32.ofNat i) < 0 ∨ c3.slots.size ≤ ((Int32.ofNat i)).toNatClampNeg) := inb_of S3 (own_in4 i (by omega))
        refine Go.step (fun _ zz => X1.baloadBytes hx (j := (Int32.ofNat i)) (v := (.int (b i))) (by rw [e1]; exact Ar3.1) (State.isArrayOf_alike hZ.alike Ar3.2.1) Ar3.2.2 hin3 (H3.at hin3 (own_at b i (by omega))) (g := (mkF m 34 #[.val (.ref r0), .val (.int p1), .val (.ref r2), .val (.int (Int32.ofNat o)), .val (.int (Int32.ofNat k)), .val (.int p5), .val (.int S), .val (.int (Int32.ofNat i))] [(.int (Int32.ofNat i)), (.ref r2), (.int S)])) rfl rfl (hb hby d2_34) _ zz) ?_
        show Go _ _ _ _ T1 (mkF m 35 #[.val (.ref r0), .val (.int p1), .val (.ref r2), .val (.int (Int32.ofNat o)), .val (.int (Int32.ofNat k)), .val (.int p5), .val (.int S), .val (.int (Int32.ofNat i))] [(.int (b i)), (.int S)])
        refine Go.step (fun _ zz => XS.sipush X1.here hx rfl (hb hby d2_35) zz) ?_
        show Go _ _ _ _ T1 (mkF m 38 #[.val (.ref r0), .val (.int p1), .val (.ref r2), .val (.int (Int32.ofNat o)), .val (.int (Int32.ofNat k)), .val (.int p5), .val (.int S), .val (.int (Int32.ofNat i))] [(.int (255 : Int32)), (.int (b i)), (.int S)])
        refine Go.step (fun _ zz => XS.iand X1.here hx rfl (hb hby d2_38) rfl zz) ?_
        show Go _ _ _ _ T1 (mkF m 39 #[.val (.ref r0), .val (.int p1), .val (.ref r2), .val (.int (Int32.ofNat o)), .val (.int (Int32.ofNat k)), .val (.int p5), .val (.int S), .val (.int (Int32.ofNat i))] [(.int ((b i) &&& (255 : Int32))), (.int S)])
        refine Go.step (fun _ zz => XS.iadd X1.here hx rfl (hb hby d2_39) rfl zz) ?_
        show Go _ _ _ _ T1 (mkF m 40 #[.val (.ref r0), .val (.int p1), .val (.ref r2), .val (.int (Int32.ofNat o)), .val (.int (Int32.ofNat k)), .val (.int p5), .val (.int S), .val (.int (Int32.ofNat i))] [(.int (S + ((b i) &&& (255 : Int32))))])
        refine Go.step (fun _ zz => XS.istore X1.here hx rfl (hb hby d2_40) rfl (l' := #[.val (.ref r0), .val (.int p1), .val (.ref r2), .val (.int (Int32.ofNat o)), .val (.int (Int32.ofNat k)), .val (.int p5), .val (.int (S + ((b i) &&& (255 : Int32)))), .val (.int (Int32.ofNat i))]) rfl zz) ?_
        show Go _ _ _ _ T1 (mkF m 42 #[.val (.ref r0), .val (.int p1), .val (.ref r2), .val (.int (Int32.ofNat o)), .val (.int (Int32.ofNat k)), .val (.int p5), .val (.int (S + ((b i) &&& (255 : Int32)))), .val (.int (Int32.ofNat i))] [])
        refine Go.step (fun _ zz => XS.iinc X1.here hx rfl (hb hby d2_42) rfl (l' := #[.val (.ref r0), .val (.int p1), .val (.ref r2), .val (.int (Int32.ofNat o)), .val (.int (Int32.ofNat k)), .val (.int p5), .val (.int (S + ((b i) &&& (255 : Int32)))), .val (.int ((Int32.ofNat i) + (1 : Int32)))]) rfl zz) ?_
        show Go _ _ _ _ T1 (mkF m 45 #[.val (.ref r0), .val (.int p1), .val (.ref r2), .val (.int (Int32.ofNat o)), .val (.int (Int32.ofNat k)), .val (.int p5), .val (.int (S + ((b i) &&& (255 : Int32)))), .val (.int ((Int32.ofNat i) + (1 : Int32)))] [])
        refine Go.step (fun _ zz => XS.goto X1.here hx rfl (pc0 := 45) (pc' := 20) rfl (hb hby d2_45) (by decide) (by decide) zz) ?_
        show Go _ _ _ _ T1 (mkF m 20 #[.val (.ref r0), .val (.int p1), .val (.ref r2), .val (.int (Int32.ofNat o)), .val (.int (Int32.ofNat k)), .val (.int p5), .val (.int (S + ((b i) &&& (255 : Int32)))), .val (.int ((Int32.ofNat i) + (1 : Int32)))] [])
        rw [own_succ]
        exact ih (i + 1) _ (by omega) hR
    exact lp k o _ rfl (by rw [if_neg hc5])
def own_b (p2 : Int32) : Nat → Int32
  | 0 => nar .byte (p2.toInt8.toInt32)
  | 1 => nar .byte (((p2.toUInt32 >>> ((8 : Int32) &&& 31).toUInt32).toInt32).toInt8.toInt32)
  | 2 => nar .byte (((p2.toUInt32 >>> ((16 : Int32) &&& 31).toUInt32).toInt32).toInt8.toInt32)
  | _ => nar .byte (((p2.toUInt32 >>> ((24 : Int32) &&& 31).toUInt32).toInt32).toInt8.toInt32)
theorem own_end (p1 p3 p2 : Int32) (o k : Nat) (h : o + k ≤ 4) (c : Int32) : (own_sum (own_b p2) o k (p1 + (if c = 0 then 0 else p3)) &&& 255) = ((p1 + (if c = 0 then 0 else p3)) + (((own_part (own_b p2) 0 (Int32.ofNat o) (Int32.ofNat k) + own_part (own_b p2) 1 (Int32.ofNat o) (Int32.ofNat k)) + own_part (own_b p2) 2 (Int32.ofNat o) (Int32.ofNat k)) + own_part (own_b p2) 3 (Int32.ofNat o) (Int32.ofNat k))) &&& 255 := by
  rw [own_law _ _ o k h]
theorem own_pd2 : parseMethodDescriptor "([BIII)I" = some ⟨[(.array .byte), .int, .int, .int], some .int⟩ := by decide +kernel
theorem own_pd3 : parseMethodDescriptor "(I[BIII)I" = some ⟨[.int, (.array .byte), .int, .int, .int], some .int⟩ := by decide +kernel
theorem ef_rm0 (m : MethodId) (x0 : Int32) (x1 : Int32) (x2 : Int32) (x3 : Int32) : entryFrame m #[(.int x0), (.int x1), (.int x2), (.int x3)] maxLocals = mkF m 0 #[.val (.int x0), .val (.int x1), .val (.int x2), .val (.int x3), .unset, .unset, .unset, .unset, .unset, .unset, .unset, .unset] [] := by first | (simp [entryFrame, mkF, argsToLocals, Value.category, maxLocals]; done) | rfl
def Q_rm0 (Z : State) (p0 : Int32) (p1 : Int32) (p2 : Int32) (p3 : Int32) (w : Nat → Addr) (h0 : Heap) (n0 : Nat) (v : Option Value) (h : Heap) (L : List Loc) : Prop := v = some (.int (1 : Int32)) ∧ Fr n0 L
set_option maxRecDepth 65536 in
set_option maxHeartbeats 40000000 in
theorem rm0 (l : Launch) (Z : State) (a0 : Array Value) (hw : ∀ d ∈ tables_1, d.before a0 Z = true) (ws : List Jvm.Cond) (p0 : Int32) (p1 : Int32) (p2 : Int32) (p3 : Int32) (w : Nat → Addr) (h0 : Heap) (n0 : Nat) (Z0 : n0 ≤ h0.size) (O0 : Old Z n0 h0) (wd : Wd Z w) :
    MetFree l x (head1 (Jvm.Cond.code x code maxLocals ret :: ws) room_1) (fun az Uz => az = #[(.int p0), (.int p1), (.int p2), (.int p3)] ∧ Z.Warmed39 Uz.vm ∧ Uz.heap = h0) (fun _ _ _ _ _ => True) (fun _ Uz oz Vz => ∃ vz Lz, oz = .returned vz ∧ Q_rm0 Z p0 p1 p2 p3 w h0 n0 vz Vz.heap Lz ∧ FrameEnd Uz oz Vz Lz room_1.cells room_1.slots) := by
  refine MetFree.of_bodySF (plainFor_of_name own_pn0) hisR ?_
  intro p e s m args below meth c s₁ Bd hml0 hP hK
  obtain ⟨rfl, hZ, hh⟩ := hP
  have hx := Bd.exec
  have hby := Bd.bytes
  have hml : c.maxLocals = 12 := hml0
  have hown : s.vm.findClass "com/example/assayline/assayline/wire/AstmChecksumOfPinLaw" = some m.cls := findClass_of_methodNamed Bd.named
  have hnm := (name_of_methodNamed Bd.named Bd.method).1
  have X0 : Stand p l e room_1 s m #[(.int p0), (.int p1), (.int p2), (.int p3)] below meth c s₁ [] 0 0 := Stand.of_body Bd
  have e0 : s₁.heap = h0 := by rw [← hh, Bd.state]; rfl
  have N0 := Fr.nil n0
  have K0 : Keep h0 h0 [] := Keep.refl _ _
  refine Go.enter (Q := Q_rm0 Z p0 p1 p2 p3 w h0 n0) (C := room_1.cells) (S := room_1.slots) (ef_rm0 m p0 p1 p2 p3) ?_
  refine Go.step (fun _ zz => XS.iloadN X0.here hx rfl (hb hby at_0) rfl zz) ?_
  show Go _ _ _ _ s₁ (mkF m 1 #[.val (.int p0), .val (.int p1), .val (.int p2), .val (.int p3), .unset, .unset, .unset, .unset, .unset, .unset, .unset, .unset] [(.int p0)])
  refine Go.step (fun _ zz => XS.iconst X0.here hx rfl (hb hby at_1) zz) ?_
  show Go _ _ _ _ s₁ (mkF m 2 #[.val (.int p0), .val (.int p1), .val (.int p2), .val (.int p3), .unset, .unset, .unset, .unset, .unset, .unset, .unset, .unset] [(.int (1 : Int32)), (.int p0)])
  refine Go.step (fun _ zz => XS.iand X0.here hx rfl (hb hby at_2) rfl zz) ?_
  show Go _ _ _ _ s₁ (mkF m 3 #[.val (.int p0), .val (.int p1), .val (.int p2), .val (.int p3), .unset, .unset, .unset, .unset, .unset, .unset, .unset, .unset] [(.int (p0 &&& (1 : Int32)))])
  by_cases hc3 : (p0 &&& (1 : Int32)) = (0 : Int32)
  · refine Go.step (fun _ zz => XS.ifYes X0.here hx rfl (pc0 := 3) (pc' := 10) rfl (hb hby at_3) rfl ((if0 _ _).trans (teq hc3).1) (by decide) (by decide) zz) ?_
    show Go _ _ _ _ s₁ (mkF m 10 #[.val (.int p0), .val (.int p1), .val (.int p2), .val (.int p3), .unset, .unset, .unset, .unset, .unset, .unset, .unset, .unset] [])
    refine Go.step (fun _ zz => XS.iconst X0.here hx rfl (hb hby at_10) zz) ?_
    show Go _ _ _ _ s₁ (mkF m 11 #[.val (.int p0), .val (.int p1), .val (.int p2), .val (.int p3), .unset, .unset, .unset, .unset, .unset, .unset, .unset, .unset] [(.int (0 : Int32))])
    refine Go.step (fun _ zz => XS.istore X0.here hx rfl (hb hby at_11) rfl (l' := #[.val (.int p0), .val (.int p1), .val (.int p2), .val (.int p3), .val (.int (0 : Int32)), .unset, .unset, .unset, .unset, .unset, .unset, .unset]) rfl zz) ?_
    show Go _ _ _ _ s₁ (mkF m 13 #[.val (.int p0), .val (.int p1), .val (.int p2), .val (.int p3), .val (.int (0 : Int32)), .unset, .unset, .unset, .unset, .unset, .unset, .unset] [])
    refine Go.step (fun _ zz => XS.iload X0.here hx rfl (hb hby at_13) rfl zz) ?_
    show Go _ _ _ _ s₁ (mkF m 15 #[.val (.int p0), .val (.int p1), .val (.int p2), .val (.int p3), .val (.int (0 : Int32)), .unset, .unset, .unset, .unset, .unset, .unset, .unset] [(.int (0 : Int32))])
    refine Go.step (fun _ zz => XS.ifYes X0.here hx rfl (pc0 := 15) (pc' := 24) rfl (hb hby at_15) rfl ((if0 _ _).trans (teq (by decide)).1) (by decide) (by decide) zz) ?_
    show Go _ _ _ _ s₁ (mkF m 24 #[.val (.int p0), .val (.int p1), .val (.int p2), .val (.int p3), .val (.int (0 : Int32)), .unset, .unset, .unset, .unset, .unset, .unset, .unset] [])
    obtain ⟨T1, X1, e1, st1⟩ := getS2 X0 hx hZ hown (host := "") (Or.inl (hw _ (List.mem_of_getElem? (i := 0) rfl))) Via.refl e0 ((wd0 wd).ext O0.2) (g := (mkF m 24 #[.val (.int p0), .val (.int p1), .val (.int p2), .val (.int p3), .val (.int (0 : Int32)), .unset, .unset, .unset, .unset, .unset, .unset, .unset] [])) rfl (hb hby at_24)
    refine Go.step st1 ?_
    show Go _ _ _ _ T1 (mkF m 27 #[.val (.int p0), .val (.int p1), .val (.int p2), .val (.int p3), .val (.int (0 : Int32)), .unset, .unset, .unset, .unset, .unset, .unset, .unset] [(.ref (w 0))])
    refine Go.step (fun _ zz => XS.astore X1.here hx rfl (hb hby at_27) rfl rfl (l' := #[.val (.int p0), .val (.int p1), .val (.int p2), .val (.int p3), .val (.int (0 : Int32)), .val (.ref (w 0)), .unset, .unset, .unset, .unset, .unset, .unset]) rfl zz) ?_
    show Go _ _ _ _ T1 (mkF m 29 #[.val (.int p0), .val (.int p1), .val (.int p2), .val (.int p3), .val (.int (0 : Int32)), .val (.ref (w 0)), .unset, .unset, .unset, .unset, .unset, .unset] [])
    refine Go.step (fun _ zz => XS.iloadN X1.here hx rfl (hb hby at_29) rfl zz) ?_
    show Go _ _ _ _ T1 (mkF m 30 #[.val (.int p0), .val (.int p1), .val (.int p2), .val (.int p3), .val (.int (0 : Int32)), .val (.ref (w 0)), .unset, .unset, .unset, .unset, .unset, .unset] [(.int p0)])
    refine Go.step (fun _ zz => XS.iconst X1.here hx rfl (hb hby at_30) zz) ?_
    show Go _ _ _ _ T1 (mkF m 31 #[.val (.int p0), .val (.int p1), .val (.int p2), .val (.int p3), .val (.int (0 : Int32)), .val (.ref (w 0)), .unset, .unset, .unset, .unset, .unset, .unset] [(.int (1 : Int32)), (.int p0)])
    refine Go.step (fun _ zz => XS.iushr X1.here hx rfl (hb hby at_31) rfl zz) ?_
    show Go _ _ _ _ T1 (mkF m 32 #[.val (.int p0), .val (.int p1), .val (.int p2), .val (.int p3), .val (.int (0 : Int32)), .val (.ref (w 0)), .unset, .unset, .unset, .unset, .unset, .unset] [(.int ((p0.toUInt32 >>> ((1 : Int32) &&& 31).toUInt32).toInt32))])
    refine Go.step (fun _ zz => XS.iconst X1.here hx rfl (hb hby at_32) zz) ?_
    show Go _ _ _ _ T1 (mkF m 33 #[.val (.int p0), .val (.int p1), .val (.int p2), .val (.int p3), .val (.int (0 : Int32)), .val (.ref (w 0)), .unset, .unset, .unset, .unset, .unset, .unset] [(.int (3 : Int32)), (.int ((p0.toUInt32 >>> ((1 : Int32) &&& 31).toUInt32).toInt32))])
    refine Go.step (fun _ zz => XS.iand X1.here hx rfl (hb hby at_33) rfl zz) ?_
    show Go _ _ _ _ T1 (mkF m 34 #[.val (.int p0), .val (.int p1), .val (.int p2), .val (.int p3), .val (.int (0 : Int32)), .val (.ref (w 0)), .unset, .unset, .unset, .unset, .unset, .unset] [(.int (((p0.toUInt32 >>> ((1 : Int32) &&& 31).toUInt32).toInt32) &&& (3 : Int32)))])
    refine Go.step (fun _ zz => XS.istore X1.here hx rfl (hb hby at_34) rfl (l' := #[.val (.int p0), .val (.int p1), .val (.int p2), .val (.int p3), .val (.int (0 : Int32)), .val (.ref (w 0)), .val (.int (((p0.toUInt32 >>> ((1 : Int32) &&& 31).toUInt32).toInt32) &&& (3 : Int32))), .unset, .unset, .unset, .unset, .unset]) rfl zz) ?_
    show Go _ _ _ _ T1 (mkF m 36 #[.val (.int p0), .val (.int p1), .val (.int p2), .val (.int p3), .val (.int (0 : Int32)), .val (.ref (w 0)), .val (.int (((p0.toUInt32 >>> ((1 : Int32) &&& 31).toUInt32).toInt32) &&& (3 : Int32))), .unset, .unset, .unset, .unset, .unset] [])
    refine Go.step (fun _ zz => XS.iloadN X1.here hx rfl (hb hby at_36) rfl zz) ?_
    show Go _ _ _ _ T1 (mkF m 37 #[.val (.int p0), .val (.int p1), .val (.int p2), .val (.int p3), .val (.int (0 : Int32)), .val (.ref (w 0)), .val (.int (((p0.toUInt32 >>> ((1 : Int32) &&& 31).toUInt32).toInt32) &&& (3 : Int32))), .unset, .unset, .unset, .unset, .unset] [(.int p0)])
    refine Go.step (fun _ zz => XS.iconst X1.here hx rfl (hb hby at_37) zz) ?_
    show Go _ _ _ _ T1 (mkF m 38 #[.val (.int p0), .val (.int p1), .val (.int p2), .val (.int p3), .val (.int (0 : Int32)), .val (.ref (w 0)), .val (.int (((p0.toUInt32 >>> ((1 : Int32) &&& 31).toUInt32).toInt32) &&& (3 : Int32))), .unset, .unset, .unset, .unset, .unset] [(.int (3 : Int32)), (.int p0)])
    refine Go.step (fun _ zz => XS.iushr X1.here hx rfl (hb hby at_38) rfl zz) ?_
    show Go _ _ _ _ T1 (mkF m 39 #[.val (.int p0), .val (.int p1), .val (.int p2), .val (.int p3), .val (.int (0 : Int32)), .val (.ref (w 0)), .val (.int (((p0.toUInt32 >>> ((1 : Int32) &&& 31).toUInt32).toInt32) &&& (3 : Int32))), .unset, .unset, .unset, .unset, .unset] [(.int ((p0.toUInt32 >>> ((3 : Int32) &&& 31).toUInt32).toInt32))])
    refine Go.step (fun _ zz => XS.bipush X1.here hx rfl (hb hby at_39) zz) ?_
    show Go _ _ _ _ T1 (mkF m 41 #[.val (.int p0), .val (.int p1), .val (.int p2), .val (.int p3), .val (.int (0 : Int32)), .val (.ref (w 0)), .val (.int (((p0.toUInt32 >>> ((1 : Int32) &&& 31).toUInt32).toInt32) &&& (3 : Int32))), .unset, .unset, .unset, .unset, .unset] [(.int (7 : Int32)), (.int ((p0.toUInt32 >>> ((3 : Int32) &&& 31).toUInt32).toInt32))])
    refine Go.step (fun _ zz => XS.iand X1.here hx rfl (hb hby at_41) rfl zz) ?_
    show Go _ _ _ _ T1 (mkF m 42 #[.val (.int p0), .val (.int p1), .val (.int p2), .val (.int p3), .val (.int (0 : Int32)), .val (.ref (w 0)), .val (.int (((p0.toUInt32 >>> ((1 : Int32) &&& 31).toUInt32).toInt32) &&& (3 : Int32))), .unset, .unset, .unset, .unset, .unset] [(.int (((p0.toUInt32 >>> ((3 : Int32) &&& 31).toUInt32).toInt32) &&& (7 : Int32)))])
    refine Go.step (fun _ zz => XS.iconst X1.here hx rfl (hb hby at_42) zz) ?_
    show Go _ _ _ _ T1 (mkF m 43 #[.val (.int p0), .val (.int p1), .val (.int p2), .val (.int p3), .val (.int (0 : Int32)), .val (.ref (w 0)), .val (.int (((p0.toUInt32 >>> ((1 : Int32) &&& 31).toUInt32).toInt32) &&& (3 : Int32))), .unset, .unset, .unset, .unset, .unset] [(.int (5 : Int32)), (.int (((p0.toUInt32 >>> ((3 : Int32) &&& 31).toUInt32).toInt32) &&& (7 : Int32)))])
    refine Go.step (fun _ zz => XS.iload X1.here hx rfl (hb hby at_43) rfl zz) ?_
    show Go _ _ _ _ T1 (mkF m 45 #[.val (.int p0), .val (.int p1), .val (.int p2), .val (.int p3), .val (.int (0 : Int32)), .val (.ref (w 0)), .val (.int (((p0.toUInt32 >>> ((1 : Int32) &&& 31).toUInt32).toInt32) &&& (3 : Int32))), .unset, .unset, .unset, .unset, .unset] [(.int (((p0.toUInt32 >>> ((1 : Int32) &&& 31).toUInt32).toInt32) &&& (3 : Int32))), (.int (5 : Int32)), (.int (((p0.toUInt32 >>> ((3 : Int32) &&& 31).toUInt32).toInt32) &&& (7 : Int32)))])
    refine Go.step (fun _ zz => XS.isub X1.here hx rfl (hb hby at_45) rfl zz) ?_
    show Go _ _ _ _ T1 (mkF m 46 #[.val (.int p0), .val (.int p1), .val (.int p2), .val (.int p3), .val (.int (0 : Int32)), .val (.ref (w 0)), .val (.int (((p0.toUInt32 >>> ((1 : Int32) &&& 31).toUInt32).toInt32) &&& (3 : Int32))), .unset, .unset, .unset, .unset, .unset] [(.int ((5 : Int32) - (((p0.toUInt32 >>> ((1 : Int32) &&& 31).toUInt32).toInt32) &&& (3 : Int32)))), (.int (((p0.toUInt32 >>> ((3 : Int32) &&& 31).toUInt32).toInt32) &&& (7 : Int32)))])
    refine Go.step (fun _ zz => iremM X1 hx rfl (hb hby at_46) rfl (own_ok ((p0.toUInt32 >>> ((1 : Int32) &&& 31).toUInt32).toInt32) ((p0.toUInt32 >>> ((3 : Int32) &&& 31).toUInt32).toInt32)).1 zz) ?_
    show Go _ _ _ _ T1 (mkF m 47 #[.val (.int p0), .val (.int p1), .val (.int p2), .val (.int p3), .val (.int (0 : Int32)), .val (.ref (w 0)), .val (.int (((p0.toUInt32 >>> ((1 : Int32) &&& 31).toUInt32).toInt32) &&& (3 : Int32))), .unset, .unset, .unset, .unset, .unset] [(.int ((((p0.toUInt32 >>> ((3 : Int32) &&& 31).toUInt32).toInt32) &&& (7 : Int32)) % ((5 : Int32) - (((p0.toUInt32 >>> ((1 : Int32) &&& 31).toUInt32).toInt32) &&& (3 : Int32)))))])
    refine Go.step (fun _ zz => XS.istore X1.here hx rfl (hb hby at_47) rfl (l' := #[.val (.int p0), .val (.int p1), .val (.int p2), .val (.int p3), .val (.int (0 : Int32)), .val (.ref (w 0)), .val (.int (((p0.toUInt32 >>> ((1 : Int32) &&& 31).toUInt32).toInt32) &&& (3 : Int32))), .val (.int ((((p0.toUInt32 >>> ((3 : Int32) &&& 31).toUInt32).toInt32) &&& (7 : Int32)) % ((5 : Int32) - (((p0.toUInt32 >>> ((1 : Int32) &&& 31).toUInt32).toInt32) &&& (3 : Int32))))), .unset, .unset, .unset, .unset]) rfl zz) ?_
    show Go _ _ _ _ T1 (mkF m 49 #[.val (.int p0), .val (.int p1), .val (.int p2), .val (.int p3), .val (.int (0 : Int32)), .val (.ref (w 0)), .val (.int (((p0.toUInt32 >>> ((1 : Int32) &&& 31).toUInt32).toInt32) &&& (3 : Int32))), .val (.int ((((p0.toUInt32 >>> ((3 : Int32) &&& 31).toUInt32).toInt32) &&& (7 : Int32)) % ((5 : Int32) - (((p0.toUInt32 >>> ((1 : Int32) &&& 31).toUInt32).toInt32) &&& (3 : Int32))))), .unset, .unset, .unset, .unset] [])
    obtain ⟨-, o, k, ho, hk, hok⟩ := own_ok ((p0.toUInt32 >>> ((1 : Int32) &&& 31).toUInt32).toInt32) ((p0.toUInt32 >>> ((3 : Int32) &&& 31).toUInt32).toInt32)
    rw [hk, ho]
    show Go _ _ _ _ T1 (mkF m 49 #[.val (.int p0), .val (.int p1), .val (.int p2), .val (.int p3), .val (.int (0 : Int32)), .val (.ref (w 0)), .val (.int (Int32.ofNat o)), .val (.int (Int32.ofNat k)), .unset, .unset, .unset, .unset] [])
    refine Go.step (fun _ zz => XS.iconst X1.here hx rfl (hb hby at_49) zz) ?_
    show Go _ _ _ _ T1 (mkF m 50 #[.val (.int p0), .val (.int p1), .val (.int p2), .val (.int p3), .val (.int (0 : Int32)), .val (.ref (w 0)), .val (.int (Int32.ofNat o)), .val (.int (Int32.ofNat k)), .unset, .unset, .unset, .unset] [(.int (4 : Int32))])
    obtain ⟨T2, h2, k2, X2, e2, E2, A2, st2⟩ := newP X1 hx hZ (hw _ (List.mem_of_getElem? (i := 3) rfl)) e1 (g := (mkF m 50 #[.val (.int p0), .val (.int p1), .val (.int p2), .val (.int p3), .val (.int (0 : Int32)), .val (.ref (w 0)), .val (.int (Int32.ofNat o)), .val (.int (Int32.ofNat k)), .unset, .unset, .unset, .unset] [(.int (4 : Int32))])) rfl (hb hby at_50) rfl (by decide) (cap := 4) (by decide) (by decide) (by decide) (by decide)
    obtain ⟨b2, g2⟩ : ∃ z, z = h0.size := ⟨_, rfl⟩
    rw [← g2] at A2 st2
    have V2 := Arv.new A2 (by decide)
    have V2p : Arv Z h2 b2 k2 .byte (4 : Int32) [(.int (0 : Int32)), (.int (0 : Int32)), (.int (0 : Int32)), (.int (0 : Int32))] (.int (0 : Int32)) := V2.pad (pad_rep [] (.int (0 : Int32)) 4)
    have g_b2 : n0 ≤ b2 := Nat.le_trans Z0 (Nat.le_of_eq g2.symm)
    have sz_b2 : h0.size ≤ b2 := Nat.le_trans K0.1 (Nat.le_of_eq g2.symm)
    have K2 : Keep h0 h2 [] := K0.ext E2
    refine Go.step st2 ?_
    show Go _ _ _ _ T2 (mkF m 52 #[.val (.int p0), .val (.int p1), .val (.int p2), .val (.int p3), .val (.int (0 : Int32)), .val (.ref (w 0)), .val (.int (Int32.ofNat o)), .val (.int (Int32.ofNat k)), .unset, .unset, .unset, .unset] [(.ref b2)])
    refine Go.step (fun _ zz => XS.astore X2.here hx rfl (hb hby at_52) rfl rfl (l' := #[.val (.int p0), .val (.int p1), .val (.int p2), .val (.int p3), .val (.int (0 : Int32)), .val (.ref (w 0)), .val (.int (Int32.ofNat o)), .val (.int (Int32.ofNat k)), .val (.ref b2), .unset, .unset, .unset]) rfl zz) ?_
    show Go _ _ _ _ T2 (mkF m 54 #[.val (.int p0), .val (.int p1), .val (.int p2), .val (.int p3), .val (.int (0 : Int32)), .val (.ref (w 0)), .val (.int (Int32.ofNat o)), .val (.int (Int32.ofNat k)), .val (.ref b2), .unset, .unset, .unset] [])
    refine Go.step (fun _ zz => XS.aload X2.here hx rfl (hb hby at_54) rfl rfl zz) ?_
    show Go _ _ _ _ T2 (mkF m 56 #[.val (.int p0), .val (.int p1), .val (.int p2), .val (.int p3), .val (.int (0 : Int32)), .val (.ref (w 0)), .val (.int (Int32.ofNat o)), .val (.int (Int32.ofNat k)), .val (.ref b2), .unset, .unset, .unset] [(.ref b2)])
    refine Go.step (fun _ zz => XS.iconst X2.here hx rfl (hb hby at_56) zz) ?_
    show Go _ _ _ _ T2 (mkF m 57 #[.val (.int p0), .val (.int p1), .val (.int p2), .val (.int p3), .val (.int (0 : Int32)), .val (.ref (w 0)), .val (.int (Int32.ofNat o)), .val (.int (Int32.ofNat k)), .val (.ref b2), .unset, .unset, .unset] [(.int (0 : Int32)), (.ref b2)])
    refine Go.step (fun _ zz => XS.iloadN X2.here hx rfl (hb hby at_57) rfl zz) ?_
    show Go _ _ _ _ T2 (mkF m 58 #[.val (.int p0), .val (.int p1), .val (.int p2), .val (.int p3), .val (.int (0 : Int32)), .val (.ref (w 0)), .val (.int (Int32.ofNat o)), .val (.int (Int32.ofNat k)), .val (.ref b2), .unset, .unset, .unset] [(.int p2), (.int (0 : Int32)), (.ref b2)])
    refine Go.step (fun _ zz => XS.i2b X2.here hx rfl (hb hby at_58) rfl zz) ?_
    show Go _ _ _ _ T2 (mkF m 59 #[.val (.int p0), .val (.int p1), .val (.int p2), .val (.int p3), .val (.int (0 : Int32)), .val (.ref (w 0)), .val (.int (Int32.ofNat o)), .val (.int (Int32.ofNat k)), .val (.ref b2), .unset, .unset, .unset] [(.int (p2.toInt8.toInt32)), (.int (0 : Int32)), (.ref b2)])
    obtain ⟨c3, Ar3, q3, S3, M3, H3, G3⟩ := id V2p
    have hin3 : ¬ ((0 : Int32) < 0 ∨ c3.slots.size ≤ ((0 : Int32)).toNatClampNeg) := inb_of S3 ⟨by decide, by decide⟩
    obtain ⟨T4, h4, X4, e4, W4, st4⟩ := stB X2 hx hZ e2 Ar3 (j := (0 : Int32)) hin3 (g := (mkF m 59 #[.val (.int p0), .val (.int p1), .val (.int p2), .val (.int p3), .val (.int (0 : Int32)), .val (.ref (w 0)), .val (.int (Int32.ofNat o)), .val (.int (Int32.ofNat k)), .val (.ref b2), .unset, .unset, .unset] [(.int (p2.toInt8.toInt32)), (.int (0 : Int32)), (.ref b2)])) rfl rfl (hb hby at_59)
    have V4 := Arv.set Ar3 q3 S3 M3 H3 G3 (fits_nar_byte _) W4 0 rfl (Nat.le_of_ble_eq_true rfl)
    have N4 := Fr.snoc X4 N0 g_b2
    have K4 : Keep h0 h4 [] := K2.wr W4 (Or.inr sz_b2)
    refine Go.step st4 ?_
    show Go _ _ _ _ T4 (mkF m 60 #[.val (.int p0), .val (.int p1), .val (.int p2), .val (.int p3), .val (.int (0 : Int32)), .val (.ref (w 0)), .val (.int (Int32.ofNat o)), .val (.int (Int32.ofNat k)), .val (.ref b2), .unset, .unset, .unset] [])
    refine Go.step (fun _ zz => XS.aload X4.here hx rfl (hb hby at_60) rfl rfl zz) ?_
    show Go _ _ _ _ T4 (mkF m 62 #[.val (.int p0), .val (.int p1), .val (.int p2), .val (.int p3), .val (.int (0 : Int32)), .val (.ref (w 0)), .val (.int (Int32.ofNat o)), .val (.int (Int32.ofNat k)), .val (.ref b2), .unset, .unset, .unset] [(.ref b2)])
    refine Go.step (fun _ zz => XS.iconst X4.here hx rfl (hb hby at_62) zz) ?_
    show Go _ _ _ _ T4 (mkF m 63 #[.val (.int p0), .val (.int p1), .val (.int p2), .val (.int p3), .val (.int (0 : Int32)), .val (.ref (w 0)), .val (.int (Int32.ofNat o)), .val (.int (Int32.ofNat k)), .val (.ref b2), .unset, .unset, .unset] [(.int (1 : Int32)), (.ref b2)])
    refine Go.step (fun _ zz => XS.iloadN X4.here hx rfl (hb hby at_63) rfl zz) ?_
    show Go _ _ _ _ T4 (mkF m 64 #[.val (.int p0), .val (.int p1), .val (.int p2), .val (.int p3), .val (.int (0 : Int32)), .val (.ref (w 0)), .val (.int (Int32.ofNat o)), .val (.int (Int32.ofNat k)), .val (.ref b2), .unset, .unset, .unset] [(.int p2), (.int (1 : Int32)), (.ref b2)])
    refine Go.step (fun _ zz => XS.bipush X4.here hx rfl (hb hby at_64) zz) ?_
    show Go _ _ _ _ T4 (mkF m 66 #[.val (.int p0), .val (.int p1), .val (.int p2), .val (.int p3), .val (.int (0 : Int32)), .val (.ref (w 0)), .val (.int (Int32.ofNat o)), .val (.int (Int32.ofNat k)), .val (.ref b2), .unset, .unset, .unset] [(.int (8 : Int32)), (.int p2), (.int (1 : Int32)), (.ref b2)])
    refine Go.step (fun _ zz => XS.iushr X4.here hx rfl (hb hby at_66) rfl zz) ?_
    show Go _ _ _ _ T4 (mkF m 67 #[.val (.int p0), .val (.int p1), .val (.int p2), .val (.int p3), .val (.int (0 : Int32)), .val (.ref (w 0)), .val (.int (Int32.ofNat o)), .val (.int (Int32.ofNat k)), .val (.ref b2), .unset, .unset, .unset] [(.int ((p2.toUInt32 >>> ((8 : Int32) &&& 31).toUInt32).toInt32)), (.int (1 : Int32)), (.ref b2)])
    refine Go.step (fun _ zz => XS.i2b X4.here hx rfl (hb hby at_67) rfl zz) ?_
    show Go _ _ _ _ T4 (mkF m 68 #[.val (.int p0), .val (.int p1), .val (.int p2), .val (.int p3), .val (.int (0 : Int32)), .val (.ref (w 0)), .val (.int (Int32.ofNat o)), .val (.int (Int32.ofNat k)), .val (.ref b2), .unset, .unset, .unset] [(.int (((p2.toUInt32 >>> ((8 : Int32) &&& 31).toUInt32).toInt32).toInt8.toInt32)), (.int (1 : Int32)), (.ref b2)])
    obtain ⟨c5, Ar5, q5, S5, M5, H5, G5⟩ := id V4
    have hin5 : ¬ ((1 : Int32) < 0 ∨ c5.slots.size ≤ ((1 : Int32)).toNatClampNeg) := inb_of S5 ⟨by decide, by decide⟩
    obtain ⟨T6, h6, X6, e6, W6, st6⟩ := stB X4 hx hZ e4 Ar5 (j := (1 : Int32)) hin5 (g := (mkF m 68 #[.val (.int p0), .val (.int p1), .val (.int p2), .val (.int p3), .val (.int (0 : Int32)), .val (.ref (w 0)), .val (.int (Int32.ofNat o)), .val (.int (Int32.ofNat k)), .val (.ref b2), .unset, .unset, .unset] [(.int (((p2.toUInt32 >>> ((8 : Int32) &&& 31).toUInt32).toInt32).toInt8.toInt32)), (.int (1 : Int32)), (.ref b2)])) rfl rfl (hb hby at_68)
    have V6 := Arv.set Ar5 q5 S5 M5 H5 G5 (fits_nar_byte _) W6 1 rfl (Nat.le_of_ble_eq_true rfl)
    have N6 := Fr.snoc X6 N4 g_b2
    have K6 : Keep h0 h6 [] := K4.wr W6 (Or.inr sz_b2)
    refine Go.step st6 ?_
    show Go _ _ _ _ T6 (mkF m 69 #[.val (.int p0), .val (.int p1), .val (.int p2), .val (.int p3), .val (.int (0 : Int32)), .val (.ref (w 0)), .val (.int (Int32.ofNat o)), .val (.int (Int32.ofNat k)), .val (.ref b2), .unset, .unset, .unset] [])
    refine Go.step (fun _ zz => XS.aload X6.here hx rfl (hb hby at_69) rfl rfl zz) ?_
    show Go _ _ _ _ T6 (mkF m 71 #[.val (.int p0), .val (.int p1), .val (.int p2), .val (.int p3), .val (.int (0 : Int32)), .val (.ref (w 0)), .val (.int (Int32.ofNat o)), .val (.int (Int32.ofNat k)), .val (.ref b2), .unset, .unset, .unset] [(.ref b2)])
    refine Go.step (fun _ zz => XS.iconst X6.here hx rfl (hb hby at_71) zz) ?_
    show Go _ _ _ _ T6 (mkF m 72 #[.val (.int p0), .val (.int p1), .val (.int p2), .val (.int p3), .val (.int (0 : Int32)), .val (.ref (w 0)), .val (.int (Int32.ofNat o)), .val (.int (Int32.ofNat k)), .val (.ref b2), .unset, .unset, .unset] [(.int (2 : Int32)), (.ref b2)])
    refine Go.step (fun _ zz => XS.iloadN X6.here hx rfl (hb hby at_72) rfl zz) ?_
    show Go _ _ _ _ T6 (mkF m 73 #[.val (.int p0), .val (.int p1), .val (.int p2), .val (.int p3), .val (.int (0 : Int32)), .val (.ref (w 0)), .val (.int (Int32.ofNat o)), .val (.int (Int32.ofNat k)), .val (.ref b2), .unset, .unset, .unset] [(.int p2), (.int (2 : Int32)), (.ref b2)])
    refine Go.step (fun _ zz => XS.bipush X6.here hx rfl (hb hby at_73) zz) ?_
    show Go _ _ _ _ T6 (mkF m 75 #[.val (.int p0), .val (.int p1), .val (.int p2), .val (.int p3), .val (.int (0 : Int32)), .val (.ref (w 0)), .val (.int (Int32.ofNat o)), .val (.int (Int32.ofNat k)), .val (.ref b2), .unset, .unset, .unset] [(.int (16 : Int32)), (.int p2), (.int (2 : Int32)), (.ref b2)])
    refine Go.step (fun _ zz => XS.iushr X6.here hx rfl (hb hby at_75) rfl zz) ?_
    show Go _ _ _ _ T6 (mkF m 76 #[.val (.int p0), .val (.int p1), .val (.int p2), .val (.int p3), .val (.int (0 : Int32)), .val (.ref (w 0)), .val (.int (Int32.ofNat o)), .val (.int (Int32.ofNat k)), .val (.ref b2), .unset, .unset, .unset] [(.int ((p2.toUInt32 >>> ((16 : Int32) &&& 31).toUInt32).toInt32)), (.int (2 : Int32)), (.ref b2)])
    refine Go.step (fun _ zz => XS.i2b X6.here hx rfl (hb hby at_76) rfl zz) ?_
    show Go _ _ _ _ T6 (mkF m 77 #[.val (.int p0), .val (.int p1), .val (.int p2), .val (.int p3), .val (.int (0 : Int32)), .val (.ref (w 0)), .val (.int (Int32.ofNat o)), .val (.int (Int32.ofNat k)), .val (.ref b2), .unset, .unset, .unset] [(.int (((p2.toUInt32 >>> ((16 : Int32) &&& 31).toUInt32).toInt32).toInt8.toInt32)), (.int (2 : Int32)), (.ref b2)])
    obtain ⟨c7, Ar7, q7, S7, M7, H7, G7⟩ := id V6
    have hin7 : ¬ ((2 : Int32) < 0 ∨ c7.slots.size ≤ ((2 : Int32)).toNatClampNeg) := inb_of S7 ⟨by decide, by decide⟩
    obtain ⟨T8, h8, X8, e8, W8, st8⟩ := stB X6 hx hZ e6 Ar7 (j := (2 : Int32)) hin7 (g := (mkF m 77 #[.val (.int p0), .val (.int p1), .val (.int p2), .val (.int p3), .val (.int (0 : Int32)), .val (.ref (w 0)), .val (.int (Int32.ofNat o)), .val (.int (Int32.ofNat k)), .val (.ref b2), .unset, .unset, .unset] [(.int (((p2.toUInt32 >>> ((16 : Int32) &&& 31).toUInt32).toInt32).toInt8.toInt32)), (.int (2 : Int32)), (.ref b2)])) rfl rfl (hb hby at_77)
    have V8 := Arv.set Ar7 q7 S7 M7 H7 G7 (fits_nar_byte _) W8 2 rfl (Nat.le_of_ble_eq_true rfl)
    have N8 := Fr.snoc X8 N6 g_b2
    have K8 : Keep h0 h8 [] := K6.wr W8 (Or.inr sz_b2)
    refine Go.step st8 ?_
    show Go _ _ _ _ T8 (mkF m 78 #[.val (.int p0), .val (.int p1), .val (.int p2), .val (.int p3), .val (.int (0 : Int32)), .val (.ref (w 0)), .val (.int (Int32.ofNat o)), .val (.int (Int32.ofNat k)), .val (.ref b2), .unset, .unset, .unset] [])
    refine Go.step (fun _ zz => XS.aload X8.here hx rfl (hb hby at_78) rfl rfl zz) ?_
    show Go _ _ _ _ T8 (mkF m 80 #[.val (.int p0), .val (.int p1), .val (.int p2), .val (.int p3), .val (.int (0 : Int32)), .val (.ref (w 0)), .val (.int (Int32.ofNat o)), .val (.int (Int32.ofNat k)), .val (.ref b2), .unset, .unset, .unset] [(.ref b2)])
    refine Go.step (fun _ zz => XS.iconst X8.here hx rfl (hb hby at_80) zz) ?_
    show Go _ _ _ _ T8 (mkF m 81 #[.val (.int p0), .val (.int p1), .val (.int p2), .val (.int p3), .val (.int (0 : Int32)), .val (.ref (w 0)), .val (.int (Int32.ofNat o)), .val (.int (Int32.ofNat k)), .val (.ref b2), .unset, .unset, .unset] [(.int (3 : Int32)), (.ref b2)])
    refine Go.step (fun _ zz => XS.iloadN X8.here hx rfl (hb hby at_81) rfl zz) ?_
    show Go _ _ _ _ T8 (mkF m 82 #[.val (.int p0), .val (.int p1), .val (.int p2), .val (.int p3), .val (.int (0 : Int32)), .val (.ref (w 0)), .val (.int (Int32.ofNat o)), .val (.int (Int32.ofNat k)), .val (.ref b2), .unset, .unset, .unset] [(.int p2), (.int (3 : Int32)), (.ref b2)])
    refine Go.step (fun _ zz => XS.bipush X8.here hx rfl (hb hby at_82) zz) ?_
    show Go _ _ _ _ T8 (mkF m 84 #[.val (.int p0), .val (.int p1), .val (.int p2), .val (.int p3), .val (.int (0 : Int32)), .val (.ref (w 0)), .val (.int (Int32.ofNat o)), .val (.int (Int32.ofNat k)), .val (.ref b2), .unset, .unset, .unset] [(.int (24 : Int32)), (.int p2), (.int (3 : Int32)), (.ref b2)])
    refine Go.step (fun _ zz => XS.iushr X8.here hx rfl (hb hby at_84) rfl zz) ?_
    show Go _ _ _ _ T8 (mkF m 85 #[.val (.int p0), .val (.int p1), .val (.int p2), .val (.int p3), .val (.int (0 : Int32)), .val (.ref (w 0)), .val (.int (Int32.ofNat o)), .val (.int (Int32.ofNat k)), .val (.ref b2), .unset, .unset, .unset] [(.int ((p2.toUInt32 >>> ((24 : Int32) &&& 31).toUInt32).toInt32)), (.int (3 : Int32)), (.ref b2)])
    refine Go.step (fun _ zz => XS.i2b X8.here hx rfl (hb hby at_85) rfl zz) ?_
    show Go _ _ _ _ T8 (mkF m 86 #[.val (.int p0), .val (.int p1), .val (.int p2), .val (.int p3), .val (.int (0 : Int32)), .val (.ref (w 0)), .val (.int (Int32.ofNat o)), .val (.int (Int32.ofNat k)), .val (.ref b2), .unset, .unset, .unset] [(.int (((p2.toUInt32 >>> ((24 : Int32) &&& 31).toUInt32).toInt32).toInt8.toInt32)), (.int (3 : Int32)), (.ref b2)])
    obtain ⟨c9, Ar9, q9, S9, M9, H9, G9⟩ := id V8
    have hin9 : ¬ ((3 : Int32) < 0 ∨ c9.slots.size ≤ ((3 : Int32)).toNatClampNeg) := inb_of S9 ⟨by decide, by decide⟩
    obtain ⟨T10, h10, X10, e10, W10, st10⟩ := stB X8 hx hZ e8 Ar9 (j := (3 : Int32)) hin9 (g := (mkF m 86 #[.val (.int p0), .val (.int p1), .val (.int p2), .val (.int p3), .val (.int (0 : Int32)), .val (.ref (w 0)), .val (.int (Int32.ofNat o)), .val (.int (Int32.ofNat k)), .val (.ref b2), .unset, .unset, .unset] [(.int (((p2.toUInt32 >>> ((24 : Int32) &&& 31).toUInt32).toInt32).toInt8.toInt32)), (.int (3 : Int32)), (.ref b2)])) rfl rfl (hb hby at_86)
    have V10 := Arv.set Ar9 q9 S9 M9 H9 G9 (fits_nar_byte _) W10 3 rfl (Nat.le_of_ble_eq_true rfl)
    have N10 := Fr.snoc X10 N8 g_b2
    have K10 : Keep h0 h10 [] := K8.wr W10 (Or.inr sz_b2)
    refine Go.step st10 ?_
    show Go _ _ _ _ T10 (mkF m 87 #[.val (.int p0), .val (.int p1), .val (.int p2), .val (.int p3), .val (.int (0 : Int32)), .val (.ref (w 0)), .val (.int (Int32.ofNat o)), .val (.int (Int32.ofNat k)), .val (.ref b2), .unset, .unset, .unset] [])
    refine Go.step (fun _ zz => XS.aload X10.here hx rfl (hb hby at_87) rfl rfl zz) ?_
    show Go _ _ _ _ T10 (mkF m 89 #[.val (.int p0), .val (.int p1), .val (.int p2), .val (.int p3), .val (.int (0 : Int32)), .val (.ref (w 0)), .val (.int (Int32.ofNat o)), .val (.int (Int32.ofNat k)), .val (.ref b2), .unset, .unset, .unset] [(.ref b2)])
    refine Go.step (fun _ zz => XS.iconst X10.here hx rfl (hb hby at_89) zz) ?_
    show Go _ _ _ _ T10 (mkF m 90 #[.val (.int p0), .val (.int p1), .val (.int p2), .val (.int p3), .val (.int (0 : Int32)), .val (.ref (w 0)), .val (.int (Int32.ofNat o)), .val (.int (Int32.ofNat k)), .val (.ref b2), .unset, .unset, .unset] [(.int (0 : Int32)), (.ref b2)])
    refine Go.step (fun _ zz => XS.iload X10.here hx rfl (hb hby at_90) rfl zz) ?_
    show Go _ _ _ _ T10 (mkF m 92 #[.val (.int p0), .val (.int p1), .val (.int p2), .val (.int p3), .val (.int (0 : Int32)), .val (.ref (w 0)), .val (.int (Int32.ofNat o)), .val (.int (Int32.ofNat k)), .val (.ref b2), .unset, .unset, .unset] [(.int (Int32.ofNat o)), (.int (0 : Int32)), (.ref b2)])
    refine Go.step (fun _ zz => XS.iload X10.here hx rfl (hb hby at_92) rfl zz) ?_
    show Go _ _ _ _ T10 (mkF m 94 #[.val (.int p0), .val (.int p1), .val (.int p2), .val (.int p3), .val (.int (0 : Int32)), .val (.ref (w 0)), .val (.int (Int32.ofNat o)), .val (.int (Int32.ofNat k)), .val (.ref b2), .unset, .unset, .unset] [(.int (Int32.ofNat k)), (.int (Int32.ofNat o)), (.int (0 : Int32)), (.ref b2)])
    obtain ⟨_, _, ⟨T11, L11, k11, n11⟩, -, X11, ⟨Lc11, hQ11, l11, y11, z11⟩, st11⟩ := Jvm.LawKit.callS X10 hx (y := (⟨"com/example/assayline/assayline/wire/AstmChecksumOfPinLaw", "part", "([BIII)I"⟩ : MethodName)) hown (mvT hZ (hw _ (List.mem_of_getElem? (i := 4) rfl))) (mvT hZ (hw _ (List.mem_of_getElem? (i := 5) rfl))) (mvT hZ (hw _ (List.mem_of_getElem? (i := 6) rfl))) (mvT hZ (hw _ (List.mem_of_getElem? (i := 7) rfl))) (by decide) (backOf (W := 0) (rm1 l Z a0 hw [] b2 0 (Int32.ofNat o) (Int32.ofNat k) (own_b p2) k2 h10 n0 (Nat.le_trans (Nat.le_trans (Nat.le_trans (Nat.le_trans (Nat.le_trans Z0 E2.1) (Keep.of_wr W4).1) (Keep.of_wr W6).1) (Keep.of_wr W8).1) (Keep.of_wr W10).1) (by decide) V10) hZ (hw _ (List.mem_of_getElem? (i := 7) rfl)) (hw _ (List.mem_of_getElem? (i := 6) rfl)) (by decide) (by decide)) (g := (mkF m 94 #[.val (.int p0), .val (.int p1), .val (.int p2), .val (.int p3), .val (.int (0 : Int32)), .val (.ref (w 0)), .val (.int (Int32.ofNat o)), .val (.int (Int32.ofNat k)), .val (.ref b2), .unset, .unset, .unset] [(.int (Int32.ofNat k)), (.int (Int32.ofNat o)), (.int (0 : Int32)), (.ref b2)])) rfl (by rw [hml]; rfl) (argsL := [(.ref b2), (.int (0 : Int32)), (.int (Int32.ofNat o)), (.int (Int32.ofNat k))]) (rest := []) (lenOf own_pd2 rfl) rfl (by show 2 * 0 + _ ≤ _; exact Nat.le_of_eq rfl) (hb hby at_94) (fun _ _ => ⟨rfl, e10, (by decide : 1 + 0 ≤ _), (by decide : 4 + 0 ≤ _)⟩)
    dsimp only [Pt.U, Pt.locs, Pt.cells, Pt.slots] at X11 l11 y11 z11 st11 hQ11
    subst l11 y11 z11
    obtain ⟨rfl, N11q, e11⟩ := hQ11
    have N11 := Fr.app N10 N11q
    refine Go.step st11 ?_
    show Go _ _ _ _ T11 (mkF m 97 #[.val (.int p0), .val (.int p1), .val (.int p2), .val (.int p3), .val (.int (0 : Int32)), .val (.ref (w 0)), .val (.int (Int32.ofNat o)), .val (.int (Int32.ofNat k)), .val (.ref b2), .unset, .unset, .unset] [(.int (own_part (own_b p2) 0 (Int32.ofNat o) (Int32.ofNat k)))])
    refine Go.step (fun _ zz => XS.aload X11.here hx rfl (hb hby at_97) rfl rfl zz) ?_
    show Go _ _ _ _ T11 (mkF m 99 #[.val (.int p0), .val (.int p1), .val (.int p2), .val (.int p3), .val (.int (0 : Int32)), .val (.ref (w 0)), .val (.int (Int32.ofNat o)), .val (.int (Int32.ofNat k)), .val (.ref b2), .unset, .unset, .unset] [(.ref b2), (.int (own_part (own_b p2) 0 (Int32.ofNat o) (Int32.ofNat k)))])
    refine Go.step (fun _ zz => XS.iconst X11.here hx rfl (hb hby at_99) zz) ?_
    show Go _ _ _ _ T11 (mkF m 100 #[.val (.int p0), .val (.int p1), .val (.int p2), .val (.int p3), .val (.int (0 : Int32)), .val (.ref (w 0)), .val (.int (Int32.ofNat o)), .val (.int (Int32.ofNat k)), .val (.ref b2), .unset, .unset, .unset] [(.int (1 : Int32)), (.ref b2), (.int (own_part (own_b p2) 0 (Int32.ofNat o) (Int32.ofNat k)))])
    refine Go.step (fun _ zz => XS.iload X11.here hx rfl (hb hby at_100) rfl zz) ?_
    show Go _ _ _ _ T11 (mkF m 102 #[.val (.int p0), .val (.int p1), .val (.int p2), .val (.int p3), .val (.int (0 : Int32)), .val (.ref (w 0)), .val (.int (Int32.ofNat o)), .val (.int (Int32.ofNat k)), .val (.ref b2), .unset, .unset, .unset] [(.int (Int32.ofNat o)), (.int (1 : Int32)), (.ref b2), (.int (own_part (own_b p2) 0 (Int32.ofNat o) (Int32.ofNat k)))])
    refine Go.step (fun _ zz => XS.iload X11.here hx rfl (hb hby at_102) rfl zz) ?_
    show Go _ _ _ _ T11 (mkF m 104 #[.val (.int p0), .val (.int p1), .val (.int p2), .val (.int p3), .val (.int (0 : Int32)), .val (.ref (w 0)), .val (.int (Int32.ofNat o)), .val (.int (Int32.ofNat k)), .val (.ref b2), .unset, .unset, .unset] [(.int (Int32.ofNat k)), (.int (Int32.ofNat o)), (.int (1 : Int32)), (.ref b2), (.int (own_part (own_b p2) 0 (Int32.ofNat o) (Int32.ofNat k)))])
    obtain ⟨_, _, ⟨T12, L12, k12, n12⟩, -, X12, ⟨Lc12, hQ12, l12, y12, z12⟩, st12⟩ := Jvm.LawKit.callS X11 hx (y := (⟨"com/example/assayline/assayline/wire/AstmChecksumOfPinLaw", "part", "([BIII)I"⟩ : MethodName)) hown (mvT hZ (hw _ (List.mem_of_getElem? (i := 4) rfl))) (mvT hZ (hw _ (List.mem_of_getElem? (i := 5) rfl))) (mvT hZ (hw _ (List.mem_of_getElem? (i := 6) rfl))) (mvT hZ (hw _ (List.mem_of_getElem? (i := 7) rfl))) (by decide) (backOf (W := 1) (rm1 l Z a0 hw [] b2 1 (Int32.ofNat o) (Int32.ofNat k) (own_b p2) k2 h10 n0 (Nat.le_trans (Nat.le_trans (Nat.le_trans (Nat.le_trans (Nat.le_trans Z0 E2.1) (Keep.of_wr W4).1) (Keep.of_wr W6).1) (Keep.of_wr W8).1) (Keep.of_wr W10).1) (by decide) V10) hZ (hw _ (List.mem_of_getElem? (i := 7) rfl)) (hw _ (List.mem_of_getElem? (i := 6) rfl)) (by decide) (by decide)) (g := (mkF m 104 #[.val (.int p0), .val (.int p1), .val (.int p2), .val (.int p3), .val (.int (0 : Int32)), .val (.ref (w 0)), .val (.int (Int32.ofNat o)), .val (.int (Int32.ofNat k)), .val (.ref b2), .unset, .unset, .unset] [(.int (Int32.ofNat k)), (.int (Int32.ofNat o)), (.int (1 : Int32)), (.ref b2), (.int (own_part (own_b p2) 0 (Int32.ofNat o) (Int32.ofNat k)))])) rfl (by rw [hml]; rfl) (argsL := [(.ref b2), (.int (1 : Int32)), (.int (Int32.ofNat o)), (.int (Int32.ofNat k))]) (rest := [(.int (own_part (own_b p2) 0 (Int32.ofNat o) (Int32.ofNat k)))]) (lenOf own_pd2 rfl) rfl (by show 2 * 0 + _ ≤ _; exact Nat.le_of_eq rfl) (hb hby at_104) (fun _ _ => ⟨rfl, e11, (by decide : 1 + 0 ≤ _), (by decide : 4 + 0 ≤ _)⟩)
    dsimp only [Pt.U, Pt.locs, Pt.cells, Pt.slots] at X12 l12 y12 z12 st12 hQ12
    subst l12 y12 z12
    obtain ⟨rfl, N12q, e12⟩ := hQ12
    have N12 := Fr.app N11 N12q
    refine Go.step st12 ?_
    show Go _ _ _ _ T12 (mkF m 107 #[.val (.int p0), .val (.int p1), .val (.int p2), .val (.int p3), .val (.int (0 : Int32)), .val (.ref (w 0)), .val (.int (Int32.ofNat o)), .val (.int (Int32.ofNat k)), .val (.ref b2), .unset, .unset, .unset] [(.int (own_part (own_b p2) 1 (Int32.ofNat o) (Int32.ofNat k))), (.int (own_part (own_b p2) 0 (Int32.ofNat o) (Int32.ofNat k)))])
    refine Go.step (fun _ zz => XS.iadd X12.here hx rfl (hb hby at_107) rfl zz) ?_
    show Go _ _ _ _ T12 (mkF m 108 #[.val (.int p0), .val (.int p1), .val (.int p2), .val (.int p3), .val (.int (0 : Int32)), .val (.ref (w 0)), .val (.int (Int32.ofNat o)), .val (.int (Int32.ofNat k)), .val (.ref b2), .unset, .unset, .unset] [(.int ((own_part (own_b p2) 0 (Int32.ofNat o) (Int32.ofNat k)) + (own_part (own_b p2) 1 (Int32.ofNat o) (Int32.ofNat k))))])
    refine Go.step (fun _ zz => XS.aload X12.here hx rfl (hb hby at_108) rfl rfl zz) ?_
    show Go _ _ _ _ T12 (mkF m 110 #[.val (.int p0), .val (.int p1), .val (.int p2), .val (.int p3), .val (.int (0 : Int32)), .val (.ref (w 0)), .val (.int (Int32.ofNat o)), .val (.int (Int32.ofNat k)), .val (.ref b2), .unset, .unset, .unset] [(.ref b2), (.int ((own_part (own_b p2) 0 (Int32.ofNat o) (Int32.ofNat k)) + (own_part (own_b p2) 1 (Int32.ofNat o) (Int32.ofNat k))))])
    refine Go.step (fun _ zz => XS.iconst X12.here hx rfl (hb hby at_110) zz) ?_
    show Go _ _ _ _ T12 (mkF m 111 #[.val (.int p0), .val (.int p1), .val (.int p2), .val (.int p3), .val (.int (0 : Int32)), .val (.ref (w 0)), .val (.int (Int32.ofNat o)), .val (.int (Int32.ofNat k)), .val (.ref b2), .unset, .unset, .unset] [(.int (2 : Int32)), (.ref b2), (.int ((own_part (own_b p2) 0 (Int32.ofNat o) (Int32.ofNat k)) + (own_part (own_b p2) 1 (Int32.ofNat o) (Int32.ofNat k))))])
    refine Go.step (fun _ zz => XS.iload X12.here hx rfl (hb hby at_111) rfl zz) ?_
    show Go _ _ _ _ T12 (mkF m 113 #[.val (.int p0), .val (.int p1), .val (.int p2), .val (.int p3), .val (.int (0 : Int32)), .val (.ref (w 0)), .val (.int (Int32.ofNat o)), .val (.int (Int32.ofNat k)), .val (.ref b2), .unset, .unset, .unset] [(.int (Int32.ofNat o)), (.int (2 : Int32)), (.ref b2), (.int ((own_part (own_b p2) 0 (Int32.ofNat o) (Int32.ofNat k)) + (own_part (own_b p2) 1 (Int32.ofNat o) (Int32.ofNat k))))])
    refine Go.step (fun _ zz => XS.iload X12.here hx rfl (hb hby at_113) rfl zz) ?_
    show Go _ _ _ _ T12 (mkF m 115 #[.val (.int p0), .val (.int p1), .val (.int p2), .val (.int p3), .val (.int (0 : Int32)), .val (.ref (w 0)), .val (.int (Int32.ofNat o)), .val (.int (Int32.ofNat k)), .val (.ref b2), .unset, .unset, .unset] [(.int (Int32.ofNat k)), (.int (Int32.ofNat o)), (.int (2 : Int32)), (.ref b2), (.int ((own_part (own_b p2) 0 (Int32.ofNat o) (Int32.ofNat k)) + (own_part (own_b p2) 1 (Int32.ofNat o) (Int32.ofNat k))))])
    obtain ⟨_, _, ⟨T13, L13, k13, n13⟩, -, X13, ⟨Lc13, hQ13, l13, y13, z13⟩, st13⟩ := Jvm.LawKit.callS X12 hx (y := (⟨"com/example/assayline/assayline/wire/AstmChecksumOfPinLaw", "part", "([BIII)I"⟩ : MethodName)) hown (mvT hZ (hw _ (List.mem_of_getElem? (i := 4) rfl))) (mvT hZ (hw _ (List.mem_of_getElem? (i := 5) rfl))) (mvT hZ (hw _ (List.mem_of_getElem? (i := 6) rfl))) (mvT hZ (hw _ (List.mem_of_getElem? (i := 7) rfl))) (by decide) (backOf (W := 1) (rm1 l Z a0 hw [] b2 2 (Int32.ofNat o) (Int32.ofNat k) (own_b p2) k2 h10 n0 (Nat.le_trans (Nat.le_trans (Nat.le_trans (Nat.le_trans (Nat.le_trans Z0 E2.1) (Keep.of_wr W4).1) (Keep.of_wr W6).1) (Keep.of_wr W8).1) (Keep.of_wr W10).1) (by decide) V10) hZ (hw _ (List.mem_of_getElem? (i := 7) rfl)) (hw _ (List.mem_of_getElem? (i := 6) rfl)) (by decide) (by decide)) (g := (mkF m 115 #[.val (.int p0), .val (.int p1), .val (.int p2), .val (.int p3), .val (.int (0 : Int32)), .val (.ref (w 0)), .val (.int (Int32.ofNat o)), .val (.int (Int32.ofNat k)), .val (.ref b2), .unset, .unset, .unset] [(.int (Int32.ofNat k)), (.int (Int32.ofNat o)), (.int (2 : Int32)), (.ref b2), (.int ((own_part (own_b p2) 0 (Int32.ofNat o) (Int32.ofNat k)) + (own_part (own_b p2) 1 (Int32.ofNat o) (Int32.ofNat k))))])) rfl (by rw [hml]; rfl) (argsL := [(.ref b2), (.int (2 : Int32)), (.int (Int32.ofNat o)), (.int (Int32.ofNat k))]) (rest := [(.int ((own_part (own_b p2) 0 (Int32.ofNat o) (Int32.ofNat k)) + (own_part (own_b p2) 1 (Int32.ofNat o) (Int32.ofNat k))))]) (lenOf own_pd2 rfl) rfl (by show 2 * 0 + _ ≤ _; exact Nat.le_of_eq rfl) (hb hby at_115) (fun _ _ => ⟨rfl, e12, (by decide : 1 + 0 ≤ _), (by decide : 4 + 0 ≤ _)⟩)
    dsimp only [Pt.U, Pt.locs, Pt.cells, Pt.slots] at X13 l13 y13 z13 st13 hQ13
    subst l13 y13 z13
    obtain ⟨rfl, N13q, e13⟩ := hQ13
    have N13 := Fr.app N12 N13q
    refine Go.step st13 ?_
    show Go _ _ _ _ T13 (mkF m 118 #[.val (.int p0), .val (.int p1), .val (.int p2), .val (.int p3), .val (.int (0 : Int32)), .val (.ref (w 0)), .val (.int (Int32.ofNat o)), .val (.int (Int32.ofNat k)), .val (.ref b2), .unset, .unset, .unset] [(.int (own_part (own_b p2) 2 (Int32.ofNat o) (Int32.ofNat k))), (.int ((own_part (own_b p2) 0 (Int32.ofNat o) (Int32.ofNat k)) + (own_part (own_b p2) 1 (Int32.ofNat o) (Int32.ofNat k))))])
    refine Go.step (fun _ zz => XS.iadd X13.here hx rfl (hb hby at_118) rfl zz) ?_
    show Go _ _ _ _ T13 (mkF m 119 #[.val (.int p0), .val (.int p1), .val (.int p2), .val (.int p3), .val (.int (0 : Int32)), .val (.ref (w 0)), .val (.int (Int32.ofNat o)), .val (.int (Int32.ofNat k)), .val (.ref b2), .unset, .unset, .unset] [(.int (((own_part (own_b p2) 0 (Int32.ofNat o) (Int32.ofNat k)) + (own_part (own_b p2) 1 (Int32.ofNat o) (Int32.ofNat k))) + (own_part (own_b p2) 2 (Int32.ofNat o) (Int32.ofNat k))))])
    refine Go.step (fun _ zz => XS.aload X13.here hx rfl (hb hby at_119) rfl rfl zz) ?_
    show Go _ _ _ _ T13 (mkF m 121 #[.val (.int p0), .val (.int p1), .val (.int p2), .val (.int p3), .val (.int (0 : Int32)), .val (.ref (w 0)), .val (.int (Int32.ofNat o)), .val (.int (Int32.ofNat k)), .val (.ref b2), .unset, .unset, .unset] [(.ref b2), (.int (((own_part (own_b p2) 0 (Int32.ofNat o) (Int32.ofNat k)) + (own_part (own_b p2) 1 (Int32.ofNat o) (Int32.ofNat k))) + (own_part (own_b p2) 2 (Int32.ofNat o) (Int32.ofNat k))))])
    refine Go.step (fun _ zz => XS.iconst X13.here hx rfl (hb hby at_121) zz) ?_
    show Go _ _ _ _ T13 (mkF m 122 #[.val (.int p0), .val (.int p1), .val (.int p2), .val (.int p3), .val (.int (0 : Int32)), .val (.ref (w 0)), .val (.int (Int32.ofNat o)), .val (.int (Int32.ofNat k)), .val (.ref b2), .unset, .unset, .unset] [(.int (3 : Int32)), (.ref b2), (.int (((own_part (own_b p2) 0 (Int32.ofNat o) (Int32.ofNat k)) + (own_part (own_b p2) 1 (Int32.ofNat o) (Int32.ofNat k))) + (own_part (own_b p2) 2 (Int32.ofNat o) (Int32.ofNat k))))])
    refine Go.step (fun _ zz => XS.iload X13.here hx rfl (hb hby at_122) rfl zz) ?_
    show Go _ _ _ _ T13 (mkF m 124 #[.val (.int p0), .val (.int p1), .val (.int p2), .val (.int p3), .val (.int (0 : Int32)), .val (.ref (w 0)), .val (.int (Int32.ofNat o)), .val (.int (Int32.ofNat k)), .val (.ref b2), .unset, .unset, .unset] [(.int (Int32.ofNat o)), (.int (3 : Int32)), (.ref b2), (.int (((own_part (own_b p2) 0 (Int32.ofNat o) (Int32.ofNat k)) + (own_part (own_b p2) 1 (Int32.ofNat o) (Int32.ofNat k))) + (own_part (own_b p2) 2 (Int32.ofNat o) (Int32.ofNat k))))])
    refine Go.step (fun _ zz => XS.iload X13.here hx rfl (hb hby at_124) rfl zz) ?_
    show Go _ _ _ _ T13 (mkF m 126 #[.val (.int p0), .val (.int p1), .val (.int p2), .val (.int p3), .val (.int (0 : Int32)), .val (.ref (w 0)), .val (.int (Int32.ofNat o)), .val (.int (Int32.ofNat k)), .val (.ref b2), .unset, .unset, .unset] [(.int (Int32.ofNat k)), (.int (Int32.ofNat o)), (.int (3 : Int32)), (.ref b2), (.int (((own_part (own_b p2) 0 (Int32.ofNat o) (Int32.ofNat k)) + (own_part (own_b p2) 1 (Int32.ofNat o) (Int32.ofNat k))) + (own_part (own_b p2) 2 (Int32.ofNat o) (Int32.ofNat k))))])
    obtain ⟨_, _, ⟨T14, L14, k14, n14⟩, -, X14, ⟨Lc14, hQ14, l14, y14, z14⟩, st14⟩ := Jvm.LawKit.callS X13 hx (y := (⟨"com/example/assayline/assayline/wire/AstmChecksumOfPinLaw", "part", "([BIII)I"⟩ : MethodName)) hown (mvT hZ (hw _ (List.mem_of_getElem? (i := 4) rfl))) (mvT hZ (hw _ (List.mem_of_getElem? (i := 5) rfl))) (mvT hZ (hw _ (List.mem_of_getElem? (i := 6) rfl))) (mvT hZ (hw _ (List.mem_of_getElem? (i := 7) rfl))) (by decide) (backOf (W := 1) (rm1 l Z a0 hw [] b2 3 (Int32.ofNat o) (Int32.ofNat k) (own_b p2) k2 h10 n0 (Nat.le_trans (Nat.le_trans (Nat.le_trans (Nat.le_trans (Nat.le_trans Z0 E2.1) (Keep.of_wr W4).1) (Keep.of_wr W6).1) (Keep.of_wr W8).1) (Keep.of_wr W10).1) (by decide) V10) hZ (hw _ (List.mem_of_getElem? (i := 7) rfl)) (hw _ (List.mem_of_getElem? (i := 6) rfl)) (by decide) (by decide)) (g := (mkF m 126 #[.val (.int p0), .val (.int p1), .val (.int p2), .val (.int p3), .val (.int (0 : Int32)), .val (.ref (w 0)), .val (.int (Int32.ofNat o)), .val (.int (Int32.ofNat k)), .val (.ref b2), .unset, .unset, .unset] [(.int (Int32.ofNat k)), (.int (Int32.ofNat o)), (.int (3 : Int32)), (.ref b2), (.int (((own_part (own_b p2) 0 (Int32.ofNat o) (Int32.ofNat k)) + (own_part (own_b p2) 1 (Int32.ofNat o) (Int32.ofNat k))) + (own_part (own_b p2) 2 (Int32.ofNat o) (Int32.ofNat k))))])) rfl (by rw [hml]; rfl) (argsL := [(.ref b2), (.int (3 : Int32)), (.int (Int32.ofNat o)), (.int (Int32.ofNat k))]) (rest := [(.int (((own_part (own_b p2) 0 (Int32.ofNat o) (Int32.ofNat k)) + (own_part (own_b p2) 1 (Int32.ofNat o) (Int32.ofNat k))) + (own_part (own_b p2) 2 (Int32.ofNat o) (Int32.ofNat k))))]) (lenOf own_pd2 rfl) rfl (by show 2 * 0 + _ ≤ _; exact Nat.le_of_eq rfl) (hb hby at_126) (fun _ _ => ⟨rfl, e13, (by decide : 1 + 0 ≤ _), (by decide : 4 + 0 ≤ _)⟩)
    dsimp only [Pt.U, Pt.locs, Pt.cells, Pt.slots] at X14 l14 y14 z14 st14 hQ14
    subst l14 y14 z14
    obtain ⟨rfl, N14q, e14⟩ := hQ14
    have N14 := Fr.app N13 N14q
    refine Go.step st14 ?_
    show Go _ _ _ _ T14 (mkF m 129 #[.val (.int p0), .val (.int p1), .val (.int p2), .val (.int p3), .val (.int (0 : Int32)), .val (.ref (w 0)), .val (.int (Int32.ofNat o)), .val (.int (Int32.ofNat k)), .val (.ref b2), .unset, .unset, .unset] [(.int (own_part (own_b p2) 3 (Int32.ofNat o) (Int32.ofNat k))), (.int (((own_part (own_b p2) 0 (Int32.ofNat o) (Int32.ofNat k)) + (own_part (own_b p2) 1 (Int32.ofNat o) (Int32.ofNat k))) + (own_part (own_b p2) 2 (Int32.ofNat o) (Int32.ofNat k))))])
    refine Go.step (fun _ zz => XS.iadd X14.here hx rfl (hb hby at_129) rfl zz) ?_
    show Go _ _ _ _ T14 (mkF m 130 #[.val (.int p0), .val (.int p1), .val (.int p2), .val (.int p3), .val (.int (0 : Int32)), .val (.ref (w 0)), .val (.int (Int32.ofNat o)), .val (.int (Int32.ofNat k)), .val (.ref b2), .unset, .unset, .unset] [(.int ((((own_part (own_b p2) 0 (Int32.ofNat o) (Int32.ofNat k)) + (own_part (own_b p2) 1 (Int32.ofNat o) (Int32.ofNat k))) + (own_part (own_b p2) 2 (Int32.ofNat o) (Int32.ofNat k))) + (own_part (own_b p2) 3 (Int32.ofNat o) (Int32.ofNat k))))])
    refine Go.step (fun _ zz => XS.istore X14.here hx rfl (hb hby at_130) rfl (l' := #[.val (.int p0), .val (.int p1), .val (.int p2), .val (.int p3), .val (.int (0 : Int32)), .val (.ref (w 0)), .val (.int (Int32.ofNat o)), .val (.int (Int32.ofNat k)), .val (.ref b2), .val (.int ((((own_part (own_b p2) 0 (Int32.ofNat o) (Int32.ofNat k)) + (own_part (own_b p2) 1 (Int32.ofNat o) (Int32.ofNat k))) + (own_part (own_b p2) 2 (Int32.ofNat o) (Int32.ofNat k))) + (own_part (own_b p2) 3 (Int32.ofNat o) (Int32.ofNat k)))), .unset, .unset]) rfl zz) ?_
    show Go _ _ _ _ T14 (mkF m 132 #[.val (.int p0), .val (.int p1), .val (.int p2), .val (.int p3), .val (.int (0 : Int32)), .val (.ref (w 0)), .val (.int (Int32.ofNat o)), .val (.int (Int32.ofNat k)), .val (.ref b2), .val (.int ((((own_part (own_b p2) 0 (Int32.ofNat o) (Int32.ofNat k)) + (own_part (own_b p2) 1 (Int32.ofNat o) (Int32.ofNat k))) + (own_part (own_b p2) 2 (Int32.ofNat o) (Int32.ofNat k))) + (own_part (own_b p2) 3 (Int32.ofNat o) (Int32.ofNat k)))), .unset, .unset] [])
    refine Go.step (fun _ zz => XS.iloadN X14.here hx rfl (hb hby at_132) rfl zz) ?_
    show Go _ _ _ _ T14 (mkF m 133 #[.val (.int p0), .val (.int p1), .val (.int p2), .val (.int p3), .val (.int (0 : Int32)), .val (.ref (w 0)), .val (.int (Int32.ofNat o)), .val (.int (Int32.ofNat k)), .val (.ref b2), .val (.int ((((own_part (own_b p2) 0 (Int32.ofNat o) (Int32.ofNat k)) + (own_part (own_b p2) 1 (Int32.ofNat o) (Int32.ofNat k))) + (own_part (own_b p2) 2 (Int32.ofNat o) (Int32.ofNat k))) + (own_part (own_b p2) 3 (Int32.ofNat o) (Int32.ofNat k)))), .unset, .unset] [(.int p1)])
    refine Go.step (fun _ zz => XS.iload X14.here hx rfl (hb hby at_133) rfl zz) ?_
    show Go _ _ _ _ T14 (mkF m 135 #[.val (.int p0), .val (.int p1), .val (.int p2), .val (.int p3), .val (.int (0 : Int32)), .val (.ref (w 0)), .val (.int (Int32.ofNat o)), .val (.int (Int32.ofNat k)), .val (.ref b2), .val (.int ((((own_part (own_b p2) 0 (Int32.ofNat o) (Int32.ofNat k)) + (own_part (own_b p2) 1 (Int32.ofNat o) (Int32.ofNat k))) + (own_part (own_b p2) 2 (Int32.ofNat o) (Int32.ofNat k))) + (own_part (own_b p2) 3 (Int32.ofNat o) (Int32.ofNat k)))), .unset, .unset] [(.int (0 : Int32)), (.int p1)])
    refine Go.step (fun _ zz => XS.ifYes X14.here hx rfl (pc0 := 135) (pc' := 142) rfl (hb hby at_135) rfl ((if0 _ _).trans (teq (by decide)).1) (by decide) (by decide) zz) ?_
    show Go _ _ _ _ T14 (mkF m 142 #[.val (.int p0), .val (.int p1), .val (.int p2), .val (.int p3), .val (.int (0 : Int32)), .val (.ref (w 0)), .val (.int (Int32.ofNat o)), .val (.int (Int32.ofNat k)), .val (.ref b2), .val (.int ((((own_part (own_b p2) 0 (Int32.ofNat o) (Int32.ofNat k)) + (own_part (own_b p2) 1 (Int32.ofNat o) (Int32.ofNat k))) + (own_part (own_b p2) 2 (Int32.ofNat o) (Int32.ofNat k))) + (own_part (own_b p2) 3 (Int32.ofNat o) (Int32.ofNat k)))), .unset, .unset] [(.int p1)])
    refine Go.step (fun _ zz => XS.iconst X14.here hx rfl (hb hby at_142) zz) ?_
    show Go _ _ _ _ T14 (mkF m 143 #[.val (.int p0), .val (.int p1), .val (.int p2), .val (.int p3), .val (.int (0 : Int32)), .val (.ref (w 0)), .val (.int (Int32.ofNat o)), .val (.int (Int32.ofNat k)), .val (.ref b2), .val (.int ((((own_part (own_b p2) 0 (Int32.ofNat o) (Int32.ofNat k)) + (own_part (own_b p2) 1 (Int32.ofNat o) (Int32.ofNat k))) + (own_part (own_b p2) 2 (Int32.ofNat o) (Int32.ofNat k))) + (own_part (own_b p2) 3 (Int32.ofNat o) (Int32.ofNat k)))), .unset, .unset] [(.int (0 : Int32)), (.int p1)])
    refine Go.step (fun _ zz => XS.iadd X14.here hx rfl (hb hby at_143) rfl zz) ?_
    show Go _ _ _ _ T14 (mkF m 144 #[.val (.int p0), .val (.int p1), .val (.int p2), .val (.int p3), .val (.int (0 : Int32)), .val (.ref (w 0)), .val (.int (Int32.ofNat o)), .val (.int (Int32.ofNat k)), .val (.ref b2), .val (.int ((((own_part (own_b p2) 0 (Int32.ofNat o) (Int32.ofNat k)) + (own_part (own_b p2) 1 (Int32.ofNat o) (Int32.ofNat k))) + (own_part (own_b p2) 2 (Int32.ofNat o) (Int32.ofNat k))) + (own_part (own_b p2) 3 (Int32.ofNat o) (Int32.ofNat k)))), .unset, .unset] [(.int (p1 + (0 : Int32)))])
    refine Go.step (fun _ zz => XS.iload X14.here hx rfl (hb hby at_144) rfl zz) ?_
    show Go _ _ _ _ T14 (mkF m 146 #[.val (.int p0), .val (.int p1), .val (.int p2), .val (.int p3), .val (.int (0 : Int32)), .val (.ref (w 0)), .val (.int (Int32.ofNat o)), .val (.int (Int32.ofNat k)), .val (.ref b2), .val (.int ((((own_part (own_b p2) 0 (Int32.ofNat o) (Int32.ofNat k)) + (own_part (own_b p2) 1 (Int32.ofNat o) (Int32.ofNat k))) + (own_part (own_b p2) 2 (Int32.ofNat o) (Int32.ofNat k))) + (own_part (own_b p2) 3 (Int32.ofNat o) (Int32.ofNat k)))), .unset, .unset] [(.int ((((own_part (own_b p2) 0 (Int32.ofNat o) (Int32.ofNat k)) + (own_part (own_b p2) 1 (Int32.ofNat o) (Int32.ofNat k))) + (own_part (own_b p2) 2 (Int32.ofNat o) (Int32.ofNat k))) + (own_part (own_b p2) 3 (Int32.ofNat o) (Int32.ofNat k)))), (.int (p1 + (0 : Int32)))])
    refine Go.step (fun _ zz => XS.iadd X14.here hx rfl (hb hby at_146) rfl zz) ?_
    show Go _ _ _ _ T14 (mkF m 147 #[.val (.int p0), .val (.int p1), .val (.int p2), .val (.int p3), .val (.int (0 : Int32)), .val (.ref (w 0)), .val (.int (Int32.ofNat o)), .val (.int (Int32.ofNat k)), .val (.ref b2), .val (.int ((((own_part (own_b p2) 0 (Int32.ofNat o) (Int32.ofNat k)) + (own_part (own_b p2) 1 (Int32.ofNat o) (Int32.ofNat k))) + (own_part (own_b p2) 2 (Int32.ofNat o) (Int32.ofNat k))) + (own_part (own_b p2) 3 (Int32.ofNat o) (Int32.ofNat k)))), .unset, .unset] [(.int ((p1 + (0 : Int32)) + ((((own_part (own_b p2) 0 (Int32.ofNat o) (Int32.ofNat k)) + (own_part (own_b p2) 1 (Int32.ofNat o) (Int32.ofNat k))) + (own_part (own_b p2) 2 (Int32.ofNat o) (Int32.ofNat k))) + (own_part (own_b p2) 3 (Int32.ofNat o) (Int32.ofNat k)))))])
    refine Go.step (fun _ zz => XS.sipush X14.here hx rfl (hb hby at_147) zz) ?_
    show Go _ _ _ _ T14 (mkF m 150 #[.val (.int p0), .val (.int p1), .val (.int p2), .val (.int p3), .val (.int (0 : Int32)), .val (.ref (w 0)), .val (.int (Int32.ofNat o)), .val (.int (Int32.ofNat k)), .val (.ref b2), .val (.int ((((own_part (own_b p2) 0 (Int32.ofNat o) (Int32.ofNat k)) + (own_part (own_b p2) 1 (Int32.ofNat o) (Int32.ofNat k))) + (own_part (own_b p2) 2 (Int32.ofNat o) (Int32.ofNat k))) + (own_part (own_b p2) 3 (Int32.ofNat o) (Int32.ofNat k)))), .unset, .unset] [(.int (255 : Int32)), (.int ((p1 + (0 : Int32)) + ((((own_part (own_b p2) 0 (Int32.ofNat o) (Int32.ofNat k)) + (own_part (own_b p2) 1 (Int32.ofNat o) (Int32.ofNat k))) + (own_part (own_b p2) 2 (Int32.ofNat o) (Int32.ofNat k))) + (own_part (own_b p2) 3 (Int32.ofNat o) (Int32.ofNat k)))))])
    refine Go.step (fun _ zz => XS.iand X14.here hx rfl (hb hby at_150) rfl zz) ?_
    show Go _ _ _ _ T14 (mkF m 151 #[.val (.int p0), .val (.int p1), .val (.int p2), .val (.int p3), .val (.int (0 : Int32)), .val (.ref (w 0)), .val (.int (Int32.ofNat o)), .val (.int (Int32.ofNat k)), .val (.ref b2), .val (.int ((((own_part (own_b p2) 0 (Int32.ofNat o) (Int32.ofNat k)) + (own_part (own_b p2) 1 (Int32.ofNat o) (Int32.ofNat k))) + (own_part (own_b p2) 2 (Int32.ofNat o) (Int32.ofNat k))) + (own_part (own_b p2) 3 (Int32.ofNat o) (Int32.ofNat k)))), .unset, .unset] [(.int (((p1 + (0 : Int32)) + ((((own_part (own_b p2) 0 (Int32.ofNat o) (Int32.ofNat k)) + (own_part (own_b p2) 1 (Int32.ofNat o) (Int32.ofNat k))) + (own_part (own_b p2) 2 (Int32.ofNat o) (Int32.ofNat k))) + (own_part (own_b p2) 3 (Int32.ofNat o) (Int32.ofNat k)))) &&& (255 : Int32)))])
    refine Go.step (fun _ zz => XS.istore X14.here hx rfl (hb hby at_151) rfl (l' := #[.val (.int p0), .val (.int p1), .val (.int p2), .val (.int p3), .val (.int (0 : Int32)), .val (.ref (w 0)), .val (.int (Int32.ofNat o)), .val (.int (Int32.ofNat k)), .val (.ref b2), .val (.int ((((own_part (own_b p2) 0 (Int32.ofNat o) (Int32.ofNat k)) + (own_part (own_b p2) 1 (Int32.ofNat o) (Int32.ofNat k))) + (own_part (own_b p2) 2 (Int32.ofNat o) (Int32.ofNat k))) + (own_part (own_b p2) 3 (Int32.ofNat o) (Int32.ofNat k)))), .val (.int (((p1 + (0 : Int32)) + ((((own_part (own_b p2) 0 (Int32.ofNat o) (Int32.ofNat k)) + (own_part (own_b p2) 1 (Int32.ofNat o) (Int32.ofNat k))) + (own_part (own_b p2) 2 (Int32.ofNat o) (Int32.ofNat k))) + (own_part (own_b p2) 3 (Int32.ofNat o) (Int32.ofNat k)))) &&& (255 : Int32))), .unset]) rfl zz) ?_
    show Go _ _ _ _ T14 (mkF m 153 #[.val (.int p0), .val (.int p1), .val (.int p2), .val (.int p3), .val (.int (0 : Int32)), .val (.ref (w 0)), .val (.int (Int32.ofNat o)), .val (.int (Int32.ofNat k)), .val (.ref b2), .val (.int ((((own_part (own_b p2) 0 (Int32.ofNat o) (Int32.ofNat k)) + (own_part (own_b p2) 1 (Int32.ofNat o) (Int32.ofNat k))) + (own_part (own_b p2) 2 (Int32.ofNat o) (Int32.ofNat k))) + (own_part (own_b p2) 3 (Int32.ofNat o) (Int32.ofNat k)))), .val (.int (((p1 + (0 : Int32)) + ((((own_part (own_b p2) 0 (Int32.ofNat o) (Int32.ofNat k)) + (own_part (own_b p2) 1 (Int32.ofNat o) (Int32.ofNat k))) + (own_part (own_b p2) 2 (Int32.ofNat o) (Int32.ofNat k))) + (own_part (own_b p2) 3 (Int32.ofNat o) (Int32.ofNat k)))) &&& (255 : Int32))), .unset] [])
    refine Go.step (fun _ zz => XS.aload X14.here hx rfl (hb hby at_153) rfl rfl zz) ?_
    show Go _ _ _ _ T14 (mkF m 155 #[.val (.int p0), .val (.int p1), .val (.int p2), .val (.int p3), .val (.int (0 : Int32)), .val (.ref (w 0)), .val (.int (Int32.ofNat o)), .val (.int (Int32.ofNat k)), .val (.ref b2), .val (.int ((((own_part (own_b p2) 0 (Int32.ofNat o) (Int32.ofNat k)) + (own_part (own_b p2) 1 (Int32.ofNat o) (Int32.ofNat k))) + (own_part (own_b p2) 2 (Int32.ofNat o) (Int32.ofNat k))) + (own_part (own_b p2) 3 (Int32.ofNat o) (Int32.ofNat k)))), .val (.int (((p1 + (0 : Int32)) + ((((own_part (own_b p2) 0 (Int32.ofNat o) (Int32.ofNat k)) + (own_part (own_b p2) 1 (Int32.ofNat o) (Int32.ofNat k))) + (own_part (own_b p2) 2 (Int32.ofNat o) (Int32.ofNat k))) + (own_part (own_b p2) 3 (Int32.ofNat o) (Int32.ofNat k)))) &&& (255 : Int32))), .unset] [(.ref (w 0))])
    refine Go.step (fun _ zz => XS.iloadN X14.here hx rfl (hb hby at_155) rfl zz) ?_
    show Go _ _ _ _ T14 (mkF m 156 #[.val (.int p0), .val (.int p1), .val (.int p2), .val (.int p3), .val (.int (0 : Int32)), .val (.ref (w 0)), .val (.int (Int32.ofNat o)), .val (.int (Int32.ofNat k)), .val (.ref b2), .val (.int ((((own_part (own_b p2) 0 (Int32.ofNat o) (Int32.ofNat k)) + (own_part (own_b p2) 1 (Int32.ofNat o) (Int32.ofNat k))) + (own_part (own_b p2) 2 (Int32.ofNat o) (Int32.ofNat k))) + (own_part (own_b p2) 3 (Int32.ofNat o) (Int32.ofNat k)))), .val (.int (((p1 + (0 : Int32)) + ((((own_part (own_b p2) 0 (Int32.ofNat o) (Int32.ofNat k)) + (own_part (own_b p2) 1 (Int32.ofNat o) (Int32.ofNat k))) + (own_part (own_b p2) 2 (Int32.ofNat o) (Int32.ofNat k))) + (own_part (own_b p2) 3 (Int32.ofNat o) (Int32.ofNat k)))) &&& (255 : Int32))), .unset] [(.int p1), (.ref (w 0))])
    refine Go.step (fun _ zz => XS.aload X14.here hx rfl (hb hby at_156) rfl rfl zz) ?_
    show Go _ _ _ _ T14 (mkF m 158 #[.val (.int p0), .val (.int p1), .val (.int p2), .val (.int p3), .val (.int (0 : Int32)), .val (.ref (w 0)), .val (.int (Int32.ofNat o)), .val (.int (Int32.ofNat k)), .val (.ref b2), .val (.int ((((own_part (own_b p2) 0 (Int32.ofNat o) (Int32.ofNat k)) + (own_part (own_b p2) 1 (Int32.ofNat o) (Int32.ofNat k))) + (own_part (own_b p2) 2 (Int32.ofNat o) (Int32.ofNat k))) + (own_part (own_b p2) 3 (Int32.ofNat o) (Int32.ofNat k)))), .val (.int (((p1 + (0 : Int32)) + ((((own_part (own_b p2) 0 (Int32.ofNat o) (Int32.ofNat k)) + (own_part (own_b p2) 1 (Int32.ofNat o) (Int32.ofNat k))) + (own_part (own_b p2) 2 (Int32.ofNat o) (Int32.ofNat k))) + (own_part (own_b p2) 3 (Int32.ofNat o) (Int32.ofNat k)))) &&& (255 : Int32))), .unset] [(.ref b2), (.int p1), (.ref (w 0))])
    refine Go.step (fun _ zz => XS.iload X14.here hx rfl (hb hby at_158) rfl zz) ?_
    show Go _ _ _ _ T14 (mkF m 160 #[.val (.int p0), .val (.int p1), .val (.int p2), .val (.int p3), .val (.int (0 : Int32)), .val (.ref (w 0)), .val (.int (Int32.ofNat o)), .val (.int (Int32.ofNat k)), .val (.ref b2), .val (.int ((((own_part (own_b p2) 0 (Int32.ofNat o) (Int32.ofNat k)) + (own_part (own_b p2) 1 (Int32.ofNat o) (Int32.ofNat k))) + (own_part (own_b p2) 2 (Int32.ofNat o) (Int32.ofNat k))) + (own_part (own_b p2) 3 (Int32.ofNat o) (Int32.ofNat k)))), .val (.int (((p1 + (0 : Int32)) + ((((own_part (own_b p2) 0 (Int32.ofNat o) (Int32.ofNat k)) + (own_part (own_b p2) 1 (Int32.ofNat o) (Int32.ofNat k))) + (own_part (own_b p2) 2 (Int32.ofNat o) (Int32.ofNat k))) + (own_part (own_b p2) 3 (Int32.ofNat o) (Int32.ofNat k)))) &&& (255 : Int32))), .unset] [(.int (Int32.ofNat o)), (.ref b2), (.int p1), (.ref (w 0))])
    refine Go.step (fun _ zz => XS.iload X14.here hx rfl (hb hby at_160) rfl zz) ?_
    show Go _ _ _ _ T14 (mkF m 162 #[.val (.int p0), .val (.int p1), .val (.int p2), .val (.int p3), .val (.int (0 : Int32)), .val (.ref (w 0)), .val (.int (Int32.ofNat o)), .val (.int (Int32.ofNat k)), .val (.ref b2), .val (.int ((((own_part (own_b p2) 0 (Int32.ofNat o) (Int32.ofNat k)) + (own_part (own_b p2) 1 (Int32.ofNat o) (Int32.ofNat k))) + (own_part (own_b p2) 2 (Int32.ofNat o) (Int32.ofNat k))) + (own_part (own_b p2) 3 (Int32.ofNat o) (Int32.ofNat k)))), .val (.int (((p1 + (0 : Int32)) + ((((own_part (own_b p2) 0 (Int32.ofNat o) (Int32.ofNat k)) + (own_part (own_b p2) 1 (Int32.ofNat o) (Int32.ofNat k))) + (own_part (own_b p2) 2 (Int32.ofNat o) (Int32.ofNat k))) + (own_part (own_b p2) 3 (Int32.ofNat o) (Int32.ofNat k)))) &&& (255 : Int32))), .unset] [(.int (Int32.ofNat k)), (.int (Int32.ofNat o)), (.ref b2), (.int p1), (.ref (w 0))])
    refine Go.step (fun _ zz => XS.iloadN X14.here hx rfl (hb hby at_162) rfl zz) ?_
    show Go _ _ _ _ T14 (mkF m 163 #[.val (.int p0), .val (.int p1), .val (.int p2), .val (.int p3), .val (.int (0 : Int32)), .val (.ref (w 0)), .val (.int (Int32.ofNat o)), .val (.int (Int32.ofNat k)), .val (.ref b2), .val (.int ((((own_part (own_b p2) 0 (Int32.ofNat o) (Int32.ofNat k)) + (own_part (own_b p2) 1 (Int32.ofNat o) (Int32.ofNat k))) + (own_part (own_b p2) 2 (Int32.ofNat o) (Int32.ofNat k))) + (own_part (own_b p2) 3 (Int32.ofNat o) (Int32.ofNat k)))), .val (.int (((p1 + (0 : Int32)) + ((((own_part (own_b p2) 0 (Int32.ofNat o) (Int32.ofNat k)) + (own_part (own_b p2) 1 (Int32.ofNat o) (Int32.ofNat k))) + (own_part (own_b p2) 2 (Int32.ofNat o) (Int32.ofNat k))) + (own_part (own_b p2) 3 (Int32.ofNat o) (Int32.ofNat k)))) &&& (255 : Int32))), .unset] [(.int p3), (.int (Int32.ofNat k)), (.int (Int32.ofNat o)), (.ref b2), (.int p1), (.ref (w 0))])
    obtain ⟨cq15, kq15, q15a, q15b, q15c⟩ := isOf hZ e14 ((wd1 wd).ext (((((O0.ext E2).wr W4 g_b2).wr W6 g_b2).wr W8 g_b2).wr W10 g_b2).2)
    obtain ⟨_, _, ⟨T15, L15, k15, n15⟩, -, X15, ⟨Lc15, hQ15, l15, y15, z15⟩, st15⟩ := X14.virtualBack hx (y := (⟨"com/example/assayline/assayline/wire/AstmChecksum", "of", "(I[BIII)I"⟩ : MethodName)) (z := (⟨"com/example/assayline/assayline/wire/AstmChecksum", "of", "(I[BIII)I"⟩ : MethodName)) hown (mvT hZ (hw _ (List.mem_of_getElem? (i := 8) rfl))) (mvT hZ (hw _ (List.mem_of_getElem? (i := 9) rfl))) (notFace_of_selects (args := #[]) (mvT hZ (hw _ (List.mem_of_getElem? (i := 11) rfl)))) (mvT hZ (hw _ (List.mem_of_getElem? (i := 11) rfl))) (mvT hZ (hw _ (List.mem_of_getElem? (i := 10) rfl))) (by decide) (backOf (W := 0) (rm2 l Z a0 hw [] (w 0) p1 b2 o k p3 (0 : Int32) (own_b p2) k2 h10 n0 (Nat.le_trans (Nat.le_trans (Nat.le_trans (Nat.le_trans (Nat.le_trans Z0 E2.1) (Keep.of_wr W4).1) (Keep.of_wr W6).1) (Keep.of_wr W8).1) (Keep.of_wr W10).1) hok ((wd4 wd).ext (((((O0.ext E2).wr W4 g_b2).wr W6 g_b2).wr W8 g_b2).wr W10 g_b2).2) V10) hZ (hw _ (List.mem_of_getElem? (i := 12) rfl)) (hw _ (List.mem_of_getElem? (i := 1) rfl)) (by decide) (by decide)) q15a q15c (g := (mkF m 163 #[.val (.int p0), .val (.int p1), .val (.int p2), .val (.int p3), .val (.int (0 : Int32)), .val (.ref (w 0)), .val (.int (Int32.ofNat o)), .val (.int (Int32.ofNat k)), .val (.ref b2), .val (.int ((((own_part (own_b p2) 0 (Int32.ofNat o) (Int32.ofNat k)) + (own_part (own_b p2) 1 (Int32.ofNat o) (Int32.ofNat k))) + (own_part (own_b p2) 2 (Int32.ofNat o) (Int32.ofNat k))) + (own_part (own_b p2) 3 (Int32.ofNat o) (Int32.ofNat k)))), .val (.int (((p1 + (0 : Int32)) + ((((own_part (own_b p2) 0 (Int32.ofNat o) (Int32.ofNat k)) + (own_part (own_b p2) 1 (Int32.ofNat o) (Int32.ofNat k))) + (own_part (own_b p2) 2 (Int32.ofNat o) (Int32.ofNat k))) + (own_part (own_b p2) 3 (Int32.ofNat o) (Int32.ofNat k)))) &&& (255 : Int32))), .unset] [(.int p3), (.int (Int32.ofNat k)), (.int (Int32.ofNat o)), (.ref b2), (.int p1), (.ref (w 0))])) rfl (by rw [hml]; rfl) (Steps.refl _) (argsL := [(.int p1), (.ref b2), (.int (Int32.ofNat o)), (.int (Int32.ofNat k)), (.int p3)]) (rest := []) (lenOf own_pd3 rfl) rfl (by show 2 * 0 + _ ≤ _; exact Nat.le_of_eq rfl) (hb hby at_163) (fun _ _ => ⟨rfl, e14, (by decide : 1 + 0 ≤ _), (by decide : 4 + 0 ≤ _)⟩)
    dsimp only [Pt.U, Pt.locs, Pt.cells, Pt.slots] at X15 l15 y15 z15 st15 hQ15
    subst l15 y15 z15
    obtain ⟨rfl, N15q, e15⟩ := hQ15
    have N15 := Fr.app N14 N15q
    refine Go.tr st15 ?_
    show Go _ _ _ _ T15 (mkF m 166 #[.val (.int p0), .val (.int p1), .val (.int p2), .val (.int p3), .val (.int (0 : Int32)), .val (.ref (w 0)), .val (.int (Int32.ofNat o)), .val (.int (Int32.ofNat k)), .val (.ref b2), .val (.int ((((own_part (own_b p2) 0 (Int32.ofNat o) (Int32.ofNat k)) + (own_part (own_b p2) 1 (Int32.ofNat o) (Int32.ofNat k))) + (own_part (own_b p2) 2 (Int32.ofNat o) (Int32.ofNat k))) + (own_part (own_b p2) 3 (Int32.ofNat o) (Int32.ofNat k)))), .val (.int (((p1 + (0 : Int32)) + ((((own_part (own_b p2) 0 (Int32.ofNat o) (Int32.ofNat k)) + (own_part (own_b p2) 1 (Int32.ofNat o) (Int32.ofNat k))) + (own_part (own_b p2) 2 (Int32.ofNat o) (Int32.ofNat k))) + (own_part (own_b p2) 3 (Int32.ofNat o) (Int32.ofNat k)))) &&& (255 : Int32))), .unset] [(.int (own_sum (own_b p2) o k (p1 + (if (0 : Int32) = 0 then 0 else p3)) &&& 255))])
    refine Go.step (fun _ zz => XS.istore X15.here hx rfl (hb hby at_166) rfl (l' := #[.val (.int p0), .val (.int p1), .val (.int p2), .val (.int p3), .val (.int (0 : Int32)), .val (.ref (w 0)), .val (.int (Int32.ofNat o)), .val (.int (Int32.ofNat k)), .val (.ref b2), .val (.int ((((own_part (own_b p2) 0 (Int32.ofNat o) (Int32.ofNat k)) + (own_part (own_b p2) 1 (Int32.ofNat o) (Int32.ofNat k))) + (own_part (own_b p2) 2 (Int32.ofNat o) (Int32.ofNat k))) + (own_part (own_b p2) 3 (Int32.ofNat o) (Int32.ofNat k)))), .val (.int (((p1 + (0 : Int32)) + ((((own_part (own_b p2) 0 (Int32.ofNat o) (Int32.ofNat k)) + (own_part (own_b p2) 1 (Int32.ofNat o) (Int32.ofNat k))) + (own_part (own_b p2) 2 (Int32.ofNat o) (Int32.ofNat k))) + (own_part (own_b p2) 3 (Int32.ofNat o) (Int32.ofNat k)))) &&& (255 : Int32))), .val (.int (own_sum (own_b p2) o k (p1 + (if (0 : Int32) = 0 then 0 else p3)) &&& 255))]) rfl zz) ?_
    show Go _ _ _ _ T15 (mkF m 168 #[.val (.int p0), .val (.int p1), .val (.int p2), .val (.int p3), .val (.int (0 : Int32)), .val (.ref (w 0)), .val (.int (Int32.ofNat o)), .val (.int (Int32.ofNat k)), .val (.ref b2), .val (.int ((((own_part (own_b p2) 0 (Int32.ofNat o) (Int32.ofNat k)) + (own_part (own_b p2) 1 (Int32.ofNat o) (Int32.ofNat k))) + (own_part (own_b p2) 2 (Int32.ofNat o) (Int32.ofNat k))) + (own_part (own_b p2) 3 (Int32.ofNat o) (Int32.ofNat k)))), .val (.int (((p1 + (0 : Int32)) + ((((own_part (own_b p2) 0 (Int32.ofNat o) (Int32.ofNat k)) + (own_part (own_b p2) 1 (Int32.ofNat o) (Int32.ofNat k))) + (own_part (own_b p2) 2 (Int32.ofNat o) (Int32.ofNat k))) + (own_part (own_b p2) 3 (Int32.ofNat o) (Int32.ofNat k)))) &&& (255 : Int32))), .val (.int (own_sum (own_b p2) o k (p1 + (if (0 : Int32) = 0 then 0 else p3)) &&& 255))] [])
    refine Go.step (fun _ zz => XS.iload X15.here hx rfl (hb hby at_168) rfl zz) ?_
    show Go _ _ _ _ T15 (mkF m 170 #[.val (.int p0), .val (.int p1), .val (.int p2), .val (.int p3), .val (.int (0 : Int32)), .val (.ref (w 0)), .val (.int (Int32.ofNat o)), .val (.int (Int32.ofNat k)), .val (.ref b2), .val (.int ((((own_part (own_b p2) 0 (Int32.ofNat o) (Int32.ofNat k)) + (own_part (own_b p2) 1 (Int32.ofNat o) (Int32.ofNat k))) + (own_part (own_b p2) 2 (Int32.ofNat o) (Int32.ofNat k))) + (own_part (own_b p2) 3 (Int32.ofNat o) (Int32.ofNat k)))), .val (.int (((p1 + (0 : Int32)) + ((((own_part (own_b p2) 0 (Int32.ofNat o) (Int32.ofNat k)) + (own_part (own_b p2) 1 (Int32.ofNat o) (Int32.ofNat k))) + (own_part (own_b p2) 2 (Int32.ofNat o) (Int32.ofNat k))) + (own_part (own_b p2) 3 (Int32.ofNat o) (Int32.ofNat k)))) &&& (255 : Int32))), .val (.int (own_sum (own_b p2) o k (p1 + (if (0 : Int32) = 0 then 0 else p3)) &&& 255))] [(.int (own_sum (own_b p2) o k (p1 + (if (0 : Int32) = 0 then 0 else p3)) &&& 255))])
    refine Go.step (fun _ zz => XS.iload X15.here hx rfl (hb hby at_170) rfl zz) ?_
    show Go _ _ _ _ T15 (mkF m 172 #[.val (.int p0), .val (.int p1), .val (.int p2), .val (.int p3), .val (.int (0 : Int32)), .val (.ref (w 0)), .val (.int (Int32.ofNat o)), .val (.int (Int32.ofNat k)), .val (.ref b2), .val (.int ((((own_part (own_b p2) 0 (Int32.ofNat o) (Int32.ofNat k)) + (own_part (own_b p2) 1 (Int32.ofNat o) (Int32.ofNat k))) + (own_part (own_b p2) 2 (Int32.ofNat o) (Int32.ofNat k))) + (own_part (own_b p2) 3 (Int32.ofNat o) (Int32.ofNat k)))), .val (.int (((p1 + (0 : Int32)) + ((((own_part (own_b p2) 0 (Int32.ofNat o) (Int32.ofNat k)) + (own_part (own_b p2) 1 (Int32.ofNat o) (Int32.ofNat k))) + (own_part (own_b p2) 2 (Int32.ofNat o) (Int32.ofNat k))) + (own_part (own_b p2) 3 (Int32.ofNat o) (Int32.ofNat k)))) &&& (255 : Int32))), .val (.int (own_sum (own_b p2) o k (p1 + (if (0 : Int32) = 0 then 0 else p3)) &&& 255))] [(.int (((p1 + (0 : Int32)) + ((((own_part (own_b p2) 0 (Int32.ofNat o) (Int32.ofNat k)) + (own_part (own_b p2) 1 (Int32.ofNat o) (Int32.ofNat k))) + (own_part (own_b p2) 2 (Int32.ofNat o) (Int32.ofNat k))) + (own_part (own_b p2) 3 (Int32.ofNat o) (Int32.ofNat k)))) &&& (255 : Int32))), (.int (own_sum (own_b p2) o k (p1 + (if (0 : Int32) = 0 then 0 else p3)) &&& 255))])
    refine Go.step (fun _ zz => XS.icmpNo X15.here hx rfl (hb hby at_172) rfl (teq (own_end p1 p3 p2 o k hok 0)).2 zz) ?_
    show Go _ _ _ _ T15 (mkF m 175 #[.val (.int p0), .val (.int p1), .val (.int p2), .val (.int p3), .val (.int (0 : Int32)), .val (.ref (w 0)), .val (.int (Int32.ofNat o)), .val (.int (Int32.ofNat k)), .val (.ref b2), .val (.int ((((own_part (own_b p2) 0 (Int32.ofNat o) (Int32.ofNat k)) + (own_part (own_b p2) 1 (Int32.ofNat o) (Int32.ofNat k))) + (own_part (own_b p2) 2 (Int32.ofNat o) (Int32.ofNat k))) + (own_part (own_b p2) 3 (Int32.ofNat o) (Int32.ofNat k)))), .val (.int (((p1 + (0 : Int32)) + ((((own_part (own_b p2) 0 (Int32.ofNat o) (Int32.ofNat k)) + (own_part (own_b p2) 1 (Int32.ofNat o) (Int32.ofNat k))) + (own_part (own_b p2) 2 (Int32.ofNat o) (Int32.ofNat k))) + (own_part (own_b p2) 3 (Int32.ofNat o) (Int32.ofNat k)))) &&& (255 : Int32))), .val (.int (own_sum (own_b p2) o k (p1 + (if (0 : Int32) = 0 then 0 else p3)) &&& 255))] [])
    refine Go.step (fun _ zz => XS.iconst X15.here hx rfl (hb hby at_175) zz) ?_
    show Go _ _ _ _ T15 (mkF m 176 #[.val (.int p0), .val (.int p1), .val (.int p2), .val (.int p3), .val (.int (0 : Int32)), .val (.ref (w 0)), .val (.int (Int32.ofNat o)), .val (.int (Int32.ofNat k)), .val (.ref b2), .val (.int ((((own_part (own_b p2) 0 (Int32.ofNat o) (Int32.ofNat k)) + (own_part (own_b p2) 1 (Int32.ofNat o) (Int32.ofNat k))) + (own_part (own_b p2) 2 (Int32.ofNat o) (Int32.ofNat k))) + (own_part (own_b p2) 3 (Int32.ofNat o) (Int32.ofNat k)))), .val (.int (((p1 + (0 : Int32)) + ((((own_part (own_b p2) 0 (Int32.ofNat o) (Int32.ofNat k)) + (own_part (own_b p2) 1 (Int32.ofNat o) (Int32.ofNat k))) + (own_part (own_b p2) 2 (Int32.ofNat o) (Int32.ofNat k))) + (own_part (own_b p2) 3 (Int32.ofNat o) (Int32.ofNat k)))) &&& (255 : Int32))), .val (.int (own_sum (own_b p2) o k (p1 + (if (0 : Int32) = 0 then 0 else p3)) &&& 255))] [(.int (1 : Int32))])
    refine Go.step (fun _ zz => XS.goto X15.here hx rfl (pc0 := 176) (pc' := 180) rfl (hb hby at_176) (by decide) (by decide) zz) ?_
    show Go _ _ _ _ T15 (mkF m 180 #[.val (.int p0), .val (.int p1), .val (.int p2), .val (.int p3), .val (.int (0 : Int32)), .val (.ref (w 0)), .val (.int (Int32.ofNat o)), .val (.int (Int32.ofNat k)), .val (.ref b2), .val (.int ((((own_part (own_b p2) 0 (Int32.ofNat o) (Int32.ofNat k)) + (own_part (own_b p2) 1 (Int32.ofNat o) (Int32.ofNat k))) + (own_part (own_b p2) 2 (Int32.ofNat o) (Int32.ofNat k))) + (own_part (own_b p2) 3 (Int32.ofNat o) (Int32.ofNat k)))), .val (.int (((p1 + (0 : Int32)) + ((((own_part (own_b p2) 0 (Int32.ofNat o) (Int32.ofNat k)) + (own_part (own_b p2) 1 (Int32.ofNat o) (Int32.ofNat k))) + (own_part (own_b p2) 2 (Int32.ofNat o) (Int32.ofNat k))) + (own_part (own_b p2) 3 (Int32.ofNat o) (Int32.ofNat k)))) &&& (255 : Int32))), .val (.int (own_sum (own_b p2) o k (p1 + (if (0 : Int32) = 0 then 0 else p3)) &&& 255))] [(.int (1 : Int32))])
    exact Go.retN X15 hx (t := .boolean) Bd.returns (by simp) (hb hby at_180) Bd.notSynchronized (z' := (1 : Int32)) (by decide) (⟨rfl, N15⟩) (by decide) (by decide)
  · refine Go.step (fun _ zz => XS.ifNo X0.here hx rfl (hb hby at_3) rfl ((if0 _ _).trans (feq hc3).1) zz) ?_
    show Go _ _ _ _ s₁ (mkF m 6 #[.val (.int p0), .val (.int p1), .val (.int p2), .val (.int p3), .unset, .unset, .unset, .unset, .unset, .unset, .unset, .unset] [])
    refine Go.step (fun _ zz => XS.iconst X0.here hx rfl (hb hby at_6) zz) ?_
    show Go _ _ _ _ s₁ (mkF m 7 #[.val (.int p0), .val (.int p1), .val (.int p2), .val (.int p3), .unset, .unset, .unset, .unset, .unset, .unset, .unset, .unset] [(.int (1 : Int32))])
    refine Go.step (fun _ zz => XS.goto X0.here hx rfl (pc0 := 7) (pc' := 11) rfl (hb hby at_7) (by decide) (by decide) zz) ?_
    show Go _ _ _ _ s₁ (mkF m 11 #[.val (.int p0), .val (.int p1), .val (.int p2), .val (.int p3), .unset, .unset, .unset, .unset, .unset, .unset, .unset, .unset] [(.int (1 : Int32))])
    refine Go.step (fun _ zz => XS.istore X0.here hx rfl (hb hby at_11) rfl (l' := #[.val (.int p0), .val (.int p1), .val (.int p2), .val (.int p3), .val (.int (1 : Int32)), .unset, .unset, .unset, .unset, .unset, .unset, .unset]) rfl zz) ?_
    show Go _ _ _ _ s₁ (mkF m 13 #[.val (.int p0), .val (.int p1), .val (.int p2), .val (.int p3), .val (.int (1 : Int32)), .unset, .unset, .unset, .unset, .unset, .unset, .unset] [])
    refine Go.step (fun _ zz => XS.iload X0.here hx rfl (hb hby at_13) rfl zz) ?_
    show Go _ _ _ _ s₁ (mkF m 15 #[.val (.int p0), .val (.int p1), .val (.int p2), .val (.int p3), .val (.int (1 : Int32)), .unset, .unset, .unset, .unset, .unset, .unset, .unset] [(.int (1 : Int32))])
    refine Go.step (fun _ zz => XS.ifNo X0.here hx rfl (hb hby at_15) rfl ((if0 _ _).trans (feq (by decide)).1) zz) ?_
    show Go _ _ _ _ s₁ (mkF m 18 #[.val (.int p0), .val (.int p1), .val (.int p2), .val (.int p3), .val (.int (1 : Int32)), .unset, .unset, .unset, .unset, .unset, .unset, .unset] [])
    obtain ⟨T16, X16, e16, st16⟩ := getS2 X0 hx hZ hown (host := "") (Or.inl (hw _ (List.mem_of_getElem? (i := 15) rfl))) Via.refl e0 ((wd2 wd).ext O0.2) (g := (mkF m 18 #[.val (.int p0), .val (.int p1), .val (.int p2), .val (.int p3), .val (.int (1 : Int32)), .unset, .unset, .unset, .unset, .unset, .unset, .unset] [])) rfl (hb hby at_18)
    refine Go.step st16 ?_
    show Go _ _ _ _ T16 (mkF m 21 #[.val (.int p0), .val (.int p1), .val (.int p2), .val (.int p3), .val (.int (1 : Int32)), .unset, .unset, .unset, .unset, .unset, .unset, .unset] [(.ref (w 1))])
    refine Go.step (fun _ zz => XS.goto X16.here hx rfl (pc0 := 21) (pc' := 27) rfl (hb hby at_21) (by decide) (by decide) zz) ?_
    show Go _ _ _ _ T16 (mkF m 27 #[.val (.int p0), .val (.int p1), .val (.int p2), .val (.int p3), .val (.int (1 : Int32)), .unset, .unset, .unset, .unset, .unset, .unset, .unset] [(.ref (w 1))])
    refine Go.step (fun _ zz => XS.astore X16.here hx rfl (hb hby at_27) rfl rfl (l' := #[.val (.int p0), .val (.int p1), .val (.int p2), .val (.int p3), .val (.int (1 : Int32)), .val (.ref (w 1)), .unset, .unset, .unset, .unset, .unset, .unset]) rfl zz) ?_
    show Go _ _ _ _ T16 (mkF m 29 #[.val (.int p0), .val (.int p1), .val (.int p2), .val (.int p3), .val (.int (1 : Int32)), .val (.ref (w 1)), .unset, .unset, .unset, .unset, .unset, .unset] [])
    refine Go.step (fun _ zz => XS.iloadN X16.here hx rfl (hb hby at_29) rfl zz) ?_
    show Go _ _ _ _ T16 (mkF m 30 #[.val (.int p0), .val (.int p1), .val (.int p2), .val (.int p3), .val (.int (1 : Int32)), .val (.ref (w 1)), .unset, .unset, .unset, .unset, .unset, .unset] [(.int p0)])
    refine Go.step (fun _ zz => XS.iconst X16.here hx rfl (hb hby at_30) zz) ?_
    show Go _ _ _ _ T16 (mkF m 31 #[.val (.int p0), .val (.int p1), .val (.int p2), .val (.int p3), .val (.int (1 : Int32)), .val (.ref (w 1)), .unset, .unset, .unset, .unset, .unset, .unset] [(.int (1 : Int32)), (.int p0)])
    refine Go.step (fun _ zz => XS.iushr X16.here hx rfl (hb hby at_31) rfl zz) ?_
    show Go _ _ _ _ T16 (mkF m 32 #[.val (.int p0), .val (.int p1), .val (.int p2), .val (.int p3), .val (.int (1 : Int32)), .val (.ref (w 1)), .unset, .unset, .unset, .unset, .unset, .unset] [(.int ((p0.toUInt32 >>> ((1 : Int32) &&& 31).toUInt32).toInt32))])
    refine Go.step (fun _ zz => XS.iconst X16.here hx rfl (hb hby at_32) zz) ?_
    show Go _ _ _ _ T16 (mkF m 33 #[.val (.int p0), .val (.int p1), .val (.int p2), .val (.int p3), .val (.int (1 : Int32)), .val (.ref (w 1)), .unset, .unset, .unset, .unset, .unset, .unset] [(.int (3 : Int32)), (.int ((p0.toUInt32 >>> ((1 : Int32) &&& 31).toUInt32).toInt32))])
    refine Go.step (fun _ zz => XS.iand X16.here hx rfl (hb hby at_33) rfl zz) ?_
    show Go _ _ _ _ T16 (mkF m 34 #[.val (.int p0), .val (.int p1), .val (.int p2), .val (.int p3), .val (.int (1 : Int32)), .val (.ref (w 1)), .unset, .unset, .unset, .unset, .unset, .unset] [(.int (((p0.toUInt32 >>> ((1 : Int32) &&& 31).toUInt32).toInt32) &&& (3 : Int32)))])
    refine Go.step (fun _ zz => XS.istore X16.here hx rfl (hb hby at_34) rfl (l' := #[.val (.int p0), .val (.int p1), .val (.int p2), .val (.int p3), .val (.int (1 : Int32)), .val (.ref (w 1)), .val (.int (((p0.toUInt32 >>> ((1 : Int32) &&& 31).toUInt32).toInt32) &&& (3 : Int32))), .unset, .unset, .unset, .unset, .unset]) rfl zz) ?_
    show Go _ _ _ _ T16 (mkF m 36 #[.val (.int p0), .val (.int p1), .val (.int p2), .val (.int p3), .val (.int (1 : Int32)), .val (.ref (w 1)), .val (.int (((p0.toUInt32 >>> ((1 : Int32) &&& 31).toUInt32).toInt32) &&& (3 : Int32))), .unset, .unset, .unset, .unset, .unset] [])
    refine Go.step (fun _ zz => XS.iloadN X16.here hx rfl (hb hby at_36) rfl zz) ?_
    show Go _ _ _ _ T16 (mkF m 37 #[.val (.int p0), .val (.int p1), .val (.int p2), .val (.int p3), .val (.int (1 : Int32)), .val (.ref (w 1)), .val (.int (((p0.toUInt32 >>> ((1 : Int32) &&& 31).toUInt32).toInt32) &&& (3 : Int32))), .unset, .unset, .unset, .unset, .unset] [(.int p0)])
    refine Go.step (fun _ zz => XS.iconst X16.here hx rfl (hb hby at_37) zz) ?_
    show Go _ _ _ _ T16 (mkF m 38 #[.val (.int p0), .val (.int p1), .val (.int p2), .val (.int p3), .val (.int (1 : Int32)), .val (.ref (w 1)), .val (.int (((p0.toUInt32 >>> ((1 : Int32) &&& 31).toUInt32).toInt32) &&& (3 : Int32))), .unset, .unset, .unset, .unset, .unset] [(.int (3 : Int32)), (.int p0)])
    refine Go.step (fun _ zz => XS.iushr X16.here hx rfl (hb hby at_38) rfl zz) ?_
    show Go _ _ _ _ T16 (mkF m 39 #[.val (.int p0), .val (.int p1), .val (.int p2), .val (.int p3), .val (.int (1 : Int32)), .val (.ref (w 1)), .val (.int (((p0.toUInt32 >>> ((1 : Int32) &&& 31).toUInt32).toInt32) &&& (3 : Int32))), .unset, .unset, .unset, .unset, .unset] [(.int ((p0.toUInt32 >>> ((3 : Int32) &&& 31).toUInt32).toInt32))])
    refine Go.step (fun _ zz => XS.bipush X16.here hx rfl (hb hby at_39) zz) ?_
    show Go _ _ _ _ T16 (mkF m 41 #[.val (.int p0), .val (.int p1), .val (.int p2), .val (.int p3), .val (.int (1 : Int32)), .val (.ref (w 1)), .val (.int (((p0.toUInt32 >>> ((1 : Int32) &&& 31).toUInt32).toInt32) &&& (3 : Int32))), .unset, .unset, .unset, .unset, .unset] [(.int (7 : Int32)), (.int ((p0.toUInt32 >>> ((3 : Int32) &&& 31).toUInt32).toInt32))])
    refine Go.step (fun _ zz => XS.iand X16.here hx rfl (hb hby at_41) rfl zz) ?_
    show Go _ _ _ _ T16 (mkF m 42 #[.val (.int p0), .val (.int p1), .val (.int p2), .val (.int p3), .val (.int (1 : Int32)), .val (.ref (w 1)), .val (.int (((p0.toUInt32 >>> ((1 : Int32) &&& 31).toUInt32).toInt32) &&& (3 : Int32))), .unset, .unset, .unset, .unset, .unset] [(.int (((p0.toUInt32 >>> ((3 : Int32) &&& 31).toUInt32).toInt32) &&& (7 : Int32)))])
    refine Go.step (fun _ zz => XS.iconst X16.here hx rfl (hb hby at_42) zz) ?_
    show Go _ _ _ _ T16 (mkF m 43 #[.val (.int p0), .val (.int p1), .val (.int p2), .val (.int p3), .val (.int (1 : Int32)), .val (.ref (w 1)), .val (.int (((p0.toUInt32 >>> ((1 : Int32) &&& 31).toUInt32).toInt32) &&& (3 : Int32))), .unset, .unset, .unset, .unset, .unset] [(.int (5 : Int32)), (.int (((p0.toUInt32 >>> ((3 : Int32) &&& 31).toUInt32).toInt32) &&& (7 : Int32)))])
    refine Go.step (fun _ zz => XS.iload X16.here hx rfl (hb hby at_43) rfl zz) ?_
    show Go _ _ _ _ T16 (mkF m 45 #[.val (.int p0), .val (.int p1), .val (.int p2), .val (.int p3), .val (.int (1 : Int32)), .val (.ref (w 1)), .val (.int (((p0.toUInt32 >>> ((1 : Int32) &&& 31).toUInt32).toInt32) &&& (3 : Int32))), .unset, .unset, .unset, .unset, .unset] [(.int (((p0.toUInt32 >>> ((1 : Int32) &&& 31).toUInt32).toInt32) &&& (3 : Int32))), (.int (5 : Int32)), (.int (((p0.toUInt32 >>> ((3 : Int32) &&& 31).toUInt32).toInt32) &&& (7 : Int32)))])
    refine Go.step (fun _ zz => XS.isub X16.here hx rfl (hb hby at_45) rfl zz) ?_
    show Go _ _ _ _ T16 (mkF m 46 #[.val (.int p0), .val (.int p1), .val (.int p2), .val (.int p3), .val (.int (1 : Int32)), .val (.ref (w 1)), .val (.int (((p0.toUInt32 >>> ((1 : Int32) &&& 31).toUInt32).toInt32) &&& (3 : Int32))), .unset, .unset, .unset, .unset, .unset] [(.int ((5 : Int32) - (((p0.toUInt32 >>> ((1 : Int32) &&& 31).toUInt32).toInt32) &&& (3 : Int32)))), (.int (((p0.toUInt32 >>> ((3 : Int32) &&& 31).toUInt32).toInt32) &&& (7 : Int32)))])
    refine Go.step (fun _ zz => iremM X16 hx rfl (hb hby at_46) rfl (own_ok ((p0.toUInt32 >>> ((1 : Int32) &&& 31).toUInt32).toInt32) ((p0.toUInt32 >>> ((3 : Int32) &&& 31).toUInt32).toInt32)).1 zz) ?_
    show Go _ _ _ _ T16 (mkF m 47 #[.val (.int p0), .val (.int p1), .val (.int p2), .val (.int p3), .val (.int (1 : Int32)), .val (.ref (w 1)), .val (.int (((p0.toUInt32 >>> ((1 : Int32) &&& 31).toUInt32).toInt32) &&& (3 : Int32))), .unset, .unset, .unset, .unset, .unset] [(.int ((((p0.toUInt32 >>> ((3 : Int32) &&& 31).toUInt32).toInt32) &&& (7 : Int32)) % ((5 : Int32) - (((p0.toUInt32 >>> ((1 : Int32) &&& 31).toUInt32).toInt32) &&& (3 : Int32)))))])
    refine Go.step (fun _ zz => XS.istore X16.here hx rfl (hb hby at_47) rfl (l' := #[.val (.int p0), .val (.int p1), .val (.int p2), .val (.int p3), .val (.int (1 : Int32)), .val (.ref (w 1)), .val (.int (((p0.toUInt32 >>> ((1 : Int32) &&& 31).toUInt32).toInt32) &&& (3 : Int32))), .val (.int ((((p0.toUInt32 >>> ((3 : Int32) &&& 31).toUInt32).toInt32) &&& (7 : Int32)) % ((5 : Int32) - (((p0.toUInt32 >>> ((1 : Int32) &&& 31).toUInt32).toInt32) &&& (3 : Int32))))), .unset, .unset, .unset, .unset]) rfl zz) ?_
    show Go _ _ _ _ T16 (mkF m 49 #[.val (.int p0), .val (.int p1), .val (.int p2), .val (.int p3), .val (.int (1 : Int32)), .val (.ref (w 1)), .val (.int (((p0.toUInt32 >>> ((1 : Int32) &&& 31).toUInt32).toInt32) &&& (3 : Int32))), .val (.int ((((p0.toUInt32 >>> ((3 : Int32) &&& 31).toUInt32).toInt32) &&& (7 : Int32)) % ((5 : Int32) - (((p0.toUInt32 >>> ((1 : Int32) &&& 31).toUInt32).toInt32) &&& (3 : Int32))))), .unset, .unset, .unset, .unset] [])
    obtain ⟨-, o, k, ho, hk, hok⟩ := own_ok ((p0.toUInt32 >>> ((1 : Int32) &&& 31).toUInt32).toInt32) ((p0.toUInt32 >>> ((3 : Int32) &&& 31).toUInt32).toInt32)
    rw [hk, ho]
    show Go _ _ _ _ T16 (mkF m 49 #[.val (.int p0), .val (.int p1), .val (.int p2), .val (.int p3), .val (.int (1 : Int32)), .val (.ref (w 1)), .val (.int (Int32.ofNat o)), .val (.int (Int32.ofNat k)), .unset, .unset, .unset, .unset] [])
    refine Go.step (fun _ zz => XS.iconst X16.here hx rfl (hb hby at_49) zz) ?_
    show Go _ _ _ _ T16 (mkF m 50 #[.val (.int p0), .val (.int p1), .val (.int p2), .val (.int p3), .val (.int (1 : Int32)), .val (.ref (w 1)), .val (.int (Int32.ofNat o)), .val (.int (Int32.ofNat k)), .unset, .unset, .unset, .unset] [(.int (4 : Int32))])
    obtain ⟨T17, h17, k17, X17, e17, E17, A17, st17⟩ := newP X16 hx hZ (hw _ (List.mem_of_getElem? (i := 3) rfl)) e16 (g := (mkF m 50 #[.val (.int p0), .val (.int p1), .val (.int p2), .val (.int p3), .val (.int (1 : Int32)), .val (.ref (w 1)), .val (.int (Int32.ofNat o)), .val (.int (Int32.ofNat k)), .unset, .unset, .unset, .unset] [(.int (4 : Int32))])) rfl (hb hby at_50) rfl (by decide) (cap := 4) (by decide) (by decide) (by decide) (by decide)
    obtain ⟨b17, g17⟩ : ∃ z, z = h0.size := ⟨_, rfl⟩
    rw [← g17] at A17 st17
    have V17 := Arv.new A17 (by decide)
    have V17p : Arv Z h17 b17 k17 .byte (4 : Int32) [(.int (0 : Int32)), (.int (0 : Int32)), (.int (0 : Int32)), (.int (0 : Int32))] (.int (0 : Int32)) := V17.pad (pad_rep [] (.int (0 : Int32)) 4)
    have g_b17 : n0 ≤ b17 := Nat.le_trans Z0 (Nat.le_of_eq g17.symm)
    have sz_b17 : h0.size ≤ b17 := Nat.le_trans K0.1 (Nat.le_of_eq g17.symm)
    have K17 : Keep h0 h17 [] := K0.ext E17
    refine Go.step st17 ?_
    show Go _ _ _ _ T17 (mkF m 52 #[.val (.int p0), .val (.int p1), .val (.int p2), .val (.int p3), .val (.int (1 : Int32)), .val (.ref (w 1)), .val (.int (Int32.ofNat o)), .val (.int (Int32.ofNat k)), .unset, .unset, .unset, .unset] [(.ref b17)])
    refine Go.step (fun _ zz => XS.astore X17.here hx rfl (hb hby at_52) rfl rfl (l' := #[.val (.int p0), .val (.int p1), .val (.int p2), .val (.int p3), .val (.int (1 : Int32)), .val (.ref (w 1)), .val (.int (Int32.ofNat o)), .val (.int (Int32.ofNat k)), .val (.ref b17), .unset, .unset, .unset]) rfl zz) ?_
    show Go _ _ _ _ T17 (mkF m 54 #[.val (.int p0), .val (.int p1), .val (.int p2), .val (.int p3), .val (.int (1 : Int32)), .val (.ref (w 1)), .val (.int (Int32.ofNat o)), .val (.int (Int32.ofNat k)), .val (.ref b17), .unset, .unset, .unset] [])
    refine Go.step (fun _ zz => XS.aload X17.here hx rfl (hb hby at_54) rfl rfl zz) ?_
    show Go _ _ _ _ T17 (mkF m 56 #[.val (.int p0), .val (.int p1), .val (.int p2), .val (.int p3), .val (.int (1 : Int32)), .val (.ref (w 1)), .val (.int (Int32.ofNat o)), .val (.int (Int32.ofNat k)), .val (.ref b17), .unset, .unset, .unset] [(.ref b17)])
    refine Go.step (fun _ zz => XS.iconst X17.here hx rfl (hb hby at_56) zz) ?_
    show Go _ _ _ _ T17 (mkF m 57 #[.val (.int p0), .val (.int p1), .val (.int p2), .val (.int p3), .val (.int (1 : Int32)), .val (.ref (w 1)), .val (.int (Int32.ofNat o)), .val (.int (Int32.ofNat k)), .val (.ref b17), .unset, .unset, .unset] [(.int (0 : Int32)), (.ref b17)])
    refine Go.step (fun _ zz => XS.iloadN X17.here hx rfl (hb hby at_57) rfl zz) ?_
    show Go _ _ _ _ T17 (mkF m 58 #[.val (.int p0), .val (.int p1), .val (.int p2), .val (.int p3), .val (.int (1 : Int32)), .val (.ref (w 1)), .val (.int (Int32.ofNat o)), .val (.int (Int32.ofNat k)), .val (.ref b17), .unset, .unset, .unset] [(.int p2), (.int (0 : Int32)), (.ref b17)])
    refine Go.step (fun _ zz => XS.i2b X17.here hx rfl (hb hby at_58) rfl zz) ?_
    show Go _ _ _ _ T17 (mkF m 59 #[.val (.int p0), .val (.int p1), .val (.int p2), .val (.int p3), .val (.int (1 : Int32)), .val (.ref (w 1)), .val (.int (Int32.ofNat o)), .val (.int (Int32.ofNat k)), .val (.ref b17), .unset, .unset, .unset] [(.int (p2.toInt8.toInt32)), (.int (0 : Int32)), (.ref b17)])
    obtain ⟨c18, Ar18, q18, S18, M18, H18, G18⟩ := id V17p
    have hin18 : ¬ ((0 : Int32) < 0 ∨ c18.slots.size ≤ ((0 : Int32)).toNatClampNeg) := inb_of S18 ⟨by decide, by decide⟩
    obtain ⟨T19, h19, X19, e19, W19, st19⟩ := stB X17 hx hZ e17 Ar18 (j := (0 : Int32)) hin18 (g := (mkF m 59 #[.val (.int p0), .val (.int p1), .val (.int p2), .val (.int p3), .val (.int (1 : Int32)), .val (.ref (w 1)), .val (.int (Int32.ofNat o)), .val (.int (Int32.ofNat k)), .val (.ref b17), .unset, .unset, .unset] [(.int (p2.toInt8.toInt32)), (.int (0 : Int32)), (.ref b17)])) rfl rfl (hb hby at_59)
    have V19 := Arv.set Ar18 q18 S18 M18 H18 G18 (fits_nar_byte _) W19 0 rfl (Nat.le_of_ble_eq_true rfl)
    have N19 := Fr.snoc X19 N0 g_b17
    have K19 : Keep h0 h19 [] := K17.wr W19 (Or.inr sz_b17)
    refine Go.step st19 ?_
    show Go _ _ _ _ T19 (mkF m 60 #[.val (.int p0), .val (.int p1), .val (.int p2), .val (.int p3), .val (.int (1 : Int32)), .val (.ref (w 1)), .val (.int (Int32.ofNat o)), .val (.int (Int32.ofNat k)), .val (.ref b17), .unset, .unset, .unset] [])
    refine Go.step (fun _ zz => XS.aload X19.here hx rfl (hb hby at_60) rfl rfl zz) ?_
    show Go _ _ _ _ T19 (mkF m 62 #[.val (.int p0), .val (.int p1), .val (.int p2), .val (.int p3), .val (.int (1 : Int32)), .val (.ref (w 1)), .val (.int (Int32.ofNat o)), .val (.int (Int32.ofNat k)), .val (.ref b17), .unset, .unset, .unset] [(.ref b17)])
    refine Go.step (fun _ zz => XS.iconst X19.here hx rfl (hb hby at_62) zz) ?_
    show Go _ _ _ _ T19 (mkF m 63 #[.val (.int p0), .val (.int p1), .val (.int p2), .val (.int p3), .val (.int (1 : Int32)), .val (.ref (w 1)), .val (.int (Int32.ofNat o)), .val (.int (Int32.ofNat k)), .val (.ref b17), .unset, .unset, .unset] [(.int (1 : Int32)), (.ref b17)])
    refine Go.step (fun _ zz => XS.iloadN X19.here hx rfl (hb hby at_63) rfl zz) ?_
    show Go _ _ _ _ T19 (mkF m 64 #[.val (.int p0), .val (.int p1), .val (.int p2), .val (.int p3), .val (.int (1 : Int32)), .val (.ref (w 1)), .val (.int (Int32.ofNat o)), .val (.int (Int32.ofNat k)), .val (.ref b17), .unset, .unset, .unset] [(.int p2), (.int (1 : Int32)), (.ref b17)])
    refine Go.step (fun _ zz => XS.bipush X19.here hx rfl (hb hby at_64) zz) ?_
    show Go _ _ _ _ T19 (mkF m 66 #[.val (.int p0), .val (.int p1), .val (.int p2), .val (.int p3), .val (.int (1 : Int32)), .val (.ref (w 1)), .val (.int (Int32.ofNat o)), .val (.int (Int32.ofNat k)), .val (.ref b17), .unset, .unset, .unset] [(.int (8 : Int32)), (.int p2), (.int (1 : Int32)), (.ref b17)])
    refine Go.step (fun _ zz => XS.iushr X19.here hx rfl (hb hby at_66) rfl zz) ?_
    show Go _ _ _ _ T19 (mkF m 67 #[.val (.int p0), .val (.int p1), .val (.int p2), .val (.int p3), .val (.int (1 : Int32)), .val (.ref (w 1)), .val (.int (Int32.ofNat o)), .val (.int (Int32.ofNat k)), .val (.ref b17), .unset, .unset, .unset] [(.int ((p2.toUInt32 >>> ((8 : Int32) &&& 31).toUInt32).toInt32)), (.int (1 : Int32)), (.ref b17)])
    refine Go.step (fun _ zz => XS.i2b X19.here hx rfl (hb hby at_67) rfl zz) ?_
    show Go _ _ _ _ T19 (mkF m 68 #[.val (.int p0), .val (.int p1), .val (.int p2), .val (.int p3), .val (.int (1 : Int32)), .val (.ref (w 1)), .val (.int (Int32.ofNat o)), .val (.int (Int32.ofNat k)), .val (.ref b17), .unset, .unset, .unset] [(.int (((p2.toUInt32 >>> ((8 : Int32) &&& 31).toUInt32).toInt32).toInt8.toInt32)), (.int (1 : Int32)), (.ref b17)])
    obtain ⟨c20, Ar20, q20, S20, M20, H20, G20⟩ := id V19
    have hin20 : ¬ ((1 : Int32) < 0 ∨ c20.slots.size ≤ ((1 : Int32)).toNatClampNeg) := inb_of S20 ⟨by decide, by decide⟩
    obtain ⟨T21, h21, X21, e21, W21, st21⟩ := stB X19 hx hZ e19 Ar20 (j := (1 : Int32)) hin20 (g := (mkF m 68 #[.val (.int p0), .val (.int p1), .val (.int p2), .val (.int p3), .val (.int (1 : Int32)), .val (.ref (w 1)), .val (.int (Int32.ofNat o)), .val (.int (Int32.ofNat k)), .val (.ref b17), .unset, .unset, .unset] [(.int (((p2.toUInt32 >>> ((8 : Int32) &&& 31).toUInt32).toInt32).toInt8.toInt32)), (.int (1 : Int32)), (.ref b17)])) rfl rfl (hb hby at_68)
    have V21 := Arv.set Ar20 q20 S20 M20 H20 G20 (fits_nar_byte _) W21 1 rfl (Nat.le_of_ble_eq_true rfl)
    have N21 := Fr.snoc X21 N19 g_b17
    have K21 : Keep h0 h21 [] := K19.wr W21 (Or.inr sz_b17)
    refine Go.step st21 ?_
    show Go _ _ _ _ T21 (mkF m 69 #[.val (.int p0), .val (.int p1), .val (.int p2), .val (.int p3), .val (.int (1 : Int32)), .val (.ref (w 1)), .val (.int (Int32.ofNat o)), .val (.int (Int32.ofNat k)), .val (.ref b17), .unset, .unset, .unset] [])
    refine Go.step (fun _ zz => XS.aload X21.here hx rfl (hb hby at_69) rfl rfl zz) ?_
    show Go _ _ _ _ T21 (mkF m 71 #[.val (.int p0), .val (.int p1), .val (.int p2), .val (.int p3), .val (.int (1 : Int32)), .val (.ref (w 1)), .val (.int (Int32.ofNat o)), .val (.int (Int32.ofNat k)), .val (.ref b17), .unset, .unset, .unset] [(.ref b17)])
    refine Go.step (fun _ zz => XS.iconst X21.here hx rfl (hb hby at_71) zz) ?_
    show Go _ _ _ _ T21 (mkF m 72 #[.val (.int p0), .val (.int p1), .val (.int p2), .val (.int p3), .val (.int (1 : Int32)), .val (.ref (w 1)), .val (.int (Int32.ofNat o)), .val (.int (Int32.ofNat k)), .val (.ref b17), .unset, .unset, .unset] [(.int (2 : Int32)), (.ref b17)])
    refine Go.step (fun _ zz => XS.iloadN X21.here hx rfl (hb hby at_72) rfl zz) ?_
    show Go _ _ _ _ T21 (mkF m 73 #[.val (.int p0), .val (.int p1), .val (.int p2), .val (.int p3), .val (.int (1 : Int32)), .val (.ref (w 1)), .val (.int (Int32.ofNat o)), .val (.int (Int32.ofNat k)), .val (.ref b17), .unset, .unset, .unset] [(.int p2), (.int (2 : Int32)), (.ref b17)])
    refine Go.step (fun _ zz => XS.bipush X21.here hx rfl (hb hby at_73) zz) ?_
    show Go _ _ _ _ T21 (mkF m 75 #[.val (.int p0), .val (.int p1), .val (.int p2), .val (.int p3), .val (.int (1 : Int32)), .val (.ref (w 1)), .val (.int (Int32.ofNat o)), .val (.int (Int32.ofNat k)), .val (.ref b17), .unset, .unset, .unset] [(.int (16 : Int32)), (.int p2), (.int (2 : Int32)), (.ref b17)])
    refine Go.step (fun _ zz => XS.iushr X21.here hx rfl (hb hby at_75) rfl zz) ?_
    show Go _ _ _ _ T21 (mkF m 76 #[.val (.int p0), .val (.int p1), .val (.int p2), .val (.int p3), .val (.int (1 : Int32)), .val (.ref (w 1)), .val (.int (Int32.ofNat o)), .val (.int (Int32.ofNat k)), .val (.ref b17), .unset, .unset, .unset] [(.int ((p2.toUInt32 >>> ((16 : Int32) &&& 31).toUInt32).toInt32)), (.int (2 : Int32)), (.ref b17)])
    refine Go.step (fun _ zz => XS.i2b X21.here hx rfl (hb hby at_76) rfl zz) ?_
    show Go _ _ _ _ T21 (mkF m 77 #[.val (.int p0), .val (.int p1), .val (.int p2), .val (.int p3), .val (.int (1 : Int32)), .val (.ref (w 1)), .val (.int (Int32.ofNat o)), .val (.int (Int32.ofNat k)), .val (.ref b17), .unset, .unset, .unset] [(.int (((p2.toUInt32 >>> ((16 : Int32) &&& 31).toUInt32).toInt32).toInt8.toInt32)), (.int (2 : Int32)), (.ref b17)])
    obtain ⟨c22, Ar22, q22, S22, M22, H22, G22⟩ := id V21
    have hin22 : ¬ ((2 : Int32) < 0 ∨ c22.slots.size ≤ ((2 : Int32)).toNatClampNeg) := inb_of S22 ⟨by decide, by decide⟩
    obtain ⟨T23, h23, X23, e23, W23, st23⟩ := stB X21 hx hZ e21 Ar22 (j := (2 : Int32)) hin22 (g := (mkF m 77 #[.val (.int p0), .val (.int p1), .val (.int p2), .val (.int p3), .val (.int (1 : Int32)), .val (.ref (w 1)), .val (.int (Int32.ofNat o)), .val (.int (Int32.ofNat k)), .val (.ref b17), .unset, .unset, .unset] [(.int (((p2.toUInt32 >>> ((16 : Int32) &&& 31).toUInt32).toInt32).toInt8.toInt32)), (.int (2 : Int32)), (.ref b17)])) rfl rfl (hb hby at_77)
    have V23 := Arv.set Ar22 q22 S22 M22 H22 G22 (fits_nar_byte _) W23 2 rfl (Nat.le_of_ble_eq_true rfl)
    have N23 := Fr.snoc X23 N21 g_b17
    have K23 : Keep h0 h23 [] := K21.wr W23 (Or.inr sz_b17)
    refine Go.step st23 ?_
    show Go _ _ _ _ T23 (mkF m 78 #[.val (.int p0), .val (.int p1), .val (.int p2), .val (.int p3), .val (.int (1 : Int32)), .val (.ref (w 1)), .val (.int (Int32.ofNat o)), .val (.int (Int32.ofNat k)), .val (.ref b17), .unset, .unset, .unset] [])
    refine Go.step (fun _ zz => XS.aload X23.here hx rfl (hb hby at_78) rfl rfl zz) ?_
    show Go _ _ _ _ T23 (mkF m 80 #[.val (.int p0), .val (.int p1), .val (.int p2), .val (.int p3), .val (.int (1 : Int32)), .val (.ref (w 1)), .val (.int (Int32.ofNat o)), .val (.int (Int32.ofNat k)), .val (.ref b17), .unset, .unset, .unset] [(.ref b17)])
    refine Go.step (fun _ zz => XS.iconst X23.here hx rfl (hb hby at_80) zz) ?_
    show Go _ _ _ _ T23 (mkF m 81 #[.val (.int p0), .val (.int p1), .val (.int p2), .val (.int p3), .val (.int (1 : Int32)), .val (.ref (w 1)), .val (.int (Int32.ofNat o)), .val (.int (Int32.ofNat k)), .val (.ref b17), .unset, .unset, .unset] [(.int (3 : Int32)), (.ref b17)])
    refine Go.step (fun _ zz => XS.iloadN X23.here hx rfl (hb hby at_81) rfl zz) ?_
    show Go _ _ _ _ T23 (mkF m 82 #[.val (.int p0), .val (.int p1), .val (.int p2), .val (.int p3), .val (.int (1 : Int32)), .val (.ref (w 1)), .val (.int (Int32.ofNat o)), .val (.int (Int32.ofNat k)), .val (.ref b17), .unset, .unset, .unset] [(.int p2), (.int (3 : Int32)), (.ref b17)])
    refine Go.step (fun _ zz => XS.bipush X23.here hx rfl (hb hby at_82) zz) ?_
    show Go _ _ _ _ T23 (mkF m 84 #[.val (.int p0), .val (.int p1), .val (.int p2), .val (.int p3), .val (.int (1 : Int32)), .val (.ref (w 1)), .val (.int (Int32.ofNat o)), .val (.int (Int32.ofNat k)), .val (.ref b17), .unset, .unset, .unset] [(.int (24 : Int32)), (.int p2), (.int (3 : Int32)), (.ref b17)])
    refine Go.step (fun _ zz => XS.iushr X23.here hx rfl (hb hby at_84) rfl zz) ?_
    show Go _ _ _ _ T23 (mkF m 85 #[.val (.int p0), .val (.int p1), .val (.int p2), .val (.int p3), .val (.int (1 : Int32)), .val (.ref (w 1)), .val (.int (Int32.ofNat o)), .val (.int (Int32.ofNat k)), .val (.ref b17), .unset, .unset, .unset] [(.int ((p2.toUInt32 >>> ((24 : Int32) &&& 31).toUInt32).toInt32)), (.int (3 : Int32)), (.ref b17)])
    refine Go.step (fun _ zz => XS.i2b X23.here hx rfl (hb hby at_85) rfl zz) ?_
    show Go _ _ _ _ T23 (mkF m 86 #[.val (.int p0), .val (.int p1), .val (.int p2), .val (.int p3), .val (.int (1 : Int32)), .val (.ref (w 1)), .val (.int (Int32.ofNat o)), .val (.int (Int32.ofNat k)), .val (.ref b17), .unset, .unset, .unset] [(.int (((p2.toUInt32 >>> ((24 : Int32) &&& 31).toUInt32).toInt32).toInt8.toInt32)), (.int (3 : Int32)), (.ref b17)])
    obtain ⟨c24, Ar24, q24, S24, M24, H24, G24⟩ := id V23
    have hin24 : ¬ ((3 : Int32) < 0 ∨ c24.slots.size ≤ ((3 : Int32)).toNatClampNeg) := inb_of S24 ⟨by decide, by decide⟩
    obtain ⟨T25, h25, X25, e25, W25, st25⟩ := stB X23 hx hZ e23 Ar24 (j := (3 : Int32)) hin24 (g := (mkF m 86 #[.val (.int p0), .val (.int p1), .val (.int p2), .val (.int p3), .val (.int (1 : Int32)), .val (.ref (w 1)), .val (.int (Int32.ofNat o)), .val (.int (Int32.ofNat k)), .val (.ref b17), .unset, .unset, .unset] [(.int (((p2.toUInt32 >>> ((24 : Int32) &&& 31).toUInt32).toInt32).toInt8.toInt32)), (.int (3 : Int32)), (.ref b17)])) rfl rfl (hb hby at_86)
    have V25 := Arv.set Ar24 q24 S24 M24 H24 G24 (fits_nar_byte _) W25 3 rfl (Nat.le_of_ble_eq_true rfl)
    have N25 := Fr.snoc X25 N23 g_b17
    have K25 : Keep h0 h25 [] := K23.wr W25 (Or.inr sz_b17)
    refine Go.step st25 ?_
    show Go _ _ _ _ T25 (mkF m 87 #[.val (.int p0), .val (.int p1), .val (.int p2), .val (.int p3), .val (.int (1 : Int32)), .val (.ref (w 1)), .val (.int (Int32.ofNat o)), .val (.int (Int32.ofNat k)), .val (.ref b17), .unset, .unset, .unset] [])
    refine Go.step (fun _ zz => XS.aload X25.here hx rfl (hb hby at_87) rfl rfl zz) ?_
    show Go _ _ _ _ T25 (mkF m 89 #[.val (.int p0), .val (.int p1), .val (.int p2), .val (.int p3), .val (.int (1 : Int32)), .val (.ref (w 1)), .val (.int (Int32.ofNat o)), .val (.int (Int32.ofNat k)), .val (.ref b17), .unset, .unset, .unset] [(.ref b17)])
    refine Go.step (fun _ zz => XS.iconst X25.here hx rfl (hb hby at_89) zz) ?_
    show Go _ _ _ _ T25 (mkF m 90 #[.val (.int p0), .val (.int p1), .val (.int p2), .val (.int p3), .val (.int (1 : Int32)), .val (.ref (w 1)), .val (.int (Int32.ofNat o)), .val (.int (Int32.ofNat k)), .val (.ref b17), .unset, .unset, .unset] [(.int (0 : Int32)), (.ref b17)])
    refine Go.step (fun _ zz => XS.iload X25.here hx rfl (hb hby at_90) rfl zz) ?_
    show Go _ _ _ _ T25 (mkF m 92 #[.val (.int p0), .val (.int p1), .val (.int p2), .val (.int p3), .val (.int (1 : Int32)), .val (.ref (w 1)), .val (.int (Int32.ofNat o)), .val (.int (Int32.ofNat k)), .val (.ref b17), .unset, .unset, .unset] [(.int (Int32.ofNat o)), (.int (0 : Int32)), (.ref b17)])
    refine Go.step (fun _ zz => XS.iload X25.here hx rfl (hb hby at_92) rfl zz) ?_
    show Go _ _ _ _ T25 (mkF m 94 #[.val (.int p0), .val (.int p1), .val (.int p2), .val (.int p3), .val (.int (1 : Int32)), .val (.ref (w 1)), .val (.int (Int32.ofNat o)), .val (.int (Int32.ofNat k)), .val (.ref b17), .unset, .unset, .unset] [(.int (Int32.ofNat k)), (.int (Int32.ofNat o)), (.int (0 : Int32)), (.ref b17)])
    obtain ⟨_, _, ⟨T26, L26, k26, n26⟩, -, X26, ⟨Lc26, hQ26, l26, y26, z26⟩, st26⟩ := Jvm.LawKit.callS X25 hx (y := (⟨"com/example/assayline/assayline/wire/AstmChecksumOfPinLaw", "part", "([BIII)I"⟩ : MethodName)) hown (mvT hZ (hw _ (List.mem_of_getElem? (i := 4) rfl))) (mvT hZ (hw _ (List.mem_of_getElem? (i := 5) rfl))) (mvT hZ (hw _ (List.mem_of_getElem? (i := 6) rfl))) (mvT hZ (hw _ (List.mem_of_getElem? (i := 7) rfl))) (by decide) (backOf (W := 0) (rm1 l Z a0 hw [] b17 0 (Int32.ofNat o) (Int32.ofNat k) (own_b p2) k17 h25 n0 (Nat.le_trans (Nat.le_trans (Nat.le_trans (Nat.le_trans (Nat.le_trans Z0 E17.1) (Keep.of_wr W19).1) (Keep.of_wr W21).1) (Keep.of_wr W23).1) (Keep.of_wr W25).1) (by decide) V25) hZ (hw _ (List.mem_of_getElem? (i := 7) rfl)) (hw _ (List.mem_of_getElem? (i := 6) rfl)) (by decide) (by decide)) (g := (mkF m 94 #[.val (.int p0), .val (.int p1), .val (.int p2), .val (.int p3), .val (.int (1 : Int32)), .val (.ref (w 1)), .val (.int (Int32.ofNat o)), .val (.int (Int32.ofNat k)), .val (.ref b17), .unset, .unset, .unset] [(.int (Int32.ofNat k)), (.int (Int32.ofNat o)), (.int (0 : Int32)), (.ref b17)])) rfl (by rw [hml]; rfl) (argsL := [(.ref b17), (.int (0 : Int32)), (.int (Int32.ofNat o)), (.int (Int32.ofNat k))]) (rest := []) (lenOf own_pd2 rfl) rfl (by show 2 * 0 + _ ≤ _; exact Nat.le_of_eq rfl) (hb hby at_94) (fun _ _ => ⟨rfl, e25, (by decide : 1 + 0 ≤ _), (by decide : 4 + 0 ≤ _)⟩)
    dsimp only [Pt.U, Pt.locs, Pt.cells, Pt.slots] at X26 l26 y26 z26 st26 hQ26
    subst l26 y26 z26
    obtain ⟨rfl, N26q, e26⟩ := hQ26
    have N26 := Fr.app N25 N26q
    refine Go.step st26 ?_
    show Go _ _ _ _ T26 (mkF m 97 #[.val (.int p0), .val (.int p1), .val (.int p2), .val (.int p3), .val (.int (1 : Int32)), .val (.ref (w 1)), .val (.int (Int32.ofNat o)), .val (.int (Int32.ofNat k)), .val (.ref b17), .unset, .unset, .unset] [(.int (own_part (own_b p2) 0 (Int32.ofNat o) (Int32.ofNat k)))])
    refine Go.step (fun _ zz => XS.aload X26.here hx rfl (hb hby at_97) rfl rfl zz) ?_
    show Go _ _ _ _ T26 (mkF m 99 #[.val (.int p0), .val (.int p1), .val (.int p2), .val (.int p3), .val (.int (1 : Int32)), .val (.ref (w 1)), .val (.int (Int32.ofNat o)), .val (.int (Int32.ofNat k)), .val (.ref b17), .unset, .unset, .unset] [(.ref b17), (.int (own_part (own_b p2) 0 (Int32.ofNat o) (Int32.ofNat k)))])
    refine Go.step (fun _ zz => XS.iconst X26.here hx rfl (hb hby at_99) zz) ?_
    show Go _ _ _ _ T26 (mkF m 100 #[.val (.int p0), .val (.int p1), .val (.int p2), .val (.int p3), .val (.int (1 : Int32)), .val (.ref (w 1)), .val (.int (Int32.ofNat o)), .val (.int (Int32.ofNat k)), .val (.ref b17), .unset, .unset, .unset] [(.int (1 : Int32)), (.ref b17), (.int (own_part (own_b p2) 0 (Int32.ofNat o) (Int32.ofNat k)))])
    refine Go.step (fun _ zz => XS.iload X26.here hx rfl (hb hby at_100) rfl zz) ?_
    show Go _ _ _ _ T26 (mkF m 102 #[.val (.int p0), .val (.int p1), .val (.int p2), .val (.int p3), .val (.int (1 : Int32)), .val (.ref (w 1)), .val (.int (Int32.ofNat o)), .val (.int (Int32.ofNat k)), .val (.ref b17), .unset, .unset, .unset] [(.int (Int32.ofNat o)), (.int (1 : Int32)), (.ref b17), (.int (own_part (own_b p2) 0 (Int32.ofNat o) (Int32.ofNat k)))])
    refine Go.step (fun _ zz => XS.iload X26.here hx rfl (hb hby at_102) rfl zz) ?_
    show Go _ _ _ _ T26 (mkF m 104 #[.val (.int p0), .val (.int p1), .val (.int p2), .val (.int p3), .val (.int (1 : Int32)), .val (.ref (w 1)), .val (.int (Int32.ofNat o)), .val (.int (Int32.ofNat k)), .val (.ref b17), .unset, .unset, .unset] [(.int (Int32.ofNat k)), (.int (Int32.ofNat o)), (.int (1 : Int32)), (.ref b17), (.int (own_part (own_b p2) 0 (Int32.ofNat o) (Int32.ofNat k)))])
    obtain ⟨_, _, ⟨T27, L27, k27, n27⟩, -, X27, ⟨Lc27, hQ27, l27, y27, z27⟩, st27⟩ := Jvm.LawKit.callS X26 hx (y := (⟨"com/example/assayline/assayline/wire/AstmChecksumOfPinLaw", "part", "([BIII)I"⟩ : MethodName)) hown (mvT hZ (hw _ (List.mem_of_getElem? (i := 4) rfl))) (mvT hZ (hw _ (List.mem_of_getElem? (i := 5) rfl))) (mvT hZ (hw _ (List.mem_of_getElem? (i := 6) rfl))) (mvT hZ (hw _ (List.mem_of_getElem? (i := 7) rfl))) (by decide) (backOf (W := 1) (rm1 l Z a0 hw [] b17 1 (Int32.ofNat o) (Int32.ofNat k) (own_b p2) k17 h25 n0 (Nat.le_trans (Nat.le_trans (Nat.le_trans (Nat.le_trans (Nat.le_trans Z0 E17.1) (Keep.of_wr W19).1) (Keep.of_wr W21).1) (Keep.of_wr W23).1) (Keep.of_wr W25).1) (by decide) V25) hZ (hw _ (List.mem_of_getElem? (i := 7) rfl)) (hw _ (List.mem_of_getElem? (i := 6) rfl)) (by decide) (by decide)) (g := (mkF m 104 #[.val (.int p0), .val (.int p1), .val (.int p2), .val (.int p3), .val (.int (1 : Int32)), .val (.ref (w 1)), .val (.int (Int32.ofNat o)), .val (.int (Int32.ofNat k)), .val (.ref b17), .unset, .unset, .unset] [(.int (Int32.ofNat k)), (.int (Int32.ofNat o)), (.int (1 : Int32)), (.ref b17), (.int (own_part (own_b p2) 0 (Int32.ofNat o) (Int32.ofNat k)))])) rfl (by rw [hml]; rfl) (argsL := [(.ref b17), (.int (1 : Int32)), (.int (Int32.ofNat o)), (.int (Int32.ofNat k))]) (rest := [(.int (own_part (own_b p2) 0 (Int32.ofNat o) (Int32.ofNat k)))]) (lenOf own_pd2 rfl) rfl (by show 2 * 0 + _ ≤ _; exact Nat.le_of_eq rfl) (hb hby at_104) (fun _ _ => ⟨rfl, e26, (by decide : 1 + 0 ≤ _), (by decide : 4 + 0 ≤ _)⟩)
    dsimp only [Pt.U, Pt.locs, Pt.cells, Pt.slots] at X27 l27 y27 z27 st27 hQ27
    subst l27 y27 z27
    obtain ⟨rfl, N27q, e27⟩ := hQ27
    have N27 := Fr.app N26 N27q
    refine Go.step st27 ?_
    show Go _ _ _ _ T27 (mkF m 107 #[.val (.int p0), .val (.int p1), .val (.int p2), .val (.int p3), .val (.int (1 : Int32)), .val (.ref (w 1)), .val (.int (Int32.ofNat o)), .val (.int (Int32.ofNat k)), .val (.ref b17), .unset, .unset, .unset] [(.int (own_part (own_b p2) 1 (Int32.ofNat o) (Int32.ofNat k))), (.int (own_part (own_b p2) 0 (Int32.ofNat o) (Int32.ofNat k)))])
    refine Go.step (fun _ zz => XS.iadd X27.here hx rfl (hb hby at_107) rfl zz) ?_
    show Go _ _ _ _ T27 (mkF m 108 #[.val (.int p0), .val (.int p1), .val (.int p2), .val (.int p3), .val (.int (1 : Int32)), .val (.ref (w 1)), .val (.int (Int32.ofNat o)), .val (.int (Int32.ofNat k)), .val (.ref b17), .unset, .unset, .unset] [(.int ((own_part (own_b p2) 0 (Int32.ofNat o) (Int32.ofNat k)) + (own_part (own_b p2) 1 (Int32.ofNat o) (Int32.ofNat k))))])
    refine Go.step (fun _ zz => XS.aload X27.here hx rfl (hb hby at_108) rfl rfl zz) ?_
    show Go _ _ _ _ T27 (mkF m 110 #[.val (.int p0), .val (.int p1), .val (.int p2), .val (.int p3), .val (.int (1 : Int32)), .val (.ref (w 1)), .val (.int (Int32.ofNat o)), .val (.int (Int32.ofNat k)), .val (.ref b17), .unset, .unset, .unset] [(.ref b17), (.int ((own_part (own_b p2) 0 (Int32.ofNat o) (Int32.ofNat k)) + (own_part (own_b p2) 1 (Int32.ofNat o) (Int32.ofNat k))))])
    refine Go.step (fun _ zz => XS.iconst X27.here hx rfl (hb hby at_110) zz) ?_
    show Go _ _ _ _ T27 (mkF m 111 #[.val (.int p0), .val (.int p1), .val (.int p2), .val (.int p3), .val (.int (1 : Int32)), .val (.ref (w 1)), .val (.int (Int32.ofNat o)), .val (.int (Int32.ofNat k)), .val (.ref b17), .unset, .unset, .unset] [(.int (2 : Int32)), (.ref b17), (.int ((own_part (own_b p2) 0 (Int32.ofNat o) (Int32.ofNat k)) + (own_part (own_b p2) 1 (Int32.ofNat o) (Int32.ofNat k))))])
    refine Go.step (fun _ zz => XS.iload X27.here hx rfl (hb hby at_111) rfl zz) ?_
    show Go _ _ _ _ T27 (mkF m 113 #[.val (.int p0), .val (.int p1), .val (.int p2), .val (.int p3), .val (.int (1 : Int32)), .val (.ref (w 1)), .val (.int (Int32.ofNat o)), .val (.int (Int32.ofNat k)), .val (.ref b17), .unset, .unset, .unset] [(.int (Int32.ofNat o)), (.int (2 : Int32)), (.ref b17), (.int ((own_part (own_b p2) 0 (Int32.ofNat o) (Int32.ofNat k)) + (own_part (own_b p2) 1 (Int32.ofNat o) (Int32.ofNat k))))])
    refine Go.step (fun _ zz => XS.iload X27.here hx rfl (hb hby at_113) rfl zz) ?_
    show Go _ _ _ _ T27 (mkF m 115 #[.val (.int p0), .val (.int p1), .val (.int p2), .val (.int p3), .val (.int (1 : Int32)), .val (.ref (w 1)), .val (.int (Int32.ofNat o)), .val (.int (Int32.ofNat k)), .val (.ref b17), .unset, .unset, .unset] [(.int (Int32.ofNat k)), (.int (Int32.ofNat o)), (.int (2 : Int32)), (.ref b17), (.int ((own_part (own_b p2) 0 (Int32.ofNat o) (Int32.ofNat k)) + (own_part (own_b p2) 1 (Int32.ofNat o) (Int32.ofNat k))))])
    obtain ⟨_, _, ⟨T28, L28, k28, n28⟩, -, X28, ⟨Lc28, hQ28, l28, y28, z28⟩, st28⟩ := Jvm.LawKit.callS X27 hx (y := (⟨"com/example/assayline/assayline/wire/AstmChecksumOfPinLaw", "part", "([BIII)I"⟩ : MethodName)) hown (mvT hZ (hw _ (List.mem_of_getElem? (i := 4) rfl))) (mvT hZ (hw _ (List.mem_of_getElem? (i := 5) rfl))) (mvT hZ (hw _ (List.mem_of_getElem? (i := 6) rfl))) (mvT hZ (hw _ (List.mem_of_getElem? (i := 7) rfl))) (by decide) (backOf (W := 1) (rm1 l Z a0 hw [] b17 2 (Int32.ofNat o) (Int32.ofNat k) (own_b p2) k17 h25 n0 (Nat.le_trans (Nat.le_trans (Nat.le_trans (Nat.le_trans (Nat.le_trans Z0 E17.1) (Keep.of_wr W19).1) (Keep.of_wr W21).1) (Keep.of_wr W23).1) (Keep.of_wr W25).1) (by decide) V25) hZ (hw _ (List.mem_of_getElem? (i := 7) rfl)) (hw _ (List.mem_of_getElem? (i := 6) rfl)) (by decide) (by decide)) (g := (mkF m 115 #[.val (.int p0), .val (.int p1), .val (.int p2), .val (.int p3), .val (.int (1 : Int32)), .val (.ref (w 1)), .val (.int (Int32.ofNat o)), .val (.int (Int32.ofNat k)), .val (.ref b17), .unset, .unset, .unset] [(.int (Int32.ofNat k)), (.int (Int32.ofNat o)), (.int (2 : Int32)), (.ref b17), (.int ((own_part (own_b p2) 0 (Int32.ofNat o) (Int32.ofNat k)) + (own_part (own_b p2) 1 (Int32.ofNat o) (Int32.ofNat k))))])) rfl (by rw [hml]; rfl) (argsL := [(.ref b17), (.int (2 : Int32)), (.int (Int32.ofNat o)), (.int (Int32.ofNat k))]) (rest := [(.int ((own_part (own_b p2) 0 (Int32.ofNat o) (Int32.ofNat k)) + (own_part (own_b p2) 1 (Int32.ofNat o) (Int32.ofNat k))))]) (lenOf own_pd2 rfl) rfl (by show 2 * 0 + _ ≤ _; exact Nat.le_of_eq rfl) (hb hby at_115) (fun _ _ => ⟨rfl, e27, (by decide : 1 + 0 ≤ _), (by decide : 4 + 0 ≤ _)⟩)
    dsimp only [Pt.U, Pt.locs, Pt.cells, Pt.slots] at X28 l28 y28 z28 st28 hQ28
    subst l28 y28 z28
    obtain ⟨rfl, N28q, e28⟩ := hQ28
    have N28 := Fr.app N27 N28q
    refine Go.step st28 ?_
    show Go _ _ _ _ T28 (mkF m 118 #[.val (.int p0), .val (.int p1), .val (.int p2), .val (.int p3), .val (.int (1 : Int32)), .val (.ref (w 1)), .val (.int (Int32.ofNat o)), .val (.int (Int32.ofNat k)), .val (.ref b17), .unset, .unset, .unset] [(.int (own_part (own_b p2) 2 (Int32.ofNat o) (Int32.ofNat k))), (.int ((own_part (own_b p2) 0 (Int32.ofNat o) (Int32.ofNat k)) + (own_part (own_b p2) 1 (Int32.ofNat o) (Int32.ofNat k))))])
    refine Go.step (fun _ zz => XS.iadd X28.here hx rfl (hb hby at_118) rfl zz) ?_
    show Go _ _ _ _ T28 (mkF m 119 #[.val (.int p0), .val (.int p1), .val (.int p2), .val (.int p3), .val (.int (1 : Int32)), .val (.ref (w 1)), .val (.int (Int32.ofNat o)), .val (.int (Int32.ofNat k)), .val (.ref b17), .unset, .unset, .unset] [(.int (((own_part (own_b p2) 0 (Int32.ofNat o) (Int32.ofNat k)) + (own_part (own_b p2) 1 (Int32.ofNat o) (Int32.ofNat k))) + (own_part (own_b p2) 2 (Int32.ofNat o) (Int32.ofNat k))))])
    refine Go.step (fun _ zz => XS.aload X28.here hx rfl (hb hby at_119) rfl rfl zz) ?_
    show Go _ _ _ _ T28 (mkF m 121 #[.val (.int p0), .val (.int p1), .val (.int p2), .val (.int p3), .val (.int (1 : Int32)), .val (.ref (w 1)), .val (.int (Int32.ofNat o)), .val (.int (Int32.ofNat k)), .val (.ref b17), .unset, .unset, .unset] [(.ref b17), (.int (((own_part (own_b p2) 0 (Int32.ofNat o) (Int32.ofNat k)) + (own_part (own_b p2) 1 (Int32.ofNat o) (Int32.ofNat k))) + (own_part (own_b p2) 2 (Int32.ofNat o) (Int32.ofNat k))))])
    refine Go.step (fun _ zz => XS.iconst X28.here hx rfl (hb hby at_121) zz) ?_
    show Go _ _ _ _ T28 (mkF m 122 #[.val (.int p0), .val (.int p1), .val (.int p2), .val (.int p3), .val (.int (1 : Int32)), .val (.ref (w 1)), .val (.int (Int32.ofNat o)), .val (.int (Int32.ofNat k)), .val (.ref b17), .unset, .unset, .unset] [(.int (3 : Int32)), (.ref b17), (.int (((own_part (own_b p2) 0 (Int32.ofNat o) (Int32.ofNat k)) + (own_part (own_b p2) 1 (Int32.ofNat o) (Int32.ofNat k))) + (own_part (own_b p2) 2 (Int32.ofNat o) (Int32.ofNat k))))])
    refine Go.step (fun _ zz => XS.iload X28.here hx rfl (hb hby at_122) rfl zz) ?_
    show Go _ _ _ _ T28 (mkF m 124 #[.val (.int p0), .val (.int p1), .val (.int p2), .val (.int p3), .val (.int (1 : Int32)), .val (.ref (w 1)), .val (.int (Int32.ofNat o)), .val (.int (Int32.ofNat k)), .val (.ref b17), .unset, .unset, .unset] [(.int (Int32.ofNat o)), (.int (3 : Int32)), (.ref b17), (.int (((own_part (own_b p2) 0 (Int32.ofNat o) (Int32.ofNat k)) + (own_part (own_b p2) 1 (Int32.ofNat o) (Int32.ofNat k))) + (own_part (own_b p2) 2 (Int32.ofNat o) (Int32.ofNat k))))])
    refine Go.step (fun _ zz => XS.iload X28.here hx rfl (hb hby at_124) rfl zz) ?_
    show Go _ _ _ _ T28 (mkF m 126 #[.val (.int p0), .val (.int p1), .val (.int p2), .val (.int p3), .val (.int (1 : Int32)), .val (.ref (w 1)), .val (.int (Int32.ofNat o)), .val (.int (Int32.ofNat k)), .val (.ref b17), .unset, .unset, .unset] [(.int (Int32.ofNat k)), (.int (Int32.ofNat o)), (.int (3 : Int32)), (.ref b17), (.int (((own_part (own_b p2) 0 (Int32.ofNat o) (Int32.ofNat k)) + (own_part (own_b p2) 1 (Int32.ofNat o) (Int32.ofNat k))) + (own_part (own_b p2) 2 (Int32.ofNat o) (Int32.ofNat k))))])
    obtain ⟨_, _, ⟨T29, L29, k29, n29⟩, -, X29, ⟨Lc29, hQ29, l29, y29, z29⟩, st29⟩ := Jvm.LawKit.callS X28 hx (y := (⟨"com/example/assayline/assayline/wire/AstmChecksumOfPinLaw", "part", "([BIII)I"⟩ : MethodName)) hown (mvT hZ (hw _ (List.mem_of_getElem? (i := 4) rfl))) (mvT hZ (hw _ (List.mem_of_getElem? (i := 5) rfl))) (mvT hZ (hw _ (List.mem_of_getElem? (i := 6) rfl))) (mvT hZ (hw _ (List.mem_of_getElem? (i := 7) rfl))) (by decide) (backOf (W := 1) (rm1 l Z a0 hw [] b17 3 (Int32.ofNat o) (Int32.ofNat k) (own_b p2) k17 h25 n0 (Nat.le_trans (Nat.le_trans (Nat.le_trans (Nat.le_trans (Nat.le_trans Z0 E17.1) (Keep.of_wr W19).1) (Keep.of_wr W21).1) (Keep.of_wr W23).1) (Keep.of_wr W25).1) (by decide) V25) hZ (hw _ (List.mem_of_getElem? (i := 7) rfl)) (hw _ (List.mem_of_getElem? (i := 6) rfl)) (by decide) (by decide)) (g := (mkF m 126 #[.val (.int p0), .val (.int p1), .val (.int p2), .val (.int p3), .val (.int (1 : Int32)), .val (.ref (w 1)), .val (.int (Int32.ofNat o)), .val (.int (Int32.ofNat k)), .val (.ref b17), .unset, .unset, .unset] [(.int (Int32.ofNat k)), (.int (Int32.ofNat o)), (.int (3 : Int32)), (.ref b17), (.int (((own_part (own_b p2) 0 (Int32.ofNat o) (Int32.ofNat k)) + (own_part (own_b p2) 1 (Int32.ofNat o) (Int32.ofNat k))) + (own_part (own_b p2) 2 (Int32.ofNat o) (Int32.ofNat k))))])) rfl (by rw [hml]; rfl) (argsL := [(.ref b17), (.int (3 : Int32)), (.int (Int32.ofNat o)), (.int (Int32.ofNat k))]) (rest := [(.int (((own_part (own_b p2) 0 (Int32.ofNat o) (Int32.ofNat k)) + (own_part (own_b p2) 1 (Int32.ofNat o) (Int32.ofNat k))) + (own_part (own_b p2) 2 (Int32.ofNat o) (Int32.ofNat k))))]) (lenOf own_pd2 rfl) rfl (by show 2 * 0 + _ ≤ _; exact Nat.le_of_eq rfl) (hb hby at_126) (fun _ _ => ⟨rfl, e28, (by decide : 1 + 0 ≤ _), (by decide : 4 + 0 ≤ _)⟩)
    dsimp only [Pt.U, Pt.locs, Pt.cells, Pt.slots] at X29 l29 y29 z29 st29 hQ29
    subst l29 y29 z29
    obtain ⟨rfl, N29q, e29⟩ := hQ29
    have N29 := Fr.app N28 N29q
    refine Go.step st29 ?_
    show Go _ _ _ _ T29 (mkF m 129 #[.val (.int p0), .val (.int p1), .val (.int p2), .val (.int p3), .val (.int (1 : Int32)), .val (.ref (w 1)), .val (.int (Int32.ofNat o)), .val (.int (Int32.ofNat k)), .val (.ref b17), .unset, .unset, .unset] [(.int (own_part (own_b p2) 3 (Int32.ofNat o) (Int32.ofNat k))), (.int (((own_part (own_b p2) 0 (Int32.ofNat o) (Int32.ofNat k)) + (own_part (own_b p2) 1 (Int32.ofNat o) (Int32.ofNat k))) + (own_part (own_b p2) 2 (Int32.ofNat o) (Int32.ofNat k))))])
    refine Go.step (fun _ zz => XS.iadd X29.here hx rfl (hb hby at_129) rfl zz) ?_
    show Go _ _ _ _ T29 (mkF m 130 #[.val (.int p0), .val (.int p1), .val (.int p2), .val (.int p3), .val (.int (1 : Int32)), .val (.ref (w 1)), .val (.int (Int32.ofNat o)), .val (.int (Int32.ofNat k)), .val (.ref b17), .unset, .unset, .unset] [(.int ((((own_part (own_b p2) 0 (Int32.ofNat o) (Int32.ofNat k)) + (own_part (own_b p2) 1 (Int32.ofNat o) (Int32.ofNat k))) + (own_part (own_b p2) 2 (Int32.ofNat o) (Int32.ofNat k))) + (own_part (own_b p2) 3 (Int32.ofNat o) (Int32.ofNat k))))])
    refine Go.step (fun _ zz => XS.istore X29.here hx rfl (hb hby at_130) rfl (l' := #[.val (.int p0), .val (.int p1), .val (.int p2), .val (.int p3), .val (.int (1 : Int32)), .val (.ref (w 1)), .val (.int (Int32.ofNat o)), .val (.int (Int32.ofNat k)), .val (.ref b17), .val (.int ((((own_part (own_b p2) 0 (Int32.ofNat o) (Int32.ofNat k)) + (own_part (own_b p2) 1 (Int32.ofNat o) (Int32.ofNat k))) + (own_part (own_b p2) 2 (Int32.ofNat o) (Int32.ofNat k))) + (own_part (own_b p2) 3 (Int32.ofNat o) (Int32.ofNat k)))), .unset, .unset]) rfl zz) ?_
    show Go _ _ _ _ T29 (mkF m 132 #[.val (.int p0), .val (.int p1), .val (.int p2), .val (.int p3), .val (.int (1 : Int32)), .val (.ref (w 1)), .val (.int (Int32.ofNat o)), .val (.int (Int32.ofNat k)), .val (.ref b17), .val (.int ((((own_part (own_b p2) 0 (Int32.ofNat o) (Int32.ofNat k)) + (own_part (own_b p2) 1 (Int32.ofNat o) (Int32.ofNat k))) + (own_part (own_b p2) 2 (Int32.ofNat o) (Int32.ofNat k))) + (own_part (own_b p2) 3 (Int32.ofNat o) (Int32.ofNat k)))), .unset, .unset] [])
    refine Go.step (fun _ zz => XS.iloadN X29.here hx rfl (hb hby at_132) rfl zz) ?_
    show Go _ _ _ _ T29 (mkF m 133 #[.val (.int p0), .val (.int p1), .val (.int p2), .val (.int p3), .val (.int (1 : Int32)), .val (.ref (w 1)), .val (.int (Int32.ofNat o)), .val (.int (Int32.ofNat k)), .val (.ref b17), .val (.int ((((own_part (own_b p2) 0 (Int32.ofNat o) (Int32.ofNat k)) + (own_part (own_b p2) 1 (Int32.ofNat o) (Int32.ofNat k))) + (own_part (own_b p2) 2 (Int32.ofNat o) (Int32.ofNat k))) + (own_part (own_b p2) 3 (Int32.ofNat o) (Int32.ofNat k)))), .unset, .unset] [(.int p1)])
    refine Go.step (fun _ zz => XS.iload X29.here hx rfl (hb hby at_133) rfl zz) ?_
    show Go _ _ _ _ T29 (mkF m 135 #[.val (.int p0), .val (.int p1), .val (.int p2), .val (.int p3), .val (.int (1 : Int32)), .val (.ref (w 1)), .val (.int (Int32.ofNat o)), .val (.int (Int32.ofNat k)), .val (.ref b17), .val (.int ((((own_part (own_b p2) 0 (Int32.ofNat o) (Int32.ofNat k)) + (own_part (own_b p2) 1 (Int32.ofNat o) (Int32.ofNat k))) + (own_part (own_b p2) 2 (Int32.ofNat o) (Int32.ofNat k))) + (own_part (own_b p2) 3 (Int32.ofNat o) (Int32.ofNat k)))), .unset, .unset] [(.int (1 : Int32)), (.int p1)])
    refine Go.step (fun _ zz => XS.ifNo X29.here hx rfl (hb hby at_135) rfl ((if0 _ _).trans (feq (by decide)).1) zz) ?_
    show Go _ _ _ _ T29 (mkF m 138 #[.val (.int p0), .val (.int p1), .val (.int p2), .val (.int p3), .val (.int (1 : Int32)), .val (.ref (w 1)), .val (.int (Int32.ofNat o)), .val (.int (Int32.ofNat k)), .val (.ref b17), .val (.int ((((own_part (own_b p2) 0 (Int32.ofNat o) (Int32.ofNat k)) + (own_part (own_b p2) 1 (Int32.ofNat o) (Int32.ofNat k))) + (own_part (own_b p2) 2 (Int32.ofNat o) (Int32.ofNat k))) + (own_part (own_b p2) 3 (Int32.ofNat o) (Int32.ofNat k)))), .unset, .unset] [(.int p1)])
    refine Go.step (fun _ zz => XS.iloadN X29.here hx rfl (hb hby at_138) rfl zz) ?_
    show Go _ _ _ _ T29 (mkF m 139 #[.val (.int p0), .val (.int p1), .val (.int p2), .val (.int p3), .val (.int (1 : Int32)), .val (.ref (w 1)), .val (.int (Int32.ofNat o)), .val (.int (Int32.ofNat k)), .val (.ref b17), .val (.int ((((own_part (own_b p2) 0 (Int32.ofNat o) (Int32.ofNat k)) + (own_part (own_b p2) 1 (Int32.ofNat o) (Int32.ofNat k))) + (own_part (own_b p2) 2 (Int32.ofNat o) (Int32.ofNat k))) + (own_part (own_b p2) 3 (Int32.ofNat o) (Int32.ofNat k)))), .unset, .unset] [(.int p3), (.int p1)])
    refine Go.step (fun _ zz => XS.goto X29.here hx rfl (pc0 := 139) (pc' := 143) rfl (hb hby at_139) (by decide) (by decide) zz) ?_
    show Go _ _ _ _ T29 (mkF m 143 #[.val (.int p0), .val (.int p1), .val (.int p2), .val (.int p3), .val (.int (1 : Int32)), .val (.ref (w 1)), .val (.int (Int32.ofNat o)), .val (.int (Int32.ofNat k)), .val (.ref b17), .val (.int ((((own_part (own_b p2) 0 (Int32.ofNat o) (Int32.ofNat k)) + (own_part (own_b p2) 1 (Int32.ofNat o) (Int32.ofNat k))) + (own_part (own_b p2) 2 (Int32.ofNat o) (Int32.ofNat k))) + (own_part (own_b p2) 3 (Int32.ofNat o) (Int32.ofNat k)))), .unset, .unset] [(.int p3), (.int p1)])
    refine Go.step (fun _ zz => XS.iadd X29.here hx rfl (hb hby at_143) rfl zz) ?_
    show Go _ _ _ _ T29 (mkF m 144 #[.val (.int p0), .val (.int p1), .val (.int p2), .val (.int p3), .val (.int (1 : Int32)), .val (.ref (w 1)), .val (.int (Int32.ofNat o)), .val (.int (Int32.ofNat k)), .val (.ref b17), .val (.int ((((own_part (own_b p2) 0 (Int32.ofNat o) (Int32.ofNat k)) + (own_part (own_b p2) 1 (Int32.ofNat o) (Int32.ofNat k))) + (own_part (own_b p2) 2 (Int32.ofNat o) (Int32.ofNat k))) + (own_part (own_b p2) 3 (Int32.ofNat o) (Int32.ofNat k)))), .unset, .unset] [(.int (p1 + p3))])
    refine Go.step (fun _ zz => XS.iload X29.here hx rfl (hb hby at_144) rfl zz) ?_
    show Go _ _ _ _ T29 (mkF m 146 #[.val (.int p0), .val (.int p1), .val (.int p2), .val (.int p3), .val (.int (1 : Int32)), .val (.ref (w 1)), .val (.int (Int32.ofNat o)), .val (.int (Int32.ofNat k)), .val (.ref b17), .val (.int ((((own_part (own_b p2) 0 (Int32.ofNat o) (Int32.ofNat k)) + (own_part (own_b p2) 1 (Int32.ofNat o) (Int32.ofNat k))) + (own_part (own_b p2) 2 (Int32.ofNat o) (Int32.ofNat k))) + (own_part (own_b p2) 3 (Int32.ofNat o) (Int32.ofNat k)))), .unset, .unset] [(.int ((((own_part (own_b p2) 0 (Int32.ofNat o) (Int32.ofNat k)) + (own_part (own_b p2) 1 (Int32.ofNat o) (Int32.ofNat k))) + (own_part (own_b p2) 2 (Int32.ofNat o) (Int32.ofNat k))) + (own_part (own_b p2) 3 (Int32.ofNat o) (Int32.ofNat k)))), (.int (p1 + p3))])
    refine Go.step (fun _ zz => XS.iadd X29.here hx rfl (hb hby at_146) rfl zz) ?_
    show Go _ _ _ _ T29 (mkF m 147 #[.val (.int p0), .val (.int p1), .val (.int p2), .val (.int p3), .val (.int (1 : Int32)), .val (.ref (w 1)), .val (.int (Int32.ofNat o)), .val (.int (Int32.ofNat k)), .val (.ref b17), .val (.int ((((own_part (own_b p2) 0 (Int32.ofNat o) (Int32.ofNat k)) + (own_part (own_b p2) 1 (Int32.ofNat o) (Int32.ofNat k))) + (own_part (own_b p2) 2 (Int32.ofNat o) (Int32.ofNat k))) + (own_part (own_b p2) 3 (Int32.ofNat o) (Int32.ofNat k)))), .unset, .unset] [(.int ((p1 + p3) + ((((own_part (own_b p2) 0 (Int32.ofNat o) (Int32.ofNat k)) + (own_part (own_b p2) 1 (Int32.ofNat o) (Int32.ofNat k))) + (own_part (own_b p2) 2 (Int32.ofNat o) (Int32.ofNat k))) + (own_part (own_b p2) 3 (Int32.ofNat o) (Int32.ofNat k)))))])
    refine Go.step (fun _ zz => XS.sipush X29.here hx rfl (hb hby at_147) zz) ?_
    show Go _ _ _ _ T29 (mkF m 150 #[.val (.int p0), .val (.int p1), .val (.int p2), .val (.int p3), .val (.int (1 : Int32)), .val (.ref (w 1)), .val (.int (Int32.ofNat o)), .val (.int (Int32.ofNat k)), .val (.ref b17), .val (.int ((((own_part (own_b p2) 0 (Int32.ofNat o) (Int32.ofNat k)) + (own_part (own_b p2) 1 (Int32.ofNat o) (Int32.ofNat k))) + (own_part (own_b p2) 2 (Int32.ofNat o) (Int32.ofNat k))) + (own_part (own_b p2) 3 (Int32.ofNat o) (Int32.ofNat k)))), .unset, .unset] [(.int (255 : Int32)), (.int ((p1 + p3) + ((((own_part (own_b p2) 0 (Int32.ofNat o) (Int32.ofNat k)) + (own_part (own_b p2) 1 (Int32.ofNat o) (Int32.ofNat k))) + (own_part (own_b p2) 2 (Int32.ofNat o) (Int32.ofNat k))) + (own_part (own_b p2) 3 (Int32.ofNat o) (Int32.ofNat k)))))])
    refine Go.step (fun _ zz => XS.iand X29.here hx rfl (hb hby at_150) rfl zz) ?_
    show Go _ _ _ _ T29 (mkF m 151 #[.val (.int p0), .val (.int p1), .val (.int p2), .val (.int p3), .val (.int (1 : Int32)), .val (.ref (w 1)), .val (.int (Int32.ofNat o)), .val (.int (Int32.ofNat k)), .val (.ref b17), .val (.int ((((own_part (own_b p2) 0 (Int32.ofNat o) (Int32.ofNat k)) + (own_part (own_b p2) 1 (Int32.ofNat o) (Int32.ofNat k))) + (own_part (own_b p2) 2 (Int32.ofNat o) (Int32.ofNat k))) + (own_part (own_b p2) 3 (Int32.ofNat o) (Int32.ofNat k)))), .unset, .unset] [(.int (((p1 + p3) + ((((own_part (own_b p2) 0 (Int32.ofNat o) (Int32.ofNat k)) + (own_part (own_b p2) 1 (Int32.ofNat o) (Int32.ofNat k))) + (own_part (own_b p2) 2 (Int32.ofNat o) (Int32.ofNat k))) + (own_part (own_b p2) 3 (Int32.ofNat o) (Int32.ofNat k)))) &&& (255 : Int32)))])
    refine Go.step (fun _ zz => XS.istore X29.here hx rfl (hb hby at_151) rfl (l' := #[.val (.int p0), .val (.int p1), .val (.int p2), .val (.int p3), .val (.int (1 : Int32)), .val (.ref (w 1)), .val (.int (Int32.ofNat o)), .val (.int (Int32.ofNat k)), .val (.ref b17), .val (.int ((((own_part (own_b p2) 0 (Int32.ofNat o) (Int32.ofNat k)) + (own_part (own_b p2) 1 (Int32.ofNat o) (Int32.ofNat k))) + (own_part (own_b p2) 2 (Int32.ofNat o) (Int32.ofNat k))) + (own_part (own_b p2) 3 (Int32.ofNat o) (Int32.ofNat k)))), .val (.int (((p1 + p3) + ((((own_part (own_b p2) 0 (Int32.ofNat o) (Int32.ofNat k)) + (own_part (own_b p2) 1 (Int32.ofNat o) (Int32.ofNat k))) + (own_part (own_b p2) 2 (Int32.ofNat o) (Int32.ofNat k))) + (own_part (own_b p2) 3 (Int32.ofNat o) (Int32.ofNat k)))) &&& (255 : Int32))), .unset]) rfl zz) ?_
    show Go _ _ _ _ T29 (mkF m 153 #[.val (.int p0), .val (.int p1), .val (.int p2), .val (.int p3), .val (.int (1 : Int32)), .val (.ref (w 1)), .val (.int (Int32.ofNat o)), .val (.int (Int32.ofNat k)), .val (.ref b17), .val (.int ((((own_part (own_b p2) 0 (Int32.ofNat o) (Int32.ofNat k)) + (own_part (own_b p2) 1 (Int32.ofNat o) (Int32.ofNat k))) + (own_part (own_b p2) 2 (Int32.ofNat o) (Int32.ofNat k))) + (own_part (own_b p2) 3 (Int32.ofNat o) (Int32.ofNat k)))), .val (.int (((p1 + p3) + ((((own_part (own_b p2) 0 (Int32.ofNat o) (Int32.ofNat k)) + (own_part (own_b p2) 1 (Int32.ofNat o) (Int32.ofNat k))) + (own_part (own_b p2) 2 (Int32.ofNat o) (Int32.ofNat k))) + (own_part (own_b p2) 3 (Int32.ofNat o) (Int32.ofNat k)))) &&& (255 : Int32))), .unset] [])
    refine Go.step (fun _ zz => XS.aload X29.here hx rfl (hb hby at_153) rfl rfl zz) ?_
    show Go _ _ _ _ T29 (mkF m 155 #[.val (.int p0), .val (.int p1), .val (.int p2), .val (.int p3), .val (.int (1 : Int32)), .val (.ref (w 1)), .val (.int (Int32.ofNat o)), .val (.int (Int32.ofNat k)), .val (.ref b17), .val (.int ((((own_part (own_b p2) 0 (Int32.ofNat o) (Int32.ofNat k)) + (own_part (own_b p2) 1 (Int32.ofNat o) (Int32.ofNat k))) + (own_part (own_b p2) 2 (Int32.ofNat o) (Int32.ofNat k))) + (own_part (own_b p2) 3 (Int32.ofNat o) (Int32.ofNat k)))), .val (.int (((p1 + p3) + ((((own_part (own_b p2) 0 (Int32.ofNat o) (Int32.ofNat k)) + (own_part (own_b p2) 1 (Int32.ofNat o) (Int32.ofNat k))) + (own_part (own_b p2) 2 (Int32.ofNat o) (Int32.ofNat k))) + (own_part (own_b p2) 3 (Int32.ofNat o) (Int32.ofNat k)))) &&& (255 : Int32))), .unset] [(.ref (w 1))])
    refine Go.step (fun _ zz => XS.iloadN X29.here hx rfl (hb hby at_155) rfl zz) ?_
    show Go _ _ _ _ T29 (mkF m 156 #[.val (.int p0), .val (.int p1), .val (.int p2), .val (.int p3), .val (.int (1 : Int32)), .val (.ref (w 1)), .val (.int (Int32.ofNat o)), .val (.int (Int32.ofNat k)), .val (.ref b17), .val (.int ((((own_part (own_b p2) 0 (Int32.ofNat o) (Int32.ofNat k)) + (own_part (own_b p2) 1 (Int32.ofNat o) (Int32.ofNat k))) + (own_part (own_b p2) 2 (Int32.ofNat o) (Int32.ofNat k))) + (own_part (own_b p2) 3 (Int32.ofNat o) (Int32.ofNat k)))), .val (.int (((p1 + p3) + ((((own_part (own_b p2) 0 (Int32.ofNat o) (Int32.ofNat k)) + (own_part (own_b p2) 1 (Int32.ofNat o) (Int32.ofNat k))) + (own_part (own_b p2) 2 (Int32.ofNat o) (Int32.ofNat k))) + (own_part (own_b p2) 3 (Int32.ofNat o) (Int32.ofNat k)))) &&& (255 : Int32))), .unset] [(.int p1), (.ref (w 1))])
    refine Go.step (fun _ zz => XS.aload X29.here hx rfl (hb hby at_156) rfl rfl zz) ?_
    show Go _ _ _ _ T29 (mkF m 158 #[.val (.int p0), .val (.int p1), .val (.int p2), .val (.int p3), .val (.int (1 : Int32)), .val (.ref (w 1)), .val (.int (Int32.ofNat o)), .val (.int (Int32.ofNat k)), .val (.ref b17), .val (.int ((((own_part (own_b p2) 0 (Int32.ofNat o) (Int32.ofNat k)) + (own_part (own_b p2) 1 (Int32.ofNat o) (Int32.ofNat k))) + (own_part (own_b p2) 2 (Int32.ofNat o) (Int32.ofNat k))) + (own_part (own_b p2) 3 (Int32.ofNat o) (Int32.ofNat k)))), .val (.int (((p1 + p3) + ((((own_part (own_b p2) 0 (Int32.ofNat o) (Int32.ofNat k)) + (own_part (own_b p2) 1 (Int32.ofNat o) (Int32.ofNat k))) + (own_part (own_b p2) 2 (Int32.ofNat o) (Int32.ofNat k))) + (own_part (own_b p2) 3 (Int32.ofNat o) (Int32.ofNat k)))) &&& (255 : Int32))), .unset] [(.ref b17), (.int p1), (.ref (w 1))])
    refine Go.step (fun _ zz => XS.iload X29.here hx rfl (hb hby at_158) rfl zz) ?_
    show Go _ _ _ _ T29 (mkF m 160 #[.val (.int p0), .val (.int p1), .val (.int p2), .val (.int p3), .val (.int (1 : Int32)), .val (.ref (w 1)), .val (.int (Int32.ofNat o)), .val (.int (Int32.ofNat k)), .val (.ref b17), .val (.int ((((own_part (own_b p2) 0 (Int32.ofNat o) (Int32.ofNat k)) + (own_part (own_b p2) 1 (Int32.ofNat o) (Int32.ofNat k))) + (own_part (own_b p2) 2 (Int32.ofNat o) (Int32.ofNat k))) + (own_part (own_b p2) 3 (Int32.ofNat o) (Int32.ofNat k)))), .val (.int (((p1 + p3) + ((((own_part (own_b p2) 0 (Int32.ofNat o) (Int32.ofNat k)) + (own_part (own_b p2) 1 (Int32.ofNat o) (Int32.ofNat k))) + (own_part (own_b p2) 2 (Int32.ofNat o) (Int32.ofNat k))) + (own_part (own_b p2) 3 (Int32.ofNat o) (Int32.ofNat k)))) &&& (255 : Int32))), .unset] [(.int (Int32.ofNat o)), (.ref b17), (.int p1), (.ref (w 1))])
    refine Go.step (fun _ zz => XS.iload X29.here hx rfl (hb hby at_160) rfl zz) ?_
    show Go _ _ _ _ T29 (mkF m 162 #[.val (.int p0), .val (.int p1), .val (.int p2), .val (.int p3), .val (.int (1 : Int32)), .val (.ref (w 1)), .val (.int (Int32.ofNat o)), .val (.int (Int32.ofNat k)), .val (.ref b17), .val (.int ((((own_part (own_b p2) 0 (Int32.ofNat o) (Int32.ofNat k)) + (own_part (own_b p2) 1 (Int32.ofNat o) (Int32.ofNat k))) + (own_part (own_b p2) 2 (Int32.ofNat o) (Int32.ofNat k))) + (own_part (own_b p2) 3 (Int32.ofNat o) (Int32.ofNat k)))), .val (.int (((p1 + p3) + ((((own_part (own_b p2) 0 (Int32.ofNat o) (Int32.ofNat k)) + (own_part (own_b p2) 1 (Int32.ofNat o) (Int32.ofNat k))) + (own_part (own_b p2) 2 (Int32.ofNat o) (Int32.ofNat k))) + (own_part (own_b p2) 3 (Int32.ofNat o) (Int32.ofNat k)))) &&& (255 : Int32))), .unset] [(.int (Int32.ofNat k)), (.int (Int32.ofNat o)), (.ref b17), (.int p1), (.ref (w 1))])
    refine Go.step (fun _ zz => XS.iloadN X29.here hx rfl (hb hby at_162) rfl zz) ?_
    show Go _ _ _ _ T29 (mkF m 163 #[.val (.int p0), .val (.int p1), .val (.int p2), .val (.int p3), .val (.int (1 : Int32)), .val (.ref (w 1)), .val (.int (Int32.ofNat o)), .val (.int (Int32.ofNat k)), .val (.ref b17), .val (.int ((((own_part (own_b p2) 0 (Int32.ofNat o) (Int32.ofNat k)) + (own_part (own_b p2) 1 (Int32.ofNat o) (Int32.ofNat k))) + (own_part (own_b p2) 2 (Int32.ofNat o) (Int32.ofNat k))) + (own_part (own_b p2) 3 (Int32.ofNat o) (Int32.ofNat k)))), .val (.int (((p1 + p3) + ((((own_part (own_b p2) 0 (Int32.ofNat o) (Int32.ofNat k)) + (own_part (own_b p2) 1 (Int32.ofNat o) (Int32.ofNat k))) + (own_part (own_b p2) 2 (Int32.ofNat o) (Int32.ofNat k))) + (own_part (own_b p2) 3 (Int32.ofNat o) (Int32.ofNat k)))) &&& (255 : Int32))), .unset] [(.int p3), (.int (Int32.ofNat k)), (.int (Int32.ofNat o)), (.ref b17), (.int p1), (.ref (w 1))])
    obtain ⟨cq30, kq30, q30a, q30b, q30c⟩ := isOf hZ e29 ((wd3 wd).ext (((((O0.ext E17).wr W19 g_b17).wr W21 g_b17).wr W23 g_b17).wr W25 g_b17).2)
    obtain ⟨_, _, ⟨T30, L30, k30, n30⟩, -, X30, ⟨Lc30, hQ30, l30, y30, z30⟩, st30⟩ := X29.virtualBack hx (y := (⟨"com/example/assayline/assayline/wire/AstmChecksum", "of", "(I[BIII)I"⟩ : MethodName)) (z := (⟨"com/example/assayline/assayline/wire/AstmChecksum", "of", "(I[BIII)I"⟩ : MethodName)) hown (mvT hZ (hw _ (List.mem_of_getElem? (i := 8) rfl))) (mvT hZ (hw _ (List.mem_of_getElem? (i := 9) rfl))) (notFace_of_selects (args := #[]) (mvT hZ (hw _ (List.mem_of_getElem? (i := 11) rfl)))) (mvT hZ (hw _ (List.mem_of_getElem? (i := 11) rfl))) (mvT hZ (hw _ (List.mem_of_getElem? (i := 10) rfl))) (by decide) (backOf (W := 0) (rm2 l Z a0 hw [] (w 1) p1 b17 o k p3 (1 : Int32) (own_b p2) k17 h25 n0 (Nat.le_trans (Nat.le_trans (Nat.le_trans (Nat.le_trans (Nat.le_trans Z0 E17.1) (Keep.of_wr W19).1) (Keep.of_wr W21).1) (Keep.of_wr W23).1) (Keep.of_wr W25).1) hok ((wd5 wd).ext (((((O0.ext E17).wr W19 g_b17).wr W21 g_b17).wr W23 g_b17).wr W25 g_b17).2) V25) hZ (hw _ (List.mem_of_getElem? (i := 12) rfl)) (hw _ (List.mem_of_getElem? (i := 1) rfl)) (by decide) (by decide)) q30a q30c (g := (mkF m 163 #[.val (.int p0), .val (.int p1), .val (.int p2), .val (.int p3), .val (.int (1 : Int32)), .val (.ref (w 1)), .val (.int (Int32.ofNat o)), .val (.int (Int32.ofNat k)), .val (.ref b17), .val (.int ((((own_part (own_b p2) 0 (Int32.ofNat o) (Int32.ofNat k)) + (own_part (own_b p2) 1 (Int32.ofNat o) (Int32.ofNat k))) + (own_part (own_b p2) 2 (Int32.ofNat o) (Int32.ofNat k))) + (own_part (own_b p2) 3 (Int32.ofNat o) (Int32.ofNat k)))), .val (.int (((p1 + p3) + ((((own_part (own_b p2) 0 (Int32.ofNat o) (Int32.ofNat k)) + (own_part (own_b p2) 1 (Int32.ofNat o) (Int32.ofNat k))) + (own_part (own_b p2) 2 (Int32.ofNat o) (Int32.ofNat k))) + (own_part (own_b p2) 3 (Int32.ofNat o) (Int32.ofNat k)))) &&& (255 : Int32))), .unset] [(.int p3), (.int (Int32.ofNat k)), (.int (Int32.ofNat o)), (.ref b17), (.int p1), (.ref (w 1))])) rfl (by rw [hml]; rfl) (Steps.refl _) (argsL := [(.int p1), (.ref b17), (.int (Int32.ofNat o)), (.int (Int32.ofNat k)), (.int p3)]) (rest := []) (lenOf own_pd3 rfl) rfl (by show 2 * 0 + _ ≤ _; exact Nat.le_of_eq rfl) (hb hby at_163) (fun _ _ => ⟨rfl, e29, (by decide : 1 + 0 ≤ _), (by decide : 4 + 0 ≤ _)⟩)
    dsimp only [Pt.U, Pt.locs, Pt.cells, Pt.slots] at X30 l30 y30 z30 st30 hQ30
    subst l30 y30 z30
    obtain ⟨rfl, N30q, e30⟩ := hQ30
    have N30 := Fr.app N29 N30q
    refine Go.tr st30 ?_
    show Go _ _ _ _ T30 (mkF m 166 #[.val (.int p0), .val (.int p1), .val (.int p2), .val (.int p3), .val (.int (1 : Int32)), .val (.ref (w 1)), .val (.int (Int32.ofNat o)), .val (.int (Int32.ofNat k)), .val (.ref b17), .val (.int ((((own_part (own_b p2) 0 (Int32.ofNat o) (Int32.ofNat k)) + (own_part (own_b p2) 1 (Int32.ofNat o) (Int32.ofNat k))) + (own_part (own_b p2) 2 (Int32.ofNat o) (Int32.ofNat k))) + (own_part (own_b p2) 3 (Int32.ofNat o) (Int32.ofNat k)))), .val (.int (((p1 + p3) + ((((own_part (own_b p2) 0 (Int32.ofNat o) (Int32.ofNat k)) + (own_part (own_b p2) 1 (Int32.ofNat o) (Int32.ofNat k))) + (own_part (own_b p2) 2 (Int32.ofNat o) (Int32.ofNat k))) + (own_part (own_b p2) 3 (Int32.ofNat o) (Int32.ofNat k)))) &&& (255 : Int32))), .unset] [(.int (own_sum (own_b p2) o k (p1 + (if (1 : Int32) = 0 then 0 else p3)) &&& 255))])
    refine Go.step (fun _ zz => XS.istore X30.here hx rfl (hb hby at_166) rfl (l' := #[.val (.int p0), .val (.int p1), .val (.int p2), .val (.int p3), .val (.int (1 : Int32)), .val (.ref (w 1)), .val (.int (Int32.ofNat o)), .val (.int (Int32.ofNat k)), .val (.ref b17), .val (.int ((((own_part (own_b p2) 0 (Int32.ofNat o) (Int32.ofNat k)) + (own_part (own_b p2) 1 (Int32.ofNat o) (Int32.ofNat k))) + (own_part (own_b p2) 2 (Int32.ofNat o) (Int32.ofNat k))) + (own_part (own_b p2) 3 (Int32.ofNat o) (Int32.ofNat k)))), .val (.int (((p1 + p3) + ((((own_part (own_b p2) 0 (Int32.ofNat o) (Int32.ofNat k)) + (own_part (own_b p2) 1 (Int32.ofNat o) (Int32.ofNat k))) + (own_part (own_b p2) 2 (Int32.ofNat o) (Int32.ofNat k))) + (own_part (own_b p2) 3 (Int32.ofNat o) (Int32.ofNat k)))) &&& (255 : Int32))), .val (.int (own_sum (own_b p2) o k (p1 + (if (1 : Int32) = 0 then 0 else p3)) &&& 255))]) rfl zz) ?_
    show Go _ _ _ _ T30 (mkF m 168 #[.val (.int p0), .val (.int p1), .val (.int p2), .val (.int p3), .val (.int (1 : Int32)), .val (.ref (w 1)), .val (.int (Int32.ofNat o)), .val (.int (Int32.ofNat k)), .val (.ref b17), .val (.int ((((own_part (own_b p2) 0 (Int32.ofNat o) (Int32.ofNat k)) + (own_part (own_b p2) 1 (Int32.ofNat o) (Int32.ofNat k))) + (own_part (own_b p2) 2 (Int32.ofNat o) (Int32.ofNat k))) + (own_part (own_b p2) 3 (Int32.ofNat o) (Int32.ofNat k)))), .val (.int (((p1 + p3) + ((((own_part (own_b p2) 0 (Int32.ofNat o) (Int32.ofNat k)) + (own_part (own_b p2) 1 (Int32.ofNat o) (Int32.ofNat k))) + (own_part (own_b p2) 2 (Int32.ofNat o) (Int32.ofNat k))) + (own_part (own_b p2) 3 (Int32.ofNat o) (Int32.ofNat k)))) &&& (255 : Int32))), .val (.int (own_sum (own_b p2) o k (p1 + (if (1 : Int32) = 0 then 0 else p3)) &&& 255))] [])
    refine Go.step (fun _ zz => XS.iload X30.here hx rfl (hb hby at_168) rfl zz) ?_
    show Go _ _ _ _ T30 (mkF m 170 #[.val (.int p0), .val (.int p1), .val (.int p2), .val (.int p3), .val (.int (1 : Int32)), .val (.ref (w 1)), .val (.int (Int32.ofNat o)), .val (.int (Int32.ofNat k)), .val (.ref b17), .val (.int ((((own_part (own_b p2) 0 (Int32.ofNat o) (Int32.ofNat k)) + (own_part (own_b p2) 1 (Int32.ofNat o) (Int32.ofNat k))) + (own_part (own_b p2) 2 (Int32.ofNat o) (Int32.ofNat k))) + (own_part (own_b p2) 3 (Int32.ofNat o) (Int32.ofNat k)))), .val (.int (((p1 + p3) + ((((own_part (own_b p2) 0 (Int32.ofNat o) (Int32.ofNat k)) + (own_part (own_b p2) 1 (Int32.ofNat o) (Int32.ofNat k))) + (own_part (own_b p2) 2 (Int32.ofNat o) (Int32.ofNat k))) + (own_part (own_b p2) 3 (Int32.ofNat o) (Int32.ofNat k)))) &&& (255 : Int32))), .val (.int (own_sum (own_b p2) o k (p1 + (if (1 : Int32) = 0 then 0 else p3)) &&& 255))] [(.int (own_sum (own_b p2) o k (p1 + (if (1 : Int32) = 0 then 0 else p3)) &&& 255))])
    refine Go.step (fun _ zz => XS.iload X30.here hx rfl (hb hby at_170) rfl zz) ?_
    show Go _ _ _ _ T30 (mkF m 172 #[.val (.int p0), .val (.int p1), .val (.int p2), .val (.int p3), .val (.int (1 : Int32)), .val (.ref (w 1)), .val (.int (Int32.ofNat o)), .val (.int (Int32.ofNat k)), .val (.ref b17), .val (.int ((((own_part (own_b p2) 0 (Int32.ofNat o) (Int32.ofNat k)) + (own_part (own_b p2) 1 (Int32.ofNat o) (Int32.ofNat k))) + (own_part (own_b p2) 2 (Int32.ofNat o) (Int32.ofNat k))) + (own_part (own_b p2) 3 (Int32.ofNat o) (Int32.ofNat k)))), .val (.int (((p1 + p3) + ((((own_part (own_b p2) 0 (Int32.ofNat o) (Int32.ofNat k)) + (own_part (own_b p2) 1 (Int32.ofNat o) (Int32.ofNat k))) + (own_part (own_b p2) 2 (Int32.ofNat o) (Int32.ofNat k))) + (own_part (own_b p2) 3 (Int32.ofNat o) (Int32.ofNat k)))) &&& (255 : Int32))), .val (.int (own_sum (own_b p2) o k (p1 + (if (1 : Int32) = 0 then 0 else p3)) &&& 255))] [(.int (((p1 + p3) + ((((own_part (own_b p2) 0 (Int32.ofNat o) (Int32.ofNat k)) + (own_part (own_b p2) 1 (Int32.ofNat o) (Int32.ofNat k))) + (own_part (own_b p2) 2 (Int32.ofNat o) (Int32.ofNat k))) + (own_part (own_b p2) 3 (Int32.ofNat o) (Int32.ofNat k)))) &&& (255 : Int32))), (.int (own_sum (own_b p2) o k (p1 + (if (1 : Int32) = 0 then 0 else p3)) &&& 255))])
    refine Go.step (fun _ zz => XS.icmpNo X30.here hx rfl (hb hby at_172) rfl (teq (own_end p1 p3 p2 o k hok 1)).2 zz) ?_
    show Go _ _ _ _ T30 (mkF m 175 #[.val (.int p0), .val (.int p1), .val (.int p2), .val (.int p3), .val (.int (1 : Int32)), .val (.ref (w 1)), .val (.int (Int32.ofNat o)), .val (.int (Int32.ofNat k)), .val (.ref b17), .val (.int ((((own_part (own_b p2) 0 (Int32.ofNat o) (Int32.ofNat k)) + (own_part (own_b p2) 1 (Int32.ofNat o) (Int32.ofNat k))) + (own_part (own_b p2) 2 (Int32.ofNat o) (Int32.ofNat k))) + (own_part (own_b p2) 3 (Int32.ofNat o) (Int32.ofNat k)))), .val (.int (((p1 + p3) + ((((own_part (own_b p2) 0 (Int32.ofNat o) (Int32.ofNat k)) + (own_part (own_b p2) 1 (Int32.ofNat o) (Int32.ofNat k))) + (own_part (own_b p2) 2 (Int32.ofNat o) (Int32.ofNat k))) + (own_part (own_b p2) 3 (Int32.ofNat o) (Int32.ofNat k)))) &&& (255 : Int32))), .val (.int (own_sum (own_b p2) o k (p1 + (if (1 : Int32) = 0 then 0 else p3)) &&& 255))] [])
    refine Go.step (fun _ zz => XS.iconst X30.here hx rfl (hb hby at_175) zz) ?_
    show Go _ _ _ _ T30 (mkF m 176 #[.val (.int p0), .val (.int p1), .val (.int p2), .val (.int p3), .val (.int (1 : Int32)), .val (.ref (w 1)), .val (.int (Int32.ofNat o)), .val (.int (Int32.ofNat k)), .val (.ref b17), .val (.int ((((own_part (own_b p2) 0 (Int32.ofNat o) (Int32.ofNat k)) + (own_part (own_b p2) 1 (Int32.ofNat o) (Int32.ofNat k))) + (own_part (own_b p2) 2 (Int32.ofNat o) (Int32.ofNat k))) + (own_part (own_b p2) 3 (Int32.ofNat o) (Int32.ofNat k)))), .val (.int (((p1 + p3) + ((((own_part (own_b p2) 0 (Int32.ofNat o) (Int32.ofNat k)) + (own_part (own_b p2) 1 (Int32.ofNat o) (Int32.ofNat k))) + (own_part (own_b p2) 2 (Int32.ofNat o) (Int32.ofNat k))) + (own_part (own_b p2) 3 (Int32.ofNat o) (Int32.ofNat k)))) &&& (255 : Int32))), .val (.int (own_sum (own_b p2) o k (p1 + (if (1 : Int32) = 0 then 0 else p3)) &&& 255))] [(.int (1 : Int32))])
    refine Go.step (fun _ zz => XS.goto X30.here hx rfl (pc0 := 176) (pc' := 180) rfl (hb hby at_176) (by decide) (by decide) zz) ?_
    show Go _ _ _ _ T30 (mkF m 180 #[.val (.int p0), .val (.int p1), .val (.int p2), .val (.int p3), .val (.int (1 : Int32)), .val (.ref (w 1)), .val (.int (Int32.ofNat o)), .val (.int (Int32.ofNat k)), .val (.ref b17), .val (.int ((((own_part (own_b p2) 0 (Int32.ofNat o) (Int32.ofNat k)) + (own_part (own_b p2) 1 (Int32.ofNat o) (Int32.ofNat k))) + (own_part (own_b p2) 2 (Int32.ofNat o) (Int32.ofNat k))) + (own_part (own_b p2) 3 (Int32.ofNat o) (Int32.ofNat k)))), .val (.int (((p1 + p3) + ((((own_part (own_b p2) 0 (Int32.ofNat o) (Int32.ofNat k)) + (own_part (own_b p2) 1 (Int32.ofNat o) (Int32.ofNat k))) + (own_part (own_b p2) 2 (Int32.ofNat o) (Int32.ofNat k))) + (own_part (own_b p2) 3 (Int32.ofNat o) (Int32.ofNat k)))) &&& (255 : Int32))), .val (.int (own_sum (own_b p2) o k (p1 + (if (1 : Int32) = 0 then 0 else p3)) &&& 255))] [(.int (1 : Int32))])
    exact Go.retN X30 hx (t := .boolean) Bd.returns (by simp) (hb hby at_180) Bd.notSynchronized (z' := (1 : Int32)) (by decide) (⟨rfl, N30⟩) (by decide) (by decide)
set_option maxRecDepth 65536 in
set_option maxHeartbeats 40000000 in
theorem comes_1 {Post : Tables → Env → Array Value → State → Outcome → State → Prop} (hpost : ∀ tb e args s v u, (limb_1_1.after args s (.returned v) u = true ∧ limb_1_2.after args s (.returned v) u = true ∧ True) → FrameEnd s (.returned v) u (Jvm.fieldLocs frame_1_writes args s ++ Jvm.arrayLocs frame_1_arrays args s ++ Jvm.staticLocs frame_1_statics s) 16 128 → Post tb e args s (.returned v) u) :
    ArmFor flags0 classFile x code maxLocals ret World_1 tables_1 room_1 Calls_1 rest_1 Pre_1 Post := by
  intro l hfl _ _ p e ha hc hk s m args below hf hA hF happ hP
  obtain ⟨hcalls, hrest, hpre⟩ := hP
  obtain ⟨-, -, -, hnamed, -, -, -, hat⟩ := (Spec.applies_iff hf).mp happ
  obtain ⟨hg, hn⟩ := and_e (Cond.before_iff.mp (show (Jvm.Cond.and given_1 narrow_1).before args s = true from hpre))
  obtain ⟨hg_a, hg_b⟩ := and_e hg
  obtain ⟨hg_b_a, hg_b_b⟩ := and_e hg_b
  obtain ⟨hg_b_b_a, hg_b_b_b⟩ := and_e hg_b_b
  obtain ⟨hg_b_b_b_a, hg_b_b_b_b⟩ := and_e hg_b_b_b
  obtain ⟨u0, u1, u2, u3, rfl⟩ : ∃ u0 u1 u2 u3 : Value, args = #[u0, u1, u2, u3] := by
    have hs : args.size = 4 := by simpa [Cond.value, given_1] using hg_a
    obtain ⟨L⟩ := args
    match L, hs with
    | [u0, u1, u2, u3], _ => exact ⟨u0, u1, u2, u3, rfl⟩
  have hw := fun d (hd : d ∈ tables_1) => atoms_spec (ws := Jvm.Cond.code x code maxLocals ret :: tables_1) hat d (List.mem_cons_of_mem _ hd)
  have hfit : Fit s := fun {y c} hc i hi => by
    obtain ⟨ha, rfl⟩ := Array.getElem?_eq_some_iff.mp hc
    have q := List.all_eq_true.mp ((Array.all_eq_true_iff_forall_mem.mp hF) _ (Array.getElem_mem ha)) i (List.mem_range.mpr hi)
    simpa [Array.getElem?_eq_getElem hi] using q
  obtain ⟨i0, ei0⟩ := is_v hg_b_a
  obtain rfl : u0 = (.int i0) := Option.some.inj ei0
  obtain ⟨i1, ei1⟩ := is_v hg_b_b_a
  obtain rfl : u1 = (.int i1) := Option.some.inj ei1
  obtain ⟨i2, ei2⟩ := is_v hg_b_b_b_a
  obtain rfl : u2 = (.int i2) := Option.some.inj ei2
  obtain ⟨i3, ei3⟩ := is_v hg_b_b_b_b
  obtain rfl : u3 = (.int i3) := Option.some.inj ei3
  obtain ⟨hn_a, hn_b⟩ := and_e hn
  obtain ⟨hn_b_a, hn_b_b⟩ := and_e hn_b
  obtain ⟨hn_b_b_a, hn_b_b_b⟩ := and_e hn_b_b
  obtain ⟨w0, ev0⟩ := exa_v hn_a
  obtain ⟨w1, ev1⟩ := exa_v hn_b_b_a
  have wd : Wd s (fun i => ([w0, w1] : List Addr).getD i 0) := ⟨Sta.start ev0 (Or.inr ⟨(hw _ (List.mem_of_getElem? (i := 1) rfl)), (hw _ (List.mem_of_getElem? (i := 2) rfl))⟩), Exa.start ev0 hn_a, Sta.start ev1 (Or.inr ⟨(hw _ (List.mem_of_getElem? (i := 1) rfl)), (hw _ (List.mem_of_getElem? (i := 16) rfl))⟩), Exa.start ev1 hn_b_b_a, Fld.start ((fld_at ev0).symm.trans (own_eqi hn_b_a)), Fld.start ((fld_at ev1).symm.trans (own_eqi hn_b_b_b))⟩
  obtain ⟨n, o, h1, h2, h3, _, L, rfl, ⟨rfl, N⟩, hq⟩ := rm0 l s _ hw tables_1 i0 i1 i2 i3 (fun i => ([w0, w1] : List Addr).getD i 0) s.heap s.heap.size (Nat.le_refl _) (Old.start s) wd p e ha hc hk s m _ below hf ((Spec.applies_iff_loose hf).mp happ).1 ⟨rfl, State.Warmed39.refl s, rfl⟩ trivial
  refine ⟨n, _, h1, h2, h3, hpost _ _ _ _ _ _ ⟨Cond.after_iff.mpr rfl, Cond.after_iff.mpr (eq_i res_at (Term.int_eval (1)) rfl), trivial⟩ ⟨hq.1, hq.2.1, (hq.2.2.sift fun y hy => Or.inr (N y hy)).mono (by decide) (by decide)⟩⟩
theorem main_1_1 : Claimed_1_1 := comes_1 fun _ _ _ _ _ _ h hF => ⟨h.1, hF⟩
theorem main_1_2 : Claimed_1_2 := comes_1 fun _ _ _ _ _ _ h hF => ⟨h.2.1, hF⟩
end Jvm.Pilot.@@N@@
namespace Jvm.Pilot.@@N@@
open Jvm Jvm.ClassFile Sem Op Lib Jvm.Free Jvm.Stand Jvm.Pilot.@@N@@.Jvm.D
/-! MADE BY PROGRAM (witnessworld.py) out of the Statement's table words and the real class files: 10 classes; the members and pool entries that the words name. The judged class is class 1, her method 1. -/
namespace start1
open Jvm.ClassFile
def u (s : String) : CpInfo := .utf8 (stringToUtf16 s)
/-- a pool by its gaps: so many unusable entries, then the entry; so many at the end -/
def gap : Nat → List CpInfo → List CpInfo
  | 0, r => r
  | n + 1, r => .unusable :: gap n r
def poolList (es : List (Nat × CpInfo)) (last : Nat) : List CpInfo := es.foldr (fun e r => gap e.1 (e.2 :: r)) (gap last [])
def pool (es : List (Nat × CpInfo)) (last : Nat) : Array CpInfo := ⟨poolList es last⟩
def fileOf (pool : Array CpInfo) (this : Nat) (attrs : Array Attribute := #[]) (ms : Array MethodInfo := #[]) (fl : Nat := 33) (sup : Nat := 0) (ifs : Array Nat := #[]) (fds : Array FieldInfo := #[]) : ClassFile where
  minorVersion := 0
  majorVersion := 65
  constantPool := pool
  accessFlags := fl
  thisClass := this
  superClass := sup
  interfaces := ifs
  fields := fds
  methods := ms
  attributes := attrs
def plain (name : String) (sup : Option ClassId) : Class where
  name := name
  kind := .ordinary
  loader := none
  accessFlags := 33
  super := sup
  interfaces := #[]
  cf := none
  fields := #[]
  methods := #[]
  instanceTypes := #[]
  staticTypes := #[]
  resolved := #[]
  callSites := []
  init := .initialized
  statics := none
  mirror := none

def pool0 : Array CpInfo := pool [(5, u "<init>"), (0, u "()V"), (1, .class_ 10), (1, u "java/lang/Object")] 113

def k0m0 : Method := { name := "<init>", desc := "()V", sig := { parameters := [], returnType := none }, accessFlags := 1, code := none }
/-- java/lang/Object -/
def k0 : Class := { plain "java/lang/Object" none with
  accessFlags := 33
  interfaces := #[]
  cf := some (fileOf pool0 8 #[] #[{ accessFlags := 1, nameIndex := 5, descriptorIndex := 6, attributes := #[] }] 33 0 #[] #[])
  fields := #[]
  methods := #[k0m0]
  instanceTypes := #[]
  staticTypes := #[]
  resolved := Array.replicate 124 none
  statics := none }

def pool1 : Array CpInfo := pool [(2, .class_ 4), (1, u "java/lang/Object"), (0, u "<init>"), (0, u "()V"), (0, .fieldref 8 9), (0, .class_ 10), (0, .nameAndType 11 12), (0, u "com/example/assayline/assayline/wire/AstmChecksum"), (0, u "STANDARD"), (0, u "Lcom/example/assayline/assayline/wire/AstmChecksum;"), (0, .fieldref 8 14), (0, .nameAndType 15 12), (0, u "EXCLUDES_TERMINATOR"), (0, .methodref 17 18), (0, .class_ 19), (0, .nameAndType 20 21), (0, u "com/example/assayline/assayline/wire/AstmChecksumOfPinLaw"), (0, u "part"), (0, u "([BIII)I"), (0, .methodref 8 23), (0, .nameAndType 24 25), (0, u "of"), (0, u "(I[BIII)I"), (2, u "law"), (0, u "(IIII)Z")] 5

def k1m0 : Method := { name := "<init>", desc := "()V", sig := { parameters := [], returnType := none }, accessFlags := 1, code := none }
def k1c1 : Code := { maxStack := 6, maxLocals := 12, code := code, exceptionTable := #[], attributes := #[] }
def k1m1 : Method := { name := "law", desc := "(IIII)Z", sig := { parameters := [.int, .int, .int, .int], returnType := some .boolean }, accessFlags := 9, code := some k1c1 }
def k1c2 : Code := { maxStack := 3, maxLocals := 4, code := method_3_code, exceptionTable := #[], attributes := #[] }
def k1m2 : Method := { name := "part", desc := "([BIII)I", sig := { parameters := [(.array .byte), .int, .int, .int], returnType := some .int }, accessFlags := 10, code := some k1c2 }
/-- com/example/assayline/assayline/wire/AstmChecksumOfPinLaw -/
def k1 : Class := { plain "com/example/assayline/assayline/wire/AstmChecksumOfPinLaw" (some 0) with
  accessFlags := 49
  interfaces := #[]
  cf := some (fileOf pool1 17 #[] #[{ accessFlags := 1, nameIndex := 5, descriptorIndex := 6, attributes := #[] }, { accessFlags := 9, nameIndex := 28, descriptorIndex := 29, attributes := #[] }, { accessFlags := 10, nameIndex := 20, descriptorIndex := 21, attributes := #[] }] 49 2 #[] #[])
  fields := #[]
  methods := #[k1m0, k1m1, k1m2]
  instanceTypes := #[]
  staticTypes := #[]
  resolved := Array.replicate 35 none
  statics := none }

def pool2 : Array CpInfo := pool [(1, .class_ 2), (0, u "java/lang/constant/Constable"), (0, .class_ 4), (0, u "java/lang/Object")] 6

/-- java/lang/constant/Constable -/
def k2 : Class := { plain "java/lang/constant/Constable" (some 0) with
  accessFlags := 1537
  interfaces := #[]
  cf := some (fileOf pool2 1 #[] #[] 1537 3 #[] #[])
  fields := #[]
  methods := #[]
  instanceTypes := #[]
  staticTypes := #[]
  resolved := Array.replicate 11 none
  statics := none }

def pool3 : Array CpInfo := pool [(1, .class_ 2), (0, u "java/lang/Comparable"), (0, .class_ 4), (0, u "java/lang/Object")] 7

/-- java/lang/Comparable -/
def k3 : Class := { plain "java/lang/Comparable" (some 0) with
  accessFlags := 1537
  interfaces := #[]
  cf := some (fileOf pool3 1 #[] #[] 1537 3 #[] #[])
  fields := #[]
  methods := #[]
  instanceTypes := #[]
  staticTypes := #[]
  resolved := Array.replicate 12 none
  statics := none }

def pool4 : Array CpInfo := pool [(1, .class_ 2), (0, u "java/io/Serializable"), (0, .class_ 4), (0, u "java/lang/Object")] 2

/-- java/io/Serializable -/
def k4 : Class := { plain "java/io/Serializable" (some 0) with
  accessFlags := 1537
  interfaces := #[]
  cf := some (fileOf pool4 1 #[] #[] 1537 3 #[] #[])
  fields := #[]
  methods := #[]
  instanceTypes := #[]
  staticTypes := #[]
  resolved := Array.replicate 7 none
  statics := none }

def pool5 : Array CpInfo := pool [(2, .class_ 4), (1, u "java/lang/Enum"), (0, u "name"), (0, u "Ljava/lang/String;"), (2, u "ordinal"), (0, u "I"), (1, .class_ 14), (1, u "java/lang/Object"), (4, u "hash"), (86, .class_ 108), (1, u "java/lang/Enum$EnumDesc"), (2, .class_ 112), (0, u "java/lang/constant/Constable"), (0, .class_ 114), (0, u "java/lang/Comparable"), (0, .class_ 116), (0, u "java/io/Serializable")] 87

/-- java/lang/Enum -/
def k5 : Class := { plain "java/lang/Enum" (some 0) with
  accessFlags := 1057
  interfaces := #[2, 3, 4]
  cf := some (fileOf pool5 2 #[.nestMembers #[106]] #[] 1057 12 #[111, 113, 115] #[{ accessFlags := 18, nameIndex := 5, descriptorIndex := 6, attributes := #[] }, { accessFlags := 18, nameIndex := 9, descriptorIndex := 10, attributes := #[] }, { accessFlags := 2, nameIndex := 19, descriptorIndex := 10, attributes := #[] }])
  fields := #[{ name := "name", type := (.object "java/lang/String"), accessFlags := 18, slot := 0, constantValue := 0 }, { name := "ordinal", type := .int, accessFlags := 18, slot := 1, constantValue := 0 }, { name := "hash", type := .int, accessFlags := 2, slot := 2, constantValue := 0 }]
  methods := #[]
  instanceTypes := #[(.object "java/lang/String"), .int, .int]
  staticTypes := #[]
  resolved := Array.replicate 204 none
  statics := none }

def pool6 : Array CpInfo := pool [(1, .class_ 2), (0, u "com/example/assayline/assayline/wire/AstmChecksum"), (2, u "STANDARD"), (0, u "Lcom/example/assayline/assayline/wire/AstmChecksum;"), (2, u "EXCLUDES_TERMINATOR"), (2, u "$VALUES"), (0, u "[Lcom/example/assayline/assayline/wire/AstmChecksum;"), (6, .class_ 22), (1, u "java/lang/Enum"), (6, .fieldref 1 30), (0, .nameAndType 31 32), (0, u "sumsTerminator"), (0, u "Z"), (16, u "of"), (0, u "(I[BIII)I")] 8

def k6c0 : Code := { maxStack := 3, maxLocals := 8, code := prog_89_method_4_code, exceptionTable := #[], attributes := #[] }
def k6m0 : Method := { name := "of", desc := "(I[BIII)I", sig := { parameters := [.int, (.array .byte), .int, .int, .int], returnType := some .int }, accessFlags := 1, code := some k6c0 }
/-- com/example/assayline/assayline/wire/AstmChecksum -/
def k6 : Class := { plain "com/example/assayline/assayline/wire/AstmChecksum" (some 5) with
  accessFlags := 16433
  interfaces := #[]
  cf := some (fileOf pool6 1 #[] #[{ accessFlags := 1, nameIndex := 49, descriptorIndex := 50, attributes := #[] }] 16433 20 #[] #[{ accessFlags := 16409, nameIndex := 5, descriptorIndex := 6, attributes := #[] }, { accessFlags := 16409, nameIndex := 9, descriptorIndex := 6, attributes := #[] }, { accessFlags := 18, nameIndex := 31, descriptorIndex := 32, attributes := #[] }, { accessFlags := 4122, nameIndex := 12, descriptorIndex := 13, attributes := #[] }])
  fields := #[{ name := "STANDARD", type := (.object "com/example/assayline/assayline/wire/AstmChecksum"), accessFlags := 16409, slot := 0, constantValue := 0 }, { name := "EXCLUDES_TERMINATOR", type := (.object "com/example/assayline/assayline/wire/AstmChecksum"), accessFlags := 16409, slot := 1, constantValue := 0 }, { name := "sumsTerminator", type := .boolean, accessFlags := 18, slot := 3, constantValue := 0 }, { name := "$VALUES", type := (.array (.object "com/example/assayline/assayline/wire/AstmChecksum")), accessFlags := 4122, slot := 2, constantValue := 0 }]
  methods := #[k6m0]
  instanceTypes := #[(.object "java/lang/String"), .int, .int, .boolean]
  staticTypes := #[(.object "com/example/assayline/assayline/wire/AstmChecksum"), (.object "com/example/assayline/assayline/wire/AstmChecksum"), (.array (.object "com/example/assayline/assayline/wire/AstmChecksum"))]
  resolved := Array.replicate 59 none
  statics := some 0 }

def pool7 : Array CpInfo := pool [(1, u "java/lang/Cloneable"), (0, .class_ 1), (0, u "java/lang/Object"), (0, .class_ 3)] 3

/-- java/lang/Cloneable -/
def k7 : Class := { plain "java/lang/Cloneable" (some 0) with
  accessFlags := 1537
  interfaces := #[]
  cf := some (fileOf pool7 2 #[] #[] 1537 4 #[] #[])
  fields := #[]
  methods := #[]
  instanceTypes := #[]
  staticTypes := #[]
  resolved := Array.replicate 8 none
  statics := none }

/-- the primitive byte -/
def k8 : Class := { plain "byte" none with kind := .primitive 'B', accessFlags := 0x411 }
/-- [B -/
def k9 : Class := { plain "[B" (some 0) with kind := .array 8 .byte, interfaces := #[7, 4], accessFlags := 1041 }

def heap : Heap := #[{ cls := 6, slots := #[.ref 2, .ref 1, .null], vm := .statics 6 },
  { cls := 6, slots := #[.null, .int 0, .int 0, .int 0], vm := .none },
  { cls := 6, slots := #[.null, .int 1, .int 0, .int 1], vm := .none }]
def classes : Array Class := #[k0, k1, k2, k3, k4, k5, k6, k7, k8, k9]
def interned : List (Array UInt16 × Addr) := []
def slotsUsed : Nat := 11
def theMethod : MethodId := ⟨1, 1⟩
def args0 : Array Value := #[.int 5, .int 5, .int 5, .int 5]
def aboutOver (below : List Frame) : State where
  vm := { classes := classes, interned := interned.toArray }
  heap := heap
  slotsUsed := slotsUsed
  threads := #[{ frames := .invoking theMethod args0 :: below }]
def below0 : List Frame := [.native { method := ⟨0, 0⟩, args := #[] }]
def about1 : State := aboutOver below0
def p0 : Program := .bare "" "" ""
def e0 : Env := launch0.env 0 0 0
theorem w_frames : about1.frames = Frame.invoking theMethod args0 :: below0 := rfl
set_option maxRecDepth 65536 in
theorem w_args : argsFit about1.vm theMethod args0 = true := by decide +kernel
set_option maxRecDepth 65536 in
theorem w_heap : heapFits about1 = true := by decide +kernel
set_option maxRecDepth 65536 in
theorem w_runnable : about1.curStatus? = some .runnable := by decide +kernel
set_option maxRecDepth 65536 in
theorem w_alone : about1.alone = true := by decide +kernel
set_option maxRecDepth 65536 in
theorem w_named : about1.methodNamed? x = some theMethod := by decide +kernel
set_option maxRecDepth 65536 in
theorem w_hears : about1.hears theMethod below0 = true := by decide +kernel
set_option maxRecDepth 65536 in
theorem w_ripe : about1.ripe theMethod args0 below0 = true := by decide +kernel
theorem w_running : about1.status = .running := rfl
set_option maxRecDepth 65536 in
theorem w_room : about1.hasRoom e0.platform room_1 = true :=
  launch0.hasRoom_least _ room_1 (by decide +kernel) (by decide +kernel) (by decide +kernel) (by decide +kernel) (by decide +kernel) (by decide +kernel)
theorem allAtoms_all (ts : List Jvm.Cond) (a : Array Jvm.Value) (st : Jvm.State) : (allAtoms ts).before a st = ts.all (fun c => c.before a st) := by
  induction ts with
  | nil => rfl
  | cons c t ih =>
    show (Jvm.Cond.and c (allAtoms t)).before a st = _
    rw [Jvm.Cond.before_and, ih, List.all_cons]
def words1 : List Jvm.Cond := Jvm.Cond.code x code maxLocals ret :: tables_1
/-- a 'code' word, met by the world's own term for the bytes: nothing is compared byte by byte -/
theorem code_word {y : MethodName} {bytes : ByteArray} {mx : Nat} {rt : Option FieldType} {a : Array Value} {s : State} {m : MethodId} {meth : Method} {c : Code} (h1 : s.methodNamed? y = some m) (h2 : s.vm.method? m = some meth) (h3 : meth.code = some c) (h4 : c.code = bytes)
    (h5 : (c.maxLocals == mx && c.exceptionTable.isEmpty && decide (c.maxStack ≤ mostOperands) && decide (meth.sig.returnType = rt) && !meth.locks && decide (parseMethodDescriptor y.desc = some meth.sig)) = true) : (Jvm.Cond.code y bytes mx rt).before a s = true := by
  simp only [Bool.and_eq_true, beq_iff_eq, Bool.not_eq_true', decide_eq_true_eq] at h5
  obtain ⟨⟨⟨⟨⟨g1, g2⟩, g3⟩, g4⟩, g5⟩, g6⟩ := h5
  simp [Cond.before, Cond.holds, Cond.value, h1, h2, h3, h4, g1, g2, g3, g4, g5, g6]
def isCode : Jvm.Cond → Bool
  | .code _ _ _ _ => true
  | _ => false
theorem all_split {L : List Jvm.Cond} {P : Jvm.Cond → Bool} (h1 : L.all (fun c => isCode c || P c) = true) (h2 : ∀ c ∈ L.filter isCode, P c = true) : L.all P = true := by
  refine List.all_eq_true.mpr fun c hc => ?_
  have h := List.all_eq_true.mp h1 c hc
  rcases Bool.eq_false_or_eq_true (isCode c) with hi | hi
  · exact h2 c (List.mem_filter.mpr ⟨hc, hi⟩)
  · simpa [hi] using h
set_option maxRecDepth 65536 in
theorem w_c0 : (Jvm.Cond.code x code maxLocals ret).before args0 about1 = true := code_word (m := ⟨1, 1⟩) (meth := k1m1) (c := k1c1) (by decide +kernel) rfl rfl rfl (by decide +kernel)
set_option maxRecDepth 65536 in
theorem w_c1 : (Jvm.Cond.code ({ cls := "com/example/assayline/assayline/wire/AstmChecksumOfPinLaw", name := "part", desc := "([BIII)I" } : Jvm.MethodName) method_3_code (4 : Nat) (Option.some Jvm.ClassFile.FieldType.int)).before args0 about1 = true := code_word (m := ⟨1, 2⟩) (meth := k1m2) (c := k1c2) (by decide +kernel) rfl rfl rfl (by decide +kernel)
set_option maxRecDepth 65536 in
theorem w_c2 : (Jvm.Cond.code ({ cls := "com/example/assayline/assayline/wire/AstmChecksum", name := "of", desc := "(I[BIII)I" } : Jvm.MethodName) prog_89_method_4_code (8 : Nat) (Option.some Jvm.ClassFile.FieldType.int)).before args0 about1 = true := code_word (m := ⟨6, 0⟩) (meth := k6m0) (c := k6c0) (by decide +kernel) rfl rfl rfl (by decide +kernel)
def codes1 : List Jvm.Cond := [Jvm.Cond.code x code maxLocals ret, Jvm.Cond.code ({ cls := "com/example/assayline/assayline/wire/AstmChecksumOfPinLaw", name := "part", desc := "([BIII)I" } : Jvm.MethodName) method_3_code (4 : Nat) (Option.some Jvm.ClassFile.FieldType.int), Jvm.Cond.code ({ cls := "com/example/assayline/assayline/wire/AstmChecksum", name := "of", desc := "(I[BIII)I" } : Jvm.MethodName) prog_89_method_4_code (8 : Nat) (Option.some Jvm.ClassFile.FieldType.int)]
set_option maxRecDepth 65536 in
theorem codes_eq : words1.filter isCode = codes1 := rfl
theorem w_codes : ∀ c ∈ words1.filter isCode, c.before args0 about1 = true := by
  rw [codes_eq]
  intro c hc
  simp only [codes1, List.mem_cons, List.not_mem_nil, or_false] at hc
  rcases hc with rfl | rfl | rfl
  · exact w_c0
  · exact w_c1
  · exact w_c2
set_option maxRecDepth 65536 in
theorem w_t1 : words1.all (fun c => isCode c || c.before args0 about1) = true := by decide +kernel
theorem w_tables : (allAtoms (Jvm.Cond.code x code maxLocals ret :: tables_1)).before args0 about1 = true := by
  rw [allAtoms_all]
  show words1.all (fun c => c.before args0 about1) = true
  refine all_split ?_ w_codes
  rw [w_t1]
set_option maxRecDepth 65536 in
theorem w_case : (Jvm.Cond.and given_1 narrow_1).before args0 about1 = true := by decide +kernel
theorem w_applies : (headSpec (Jvm.Cond.code x code maxLocals ret :: tables_1) room_1).applies x e0.platform about1 = true :=
  (Spec.applies_iff w_frames).mpr ⟨w_running, w_runnable, w_alone, w_named, w_hears, w_ripe, w_room, w_tables⟩
theorem atStart : AtStart classFile x code maxLocals ret World_1 tables_1 room_1 Calls_1 rest_1 Pre_1 launch0 p0 e0 about1 theMethod args0 below0 :=
  ⟨lists_1, trivial, launch0.admits_env _ _ _, launch0.least_env, fairChoices_fair.cas, fairChoices_fair.clock, w_frames, w_args, w_heap, w_applies, trivial, trivial, w_case⟩
end start1
theorem witness_1 : WitnessClaimed_1 := ⟨start1.p0, start1.e0, start1.about1, start1.theMethod, start1.args0, start1.below0, start1.atStart⟩
end Jvm.Pilot.@@N@@
