import JvmDerived
import JvmDerived.Pilot.@@N@@Statement
import JvmDerived.Pilot.@@N@@Code
set_option linter.unusedVariables false
set_option linter.unusedSimpArgs false
namespace Jvm.Pilot.@@N@@
open Jvm Jvm.ClassFile Sem Op Lib Jvm.Free Jvm.Stand Jvm.LawKit Jvm.RoadKit Bundle Jvm.Pilot.@@N@@.Jvm.D
/-- the walk from here on: it comes to an end that meets R -/
def Go (tb : Tables) (e : Env) (below : List Frame) (R : Outcome → State → Prop) (T : State) (g : JFrame) : Prop :=
  ∃ s₂ o, Steps tb e below (T.setTop g) s₂ ∧ s₂.status = .running ∧ Ended s₂ below o ∧ R o s₂
def RT (Q : Option Value → Heap → List Loc → Prop) (s : State) (C S : Nat) : Outcome → State → Prop :=
  fun o U' => ∃ v L, o = .returned v ∧ Q v U'.heap L ∧ FrameEnd s o U' L C S
theorem Go.step {tb : Tables} {e : Env} {below : List Frame} {R : Outcome → State → Prop} {T T' : State} {g g' : JFrame} (h : ∀ t, Steps tb e below (T'.setTop g') t → Steps tb e below (T.setTop g) t) (k : Go tb e below R T' g') : Go tb e below R T g := by
  obtain ⟨s₂, o, h1, h2⟩ := k
  exact ⟨s₂, o, h _ h1, h2⟩
theorem Go.tr {tb : Tables} {e : Env} {below : List Frame} {R : Outcome → State → Prop} {T T' : State} {g g' : JFrame} (h : Steps tb e below (T.setTop g) (T'.setTop g')) (k : Go tb e below R T' g') : Go tb e below R T g :=
  Go.step (fun _ q => h.trans q) k
theorem Go.enter {tb : Tables} {e : Env} {below : List Frame} {Q : Option Value → Heap → List Loc → Prop} {s : State} {C S : Nat} {T : State} {g g' : JFrame} (q : g = g') (k : Go tb e below (RT Q s C S) T g') :
    ∃ s₂ o, Steps tb e below (T.setTop g) s₂ ∧ s₂.status = .running ∧ Ended s₂ below o ∧ ∃ v L, o = .returned v ∧ Q v s₂.heap L ∧ FrameEnd s o s₂ L C S := by
  subst q
  exact k
section Ret
variable {p : Program} {l : Launch} {e : Env} {R : Room} {s : State} {m : MethodId} {args : Array Value} {below : List Frame} {meth : Method} {c : Code} {T : State} {locs : List Loc} {cells slots : Nat} {Q : Option Value → Heap → List Loc → Prop} {C S : Nat} {pc : Nat} {Ls : Array Slot} {rest : List Value}
theorem Go.fin (X : Stand p l e R s m args below meth c T locs cells slots) {v : Option Value} {g : JFrame} (hv : meth.sig.returnType = none → v = none) (hlk : meth.locks = false)
    (hst : ∀ fs, (∀ (f : JFrame) (acts : List Action), f.method = m → f.locked = none → f.entered = [] → (doReturn e (T.setTop f) acts v).1 = T.setFrames fs) → Steps p.tables e below (T.setTop g) (T.setFrames fs))
    (hQ : Q v T.heap locs) (hc : cells ≤ C) (hs : slots ≤ S) : Go p.tables e below (RT Q s C S) T g := by
  obtain ⟨fs, hr, hrun, hended, hW, hsame⟩ := X.leave hv hlk
  exact ⟨_, _, hst fs hr, hrun, hended, _, _, rfl, hQ, ⟨_, rfl⟩, hW, hsame.mono hc hs⟩
theorem Go.retN (X : Stand p l e R s m args below meth c T locs cells slots) (hx : p.tables.exec = Jvm.exec) {z z' : Int32} {t : FieldType} (hret : meth.sig.returnType = some t) (ht : t = .boolean ∨ t = .byte ∨ t = .char ∨ t = .short) (hd : decode c.code pc = .ok (.ireturn, 1)) (hlk : meth.locks = false) (hz : nar t z = z')
    (hQ : Q (some (.int z')) T.heap locs) (hc : cells ≤ C) (hs : slots ≤ S) : Go p.tables e below (RT Q s C S) T (mkF m pc Ls (.int z :: rest)) := by
  subst hz
  exact Go.fin X (fun h => by rw [hret] at h; cases h) hlk (fun fs hr => Jvm.RoadKit.retN X hx hret ht hd hr) hQ hc hs
theorem Go.retI (X : Stand p l e R s m args below meth c T locs cells slots) (hx : p.tables.exec = Jvm.exec) {z : Int32} (hret : meth.sig.returnType = some .int) (hd : decode c.code pc = .ok (.ireturn, 1)) (hlk : meth.locks = false)
    (hQ : Q (some (.int z)) T.heap locs) (hc : cells ≤ C) (hs : slots ≤ S) : Go p.tables e below (RT Q s C S) T (mkF m pc Ls (.int z :: rest)) := by
  refine Go.fin X (fun h => by rw [hret] at h; cases h) hlk (fun fs hr => ?_) hQ hc hs
  have hm' : T.vm.method? m = some meth := X.method'
  have hn : narrow .int (.int z) = .int z := rfl
  show Steps p.tables e below (T.setTop { method := m, pc := pc, locals := Ls, stack := _ :: rest, locked := none }) _
  jvm_step X.here [X.here.top, hx, hd, hm', hret, hn]
  first | (intro acts; rw [hr _ acts rfl rfl rfl]) | rw [hr _ _ rfl rfl rfl]
  exact Steps.refl _
theorem Go.retJ (X : Stand p l e R s m args below meth c T locs cells slots) (hx : p.tables.exec = Jvm.exec) {z : Int64} (hret : meth.sig.returnType = some .long) (hd : decode c.code pc = .ok (.lreturn, 1)) (hlk : meth.locks = false)
    (hQ : Q (some (.long z)) T.heap locs) (hc : cells ≤ C) (hs : slots ≤ S) : Go p.tables e below (RT Q s C S) T (mkF m pc Ls (.long z :: rest)) := by
  refine Go.fin X (fun h => by rw [hret] at h; cases h) hlk (fun fs hr => ?_) hQ hc hs
  have hm' : T.vm.method? m = some meth := X.method'
  show Steps p.tables e below (T.setTop { method := m, pc := pc, locals := Ls, stack := _ :: rest, locked := none }) _
  jvm_step X.here [X.here.top, hx, hd, hm', hret, narrow]
  first | (intro acts; rw [hr _ acts rfl rfl rfl]) | rw [hr _ _ rfl rfl rfl]
  exact Steps.refl _
theorem Go.retA (X : Stand p l e R s m args below meth c T locs cells slots) (hx : p.tables.exec = Jvm.exec) {z : Value} {t : FieldType} (hret : meth.sig.returnType = some t) (ht : t.isReference = true) (hd : decode c.code pc = .ok (.areturn, 1)) (hz : z.isRef = true) (hlk : meth.locks = false)
    (hQ : Q (some z) T.heap locs) (hc : cells ≤ C) (hs : slots ≤ S) : Go p.tables e below (RT Q s C S) T (mkF m pc Ls (z :: rest)) := by
  refine Go.fin X (fun h => by rw [hret] at h; cases h) hlk (fun fs hr => ?_) hQ hc hs
  have hm' : T.vm.method? m = some meth := X.method'
  show Steps p.tables e below (T.setTop { method := m, pc := pc, locals := Ls, stack := _ :: rest, locked := none }) _
  jvm_step X.here [X.here.top, hx, hd, hm', hret, hz, ht]
  first | (intro acts; rw [hr _ acts rfl rfl rfl]) | rw [hr _ _ rfl rfl rfl]
  exact Steps.refl _
theorem Go.retV (X : Stand p l e R s m args below meth c T locs cells slots) (hx : p.tables.exec = Jvm.exec) (hret : meth.sig.returnType = none) (hd : decode c.code pc = .ok (.return_, 1)) (hlk : meth.locks = false)
    (hQ : Q none T.heap locs) (hc : cells ≤ C) (hs : slots ≤ S) : Go p.tables e below (RT Q s C S) T (mkF m pc Ls []) :=
  Go.fin X (fun _ => rfl) hlk (fun fs hr => X.returnOut hx hret hd hr) hQ hc hs
end Ret
theorem own_and_nonneg (a : Int32) : 0 ≤ (a &&& 2147483647).toInt := by
  have h : (a &&& 2147483647).toBitVec.msb = false := by
    rw [Int32.toBitVec_and, BitVec.msb_and]
    have : (2147483647 : Int32).toBitVec.msb = false := by decide
    rw [this, Bool.and_false]
  show 0 ≤ (a &&& 2147483647).toBitVec.toInt
  rw [BitVec.toInt_eq_msb_cond, h]
  simp
theorem own_mod (a n : Int32) (hn : 0 < n.toInt) : 0 ≤ ((a &&& 2147483647) % n).toInt ∧ ((a &&& 2147483647) % n).toInt < n.toInt := by
  rw [Int32.toInt_mod]
  have h := own_and_nonneg a
  exact ⟨Int.tmod_nonneg _ h, by have := Int.tmod_lt_of_pos (a &&& 2147483647).toInt hn; exact this⟩
theorem own_char (x : Int32) : 0 ≤ (x.toUInt32.toUInt16.toUInt32.toInt32).toInt ∧ (x.toUInt32.toUInt16.toUInt32.toInt32).toInt < 65536 := by
  generalize x.toUInt32.toUInt16 = u
  have h : u.toNat < 65536 := u.toNat_lt
  have : (u.toUInt32.toInt32).toInt = (u.toNat : Int) := by
    show (u.toUInt32.toBitVec).toInt = _
    rw [BitVec.toInt_eq_toNat_of_lt]
    · simp
    · simp; omega
  omega
theorem own_lrem (x y : Int64) : x - x / y * y = x % y := by
  apply Int64.toInt_inj.mp
  rw [Int64.toInt_sub, Int64.toInt_mul, Int64.toInt_div, Int64.toInt_mod, Int.tmod_def, Int.mul_comm y.toInt]
  have hb := Int.bmod_emod (x := x.toInt.tdiv y.toInt) (m := 2 ^ 64)
  rw [Int.sub_bmod_bmod]
  have e : (x.toInt - (x.toInt.tdiv y.toInt).bmod (2 ^ 64) * y.toInt).bmod (2 ^ 64) = (x.toInt - x.toInt.tdiv y.toInt * y.toInt).bmod (2 ^ 64) := by
    rw [← Int.sub_bmod_bmod, Int.bmod_mul_bmod, Int.sub_bmod_bmod]
  rw [e]
  have h := Int64.toInt_mod x y
  have h2 := (x % y).le_toInt
  have h3 := (x % y).toInt_lt
  rw [h, Int.tmod_def, Int.mul_comm y.toInt] at h2 h3
  apply Int.bmod_eq_of_le
  · simpa using h2
  · simpa using h3
theorem own_lremM {p : Program} {l : Launch} {e : Env} {R : Room} {s : State} {m : MethodId} {args : Array Value} {below : List Frame} {meth : Method} {c : Code} {T : State} {locs : List Loc} {cells slots : Nat} {g : JFrame} {target : State} (X : Stand p l e R s m args below meth c T locs cells slots) (hx : p.tables.exec = Jvm.exec) (hg : g.method = m) {x y : Int64} {rest : List Value} (hd : decode c.code g.pc = .ok (.lrem, 1)) (hs : g.stack = .long y :: .long x :: rest) (hy : y ≠ 0)
    (hr : Steps p.tables e below (T.setTop { g with pc := g.pc + 1, stack := .long (x % y) :: rest }) target) : Steps p.tables e below (T.setTop g) target := by
  have q := own_lrem x y
  exact XS.lrem X.here hx hg hd hs hy (by rw [q]; exact hr)
theorem own_selp {s : State} {args : Array Value} {C : String} {y z : MethodName} (hsel : (Cond.selects C z z).before args s = true) (hz : z.cls = y.cls) (hinst : (Cond.instanceMethod y).before args s = true) (hpriv : s.PrivateAt y) (hy : y.cls ≠ "java/lang/invoke/MethodHandle" ∧ y.cls ≠ "java/lang/invoke/VarHandle") : (Cond.selects y.cls y y).before args s = true := by
  obtain ⟨c, r, m, -, -, h3, -, k, h5, h6⟩ := Cond.selects_spec hsel
  exact selects_self_of_private (hz ▸ findClass_of_methodNamed h3) h5 h6 hpriv hinst hy
theorem own_eqi {t : Term} {k : Int32} {args : Array Value} {first : State} {o : Option Outcome} {s : State} {idx : List Nat} (h : (Cond.eq t (.int k)).value args first o s idx = some true) : t.eval args first o idx s = some (.int k) := by
  cases ht : t.eval args first o idx s with
  | none => simp [Cond.value, ht] at h
  | some x => cases x <;> simp [Cond.value, Term.eval, ht] at h ⊢; exact h
theorem own_eqr {t u : Term} {b : Addr} {args : Array Value} {first : State} {o : Option Outcome} {s : State} {idx : List Nat} (h : (Cond.eq t u).value args first o s idx = some true) (hu : u.eval args first o idx s = some (.ref b)) : t.eval args first o idx s = some (.ref b) := by
  cases ht : t.eval args first o idx s with
  | none => simp [Cond.value, ht] at h
  | some x => cases x <;> simp [Cond.value, ht, hu] at h ⊢; exact h
/-- what the case says of the statics -/
def Wd (Z : State) (w : Nat → Addr) : Prop := Sta Z Z.heap "com/example/weir/weir/Algorithm" "SLIDING_WINDOW" "Lcom/example/weir/weir/Algorithm;" (.ref (w 0)) ∧ Exa Z Z.heap (w 0) "com/example/weir/weir/Algorithm$1" ∧ Sta Z Z.heap "com/example/weir/weir/Algorithm" "FIXED_WINDOW" "Lcom/example/weir/weir/Algorithm;" (.ref (w 1)) ∧ Exa Z Z.heap (w 1) "com/example/weir/weir/Algorithm$2" ∧ Sta Z Z.heap "com/example/weir/weir/Algorithm" "TOKEN_BUCKET" "Lcom/example/weir/weir/Algorithm;" (.ref (w 2)) ∧ Exa Z Z.heap (w 2) "com/example/weir/weir/Algorithm$3"
theorem wd0 {Z : State} {w : Nat → Addr} (wd : Wd Z w) : Sta Z Z.heap "com/example/weir/weir/Algorithm" "SLIDING_WINDOW" "Lcom/example/weir/weir/Algorithm;" (.ref (w 0)) := wd.1
theorem wd1 {Z : State} {w : Nat → Addr} (wd : Wd Z w) : Exa Z Z.heap (w 0) "com/example/weir/weir/Algorithm$1" := wd.2.1
theorem wd2 {Z : State} {w : Nat → Addr} (wd : Wd Z w) : Sta Z Z.heap "com/example/weir/weir/Algorithm" "FIXED_WINDOW" "Lcom/example/weir/weir/Algorithm;" (.ref (w 1)) := wd.2.2.1
theorem wd3 {Z : State} {w : Nat → Addr} (wd : Wd Z w) : Exa Z Z.heap (w 1) "com/example/weir/weir/Algorithm$2" := wd.2.2.2.1
theorem wd4 {Z : State} {w : Nat → Addr} (wd : Wd Z w) : Sta Z Z.heap "com/example/weir/weir/Algorithm" "TOKEN_BUCKET" "Lcom/example/weir/weir/Algorithm;" (.ref (w 2)) := wd.2.2.2.2.1
theorem wd5 {Z : State} {w : Nat → Addr} (wd : Wd Z w) : Exa Z Z.heap (w 2) "com/example/weir/weir/Algorithm$3" := wd.2.2.2.2.2
theorem d1_0 : decode prog_17_method_1_code 0 = .ok (.aload_n 0, 1) := by decide +kernel
theorem d1_1 : decode prog_17_method_1_code 1 = .ok (.invokespecial 1, 3) := by decide +kernel
theorem d1_4 : decode prog_17_method_1_code 4 = .ok (.aload_n 0, 1) := by decide +kernel
theorem d1_5 : decode prog_17_method_1_code 5 = .ok (.aload_n 1, 1) := by decide +kernel
theorem d1_6 : decode prog_17_method_1_code 6 = .ok (.putfield 7, 3) := by decide +kernel
theorem d1_9 : decode prog_17_method_1_code 9 = .ok (.aload_n 0, 1) := by decide +kernel
theorem d1_10 : decode prog_17_method_1_code 10 = .ok (.lload_n 2, 1) := by decide +kernel
theorem d1_11 : decode prog_17_method_1_code 11 = .ok (.putfield 13, 3) := by decide +kernel
theorem d1_14 : decode prog_17_method_1_code 14 = .ok (.aload_n 0, 1) := by decide +kernel
theorem d1_15 : decode prog_17_method_1_code 15 = .ok (.lload 4, 2) := by decide +kernel
theorem d1_17 : decode prog_17_method_1_code 17 = .ok (.putfield 17, 3) := by decide +kernel
theorem d1_20 : decode prog_17_method_1_code 20 = .ok (.aload_n 0, 1) := by decide +kernel
theorem d1_21 : decode prog_17_method_1_code 21 = .ok (.lload 6, 2) := by decide +kernel
theorem d1_23 : decode prog_17_method_1_code 23 = .ok (.putfield 20, 3) := by decide +kernel
theorem d1_26 : decode prog_17_method_1_code 26 = .ok (.return_, 1) := by decide +kernel
theorem own_pn0 : plainName "com/example/weir/weir/Settings" = true := by first | (simp [plainName, overriddenIn]; done) | decide +kernel
theorem ef_rm1 (m : MethodId) (x0 : Addr) (x1 : Addr) (x2 : Int64) (x3 : Int64) (x4 : Int64) : entryFrame m #[(.ref x0), (.ref x1), (.long x2), (.long x3), (.long x4)] 8 = mkF m 0 #[.val (.ref x0), .val (.ref x1), .val (.long x2), .second, .val (.long x3), .second, .val (.long x4), .second] [] := by first | (simp [entryFrame, mkF, argsToLocals, Value.category]; done) | rfl
def Q_rm1 (Z : State) (r0 : Addr) (r1 : Addr) (q2 : Int64) (q3 : Int64) (q4 : Int64) (h0 : Heap) (n0 : Nat) (v : Option Value) (h : Heap) (L : List Loc) : Prop := v = none ∧ Fr n0 L ∧ Keep h0 h [r0] ∧ Exa Z h r0 "com/example/weir/weir/Settings" ∧ Fld Z h r0 "com/example/weir/weir/Settings" "algorithm" "Lcom/example/weir/weir/Algorithm;" (.ref r1) ∧ Fld Z h r0 "com/example/weir/weir/Settings" "capacity" "J" (.long q2) ∧ Fld Z h r0 "com/example/weir/weir/Settings" "rate" "J" (.long q3) ∧ Fld Z h r0 "com/example/weir/weir/Settings" "intervalMillis" "J" (.long q4)
set_option maxRecDepth 65536 in
set_option maxHeartbeats 40000000 in
theorem rm1 (l : Launch) (Z : State) (a0 : Array Value) (hw : ∀ d ∈ tables_1, d.before a0 Z = true) (ws : List Jvm.Cond) (r0 : Addr) (r1 : Addr) (q2 : Int64) (q3 : Int64) (q4 : Int64) (h0 : Heap) (n0 : Nat) (Z0 : n0 ≤ h0.size) (g_r0 : n0 ≤ r0) (E_r0 : Exa Z h0 r0 "com/example/weir/weir/Settings") (F_r0_0 : Fld Z h0 r0 "com/example/weir/weir/Settings" "algorithm" "Lcom/example/weir/weir/Algorithm;" .null) (F_r0_1 : Fld Z h0 r0 "com/example/weir/weir/Settings" "capacity" "J" (.long (0 : Int64))) (F_r0_2 : Fld Z h0 r0 "com/example/weir/weir/Settings" "rate" "J" (.long (0 : Int64))) (F_r0_3 : Fld Z h0 r0 "com/example/weir/weir/Settings" "intervalMillis" "J" (.long (0 : Int64))) :
    MetFree l (⟨"com/example/weir/weir/Settings", "<init>", "(Lcom/example/weir/weir/Algorithm;JJJ)V"⟩ : MethodName) (head1 (Jvm.Cond.code (⟨"com/example/weir/weir/Settings", "<init>", "(Lcom/example/weir/weir/Algorithm;JJJ)V"⟩ : MethodName) prog_17_method_1_code 8 none :: ws) ({ frames := 1, cells := 0, slots := 0, locals := 12 } : Room)) (fun az Uz => az = #[(.ref r0), (.ref r1), (.long q2), (.long q3), (.long q4)] ∧ Z.Warmed39 Uz.vm ∧ Uz.heap = h0) (fun _ _ _ _ _ => True) (fun _ Uz oz Vz => ∃ vz Lz, oz = .returned vz ∧ Q_rm1 Z r0 r1 q2 q3 q4 h0 n0 vz Vz.heap Lz ∧ FrameEnd Uz oz Vz Lz ({ frames := 1, cells := 0, slots := 0, locals := 12 } : Room).cells ({ frames := 1, cells := 0, slots := 0, locals := 12 } : Room).slots) := by
  refine MetFree.of_bodySF (plainFor_of_name own_pn0) hisR ?_
  intro p e s m args below meth c s₁ Bd hml0 hP hK
  obtain ⟨rfl, hZ, hh⟩ := hP
  have hx := Bd.exec
  have hby := Bd.bytes
  have hml : c.maxLocals = 8 := hml0
  have hown : s.vm.findClass "com/example/weir/weir/Settings" = some m.cls := findClass_of_methodNamed Bd.named
  have hnm := (name_of_methodNamed Bd.named Bd.method).1
  have X0 : Stand p l e ({ frames := 1, cells := 0, slots := 0, locals := 12 } : Room) s m #[(.ref r0), (.ref r1), (.long q2), (.long q3), (.long q4)] below meth c s₁ [] 0 0 := Stand.of_body Bd
  have e0 : s₁.heap = h0 := by rw [← hh, Bd.state]; rfl
  have N0 := Fr.nil n0
  have K0 : Keep h0 h0 [r0] := Keep.refl _ _
  refine Go.enter (Q := Q_rm1 Z r0 r1 q2 q3 q4 h0 n0) (C := ({ frames := 1, cells := 0, slots := 0, locals := 12 } : Room).cells) (S := ({ frames := 1, cells := 0, slots := 0, locals := 12 } : Room).slots) (ef_rm1 m r0 r1 q2 q3 q4) ?_
  refine Go.step (fun _ zz => XS.aloadN X0.here hx rfl (hb hby d1_0) rfl rfl zz) ?_
  show Go _ _ _ _ s₁ (mkF m 1 #[.val (.ref r0), .val (.ref r1), .val (.long q2), .second, .val (.long q3), .second, .val (.long q4), .second] [(.ref r0)])
  obtain ⟨T1, X1, e1, st1⟩ := initO X0 hx hZ hown (hw _ (List.mem_of_getElem? (i := 10) rfl)) (hw _ (List.mem_of_getElem? (i := 11) rfl)) (hw _ (List.mem_of_getElem? (i := 12) rfl)) e0 (g := (mkF m 1 #[.val (.ref r0), .val (.ref r1), .val (.long q2), .second, .val (.long q3), .second, .val (.long q4), .second] [(.ref r0)])) rfl (by rw [hml]; rfl) rfl (hb hby d1_1) (by decide) (W := 0) (by show 2 * 0 + _ ≤ _; exact Nat.le_of_eq rfl) (by decide)
  refine Go.step st1 ?_
  show Go _ _ _ _ T1 (mkF m 4 #[.val (.ref r0), .val (.ref r1), .val (.long q2), .second, .val (.long q3), .second, .val (.long q4), .second] [])
  refine Go.step (fun _ zz => XS.aloadN X1.here hx rfl (hb hby d1_4) rfl rfl zz) ?_
  show Go _ _ _ _ T1 (mkF m 5 #[.val (.ref r0), .val (.ref r1), .val (.long q2), .second, .val (.long q3), .second, .val (.long q4), .second] [(.ref r0)])
  refine Go.step (fun _ zz => XS.aloadN X1.here hx rfl (hb hby d1_5) rfl rfl zz) ?_
  show Go _ _ _ _ T1 (mkF m 6 #[.val (.ref r0), .val (.ref r1), .val (.long q2), .second, .val (.long q3), .second, .val (.long q4), .second] [(.ref r1), (.ref r0)])
  obtain ⟨T2, h2, X2, e2, W2, st2⟩ := putF X1 hx hZ hown (host := "") (Or.inl (hw _ (List.mem_of_getElem? (i := 13) rfl))) Via.refl e1 F_r0_0 E_r0 (Or.inr ⟨(hw _ (List.mem_of_getElem? (i := 14) rfl)), rfl, hnm⟩) (hw _ (List.mem_of_getElem? (i := 5) rfl)) (ty := (.object "com/example/weir/weir/Algorithm")) (by decide) rfl rfl (g := (mkF m 6 #[.val (.ref r0), .val (.ref r1), .val (.long q2), .second, .val (.long q3), .second, .val (.long q4), .second] [(.ref r1), (.ref r0)])) rfl rfl (hb hby d1_6)
  have Fw2 := F_r0_0.same W2
  have N2 := Fr.snoc X2 N0 g_r0
  have K2 : Keep h0 h2 [r0] := K0.wr W2 (Or.inl (List.mem_of_getElem? (i := 0) rfl))
  refine Go.step st2 ?_
  show Go _ _ _ _ T2 (mkF m 9 #[.val (.ref r0), .val (.ref r1), .val (.long q2), .second, .val (.long q3), .second, .val (.long q4), .second] [])
  refine Go.step (fun _ zz => XS.aloadN X2.here hx rfl (hb hby d1_9) rfl rfl zz) ?_
  show Go _ _ _ _ T2 (mkF m 10 #[.val (.ref r0), .val (.ref r1), .val (.long q2), .second, .val (.long q3), .second, .val (.long q4), .second] [(.ref r0)])
  refine Go.step (fun _ zz => XS.lloadN X2.here hx rfl (hb hby d1_10) rfl zz) ?_
  show Go _ _ _ _ T2 (mkF m 11 #[.val (.ref r0), .val (.ref r1), .val (.long q2), .second, .val (.long q3), .second, .val (.long q4), .second] [(.long q2), (.ref r0)])
  obtain ⟨T3, h3, X3, e3, W3, st3⟩ := putF X2 hx hZ hown (host := "") (Or.inl (hw _ (List.mem_of_getElem? (i := 15) rfl))) Via.refl e2 (F_r0_1.other W2 (Or.inr (slot_ne (Or.inr (hw _ (List.mem_of_getElem? (i := 16) rfl))) (Or.inr (hw _ (List.mem_of_getElem? (i := 14) rfl))) (by decide) (t := .long) (t' := (.object "com/example/weir/weir/Algorithm")) (by decide) (by decide)))) (E_r0.wr W2) (Or.inr ⟨(hw _ (List.mem_of_getElem? (i := 16) rfl)), rfl, hnm⟩) (hw _ (List.mem_of_getElem? (i := 5) rfl)) (ty := .long) (by decide) rfl rfl (g := (mkF m 11 #[.val (.ref r0), .val (.ref r1), .val (.long q2), .second, .val (.long q3), .second, .val (.long q4), .second] [(.long q2), (.ref r0)])) rfl rfl (hb hby d1_11)
  have Fw3 := (F_r0_1.other W2 (Or.inr (slot_ne (Or.inr (hw _ (List.mem_of_getElem? (i := 16) rfl))) (Or.inr (hw _ (List.mem_of_getElem? (i := 14) rfl))) (by decide) (t := .long) (t' := (.object "com/example/weir/weir/Algorithm")) (by decide) (by decide)))).same W3
  have N3 := Fr.snoc X3 N2 g_r0
  have K3 : Keep h0 h3 [r0] := K2.wr W3 (Or.inl (List.mem_of_getElem? (i := 0) rfl))
  refine Go.step st3 ?_
  show Go _ _ _ _ T3 (mkF m 14 #[.val (.ref r0), .val (.ref r1), .val (.long q2), .second, .val (.long q3), .second, .val (.long q4), .second] [])
  refine Go.step (fun _ zz => XS.aloadN X3.here hx rfl (hb hby d1_14) rfl rfl zz) ?_
  show Go _ _ _ _ T3 (mkF m 15 #[.val (.ref r0), .val (.ref r1), .val (.long q2), .second, .val (.long q3), .second, .val (.long q4), .second] [(.ref r0)])
  refine Go.step (fun _ zz => XS.lload X3.here hx rfl (hb hby d1_15) rfl zz) ?_
  show Go _ _ _ _ T3 (mkF m 17 #[.val (.ref r0), .val (.ref r1), .val (.long q2), .second, .val (.long q3), .second, .val (.long q4), .second] [(.long q3), (.ref r0)])
  obtain ⟨T4, h4, X4, e4, W4, st4⟩ := putF X3 hx hZ hown (host := "") (Or.inl (hw _ (List.mem_of_getElem? (i := 17) rfl))) Via.refl e3 ((F_r0_2.other W2 (Or.inr (slot_ne (Or.inr (hw _ (List.mem_of_getElem? (i := 18) rfl))) (Or.inr (hw _ (List.mem_of_getElem? (i := 14) rfl))) (by decide) (t := .long) (t' := (.object "com/example/weir/weir/Algorithm")) (by decide) (by decide)))).other W3 (Or.inr (slot_ne (Or.inr (hw _ (List.mem_of_getElem? (i := 18) rfl))) (Or.inr (hw _ (List.mem_of_getElem? (i := 16) rfl))) (by decide) (t := .long) (t' := .long) (by decide) (by decide)))) ((E_r0.wr W2).wr W3) (Or.inr ⟨(hw _ (List.mem_of_getElem? (i := 18) rfl)), rfl, hnm⟩) (hw _ (List.mem_of_getElem? (i := 5) rfl)) (ty := .long) (by decide) rfl rfl (g := (mkF m 17 #[.val (.ref r0), .val (.ref r1), .val (.long q2), .second, .val (.long q3), .second, .val (.long q4), .second] [(.long q3), (.ref r0)])) rfl rfl (hb hby d1_17)
  have Fw4 := ((F_r0_2.other W2 (Or.inr (slot_ne (Or.inr (hw _ (List.mem_of_getElem? (i := 18) rfl))) (Or.inr (hw _ (List.mem_of_getElem? (i := 14) rfl))) (by decide) (t := .long) (t' := (.object "com/example/weir/weir/Algorithm")) (by decide) (by decide)))).other W3 (Or.inr (slot_ne (Or.inr (hw _ (List.mem_of_getElem? (i := 18) rfl))) (Or.inr (hw _ (List.mem_of_getElem? (i := 16) rfl))) (by decide) (t := .long) (t' := .long) (by decide) (by decide)))).same W4
  have N4 := Fr.snoc X4 N3 g_r0
  have K4 : Keep h0 h4 [r0] := K3.wr W4 (Or.inl (List.mem_of_getElem? (i := 0) rfl))
  refine Go.step st4 ?_
  show Go _ _ _ _ T4 (mkF m 20 #[.val (.ref r0), .val (.ref r1), .val (.long q2), .second, .val (.long q3), .second, .val (.long q4), .second] [])
  refine Go.step (fun _ zz => XS.aloadN X4.here hx rfl (hb hby d1_20) rfl rfl zz) ?_
  show Go _ _ _ _ T4 (mkF m 21 #[.val (.ref r0), .val (.ref r1), .val (.long q2), .second, .val (.long q3), .second, .val (.long q4), .second] [(.ref r0)])
  refine Go.step (fun _ zz => XS.lload X4.here hx rfl (hb hby d1_21) rfl zz) ?_
  show Go _ _ _ _ T4 (mkF m 23 #[.val (.ref r0), .val (.ref r1), .val (.long q2), .second, .val (.long q3), .second, .val (.long q4), .second] [(.long q4), (.ref r0)])
  obtain ⟨T5, h5, X5, e5, W5, st5⟩ := putF X4 hx hZ hown (host := "") (Or.inl (hw _ (List.mem_of_getElem? (i := 19) rfl))) Via.refl e4 (((F_r0_3.other W2 (Or.inr (slot_ne (Or.inr (hw _ (List.mem_of_getElem? (i := 20) rfl))) (Or.inr (hw _ (List.mem_of_getElem? (i := 14) rfl))) (by decide) (t := .long) (t' := (.object "com/example/weir/weir/Algorithm")) (by decide) (by decide)))).other W3 (Or.inr (slot_ne (Or.inr (hw _ (List.mem_of_getElem? (i := 20) rfl))) (Or.inr (hw _ (List.mem_of_getElem? (i := 16) rfl))) (by decide) (t := .long) (t' := .long) (by decide) (by decide)))).other W4 (Or.inr (slot_ne (Or.inr (hw _ (List.mem_of_getElem? (i := 20) rfl))) (Or.inr (hw _ (List.mem_of_getElem? (i := 18) rfl))) (by decide) (t := .long) (t' := .long) (by decide) (by decide)))) (((E_r0.wr W2).wr W3).wr W4) (Or.inr ⟨(hw _ (List.mem_of_getElem? (i := 20) rfl)), rfl, hnm⟩) (hw _ (List.mem_of_getElem? (i := 5) rfl)) (ty := .long) (by decide) rfl rfl (g := (mkF m 23 #[.val (.ref r0), .val (.ref r1), .val (.long q2), .second, .val (.long q3), .second, .val (.long q4), .second] [(.long q4), (.ref r0)])) rfl rfl (hb hby d1_23)
  have Fw5 := (((F_r0_3.other W2 (Or.inr (slot_ne (Or.inr (hw _ (List.mem_of_getElem? (i := 20) rfl))) (Or.inr (hw _ (List.mem_of_getElem? (i := 14) rfl))) (by decide) (t := .long) (t' := (.object "com/example/weir/weir/Algorithm")) (by decide) (by decide)))).other W3 (Or.inr (slot_ne (Or.inr (hw _ (List.mem_of_getElem? (i := 20) rfl))) (Or.inr (hw _ (List.mem_of_getElem? (i := 16) rfl))) (by decide) (t := .long) (t' := .long) (by decide) (by decide)))).other W4 (Or.inr (slot_ne (Or.inr (hw _ (List.mem_of_getElem? (i := 20) rfl))) (Or.inr (hw _ (List.mem_of_getElem? (i := 18) rfl))) (by decide) (t := .long) (t' := .long) (by decide) (by decide)))).same W5
  have N5 := Fr.snoc X5 N4 g_r0
  have K5 : Keep h0 h5 [r0] := K4.wr W5 (Or.inl (List.mem_of_getElem? (i := 0) rfl))
  refine Go.step st5 ?_
  show Go _ _ _ _ T5 (mkF m 26 #[.val (.ref r0), .val (.ref r1), .val (.long q2), .second, .val (.long q3), .second, .val (.long q4), .second] [])
  exact Go.retV X5 hx Bd.returns (hb hby d1_26) Bd.notSynchronized (by rw [e5]; exact ⟨rfl, N5, K5, ((((E_r0.wr W2).wr W3).wr W4).wr W5), (((Fw2.other W3 (Or.inr (slot_ne (Or.inr (hw _ (List.mem_of_getElem? (i := 14) rfl))) (Or.inr (hw _ (List.mem_of_getElem? (i := 16) rfl))) (by decide) (t := (.object "com/example/weir/weir/Algorithm")) (t' := .long) (by decide) (by decide)))).other W4 (Or.inr (slot_ne (Or.inr (hw _ (List.mem_of_getElem? (i := 14) rfl))) (Or.inr (hw _ (List.mem_of_getElem? (i := 18) rfl))) (by decide) (t := (.object "com/example/weir/weir/Algorithm")) (t' := .long) (by decide) (by decide)))).other W5 (Or.inr (slot_ne (Or.inr (hw _ (List.mem_of_getElem? (i := 14) rfl))) (Or.inr (hw _ (List.mem_of_getElem? (i := 20) rfl))) (by decide) (t := (.object "com/example/weir/weir/Algorithm")) (t' := .long) (by decide) (by decide)))), ((Fw3.other W4 (Or.inr (slot_ne (Or.inr (hw _ (List.mem_of_getElem? (i := 16) rfl))) (Or.inr (hw _ (List.mem_of_getElem? (i := 18) rfl))) (by decide) (t := .long) (t' := .long) (by decide) (by decide)))).other W5 (Or.inr (slot_ne (Or.inr (hw _ (List.mem_of_getElem? (i := 16) rfl))) (Or.inr (hw _ (List.mem_of_getElem? (i := 20) rfl))) (by decide) (t := .long) (t' := .long) (by decide) (by decide)))), (Fw4.other W5 (Or.inr (slot_ne (Or.inr (hw _ (List.mem_of_getElem? (i := 18) rfl))) (Or.inr (hw _ (List.mem_of_getElem? (i := 20) rfl))) (by decide) (t := .long) (t' := .long) (by decide) (by decide)))), Fw5⟩) (by decide) (by decide)
theorem d4_0 : decode prog_17_method_9_code 0 = .ok (.aload_n 0, 1) := by decide +kernel
theorem d4_1 : decode prog_17_method_9_code 1 = .ok (.getfield 17, 3) := by decide +kernel
theorem d4_4 : decode prog_17_method_9_code 4 = .ok (.lreturn, 1) := by decide +kernel
theorem ef_rm4 (m : MethodId) (x0 : Addr) : entryFrame m #[(.ref x0)] 1 = mkF m 0 #[.val (.ref x0)] [] := by first | (simp [entryFrame, mkF, argsToLocals, Value.category]; done) | rfl
def own_f4 (r0 : Addr) (fv : Int64) : Int64 := fv
def Q_rm4 (Z : State) (r0 : Addr) (fv : Int64) (h0 : Heap) (n0 : Nat) (v : Option Value) (h : Heap) (L : List Loc) : Prop := v = some (Value.long (own_f4 r0 fv)) ∧ Fr n0 L ∧ h = h0
set_option maxRecDepth 65536 in
set_option maxHeartbeats 40000000 in
theorem rm4 (l : Launch) (Z : State) (a0 : Array Value) (hw : ∀ d ∈ tables_1, d.before a0 Z = true) (ws : List Jvm.Cond) (r0 : Addr) (fv : Int64) (h0 : Heap) (n0 : Nat) (Z0 : n0 ≤ h0.size) (Fc : Fld Z h0 r0 "com/example/weir/weir/Settings" "rate" "J" (.long fv)) :
    MetFree l (⟨"com/example/weir/weir/Settings", "rate", "()J"⟩ : MethodName) (head1 (Jvm.Cond.code (⟨"com/example/weir/weir/Settings", "rate", "()J"⟩ : MethodName) prog_17_method_9_code 1 (some .long) :: ws) ({ frames := 0, cells := 0, slots := 0, locals := 0 } : Room)) (fun az Uz => az = #[(.ref r0)] ∧ Z.Warmed39 Uz.vm ∧ Uz.heap = h0) (fun _ _ _ _ _ => True) (fun _ Uz oz Vz => ∃ vz Lz, oz = .returned vz ∧ Q_rm4 Z r0 fv h0 n0 vz Vz.heap Lz ∧ FrameEnd Uz oz Vz Lz ({ frames := 0, cells := 0, slots := 0, locals := 0 } : Room).cells ({ frames := 0, cells := 0, slots := 0, locals := 0 } : Room).slots) := by
  refine MetFree.of_bodySF (plainFor_of_name own_pn0) hisR ?_
  intro p e s m args below meth c s₁ Bd hml0 hP hK
  obtain ⟨rfl, hZ, hh⟩ := hP
  have hx := Bd.exec
  have hby := Bd.bytes
  have hml : c.maxLocals = 1 := hml0
  have hown : s.vm.findClass "com/example/weir/weir/Settings" = some m.cls := findClass_of_methodNamed Bd.named
  have hnm := (name_of_methodNamed Bd.named Bd.method).1
  have X0 : Stand p l e ({ frames := 0, cells := 0, slots := 0, locals := 0 } : Room) s m #[(.ref r0)] below meth c s₁ [] 0 0 := Stand.of_body Bd
  have e0 : s₁.heap = h0 := by rw [← hh, Bd.state]; rfl
  have N0 := Fr.nil n0
  have K0 : Keep h0 h0 [] := Keep.refl _ _
  refine Go.enter (Q := Q_rm4 Z r0 fv h0 n0) (C := ({ frames := 0, cells := 0, slots := 0, locals := 0 } : Room).cells) (S := ({ frames := 0, cells := 0, slots := 0, locals := 0 } : Room).slots) (ef_rm4 m r0) ?_
  refine Go.step (fun _ zz => XS.aloadN X0.here hx rfl (hb hby d4_0) rfl rfl zz) ?_
  show Go _ _ _ _ s₁ (mkF m 1 #[.val (.ref r0)] [(.ref r0)])
  obtain ⟨T1, X1, e1, st1⟩ := getF X0 hx hZ hown (host := "") (Or.inl (hw _ (List.mem_of_getElem? (i := 17) rfl))) Via.refl e0 Fc (g := (mkF m 1 #[.val (.ref r0)] [(.ref r0)])) rfl rfl (hb hby d4_1)
  refine Go.step st1 ?_
  show Go _ _ _ _ T1 (mkF m 4 #[.val (.ref r0)] [(.long fv)])
  exact Go.retJ X1 hx Bd.returns (hb hby d4_4) Bd.notSynchronized (⟨congrArg (fun q => some (Value.long q)) (show own_f4 r0 fv = fv from rfl).symm, N0, e1⟩) (by decide) (by decide)
theorem own_f4_eq (r0 : Addr) (c : Int64) : own_f4 r0 c = c := rfl
theorem d5_0 : decode prog_17_method_11_code 0 = .ok (.aload_n 0, 1) := by decide +kernel
theorem d5_1 : decode prog_17_method_11_code 1 = .ok (.getfield 20, 3) := by decide +kernel
theorem d5_4 : decode prog_17_method_11_code 4 = .ok (.lreturn, 1) := by decide +kernel
theorem ef_rm5 (m : MethodId) (x0 : Addr) : entryFrame m #[(.ref x0)] 1 = mkF m 0 #[.val (.ref x0)] [] := by first | (simp [entryFrame, mkF, argsToLocals, Value.category]; done) | rfl
def own_f5 (r0 : Addr) (fv : Int64) : Int64 := fv
def Q_rm5 (Z : State) (r0 : Addr) (fv : Int64) (h0 : Heap) (n0 : Nat) (v : Option Value) (h : Heap) (L : List Loc) : Prop := v = some (Value.long (own_f5 r0 fv)) ∧ Fr n0 L ∧ h = h0
set_option maxRecDepth 65536 in
set_option maxHeartbeats 40000000 in
theorem rm5 (l : Launch) (Z : State) (a0 : Array Value) (hw : ∀ d ∈ tables_1, d.before a0 Z = true) (ws : List Jvm.Cond) (r0 : Addr) (fv : Int64) (h0 : Heap) (n0 : Nat) (Z0 : n0 ≤ h0.size) (Fc : Fld Z h0 r0 "com/example/weir/weir/Settings" "intervalMillis" "J" (.long fv)) :
    MetFree l (⟨"com/example/weir/weir/Settings", "intervalMillis", "()J"⟩ : MethodName) (head1 (Jvm.Cond.code (⟨"com/example/weir/weir/Settings", "intervalMillis", "()J"⟩ : MethodName) prog_17_method_11_code 1 (some .long) :: ws) ({ frames := 0, cells := 0, slots := 0, locals := 0 } : Room)) (fun az Uz => az = #[(.ref r0)] ∧ Z.Warmed39 Uz.vm ∧ Uz.heap = h0) (fun _ _ _ _ _ => True) (fun _ Uz oz Vz => ∃ vz Lz, oz = .returned vz ∧ Q_rm5 Z r0 fv h0 n0 vz Vz.heap Lz ∧ FrameEnd Uz oz Vz Lz ({ frames := 0, cells := 0, slots := 0, locals := 0 } : Room).cells ({ frames := 0, cells := 0, slots := 0, locals := 0 } : Room).slots) := by
  refine MetFree.of_bodySF (plainFor_of_name own_pn0) hisR ?_
  intro p e s m args below meth c s₁ Bd hml0 hP hK
  obtain ⟨rfl, hZ, hh⟩ := hP
  have hx := Bd.exec
  have hby := Bd.bytes
  have hml : c.maxLocals = 1 := hml0
  have hown : s.vm.findClass "com/example/weir/weir/Settings" = some m.cls := findClass_of_methodNamed Bd.named
  have hnm := (name_of_methodNamed Bd.named Bd.method).1
  have X0 : Stand p l e ({ frames := 0, cells := 0, slots := 0, locals := 0 } : Room) s m #[(.ref r0)] below meth c s₁ [] 0 0 := Stand.of_body Bd
  have e0 : s₁.heap = h0 := by rw [← hh, Bd.state]; rfl
  have N0 := Fr.nil n0
  have K0 : Keep h0 h0 [] := Keep.refl _ _
  refine Go.enter (Q := Q_rm5 Z r0 fv h0 n0) (C := ({ frames := 0, cells := 0, slots := 0, locals := 0 } : Room).cells) (S := ({ frames := 0, cells := 0, slots := 0, locals := 0 } : Room).slots) (ef_rm5 m r0) ?_
  refine Go.step (fun _ zz => XS.aloadN X0.here hx rfl (hb hby d5_0) rfl rfl zz) ?_
  show Go _ _ _ _ s₁ (mkF m 1 #[.val (.ref r0)] [(.ref r0)])
  obtain ⟨T1, X1, e1, st1⟩ := getF X0 hx hZ hown (host := "") (Or.inl (hw _ (List.mem_of_getElem? (i := 19) rfl))) Via.refl e0 Fc (g := (mkF m 1 #[.val (.ref r0)] [(.ref r0)])) rfl rfl (hb hby d5_1)
  refine Go.step st1 ?_
  show Go _ _ _ _ T1 (mkF m 4 #[.val (.ref r0)] [(.long fv)])
  exact Go.retJ X1 hx Bd.returns (hb hby d5_4) Bd.notSynchronized (⟨congrArg (fun q => some (Value.long q)) (show own_f5 r0 fv = fv from rfl).symm, N0, e1⟩) (by decide) (by decide)
theorem own_f5_eq (r0 : Addr) (c : Int64) : own_f5 r0 c = c := rfl
theorem d7_0 : decode prog_17_method_8_code 0 = .ok (.aload_n 0, 1) := by decide +kernel
theorem d7_1 : decode prog_17_method_8_code 1 = .ok (.getfield 13, 3) := by decide +kernel
theorem d7_4 : decode prog_17_method_8_code 4 = .ok (.lreturn, 1) := by decide +kernel
theorem ef_rm7 (m : MethodId) (x0 : Addr) : entryFrame m #[(.ref x0)] 1 = mkF m 0 #[.val (.ref x0)] [] := by first | (simp [entryFrame, mkF, argsToLocals, Value.category]; done) | rfl
def own_f7 (r0 : Addr) (fv : Int64) : Int64 := fv
def Q_rm7 (Z : State) (r0 : Addr) (fv : Int64) (h0 : Heap) (n0 : Nat) (v : Option Value) (h : Heap) (L : List Loc) : Prop := v = some (Value.long (own_f7 r0 fv)) ∧ Fr n0 L ∧ h = h0
set_option maxRecDepth 65536 in
set_option maxHeartbeats 40000000 in
theorem rm7 (l : Launch) (Z : State) (a0 : Array Value) (hw : ∀ d ∈ tables_1, d.before a0 Z = true) (ws : List Jvm.Cond) (r0 : Addr) (fv : Int64) (h0 : Heap) (n0 : Nat) (Z0 : n0 ≤ h0.size) (Fc : Fld Z h0 r0 "com/example/weir/weir/Settings" "capacity" "J" (.long fv)) :
    MetFree l (⟨"com/example/weir/weir/Settings", "capacity", "()J"⟩ : MethodName) (head1 (Jvm.Cond.code (⟨"com/example/weir/weir/Settings", "capacity", "()J"⟩ : MethodName) prog_17_method_8_code 1 (some .long) :: ws) ({ frames := 0, cells := 0, slots := 0, locals := 0 } : Room)) (fun az Uz => az = #[(.ref r0)] ∧ Z.Warmed39 Uz.vm ∧ Uz.heap = h0) (fun _ _ _ _ _ => True) (fun _ Uz oz Vz => ∃ vz Lz, oz = .returned vz ∧ Q_rm7 Z r0 fv h0 n0 vz Vz.heap Lz ∧ FrameEnd Uz oz Vz Lz ({ frames := 0, cells := 0, slots := 0, locals := 0 } : Room).cells ({ frames := 0, cells := 0, slots := 0, locals := 0 } : Room).slots) := by
  refine MetFree.of_bodySF (plainFor_of_name own_pn0) hisR ?_
  intro p e s m args below meth c s₁ Bd hml0 hP hK
  obtain ⟨rfl, hZ, hh⟩ := hP
  have hx := Bd.exec
  have hby := Bd.bytes
  have hml : c.maxLocals = 1 := hml0
  have hown : s.vm.findClass "com/example/weir/weir/Settings" = some m.cls := findClass_of_methodNamed Bd.named
  have hnm := (name_of_methodNamed Bd.named Bd.method).1
  have X0 : Stand p l e ({ frames := 0, cells := 0, slots := 0, locals := 0 } : Room) s m #[(.ref r0)] below meth c s₁ [] 0 0 := Stand.of_body Bd
  have e0 : s₁.heap = h0 := by rw [← hh, Bd.state]; rfl
  have N0 := Fr.nil n0
  have K0 : Keep h0 h0 [] := Keep.refl _ _
  refine Go.enter (Q := Q_rm7 Z r0 fv h0 n0) (C := ({ frames := 0, cells := 0, slots := 0, locals := 0 } : Room).cells) (S := ({ frames := 0, cells := 0, slots := 0, locals := 0 } : Room).slots) (ef_rm7 m r0) ?_
  refine Go.step (fun _ zz => XS.aloadN X0.here hx rfl (hb hby d7_0) rfl rfl zz) ?_
  show Go _ _ _ _ s₁ (mkF m 1 #[.val (.ref r0)] [(.ref r0)])
  obtain ⟨T1, X1, e1, st1⟩ := getF X0 hx hZ hown (host := "") (Or.inl (hw _ (List.mem_of_getElem? (i := 15) rfl))) Via.refl e0 Fc (g := (mkF m 1 #[.val (.ref r0)] [(.ref r0)])) rfl rfl (hb hby d7_1)
  refine Go.step st1 ?_
  show Go _ _ _ _ T1 (mkF m 4 #[.val (.ref r0)] [(.long fv)])
  exact Go.retJ X1 hx Bd.returns (hb hby d7_4) Bd.notSynchronized (⟨congrArg (fun q => some (Value.long q)) (show own_f7 r0 fv = fv from rfl).symm, N0, e1⟩) (by decide) (by decide)
theorem own_f7_eq (r0 : Addr) (c : Int64) : own_f7 r0 c = c := rfl
theorem own_pd1 : parseMethodDescriptor "()J" = some ⟨[], some .long⟩ := by decide +kernel
theorem d3_0 : decode prog_1_method_5_code 0 = .ok (.iconst 2, 1) := by decide +kernel
theorem d3_1 : decode prog_1_method_5_code 1 = .ok (.newarray .long, 2) := by decide +kernel
theorem d3_3 : decode prog_1_method_5_code 3 = .ok (.dup, 1) := by decide +kernel
theorem d3_4 : decode prog_1_method_5_code 4 = .ok (.iconst 0, 1) := by decide +kernel
theorem d3_5 : decode prog_1_method_5_code 5 = .ok (.aload_n 1, 1) := by decide +kernel
theorem d3_6 : decode prog_1_method_5_code 6 = .ok (.invokevirtual 54, 3) := by decide +kernel
theorem d3_9 : decode prog_1_method_5_code 9 = .ok (.lastore, 1) := by decide +kernel
theorem d3_10 : decode prog_1_method_5_code 10 = .ok (.dup, 1) := by decide +kernel
theorem d3_11 : decode prog_1_method_5_code 11 = .ok (.iconst 1, 1) := by decide +kernel
theorem d3_12 : decode prog_1_method_5_code 12 = .ok (.aload_n 1, 1) := by decide +kernel
theorem d3_13 : decode prog_1_method_5_code 13 = .ok (.invokevirtual 58, 3) := by decide +kernel
theorem d3_16 : decode prog_1_method_5_code 16 = .ok (.lastore, 1) := by decide +kernel
theorem d3_17 : decode prog_1_method_5_code 17 = .ok (.areturn, 1) := by decide +kernel
theorem own_pn2 : plainName "com/example/weir/weir/Algorithm" = true := by first | (simp [plainName, overriddenIn]; done) | decide +kernel
theorem ef_rm3 (m : MethodId) (x0 : Addr) (x1 : Addr) : entryFrame m #[(.ref x0), (.ref x1)] 2 = mkF m 0 #[.val (.ref x0), .val (.ref x1)] [] := by first | (simp [entryFrame, mkF, argsToLocals, Value.category]; done) | rfl
def Q_rm3 (Z : State) (r0 : Addr) (r1 : Addr) (cF : Int64) (rF : Int64) (iF : Int64) (h0 : Heap) (n0 : Nat) (v : Option Value) (h : Heap) (L : List Loc) : Prop := ∃ (b : Addr) (k : ClassId), v = some (.ref b) ∧ Fr n0 L ∧ Keep h0 h [] ∧ n0 ≤ b ∧ Arv Z h b k .long (2 : Int32) [(.long rF), (.long iF)] (.long (0 : Int64))
set_option maxRecDepth 65536 in
set_option maxHeartbeats 40000000 in
theorem rm3 (l : Launch) (Z : State) (a0 : Array Value) (hw : ∀ d ∈ tables_1, d.before a0 Z = true) (ws : List Jvm.Cond) (r0 : Addr) (r1 : Addr) (cF : Int64) (rF : Int64) (iF : Int64) (h0 : Heap) (n0 : Nat) (Z0 : n0 ≤ h0.size) (Er1 : Exa Z h0 r1 "com/example/weir/weir/Settings") (F_cF : Fld Z h0 r1 "com/example/weir/weir/Settings" "capacity" "J" (.long cF)) (F_rF : Fld Z h0 r1 "com/example/weir/weir/Settings" "rate" "J" (.long rF)) (F_iF : Fld Z h0 r1 "com/example/weir/weir/Settings" "intervalMillis" "J" (.long iF)) :
    MetFree l (⟨"com/example/weir/weir/Algorithm", "stored", "(Lcom/example/weir/weir/Settings;)[J"⟩ : MethodName) (head1 (Jvm.Cond.code (⟨"com/example/weir/weir/Algorithm", "stored", "(Lcom/example/weir/weir/Settings;)[J"⟩ : MethodName) prog_1_method_5_code 2 (some (.array .long)) :: ws) ({ frames := 1, cells := 1, slots := 2, locals := 15 } : Room)) (fun az Uz => az = #[(.ref r0), (.ref r1)] ∧ Z.Warmed39 Uz.vm ∧ Uz.heap = h0) (fun _ _ _ _ _ => True) (fun _ Uz oz Vz => ∃ vz Lz, oz = .returned vz ∧ Q_rm3 Z r0 r1 cF rF iF h0 n0 vz Vz.heap Lz ∧ FrameEnd Uz oz Vz Lz ({ frames := 1, cells := 1, slots := 2, locals := 15 } : Room).cells ({ frames := 1, cells := 1, slots := 2, locals := 15 } : Room).slots) := by
  refine MetFree.of_bodySF (plainFor_of_name own_pn2) hisR ?_
  intro p e s m args below meth c s₁ Bd hml0 hP hK
  obtain ⟨rfl, hZ, hh⟩ := hP
  have hx := Bd.exec
  have hby := Bd.bytes
  have hml : c.maxLocals = 2 := hml0
  have hown : s.vm.findClass "com/example/weir/weir/Algorithm" = some m.cls := findClass_of_methodNamed Bd.named
  have hnm := (name_of_methodNamed Bd.named Bd.method).1
  have X0 : Stand p l e ({ frames := 1, cells := 1, slots := 2, locals := 15 } : Room) s m #[(.ref r0), (.ref r1)] below meth c s₁ [] 0 0 := Stand.of_body Bd
  have e0 : s₁.heap = h0 := by rw [← hh, Bd.state]; rfl
  have N0 := Fr.nil n0
  have K0 : Keep h0 h0 [] := Keep.refl _ _
  refine Go.enter (Q := Q_rm3 Z r0 r1 cF rF iF h0 n0) (C := ({ frames := 1, cells := 1, slots := 2, locals := 15 } : Room).cells) (S := ({ frames := 1, cells := 1, slots := 2, locals := 15 } : Room).slots) (ef_rm3 m r0 r1) ?_
  refine Go.step (fun _ zz => XS.iconst X0.here hx rfl (hb hby d3_0) zz) ?_
  show Go _ _ _ _ s₁ (mkF m 1 #[.val (.ref r0), .val (.ref r1)] [(.int (2 : Int32))])
  obtain ⟨T1, h1, k1, X1, e1, E1, A1, st1⟩ := newP X0 hx hZ (hw _ (List.mem_of_getElem? (i := 26) rfl)) e0 (g := (mkF m 1 #[.val (.ref r0), .val (.ref r1)] [(.int (2 : Int32))])) rfl (hb hby d3_1) rfl (by decide) (cap := 2) (by decide) (by decide) (by decide) (by decide)
  obtain ⟨b1, g1⟩ : ∃ z, z = h0.size := ⟨_, rfl⟩
  rw [← g1] at A1 st1
  have V1 := Arv.new A1 (by decide)
  have V1p : Arv Z h1 b1 k1 .long (2 : Int32) [(.long (0 : Int64)), (.long (0 : Int64))] (.long (0 : Int64)) := V1.pad (pad_rep [] (.long (0 : Int64)) 2)
  have g_b1 : n0 ≤ b1 := Nat.le_trans Z0 (Nat.le_of_eq g1.symm)
  have sz_b1 : h0.size ≤ b1 := Nat.le_trans K0.1 (Nat.le_of_eq g1.symm)
  have K1 : Keep h0 h1 [] := K0.ext E1
  refine Go.step st1 ?_
  show Go _ _ _ _ T1 (mkF m 3 #[.val (.ref r0), .val (.ref r1)] [(.ref b1)])
  refine Go.step (fun _ zz => XS.dup X1.here hx rfl (hb hby d3_3) rfl rfl zz) ?_
  show Go _ _ _ _ T1 (mkF m 4 #[.val (.ref r0), .val (.ref r1)] [(.ref b1), (.ref b1)])
  refine Go.step (fun _ zz => XS.iconst X1.here hx rfl (hb hby d3_4) zz) ?_
  show Go _ _ _ _ T1 (mkF m 5 #[.val (.ref r0), .val (.ref r1)] [(.int (0 : Int32)), (.ref b1), (.ref b1)])
  refine Go.step (fun _ zz => XS.aloadN X1.here hx rfl (hb hby d3_5) rfl rfl zz) ?_
  show Go _ _ _ _ T1 (mkF m 6 #[.val (.ref r0), .val (.ref r1)] [(.ref r1), (.int (0 : Int32)), (.ref b1), (.ref b1)])
  obtain ⟨cq2, kq2, q2a, q2b, q2c⟩ := isOf hZ e1 (Er1.ext E1)
  obtain ⟨_, _, ⟨T2, L2, k2, n2⟩, -, X2, ⟨Lc2, hQ2, l2, y2, z2⟩, st2⟩ := X1.virtualBack hx (y := (⟨"com/example/weir/weir/Settings", "rate", "()J"⟩ : MethodName)) (z := (⟨"com/example/weir/weir/Settings", "rate", "()J"⟩ : MethodName)) hown (mvT hZ (hw _ (List.mem_of_getElem? (i := 27) rfl))) (mvT hZ (hw _ (List.mem_of_getElem? (i := 28) rfl))) (notFace_of_selects (args := #[]) (mvT hZ (hw _ (List.mem_of_getElem? (i := 30) rfl)))) (mvT hZ (hw _ (List.mem_of_getElem? (i := 30) rfl))) (mvT hZ (hw _ (List.mem_of_getElem? (i := 29) rfl))) (by decide) (backOf (W := 3) (rm4 l Z a0 hw [] r1 rF h1 n0 (Nat.le_trans Z0 E1.1) (F_rF.ext E1)) hZ (hw _ (List.mem_of_getElem? (i := 31) rfl)) (hw _ (List.mem_of_getElem? (i := 6) rfl)) (by decide) (by decide)) q2a q2c (g := (mkF m 6 #[.val (.ref r0), .val (.ref r1)] [(.ref r1), (.int (0 : Int32)), (.ref b1), (.ref b1)])) rfl (by rw [hml]; rfl) (Steps.refl _) (argsL := []) (rest := [(.int (0 : Int32)), (.ref b1), (.ref b1)]) (lenOf own_pd1 rfl) rfl (by show 2 * 0 + _ ≤ _; exact Nat.le_of_eq rfl) (hb hby d3_6) (fun _ _ => ⟨rfl, e1, (by decide : 1 + 0 ≤ _), (by decide : 2 + 0 ≤ _)⟩)
  dsimp only [Pt.U, Pt.locs, Pt.cells, Pt.slots] at X2 l2 y2 z2 st2 hQ2
  subst l2 y2 z2
  obtain ⟨rfl, N2q, e2⟩ := hQ2
  have N2 := Fr.app N0 N2q
  refine Go.tr st2 ?_
  show Go _ _ _ _ T2 (mkF m 9 #[.val (.ref r0), .val (.ref r1)] [(.long rF), (.int (0 : Int32)), (.ref b1), (.ref b1)])
  obtain ⟨c3, Ar3, q3, S3, M3, H3, G3⟩ := id V1p
  have hin3 : ¬ ((0 : Int32) < 0 ∨ c3.slots.size ≤ ((0 : Int32)).toNatClampNeg) := inb_of S3 ⟨by decide, by decide⟩
  obtain ⟨T4, h4, X4, e4, W4, st4⟩ := stJ X2 hx hZ e2 Ar3 (j := (0 : Int32)) hin3 (g := (mkF m 9 #[.val (.ref r0), .val (.ref r1)] [(.long rF), (.int (0 : Int32)), (.ref b1), (.ref b1)])) rfl rfl (hb hby d3_9)
  have V4 := Arv.set Ar3 q3 S3 M3 H3 G3 rfl W4 0 rfl (Nat.le_of_ble_eq_true rfl)
  have N4 := Fr.snoc X4 N2 g_b1
  have K4 : Keep h0 h4 [] := K1.wr W4 (Or.inr sz_b1)
  refine Go.step st4 ?_
  show Go _ _ _ _ T4 (mkF m 10 #[.val (.ref r0), .val (.ref r1)] [(.ref b1)])
  refine Go.step (fun _ zz => XS.dup X4.here hx rfl (hb hby d3_10) rfl rfl zz) ?_
  show Go _ _ _ _ T4 (mkF m 11 #[.val (.ref r0), .val (.ref r1)] [(.ref b1), (.ref b1)])
  refine Go.step (fun _ zz => XS.iconst X4.here hx rfl (hb hby d3_11) zz) ?_
  show Go _ _ _ _ T4 (mkF m 12 #[.val (.ref r0), .val (.ref r1)] [(.int (1 : Int32)), (.ref b1), (.ref b1)])
  refine Go.step (fun _ zz => XS.aloadN X4.here hx rfl (hb hby d3_12) rfl rfl zz) ?_
  show Go _ _ _ _ T4 (mkF m 13 #[.val (.ref r0), .val (.ref r1)] [(.ref r1), (.int (1 : Int32)), (.ref b1), (.ref b1)])
  obtain ⟨cq5, kq5, q5a, q5b, q5c⟩ := isOf hZ e4 ((Er1.ext E1).wr W4)
  obtain ⟨_, _, ⟨T5, L5, k5, n5⟩, -, X5, ⟨Lc5, hQ5, l5, y5, z5⟩, st5⟩ := X4.virtualBack hx (y := (⟨"com/example/weir/weir/Settings", "intervalMillis", "()J"⟩ : MethodName)) (z := (⟨"com/example/weir/weir/Settings", "intervalMillis", "()J"⟩ : MethodName)) hown (mvT hZ (hw _ (List.mem_of_getElem? (i := 32) rfl))) (mvT hZ (hw _ (List.mem_of_getElem? (i := 33) rfl))) (notFace_of_selects (args := #[]) (mvT hZ (hw _ (List.mem_of_getElem? (i := 35) rfl)))) (mvT hZ (hw _ (List.mem_of_getElem? (i := 35) rfl))) (mvT hZ (hw _ (List.mem_of_getElem? (i := 34) rfl))) (by decide) (backOf (W := 3) (rm5 l Z a0 hw [] r1 iF h4 n0 (Nat.le_trans (Nat.le_trans Z0 E1.1) (Keep.of_wr W4).1) ((F_iF.ext E1).other W4 (Or.inl (Nat.ne_of_lt (Nat.lt_of_lt_of_le Er1.lt (Nat.le_of_eq g1.symm)))))) hZ (hw _ (List.mem_of_getElem? (i := 36) rfl)) (hw _ (List.mem_of_getElem? (i := 6) rfl)) (by decide) (by decide)) q5a q5c (g := (mkF m 13 #[.val (.ref r0), .val (.ref r1)] [(.ref r1), (.int (1 : Int32)), (.ref b1), (.ref b1)])) rfl (by rw [hml]; rfl) (Steps.refl _) (argsL := []) (rest := [(.int (1 : Int32)), (.ref b1), (.ref b1)]) (lenOf own_pd1 rfl) rfl (by show 2 * 0 + _ ≤ _; exact Nat.le_of_eq rfl) (hb hby d3_13) (fun _ _ => ⟨rfl, e4, (by decide : 1 + 0 ≤ _), (by decide : 2 + 0 ≤ _)⟩)
  dsimp only [Pt.U, Pt.locs, Pt.cells, Pt.slots] at X5 l5 y5 z5 st5 hQ5
  subst l5 y5 z5
  obtain ⟨rfl, N5q, e5⟩ := hQ5
  have N5 := Fr.app N4 N5q
  refine Go.tr st5 ?_
  show Go _ _ _ _ T5 (mkF m 16 #[.val (.ref r0), .val (.ref r1)] [(.long iF), (.int (1 : Int32)), (.ref b1), (.ref b1)])
  obtain ⟨c6, Ar6, q6, S6, M6, H6, G6⟩ := id V4
  have hin6 : ¬ ((1 : Int32) < 0 ∨ c6.slots.size ≤ ((1 : Int32)).toNatClampNeg) := inb_of S6 ⟨by decide, by decide⟩
  obtain ⟨T7, h7, X7, e7, W7, st7⟩ := stJ X5 hx hZ e5 Ar6 (j := (1 : Int32)) hin6 (g := (mkF m 16 #[.val (.ref r0), .val (.ref r1)] [(.long iF), (.int (1 : Int32)), (.ref b1), (.ref b1)])) rfl rfl (hb hby d3_16)
  have V7 := Arv.set Ar6 q6 S6 M6 H6 G6 rfl W7 1 rfl (Nat.le_of_ble_eq_true rfl)
  have N7 := Fr.snoc X7 N5 g_b1
  have K7 : Keep h0 h7 [] := K4.wr W7 (Or.inr sz_b1)
  refine Go.step st7 ?_
  show Go _ _ _ _ T7 (mkF m 17 #[.val (.ref r0), .val (.ref r1)] [(.ref b1)])
  exact Go.retA X7 hx Bd.returns rfl (hb hby d3_17) rfl Bd.notSynchronized (by rw [e7]; exact ⟨b1, k1, rfl, N7, K7, g_b1, V7⟩) (by decide) (by decide)
theorem d6_0 : decode prog_4_method_3_code 0 = .ok (.iconst 3, 1) := by decide +kernel
theorem d6_1 : decode prog_4_method_3_code 1 = .ok (.newarray .long, 2) := by decide +kernel
theorem d6_3 : decode prog_4_method_3_code 3 = .ok (.dup, 1) := by decide +kernel
theorem d6_4 : decode prog_4_method_3_code 4 = .ok (.iconst 0, 1) := by decide +kernel
theorem d6_5 : decode prog_4_method_3_code 5 = .ok (.aload_n 1, 1) := by decide +kernel
theorem d6_6 : decode prog_4_method_3_code 6 = .ok (.invokevirtual 12, 3) := by decide +kernel
theorem d6_9 : decode prog_4_method_3_code 9 = .ok (.lastore, 1) := by decide +kernel
theorem d6_10 : decode prog_4_method_3_code 10 = .ok (.dup, 1) := by decide +kernel
theorem d6_11 : decode prog_4_method_3_code 11 = .ok (.iconst 1, 1) := by decide +kernel
theorem d6_12 : decode prog_4_method_3_code 12 = .ok (.aload_n 1, 1) := by decide +kernel
theorem d6_13 : decode prog_4_method_3_code 13 = .ok (.invokevirtual 16, 3) := by decide +kernel
theorem d6_16 : decode prog_4_method_3_code 16 = .ok (.lastore, 1) := by decide +kernel
theorem d6_17 : decode prog_4_method_3_code 17 = .ok (.dup, 1) := by decide +kernel
theorem d6_18 : decode prog_4_method_3_code 18 = .ok (.iconst 2, 1) := by decide +kernel
theorem d6_19 : decode prog_4_method_3_code 19 = .ok (.aload_n 1, 1) := by decide +kernel
theorem d6_20 : decode prog_4_method_3_code 20 = .ok (.invokevirtual 19, 3) := by decide +kernel
theorem d6_23 : decode prog_4_method_3_code 23 = .ok (.lastore, 1) := by decide +kernel
theorem d6_24 : decode prog_4_method_3_code 24 = .ok (.areturn, 1) := by decide +kernel
theorem own_pn3 : plainName "com/example/weir/weir/Algorithm$3" = true := by first | (simp [plainName, overriddenIn]; done) | decide +kernel
theorem ef_rm6 (m : MethodId) (x0 : Addr) (x1 : Addr) : entryFrame m #[(.ref x0), (.ref x1)] 2 = mkF m 0 #[.val (.ref x0), .val (.ref x1)] [] := by first | (simp [entryFrame, mkF, argsToLocals, Value.category]; done) | rfl
def Q_rm6 (Z : State) (r0 : Addr) (r1 : Addr) (cF : Int64) (rF : Int64) (iF : Int64) (h0 : Heap) (n0 : Nat) (v : Option Value) (h : Heap) (L : List Loc) : Prop := ∃ (b : Addr) (k : ClassId), v = some (.ref b) ∧ Fr n0 L ∧ Keep h0 h [] ∧ n0 ≤ b ∧ Arv Z h b k .long (3 : Int32) [(.long cF), (.long rF), (.long iF)] (.long (0 : Int64))
set_option maxRecDepth 65536 in
set_option maxHeartbeats 40000000 in
theorem rm6 (l : Launch) (Z : State) (a0 : Array Value) (hw : ∀ d ∈ tables_1, d.before a0 Z = true) (ws : List Jvm.Cond) (r0 : Addr) (r1 : Addr) (cF : Int64) (rF : Int64) (iF : Int64) (h0 : Heap) (n0 : Nat) (Z0 : n0 ≤ h0.size) (Er1 : Exa Z h0 r1 "com/example/weir/weir/Settings") (F_cF : Fld Z h0 r1 "com/example/weir/weir/Settings" "capacity" "J" (.long cF)) (F_rF : Fld Z h0 r1 "com/example/weir/weir/Settings" "rate" "J" (.long rF)) (F_iF : Fld Z h0 r1 "com/example/weir/weir/Settings" "intervalMillis" "J" (.long iF)) :
    MetFree l (⟨"com/example/weir/weir/Algorithm$3", "stored", "(Lcom/example/weir/weir/Settings;)[J"⟩ : MethodName) (head1 (Jvm.Cond.code (⟨"com/example/weir/weir/Algorithm$3", "stored", "(Lcom/example/weir/weir/Settings;)[J"⟩ : MethodName) prog_4_method_3_code 2 (some (.array .long)) :: ws) ({ frames := 1, cells := 1, slots := 3, locals := 15 } : Room)) (fun az Uz => az = #[(.ref r0), (.ref r1)] ∧ Z.Warmed39 Uz.vm ∧ Uz.heap = h0) (fun _ _ _ _ _ => True) (fun _ Uz oz Vz => ∃ vz Lz, oz = .returned vz ∧ Q_rm6 Z r0 r1 cF rF iF h0 n0 vz Vz.heap Lz ∧ FrameEnd Uz oz Vz Lz ({ frames := 1, cells := 1, slots := 3, locals := 15 } : Room).cells ({ frames := 1, cells := 1, slots := 3, locals := 15 } : Room).slots) := by
  refine MetFree.of_bodySF (plainFor_of_name own_pn3) hisR ?_
  intro p e s m args below meth c s₁ Bd hml0 hP hK
  obtain ⟨rfl, hZ, hh⟩ := hP
  have hx := Bd.exec
  have hby := Bd.bytes
  have hml : c.maxLocals = 2 := hml0
  have hown : s.vm.findClass "com/example/weir/weir/Algorithm$3" = some m.cls := findClass_of_methodNamed Bd.named
  have hnm := (name_of_methodNamed Bd.named Bd.method).1
  have X0 : Stand p l e ({ frames := 1, cells := 1, slots := 3, locals := 15 } : Room) s m #[(.ref r0), (.ref r1)] below meth c s₁ [] 0 0 := Stand.of_body Bd
  have e0 : s₁.heap = h0 := by rw [← hh, Bd.state]; rfl
  have N0 := Fr.nil n0
  have K0 : Keep h0 h0 [] := Keep.refl _ _
  refine Go.enter (Q := Q_rm6 Z r0 r1 cF rF iF h0 n0) (C := ({ frames := 1, cells := 1, slots := 3, locals := 15 } : Room).cells) (S := ({ frames := 1, cells := 1, slots := 3, locals := 15 } : Room).slots) (ef_rm6 m r0 r1) ?_
  refine Go.step (fun _ zz => XS.iconst X0.here hx rfl (hb hby d6_0) zz) ?_
  show Go _ _ _ _ s₁ (mkF m 1 #[.val (.ref r0), .val (.ref r1)] [(.int (3 : Int32))])
  obtain ⟨T1, h1, k1, X1, e1, E1, A1, st1⟩ := newP X0 hx hZ (hw _ (List.mem_of_getElem? (i := 26) rfl)) e0 (g := (mkF m 1 #[.val (.ref r0), .val (.ref r1)] [(.int (3 : Int32))])) rfl (hb hby d6_1) rfl (by decide) (cap := 3) (by decide) (by decide) (by decide) (by decide)
  obtain ⟨b1, g1⟩ : ∃ z, z = h0.size := ⟨_, rfl⟩
  rw [← g1] at A1 st1
  have V1 := Arv.new A1 (by decide)
  have V1p : Arv Z h1 b1 k1 .long (3 : Int32) [(.long (0 : Int64)), (.long (0 : Int64)), (.long (0 : Int64))] (.long (0 : Int64)) := V1.pad (pad_rep [] (.long (0 : Int64)) 3)
  have g_b1 : n0 ≤ b1 := Nat.le_trans Z0 (Nat.le_of_eq g1.symm)
  have sz_b1 : h0.size ≤ b1 := Nat.le_trans K0.1 (Nat.le_of_eq g1.symm)
  have K1 : Keep h0 h1 [] := K0.ext E1
  refine Go.step st1 ?_
  show Go _ _ _ _ T1 (mkF m 3 #[.val (.ref r0), .val (.ref r1)] [(.ref b1)])
  refine Go.step (fun _ zz => XS.dup X1.here hx rfl (hb hby d6_3) rfl rfl zz) ?_
  show Go _ _ _ _ T1 (mkF m 4 #[.val (.ref r0), .val (.ref r1)] [(.ref b1), (.ref b1)])
  refine Go.step (fun _ zz => XS.iconst X1.here hx rfl (hb hby d6_4) zz) ?_
  show Go _ _ _ _ T1 (mkF m 5 #[.val (.ref r0), .val (.ref r1)] [(.int (0 : Int32)), (.ref b1), (.ref b1)])
  refine Go.step (fun _ zz => XS.aloadN X1.here hx rfl (hb hby d6_5) rfl rfl zz) ?_
  show Go _ _ _ _ T1 (mkF m 6 #[.val (.ref r0), .val (.ref r1)] [(.ref r1), (.int (0 : Int32)), (.ref b1), (.ref b1)])
  obtain ⟨cq2, kq2, q2a, q2b, q2c⟩ := isOf hZ e1 (Er1.ext E1)
  obtain ⟨_, _, ⟨T2, L2, k2, n2⟩, -, X2, ⟨Lc2, hQ2, l2, y2, z2⟩, st2⟩ := X1.virtualBack hx (y := (⟨"com/example/weir/weir/Settings", "capacity", "()J"⟩ : MethodName)) (z := (⟨"com/example/weir/weir/Settings", "capacity", "()J"⟩ : MethodName)) hown (mvT hZ (hw _ (List.mem_of_getElem? (i := 46) rfl))) (mvT hZ (hw _ (List.mem_of_getElem? (i := 47) rfl))) (notFace_of_selects (args := #[]) (mvT hZ (hw _ (List.mem_of_getElem? (i := 49) rfl)))) (mvT hZ (hw _ (List.mem_of_getElem? (i := 49) rfl))) (mvT hZ (hw _ (List.mem_of_getElem? (i := 48) rfl))) (by decide) (backOf (W := 3) (rm7 l Z a0 hw [] r1 cF h1 n0 (Nat.le_trans Z0 E1.1) (F_cF.ext E1)) hZ (hw _ (List.mem_of_getElem? (i := 50) rfl)) (hw _ (List.mem_of_getElem? (i := 6) rfl)) (by decide) (by decide)) q2a q2c (g := (mkF m 6 #[.val (.ref r0), .val (.ref r1)] [(.ref r1), (.int (0 : Int32)), (.ref b1), (.ref b1)])) rfl (by rw [hml]; rfl) (Steps.refl _) (argsL := []) (rest := [(.int (0 : Int32)), (.ref b1), (.ref b1)]) (lenOf own_pd1 rfl) rfl (by show 2 * 0 + _ ≤ _; exact Nat.le_of_eq rfl) (hb hby d6_6) (fun _ _ => ⟨rfl, e1, (by decide : 1 + 0 ≤ _), (by decide : 3 + 0 ≤ _)⟩)
  dsimp only [Pt.U, Pt.locs, Pt.cells, Pt.slots] at X2 l2 y2 z2 st2 hQ2
  subst l2 y2 z2
  obtain ⟨rfl, N2q, e2⟩ := hQ2
  have N2 := Fr.app N0 N2q
  refine Go.tr st2 ?_
  show Go _ _ _ _ T2 (mkF m 9 #[.val (.ref r0), .val (.ref r1)] [(.long cF), (.int (0 : Int32)), (.ref b1), (.ref b1)])
  obtain ⟨c3, Ar3, q3, S3, M3, H3, G3⟩ := id V1p
  have hin3 : ¬ ((0 : Int32) < 0 ∨ c3.slots.size ≤ ((0 : Int32)).toNatClampNeg) := inb_of S3 ⟨by decide, by decide⟩
  obtain ⟨T4, h4, X4, e4, W4, st4⟩ := stJ X2 hx hZ e2 Ar3 (j := (0 : Int32)) hin3 (g := (mkF m 9 #[.val (.ref r0), .val (.ref r1)] [(.long cF), (.int (0 : Int32)), (.ref b1), (.ref b1)])) rfl rfl (hb hby d6_9)
  have V4 := Arv.set Ar3 q3 S3 M3 H3 G3 rfl W4 0 rfl (Nat.le_of_ble_eq_true rfl)
  have N4 := Fr.snoc X4 N2 g_b1
  have K4 : Keep h0 h4 [] := K1.wr W4 (Or.inr sz_b1)
  refine Go.step st4 ?_
  show Go _ _ _ _ T4 (mkF m 10 #[.val (.ref r0), .val (.ref r1)] [(.ref b1)])
  refine Go.step (fun _ zz => XS.dup X4.here hx rfl (hb hby d6_10) rfl rfl zz) ?_
  show Go _ _ _ _ T4 (mkF m 11 #[.val (.ref r0), .val (.ref r1)] [(.ref b1), (.ref b1)])
  refine Go.step (fun _ zz => XS.iconst X4.here hx rfl (hb hby d6_11) zz) ?_
  show Go _ _ _ _ T4 (mkF m 12 #[.val (.ref r0), .val (.ref r1)] [(.int (1 : Int32)), (.ref b1), (.ref b1)])
  refine Go.step (fun _ zz => XS.aloadN X4.here hx rfl (hb hby d6_12) rfl rfl zz) ?_
  show Go _ _ _ _ T4 (mkF m 13 #[.val (.ref r0), .val (.ref r1)] [(.ref r1), (.int (1 : Int32)), (.ref b1), (.ref b1)])
  obtain ⟨cq5, kq5, q5a, q5b, q5c⟩ := isOf hZ e4 ((Er1.ext E1).wr W4)
  obtain ⟨_, _, ⟨T5, L5, k5, n5⟩, -, X5, ⟨Lc5, hQ5, l5, y5, z5⟩, st5⟩ := X4.virtualBack hx (y := (⟨"com/example/weir/weir/Settings", "rate", "()J"⟩ : MethodName)) (z := (⟨"com/example/weir/weir/Settings", "rate", "()J"⟩ : MethodName)) hown (mvT hZ (hw _ (List.mem_of_getElem? (i := 51) rfl))) (mvT hZ (hw _ (List.mem_of_getElem? (i := 28) rfl))) (notFace_of_selects (args := #[]) (mvT hZ (hw _ (List.mem_of_getElem? (i := 30) rfl)))) (mvT hZ (hw _ (List.mem_of_getElem? (i := 30) rfl))) (mvT hZ (hw _ (List.mem_of_getElem? (i := 29) rfl))) (by decide) (backOf (W := 3) (rm4 l Z a0 hw [] r1 rF h4 n0 (Nat.le_trans (Nat.le_trans Z0 E1.1) (Keep.of_wr W4).1) ((F_rF.ext E1).other W4 (Or.inl (Nat.ne_of_lt (Nat.lt_of_lt_of_le Er1.lt (Nat.le_of_eq g1.symm)))))) hZ (hw _ (List.mem_of_getElem? (i := 31) rfl)) (hw _ (List.mem_of_getElem? (i := 6) rfl)) (by decide) (by decide)) q5a q5c (g := (mkF m 13 #[.val (.ref r0), .val (.ref r1)] [(.ref r1), (.int (1 : Int32)), (.ref b1), (.ref b1)])) rfl (by rw [hml]; rfl) (Steps.refl _) (argsL := []) (rest := [(.int (1 : Int32)), (.ref b1), (.ref b1)]) (lenOf own_pd1 rfl) rfl (by show 2 * 0 + _ ≤ _; exact Nat.le_of_eq rfl) (hb hby d6_13) (fun _ _ => ⟨rfl, e4, (by decide : 1 + 0 ≤ _), (by decide : 3 + 0 ≤ _)⟩)
  dsimp only [Pt.U, Pt.locs, Pt.cells, Pt.slots] at X5 l5 y5 z5 st5 hQ5
  subst l5 y5 z5
  obtain ⟨rfl, N5q, e5⟩ := hQ5
  have N5 := Fr.app N4 N5q
  refine Go.tr st5 ?_
  show Go _ _ _ _ T5 (mkF m 16 #[.val (.ref r0), .val (.ref r1)] [(.long rF), (.int (1 : Int32)), (.ref b1), (.ref b1)])
  obtain ⟨c6, Ar6, q6, S6, M6, H6, G6⟩ := id V4
  have hin6 : ¬ ((1 : Int32) < 0 ∨ c6.slots.size ≤ ((1 : Int32)).toNatClampNeg) := inb_of S6 ⟨by decide, by decide⟩
  obtain ⟨T7, h7, X7, e7, W7, st7⟩ := stJ X5 hx hZ e5 Ar6 (j := (1 : Int32)) hin6 (g := (mkF m 16 #[.val (.ref r0), .val (.ref r1)] [(.long rF), (.int (1 : Int32)), (.ref b1), (.ref b1)])) rfl rfl (hb hby d6_16)
  have V7 := Arv.set Ar6 q6 S6 M6 H6 G6 rfl W7 1 rfl (Nat.le_of_ble_eq_true rfl)
  have N7 := Fr.snoc X7 N5 g_b1
  have K7 : Keep h0 h7 [] := K4.wr W7 (Or.inr sz_b1)
  refine Go.step st7 ?_
  show Go _ _ _ _ T7 (mkF m 17 #[.val (.ref r0), .val (.ref r1)] [(.ref b1)])
  refine Go.step (fun _ zz => XS.dup X7.here hx rfl (hb hby d6_17) rfl rfl zz) ?_
  show Go _ _ _ _ T7 (mkF m 18 #[.val (.ref r0), .val (.ref r1)] [(.ref b1), (.ref b1)])
  refine Go.step (fun _ zz => XS.iconst X7.here hx rfl (hb hby d6_18) zz) ?_
  show Go _ _ _ _ T7 (mkF m 19 #[.val (.ref r0), .val (.ref r1)] [(.int (2 : Int32)), (.ref b1), (.ref b1)])
  refine Go.step (fun _ zz => XS.aloadN X7.here hx rfl (hb hby d6_19) rfl rfl zz) ?_
  show Go _ _ _ _ T7 (mkF m 20 #[.val (.ref r0), .val (.ref r1)] [(.ref r1), (.int (2 : Int32)), (.ref b1), (.ref b1)])
  obtain ⟨cq8, kq8, q8a, q8b, q8c⟩ := isOf hZ e7 (((Er1.ext E1).wr W4).wr W7)
  obtain ⟨_, _, ⟨T8, L8, k8, n8⟩, -, X8, ⟨Lc8, hQ8, l8, y8, z8⟩, st8⟩ := X7.virtualBack hx (y := (⟨"com/example/weir/weir/Settings", "intervalMillis", "()J"⟩ : MethodName)) (z := (⟨"com/example/weir/weir/Settings", "intervalMillis", "()J"⟩ : MethodName)) hown (mvT hZ (hw _ (List.mem_of_getElem? (i := 52) rfl))) (mvT hZ (hw _ (List.mem_of_getElem? (i := 33) rfl))) (notFace_of_selects (args := #[]) (mvT hZ (hw _ (List.mem_of_getElem? (i := 35) rfl)))) (mvT hZ (hw _ (List.mem_of_getElem? (i := 35) rfl))) (mvT hZ (hw _ (List.mem_of_getElem? (i := 34) rfl))) (by decide) (backOf (W := 3) (rm5 l Z a0 hw [] r1 iF h7 n0 (Nat.le_trans (Nat.le_trans (Nat.le_trans Z0 E1.1) (Keep.of_wr W4).1) (Keep.of_wr W7).1) (((F_iF.ext E1).other W4 (Or.inl (Nat.ne_of_lt (Nat.lt_of_lt_of_le Er1.lt (Nat.le_of_eq g1.symm))))).other W7 (Or.inl (Nat.ne_of_lt (Nat.lt_of_lt_of_le Er1.lt (Nat.le_of_eq g1.symm)))))) hZ (hw _ (List.mem_of_getElem? (i := 36) rfl)) (hw _ (List.mem_of_getElem? (i := 6) rfl)) (by decide) (by decide)) q8a q8c (g := (mkF m 20 #[.val (.ref r0), .val (.ref r1)] [(.ref r1), (.int (2 : Int32)), (.ref b1), (.ref b1)])) rfl (by rw [hml]; rfl) (Steps.refl _) (argsL := []) (rest := [(.int (2 : Int32)), (.ref b1), (.ref b1)]) (lenOf own_pd1 rfl) rfl (by show 2 * 0 + _ ≤ _; exact Nat.le_of_eq rfl) (hb hby d6_20) (fun _ _ => ⟨rfl, e7, (by decide : 1 + 0 ≤ _), (by decide : 3 + 0 ≤ _)⟩)
  dsimp only [Pt.U, Pt.locs, Pt.cells, Pt.slots] at X8 l8 y8 z8 st8 hQ8
  subst l8 y8 z8
  obtain ⟨rfl, N8q, e8⟩ := hQ8
  have N8 := Fr.app N7 N8q
  refine Go.tr st8 ?_
  show Go _ _ _ _ T8 (mkF m 23 #[.val (.ref r0), .val (.ref r1)] [(.long iF), (.int (2 : Int32)), (.ref b1), (.ref b1)])
  obtain ⟨c9, Ar9, q9, S9, M9, H9, G9⟩ := id V7
  have hin9 : ¬ ((2 : Int32) < 0 ∨ c9.slots.size ≤ ((2 : Int32)).toNatClampNeg) := inb_of S9 ⟨by decide, by decide⟩
  obtain ⟨T10, h10, X10, e10, W10, st10⟩ := stJ X8 hx hZ e8 Ar9 (j := (2 : Int32)) hin9 (g := (mkF m 23 #[.val (.ref r0), .val (.ref r1)] [(.long iF), (.int (2 : Int32)), (.ref b1), (.ref b1)])) rfl rfl (hb hby d6_23)
  have V10 := Arv.set Ar9 q9 S9 M9 H9 G9 rfl W10 2 rfl (Nat.le_of_ble_eq_true rfl)
  have N10 := Fr.snoc X10 N8 g_b1
  have K10 : Keep h0 h10 [] := K7.wr W10 (Or.inr sz_b1)
  refine Go.step st10 ?_
  show Go _ _ _ _ T10 (mkF m 24 #[.val (.ref r0), .val (.ref r1)] [(.ref b1)])
  exact Go.retA X10 hx Bd.returns rfl (hb hby d6_24) rfl Bd.notSynchronized (by rw [e10]; exact ⟨b1, k1, rfl, N10, K10, g_b1, V10⟩) (by decide) (by decide)
theorem own_m3 (a : Int32) (h0 : ¬ (a &&& (2147483647 : Int32)) % (3 : Int32) = (0 : Int32)) (h1 : ¬ (a &&& (2147483647 : Int32)) % (3 : Int32) = (1 : Int32)) : (a &&& (2147483647 : Int32)) % (3 : Int32) = (2 : Int32) := by
  have h := own_mod a 3 (by decide)
  have e : (3 : Int32).toInt = 3 := rfl
  rw [e] at h
  generalize (a &&& (2147483647 : Int32)) % (3 : Int32) = x at h h0 h1 ⊢
  simp only [← Int32.toInt_inj] at h0 h1 ⊢
  simp at h0 h1 ⊢
  omega
theorem own_pd4 : parseMethodDescriptor "(Lcom/example/weir/weir/Algorithm;JJJ)V" = some ⟨[(.object "com/example/weir/weir/Algorithm"), .long, .long, .long], none⟩ := by decide +kernel
theorem own_pd5 : parseMethodDescriptor "(Lcom/example/weir/weir/Settings;)[J" = some ⟨[(.object "com/example/weir/weir/Settings")], some (.array .long)⟩ := by decide +kernel
theorem own_pn6 : plainName "com/example/weir/weir/AlgorithmStoredPinLaw" = true := by first | (simp [plainName, overriddenIn]; done) | decide +kernel
theorem ef_rm0 (m : MethodId) (x0 : Int32) (x1 : Int64) (x2 : Int64) (x3 : Int64) : entryFrame m #[(.int x0), (.long x1), (.long x2), (.long x3)] maxLocals = mkF m 0 #[.val (.int x0), .val (.long x1), .second, .val (.long x2), .second, .val (.long x3), .second, .unset, .unset, .unset, .unset] [] := by first | (simp [entryFrame, mkF, argsToLocals, Value.category, maxLocals]; done) | rfl
def Q_rm0 (Z : State) (p0 : Int32) (q1 : Int64) (q2 : Int64) (q3 : Int64) (w : Nat → Addr) (h0 : Heap) (n0 : Nat) (v : Option Value) (h : Heap) (L : List Loc) : Prop := v = some (.int (1 : Int32)) ∧ Fr n0 L
set_option maxRecDepth 65536 in
set_option maxHeartbeats 40000000 in
theorem rm0 (l : Launch) (Z : State) (a0 : Array Value) (hw : ∀ d ∈ tables_1, d.before a0 Z = true) (ws : List Jvm.Cond) (p0 : Int32) (q1 : Int64) (q2 : Int64) (q3 : Int64) (w : Nat → Addr) (h0 : Heap) (n0 : Nat) (Z0 : n0 ≤ h0.size) (O0 : Old Z n0 h0) (wd : Wd Z w) :
    MetFree l x (head1 (Jvm.Cond.code x code maxLocals ret :: ws) room_1) (fun az Uz => az = #[(.int p0), (.long q1), (.long q2), (.long q3)] ∧ Z.Warmed39 Uz.vm ∧ Uz.heap = h0) (fun _ _ _ _ _ => True) (fun _ Uz oz Vz => ∃ vz Lz, oz = .returned vz ∧ Q_rm0 Z p0 q1 q2 q3 w h0 n0 vz Vz.heap Lz ∧ FrameEnd Uz oz Vz Lz room_1.cells room_1.slots) := by
  refine MetFree.of_bodySF (plainFor_of_name own_pn6) hisR ?_
  intro p e s m args below meth c s₁ Bd hml0 hP hK
  obtain ⟨rfl, hZ, hh⟩ := hP
  have hx := Bd.exec
  have hby := Bd.bytes
  have hml : c.maxLocals = 11 := hml0
  have hown : s.vm.findClass "com/example/weir/weir/AlgorithmStoredPinLaw" = some m.cls := findClass_of_methodNamed Bd.named
  have hnm := (name_of_methodNamed Bd.named Bd.method).1
  have X0 : Stand p l e room_1 s m #[(.int p0), (.long q1), (.long q2), (.long q3)] below meth c s₁ [] 0 0 := Stand.of_body Bd
  have e0 : s₁.heap = h0 := by rw [← hh, Bd.state]; rfl
  have N0 := Fr.nil n0
  have K0 : Keep h0 h0 [] := Keep.refl _ _
  refine Go.enter (Q := Q_rm0 Z p0 q1 q2 q3 w h0 n0) (C := room_1.cells) (S := room_1.slots) (ef_rm0 m p0 q1 q2 q3) ?_
  refine Go.step (fun _ zz => XS.iloadN X0.here hx rfl (hb hby at_0) rfl zz) ?_
  show Go _ _ _ _ s₁ (mkF m 1 #[.val (.int p0), .val (.long q1), .second, .val (.long q2), .second, .val (.long q3), .second, .unset, .unset, .unset, .unset] [(.int p0)])
  refine Go.step (fun _ zz => X0.ldcInt hx hown (mvT hZ (hw _ (List.mem_of_getElem? (i := 0) rfl))) (g := (mkF m 1 #[.val (.int p0), .val (.long q1), .second, .val (.long q2), .second, .val (.long q3), .second, .unset, .unset, .unset, .unset] [(.int p0)])) rfl (hb hby at_1) _ zz) ?_
  show Go _ _ _ _ s₁ (mkF m 3 #[.val (.int p0), .val (.long q1), .second, .val (.long q2), .second, .val (.long q3), .second, .unset, .unset, .unset, .unset] [(.int (2147483647 : Int32)), (.int p0)])
  refine Go.step (fun _ zz => XS.iand X0.here hx rfl (hb hby at_3) rfl zz) ?_
  show Go _ _ _ _ s₁ (mkF m 4 #[.val (.int p0), .val (.long q1), .second, .val (.long q2), .second, .val (.long q3), .second, .unset, .unset, .unset, .unset] [(.int (p0 &&& (2147483647 : Int32)))])
  refine Go.step (fun _ zz => XS.iconst X0.here hx rfl (hb hby at_4) zz) ?_
  show Go _ _ _ _ s₁ (mkF m 5 #[.val (.int p0), .val (.long q1), .second, .val (.long q2), .second, .val (.long q3), .second, .unset, .unset, .unset, .unset] [(.int (3 : Int32)), (.int (p0 &&& (2147483647 : Int32)))])
  refine Go.step (fun _ zz => iremM X0 hx rfl (hb hby at_5) rfl (by decide) zz) ?_
  show Go _ _ _ _ s₁ (mkF m 6 #[.val (.int p0), .val (.long q1), .second, .val (.long q2), .second, .val (.long q3), .second, .unset, .unset, .unset, .unset] [(.int ((p0 &&& (2147483647 : Int32)) % (3 : Int32)))])
  refine Go.step (fun _ zz => XS.istore X0.here hx rfl (hb hby at_6) rfl (l' := #[.val (.int p0), .val (.long q1), .second, .val (.long q2), .second, .val (.long q3), .second, .val (.int ((p0 &&& (2147483647 : Int32)) % (3 : Int32))), .unset, .unset, .unset]) rfl zz) ?_
  show Go _ _ _ _ s₁ (mkF m 8 #[.val (.int p0), .val (.long q1), .second, .val (.long q2), .second, .val (.long q3), .second, .val (.int ((p0 &&& (2147483647 : Int32)) % (3 : Int32))), .unset, .unset, .unset] [])
  refine Go.step (fun _ zz => XS.iload X0.here hx rfl (hb hby at_8) rfl zz) ?_
  show Go _ _ _ _ s₁ (mkF m 10 #[.val (.int p0), .val (.long q1), .second, .val (.long q2), .second, .val (.long q3), .second, .val (.int ((p0 &&& (2147483647 : Int32)) % (3 : Int32))), .unset, .unset, .unset] [(.int ((p0 &&& (2147483647 : Int32)) % (3 : Int32)))])
  by_cases hc10 : ((p0 &&& (2147483647 : Int32)) % (3 : Int32)) = (0 : Int32)
  · refine Go.step (fun _ zz => XS.ifNo X0.here hx rfl (hb hby at_10) rfl ((if0 _ _).trans (teq hc10).2) zz) ?_
    show Go _ _ _ _ s₁ (mkF m 13 #[.val (.int p0), .val (.long q1), .second, .val (.long q2), .second, .val (.long q3), .second, .val (.int ((p0 &&& (2147483647 : Int32)) % (3 : Int32))), .unset, .unset, .unset] [])
    obtain ⟨T1, X1, e1, st1⟩ := getS2 X0 hx hZ hown (host := "") (Or.inl (hw _ (List.mem_of_getElem? (i := 1) rfl))) Via.refl e0 ((wd0 wd).ext O0.2) (g := (mkF m 13 #[.val (.int p0), .val (.long q1), .second, .val (.long q2), .second, .val (.long q3), .second, .val (.int ((p0 &&& (2147483647 : Int32)) % (3 : Int32))), .unset, .unset, .unset] [])) rfl (hb hby at_13)
    refine Go.step st1 ?_
    show Go _ _ _ _ T1 (mkF m 16 #[.val (.int p0), .val (.long q1), .second, .val (.long q2), .second, .val (.long q3), .second, .val (.int ((p0 &&& (2147483647 : Int32)) % (3 : Int32))), .unset, .unset, .unset] [(.ref (w 0))])
    refine Go.step (fun _ zz => XS.astore X1.here hx rfl (hb hby at_16) rfl rfl (l' := #[.val (.int p0), .val (.long q1), .second, .val (.long q2), .second, .val (.long q3), .second, .val (.int ((p0 &&& (2147483647 : Int32)) % (3 : Int32))), .val (.ref (w 0)), .unset, .unset]) rfl zz) ?_
    show Go _ _ _ _ T1 (mkF m 18 #[.val (.int p0), .val (.long q1), .second, .val (.long q2), .second, .val (.long q3), .second, .val (.int ((p0 &&& (2147483647 : Int32)) % (3 : Int32))), .val (.ref (w 0)), .unset, .unset] [])
    refine Go.step (fun _ zz => XS.goto X1.here hx rfl (pc0 := 18) (pc' := 40) rfl (hb hby at_18) (by decide) (by decide) zz) ?_
    show Go _ _ _ _ T1 (mkF m 40 #[.val (.int p0), .val (.long q1), .second, .val (.long q2), .second, .val (.long q3), .second, .val (.int ((p0 &&& (2147483647 : Int32)) % (3 : Int32))), .val (.ref (w 0)), .unset, .unset] [])
    obtain ⟨T2, h2, X2, e2, E2, A2, D2, -, st2⟩ := newO X1 hx hZ hown (hw _ (List.mem_of_getElem? (i := 4) rfl)) (hw _ (List.mem_of_getElem? (i := 5) rfl)) (hw _ (List.mem_of_getElem? (i := 6) rfl)) e1 (g := (mkF m 40 #[.val (.int p0), .val (.long q1), .second, .val (.long q2), .second, .val (.long q3), .second, .val (.int ((p0 &&& (2147483647 : Int32)) % (3 : Int32))), .val (.ref (w 0)), .unset, .unset] [])) rfl (hb hby at_40) (by decide) (by decide)
    obtain ⟨b2, g2⟩ : ∃ z, z = h0.size := ⟨_, rfl⟩
    rw [← g2] at A2 D2 st2
    have F2_14 : Fld Z h2 b2 "com/example/weir/weir/Settings" "algorithm" "Lcom/example/weir/weir/Algorithm;" .null := D2 (Or.inr (hw _ (List.mem_of_getElem? (i := 14) rfl))) (ty := (.object "com/example/weir/weir/Algorithm")) (by decide)
    have F2_16 : Fld Z h2 b2 "com/example/weir/weir/Settings" "capacity" "J" (.long (0 : Int64)) := D2 (Or.inr (hw _ (List.mem_of_getElem? (i := 16) rfl))) (ty := .long) (by decide)
    have F2_18 : Fld Z h2 b2 "com/example/weir/weir/Settings" "rate" "J" (.long (0 : Int64)) := D2 (Or.inr (hw _ (List.mem_of_getElem? (i := 18) rfl))) (ty := .long) (by decide)
    have F2_20 : Fld Z h2 b2 "com/example/weir/weir/Settings" "intervalMillis" "J" (.long (0 : Int64)) := D2 (Or.inr (hw _ (List.mem_of_getElem? (i := 20) rfl))) (ty := .long) (by decide)
    have g_b2 : n0 ≤ b2 := Nat.le_trans Z0 (Nat.le_of_eq g2.symm)
    have sz_b2 : h0.size ≤ b2 := Nat.le_trans K0.1 (Nat.le_of_eq g2.symm)
    have K2 : Keep h0 h2 [] := K0.ext E2
    refine Go.step st2 ?_
    show Go _ _ _ _ T2 (mkF m 43 #[.val (.int p0), .val (.long q1), .second, .val (.long q2), .second, .val (.long q3), .second, .val (.int ((p0 &&& (2147483647 : Int32)) % (3 : Int32))), .val (.ref (w 0)), .unset, .unset] [(.ref b2)])
    refine Go.step (fun _ zz => XS.dup X2.here hx rfl (hb hby at_43) rfl rfl zz) ?_
    show Go _ _ _ _ T2 (mkF m 44 #[.val (.int p0), .val (.long q1), .second, .val (.long q2), .second, .val (.long q3), .second, .val (.int ((p0 &&& (2147483647 : Int32)) % (3 : Int32))), .val (.ref (w 0)), .unset, .unset] [(.ref b2), (.ref b2)])
    refine Go.step (fun _ zz => XS.aload X2.here hx rfl (hb hby at_44) rfl rfl zz) ?_
    show Go _ _ _ _ T2 (mkF m 46 #[.val (.int p0), .val (.long q1), .second, .val (.long q2), .second, .val (.long q3), .second, .val (.int ((p0 &&& (2147483647 : Int32)) % (3 : Int32))), .val (.ref (w 0)), .unset, .unset] [(.ref (w 0)), (.ref b2), (.ref b2)])
    refine Go.step (fun _ zz => XS.lloadN X2.here hx rfl (hb hby at_46) rfl zz) ?_
    show Go _ _ _ _ T2 (mkF m 47 #[.val (.int p0), .val (.long q1), .second, .val (.long q2), .second, .val (.long q3), .second, .val (.int ((p0 &&& (2147483647 : Int32)) % (3 : Int32))), .val (.ref (w 0)), .unset, .unset] [(.long q1), (.ref (w 0)), (.ref b2), (.ref b2)])
    refine Go.step (fun _ zz => XS.lloadN X2.here hx rfl (hb hby at_47) rfl zz) ?_
    show Go _ _ _ _ T2 (mkF m 48 #[.val (.int p0), .val (.long q1), .second, .val (.long q2), .second, .val (.long q3), .second, .val (.int ((p0 &&& (2147483647 : Int32)) % (3 : Int32))), .val (.ref (w 0)), .unset, .unset] [(.long q2), (.long q1), (.ref (w 0)), (.ref b2), (.ref b2)])
    refine Go.step (fun _ zz => XS.lload X2.here hx rfl (hb hby at_48) rfl zz) ?_
    show Go _ _ _ _ T2 (mkF m 50 #[.val (.int p0), .val (.long q1), .second, .val (.long q2), .second, .val (.long q3), .second, .val (.int ((p0 &&& (2147483647 : Int32)) % (3 : Int32))), .val (.ref (w 0)), .unset, .unset] [(.long q3), (.long q2), (.long q1), (.ref (w 0)), (.ref b2), (.ref b2)])
    obtain ⟨_, _, ⟨T3, L3, k3, n3⟩, -, X3, ⟨Lc3, hQ3, l3, y3, z3⟩, st3⟩ := X2.specialBack hx (y := (⟨"com/example/weir/weir/Settings", "<init>", "(Lcom/example/weir/weir/Algorithm;JJJ)V"⟩ : MethodName)) rfl hown (mvT hZ (hw _ (List.mem_of_getElem? (i := 7) rfl))) (mvT hZ (hw _ (List.mem_of_getElem? (i := 8) rfl))) (mvT hZ (hw _ (List.mem_of_getElem? (i := 9) rfl))) (by decide) (backOf (W := 1) (rm1 l Z a0 hw [] b2 (w 0) q1 q2 q3 h2 n0 (Nat.le_trans Z0 E2.1) g_b2 A2 F2_14 F2_16 F2_18 F2_20) hZ (hw _ (List.mem_of_getElem? (i := 9) rfl)) (hw _ (List.mem_of_getElem? (i := 6) rfl)) (by decide) (by decide)) (g := (mkF m 50 #[.val (.int p0), .val (.long q1), .second, .val (.long q2), .second, .val (.long q3), .second, .val (.int ((p0 &&& (2147483647 : Int32)) % (3 : Int32))), .val (.ref (w 0)), .unset, .unset] [(.long q3), (.long q2), (.long q1), (.ref (w 0)), (.ref b2), (.ref b2)])) rfl (by rw [hml]; rfl) (Steps.refl _) (a := b2) (argsL := [(.ref (w 0)), (.long q1), (.long q2), (.long q3)]) (rest := [(.ref b2)]) (lenOf own_pd4 rfl) rfl (by show 2 * 0 + _ ≤ _; exact Nat.le_of_eq rfl) (hb hby at_50) (fun _ _ => ⟨rfl, e2, (by decide : 1 + 0 ≤ _), (by decide : 4 + 0 ≤ _)⟩)
    dsimp only [Pt.U, Pt.locs, Pt.cells, Pt.slots] at X3 l3 y3 z3 st3 hQ3
    subst l3 y3 z3
    obtain ⟨rfl, N3q, K3, E3, F3_0, F3_1, F3_2, F3_3⟩ := hQ3
    have N3 := Fr.app N0 N3q
    refine Go.tr st3 ?_
    have Kc3 : Keep h0 T3.heap [] := K2.trans K3 (allS (Or.inr sz_b2) all0)
    show Go _ _ _ _ T3 (mkF m 53 #[.val (.int p0), .val (.long q1), .second, .val (.long q2), .second, .val (.long q3), .second, .val (.int ((p0 &&& (2147483647 : Int32)) % (3 : Int32))), .val (.ref (w 0)), .unset, .unset] [(.ref b2)])
    refine Go.step (fun _ zz => XS.astore X3.here hx rfl (hb hby at_53) rfl rfl (l' := #[.val (.int p0), .val (.long q1), .second, .val (.long q2), .second, .val (.long q3), .second, .val (.int ((p0 &&& (2147483647 : Int32)) % (3 : Int32))), .val (.ref (w 0)), .val (.ref b2), .unset]) rfl zz) ?_
    show Go _ _ _ _ T3 (mkF m 55 #[.val (.int p0), .val (.long q1), .second, .val (.long q2), .second, .val (.long q3), .second, .val (.int ((p0 &&& (2147483647 : Int32)) % (3 : Int32))), .val (.ref (w 0)), .val (.ref b2), .unset] [])
    refine Go.step (fun _ zz => XS.aload X3.here hx rfl (hb hby at_55) rfl rfl zz) ?_
    show Go _ _ _ _ T3 (mkF m 57 #[.val (.int p0), .val (.long q1), .second, .val (.long q2), .second, .val (.long q3), .second, .val (.int ((p0 &&& (2147483647 : Int32)) % (3 : Int32))), .val (.ref (w 0)), .val (.ref b2), .unset] [(.ref (w 0))])
    refine Go.step (fun _ zz => XS.aload X3.here hx rfl (hb hby at_57) rfl rfl zz) ?_
    show Go _ _ _ _ T3 (mkF m 59 #[.val (.int p0), .val (.long q1), .second, .val (.long q2), .second, .val (.long q3), .second, .val (.int ((p0 &&& (2147483647 : Int32)) % (3 : Int32))), .val (.ref (w 0)), .val (.ref b2), .unset] [(.ref b2), (.ref (w 0))])
    obtain ⟨cq4, kq4, q4a, q4b, q4c⟩ := isOf hZ rfl ((wd1 wd).ext ((O0.ext E2).keep K3 (allS g_b2 all0)).2)
    obtain ⟨_, _, ⟨T4, L4, k4, n4⟩, -, X4, ⟨Lc4, hQ4, l4, y4, z4⟩, st4⟩ := X3.virtualBack hx (y := (⟨"com/example/weir/weir/Algorithm", "stored", "(Lcom/example/weir/weir/Settings;)[J"⟩ : MethodName)) (z := (⟨"com/example/weir/weir/Algorithm", "stored", "(Lcom/example/weir/weir/Settings;)[J"⟩ : MethodName)) hown (mvT hZ (hw _ (List.mem_of_getElem? (i := 21) rfl))) (mvT hZ (hw _ (List.mem_of_getElem? (i := 22) rfl))) (notFace_of_selects (args := #[]) (mvT hZ (hw _ (List.mem_of_getElem? (i := 24) rfl)))) (mvT hZ (hw _ (List.mem_of_getElem? (i := 24) rfl))) (mvT hZ (hw _ (List.mem_of_getElem? (i := 23) rfl))) (by decide) (backOf (W := 0) (rm3 l Z a0 hw [] (w 0) b2 q1 q2 q3 T3.heap n0 (Nat.le_trans (Nat.le_trans Z0 E2.1) K3.1) E3 F3_1 F3_2 F3_3) hZ (hw _ (List.mem_of_getElem? (i := 25) rfl)) (hw _ (List.mem_of_getElem? (i := 2) rfl)) (by decide) (by decide)) q4a q4c (g := (mkF m 59 #[.val (.int p0), .val (.long q1), .second, .val (.long q2), .second, .val (.long q3), .second, .val (.int ((p0 &&& (2147483647 : Int32)) % (3 : Int32))), .val (.ref (w 0)), .val (.ref b2), .unset] [(.ref b2), (.ref (w 0))])) rfl (by rw [hml]; rfl) (Steps.refl _) (argsL := [(.ref b2)]) (rest := []) (lenOf own_pd5 rfl) rfl (by show 2 * 0 + _ ≤ _; exact Nat.le_of_eq rfl) (hb hby at_59) (fun _ _ => ⟨rfl, rfl, (by decide : 1 + 1 ≤ _), (by decide : 4 + 2 ≤ _)⟩)
    dsimp only [Pt.U, Pt.locs, Pt.cells, Pt.slots] at X4 l4 y4 z4 st4 hQ4
    subst l4 y4 z4
    obtain ⟨b4, kk4, rfl, N4q, K4, g_b4, V4⟩ := hQ4
    have N4 := Fr.app N3 N4q
    refine Go.tr st4 ?_
    have Kc4 : Keep h0 T4.heap [] := Kc3.trans K4 all0
    show Go _ _ _ _ T4 (mkF m 62 #[.val (.int p0), .val (.long q1), .second, .val (.long q2), .second, .val (.long q3), .second, .val (.int ((p0 &&& (2147483647 : Int32)) % (3 : Int32))), .val (.ref (w 0)), .val (.ref b2), .unset] [(.ref b4)])
    refine Go.step (fun _ zz => XS.astore X4.here hx rfl (hb hby at_62) rfl rfl (l' := #[.val (.int p0), .val (.long q1), .second, .val (.long q2), .second, .val (.long q3), .second, .val (.int ((p0 &&& (2147483647 : Int32)) % (3 : Int32))), .val (.ref (w 0)), .val (.ref b2), .val (.ref b4)]) rfl zz) ?_
    show Go _ _ _ _ T4 (mkF m 64 #[.val (.int p0), .val (.long q1), .second, .val (.long q2), .second, .val (.long q3), .second, .val (.int ((p0 &&& (2147483647 : Int32)) % (3 : Int32))), .val (.ref (w 0)), .val (.ref b2), .val (.ref b4)] [])
    refine Go.step (fun _ zz => XS.aload X4.here hx rfl (hb hby at_64) rfl rfl zz) ?_
    show Go _ _ _ _ T4 (mkF m 66 #[.val (.int p0), .val (.long q1), .second, .val (.long q2), .second, .val (.long q3), .second, .val (.int ((p0 &&& (2147483647 : Int32)) % (3 : Int32))), .val (.ref (w 0)), .val (.ref b2), .val (.ref b4)] [(.ref b4)])
    refine Go.step (fun _ zz => XS.ifnonnullYes X4.here hx rfl (pc0 := 66) (pc' := 71) rfl (hb hby at_66) rfl (by decide) (by decide) zz) ?_
    show Go _ _ _ _ T4 (mkF m 71 #[.val (.int p0), .val (.long q1), .second, .val (.long q2), .second, .val (.long q3), .second, .val (.int ((p0 &&& (2147483647 : Int32)) % (3 : Int32))), .val (.ref (w 0)), .val (.ref b2), .val (.ref b4)] [])
    refine Go.step (fun _ zz => XS.iload X4.here hx rfl (hb hby at_71) rfl zz) ?_
    show Go _ _ _ _ T4 (mkF m 73 #[.val (.int p0), .val (.long q1), .second, .val (.long q2), .second, .val (.long q3), .second, .val (.int ((p0 &&& (2147483647 : Int32)) % (3 : Int32))), .val (.ref (w 0)), .val (.ref b2), .val (.ref b4)] [(.int ((p0 &&& (2147483647 : Int32)) % (3 : Int32)))])
    refine Go.step (fun _ zz => XS.iconst X4.here hx rfl (hb hby at_73) zz) ?_
    show Go _ _ _ _ T4 (mkF m 74 #[.val (.int p0), .val (.long q1), .second, .val (.long q2), .second, .val (.long q3), .second, .val (.int ((p0 &&& (2147483647 : Int32)) % (3 : Int32))), .val (.ref (w 0)), .val (.ref b2), .val (.ref b4)] [(.int (2 : Int32)), (.int ((p0 &&& (2147483647 : Int32)) % (3 : Int32)))])
    refine Go.step (fun _ zz => XS.icmpYes X4.here hx rfl (pc0 := 74) (pc' := 118) rfl (hb hby at_74) rfl (feq (fun q => absurd (hc10.symm.trans q) (by decide))).2 (by decide) (by decide) zz) ?_
    show Go _ _ _ _ T4 (mkF m 118 #[.val (.int p0), .val (.long q1), .second, .val (.long q2), .second, .val (.long q3), .second, .val (.int ((p0 &&& (2147483647 : Int32)) % (3 : Int32))), .val (.ref (w 0)), .val (.ref b2), .val (.ref b4)] [])
    refine Go.step (fun _ zz => XS.aload X4.here hx rfl (hb hby at_118) rfl rfl zz) ?_
    show Go _ _ _ _ T4 (mkF m 120 #[.val (.int p0), .val (.long q1), .second, .val (.long q2), .second, .val (.long q3), .second, .val (.int ((p0 &&& (2147483647 : Int32)) % (3 : Int32))), .val (.ref (w 0)), .val (.ref b2), .val (.ref b4)] [(.ref b4)])
    obtain ⟨c5, Ar5, q5, S5, M5, H5, G5⟩ := id V4
    refine Go.step (fun _ zz => X4.arraylength hx Ar5.1 (State.isArrayOf_alike hZ.alike Ar5.2.1) (g := (mkF m 120 #[.val (.int p0), .val (.long q1), .second, .val (.long q2), .second, .val (.long q3), .second, .val (.int ((p0 &&& (2147483647 : Int32)) % (3 : Int32))), .val (.ref (w 0)), .val (.ref b2), .val (.ref b4)] [(.ref b4)])) rfl rfl (hb hby at_120) _ zz) ?_
    rw [len_of S5 M5]
    show Go _ _ _ _ T4 (mkF m 121 #[.val (.int p0), .val (.long q1), .second, .val (.long q2), .second, .val (.long q3), .second, .val (.int ((p0 &&& (2147483647 : Int32)) % (3 : Int32))), .val (.ref (w 0)), .val (.ref b2), .val (.ref b4)] [(.int (2 : Int32))])
    refine Go.step (fun _ zz => XS.iconst X4.here hx rfl (hb hby at_121) zz) ?_
    show Go _ _ _ _ T4 (mkF m 122 #[.val (.int p0), .val (.long q1), .second, .val (.long q2), .second, .val (.long q3), .second, .val (.int ((p0 &&& (2147483647 : Int32)) % (3 : Int32))), .val (.ref (w 0)), .val (.ref b2), .val (.ref b4)] [(.int (2 : Int32)), (.int (2 : Int32))])
    refine Go.step (fun _ zz => XS.icmpNo X4.here hx rfl (hb hby at_122) rfl (teq (by decide)).2 zz) ?_
    show Go _ _ _ _ T4 (mkF m 125 #[.val (.int p0), .val (.long q1), .second, .val (.long q2), .second, .val (.long q3), .second, .val (.int ((p0 &&& (2147483647 : Int32)) % (3 : Int32))), .val (.ref (w 0)), .val (.ref b2), .val (.ref b4)] [])
    refine Go.step (fun _ zz => XS.aload X4.here hx rfl (hb hby at_125) rfl rfl zz) ?_
    show Go _ _ _ _ T4 (mkF m 127 #[.val (.int p0), .val (.long q1), .second, .val (.long q2), .second, .val (.long q3), .second, .val (.int ((p0 &&& (2147483647 : Int32)) % (3 : Int32))), .val (.ref (w 0)), .val (.ref b2), .val (.ref b4)] [(.ref b4)])
    refine Go.step (fun _ zz => XS.iconst X4.here hx rfl (hb hby at_127) zz) ?_
    show Go _ _ _ _ T4 (mkF m 128 #[.val (.int p0), .val (.long q1), .second, .val (.long q2), .second, .val (.long q3), .second, .val (.int ((p0 &&& (2147483647 : Int32)) % (3 : Int32))), .val (.ref (w 0)), .val (.ref b2), .val (.ref b4)] [(.int (0 : Int32)), (.ref b4)])
    obtain ⟨c6, Ar6, q6, S6, M6, H6, G6⟩ := id V4
    have hin6 : ¬ ((0 : Int32) < 0 ∨ c6.slots.size ≤ ((0 : Int32)).toNatClampNeg) := inb_of S6 ⟨by decide, by decide⟩
    refine Go.step (fun _ zz => X4.laload hx (j := (0 : Int32)) (v := (.long q2)) Ar6.1 (State.isArrayOf_alike hZ.alike Ar6.2.1) Ar6.2.2 hin6 (H6.at hin6 rfl) (g := (mkF m 128 #[.val (.int p0), .val (.long q1), .second, .val (.long q2), .second, .val (.long q3), .second, .val (.int ((p0 &&& (2147483647 : Int32)) % (3 : Int32))), .val (.ref (w 0)), .val (.ref b2), .val (.ref b4)] [(.int (0 : Int32)), (.ref b4)])) rfl rfl (hb hby at_128) _ zz) ?_
    show Go _ _ _ _ T4 (mkF m 129 #[.val (.int p0), .val (.long q1), .second, .val (.long q2), .second, .val (.long q3), .second, .val (.int ((p0 &&& (2147483647 : Int32)) % (3 : Int32))), .val (.ref (w 0)), .val (.ref b2), .val (.ref b4)] [(.long q2)])
    refine Go.step (fun _ zz => XS.lloadN X4.here hx rfl (hb hby at_129) rfl zz) ?_
    show Go _ _ _ _ T4 (mkF m 130 #[.val (.int p0), .val (.long q1), .second, .val (.long q2), .second, .val (.long q3), .second, .val (.int ((p0 &&& (2147483647 : Int32)) % (3 : Int32))), .val (.ref (w 0)), .val (.ref b2), .val (.ref b4)] [(.long q2), (.long q2)])
    refine Go.step (fun _ zz => XS.lcmp X4.here hx rfl (hb hby at_130) rfl zz) ?_
    show Go _ _ _ _ T4 (mkF m 131 #[.val (.int p0), .val (.long q1), .second, .val (.long q2), .second, .val (.long q3), .second, .val (.int ((p0 &&& (2147483647 : Int32)) % (3 : Int32))), .val (.ref (w 0)), .val (.ref b2), .val (.ref b4)] [(.int (lcmpW q2 q2))])
    refine Go.step (fun _ zz => XS.ifNo X4.here hx rfl (hb hby at_131) rfl ((if0 _ _).trans (teq ((lw_eq q2 q2).mpr rfl)).2) zz) ?_
    show Go _ _ _ _ T4 (mkF m 134 #[.val (.int p0), .val (.long q1), .second, .val (.long q2), .second, .val (.long q3), .second, .val (.int ((p0 &&& (2147483647 : Int32)) % (3 : Int32))), .val (.ref (w 0)), .val (.ref b2), .val (.ref b4)] [])
    refine Go.step (fun _ zz => XS.aload X4.here hx rfl (hb hby at_134) rfl rfl zz) ?_
    show Go _ _ _ _ T4 (mkF m 136 #[.val (.int p0), .val (.long q1), .second, .val (.long q2), .second, .val (.long q3), .second, .val (.int ((p0 &&& (2147483647 : Int32)) % (3 : Int32))), .val (.ref (w 0)), .val (.ref b2), .val (.ref b4)] [(.ref b4)])
    refine Go.step (fun _ zz => XS.iconst X4.here hx rfl (hb hby at_136) zz) ?_
    show Go _ _ _ _ T4 (mkF m 137 #[.val (.int p0), .val (.long q1), .second, .val (.long q2), .second, .val (.long q3), .second, .val (.int ((p0 &&& (2147483647 : Int32)) % (3 : Int32))), .val (.ref (w 0)), .val (.ref b2), .val (.ref b4)] [(.int (1 : Int32)), (.ref b4)])
    obtain ⟨c7, Ar7, q7, S7, M7, H7, G7⟩ := id V4
    have hin7 : ¬ ((1 : Int32) < 0 ∨ c7.slots.size ≤ ((1 : Int32)).toNatClampNeg) := inb_of S7 ⟨by decide, by decide⟩
    refine Go.step (fun _ zz => X4.laload hx (j := (1 : Int32)) (v := (.long q3)) Ar7.1 (State.isArrayOf_alike hZ.alike Ar7.2.1) Ar7.2.2 hin7 (H7.at hin7 rfl) (g := (mkF m 137 #[.val (.int p0), .val (.long q1), .second, .val (.long q2), .second, .val (.long q3), .second, .val (.int ((p0 &&& (2147483647 : Int32)) % (3 : Int32))), .val (.ref (w 0)), .val (.ref b2), .val (.ref b4)] [(.int (1 : Int32)), (.ref b4)])) rfl rfl (hb hby at_137) _ zz) ?_
    show Go _ _ _ _ T4 (mkF m 138 #[.val (.int p0), .val (.long q1), .second, .val (.long q2), .second, .val (.long q3), .second, .val (.int ((p0 &&& (2147483647 : Int32)) % (3 : Int32))), .val (.ref (w 0)), .val (.ref b2), .val (.ref b4)] [(.long q3)])
    refine Go.step (fun _ zz => XS.lload X4.here hx rfl (hb hby at_138) rfl zz) ?_
    show Go _ _ _ _ T4 (mkF m 140 #[.val (.int p0), .val (.long q1), .second, .val (.long q2), .second, .val (.long q3), .second, .val (.int ((p0 &&& (2147483647 : Int32)) % (3 : Int32))), .val (.ref (w 0)), .val (.ref b2), .val (.ref b4)] [(.long q3), (.long q3)])
    refine Go.step (fun _ zz => XS.lcmp X4.here hx rfl (hb hby at_140) rfl zz) ?_
    show Go _ _ _ _ T4 (mkF m 141 #[.val (.int p0), .val (.long q1), .second, .val (.long q2), .second, .val (.long q3), .second, .val (.int ((p0 &&& (2147483647 : Int32)) % (3 : Int32))), .val (.ref (w 0)), .val (.ref b2), .val (.ref b4)] [(.int (lcmpW q3 q3))])
    refine Go.step (fun _ zz => XS.ifNo X4.here hx rfl (hb hby at_141) rfl ((if0 _ _).trans (teq ((lw_eq q3 q3).mpr rfl)).2) zz) ?_
    show Go _ _ _ _ T4 (mkF m 144 #[.val (.int p0), .val (.long q1), .second, .val (.long q2), .second, .val (.long q3), .second, .val (.int ((p0 &&& (2147483647 : Int32)) % (3 : Int32))), .val (.ref (w 0)), .val (.ref b2), .val (.ref b4)] [])
    refine Go.step (fun _ zz => XS.iconst X4.here hx rfl (hb hby at_144) zz) ?_
    show Go _ _ _ _ T4 (mkF m 145 #[.val (.int p0), .val (.long q1), .second, .val (.long q2), .second, .val (.long q3), .second, .val (.int ((p0 &&& (2147483647 : Int32)) % (3 : Int32))), .val (.ref (w 0)), .val (.ref b2), .val (.ref b4)] [(.int (1 : Int32))])
    refine Go.step (fun _ zz => XS.goto X4.here hx rfl (pc0 := 145) (pc' := 149) rfl (hb hby at_145) (by decide) (by decide) zz) ?_
    show Go _ _ _ _ T4 (mkF m 149 #[.val (.int p0), .val (.long q1), .second, .val (.long q2), .second, .val (.long q3), .second, .val (.int ((p0 &&& (2147483647 : Int32)) % (3 : Int32))), .val (.ref (w 0)), .val (.ref b2), .val (.ref b4)] [(.int (1 : Int32))])
    exact Go.retN X4 hx (t := .boolean) Bd.returns (by simp) (hb hby at_149) Bd.notSynchronized (z' := (1 : Int32)) (by decide) (⟨rfl, N4⟩) (by decide) (by decide)
  · refine Go.step (fun _ zz => XS.ifYes X0.here hx rfl (pc0 := 10) (pc' := 21) rfl (hb hby at_10) rfl ((if0 _ _).trans (feq hc10).2) (by decide) (by decide) zz) ?_
    show Go _ _ _ _ s₁ (mkF m 21 #[.val (.int p0), .val (.long q1), .second, .val (.long q2), .second, .val (.long q3), .second, .val (.int ((p0 &&& (2147483647 : Int32)) % (3 : Int32))), .unset, .unset, .unset] [])
    refine Go.step (fun _ zz => XS.iload X0.here hx rfl (hb hby at_21) rfl zz) ?_
    show Go _ _ _ _ s₁ (mkF m 23 #[.val (.int p0), .val (.long q1), .second, .val (.long q2), .second, .val (.long q3), .second, .val (.int ((p0 &&& (2147483647 : Int32)) % (3 : Int32))), .unset, .unset, .unset] [(.int ((p0 &&& (2147483647 : Int32)) % (3 : Int32)))])
    refine Go.step (fun _ zz => XS.iconst X0.here hx rfl (hb hby at_23) zz) ?_
    show Go _ _ _ _ s₁ (mkF m 24 #[.val (.int p0), .val (.long q1), .second, .val (.long q2), .second, .val (.long q3), .second, .val (.int ((p0 &&& (2147483647 : Int32)) % (3 : Int32))), .unset, .unset, .unset] [(.int (1 : Int32)), (.int ((p0 &&& (2147483647 : Int32)) % (3 : Int32)))])
    by_cases hc24 : ((p0 &&& (2147483647 : Int32)) % (3 : Int32)) = (1 : Int32)
    · refine Go.step (fun _ zz => XS.icmpNo X0.here hx rfl (hb hby at_24) rfl (teq hc24).2 zz) ?_
      show Go _ _ _ _ s₁ (mkF m 27 #[.val (.int p0), .val (.long q1), .second, .val (.long q2), .second, .val (.long q3), .second, .val (.int ((p0 &&& (2147483647 : Int32)) % (3 : Int32))), .unset, .unset, .unset] [])
      obtain ⟨T8, X8, e8, st8⟩ := getS2 X0 hx hZ hown (host := "") (Or.inl (hw _ (List.mem_of_getElem? (i := 37) rfl))) Via.refl e0 ((wd2 wd).ext O0.2) (g := (mkF m 27 #[.val (.int p0), .val (.long q1), .second, .val (.long q2), .second, .val (.long q3), .second, .val (.int ((p0 &&& (2147483647 : Int32)) % (3 : Int32))), .unset, .unset, .unset] [])) rfl (hb hby at_27)
      refine Go.step st8 ?_
      show Go _ _ _ _ T8 (mkF m 30 #[.val (.int p0), .val (.long q1), .second, .val (.long q2), .second, .val (.long q3), .second, .val (.int ((p0 &&& (2147483647 : Int32)) % (3 : Int32))), .unset, .unset, .unset] [(.ref (w 1))])
      refine Go.step (fun _ zz => XS.astore X8.here hx rfl (hb hby at_30) rfl rfl (l' := #[.val (.int p0), .val (.long q1), .second, .val (.long q2), .second, .val (.long q3), .second, .val (.int ((p0 &&& (2147483647 : Int32)) % (3 : Int32))), .val (.ref (w 1)), .unset, .unset]) rfl zz) ?_
      show Go _ _ _ _ T8 (mkF m 32 #[.val (.int p0), .val (.long q1), .second, .val (.long q2), .second, .val (.long q3), .second, .val (.int ((p0 &&& (2147483647 : Int32)) % (3 : Int32))), .val (.ref (w 1)), .unset, .unset] [])
      refine Go.step (fun _ zz => XS.goto X8.here hx rfl (pc0 := 32) (pc' := 40) rfl (hb hby at_32) (by decide) (by decide) zz) ?_
      show Go _ _ _ _ T8 (mkF m 40 #[.val (.int p0), .val (.long q1), .second, .val (.long q2), .second, .val (.long q3), .second, .val (.int ((p0 &&& (2147483647 : Int32)) % (3 : Int32))), .val (.ref (w 1)), .unset, .unset] [])
      obtain ⟨T9, h9, X9, e9, E9, A9, D9, -, st9⟩ := newO X8 hx hZ hown (hw _ (List.mem_of_getElem? (i := 4) rfl)) (hw _ (List.mem_of_getElem? (i := 5) rfl)) (hw _ (List.mem_of_getElem? (i := 6) rfl)) e8 (g := (mkF m 40 #[.val (.int p0), .val (.long q1), .second, .val (.long q2), .second, .val (.long q3), .second, .val (.int ((p0 &&& (2147483647 : Int32)) % (3 : Int32))), .val (.ref (w 1)), .unset, .unset] [])) rfl (hb hby at_40) (by decide) (by decide)
      obtain ⟨b9, g9⟩ : ∃ z, z = h0.size := ⟨_, rfl⟩
      rw [← g9] at A9 D9 st9
      have F9_14 : Fld Z h9 b9 "com/example/weir/weir/Settings" "algorithm" "Lcom/example/weir/weir/Algorithm;" .null := D9 (Or.inr (hw _ (List.mem_of_getElem? (i := 14) rfl))) (ty := (.object "com/example/weir/weir/Algorithm")) (by decide)
      have F9_16 : Fld Z h9 b9 "com/example/weir/weir/Settings" "capacity" "J" (.long (0 : Int64)) := D9 (Or.inr (hw _ (List.mem_of_getElem? (i := 16) rfl))) (ty := .long) (by decide)
      have F9_18 : Fld Z h9 b9 "com/example/weir/weir/Settings" "rate" "J" (.long (0 : Int64)) := D9 (Or.inr (hw _ (List.mem_of_getElem? (i := 18) rfl))) (ty := .long) (by decide)
      have F9_20 : Fld Z h9 b9 "com/example/weir/weir/Settings" "intervalMillis" "J" (.long (0 : Int64)) := D9 (Or.inr (hw _ (List.mem_of_getElem? (i := 20) rfl))) (ty := .long) (by decide)
      have g_b9 : n0 ≤ b9 := Nat.le_trans Z0 (Nat.le_of_eq g9.symm)
      have sz_b9 : h0.size ≤ b9 := Nat.le_trans K0.1 (Nat.le_of_eq g9.symm)
      have K9 : Keep h0 h9 [] := K0.ext E9
      refine Go.step st9 ?_
      show Go _ _ _ _ T9 (mkF m 43 #[.val (.int p0), .val (.long q1), .second, .val (.long q2), .second, .val (.long q3), .second, .val (.int ((p0 &&& (2147483647 : Int32)) % (3 : Int32))), .val (.ref (w 1)), .unset, .unset] [(.ref b9)])
      refine Go.step (fun _ zz => XS.dup X9.here hx rfl (hb hby at_43) rfl rfl zz) ?_
      show Go _ _ _ _ T9 (mkF m 44 #[.val (.int p0), .val (.long q1), .second, .val (.long q2), .second, .val (.long q3), .second, .val (.int ((p0 &&& (2147483647 : Int32)) % (3 : Int32))), .val (.ref (w 1)), .unset, .unset] [(.ref b9), (.ref b9)])
      refine Go.step (fun _ zz => XS.aload X9.here hx rfl (hb hby at_44) rfl rfl zz) ?_
      show Go _ _ _ _ T9 (mkF m 46 #[.val (.int p0), .val (.long q1), .second, .val (.long q2), .second, .val (.long q3), .second, .val (.int ((p0 &&& (2147483647 : Int32)) % (3 : Int32))), .val (.ref (w 1)), .unset, .unset] [(.ref (w 1)), (.ref b9), (.ref b9)])
      refine Go.step (fun _ zz => XS.lloadN X9.here hx rfl (hb hby at_46) rfl zz) ?_
      show Go _ _ _ _ T9 (mkF m 47 #[.val (.int p0), .val (.long q1), .second, .val (.long q2), .second, .val (.long q3), .second, .val (.int ((p0 &&& (2147483647 : Int32)) % (3 : Int32))), .val (.ref (w 1)), .unset, .unset] [(.long q1), (.ref (w 1)), (.ref b9), (.ref b9)])
      refine Go.step (fun _ zz => XS.lloadN X9.here hx rfl (hb hby at_47) rfl zz) ?_
      show Go _ _ _ _ T9 (mkF m 48 #[.val (.int p0), .val (.long q1), .second, .val (.long q2), .second, .val (.long q3), .second, .val (.int ((p0 &&& (2147483647 : Int32)) % (3 : Int32))), .val (.ref (w 1)), .unset, .unset] [(.long q2), (.long q1), (.ref (w 1)), (.ref b9), (.ref b9)])
      refine Go.step (fun _ zz => XS.lload X9.here hx rfl (hb hby at_48) rfl zz) ?_
      show Go _ _ _ _ T9 (mkF m 50 #[.val (.int p0), .val (.long q1), .second, .val (.long q2), .second, .val (.long q3), .second, .val (.int ((p0 &&& (2147483647 : Int32)) % (3 : Int32))), .val (.ref (w 1)), .unset, .unset] [(.long q3), (.long q2), (.long q1), (.ref (w 1)), (.ref b9), (.ref b9)])
      obtain ⟨_, _, ⟨T10, L10, k10, n10⟩, -, X10, ⟨Lc10, hQ10, l10, y10, z10⟩, st10⟩ := X9.specialBack hx (y := (⟨"com/example/weir/weir/Settings", "<init>", "(Lcom/example/weir/weir/Algorithm;JJJ)V"⟩ : MethodName)) rfl hown (mvT hZ (hw _ (List.mem_of_getElem? (i := 7) rfl))) (mvT hZ (hw _ (List.mem_of_getElem? (i := 8) rfl))) (mvT hZ (hw _ (List.mem_of_getElem? (i := 9) rfl))) (by decide) (backOf (W := 1) (rm1 l Z a0 hw [] b9 (w 1) q1 q2 q3 h9 n0 (Nat.le_trans Z0 E9.1) g_b9 A9 F9_14 F9_16 F9_18 F9_20) hZ (hw _ (List.mem_of_getElem? (i := 9) rfl)) (hw _ (List.mem_of_getElem? (i := 6) rfl)) (by decide) (by decide)) (g := (mkF m 50 #[.val (.int p0), .val (.long q1), .second, .val (.long q2), .second, .val (.long q3), .second, .val (.int ((p0 &&& (2147483647 : Int32)) % (3 : Int32))), .val (.ref (w 1)), .unset, .unset] [(.long q3), (.long q2), (.long q1), (.ref (w 1)), (.ref b9), (.ref b9)])) rfl (by rw [hml]; rfl) (Steps.refl _) (a := b9) (argsL := [(.ref (w 1)), (.long q1), (.long q2), (.long q3)]) (rest := [(.ref b9)]) (lenOf own_pd4 rfl) rfl (by show 2 * 0 + _ ≤ _; exact Nat.le_of_eq rfl) (hb hby at_50) (fun _ _ => ⟨rfl, e9, (by decide : 1 + 0 ≤ _), (by decide : 4 + 0 ≤ _)⟩)
      dsimp only [Pt.U, Pt.locs, Pt.cells, Pt.slots] at X10 l10 y10 z10 st10 hQ10
      subst l10 y10 z10
      obtain ⟨rfl, N10q, K10, E10, F10_0, F10_1, F10_2, F10_3⟩ := hQ10
      have N10 := Fr.app N0 N10q
      refine Go.tr st10 ?_
      have Kc10 : Keep h0 T10.heap [] := K9.trans K10 (allS (Or.inr sz_b9) all0)
      show Go _ _ _ _ T10 (mkF m 53 #[.val (.int p0), .val (.long q1), .second, .val (.long q2), .second, .val (.long q3), .second, .val (.int ((p0 &&& (2147483647 : Int32)) % (3 : Int32))), .val (.ref (w 1)), .unset, .unset] [(.ref b9)])
      refine Go.step (fun _ zz => XS.astore X10.here hx rfl (hb hby at_53) rfl rfl (l' := #[.val (.int p0), .val (.long q1), .second, .val (.long q2), .second, .val (.long q3), .second, .val (.int ((p0 &&& (2147483647 : Int32)) % (3 : Int32))), .val (.ref (w 1)), .val (.ref b9), .unset]) rfl zz) ?_
      show Go _ _ _ _ T10 (mkF m 55 #[.val (.int p0), .val (.long q1), .second, .val (.long q2), .second, .val (.long q3), .second, .val (.int ((p0 &&& (2147483647 : Int32)) % (3 : Int32))), .val (.ref (w 1)), .val (.ref b9), .unset] [])
      refine Go.step (fun _ zz => XS.aload X10.here hx rfl (hb hby at_55) rfl rfl zz) ?_
      show Go _ _ _ _ T10 (mkF m 57 #[.val (.int p0), .val (.long q1), .second, .val (.long q2), .second, .val (.long q3), .second, .val (.int ((p0 &&& (2147483647 : Int32)) % (3 : Int32))), .val (.ref (w 1)), .val (.ref b9), .unset] [(.ref (w 1))])
      refine Go.step (fun _ zz => XS.aload X10.here hx rfl (hb hby at_57) rfl rfl zz) ?_
      show Go _ _ _ _ T10 (mkF m 59 #[.val (.int p0), .val (.long q1), .second, .val (.long q2), .second, .val (.long q3), .second, .val (.int ((p0 &&& (2147483647 : Int32)) % (3 : Int32))), .val (.ref (w 1)), .val (.ref b9), .unset] [(.ref b9), (.ref (w 1))])
      obtain ⟨cq11, kq11, q11a, q11b, q11c⟩ := isOf hZ rfl ((wd3 wd).ext ((O0.ext E9).keep K10 (allS g_b9 all0)).2)
      obtain ⟨_, _, ⟨T11, L11, k11, n11⟩, -, X11, ⟨Lc11, hQ11, l11, y11, z11⟩, st11⟩ := X10.virtualBack hx (y := (⟨"com/example/weir/weir/Algorithm", "stored", "(Lcom/example/weir/weir/Settings;)[J"⟩ : MethodName)) (z := (⟨"com/example/weir/weir/Algorithm", "stored", "(Lcom/example/weir/weir/Settings;)[J"⟩ : MethodName)) hown (mvT hZ (hw _ (List.mem_of_getElem? (i := 21) rfl))) (mvT hZ (hw _ (List.mem_of_getElem? (i := 22) rfl))) (notFace_of_selects (args := #[]) (mvT hZ (hw _ (List.mem_of_getElem? (i := 24) rfl)))) (mvT hZ (hw _ (List.mem_of_getElem? (i := 39) rfl))) (mvT hZ (hw _ (List.mem_of_getElem? (i := 23) rfl))) (by decide) (backOf (W := 0) (rm3 l Z a0 hw [] (w 1) b9 q1 q2 q3 T10.heap n0 (Nat.le_trans (Nat.le_trans Z0 E9.1) K10.1) E10 F10_1 F10_2 F10_3) hZ (hw _ (List.mem_of_getElem? (i := 25) rfl)) (hw _ (List.mem_of_getElem? (i := 2) rfl)) (by decide) (by decide)) q11a q11c (g := (mkF m 59 #[.val (.int p0), .val (.long q1), .second, .val (.long q2), .second, .val (.long q3), .second, .val (.int ((p0 &&& (2147483647 : Int32)) % (3 : Int32))), .val (.ref (w 1)), .val (.ref b9), .unset] [(.ref b9), (.ref (w 1))])) rfl (by rw [hml]; rfl) (Steps.refl _) (argsL := [(.ref b9)]) (rest := []) (lenOf own_pd5 rfl) rfl (by show 2 * 0 + _ ≤ _; exact Nat.le_of_eq rfl) (hb hby at_59) (fun _ _ => ⟨rfl, rfl, (by decide : 1 + 1 ≤ _), (by decide : 4 + 2 ≤ _)⟩)
      dsimp only [Pt.U, Pt.locs, Pt.cells, Pt.slots] at X11 l11 y11 z11 st11 hQ11
      subst l11 y11 z11
      obtain ⟨b11, kk11, rfl, N11q, K11, g_b11, V11⟩ := hQ11
      have N11 := Fr.app N10 N11q
      refine Go.tr st11 ?_
      have Kc11 : Keep h0 T11.heap [] := Kc10.trans K11 all0
      show Go _ _ _ _ T11 (mkF m 62 #[.val (.int p0), .val (.long q1), .second, .val (.long q2), .second, .val (.long q3), .second, .val (.int ((p0 &&& (2147483647 : Int32)) % (3 : Int32))), .val (.ref (w 1)), .val (.ref b9), .unset] [(.ref b11)])
      refine Go.step (fun _ zz => XS.astore X11.here hx rfl (hb hby at_62) rfl rfl (l' := #[.val (.int p0), .val (.long q1), .second, .val (.long q2), .second, .val (.long q3), .second, .val (.int ((p0 &&& (2147483647 : Int32)) % (3 : Int32))), .val (.ref (w 1)), .val (.ref b9), .val (.ref b11)]) rfl zz) ?_
      show Go _ _ _ _ T11 (mkF m 64 #[.val (.int p0), .val (.long q1), .second, .val (.long q2), .second, .val (.long q3), .second, .val (.int ((p0 &&& (2147483647 : Int32)) % (3 : Int32))), .val (.ref (w 1)), .val (.ref b9), .val (.ref b11)] [])
      refine Go.step (fun _ zz => XS.aload X11.here hx rfl (hb hby at_64) rfl rfl zz) ?_
      show Go _ _ _ _ T11 (mkF m 66 #[.val (.int p0), .val (.long q1), .second, .val (.long q2), .second, .val (.long q3), .second, .val (.int ((p0 &&& (2147483647 : Int32)) % (3 : Int32))), .val (.ref (w 1)), .val (.ref b9), .val (.ref b11)] [(.ref b11)])
      refine Go.step (fun _ zz => XS.ifnonnullYes X11.here hx rfl (pc0 := 66) (pc' := 71) rfl (hb hby at_66) rfl (by decide) (by decide) zz) ?_
      show Go _ _ _ _ T11 (mkF m 71 #[.val (.int p0), .val (.long q1), .second, .val (.long q2), .second, .val (.long q3), .second, .val (.int ((p0 &&& (2147483647 : Int32)) % (3 : Int32))), .val (.ref (w 1)), .val (.ref b9), .val (.ref b11)] [])
      refine Go.step (fun _ zz => XS.iload X11.here hx rfl (hb hby at_71) rfl zz) ?_
      show Go _ _ _ _ T11 (mkF m 73 #[.val (.int p0), .val (.long q1), .second, .val (.long q2), .second, .val (.long q3), .second, .val (.int ((p0 &&& (2147483647 : Int32)) % (3 : Int32))), .val (.ref (w 1)), .val (.ref b9), .val (.ref b11)] [(.int ((p0 &&& (2147483647 : Int32)) % (3 : Int32)))])
      refine Go.step (fun _ zz => XS.iconst X11.here hx rfl (hb hby at_73) zz) ?_
      show Go _ _ _ _ T11 (mkF m 74 #[.val (.int p0), .val (.long q1), .second, .val (.long q2), .second, .val (.long q3), .second, .val (.int ((p0 &&& (2147483647 : Int32)) % (3 : Int32))), .val (.ref (w 1)), .val (.ref b9), .val (.ref b11)] [(.int (2 : Int32)), (.int ((p0 &&& (2147483647 : Int32)) % (3 : Int32)))])
      refine Go.step (fun _ zz => XS.icmpYes X11.here hx rfl (pc0 := 74) (pc' := 118) rfl (hb hby at_74) rfl (feq (fun q => absurd (hc24.symm.trans q) (by decide))).2 (by decide) (by decide) zz) ?_
      show Go _ _ _ _ T11 (mkF m 118 #[.val (.int p0), .val (.long q1), .second, .val (.long q2), .second, .val (.long q3), .second, .val (.int ((p0 &&& (2147483647 : Int32)) % (3 : Int32))), .val (.ref (w 1)), .val (.ref b9), .val (.ref b11)] [])
      refine Go.step (fun _ zz => XS.aload X11.here hx rfl (hb hby at_118) rfl rfl zz) ?_
      show Go _ _ _ _ T11 (mkF m 120 #[.val (.int p0), .val (.long q1), .second, .val (.long q2), .second, .val (.long q3), .second, .val (.int ((p0 &&& (2147483647 : Int32)) % (3 : Int32))), .val (.ref (w 1)), .val (.ref b9), .val (.ref b11)] [(.ref b11)])
      obtain ⟨c12, Ar12, q12, S12, M12, H12, G12⟩ := id V11
      refine Go.step (fun _ zz => X11.arraylength hx Ar12.1 (State.isArrayOf_alike hZ.alike Ar12.2.1) (g := (mkF m 120 #[.val (.int p0), .val (.long q1), .second, .val (.long q2), .second, .val (.long q3), .second, .val (.int ((p0 &&& (2147483647 : Int32)) % (3 : Int32))), .val (.ref (w 1)), .val (.ref b9), .val (.ref b11)] [(.ref b11)])) rfl rfl (hb hby at_120) _ zz) ?_
      rw [len_of S12 M12]
      show Go _ _ _ _ T11 (mkF m 121 #[.val (.int p0), .val (.long q1), .second, .val (.long q2), .second, .val (.long q3), .second, .val (.int ((p0 &&& (2147483647 : Int32)) % (3 : Int32))), .val (.ref (w 1)), .val (.ref b9), .val (.ref b11)] [(.int (2 : Int32))])
      refine Go.step (fun _ zz => XS.iconst X11.here hx rfl (hb hby at_121) zz) ?_
      show Go _ _ _ _ T11 (mkF m 122 #[.val (.int p0), .val (.long q1), .second, .val (.long q2), .second, .val (.long q3), .second, .val (.int ((p0 &&& (2147483647 : Int32)) % (3 : Int32))), .val (.ref (w 1)), .val (.ref b9), .val (.ref b11)] [(.int (2 : Int32)), (.int (2 : Int32))])
      refine Go.step (fun _ zz => XS.icmpNo X11.here hx rfl (hb hby at_122) rfl (teq (by decide)).2 zz) ?_
      show Go _ _ _ _ T11 (mkF m 125 #[.val (.int p0), .val (.long q1), .second, .val (.long q2), .second, .val (.long q3), .second, .val (.int ((p0 &&& (2147483647 : Int32)) % (3 : Int32))), .val (.ref (w 1)), .val (.ref b9), .val (.ref b11)] [])
      refine Go.step (fun _ zz => XS.aload X11.here hx rfl (hb hby at_125) rfl rfl zz) ?_
      show Go _ _ _ _ T11 (mkF m 127 #[.val (.int p0), .val (.long q1), .second, .val (.long q2), .second, .val (.long q3), .second, .val (.int ((p0 &&& (2147483647 : Int32)) % (3 : Int32))), .val (.ref (w 1)), .val (.ref b9), .val (.ref b11)] [(.ref b11)])
      refine Go.step (fun _ zz => XS.iconst X11.here hx rfl (hb hby at_127) zz) ?_
      show Go _ _ _ _ T11 (mkF m 128 #[.val (.int p0), .val (.long q1), .second, .val (.long q2), .second, .val (.long q3), .second, .val (.int ((p0 &&& (2147483647 : Int32)) % (3 : Int32))), .val (.ref (w 1)), .val (.ref b9), .val (.ref b11)] [(.int (0 : Int32)), (.ref b11)])
      obtain ⟨c13, Ar13, q13, S13, M13, H13, G13⟩ := id V11
      have hin13 : ¬ ((0 : Int32) < 0 ∨ c13.slots.size ≤ ((0 : Int32)).toNatClampNeg) := inb_of S13 ⟨by decide, by decide⟩
      refine Go.step (fun _ zz => X11.laload hx (j := (0 : Int32)) (v := (.long q2)) Ar13.1 (State.isArrayOf_alike hZ.alike Ar13.2.1) Ar13.2.2 hin13 (H13.at hin13 rfl) (g := (mkF m 128 #[.val (.int p0), .val (.long q1), .second, .val (.long q2), .second, .val (.long q3), .second, .val (.int ((p0 &&& (2147483647 : Int32)) % (3 : Int32))), .val (.ref (w 1)), .val (.ref b9), .val (.ref b11)] [(.int (0 : Int32)), (.ref b11)])) rfl rfl (hb hby at_128) _ zz) ?_
      show Go _ _ _ _ T11 (mkF m 129 #[.val (.int p0), .val (.long q1), .second, .val (.long q2), .second, .val (.long q3), .second, .val (.int ((p0 &&& (2147483647 : Int32)) % (3 : Int32))), .val (.ref (w 1)), .val (.ref b9), .val (.ref b11)] [(.long q2)])
      refine Go.step (fun _ zz => XS.lloadN X11.here hx rfl (hb hby at_129) rfl zz) ?_
      show Go _ _ _ _ T11 (mkF m 130 #[.val (.int p0), .val (.long q1), .second, .val (.long q2), .second, .val (.long q3), .second, .val (.int ((p0 &&& (2147483647 : Int32)) % (3 : Int32))), .val (.ref (w 1)), .val (.ref b9), .val (.ref b11)] [(.long q2), (.long q2)])
      refine Go.step (fun _ zz => XS.lcmp X11.here hx rfl (hb hby at_130) rfl zz) ?_
      show Go _ _ _ _ T11 (mkF m 131 #[.val (.int p0), .val (.long q1), .second, .val (.long q2), .second, .val (.long q3), .second, .val (.int ((p0 &&& (2147483647 : Int32)) % (3 : Int32))), .val (.ref (w 1)), .val (.ref b9), .val (.ref b11)] [(.int (lcmpW q2 q2))])
      refine Go.step (fun _ zz => XS.ifNo X11.here hx rfl (hb hby at_131) rfl ((if0 _ _).trans (teq ((lw_eq q2 q2).mpr rfl)).2) zz) ?_
      show Go _ _ _ _ T11 (mkF m 134 #[.val (.int p0), .val (.long q1), .second, .val (.long q2), .second, .val (.long q3), .second, .val (.int ((p0 &&& (2147483647 : Int32)) % (3 : Int32))), .val (.ref (w 1)), .val (.ref b9), .val (.ref b11)] [])
      refine Go.step (fun _ zz => XS.aload X11.here hx rfl (hb hby at_134) rfl rfl zz) ?_
      show Go _ _ _ _ T11 (mkF m 136 #[.val (.int p0), .val (.long q1), .second, .val (.long q2), .second, .val (.long q3), .second, .val (.int ((p0 &&& (2147483647 : Int32)) % (3 : Int32))), .val (.ref (w 1)), .val (.ref b9), .val (.ref b11)] [(.ref b11)])
      refine Go.step (fun _ zz => XS.iconst X11.here hx rfl (hb hby at_136) zz) ?_
      show Go _ _ _ _ T11 (mkF m 137 #[.val (.int p0), .val (.long q1), .second, .val (.long q2), .second, .val (.long q3), .second, .val (.int ((p0 &&& (2147483647 : Int32)) % (3 : Int32))), .val (.ref (w 1)), .val (.ref b9), .val (.ref b11)] [(.int (1 : Int32)), (.ref b11)])
      obtain ⟨c14, Ar14, q14, S14, M14, H14, G14⟩ := id V11
      have hin14 : ¬ ((1 : Int32) < 0 ∨ c14.slots.size ≤ ((1 : Int32)).toNatClampNeg) := inb_of S14 ⟨by decide, by decide⟩
      refine Go.step (fun _ zz => X11.laload hx (j := (1 : Int32)) (v := (.long q3)) Ar14.1 (State.isArrayOf_alike hZ.alike Ar14.2.1) Ar14.2.2 hin14 (H14.at hin14 rfl) (g := (mkF m 137 #[.val (.int p0), .val (.long q1), .second, .val (.long q2), .second, .val (.long q3), .second, .val (.int ((p0 &&& (2147483647 : Int32)) % (3 : Int32))), .val (.ref (w 1)), .val (.ref b9), .val (.ref b11)] [(.int (1 : Int32)), (.ref b11)])) rfl rfl (hb hby at_137) _ zz) ?_
      show Go _ _ _ _ T11 (mkF m 138 #[.val (.int p0), .val (.long q1), .second, .val (.long q2), .second, .val (.long q3), .second, .val (.int ((p0 &&& (2147483647 : Int32)) % (3 : Int32))), .val (.ref (w 1)), .val (.ref b9), .val (.ref b11)] [(.long q3)])
      refine Go.step (fun _ zz => XS.lload X11.here hx rfl (hb hby at_138) rfl zz) ?_
      show Go _ _ _ _ T11 (mkF m 140 #[.val (.int p0), .val (.long q1), .second, .val (.long q2), .second, .val (.long q3), .second, .val (.int ((p0 &&& (2147483647 : Int32)) % (3 : Int32))), .val (.ref (w 1)), .val (.ref b9), .val (.ref b11)] [(.long q3), (.long q3)])
      refine Go.step (fun _ zz => XS.lcmp X11.here hx rfl (hb hby at_140) rfl zz) ?_
      show Go _ _ _ _ T11 (mkF m 141 #[.val (.int p0), .val (.long q1), .second, .val (.long q2), .second, .val (.long q3), .second, .val (.int ((p0 &&& (2147483647 : Int32)) % (3 : Int32))), .val (.ref (w 1)), .val (.ref b9), .val (.ref b11)] [(.int (lcmpW q3 q3))])
      refine Go.step (fun _ zz => XS.ifNo X11.here hx rfl (hb hby at_141) rfl ((if0 _ _).trans (teq ((lw_eq q3 q3).mpr rfl)).2) zz) ?_
      show Go _ _ _ _ T11 (mkF m 144 #[.val (.int p0), .val (.long q1), .second, .val (.long q2), .second, .val (.long q3), .second, .val (.int ((p0 &&& (2147483647 : Int32)) % (3 : Int32))), .val (.ref (w 1)), .val (.ref b9), .val (.ref b11)] [])
      refine Go.step (fun _ zz => XS.iconst X11.here hx rfl (hb hby at_144) zz) ?_
      show Go _ _ _ _ T11 (mkF m 145 #[.val (.int p0), .val (.long q1), .second, .val (.long q2), .second, .val (.long q3), .second, .val (.int ((p0 &&& (2147483647 : Int32)) % (3 : Int32))), .val (.ref (w 1)), .val (.ref b9), .val (.ref b11)] [(.int (1 : Int32))])
      refine Go.step (fun _ zz => XS.goto X11.here hx rfl (pc0 := 145) (pc' := 149) rfl (hb hby at_145) (by decide) (by decide) zz) ?_
      show Go _ _ _ _ T11 (mkF m 149 #[.val (.int p0), .val (.long q1), .second, .val (.long q2), .second, .val (.long q3), .second, .val (.int ((p0 &&& (2147483647 : Int32)) % (3 : Int32))), .val (.ref (w 1)), .val (.ref b9), .val (.ref b11)] [(.int (1 : Int32))])
      exact Go.retN X11 hx (t := .boolean) Bd.returns (by simp) (hb hby at_149) Bd.notSynchronized (z' := (1 : Int32)) (by decide) (⟨rfl, N11⟩) (by decide) (by decide)
    · refine Go.step (fun _ zz => XS.icmpYes X0.here hx rfl (pc0 := 24) (pc' := 35) rfl (hb hby at_24) rfl (feq hc24).2 (by decide) (by decide) zz) ?_
      show Go _ _ _ _ s₁ (mkF m 35 #[.val (.int p0), .val (.long q1), .second, .val (.long q2), .second, .val (.long q3), .second, .val (.int ((p0 &&& (2147483647 : Int32)) % (3 : Int32))), .unset, .unset, .unset] [])
      obtain ⟨T15, X15, e15, st15⟩ := getS2 X0 hx hZ hown (host := "") (Or.inl (hw _ (List.mem_of_getElem? (i := 40) rfl))) Via.refl e0 ((wd4 wd).ext O0.2) (g := (mkF m 35 #[.val (.int p0), .val (.long q1), .second, .val (.long q2), .second, .val (.long q3), .second, .val (.int ((p0 &&& (2147483647 : Int32)) % (3 : Int32))), .unset, .unset, .unset] [])) rfl (hb hby at_35)
      refine Go.step st15 ?_
      show Go _ _ _ _ T15 (mkF m 38 #[.val (.int p0), .val (.long q1), .second, .val (.long q2), .second, .val (.long q3), .second, .val (.int ((p0 &&& (2147483647 : Int32)) % (3 : Int32))), .unset, .unset, .unset] [(.ref (w 2))])
      refine Go.step (fun _ zz => XS.astore X15.here hx rfl (hb hby at_38) rfl rfl (l' := #[.val (.int p0), .val (.long q1), .second, .val (.long q2), .second, .val (.long q3), .second, .val (.int ((p0 &&& (2147483647 : Int32)) % (3 : Int32))), .val (.ref (w 2)), .unset, .unset]) rfl zz) ?_
      show Go _ _ _ _ T15 (mkF m 40 #[.val (.int p0), .val (.long q1), .second, .val (.long q2), .second, .val (.long q3), .second, .val (.int ((p0 &&& (2147483647 : Int32)) % (3 : Int32))), .val (.ref (w 2)), .unset, .unset] [])
      obtain ⟨T16, h16, X16, e16, E16, A16, D16, -, st16⟩ := newO X15 hx hZ hown (hw _ (List.mem_of_getElem? (i := 4) rfl)) (hw _ (List.mem_of_getElem? (i := 5) rfl)) (hw _ (List.mem_of_getElem? (i := 6) rfl)) e15 (g := (mkF m 40 #[.val (.int p0), .val (.long q1), .second, .val (.long q2), .second, .val (.long q3), .second, .val (.int ((p0 &&& (2147483647 : Int32)) % (3 : Int32))), .val (.ref (w 2)), .unset, .unset] [])) rfl (hb hby at_40) (by decide) (by decide)
      obtain ⟨b16, g16⟩ : ∃ z, z = h0.size := ⟨_, rfl⟩
      rw [← g16] at A16 D16 st16
      have F16_14 : Fld Z h16 b16 "com/example/weir/weir/Settings" "algorithm" "Lcom/example/weir/weir/Algorithm;" .null := D16 (Or.inr (hw _ (List.mem_of_getElem? (i := 14) rfl))) (ty := (.object "com/example/weir/weir/Algorithm")) (by decide)
      have F16_16 : Fld Z h16 b16 "com/example/weir/weir/Settings" "capacity" "J" (.long (0 : Int64)) := D16 (Or.inr (hw _ (List.mem_of_getElem? (i := 16) rfl))) (ty := .long) (by decide)
      have F16_18 : Fld Z h16 b16 "com/example/weir/weir/Settings" "rate" "J" (.long (0 : Int64)) := D16 (Or.inr (hw _ (List.mem_of_getElem? (i := 18) rfl))) (ty := .long) (by decide)
      have F16_20 : Fld Z h16 b16 "com/example/weir/weir/Settings" "intervalMillis" "J" (.long (0 : Int64)) := D16 (Or.inr (hw _ (List.mem_of_getElem? (i := 20) rfl))) (ty := .long) (by decide)
      have g_b16 : n0 ≤ b16 := Nat.le_trans Z0 (Nat.le_of_eq g16.symm)
      have sz_b16 : h0.size ≤ b16 := Nat.le_trans K0.1 (Nat.le_of_eq g16.symm)
      have K16 : Keep h0 h16 [] := K0.ext E16
      refine Go.step st16 ?_
      show Go _ _ _ _ T16 (mkF m 43 #[.val (.int p0), .val (.long q1), .second, .val (.long q2), .second, .val (.long q3), .second, .val (.int ((p0 &&& (2147483647 : Int32)) % (3 : Int32))), .val (.ref (w 2)), .unset, .unset] [(.ref b16)])
      refine Go.step (fun _ zz => XS.dup X16.here hx rfl (hb hby at_43) rfl rfl zz) ?_
      show Go _ _ _ _ T16 (mkF m 44 #[.val (.int p0), .val (.long q1), .second, .val (.long q2), .second, .val (.long q3), .second, .val (.int ((p0 &&& (2147483647 : Int32)) % (3 : Int32))), .val (.ref (w 2)), .unset, .unset] [(.ref b16), (.ref b16)])
      refine Go.step (fun _ zz => XS.aload X16.here hx rfl (hb hby at_44) rfl rfl zz) ?_
      show Go _ _ _ _ T16 (mkF m 46 #[.val (.int p0), .val (.long q1), .second, .val (.long q2), .second, .val (.long q3), .second, .val (.int ((p0 &&& (2147483647 : Int32)) % (3 : Int32))), .val (.ref (w 2)), .unset, .unset] [(.ref (w 2)), (.ref b16), (.ref b16)])
      refine Go.step (fun _ zz => XS.lloadN X16.here hx rfl (hb hby at_46) rfl zz) ?_
      show Go _ _ _ _ T16 (mkF m 47 #[.val (.int p0), .val (.long q1), .second, .val (.long q2), .second, .val (.long q3), .second, .val (.int ((p0 &&& (2147483647 : Int32)) % (3 : Int32))), .val (.ref (w 2)), .unset, .unset] [(.long q1), (.ref (w 2)), (.ref b16), (.ref b16)])
      refine Go.step (fun _ zz => XS.lloadN X16.here hx rfl (hb hby at_47) rfl zz) ?_
      show Go _ _ _ _ T16 (mkF m 48 #[.val (.int p0), .val (.long q1), .second, .val (.long q2), .second, .val (.long q3), .second, .val (.int ((p0 &&& (2147483647 : Int32)) % (3 : Int32))), .val (.ref (w 2)), .unset, .unset] [(.long q2), (.long q1), (.ref (w 2)), (.ref b16), (.ref b16)])
      refine Go.step (fun _ zz => XS.lload X16.here hx rfl (hb hby at_48) rfl zz) ?_
      show Go _ _ _ _ T16 (mkF m 50 #[.val (.int p0), .val (.long q1), .second, .val (.long q2), .second, .val (.long q3), .second, .val (.int ((p0 &&& (2147483647 : Int32)) % (3 : Int32))), .val (.ref (w 2)), .unset, .unset] [(.long q3), (.long q2), (.long q1), (.ref (w 2)), (.ref b16), (.ref b16)])
      obtain ⟨_, _, ⟨T17, L17, k17, n17⟩, -, X17, ⟨Lc17, hQ17, l17, y17, z17⟩, st17⟩ := X16.specialBack hx (y := (⟨"com/example/weir/weir/Settings", "<init>", "(Lcom/example/weir/weir/Algorithm;JJJ)V"⟩ : MethodName)) rfl hown (mvT hZ (hw _ (List.mem_of_getElem? (i := 7) rfl))) (mvT hZ (hw _ (List.mem_of_getElem? (i := 8) rfl))) (mvT hZ (hw _ (List.mem_of_getElem? (i := 9) rfl))) (by decide) (backOf (W := 1) (rm1 l Z a0 hw [] b16 (w 2) q1 q2 q3 h16 n0 (Nat.le_trans Z0 E16.1) g_b16 A16 F16_14 F16_16 F16_18 F16_20) hZ (hw _ (List.mem_of_getElem? (i := 9) rfl)) (hw _ (List.mem_of_getElem? (i := 6) rfl)) (by decide) (by decide)) (g := (mkF m 50 #[.val (.int p0), .val (.long q1), .second, .val (.long q2), .second, .val (.long q3), .second, .val (.int ((p0 &&& (2147483647 : Int32)) % (3 : Int32))), .val (.ref (w 2)), .unset, .unset] [(.long q3), (.long q2), (.long q1), (.ref (w 2)), (.ref b16), (.ref b16)])) rfl (by rw [hml]; rfl) (Steps.refl _) (a := b16) (argsL := [(.ref (w 2)), (.long q1), (.long q2), (.long q3)]) (rest := [(.ref b16)]) (lenOf own_pd4 rfl) rfl (by show 2 * 0 + _ ≤ _; exact Nat.le_of_eq rfl) (hb hby at_50) (fun _ _ => ⟨rfl, e16, (by decide : 1 + 0 ≤ _), (by decide : 4 + 0 ≤ _)⟩)
      dsimp only [Pt.U, Pt.locs, Pt.cells, Pt.slots] at X17 l17 y17 z17 st17 hQ17
      subst l17 y17 z17
      obtain ⟨rfl, N17q, K17, E17, F17_0, F17_1, F17_2, F17_3⟩ := hQ17
      have N17 := Fr.app N0 N17q
      refine Go.tr st17 ?_
      have Kc17 : Keep h0 T17.heap [] := K16.trans K17 (allS (Or.inr sz_b16) all0)
      show Go _ _ _ _ T17 (mkF m 53 #[.val (.int p0), .val (.long q1), .second, .val (.long q2), .second, .val (.long q3), .second, .val (.int ((p0 &&& (2147483647 : Int32)) % (3 : Int32))), .val (.ref (w 2)), .unset, .unset] [(.ref b16)])
      refine Go.step (fun _ zz => XS.astore X17.here hx rfl (hb hby at_53) rfl rfl (l' := #[.val (.int p0), .val (.long q1), .second, .val (.long q2), .second, .val (.long q3), .second, .val (.int ((p0 &&& (2147483647 : Int32)) % (3 : Int32))), .val (.ref (w 2)), .val (.ref b16), .unset]) rfl zz) ?_
      show Go _ _ _ _ T17 (mkF m 55 #[.val (.int p0), .val (.long q1), .second, .val (.long q2), .second, .val (.long q3), .second, .val (.int ((p0 &&& (2147483647 : Int32)) % (3 : Int32))), .val (.ref (w 2)), .val (.ref b16), .unset] [])
      refine Go.step (fun _ zz => XS.aload X17.here hx rfl (hb hby at_55) rfl rfl zz) ?_
      show Go _ _ _ _ T17 (mkF m 57 #[.val (.int p0), .val (.long q1), .second, .val (.long q2), .second, .val (.long q3), .second, .val (.int ((p0 &&& (2147483647 : Int32)) % (3 : Int32))), .val (.ref (w 2)), .val (.ref b16), .unset] [(.ref (w 2))])
      refine Go.step (fun _ zz => XS.aload X17.here hx rfl (hb hby at_57) rfl rfl zz) ?_
      show Go _ _ _ _ T17 (mkF m 59 #[.val (.int p0), .val (.long q1), .second, .val (.long q2), .second, .val (.long q3), .second, .val (.int ((p0 &&& (2147483647 : Int32)) % (3 : Int32))), .val (.ref (w 2)), .val (.ref b16), .unset] [(.ref b16), (.ref (w 2))])
      obtain ⟨cq18, kq18, q18a, q18b, q18c⟩ := isOf hZ rfl ((wd5 wd).ext ((O0.ext E16).keep K17 (allS g_b16 all0)).2)
      obtain ⟨_, _, ⟨T18, L18, k18, n18⟩, -, X18, ⟨Lc18, hQ18, l18, y18, z18⟩, st18⟩ := X17.virtualBack hx (y := (⟨"com/example/weir/weir/Algorithm", "stored", "(Lcom/example/weir/weir/Settings;)[J"⟩ : MethodName)) (z := (⟨"com/example/weir/weir/Algorithm$3", "stored", "(Lcom/example/weir/weir/Settings;)[J"⟩ : MethodName)) hown (mvT hZ (hw _ (List.mem_of_getElem? (i := 21) rfl))) (mvT hZ (hw _ (List.mem_of_getElem? (i := 22) rfl))) (notFace_of_selects (args := #[]) (mvT hZ (hw _ (List.mem_of_getElem? (i := 24) rfl)))) (mvT hZ (hw _ (List.mem_of_getElem? (i := 42) rfl))) (mvT hZ (hw _ (List.mem_of_getElem? (i := 43) rfl))) (by decide) (backOf (W := 0) (rm6 l Z a0 hw [] (w 2) b16 q1 q2 q3 T17.heap n0 (Nat.le_trans (Nat.le_trans Z0 E16.1) K17.1) E17 F17_1 F17_2 F17_3) hZ (hw _ (List.mem_of_getElem? (i := 45) rfl)) (hw _ (List.mem_of_getElem? (i := 44) rfl)) (by decide) (by decide)) q18a q18c (g := (mkF m 59 #[.val (.int p0), .val (.long q1), .second, .val (.long q2), .second, .val (.long q3), .second, .val (.int ((p0 &&& (2147483647 : Int32)) % (3 : Int32))), .val (.ref (w 2)), .val (.ref b16), .unset] [(.ref b16), (.ref (w 2))])) rfl (by rw [hml]; rfl) (Steps.refl _) (argsL := [(.ref b16)]) (rest := []) (lenOf own_pd5 rfl) rfl (by show 2 * 0 + _ ≤ _; exact Nat.le_of_eq rfl) (hb hby at_59) (fun _ _ => ⟨rfl, rfl, (by decide : 1 + 1 ≤ _), (by decide : 4 + 3 ≤ _)⟩)
      dsimp only [Pt.U, Pt.locs, Pt.cells, Pt.slots] at X18 l18 y18 z18 st18 hQ18
      subst l18 y18 z18
      obtain ⟨b18, kk18, rfl, N18q, K18, g_b18, V18⟩ := hQ18
      have N18 := Fr.app N17 N18q
      refine Go.tr st18 ?_
      have Kc18 : Keep h0 T18.heap [] := Kc17.trans K18 all0
      show Go _ _ _ _ T18 (mkF m 62 #[.val (.int p0), .val (.long q1), .second, .val (.long q2), .second, .val (.long q3), .second, .val (.int ((p0 &&& (2147483647 : Int32)) % (3 : Int32))), .val (.ref (w 2)), .val (.ref b16), .unset] [(.ref b18)])
      refine Go.step (fun _ zz => XS.astore X18.here hx rfl (hb hby at_62) rfl rfl (l' := #[.val (.int p0), .val (.long q1), .second, .val (.long q2), .second, .val (.long q3), .second, .val (.int ((p0 &&& (2147483647 : Int32)) % (3 : Int32))), .val (.ref (w 2)), .val (.ref b16), .val (.ref b18)]) rfl zz) ?_
      show Go _ _ _ _ T18 (mkF m 64 #[.val (.int p0), .val (.long q1), .second, .val (.long q2), .second, .val (.long q3), .second, .val (.int ((p0 &&& (2147483647 : Int32)) % (3 : Int32))), .val (.ref (w 2)), .val (.ref b16), .val (.ref b18)] [])
      refine Go.step (fun _ zz => XS.aload X18.here hx rfl (hb hby at_64) rfl rfl zz) ?_
      show Go _ _ _ _ T18 (mkF m 66 #[.val (.int p0), .val (.long q1), .second, .val (.long q2), .second, .val (.long q3), .second, .val (.int ((p0 &&& (2147483647 : Int32)) % (3 : Int32))), .val (.ref (w 2)), .val (.ref b16), .val (.ref b18)] [(.ref b18)])
      refine Go.step (fun _ zz => XS.ifnonnullYes X18.here hx rfl (pc0 := 66) (pc' := 71) rfl (hb hby at_66) rfl (by decide) (by decide) zz) ?_
      show Go _ _ _ _ T18 (mkF m 71 #[.val (.int p0), .val (.long q1), .second, .val (.long q2), .second, .val (.long q3), .second, .val (.int ((p0 &&& (2147483647 : Int32)) % (3 : Int32))), .val (.ref (w 2)), .val (.ref b16), .val (.ref b18)] [])
      refine Go.step (fun _ zz => XS.iload X18.here hx rfl (hb hby at_71) rfl zz) ?_
      show Go _ _ _ _ T18 (mkF m 73 #[.val (.int p0), .val (.long q1), .second, .val (.long q2), .second, .val (.long q3), .second, .val (.int ((p0 &&& (2147483647 : Int32)) % (3 : Int32))), .val (.ref (w 2)), .val (.ref b16), .val (.ref b18)] [(.int ((p0 &&& (2147483647 : Int32)) % (3 : Int32)))])
      refine Go.step (fun _ zz => XS.iconst X18.here hx rfl (hb hby at_73) zz) ?_
      show Go _ _ _ _ T18 (mkF m 74 #[.val (.int p0), .val (.long q1), .second, .val (.long q2), .second, .val (.long q3), .second, .val (.int ((p0 &&& (2147483647 : Int32)) % (3 : Int32))), .val (.ref (w 2)), .val (.ref b16), .val (.ref b18)] [(.int (2 : Int32)), (.int ((p0 &&& (2147483647 : Int32)) % (3 : Int32)))])
      refine Go.step (fun _ zz => XS.icmpNo X18.here hx rfl (hb hby at_74) rfl (teq (own_m3 p0 hc10 hc24)).2 zz) ?_
      show Go _ _ _ _ T18 (mkF m 77 #[.val (.int p0), .val (.long q1), .second, .val (.long q2), .second, .val (.long q3), .second, .val (.int ((p0 &&& (2147483647 : Int32)) % (3 : Int32))), .val (.ref (w 2)), .val (.ref b16), .val (.ref b18)] [])
      refine Go.step (fun _ zz => XS.aload X18.here hx rfl (hb hby at_77) rfl rfl zz) ?_
      show Go _ _ _ _ T18 (mkF m 79 #[.val (.int p0), .val (.long q1), .second, .val (.long q2), .second, .val (.long q3), .second, .val (.int ((p0 &&& (2147483647 : Int32)) % (3 : Int32))), .val (.ref (w 2)), .val (.ref b16), .val (.ref b18)] [(.ref b18)])
      obtain ⟨c19, Ar19, q19, S19, M19, H19, G19⟩ := id V18
      refine Go.step (fun _ zz => X18.arraylength hx Ar19.1 (State.isArrayOf_alike hZ.alike Ar19.2.1) (g := (mkF m 79 #[.val (.int p0), .val (.long q1), .second, .val (.long q2), .second, .val (.long q3), .second, .val (.int ((p0 &&& (2147483647 : Int32)) % (3 : Int32))), .val (.ref (w 2)), .val (.ref b16), .val (.ref b18)] [(.ref b18)])) rfl rfl (hb hby at_79) _ zz) ?_
      rw [len_of S19 M19]
      show Go _ _ _ _ T18 (mkF m 80 #[.val (.int p0), .val (.long q1), .second, .val (.long q2), .second, .val (.long q3), .second, .val (.int ((p0 &&& (2147483647 : Int32)) % (3 : Int32))), .val (.ref (w 2)), .val (.ref b16), .val (.ref b18)] [(.int (3 : Int32))])
      refine Go.step (fun _ zz => XS.iconst X18.here hx rfl (hb hby at_80) zz) ?_
      show Go _ _ _ _ T18 (mkF m 81 #[.val (.int p0), .val (.long q1), .second, .val (.long q2), .second, .val (.long q3), .second, .val (.int ((p0 &&& (2147483647 : Int32)) % (3 : Int32))), .val (.ref (w 2)), .val (.ref b16), .val (.ref b18)] [(.int (3 : Int32)), (.int (3 : Int32))])
      refine Go.step (fun _ zz => XS.icmpNo X18.here hx rfl (hb hby at_81) rfl (teq (by decide)).2 zz) ?_
      show Go _ _ _ _ T18 (mkF m 84 #[.val (.int p0), .val (.long q1), .second, .val (.long q2), .second, .val (.long q3), .second, .val (.int ((p0 &&& (2147483647 : Int32)) % (3 : Int32))), .val (.ref (w 2)), .val (.ref b16), .val (.ref b18)] [])
      refine Go.step (fun _ zz => XS.aload X18.here hx rfl (hb hby at_84) rfl rfl zz) ?_
      show Go _ _ _ _ T18 (mkF m 86 #[.val (.int p0), .val (.long q1), .second, .val (.long q2), .second, .val (.long q3), .second, .val (.int ((p0 &&& (2147483647 : Int32)) % (3 : Int32))), .val (.ref (w 2)), .val (.ref b16), .val (.ref b18)] [(.ref b18)])
      refine Go.step (fun _ zz => XS.iconst X18.here hx rfl (hb hby at_86) zz) ?_
      show Go _ _ _ _ T18 (mkF m 87 #[.val (.int p0), .val (.long q1), .second, .val (.long q2), .second, .val (.long q3), .second, .val (.int ((p0 &&& (2147483647 : Int32)) % (3 : Int32))), .val (.ref (w 2)), .val (.ref b16), .val (.ref b18)] [(.int (0 : Int32)), (.ref b18)])
      obtain ⟨c20, Ar20, q20, S20, M20, H20, G20⟩ := id V18
      have hin20 : ¬ ((0 : Int32) < 0 ∨ c20.slots.size ≤ ((0 : Int32)).toNatClampNeg) := inb_of S20 ⟨by decide, by decide⟩
      refine Go.step (fun _ zz => X18.laload hx (j := (0 : Int32)) (v := (.long q1)) Ar20.1 (State.isArrayOf_alike hZ.alike Ar20.2.1) Ar20.2.2 hin20 (H20.at hin20 rfl) (g := (mkF m 87 #[.val (.int p0), .val (.long q1), .second, .val (.long q2), .second, .val (.long q3), .second, .val (.int ((p0 &&& (2147483647 : Int32)) % (3 : Int32))), .val (.ref (w 2)), .val (.ref b16), .val (.ref b18)] [(.int (0 : Int32)), (.ref b18)])) rfl rfl (hb hby at_87) _ zz) ?_
      show Go _ _ _ _ T18 (mkF m 88 #[.val (.int p0), .val (.long q1), .second, .val (.long q2), .second, .val (.long q3), .second, .val (.int ((p0 &&& (2147483647 : Int32)) % (3 : Int32))), .val (.ref (w 2)), .val (.ref b16), .val (.ref b18)] [(.long q1)])
      refine Go.step (fun _ zz => XS.lloadN X18.here hx rfl (hb hby at_88) rfl zz) ?_
      show Go _ _ _ _ T18 (mkF m 89 #[.val (.int p0), .val (.long q1), .second, .val (.long q2), .second, .val (.long q3), .second, .val (.int ((p0 &&& (2147483647 : Int32)) % (3 : Int32))), .val (.ref (w 2)), .val (.ref b16), .val (.ref b18)] [(.long q1), (.long q1)])
      refine Go.step (fun _ zz => XS.lcmp X18.here hx rfl (hb hby at_89) rfl zz) ?_
      show Go _ _ _ _ T18 (mkF m 90 #[.val (.int p0), .val (.long q1), .second, .val (.long q2), .second, .val (.long q3), .second, .val (.int ((p0 &&& (2147483647 : Int32)) % (3 : Int32))), .val (.ref (w 2)), .val (.ref b16), .val (.ref b18)] [(.int (lcmpW q1 q1))])
      refine Go.step (fun _ zz => XS.ifNo X18.here hx rfl (hb hby at_90) rfl ((if0 _ _).trans (teq ((lw_eq q1 q1).mpr rfl)).2) zz) ?_
      show Go _ _ _ _ T18 (mkF m 93 #[.val (.int p0), .val (.long q1), .second, .val (.long q2), .second, .val (.long q3), .second, .val (.int ((p0 &&& (2147483647 : Int32)) % (3 : Int32))), .val (.ref (w 2)), .val (.ref b16), .val (.ref b18)] [])
      refine Go.step (fun _ zz => XS.aload X18.here hx rfl (hb hby at_93) rfl rfl zz) ?_
      show Go _ _ _ _ T18 (mkF m 95 #[.val (.int p0), .val (.long q1), .second, .val (.long q2), .second, .val (.long q3), .second, .val (.int ((p0 &&& (2147483647 : Int32)) % (3 : Int32))), .val (.ref (w 2)), .val (.ref b16), .val (.ref b18)] [(.ref b18)])
      refine Go.step (fun _ zz => XS.iconst X18.here hx rfl (hb hby at_95) zz) ?_
      show Go _ _ _ _ T18 (mkF m 96 #[.val (.int p0), .val (.long q1), .second, .val (.long q2), .second, .val (.long q3), .second, .val (.int ((p0 &&& (2147483647 : Int32)) % (3 : Int32))), .val (.ref (w 2)), .val (.ref b16), .val (.ref b18)] [(.int (1 : Int32)), (.ref b18)])
      obtain ⟨c21, Ar21, q21, S21, M21, H21, G21⟩ := id V18
      have hin21 : ¬ ((1 : Int32) < 0 ∨ c21.slots.size ≤ ((1 : Int32)).toNatClampNeg) := inb_of S21 ⟨by decide, by decide⟩
      refine Go.step (fun _ zz => X18.laload hx (j := (1 : Int32)) (v := (.long q2)) Ar21.1 (State.isArrayOf_alike hZ.alike Ar21.2.1) Ar21.2.2 hin21 (H21.at hin21 rfl) (g := (mkF m 96 #[.val (.int p0), .val (.long q1), .second, .val (.long q2), .second, .val (.long q3), .second, .val (.int ((p0 &&& (2147483647 : Int32)) % (3 : Int32))), .val (.ref (w 2)), .val (.ref b16), .val (.ref b18)] [(.int (1 : Int32)), (.ref b18)])) rfl rfl (hb hby at_96) _ zz) ?_
      show Go _ _ _ _ T18 (mkF m 97 #[.val (.int p0), .val (.long q1), .second, .val (.long q2), .second, .val (.long q3), .second, .val (.int ((p0 &&& (2147483647 : Int32)) % (3 : Int32))), .val (.ref (w 2)), .val (.ref b16), .val (.ref b18)] [(.long q2)])
      refine Go.step (fun _ zz => XS.lloadN X18.here hx rfl (hb hby at_97) rfl zz) ?_
      show Go _ _ _ _ T18 (mkF m 98 #[.val (.int p0), .val (.long q1), .second, .val (.long q2), .second, .val (.long q3), .second, .val (.int ((p0 &&& (2147483647 : Int32)) % (3 : Int32))), .val (.ref (w 2)), .val (.ref b16), .val (.ref b18)] [(.long q2), (.long q2)])
      refine Go.step (fun _ zz => XS.lcmp X18.here hx rfl (hb hby at_98) rfl zz) ?_
      show Go _ _ _ _ T18 (mkF m 99 #[.val (.int p0), .val (.long q1), .second, .val (.long q2), .second, .val (.long q3), .second, .val (.int ((p0 &&& (2147483647 : Int32)) % (3 : Int32))), .val (.ref (w 2)), .val (.ref b16), .val (.ref b18)] [(.int (lcmpW q2 q2))])
      refine Go.step (fun _ zz => XS.ifNo X18.here hx rfl (hb hby at_99) rfl ((if0 _ _).trans (teq ((lw_eq q2 q2).mpr rfl)).2) zz) ?_
      show Go _ _ _ _ T18 (mkF m 102 #[.val (.int p0), .val (.long q1), .second, .val (.long q2), .second, .val (.long q3), .second, .val (.int ((p0 &&& (2147483647 : Int32)) % (3 : Int32))), .val (.ref (w 2)), .val (.ref b16), .val (.ref b18)] [])
      refine Go.step (fun _ zz => XS.aload X18.here hx rfl (hb hby at_102) rfl rfl zz) ?_
      show Go _ _ _ _ T18 (mkF m 104 #[.val (.int p0), .val (.long q1), .second, .val (.long q2), .second, .val (.long q3), .second, .val (.int ((p0 &&& (2147483647 : Int32)) % (3 : Int32))), .val (.ref (w 2)), .val (.ref b16), .val (.ref b18)] [(.ref b18)])
      refine Go.step (fun _ zz => XS.iconst X18.here hx rfl (hb hby at_104) zz) ?_
      show Go _ _ _ _ T18 (mkF m 105 #[.val (.int p0), .val (.long q1), .second, .val (.long q2), .second, .val (.long q3), .second, .val (.int ((p0 &&& (2147483647 : Int32)) % (3 : Int32))), .val (.ref (w 2)), .val (.ref b16), .val (.ref b18)] [(.int (2 : Int32)), (.ref b18)])
      obtain ⟨c22, Ar22, q22, S22, M22, H22, G22⟩ := id V18
      have hin22 : ¬ ((2 : Int32) < 0 ∨ c22.slots.size ≤ ((2 : Int32)).toNatClampNeg) := inb_of S22 ⟨by decide, by decide⟩
      refine Go.step (fun _ zz => X18.laload hx (j := (2 : Int32)) (v := (.long q3)) Ar22.1 (State.isArrayOf_alike hZ.alike Ar22.2.1) Ar22.2.2 hin22 (H22.at hin22 rfl) (g := (mkF m 105 #[.val (.int p0), .val (.long q1), .second, .val (.long q2), .second, .val (.long q3), .second, .val (.int ((p0 &&& (2147483647 : Int32)) % (3 : Int32))), .val (.ref (w 2)), .val (.ref b16), .val (.ref b18)] [(.int (2 : Int32)), (.ref b18)])) rfl rfl (hb hby at_105) _ zz) ?_
      show Go _ _ _ _ T18 (mkF m 106 #[.val (.int p0), .val (.long q1), .second, .val (.long q2), .second, .val (.long q3), .second, .val (.int ((p0 &&& (2147483647 : Int32)) % (3 : Int32))), .val (.ref (w 2)), .val (.ref b16), .val (.ref b18)] [(.long q3)])
      refine Go.step (fun _ zz => XS.lload X18.here hx rfl (hb hby at_106) rfl zz) ?_
      show Go _ _ _ _ T18 (mkF m 108 #[.val (.int p0), .val (.long q1), .second, .val (.long q2), .second, .val (.long q3), .second, .val (.int ((p0 &&& (2147483647 : Int32)) % (3 : Int32))), .val (.ref (w 2)), .val (.ref b16), .val (.ref b18)] [(.long q3), (.long q3)])
      refine Go.step (fun _ zz => XS.lcmp X18.here hx rfl (hb hby at_108) rfl zz) ?_
      show Go _ _ _ _ T18 (mkF m 109 #[.val (.int p0), .val (.long q1), .second, .val (.long q2), .second, .val (.long q3), .second, .val (.int ((p0 &&& (2147483647 : Int32)) % (3 : Int32))), .val (.ref (w 2)), .val (.ref b16), .val (.ref b18)] [(.int (lcmpW q3 q3))])
      refine Go.step (fun _ zz => XS.ifNo X18.here hx rfl (hb hby at_109) rfl ((if0 _ _).trans (teq ((lw_eq q3 q3).mpr rfl)).2) zz) ?_
      show Go _ _ _ _ T18 (mkF m 112 #[.val (.int p0), .val (.long q1), .second, .val (.long q2), .second, .val (.long q3), .second, .val (.int ((p0 &&& (2147483647 : Int32)) % (3 : Int32))), .val (.ref (w 2)), .val (.ref b16), .val (.ref b18)] [])
      refine Go.step (fun _ zz => XS.iconst X18.here hx rfl (hb hby at_112) zz) ?_
      show Go _ _ _ _ T18 (mkF m 113 #[.val (.int p0), .val (.long q1), .second, .val (.long q2), .second, .val (.long q3), .second, .val (.int ((p0 &&& (2147483647 : Int32)) % (3 : Int32))), .val (.ref (w 2)), .val (.ref b16), .val (.ref b18)] [(.int (1 : Int32))])
      refine Go.step (fun _ zz => XS.goto X18.here hx rfl (pc0 := 113) (pc' := 117) rfl (hb hby at_113) (by decide) (by decide) zz) ?_
      show Go _ _ _ _ T18 (mkF m 117 #[.val (.int p0), .val (.long q1), .second, .val (.long q2), .second, .val (.long q3), .second, .val (.int ((p0 &&& (2147483647 : Int32)) % (3 : Int32))), .val (.ref (w 2)), .val (.ref b16), .val (.ref b18)] [(.int (1 : Int32))])
      exact Go.retN X18 hx (t := .boolean) Bd.returns (by simp) (hb hby at_117) Bd.notSynchronized (z' := (1 : Int32)) (by decide) (⟨rfl, N18⟩) (by decide) (by decide)
set_option maxRecDepth 65536 in
set_option maxHeartbeats 40000000 in
theorem comes_1 {Post : Tables → Env → Array Value → State → Outcome → State → Prop} (hpost : ∀ tb e args s v u, (limb_1_1.after args s (.returned v) u = true ∧ limb_1_2.after args s (.returned v) u = true ∧ True) → FrameEnd s (.returned v) u (Jvm.fieldLocs frame_1_writes args s ++ Jvm.arrayLocs frame_1_arrays args s ++ Jvm.staticLocs frame_1_statics s) 16 128 → Post tb e args s (.returned v) u) :
    ArmFor flags0 classFile x code maxLocals ret World_1 tables_1 room_1 Calls_1 rest_1 Pre_1 Post := by
  intro l hfl _ _ p e ha hc hk s m args below hf hA hF happ hP
  obtain ⟨hcalls, hrest, hpre⟩ := hP
  obtain ⟨-, -, -, hnamed, -, -, -, hat⟩ := (Spec.applies_iff hf).mp happ
  obtain ⟨hg, hn⟩ := and_e (Cond.before_iff.mp (show (Jvm.Cond.and given_1 narrow_1).before args s = true from hpre))
  obtain ⟨hg_a, hg_b⟩ := and_e hg
  obtain ⟨hg_b_a, hg_b_b⟩ := and_e hg_b
  obtain ⟨hg_b_b_a, hg_b_b_b⟩ := and_e hg_b_b
  obtain ⟨hg_b_b_b_a, hg_b_b_b_b⟩ := and_e hg_b_b_b
  obtain ⟨u0, u1, u2, u3, rfl⟩ : ∃ u0 u1 u2 u3 : Value, args = #[u0, u1, u2, u3] := by
    have hs : args.size = 4 := by simpa [Cond.value, given_1] using hg_a
    obtain ⟨L⟩ := args
    match L, hs with
    | [u0, u1, u2, u3], _ => exact ⟨u0, u1, u2, u3, rfl⟩
  have hw := fun d (hd : d ∈ tables_1) => atoms_spec (ws := Jvm.Cond.code x code maxLocals ret :: tables_1) hat d (List.mem_cons_of_mem _ hd)
  have hfit : Fit s := fun {y c} hc i hi => by
    obtain ⟨ha, rfl⟩ := Array.getElem?_eq_some_iff.mp hc
    have q := List.all_eq_true.mp ((Array.all_eq_true_iff_forall_mem.mp hF) _ (Array.getElem_mem ha)) i (List.mem_range.mpr hi)
    simpa [Array.getElem?_eq_getElem hi] using q
  obtain ⟨i0, ei0⟩ := is_v hg_b_a
  obtain rfl : u0 = (.int i0) := Option.some.inj ei0
  obtain ⟨i1, ei1⟩ := isL_v hg_b_b_a
  obtain rfl : u1 = (.long i1) := Option.some.inj ei1
  obtain ⟨i2, ei2⟩ := isL_v hg_b_b_b_a
  obtain rfl : u2 = (.long i2) := Option.some.inj ei2
  obtain ⟨i3, ei3⟩ := isL_v hg_b_b_b_b
  obtain rfl : u3 = (.long i3) := Option.some.inj ei3
  obtain ⟨hn_a, hn_b⟩ := and_e hn
  obtain ⟨hn_b_a, hn_b_b⟩ := and_e hn_b
  obtain ⟨w0, ev0⟩ := exa_v hn_a
  obtain ⟨w1, ev1⟩ := exa_v hn_b_a
  obtain ⟨w2, ev2⟩ := exa_v hn_b_b
  have wd : Wd s (fun i => ([w0, w1, w2] : List Addr).getD i 0) := ⟨Sta.start ev0 (Or.inr ⟨(hw _ (List.mem_of_getElem? (i := 2) rfl)), (hw _ (List.mem_of_getElem? (i := 3) rfl))⟩), Exa.start ev0 hn_a, Sta.start ev1 (Or.inr ⟨(hw _ (List.mem_of_getElem? (i := 2) rfl)), (hw _ (List.mem_of_getElem? (i := 38) rfl))⟩), Exa.start ev1 hn_b_a, Sta.start ev2 (Or.inr ⟨(hw _ (List.mem_of_getElem? (i := 2) rfl)), (hw _ (List.mem_of_getElem? (i := 41) rfl))⟩), Exa.start ev2 hn_b_b⟩
  obtain ⟨n, o, h1, h2, h3, _, L, rfl, ⟨rfl, N⟩, hq⟩ := rm0 l s _ hw tables_1 i0 i1 i2 i3 (fun i => ([w0, w1, w2] : List Addr).getD i 0) s.heap s.heap.size (Nat.le_refl _) (Old.start s) wd p e ha hc hk s m _ below hf ((Spec.applies_iff_loose hf).mp happ).1 ⟨rfl, State.Warmed39.refl s, rfl⟩ trivial
  refine ⟨n, _, h1, h2, h3, hpost _ _ _ _ _ _ ⟨Cond.after_iff.mpr rfl, Cond.after_iff.mpr (eq_i res_at (Term.int_eval (1)) rfl), trivial⟩ ⟨hq.1, hq.2.1, (hq.2.2.sift fun y hy => Or.inr (N y hy)).mono (by decide) (by decide)⟩⟩
theorem main_1_1 : Claimed_1_1 := comes_1 fun _ _ _ _ _ _ h hF => ⟨h.1, hF⟩
theorem main_1_2 : Claimed_1_2 := comes_1 fun _ _ _ _ _ _ h hF => ⟨h.2.1, hF⟩
end Jvm.Pilot.@@N@@
namespace Jvm.Pilot.@@N@@
open Jvm Jvm.ClassFile Sem Op Lib Jvm.Free Jvm.Stand Jvm.Pilot.@@N@@.Jvm.D
/-! MADE BY PROGRAM (witnessworld.py) out of the Statement's table words and the real class files: 16 classes; the members and pool entries that the words name. The judged class is class 1, her method 1. -/
namespace start1
open Jvm.ClassFile
def u (s : String) : CpInfo := .utf8 (stringToUtf16 s)
/-- a pool by its gaps: so many unusable entries, then the entry; so many at the end -/
def gap : Nat → List CpInfo → List CpInfo
  | 0, r => r
  | n + 1, r => .unusable :: gap n r
def poolList (es : List (Nat × CpInfo)) (last : Nat) : List CpInfo := es.foldr (fun e r => gap e.1 (e.2 :: r)) (gap last [])
def pool (es : List (Nat × CpInfo)) (last : Nat) : Array CpInfo := ⟨poolList es last⟩
def fileOf (pool : Array CpInfo) (this : Nat) (attrs : Array Attribute := #[]) (ms : Array MethodInfo := #[]) (fl : Nat := 33) (sup : Nat := 0) (ifs : Array Nat := #[]) (fds : Array FieldInfo := #[]) : ClassFile where
  minorVersion := 0
  majorVersion := 65
  constantPool := pool
  accessFlags := fl
  thisClass := this
  superClass := sup
  interfaces := ifs
  fields := fds
  methods := ms
  attributes := attrs
def plain (name : String) (sup : Option ClassId) : Class where
  name := name
  kind := .ordinary
  loader := none
  accessFlags := 33
  super := sup
  interfaces := #[]
  cf := none
  fields := #[]
  methods := #[]
  instanceTypes := #[]
  staticTypes := #[]
  resolved := #[]
  callSites := []
  init := .initialized
  statics := none
  mirror := none

def pool0 : Array CpInfo := pool [(5, u "<init>"), (0, u "()V"), (1, .class_ 10), (1, u "java/lang/Object")] 113

def k0c0 : Code := { maxStack := 0, maxLocals := 1, code := object_method_1_code, exceptionTable := #[], attributes := #[] }
def k0m0 : Method := { name := "<init>", desc := "()V", sig := { parameters := [], returnType := none }, accessFlags := 1, code := some k0c0 }
/-- java/lang/Object -/
def k0 : Class := { plain "java/lang/Object" none with
  accessFlags := 33
  interfaces := #[]
  cf := some (fileOf pool0 8 #[] #[{ accessFlags := 1, nameIndex := 5, descriptorIndex := 6, attributes := #[] }] 33 0 #[] #[])
  fields := #[]
  methods := #[k0m0]
  instanceTypes := #[]
  staticTypes := #[]
  resolved := Array.replicate 124 none
  statics := none }

def pool1 : Array CpInfo := pool [(2, .class_ 4), (1, u "java/lang/Object"), (0, u "<init>"), (0, u "()V"), (0, .integer 2147483647), (0, .fieldref 9 10), (0, .class_ 11), (0, .nameAndType 12 13), (0, u "com/example/weir/weir/Algorithm"), (0, u "SLIDING_WINDOW"), (0, u "Lcom/example/weir/weir/Algorithm;"), (0, .fieldref 9 15), (0, .nameAndType 16 13), (0, u "FIXED_WINDOW"), (0, .fieldref 9 18), (0, .nameAndType 19 13), (0, u "TOKEN_BUCKET"), (0, .class_ 21), (0, u "com/example/weir/weir/Settings"), (0, .methodref 20 23), (0, .nameAndType 5 24), (0, u "(Lcom/example/weir/weir/Algorithm;JJJ)V"), (0, .methodref 9 26), (0, .nameAndType 27 28), (0, u "stored"), (0, u "(Lcom/example/weir/weir/Settings;)[J"), (0, .class_ 30), (0, u "com/example/weir/weir/AlgorithmStoredPinLaw"), (2, u "law"), (0, u "(IJJJ)Z")] 5

def k1m0 : Method := { name := "<init>", desc := "()V", sig := { parameters := [], returnType := none }, accessFlags := 2, code := none }
def k1c1 : Code := { maxStack := 9, maxLocals := 11, code := code, exceptionTable := #[], attributes := #[] }
def k1m1 : Method := { name := "law", desc := "(IJJJ)Z", sig := { parameters := [.int, .long, .long, .long], returnType := some .boolean }, accessFlags := 9, code := some k1c1 }
/-- com/example/weir/weir/AlgorithmStoredPinLaw -/
def k1 : Class := { plain "com/example/weir/weir/AlgorithmStoredPinLaw" (some 0) with
  accessFlags := 49
  interfaces := #[]
  cf := some (fileOf pool1 29 #[] #[{ accessFlags := 2, nameIndex := 5, descriptorIndex := 6, attributes := #[] }, { accessFlags := 9, nameIndex := 33, descriptorIndex := 34, attributes := #[] }] 49 2 #[] #[])
  fields := #[]
  methods := #[k1m0, k1m1]
  instanceTypes := #[]
  staticTypes := #[]
  resolved := Array.replicate 40 none
  statics := none }

def pool2 : Array CpInfo := pool [(1, .class_ 2), (0, u "java/lang/constant/Constable"), (0, .class_ 4), (0, u "java/lang/Object")] 6

/-- java/lang/constant/Constable -/
def k2 : Class := { plain "java/lang/constant/Constable" (some 0) with
  accessFlags := 1537
  interfaces := #[]
  cf := some (fileOf pool2 1 #[] #[] 1537 3 #[] #[])
  fields := #[]
  methods := #[]
  instanceTypes := #[]
  staticTypes := #[]
  resolved := Array.replicate 11 none
  statics := none }

def pool3 : Array CpInfo := pool [(1, .class_ 2), (0, u "java/lang/Comparable"), (0, .class_ 4), (0, u "java/lang/Object")] 7

/-- java/lang/Comparable -/
def k3 : Class := { plain "java/lang/Comparable" (some 0) with
  accessFlags := 1537
  interfaces := #[]
  cf := some (fileOf pool3 1 #[] #[] 1537 3 #[] #[])
  fields := #[]
  methods := #[]
  instanceTypes := #[]
  staticTypes := #[]
  resolved := Array.replicate 12 none
  statics := none }

def pool4 : Array CpInfo := pool [(1, .class_ 2), (0, u "java/io/Serializable"), (0, .class_ 4), (0, u "java/lang/Object")] 2

/-- java/io/Serializable -/
def k4 : Class := { plain "java/io/Serializable" (some 0) with
  accessFlags := 1537
  interfaces := #[]
  cf := some (fileOf pool4 1 #[] #[] 1537 3 #[] #[])
  fields := #[]
  methods := #[]
  instanceTypes := #[]
  staticTypes := #[]
  resolved := Array.replicate 7 none
  statics := none }

def pool5 : Array CpInfo := pool [(2, .class_ 4), (1, u "java/lang/Enum"), (0, u "name"), (0, u "Ljava/lang/String;"), (2, u "ordinal"), (0, u "I"), (1, .class_ 14), (1, u "java/lang/Object"), (4, u "hash"), (86, .class_ 108), (1, u "java/lang/Enum$EnumDesc"), (2, .class_ 112), (0, u "java/lang/constant/Constable"), (0, .class_ 114), (0, u "java/lang/Comparable"), (0, .class_ 116), (0, u "java/io/Serializable")] 87

/-- java/lang/Enum -/
def k5 : Class := { plain "java/lang/Enum" (some 0) with
  accessFlags := 1057
  interfaces := #[2, 3, 4]
  cf := some (fileOf pool5 2 #[.nestMembers #[106]] #[] 1057 12 #[111, 113, 115] #[{ accessFlags := 18, nameIndex := 5, descriptorIndex := 6, attributes := #[] }, { accessFlags := 18, nameIndex := 9, descriptorIndex := 10, attributes := #[] }, { accessFlags := 2, nameIndex := 19, descriptorIndex := 10, attributes := #[] }])
  fields := #[{ name := "name", type := (.object "java/lang/String"), accessFlags := 18, slot := 0, constantValue := 0 }, { name := "ordinal", type := .int, accessFlags := 18, slot := 1, constantValue := 0 }, { name := "hash", type := .int, accessFlags := 2, slot := 2, constantValue := 0 }]
  methods := #[]
  instanceTypes := #[(.object "java/lang/String"), .int, .int]
  staticTypes := #[]
  resolved := Array.replicate 204 none
  statics := none }

def pool6 : Array CpInfo := pool [(1, .class_ 2), (0, u "com/example/weir/weir/Algorithm"), (2, u "SLIDING_WINDOW"), (0, u "Lcom/example/weir/weir/Algorithm;"), (2, u "FIXED_WINDOW"), (2, u "TOKEN_BUCKET"), (2, u "$VALUES"), (0, u "[Lcom/example/weir/weir/Algorithm;"), (6, .class_ 25), (1, u "java/lang/Enum"), (8, u "storedName"), (0, u "Ljava/lang/String;"), (2, u "title"), (2, u "fields"), (0, u "Ljava/util/List;"), (2, u "script"), (2, u "stateKeys"), (0, .class_ 50), (0, u "com/example/weir/weir/Settings"), (3, .methodref 49 55), (0, .nameAndType 56 57), (0, u "rate"), (0, u "()J"), (0, .methodref 49 59), (0, .nameAndType 60 57), (0, u "intervalMillis"), (8, .class_ 70), (0, u "com/example/weir/weir/Algorithm$1"), (23, .class_ 95), (0, u "com/example/weir/weir/Algorithm$2"), (13, .class_ 110), (0, u "com/example/weir/weir/Algorithm$3"), (33, u "stored"), (0, u "(Lcom/example/weir/weir/Settings;)[J")] 35

def k6c0 : Code := { maxStack := 5, maxLocals := 2, code := prog_1_method_5_code, exceptionTable := #[], attributes := #[] }
def k6m0 : Method := { name := "stored", desc := "(Lcom/example/weir/weir/Settings;)[J", sig := { parameters := [(.object "com/example/weir/weir/Settings")], returnType := some (.array .long) }, accessFlags := 0, code := some k6c0 }
/-- com/example/weir/weir/Algorithm -/
def k6 : Class := { plain "com/example/weir/weir/Algorithm" (some 5) with
  accessFlags := 17440
  interfaces := #[]
  cf := some (fileOf pool6 1 #[.nestMembers #[109, 94, 69]] #[{ accessFlags := 0, nameIndex := 144, descriptorIndex := 145, attributes := #[] }] 17440 23 #[] #[{ accessFlags := 16409, nameIndex := 5, descriptorIndex := 6, attributes := #[] }, { accessFlags := 16409, nameIndex := 9, descriptorIndex := 6, attributes := #[] }, { accessFlags := 16409, nameIndex := 12, descriptorIndex := 6, attributes := #[] }, { accessFlags := 18, nameIndex := 34, descriptorIndex := 35, attributes := #[] }, { accessFlags := 18, nameIndex := 38, descriptorIndex := 35, attributes := #[] }, { accessFlags := 18, nameIndex := 41, descriptorIndex := 42, attributes := #[] }, { accessFlags := 18, nameIndex := 45, descriptorIndex := 35, attributes := #[] }, { accessFlags := 18, nameIndex := 48, descriptorIndex := 42, attributes := #[] }, { accessFlags := 4122, nameIndex := 15, descriptorIndex := 16, attributes := #[] }])
  fields := #[{ name := "SLIDING_WINDOW", type := (.object "com/example/weir/weir/Algorithm"), accessFlags := 16409, slot := 0, constantValue := 0 }, { name := "FIXED_WINDOW", type := (.object "com/example/weir/weir/Algorithm"), accessFlags := 16409, slot := 1, constantValue := 0 }, { name := "TOKEN_BUCKET", type := (.object "com/example/weir/weir/Algorithm"), accessFlags := 16409, slot := 2, constantValue := 0 }, { name := "storedName", type := (.object "java/lang/String"), accessFlags := 18, slot := 3, constantValue := 0 }, { name := "title", type := (.object "java/lang/String"), accessFlags := 18, slot := 4, constantValue := 0 }, { name := "fields", type := (.object "java/util/List"), accessFlags := 18, slot := 5, constantValue := 0 }, { name := "script", type := (.object "java/lang/String"), accessFlags := 18, slot := 6, constantValue := 0 }, { name := "stateKeys", type := (.object "java/util/List"), accessFlags := 18, slot := 7, constantValue := 0 }, { name := "$VALUES", type := (.array (.object "com/example/weir/weir/Algorithm")), accessFlags := 4122, slot := 3, constantValue := 0 }]
  methods := #[k6m0]
  instanceTypes := #[(.object "java/lang/String"), .int, .int, (.object "java/lang/String"), (.object "java/lang/String"), (.object "java/util/List"), (.object "java/lang/String"), (.object "java/util/List")]
  staticTypes := #[(.object "com/example/weir/weir/Algorithm"), (.object "com/example/weir/weir/Algorithm"), (.object "com/example/weir/weir/Algorithm"), (.array (.object "com/example/weir/weir/Algorithm"))]
  resolved := Array.replicate 181 none
  statics := some 0 }

def pool7 : Array CpInfo := pool [(1, .methodref 2 3), (0, .class_ 4), (0, .nameAndType 5 6), (0, u "java/lang/Object"), (0, u "<init>"), (0, u "()V"), (0, .fieldref 8 9), (0, .class_ 10), (0, .nameAndType 11 12), (0, u "com/example/weir/weir/Settings"), (0, u "algorithm"), (0, u "Lcom/example/weir/weir/Algorithm;"), (0, .fieldref 8 14), (0, .nameAndType 15 16), (0, u "capacity"), (0, u "J"), (0, .fieldref 8 18), (0, .nameAndType 19 16), (0, u "rate"), (0, .fieldref 8 21), (0, .nameAndType 22 16), (0, u "intervalMillis"), (27, u "(Lcom/example/weir/weir/Algorithm;JJJ)V"), (55, u "()J")] 82

def k7c0 : Code := { maxStack := 3, maxLocals := 8, code := prog_17_method_1_code, exceptionTable := #[], attributes := #[] }
def k7m0 : Method := { name := "<init>", desc := "(Lcom/example/weir/weir/Algorithm;JJJ)V", sig := { parameters := [(.object "com/example/weir/weir/Algorithm"), .long, .long, .long], returnType := none }, accessFlags := 0, code := some k7c0 }
def k7c1 : Code := { maxStack := 2, maxLocals := 1, code := prog_17_method_8_code, exceptionTable := #[], attributes := #[] }
def k7m1 : Method := { name := "capacity", desc := "()J", sig := { parameters := [], returnType := some .long }, accessFlags := 1, code := some k7c1 }
def k7c2 : Code := { maxStack := 2, maxLocals := 1, code := prog_17_method_9_code, exceptionTable := #[], attributes := #[] }
def k7m2 : Method := { name := "rate", desc := "()J", sig := { parameters := [], returnType := some .long }, accessFlags := 1, code := some k7c2 }
def k7c3 : Code := { maxStack := 2, maxLocals := 1, code := prog_17_method_11_code, exceptionTable := #[], attributes := #[] }
def k7m3 : Method := { name := "intervalMillis", desc := "()J", sig := { parameters := [], returnType := some .long }, accessFlags := 0, code := some k7c3 }
/-- com/example/weir/weir/Settings -/
def k7 : Class := { plain "com/example/weir/weir/Settings" (some 0) with
  accessFlags := 33
  interfaces := #[]
  cf := some (fileOf pool7 8 #[] #[{ accessFlags := 0, nameIndex := 5, descriptorIndex := 50, attributes := #[] }, { accessFlags := 1, nameIndex := 15, descriptorIndex := 106, attributes := #[] }, { accessFlags := 1, nameIndex := 19, descriptorIndex := 106, attributes := #[] }, { accessFlags := 0, nameIndex := 22, descriptorIndex := 106, attributes := #[] }] 33 2 #[] #[{ accessFlags := 18, nameIndex := 11, descriptorIndex := 12, attributes := #[] }, { accessFlags := 18, nameIndex := 15, descriptorIndex := 16, attributes := #[] }, { accessFlags := 18, nameIndex := 19, descriptorIndex := 16, attributes := #[] }, { accessFlags := 18, nameIndex := 22, descriptorIndex := 16, attributes := #[] }])
  fields := #[{ name := "algorithm", type := (.object "com/example/weir/weir/Algorithm"), accessFlags := 18, slot := 0, constantValue := 0 }, { name := "capacity", type := .long, accessFlags := 18, slot := 1, constantValue := 0 }, { name := "rate", type := .long, accessFlags := 18, slot := 2, constantValue := 0 }, { name := "intervalMillis", type := .long, accessFlags := 18, slot := 3, constantValue := 0 }]
  methods := #[k7m0, k7m1, k7m2, k7m3]
  instanceTypes := #[(.object "com/example/weir/weir/Algorithm"), .long, .long, .long]
  staticTypes := #[]
  resolved := Array.replicate 189 none
  statics := none }

def pool8 : Array CpInfo := pool [(2, .class_ 4), (1, u "com/example/weir/weir/Algorithm"), (13, .class_ 19), (0, u "com/example/weir/weir/Algorithm$1")] 12

/-- com/example/weir/weir/Algorithm$1 -/
def k8 : Class := { plain "com/example/weir/weir/Algorithm$1" (some 6) with
  accessFlags := 16432
  interfaces := #[]
  cf := some (fileOf pool8 18 #[.nestHost 2] #[] 16432 2 #[] #[])
  fields := #[]
  methods := #[]
  instanceTypes := #[(.object "java/lang/String"), .int, .int, (.object "java/lang/String"), (.object "java/lang/String"), (.object "java/util/List"), (.object "java/lang/String"), (.object "java/util/List")]
  staticTypes := #[]
  resolved := Array.replicate 32 none
  statics := none }

def pool9 : Array CpInfo := pool [(2, .class_ 4), (1, u "com/example/weir/weir/Algorithm"), (13, .class_ 19), (0, u "com/example/weir/weir/Algorithm$2")] 12

/-- com/example/weir/weir/Algorithm$2 -/
def k9 : Class := { plain "com/example/weir/weir/Algorithm$2" (some 6) with
  accessFlags := 16432
  interfaces := #[]
  cf := some (fileOf pool9 18 #[.nestHost 2] #[] 16432 2 #[] #[])
  fields := #[]
  methods := #[]
  instanceTypes := #[(.object "java/lang/String"), .int, .int, (.object "java/lang/String"), (.object "java/lang/String"), (.object "java/util/List"), (.object "java/lang/String"), (.object "java/util/List")]
  staticTypes := #[]
  resolved := Array.replicate 32 none
  statics := none }

def pool10 : Array CpInfo := pool [(2, .class_ 4), (1, u "com/example/weir/weir/Algorithm"), (2, .class_ 8), (0, u "com/example/weir/weir/Settings"), (3, .methodref 7 13), (0, .nameAndType 14 15), (0, u "capacity"), (0, u "()J"), (0, .methodref 7 17), (0, .nameAndType 18 15), (0, u "rate"), (0, .methodref 7 20), (0, .nameAndType 21 15), (0, u "intervalMillis"), (19, .class_ 42), (0, u "com/example/weir/weir/Algorithm$3"), (5, u "stored"), (0, u "(Lcom/example/weir/weir/Settings;)[J")] 29

def k10c0 : Code := { maxStack := 5, maxLocals := 2, code := prog_4_method_3_code, exceptionTable := #[], attributes := #[] }
def k10m0 : Method := { name := "stored", desc := "(Lcom/example/weir/weir/Settings;)[J", sig := { parameters := [(.object "com/example/weir/weir/Settings")], returnType := some (.array .long) }, accessFlags := 0, code := some k10c0 }
/-- com/example/weir/weir/Algorithm$3 -/
def k10 : Class := { plain "com/example/weir/weir/Algorithm$3" (some 6) with
  accessFlags := 16432
  interfaces := #[]
  cf := some (fileOf pool10 41 #[.nestHost 2] #[{ accessFlags := 0, nameIndex := 48, descriptorIndex := 49, attributes := #[] }] 16432 2 #[] #[])
  fields := #[]
  methods := #[k10m0]
  instanceTypes := #[(.object "java/lang/String"), .int, .int, (.object "java/lang/String"), (.object "java/lang/String"), (.object "java/util/List"), (.object "java/lang/String"), (.object "java/util/List")]
  staticTypes := #[]
  resolved := Array.replicate 79 none
  statics := none }

def pool11 : Array CpInfo := pool [(1, u "java/lang/Cloneable"), (0, .class_ 1), (0, u "java/lang/Object"), (0, .class_ 3)] 3

/-- java/lang/Cloneable -/
def k11 : Class := { plain "java/lang/Cloneable" (some 0) with
  accessFlags := 1537
  interfaces := #[]
  cf := some (fileOf pool11 2 #[] #[] 1537 4 #[] #[])
  fields := #[]
  methods := #[]
  instanceTypes := #[]
  staticTypes := #[]
  resolved := Array.replicate 8 none
  statics := none }

/-- the primitive byte -/
def k12 : Class := { plain "byte" none with kind := .primitive 'B', accessFlags := 0x411 }
/-- [B -/
def k13 : Class := { plain "[B" (some 0) with kind := .array 12 .byte, interfaces := #[11, 4], accessFlags := 1041 }

/-- the primitive long -/
def k14 : Class := { plain "long" none with kind := .primitive 'J', accessFlags := 0x411 }
/-- [J -/
def k15 : Class := { plain "[J" (some 0) with kind := .array 14 .long, interfaces := #[11, 4], accessFlags := 1041 }

def heap : Heap := #[{ cls := 6, slots := #[.ref 1, .ref 2, .ref 3, .null], vm := .statics 6 },
  { cls := 8, slots := #[.null, .int 0, .int 0, .null, .null, .null, .null, .null], vm := .none },
  { cls := 9, slots := #[.null, .int 1, .int 0, .null, .null, .null, .null, .null], vm := .none },
  { cls := 10, slots := #[.null, .int 2, .int 0, .null, .null, .null, .null, .null], vm := .none }]
def classes : Array Class := #[k0, k1, k2, k3, k4, k5, k6, k7, k8, k9, k10, k11, k12, k13, k14, k15]
def interned : List (Array UInt16 × Addr) := []
def slotsUsed : Nat := 28
def theMethod : MethodId := ⟨1, 1⟩
def args0 : Array Value := #[.int 5, .long 5, .long 5, .long 5]
def aboutOver (below : List Frame) : State where
  vm := { classes := classes, interned := interned.toArray }
  heap := heap
  slotsUsed := slotsUsed
  threads := #[{ frames := .invoking theMethod args0 :: below }]
def below0 : List Frame := [.native { method := ⟨0, 0⟩, args := #[] }]
def about1 : State := aboutOver below0
def p0 : Program := .bare "" "" ""
def e0 : Env := launch0.env 0 0 0
theorem w_frames : about1.frames = Frame.invoking theMethod args0 :: below0 := rfl
set_option maxRecDepth 65536 in
theorem w_args : argsFit about1.vm theMethod args0 = true := by decide +kernel
set_option maxRecDepth 65536 in
theorem w_heap : heapFits about1 = true := by decide +kernel
set_option maxRecDepth 65536 in
theorem w_runnable : about1.curStatus? = some .runnable := by decide +kernel
set_option maxRecDepth 65536 in
theorem w_alone : about1.alone = true := by decide +kernel
set_option maxRecDepth 65536 in
theorem w_named : about1.methodNamed? x = some theMethod := by decide +kernel
set_option maxRecDepth 65536 in
theorem w_hears : about1.hears theMethod below0 = true := by decide +kernel
set_option maxRecDepth 65536 in
theorem w_ripe : about1.ripe theMethod args0 below0 = true := by decide +kernel
theorem w_running : about1.status = .running := rfl
set_option maxRecDepth 65536 in
theorem w_room : about1.hasRoom e0.platform room_1 = true :=
  launch0.hasRoom_least _ room_1 (by decide +kernel) (by decide +kernel) (by decide +kernel) (by decide +kernel) (by decide +kernel) (by decide +kernel)
theorem allAtoms_all (ts : List Jvm.Cond) (a : Array Jvm.Value) (st : Jvm.State) : (allAtoms ts).before a st = ts.all (fun c => c.before a st) := by
  induction ts with
  | nil => rfl
  | cons c t ih =>
    show (Jvm.Cond.and c (allAtoms t)).before a st = _
    rw [Jvm.Cond.before_and, ih, List.all_cons]
def words1 : List Jvm.Cond := Jvm.Cond.code x code maxLocals ret :: tables_1
/-- a 'code' word, met by the world's own term for the bytes: nothing is compared byte by byte -/
theorem code_word {y : MethodName} {bytes : ByteArray} {mx : Nat} {rt : Option FieldType} {a : Array Value} {s : State} {m : MethodId} {meth : Method} {c : Code} (h1 : s.methodNamed? y = some m) (h2 : s.vm.method? m = some meth) (h3 : meth.code = some c) (h4 : c.code = bytes)
    (h5 : (c.maxLocals == mx && c.exceptionTable.isEmpty && decide (c.maxStack ≤ mostOperands) && decide (meth.sig.returnType = rt) && !meth.locks && decide (parseMethodDescriptor y.desc = some meth.sig)) = true) : (Jvm.Cond.code y bytes mx rt).before a s = true := by
  simp only [Bool.and_eq_true, beq_iff_eq, Bool.not_eq_true', decide_eq_true_eq] at h5
  obtain ⟨⟨⟨⟨⟨g1, g2⟩, g3⟩, g4⟩, g5⟩, g6⟩ := h5
  simp [Cond.before, Cond.holds, Cond.value, h1, h2, h3, h4, g1, g2, g3, g4, g5, g6]
def isCode : Jvm.Cond → Bool
  | .code _ _ _ _ => true
  | _ => false
theorem all_split {L : List Jvm.Cond} {P : Jvm.Cond → Bool} (h1 : L.all (fun c => isCode c || P c) = true) (h2 : ∀ c ∈ L.filter isCode, P c = true) : L.all P = true := by
  refine List.all_eq_true.mpr fun c hc => ?_
  have h := List.all_eq_true.mp h1 c hc
  rcases Bool.eq_false_or_eq_true (isCode c) with hi | hi
  · exact h2 c (List.mem_filter.mpr ⟨hc, hi⟩)
  · simpa [hi] using h
set_option maxRecDepth 65536 in
theorem w_c0 : (Jvm.Cond.code x code maxLocals ret).before args0 about1 = true := code_word (m := ⟨1, 1⟩) (meth := k1m1) (c := k1c1) (by decide +kernel) rfl rfl rfl (by decide +kernel)
set_option maxRecDepth 65536 in
theorem w_c1 : (Jvm.Cond.code ({ cls := "com/example/weir/weir/Settings", name := "<init>", desc := "(Lcom/example/weir/weir/Algorithm;JJJ)V" } : Jvm.MethodName) prog_17_method_1_code (8 : Nat) (Option.none : Option Jvm.ClassFile.FieldType)).before args0 about1 = true := code_word (m := ⟨7, 0⟩) (meth := k7m0) (c := k7c0) (by decide +kernel) rfl rfl rfl (by decide +kernel)
set_option maxRecDepth 65536 in
theorem w_c2 : (Jvm.Cond.code ({ cls := "java/lang/Object", name := "<init>", desc := "()V" } : Jvm.MethodName) object_method_1_code (1 : Nat) (Option.none : Option Jvm.ClassFile.FieldType)).before args0 about1 = true := code_word (m := ⟨0, 0⟩) (meth := k0m0) (c := k0c0) (by decide +kernel) rfl rfl rfl (by decide +kernel)
set_option maxRecDepth 65536 in
theorem w_c3 : (Jvm.Cond.code ({ cls := "com/example/weir/weir/Algorithm", name := "stored", desc := "(Lcom/example/weir/weir/Settings;)[J" } : Jvm.MethodName) prog_1_method_5_code (2 : Nat) (Option.some (Jvm.ClassFile.FieldType.array Jvm.ClassFile.FieldType.long))).before args0 about1 = true := code_word (m := ⟨6, 0⟩) (meth := k6m0) (c := k6c0) (by decide +kernel) rfl rfl rfl (by decide +kernel)
set_option maxRecDepth 65536 in
theorem w_c4 : (Jvm.Cond.code ({ cls := "com/example/weir/weir/Settings", name := "rate", desc := "()J" } : Jvm.MethodName) prog_17_method_9_code (1 : Nat) (Option.some Jvm.ClassFile.FieldType.long)).before args0 about1 = true := code_word (m := ⟨7, 2⟩) (meth := k7m2) (c := k7c2) (by decide +kernel) rfl rfl rfl (by decide +kernel)
set_option maxRecDepth 65536 in
theorem w_c5 : (Jvm.Cond.code ({ cls := "com/example/weir/weir/Settings", name := "intervalMillis", desc := "()J" } : Jvm.MethodName) prog_17_method_11_code (1 : Nat) (Option.some Jvm.ClassFile.FieldType.long)).before args0 about1 = true := code_word (m := ⟨7, 3⟩) (meth := k7m3) (c := k7c3) (by decide +kernel) rfl rfl rfl (by decide +kernel)
set_option maxRecDepth 65536 in
theorem w_c6 : (Jvm.Cond.code ({ cls := "com/example/weir/weir/Algorithm$3", name := "stored", desc := "(Lcom/example/weir/weir/Settings;)[J" } : Jvm.MethodName) prog_4_method_3_code (2 : Nat) (Option.some (Jvm.ClassFile.FieldType.array Jvm.ClassFile.FieldType.long))).before args0 about1 = true := code_word (m := ⟨10, 0⟩) (meth := k10m0) (c := k10c0) (by decide +kernel) rfl rfl rfl (by decide +kernel)
set_option maxRecDepth 65536 in
theorem w_c7 : (Jvm.Cond.code ({ cls := "com/example/weir/weir/Settings", name := "capacity", desc := "()J" } : Jvm.MethodName) prog_17_method_8_code (1 : Nat) (Option.some Jvm.ClassFile.FieldType.long)).before args0 about1 = true := code_word (m := ⟨7, 1⟩) (meth := k7m1) (c := k7c1) (by decide +kernel) rfl rfl rfl (by decide +kernel)
def codes1 : List Jvm.Cond := [Jvm.Cond.code x code maxLocals ret, Jvm.Cond.code ({ cls := "com/example/weir/weir/Settings", name := "<init>", desc := "(Lcom/example/weir/weir/Algorithm;JJJ)V" } : Jvm.MethodName) prog_17_method_1_code (8 : Nat) (Option.none : Option Jvm.ClassFile.FieldType), Jvm.Cond.code ({ cls := "java/lang/Object", name := "<init>", desc := "()V" } : Jvm.MethodName) object_method_1_code (1 : Nat) (Option.none : Option Jvm.ClassFile.FieldType), Jvm.Cond.code ({ cls := "com/example/weir/weir/Algorithm", name := "stored", desc := "(Lcom/example/weir/weir/Settings;)[J" } : Jvm.MethodName) prog_1_method_5_code (2 : Nat) (Option.some (Jvm.ClassFile.FieldType.array Jvm.ClassFile.FieldType.long)), Jvm.Cond.code ({ cls := "com/example/weir/weir/Settings", name := "rate", desc := "()J" } : Jvm.MethodName) prog_17_method_9_code (1 : Nat) (Option.some Jvm.ClassFile.FieldType.long), Jvm.Cond.code ({ cls := "com/example/weir/weir/Settings", name := "intervalMillis", desc := "()J" } : Jvm.MethodName) prog_17_method_11_code (1 : Nat) (Option.some Jvm.ClassFile.FieldType.long), Jvm.Cond.code ({ cls := "com/example/weir/weir/Algorithm$3", name := "stored", desc := "(Lcom/example/weir/weir/Settings;)[J" } : Jvm.MethodName) prog_4_method_3_code (2 : Nat) (Option.some (Jvm.ClassFile.FieldType.array Jvm.ClassFile.FieldType.long)), Jvm.Cond.code ({ cls := "com/example/weir/weir/Settings", name := "capacity", desc := "()J" } : Jvm.MethodName) prog_17_method_8_code (1 : Nat) (Option.some Jvm.ClassFile.FieldType.long)]
set_option maxRecDepth 65536 in
theorem codes_eq : words1.filter isCode = codes1 := rfl
theorem w_codes : ∀ c ∈ words1.filter isCode, c.before args0 about1 = true := by
  rw [codes_eq]
  intro c hc
  simp only [codes1, List.mem_cons, List.not_mem_nil, or_false] at hc
  rcases hc with rfl | rfl | rfl | rfl | rfl | rfl | rfl | rfl
  · exact w_c0
  · exact w_c1
  · exact w_c2
  · exact w_c3
  · exact w_c4
  · exact w_c5
  · exact w_c6
  · exact w_c7
set_option maxRecDepth 65536 in
theorem w_t1 : (words1.take 24).all (fun c => isCode c || c.before args0 about1) = true := by decide +kernel
set_option maxRecDepth 65536 in
theorem w_t2 : ((words1.drop 24).take 24).all (fun c => isCode c || c.before args0 about1) = true := by decide +kernel
set_option maxRecDepth 65536 in
theorem w_t3 : ((words1.drop 24).drop 24).all (fun c => isCode c || c.before args0 about1) = true := by decide +kernel
theorem w_tables : (allAtoms (Jvm.Cond.code x code maxLocals ret :: tables_1)).before args0 about1 = true := by
  rw [allAtoms_all]
  show words1.all (fun c => c.before args0 about1) = true
  refine all_split ?_ w_codes
  rw [← List.take_append_drop 24 words1, List.all_append, w_t1, ← List.take_append_drop 24 (words1.drop 24), List.all_append, w_t2, w_t3]
  rfl
set_option maxRecDepth 65536 in
theorem w_case : (Jvm.Cond.and given_1 narrow_1).before args0 about1 = true := by decide +kernel
theorem w_applies : (headSpec (Jvm.Cond.code x code maxLocals ret :: tables_1) room_1).applies x e0.platform about1 = true :=
  (Spec.applies_iff w_frames).mpr ⟨w_running, w_runnable, w_alone, w_named, w_hears, w_ripe, w_room, w_tables⟩
theorem atStart : AtStart classFile x code maxLocals ret World_1 tables_1 room_1 Calls_1 rest_1 Pre_1 launch0 p0 e0 about1 theMethod args0 below0 :=
  ⟨lists_1, trivial, launch0.admits_env _ _ _, launch0.least_env, fairChoices_fair.cas, fairChoices_fair.clock, w_frames, w_args, w_heap, w_applies, trivial, trivial, w_case⟩
end start1
theorem witness_1 : WitnessClaimed_1 := ⟨start1.p0, start1.e0, start1.about1, start1.theMethod, start1.args0, start1.below0, start1.atStart⟩
end Jvm.Pilot.@@N@@
