import JvmDerived
import JvmDerived.Pilot.@@N@@Statement
import JvmDerived.Pilot.@@N@@Code
set_option linter.unusedVariables false
set_option linter.unusedSimpArgs false
namespace Jvm.Pilot.@@N@@
open Jvm Jvm.ClassFile Sem Op Lib Jvm.Free Jvm.Stand Jvm.LawKit Jvm.RoadKit Bundle Jvm.Pilot.@@N@@.Jvm.D
/-- the walk from here on: it comes to an end that meets R -/
def Go (tb : Tables) (e : Env) (below : List Frame) (R : Outcome → State → Prop) (T : State) (g : JFrame) : Prop :=
  ∃ s₂ o, Steps tb e below (T.setTop g) s₂ ∧ s₂.status = .running ∧ Ended s₂ below o ∧ R o s₂
def RT (Q : Option Value → Heap → List Loc → Prop) (s : State) (C S : Nat) : Outcome → State → Prop :=
  fun o U' => ∃ v L, o = .returned v ∧ Q v U'.heap L ∧ FrameEnd s o U' L C S
theorem Go.step {tb : Tables} {e : Env} {below : List Frame} {R : Outcome → State → Prop} {T T' : State} {g g' : JFrame} (h : ∀ t, Steps tb e below (T'.setTop g') t → Steps tb e below (T.setTop g) t) (k : Go tb e below R T' g') : Go tb e below R T g := by
  obtain ⟨s₂, o, h1, h2⟩ := k
  exact ⟨s₂, o, h _ h1, h2⟩
theorem Go.tr {tb : Tables} {e : Env} {below : List Frame} {R : Outcome → State → Prop} {T T' : State} {g g' : JFrame} (h : Steps tb e below (T.setTop g) (T'.setTop g')) (k : Go tb e below R T' g') : Go tb e below R T g :=
  Go.step (fun _ q => h.trans q) k
theorem Go.enter {tb : Tables} {e : Env} {below : List Frame} {Q : Option Value → Heap → List Loc → Prop} {s : State} {C S : Nat} {T : State} {g g' : JFrame} (q : g = g') (k : Go tb e below (RT Q s C S) T g') :
    ∃ s₂ o, Steps tb e below (T.setTop g) s₂ ∧ s₂.status = .running ∧ Ended s₂ below o ∧ ∃ v L, o = .returned v ∧ Q v s₂.heap L ∧ FrameEnd s o s₂ L C S := by
  subst q
  exact k
section Ret
variable {p : Program} {l : Launch} {e : Env} {R : Room} {s : State} {m : MethodId} {args : Array Value} {below : List Frame} {meth : Method} {c : Code} {T : State} {locs : List Loc} {cells slots : Nat} {Q : Option Value → Heap → List Loc → Prop} {C S : Nat} {pc : Nat} {Ls : Array Slot} {rest : List Value}
theorem Go.fin (X : Stand p l e R s m args below meth c T locs cells slots) {v : Option Value} {g : JFrame} (hv : meth.sig.returnType = none → v = none) (hlk : meth.locks = false)
    (hst : ∀ fs, (∀ (f : JFrame) (acts : List Action), f.method = m → f.locked = none → f.entered = [] → (doReturn e (T.setTop f) acts v).1 = T.setFrames fs) → Steps p.tables e below (T.setTop g) (T.setFrames fs))
    (hQ : Q v T.heap locs) (hc : cells ≤ C) (hs : slots ≤ S) : Go p.tables e below (RT Q s C S) T g := by
  obtain ⟨fs, hr, hrun, hended, hW, hsame⟩ := X.leave hv hlk
  exact ⟨_, _, hst fs hr, hrun, hended, _, _, rfl, hQ, ⟨_, rfl⟩, hW, hsame.mono hc hs⟩
theorem Go.retN (X : Stand p l e R s m args below meth c T locs cells slots) (hx : p.tables.exec = Jvm.exec) {z z' : Int32} {t : FieldType} (hret : meth.sig.returnType = some t) (ht : t = .boolean ∨ t = .byte ∨ t = .char ∨ t = .short) (hd : decode c.code pc = .ok (.ireturn, 1)) (hlk : meth.locks = false) (hz : nar t z = z')
    (hQ : Q (some (.int z')) T.heap locs) (hc : cells ≤ C) (hs : slots ≤ S) : Go p.tables e below (RT Q s C S) T (mkF m pc Ls (.int z :: rest)) := by
  subst hz
  exact Go.fin X (fun h => by rw [hret] at h; cases h) hlk (fun fs hr => Jvm.RoadKit.retN X hx hret ht hd hr) hQ hc hs
theorem Go.retI (X : Stand p l e R s m args below meth c T locs cells slots) (hx : p.tables.exec = Jvm.exec) {z : Int32} (hret : meth.sig.returnType = some .int) (hd : decode c.code pc = .ok (.ireturn, 1)) (hlk : meth.locks = false)
    (hQ : Q (some (.int z)) T.heap locs) (hc : cells ≤ C) (hs : slots ≤ S) : Go p.tables e below (RT Q s C S) T (mkF m pc Ls (.int z :: rest)) := by
  refine Go.fin X (fun h => by rw [hret] at h; cases h) hlk (fun fs hr => ?_) hQ hc hs
  have hm' : T.vm.method? m = some meth := X.method'
  have hn : narrow .int (.int z) = .int z := rfl
  show Steps p.tables e below (T.setTop { method := m, pc := pc, locals := Ls, stack := _ :: rest, locked := none }) _
  jvm_step X.here [X.here.top, hx, hd, hm', hret, hn]
  first | (intro acts; rw [hr _ acts rfl rfl rfl]) | rw [hr _ _ rfl rfl rfl]
  exact Steps.refl _
theorem Go.retJ (X : Stand p l e R s m args below meth c T locs cells slots) (hx : p.tables.exec = Jvm.exec) {z : Int64} (hret : meth.sig.returnType = some .long) (hd : decode c.code pc = .ok (.lreturn, 1)) (hlk : meth.locks = false)
    (hQ : Q (some (.long z)) T.heap locs) (hc : cells ≤ C) (hs : slots ≤ S) : Go p.tables e below (RT Q s C S) T (mkF m pc Ls (.long z :: rest)) := by
  refine Go.fin X (fun h => by rw [hret] at h; cases h) hlk (fun fs hr => ?_) hQ hc hs
  have hm' : T.vm.method? m = some meth := X.method'
  show Steps p.tables e below (T.setTop { method := m, pc := pc, locals := Ls, stack := _ :: rest, locked := none }) _
  jvm_step X.here [X.here.top, hx, hd, hm', hret, narrow]
  first | (intro acts; rw [hr _ acts rfl rfl rfl]) | rw [hr _ _ rfl rfl rfl]
  exact Steps.refl _
theorem Go.retA (X : Stand p l e R s m args below meth c T locs cells slots) (hx : p.tables.exec = Jvm.exec) {z : Value} {t : FieldType} (hret : meth.sig.returnType = some t) (ht : t.isReference = true) (hd : decode c.code pc = .ok (.areturn, 1)) (hz : z.isRef = true) (hlk : meth.locks = false)
    (hQ : Q (some z) T.heap locs) (hc : cells ≤ C) (hs : slots ≤ S) : Go p.tables e below (RT Q s C S) T (mkF m pc Ls (z :: rest)) := by
  refine Go.fin X (fun h => by rw [hret] at h; cases h) hlk (fun fs hr => ?_) hQ hc hs
  have hm' : T.vm.method? m = some meth := X.method'
  show Steps p.tables e below (T.setTop { method := m, pc := pc, locals := Ls, stack := _ :: rest, locked := none }) _
  jvm_step X.here [X.here.top, hx, hd, hm', hret, hz, ht]
  first | (intro acts; rw [hr _ acts rfl rfl rfl]) | rw [hr _ _ rfl rfl rfl]
  exact Steps.refl _
theorem Go.retV (X : Stand p l e R s m args below meth c T locs cells slots) (hx : p.tables.exec = Jvm.exec) (hret : meth.sig.returnType = none) (hd : decode c.code pc = .ok (.return_, 1)) (hlk : meth.locks = false)
    (hQ : Q none T.heap locs) (hc : cells ≤ C) (hs : slots ≤ S) : Go p.tables e below (RT Q s C S) T (mkF m pc Ls []) :=
  Go.fin X (fun _ => rfl) hlk (fun fs hr => X.returnOut hx hret hd hr) hQ hc hs
end Ret
theorem own_and_nonneg (a : Int32) : 0 ≤ (a &&& 2147483647).toInt := by
  have h : (a &&& 2147483647).toBitVec.msb = false := by
    rw [Int32.toBitVec_and, BitVec.msb_and]
    have : (2147483647 : Int32).toBitVec.msb = false := by decide
    rw [this, Bool.and_false]
  show 0 ≤ (a &&& 2147483647).toBitVec.toInt
  rw [BitVec.toInt_eq_msb_cond, h]
  simp
theorem own_mod (a n : Int32) (hn : 0 < n.toInt) : 0 ≤ ((a &&& 2147483647) % n).toInt ∧ ((a &&& 2147483647) % n).toInt < n.toInt := by
  rw [Int32.toInt_mod]
  have h := own_and_nonneg a
  exact ⟨Int.tmod_nonneg _ h, by have := Int.tmod_lt_of_pos (a &&& 2147483647).toInt hn; exact this⟩
theorem own_char (x : Int32) : 0 ≤ (x.toUInt32.toUInt16.toUInt32.toInt32).toInt ∧ (x.toUInt32.toUInt16.toUInt32.toInt32).toInt < 65536 := by
  generalize x.toUInt32.toUInt16 = u
  have h : u.toNat < 65536 := u.toNat_lt
  have : (u.toUInt32.toInt32).toInt = (u.toNat : Int) := by
    show (u.toUInt32.toBitVec).toInt = _
    rw [BitVec.toInt_eq_toNat_of_lt]
    · simp
    · simp; omega
  omega
theorem own_lrem (x y : Int64) : x - x / y * y = x % y := by
  apply Int64.toInt_inj.mp
  rw [Int64.toInt_sub, Int64.toInt_mul, Int64.toInt_div, Int64.toInt_mod, Int.tmod_def, Int.mul_comm y.toInt]
  have hb := Int.bmod_emod (x := x.toInt.tdiv y.toInt) (m := 2 ^ 64)
  rw [Int.sub_bmod_bmod]
  have e : (x.toInt - (x.toInt.tdiv y.toInt).bmod (2 ^ 64) * y.toInt).bmod (2 ^ 64) = (x.toInt - x.toInt.tdiv y.toInt * y.toInt).bmod (2 ^ 64) := by
    rw [← Int.sub_bmod_bmod, Int.bmod_mul_bmod, Int.sub_bmod_bmod]
  rw [e]
  have h := Int64.toInt_mod x y
  have h2 := (x % y).le_toInt
  have h3 := (x % y).toInt_lt
  rw [h, Int.tmod_def, Int.mul_comm y.toInt] at h2 h3
  apply Int.bmod_eq_of_le
  · simpa using h2
  · simpa using h3
theorem own_lremM {p : Program} {l : Launch} {e : Env} {R : Room} {s : State} {m : MethodId} {args : Array Value} {below : List Frame} {meth : Method} {c : Code} {T : State} {locs : List Loc} {cells slots : Nat} {g : JFrame} {target : State} (X : Stand p l e R s m args below meth c T locs cells slots) (hx : p.tables.exec = Jvm.exec) (hg : g.method = m) {x y : Int64} {rest : List Value} (hd : decode c.code g.pc = .ok (.lrem, 1)) (hs : g.stack = .long y :: .long x :: rest) (hy : y ≠ 0)
    (hr : Steps p.tables e below (T.setTop { g with pc := g.pc + 1, stack := .long (x % y) :: rest }) target) : Steps p.tables e below (T.setTop g) target := by
  have q := own_lrem x y
  exact XS.lrem X.here hx hg hd hs hy (by rw [q]; exact hr)
theorem own_selp {s : State} {args : Array Value} {C : String} {y z : MethodName} (hsel : (Cond.selects C z z).before args s = true) (hz : z.cls = y.cls) (hinst : (Cond.instanceMethod y).before args s = true) (hpriv : s.PrivateAt y) (hy : y.cls ≠ "java/lang/invoke/MethodHandle" ∧ y.cls ≠ "java/lang/invoke/VarHandle") : (Cond.selects y.cls y y).before args s = true := by
  obtain ⟨c, r, m, -, -, h3, -, k, h5, h6⟩ := Cond.selects_spec hsel
  exact selects_self_of_private (hz ▸ findClass_of_methodNamed h3) h5 h6 hpriv hinst hy
theorem own_eqi {t : Term} {k : Int32} {args : Array Value} {first : State} {o : Option Outcome} {s : State} {idx : List Nat} (h : (Cond.eq t (.int k)).value args first o s idx = some true) : t.eval args first o idx s = some (.int k) := by
  cases ht : t.eval args first o idx s with
  | none => simp [Cond.value, ht] at h
  | some x => cases x <;> simp [Cond.value, Term.eval, ht] at h ⊢; exact h
theorem own_eqr {t u : Term} {b : Addr} {args : Array Value} {first : State} {o : Option Outcome} {s : State} {idx : List Nat} (h : (Cond.eq t u).value args first o s idx = some true) (hu : u.eval args first o idx s = some (.ref b)) : t.eval args first o idx s = some (.ref b) := by
  cases ht : t.eval args first o idx s with
  | none => simp [Cond.value, ht] at h
  | some x => cases x <;> simp [Cond.value, ht, hu] at h ⊢; exact h
/-- what the case says of the statics -/
def Wd (Z : State) (w : Nat → Addr) : Prop := Sta Z Z.heap "com/example/weir/weir/Algorithm" "TOKEN_BUCKET" "Lcom/example/weir/weir/Algorithm;" (.ref (w 0)) ∧ Exa Z Z.heap (w 0) "com/example/weir/weir/Algorithm$3"
theorem wd0 {Z : State} {w : Nat → Addr} (wd : Wd Z w) : Sta Z Z.heap "com/example/weir/weir/Algorithm" "TOKEN_BUCKET" "Lcom/example/weir/weir/Algorithm;" (.ref (w 0)) := wd.1
theorem wd1 {Z : State} {w : Nat → Addr} (wd : Wd Z w) : Exa Z Z.heap (w 0) "com/example/weir/weir/Algorithm$3" := wd.2
theorem d1_0 : decode prog_16_method_1_code 0 = .ok (.aload_n 0, 1) := by decide +kernel
theorem d1_1 : decode prog_16_method_1_code 1 = .ok (.invokespecial 1, 3) := by decide +kernel
theorem d1_4 : decode prog_16_method_1_code 4 = .ok (.aload_n 0, 1) := by decide +kernel
theorem d1_5 : decode prog_16_method_1_code 5 = .ok (.aload_n 1, 1) := by decide +kernel
theorem d1_6 : decode prog_16_method_1_code 6 = .ok (.putfield 7, 3) := by decide +kernel
theorem d1_9 : decode prog_16_method_1_code 9 = .ok (.aload_n 0, 1) := by decide +kernel
theorem d1_10 : decode prog_16_method_1_code 10 = .ok (.lload_n 2, 1) := by decide +kernel
theorem d1_11 : decode prog_16_method_1_code 11 = .ok (.putfield 13, 3) := by decide +kernel
theorem d1_14 : decode prog_16_method_1_code 14 = .ok (.aload_n 0, 1) := by decide +kernel
theorem d1_15 : decode prog_16_method_1_code 15 = .ok (.lload 4, 2) := by decide +kernel
theorem d1_17 : decode prog_16_method_1_code 17 = .ok (.putfield 17, 3) := by decide +kernel
theorem d1_20 : decode prog_16_method_1_code 20 = .ok (.aload_n 0, 1) := by decide +kernel
theorem d1_21 : decode prog_16_method_1_code 21 = .ok (.lload 6, 2) := by decide +kernel
theorem d1_23 : decode prog_16_method_1_code 23 = .ok (.putfield 20, 3) := by decide +kernel
theorem d1_26 : decode prog_16_method_1_code 26 = .ok (.return_, 1) := by decide +kernel
theorem own_pn0 : plainName "com/example/weir/weir/Settings" = true := by first | (simp [plainName, overriddenIn]; done) | decide +kernel
theorem ef_rm1 (m : MethodId) (x0 : Addr) (x1 : Addr) (x2 : Int64) (x3 : Int64) (x4 : Int64) : entryFrame m #[(.ref x0), (.ref x1), (.long x2), (.long x3), (.long x4)] 8 = mkF m 0 #[.val (.ref x0), .val (.ref x1), .val (.long x2), .second, .val (.long x3), .second, .val (.long x4), .second] [] := by first | (simp [entryFrame, mkF, argsToLocals, Value.category]; done) | rfl
def Q_rm1 (Z : State) (r0 : Addr) (r1 : Addr) (q2 : Int64) (q3 : Int64) (q4 : Int64) (h0 : Heap) (n0 : Nat) (v : Option Value) (h : Heap) (L : List Loc) : Prop := v = none ∧ Fr n0 L ∧ Keep h0 h [r0] ∧ Exa Z h r0 "com/example/weir/weir/Settings" ∧ Fld Z h r0 "com/example/weir/weir/Settings" "algorithm" "Lcom/example/weir/weir/Algorithm;" (.ref r1) ∧ Fld Z h r0 "com/example/weir/weir/Settings" "capacity" "J" (.long q2) ∧ Fld Z h r0 "com/example/weir/weir/Settings" "rate" "J" (.long q3) ∧ Fld Z h r0 "com/example/weir/weir/Settings" "intervalMillis" "J" (.long q4)
set_option maxRecDepth 65536 in
set_option maxHeartbeats 40000000 in
theorem rm1 (l : Launch) (Z : State) (a0 : Array Value) (hw : ∀ d ∈ tables_1, d.before a0 Z = true) (ws : List Jvm.Cond) (r0 : Addr) (r1 : Addr) (q2 : Int64) (q3 : Int64) (q4 : Int64) (h0 : Heap) (n0 : Nat) (Z0 : n0 ≤ h0.size) (g_r0 : n0 ≤ r0) (E_r0 : Exa Z h0 r0 "com/example/weir/weir/Settings") (F_r0_0 : Fld Z h0 r0 "com/example/weir/weir/Settings" "algorithm" "Lcom/example/weir/weir/Algorithm;" .null) (F_r0_1 : Fld Z h0 r0 "com/example/weir/weir/Settings" "capacity" "J" (.long (0 : Int64))) (F_r0_2 : Fld Z h0 r0 "com/example/weir/weir/Settings" "rate" "J" (.long (0 : Int64))) (F_r0_3 : Fld Z h0 r0 "com/example/weir/weir/Settings" "intervalMillis" "J" (.long (0 : Int64))) :
    MetFree l (⟨"com/example/weir/weir/Settings", "<init>", "(Lcom/example/weir/weir/Algorithm;JJJ)V"⟩ : MethodName) (head1 (Jvm.Cond.code (⟨"com/example/weir/weir/Settings", "<init>", "(Lcom/example/weir/weir/Algorithm;JJJ)V"⟩ : MethodName) prog_16_method_1_code 8 none :: ws) ({ frames := 1, cells := 0, slots := 0, locals := 12 } : Room)) (fun az Uz => az = #[(.ref r0), (.ref r1), (.long q2), (.long q3), (.long q4)] ∧ Z.Warmed39 Uz.vm ∧ Uz.heap = h0) (fun _ _ _ _ _ => True) (fun _ Uz oz Vz => ∃ vz Lz, oz = .returned vz ∧ Q_rm1 Z r0 r1 q2 q3 q4 h0 n0 vz Vz.heap Lz ∧ FrameEnd Uz oz Vz Lz ({ frames := 1, cells := 0, slots := 0, locals := 12 } : Room).cells ({ frames := 1, cells := 0, slots := 0, locals := 12 } : Room).slots) := by
  refine MetFree.of_bodySF (plainFor_of_name own_pn0) hisR ?_
  intro p e s m args below meth c s₁ Bd hml0 hP hK
  obtain ⟨rfl, hZ, hh⟩ := hP
  have hx := Bd.exec
  have hby := Bd.bytes
  have hml : c.maxLocals = 8 := hml0
  have hown : s.vm.findClass "com/example/weir/weir/Settings" = some m.cls := findClass_of_methodNamed Bd.named
  have hnm := (name_of_methodNamed Bd.named Bd.method).1
  have X0 : Stand p l e ({ frames := 1, cells := 0, slots := 0, locals := 12 } : Room) s m #[(.ref r0), (.ref r1), (.long q2), (.long q3), (.long q4)] below meth c s₁ [] 0 0 := Stand.of_body Bd
  have e0 : s₁.heap = h0 := by rw [← hh, Bd.state]; rfl
  have N0 := Fr.nil n0
  have K0 : Keep h0 h0 [r0] := Keep.refl _ _
  refine Go.enter (Q := Q_rm1 Z r0 r1 q2 q3 q4 h0 n0) (C := ({ frames := 1, cells := 0, slots := 0, locals := 12 } : Room).cells) (S := ({ frames := 1, cells := 0, slots := 0, locals := 12 } : Room).slots) (ef_rm1 m r0 r1 q2 q3 q4) ?_
  refine Go.step (fun _ zz => XS.aloadN X0.here hx rfl (hb hby d1_0) rfl rfl zz) ?_
  show Go _ _ _ _ s₁ (mkF m 1 #[.val (.ref r0), .val (.ref r1), .val (.long q2), .second, .val (.long q3), .second, .val (.long q4), .second] [(.ref r0)])
  obtain ⟨T1, X1, e1, st1⟩ := initO X0 hx hZ hown (hw _ (List.mem_of_getElem? (i := 10) rfl)) (hw _ (List.mem_of_getElem? (i := 11) rfl)) (hw _ (List.mem_of_getElem? (i := 12) rfl)) e0 (g := (mkF m 1 #[.val (.ref r0), .val (.ref r1), .val (.long q2), .second, .val (.long q3), .second, .val (.long q4), .second] [(.ref r0)])) rfl (by rw [hml]; rfl) rfl (hb hby d1_1) (by decide) (W := 0) (by show 2 * 0 + _ ≤ _; exact Nat.le_of_eq rfl) (by decide)
  refine Go.step st1 ?_
  show Go _ _ _ _ T1 (mkF m 4 #[.val (.ref r0), .val (.ref r1), .val (.long q2), .second, .val (.long q3), .second, .val (.long q4), .second] [])
  refine Go.step (fun _ zz => XS.aloadN X1.here hx rfl (hb hby d1_4) rfl rfl zz) ?_
  show Go _ _ _ _ T1 (mkF m 5 #[.val (.ref r0), .val (.ref r1), .val (.long q2), .second, .val (.long q3), .second, .val (.long q4), .second] [(.ref r0)])
  refine Go.step (fun _ zz => XS.aloadN X1.here hx rfl (hb hby d1_5) rfl rfl zz) ?_
  show Go _ _ _ _ T1 (mkF m 6 #[.val (.ref r0), .val (.ref r1), .val (.long q2), .second, .val (.long q3), .second, .val (.long q4), .second] [(.ref r1), (.ref r0)])
  obtain ⟨T2, h2, X2, e2, W2, st2⟩ := putF X1 hx hZ hown (host := "") (Or.inl (hw _ (List.mem_of_getElem? (i := 13) rfl))) Via.refl e1 F_r0_0 E_r0 (Or.inr ⟨(hw _ (List.mem_of_getElem? (i := 14) rfl)), rfl, hnm⟩) (hw _ (List.mem_of_getElem? (i := 2) rfl)) (ty := (.object "com/example/weir/weir/Algorithm")) (by decide) rfl rfl (g := (mkF m 6 #[.val (.ref r0), .val (.ref r1), .val (.long q2), .second, .val (.long q3), .second, .val (.long q4), .second] [(.ref r1), (.ref r0)])) rfl rfl (hb hby d1_6)
  have Fw2 := F_r0_0.same W2
  have N2 := Fr.snoc X2 N0 g_r0
  have K2 : Keep h0 h2 [r0] := K0.wr W2 (Or.inl (List.mem_of_getElem? (i := 0) rfl))
  refine Go.step st2 ?_
  show Go _ _ _ _ T2 (mkF m 9 #[.val (.ref r0), .val (.ref r1), .val (.long q2), .second, .val (.long q3), .second, .val (.long q4), .second] [])
  refine Go.step (fun _ zz => XS.aloadN X2.here hx rfl (hb hby d1_9) rfl rfl zz) ?_
  show Go _ _ _ _ T2 (mkF m 10 #[.val (.ref r0), .val (.ref r1), .val (.long q2), .second, .val (.long q3), .second, .val (.long q4), .second] [(.ref r0)])
  refine Go.step (fun _ zz => XS.lloadN X2.here hx rfl (hb hby d1_10) rfl zz) ?_
  show Go _ _ _ _ T2 (mkF m 11 #[.val (.ref r0), .val (.ref r1), .val (.long q2), .second, .val (.long q3), .second, .val (.long q4), .second] [(.long q2), (.ref r0)])
  obtain ⟨T3, h3, X3, e3, W3, st3⟩ := putF X2 hx hZ hown (host := "") (Or.inl (hw _ (List.mem_of_getElem? (i := 15) rfl))) Via.refl e2 (F_r0_1.other W2 (Or.inr (slot_ne (Or.inr (hw _ (List.mem_of_getElem? (i := 16) rfl))) (Or.inr (hw _ (List.mem_of_getElem? (i := 14) rfl))) (by decide) (t := .long) (t' := (.object "com/example/weir/weir/Algorithm")) (by decide) (by decide)))) (E_r0.wr W2) (Or.inr ⟨(hw _ (List.mem_of_getElem? (i := 16) rfl)), rfl, hnm⟩) (hw _ (List.mem_of_getElem? (i := 2) rfl)) (ty := .long) (by decide) rfl rfl (g := (mkF m 11 #[.val (.ref r0), .val (.ref r1), .val (.long q2), .second, .val (.long q3), .second, .val (.long q4), .second] [(.long q2), (.ref r0)])) rfl rfl (hb hby d1_11)
  have Fw3 := (F_r0_1.other W2 (Or.inr (slot_ne (Or.inr (hw _ (List.mem_of_getElem? (i := 16) rfl))) (Or.inr (hw _ (List.mem_of_getElem? (i := 14) rfl))) (by decide) (t := .long) (t' := (.object "com/example/weir/weir/Algorithm")) (by decide) (by decide)))).same W3
  have N3 := Fr.snoc X3 N2 g_r0
  have K3 : Keep h0 h3 [r0] := K2.wr W3 (Or.inl (List.mem_of_getElem? (i := 0) rfl))
  refine Go.step st3 ?_
  show Go _ _ _ _ T3 (mkF m 14 #[.val (.ref r0), .val (.ref r1), .val (.long q2), .second, .val (.long q3), .second, .val (.long q4), .second] [])
  refine Go.step (fun _ zz => XS.aloadN X3.here hx rfl (hb hby d1_14) rfl rfl zz) ?_
  show Go _ _ _ _ T3 (mkF m 15 #[.val (.ref r0), .val (.ref r1), .val (.long q2), .second, .val (.long q3), .second, .val (.long q4), .second] [(.ref r0)])
  refine Go.step (fun _ zz => XS.lload X3.here hx rfl (hb hby d1_15) rfl zz) ?_
  show Go _ _ _ _ T3 (mkF m 17 #[.val (.ref r0), .val (.ref r1), .val (.long q2), .second, .val (.long q3), .second, .val (.long q4), .second] [(.long q3), (.ref r0)])
  obtain ⟨T4, h4, X4, e4, W4, st4⟩ := putF X3 hx hZ hown (host := "") (Or.inl (hw _ (List.mem_of_getElem? (i := 17) rfl))) Via.refl e3 ((F_r0_2.other W2 (Or.inr (slot_ne (Or.inr (hw _ (List.mem_of_getElem? (i := 18) rfl))) (Or.inr (hw _ (List.mem_of_getElem? (i := 14) rfl))) (by decide) (t := .long) (t' := (.object "com/example/weir/weir/Algorithm")) (by decide) (by decide)))).other W3 (Or.inr (slot_ne (Or.inr (hw _ (List.mem_of_getElem? (i := 18) rfl))) (Or.inr (hw _ (List.mem_of_getElem? (i := 16) rfl))) (by decide) (t := .long) (t' := .long) (by decide) (by decide)))) ((E_r0.wr W2).wr W3) (Or.inr ⟨(hw _ (List.mem_of_getElem? (i := 18) rfl)), rfl, hnm⟩) (hw _ (List.mem_of_getElem? (i := 2) rfl)) (ty := .long) (by decide) rfl rfl (g := (mkF m 17 #[.val (.ref r0), .val (.ref r1), .val (.long q2), .second, .val (.long q3), .second, .val (.long q4), .second] [(.long q3), (.ref r0)])) rfl rfl (hb hby d1_17)
  have Fw4 := ((F_r0_2.other W2 (Or.inr (slot_ne (Or.inr (hw _ (List.mem_of_getElem? (i := 18) rfl))) (Or.inr (hw _ (List.mem_of_getElem? (i := 14) rfl))) (by decide) (t := .long) (t' := (.object "com/example/weir/weir/Algorithm")) (by decide) (by decide)))).other W3 (Or.inr (slot_ne (Or.inr (hw _ (List.mem_of_getElem? (i := 18) rfl))) (Or.inr (hw _ (List.mem_of_getElem? (i := 16) rfl))) (by decide) (t := .long) (t' := .long) (by decide) (by decide)))).same W4
  have N4 := Fr.snoc X4 N3 g_r0
  have K4 : Keep h0 h4 [r0] := K3.wr W4 (Or.inl (List.mem_of_getElem? (i := 0) rfl))
  refine Go.step st4 ?_
  show Go _ _ _ _ T4 (mkF m 20 #[.val (.ref r0), .val (.ref r1), .val (.long q2), .second, .val (.long q3), .second, .val (.long q4), .second] [])
  refine Go.step (fun _ zz => XS.aloadN X4.here hx rfl (hb hby d1_20) rfl rfl zz) ?_
  show Go _ _ _ _ T4 (mkF m 21 #[.val (.ref r0), .val (.ref r1), .val (.long q2), .second, .val (.long q3), .second, .val (.long q4), .second] [(.ref r0)])
  refine Go.step (fun _ zz => XS.lload X4.here hx rfl (hb hby d1_21) rfl zz) ?_
  show Go _ _ _ _ T4 (mkF m 23 #[.val (.ref r0), .val (.ref r1), .val (.long q2), .second, .val (.long q3), .second, .val (.long q4), .second] [(.long q4), (.ref r0)])
  obtain ⟨T5, h5, X5, e5, W5, st5⟩ := putF X4 hx hZ hown (host := "") (Or.inl (hw _ (List.mem_of_getElem? (i := 19) rfl))) Via.refl e4 (((F_r0_3.other W2 (Or.inr (slot_ne (Or.inr (hw _ (List.mem_of_getElem? (i := 20) rfl))) (Or.inr (hw _ (List.mem_of_getElem? (i := 14) rfl))) (by decide) (t := .long) (t' := (.object "com/example/weir/weir/Algorithm")) (by decide) (by decide)))).other W3 (Or.inr (slot_ne (Or.inr (hw _ (List.mem_of_getElem? (i := 20) rfl))) (Or.inr (hw _ (List.mem_of_getElem? (i := 16) rfl))) (by decide) (t := .long) (t' := .long) (by decide) (by decide)))).other W4 (Or.inr (slot_ne (Or.inr (hw _ (List.mem_of_getElem? (i := 20) rfl))) (Or.inr (hw _ (List.mem_of_getElem? (i := 18) rfl))) (by decide) (t := .long) (t' := .long) (by decide) (by decide)))) (((E_r0.wr W2).wr W3).wr W4) (Or.inr ⟨(hw _ (List.mem_of_getElem? (i := 20) rfl)), rfl, hnm⟩) (hw _ (List.mem_of_getElem? (i := 2) rfl)) (ty := .long) (by decide) rfl rfl (g := (mkF m 23 #[.val (.ref r0), .val (.ref r1), .val (.long q2), .second, .val (.long q3), .second, .val (.long q4), .second] [(.long q4), (.ref r0)])) rfl rfl (hb hby d1_23)
  have Fw5 := (((F_r0_3.other W2 (Or.inr (slot_ne (Or.inr (hw _ (List.mem_of_getElem? (i := 20) rfl))) (Or.inr (hw _ (List.mem_of_getElem? (i := 14) rfl))) (by decide) (t := .long) (t' := (.object "com/example/weir/weir/Algorithm")) (by decide) (by decide)))).other W3 (Or.inr (slot_ne (Or.inr (hw _ (List.mem_of_getElem? (i := 20) rfl))) (Or.inr (hw _ (List.mem_of_getElem? (i := 16) rfl))) (by decide) (t := .long) (t' := .long) (by decide) (by decide)))).other W4 (Or.inr (slot_ne (Or.inr (hw _ (List.mem_of_getElem? (i := 20) rfl))) (Or.inr (hw _ (List.mem_of_getElem? (i := 18) rfl))) (by decide) (t := .long) (t' := .long) (by decide) (by decide)))).same W5
  have N5 := Fr.snoc X5 N4 g_r0
  have K5 : Keep h0 h5 [r0] := K4.wr W5 (Or.inl (List.mem_of_getElem? (i := 0) rfl))
  refine Go.step st5 ?_
  show Go _ _ _ _ T5 (mkF m 26 #[.val (.ref r0), .val (.ref r1), .val (.long q2), .second, .val (.long q3), .second, .val (.long q4), .second] [])
  exact Go.retV X5 hx Bd.returns (hb hby d1_26) Bd.notSynchronized (by rw [e5]; exact ⟨rfl, N5, K5, ((((E_r0.wr W2).wr W3).wr W4).wr W5), (((Fw2.other W3 (Or.inr (slot_ne (Or.inr (hw _ (List.mem_of_getElem? (i := 14) rfl))) (Or.inr (hw _ (List.mem_of_getElem? (i := 16) rfl))) (by decide) (t := (.object "com/example/weir/weir/Algorithm")) (t' := .long) (by decide) (by decide)))).other W4 (Or.inr (slot_ne (Or.inr (hw _ (List.mem_of_getElem? (i := 14) rfl))) (Or.inr (hw _ (List.mem_of_getElem? (i := 18) rfl))) (by decide) (t := (.object "com/example/weir/weir/Algorithm")) (t' := .long) (by decide) (by decide)))).other W5 (Or.inr (slot_ne (Or.inr (hw _ (List.mem_of_getElem? (i := 14) rfl))) (Or.inr (hw _ (List.mem_of_getElem? (i := 20) rfl))) (by decide) (t := (.object "com/example/weir/weir/Algorithm")) (t' := .long) (by decide) (by decide)))), ((Fw3.other W4 (Or.inr (slot_ne (Or.inr (hw _ (List.mem_of_getElem? (i := 16) rfl))) (Or.inr (hw _ (List.mem_of_getElem? (i := 18) rfl))) (by decide) (t := .long) (t' := .long) (by decide) (by decide)))).other W5 (Or.inr (slot_ne (Or.inr (hw _ (List.mem_of_getElem? (i := 16) rfl))) (Or.inr (hw _ (List.mem_of_getElem? (i := 20) rfl))) (by decide) (t := .long) (t' := .long) (by decide) (by decide)))), (Fw4.other W5 (Or.inr (slot_ne (Or.inr (hw _ (List.mem_of_getElem? (i := 18) rfl))) (Or.inr (hw _ (List.mem_of_getElem? (i := 20) rfl))) (by decide) (t := .long) (t' := .long) (by decide) (by decide)))), Fw5⟩) (by decide) (by decide)
theorem d4_0 : decode prog_16_method_8_code 0 = .ok (.aload_n 0, 1) := by decide +kernel
theorem d4_1 : decode prog_16_method_8_code 1 = .ok (.getfield 13, 3) := by decide +kernel
theorem d4_4 : decode prog_16_method_8_code 4 = .ok (.lreturn, 1) := by decide +kernel
theorem ef_rm4 (m : MethodId) (x0 : Addr) : entryFrame m #[(.ref x0)] 1 = mkF m 0 #[.val (.ref x0)] [] := by first | (simp [entryFrame, mkF, argsToLocals, Value.category]; done) | rfl
def own_f4 (r0 : Addr) (fv : Int64) : Int64 := fv
def Q_rm4 (Z : State) (r0 : Addr) (fv : Int64) (h0 : Heap) (n0 : Nat) (v : Option Value) (h : Heap) (L : List Loc) : Prop := v = some (Value.long (own_f4 r0 fv)) ∧ Fr n0 L ∧ h = h0
set_option maxRecDepth 65536 in
set_option maxHeartbeats 40000000 in
theorem rm4 (l : Launch) (Z : State) (a0 : Array Value) (hw : ∀ d ∈ tables_1, d.before a0 Z = true) (ws : List Jvm.Cond) (r0 : Addr) (fv : Int64) (h0 : Heap) (n0 : Nat) (Z0 : n0 ≤ h0.size) (Fc : Fld Z h0 r0 "com/example/weir/weir/Settings" "capacity" "J" (.long fv)) :
    MetFree l (⟨"com/example/weir/weir/Settings", "capacity", "()J"⟩ : MethodName) (head1 (Jvm.Cond.code (⟨"com/example/weir/weir/Settings", "capacity", "()J"⟩ : MethodName) prog_16_method_8_code 1 (some .long) :: ws) ({ frames := 0, cells := 0, slots := 0, locals := 0 } : Room)) (fun az Uz => az = #[(.ref r0)] ∧ Z.Warmed39 Uz.vm ∧ Uz.heap = h0) (fun _ _ _ _ _ => True) (fun _ Uz oz Vz => ∃ vz Lz, oz = .returned vz ∧ Q_rm4 Z r0 fv h0 n0 vz Vz.heap Lz ∧ FrameEnd Uz oz Vz Lz ({ frames := 0, cells := 0, slots := 0, locals := 0 } : Room).cells ({ frames := 0, cells := 0, slots := 0, locals := 0 } : Room).slots) := by
  refine MetFree.of_bodySF (plainFor_of_name own_pn0) hisR ?_
  intro p e s m args below meth c s₁ Bd hml0 hP hK
  obtain ⟨rfl, hZ, hh⟩ := hP
  have hx := Bd.exec
  have hby := Bd.bytes
  have hml : c.maxLocals = 1 := hml0
  have hown : s.vm.findClass "com/example/weir/weir/Settings" = some m.cls := findClass_of_methodNamed Bd.named
  have hnm := (name_of_methodNamed Bd.named Bd.method).1
  have X0 : Stand p l e ({ frames := 0, cells := 0, slots := 0, locals := 0 } : Room) s m #[(.ref r0)] below meth c s₁ [] 0 0 := Stand.of_body Bd
  have e0 : s₁.heap = h0 := by rw [← hh, Bd.state]; rfl
  have N0 := Fr.nil n0
  have K0 : Keep h0 h0 [] := Keep.refl _ _
  refine Go.enter (Q := Q_rm4 Z r0 fv h0 n0) (C := ({ frames := 0, cells := 0, slots := 0, locals := 0 } : Room).cells) (S := ({ frames := 0, cells := 0, slots := 0, locals := 0 } : Room).slots) (ef_rm4 m r0) ?_
  refine Go.step (fun _ zz => XS.aloadN X0.here hx rfl (hb hby d4_0) rfl rfl zz) ?_
  show Go _ _ _ _ s₁ (mkF m 1 #[.val (.ref r0)] [(.ref r0)])
  obtain ⟨T1, X1, e1, st1⟩ := getF X0 hx hZ hown (host := "") (Or.inl (hw _ (List.mem_of_getElem? (i := 15) rfl))) Via.refl e0 Fc (g := (mkF m 1 #[.val (.ref r0)] [(.ref r0)])) rfl rfl (hb hby d4_1)
  refine Go.step st1 ?_
  show Go _ _ _ _ T1 (mkF m 4 #[.val (.ref r0)] [(.long fv)])
  exact Go.retJ X1 hx Bd.returns (hb hby d4_4) Bd.notSynchronized (⟨congrArg (fun q => some (Value.long q)) (show own_f4 r0 fv = fv from rfl).symm, N0, e1⟩) (by decide) (by decide)
theorem own_f4_eq (r0 : Addr) (c : Int64) : own_f4 r0 c = c := rfl
theorem d5_0 : decode prog_16_method_11_code 0 = .ok (.aload_n 0, 1) := by decide +kernel
theorem d5_1 : decode prog_16_method_11_code 1 = .ok (.getfield 20, 3) := by decide +kernel
theorem d5_4 : decode prog_16_method_11_code 4 = .ok (.lreturn, 1) := by decide +kernel
theorem ef_rm5 (m : MethodId) (x0 : Addr) : entryFrame m #[(.ref x0)] 1 = mkF m 0 #[.val (.ref x0)] [] := by first | (simp [entryFrame, mkF, argsToLocals, Value.category]; done) | rfl
def own_f5 (r0 : Addr) (fv : Int64) : Int64 := fv
def Q_rm5 (Z : State) (r0 : Addr) (fv : Int64) (h0 : Heap) (n0 : Nat) (v : Option Value) (h : Heap) (L : List Loc) : Prop := v = some (Value.long (own_f5 r0 fv)) ∧ Fr n0 L ∧ h = h0
set_option maxRecDepth 65536 in
set_option maxHeartbeats 40000000 in
theorem rm5 (l : Launch) (Z : State) (a0 : Array Value) (hw : ∀ d ∈ tables_1, d.before a0 Z = true) (ws : List Jvm.Cond) (r0 : Addr) (fv : Int64) (h0 : Heap) (n0 : Nat) (Z0 : n0 ≤ h0.size) (Fc : Fld Z h0 r0 "com/example/weir/weir/Settings" "intervalMillis" "J" (.long fv)) :
    MetFree l (⟨"com/example/weir/weir/Settings", "intervalMillis", "()J"⟩ : MethodName) (head1 (Jvm.Cond.code (⟨"com/example/weir/weir/Settings", "intervalMillis", "()J"⟩ : MethodName) prog_16_method_11_code 1 (some .long) :: ws) ({ frames := 0, cells := 0, slots := 0, locals := 0 } : Room)) (fun az Uz => az = #[(.ref r0)] ∧ Z.Warmed39 Uz.vm ∧ Uz.heap = h0) (fun _ _ _ _ _ => True) (fun _ Uz oz Vz => ∃ vz Lz, oz = .returned vz ∧ Q_rm5 Z r0 fv h0 n0 vz Vz.heap Lz ∧ FrameEnd Uz oz Vz Lz ({ frames := 0, cells := 0, slots := 0, locals := 0 } : Room).cells ({ frames := 0, cells := 0, slots := 0, locals := 0 } : Room).slots) := by
  refine MetFree.of_bodySF (plainFor_of_name own_pn0) hisR ?_
  intro p e s m args below meth c s₁ Bd hml0 hP hK
  obtain ⟨rfl, hZ, hh⟩ := hP
  have hx := Bd.exec
  have hby := Bd.bytes
  have hml : c.maxLocals = 1 := hml0
  have hown : s.vm.findClass "com/example/weir/weir/Settings" = some m.cls := findClass_of_methodNamed Bd.named
  have hnm := (name_of_methodNamed Bd.named Bd.method).1
  have X0 : Stand p l e ({ frames := 0, cells := 0, slots := 0, locals := 0 } : Room) s m #[(.ref r0)] below meth c s₁ [] 0 0 := Stand.of_body Bd
  have e0 : s₁.heap = h0 := by rw [← hh, Bd.state]; rfl
  have N0 := Fr.nil n0
  have K0 : Keep h0 h0 [] := Keep.refl _ _
  refine Go.enter (Q := Q_rm5 Z r0 fv h0 n0) (C := ({ frames := 0, cells := 0, slots := 0, locals := 0 } : Room).cells) (S := ({ frames := 0, cells := 0, slots := 0, locals := 0 } : Room).slots) (ef_rm5 m r0) ?_
  refine Go.step (fun _ zz => XS.aloadN X0.here hx rfl (hb hby d5_0) rfl rfl zz) ?_
  show Go _ _ _ _ s₁ (mkF m 1 #[.val (.ref r0)] [(.ref r0)])
  obtain ⟨T1, X1, e1, st1⟩ := getF X0 hx hZ hown (host := "") (Or.inl (hw _ (List.mem_of_getElem? (i := 19) rfl))) Via.refl e0 Fc (g := (mkF m 1 #[.val (.ref r0)] [(.ref r0)])) rfl rfl (hb hby d5_1)
  refine Go.step st1 ?_
  show Go _ _ _ _ T1 (mkF m 4 #[.val (.ref r0)] [(.long fv)])
  exact Go.retJ X1 hx Bd.returns (hb hby d5_4) Bd.notSynchronized (⟨congrArg (fun q => some (Value.long q)) (show own_f5 r0 fv = fv from rfl).symm, N0, e1⟩) (by decide) (by decide)
theorem own_f5_eq (r0 : Addr) (c : Int64) : own_f5 r0 c = c := rfl
theorem d6_0 : decode prog_16_method_9_code 0 = .ok (.aload_n 0, 1) := by decide +kernel
theorem d6_1 : decode prog_16_method_9_code 1 = .ok (.getfield 17, 3) := by decide +kernel
theorem d6_4 : decode prog_16_method_9_code 4 = .ok (.lreturn, 1) := by decide +kernel
theorem ef_rm6 (m : MethodId) (x0 : Addr) : entryFrame m #[(.ref x0)] 1 = mkF m 0 #[.val (.ref x0)] [] := by first | (simp [entryFrame, mkF, argsToLocals, Value.category]; done) | rfl
def own_f6 (r0 : Addr) (fv : Int64) : Int64 := fv
def Q_rm6 (Z : State) (r0 : Addr) (fv : Int64) (h0 : Heap) (n0 : Nat) (v : Option Value) (h : Heap) (L : List Loc) : Prop := v = some (Value.long (own_f6 r0 fv)) ∧ Fr n0 L ∧ h = h0
set_option maxRecDepth 65536 in
set_option maxHeartbeats 40000000 in
theorem rm6 (l : Launch) (Z : State) (a0 : Array Value) (hw : ∀ d ∈ tables_1, d.before a0 Z = true) (ws : List Jvm.Cond) (r0 : Addr) (fv : Int64) (h0 : Heap) (n0 : Nat) (Z0 : n0 ≤ h0.size) (Fc : Fld Z h0 r0 "com/example/weir/weir/Settings" "rate" "J" (.long fv)) :
    MetFree l (⟨"com/example/weir/weir/Settings", "rate", "()J"⟩ : MethodName) (head1 (Jvm.Cond.code (⟨"com/example/weir/weir/Settings", "rate", "()J"⟩ : MethodName) prog_16_method_9_code 1 (some .long) :: ws) ({ frames := 0, cells := 0, slots := 0, locals := 0 } : Room)) (fun az Uz => az = #[(.ref r0)] ∧ Z.Warmed39 Uz.vm ∧ Uz.heap = h0) (fun _ _ _ _ _ => True) (fun _ Uz oz Vz => ∃ vz Lz, oz = .returned vz ∧ Q_rm6 Z r0 fv h0 n0 vz Vz.heap Lz ∧ FrameEnd Uz oz Vz Lz ({ frames := 0, cells := 0, slots := 0, locals := 0 } : Room).cells ({ frames := 0, cells := 0, slots := 0, locals := 0 } : Room).slots) := by
  refine MetFree.of_bodySF (plainFor_of_name own_pn0) hisR ?_
  intro p e s m args below meth c s₁ Bd hml0 hP hK
  obtain ⟨rfl, hZ, hh⟩ := hP
  have hx := Bd.exec
  have hby := Bd.bytes
  have hml : c.maxLocals = 1 := hml0
  have hown : s.vm.findClass "com/example/weir/weir/Settings" = some m.cls := findClass_of_methodNamed Bd.named
  have hnm := (name_of_methodNamed Bd.named Bd.method).1
  have X0 : Stand p l e ({ frames := 0, cells := 0, slots := 0, locals := 0 } : Room) s m #[(.ref r0)] below meth c s₁ [] 0 0 := Stand.of_body Bd
  have e0 : s₁.heap = h0 := by rw [← hh, Bd.state]; rfl
  have N0 := Fr.nil n0
  have K0 : Keep h0 h0 [] := Keep.refl _ _
  refine Go.enter (Q := Q_rm6 Z r0 fv h0 n0) (C := ({ frames := 0, cells := 0, slots := 0, locals := 0 } : Room).cells) (S := ({ frames := 0, cells := 0, slots := 0, locals := 0 } : Room).slots) (ef_rm6 m r0) ?_
  refine Go.step (fun _ zz => XS.aloadN X0.here hx rfl (hb hby d6_0) rfl rfl zz) ?_
  show Go _ _ _ _ s₁ (mkF m 1 #[.val (.ref r0)] [(.ref r0)])
  obtain ⟨T1, X1, e1, st1⟩ := getF X0 hx hZ hown (host := "") (Or.inl (hw _ (List.mem_of_getElem? (i := 17) rfl))) Via.refl e0 Fc (g := (mkF m 1 #[.val (.ref r0)] [(.ref r0)])) rfl rfl (hb hby d6_1)
  refine Go.step st1 ?_
  show Go _ _ _ _ T1 (mkF m 4 #[.val (.ref r0)] [(.long fv)])
  exact Go.retJ X1 hx Bd.returns (hb hby d6_4) Bd.notSynchronized (⟨congrArg (fun q => some (Value.long q)) (show own_f6 r0 fv = fv from rfl).symm, N0, e1⟩) (by decide) (by decide)
theorem own_f6_eq (r0 : Addr) (c : Int64) : own_f6 r0 c = c := rfl
theorem d7_0 : decode prog_20_method_5_code 0 = .ok (.lload_n 0, 1) := by decide +kernel
theorem d7_1 : decode prog_20_method_5_code 1 = .ok (.lload_n 2, 1) := by decide +kernel
theorem d7_2 : decode prog_20_method_5_code 2 = .ok (.ldiv, 1) := by decide +kernel
theorem d7_3 : decode prog_20_method_5_code 3 = .ok (.lload_n 0, 1) := by decide +kernel
theorem d7_4 : decode prog_20_method_5_code 4 = .ok (.lload_n 2, 1) := by decide +kernel
theorem d7_5 : decode prog_20_method_5_code 5 = .ok (.lrem, 1) := by decide +kernel
theorem d7_6 : decode prog_20_method_5_code 6 = .ok (.lconst 0, 1) := by decide +kernel
theorem d7_7 : decode prog_20_method_5_code 7 = .ok (.lcmp, 1) := by decide +kernel
theorem d7_8 : decode prog_20_method_5_code 8 = .ok (.ifCond .ne 7, 3) := by decide +kernel
theorem d7_11 : decode prog_20_method_5_code 11 = .ok (.iconst 0, 1) := by decide +kernel
theorem d7_12 : decode prog_20_method_5_code 12 = .ok (.goto 4, 3) := by decide +kernel
theorem d7_15 : decode prog_20_method_5_code 15 = .ok (.iconst 1, 1) := by decide +kernel
theorem d7_16 : decode prog_20_method_5_code 16 = .ok (.i2l, 1) := by decide +kernel
theorem d7_17 : decode prog_20_method_5_code 17 = .ok (.ladd, 1) := by decide +kernel
theorem d7_18 : decode prog_20_method_5_code 18 = .ok (.lreturn, 1) := by decide +kernel
theorem own_pn1 : plainName "com/example/weir/weir/TokenBucket" = true := by first | (simp [plainName, overriddenIn]; done) | decide +kernel
theorem ef_rm7 (m : MethodId) (x0 : Int64) (x1 : Int64) : entryFrame m #[(.long x0), (.long x1)] 4 = mkF m 0 #[.val (.long x0), .second, .val (.long x1), .second] [] := by first | (simp [entryFrame, mkF, argsToLocals, Value.category]; done) | rfl
def own_f7 (q0 : Int64) (q1 : Int64) : Int64 := (if (q0 % q1) = (0 : Int64) then ((q0 / q1) + ((0 : Int32).toInt64)) else ((q0 / q1) + ((1 : Int32).toInt64)))
def Q_rm7 (Z : State) (q0 : Int64) (q1 : Int64) (h0 : Heap) (n0 : Nat) (v : Option Value) (h : Heap) (L : List Loc) : Prop := v = some (Value.long (own_f7 q0 q1)) ∧ Fr n0 L ∧ h = h0
set_option maxRecDepth 65536 in
set_option maxHeartbeats 40000000 in
theorem rm7 (l : Launch) (Z : State) (a0 : Array Value) (hw : ∀ d ∈ tables_1, d.before a0 Z = true) (ws : List Jvm.Cond) (q0 : Int64) (q1 : Int64) (h0 : Heap) (n0 : Nat) (Z0 : n0 ≤ h0.size) (hnz : q1 ≠ 0) :
    MetFree l (⟨"com/example/weir/weir/TokenBucket", "ceilDiv", "(JJ)J"⟩ : MethodName) (head1 (Jvm.Cond.code (⟨"com/example/weir/weir/TokenBucket", "ceilDiv", "(JJ)J"⟩ : MethodName) prog_20_method_5_code 4 (some .long) :: ws) ({ frames := 0, cells := 0, slots := 0, locals := 0 } : Room)) (fun az Uz => az = #[(.long q0), (.long q1)] ∧ Z.Warmed39 Uz.vm ∧ Uz.heap = h0) (fun _ _ _ _ _ => True) (fun _ Uz oz Vz => ∃ vz Lz, oz = .returned vz ∧ Q_rm7 Z q0 q1 h0 n0 vz Vz.heap Lz ∧ FrameEnd Uz oz Vz Lz ({ frames := 0, cells := 0, slots := 0, locals := 0 } : Room).cells ({ frames := 0, cells := 0, slots := 0, locals := 0 } : Room).slots) := by
  refine MetFree.of_bodySF (plainFor_of_name own_pn1) hisR ?_
  intro p e s m args below meth c s₁ Bd hml0 hP hK
  obtain ⟨rfl, hZ, hh⟩ := hP
  have hx := Bd.exec
  have hby := Bd.bytes
  have hml : c.maxLocals = 4 := hml0
  have hown : s.vm.findClass "com/example/weir/weir/TokenBucket" = some m.cls := findClass_of_methodNamed Bd.named
  have hnm := (name_of_methodNamed Bd.named Bd.method).1
  have X0 : Stand p l e ({ frames := 0, cells := 0, slots := 0, locals := 0 } : Room) s m #[(.long q0), (.long q1)] below meth c s₁ [] 0 0 := Stand.of_body Bd
  have e0 : s₁.heap = h0 := by rw [← hh, Bd.state]; rfl
  have N0 := Fr.nil n0
  have K0 : Keep h0 h0 [] := Keep.refl _ _
  refine Go.enter (Q := Q_rm7 Z q0 q1 h0 n0) (C := ({ frames := 0, cells := 0, slots := 0, locals := 0 } : Room).cells) (S := ({ frames := 0, cells := 0, slots := 0, locals := 0 } : Room).slots) (ef_rm7 m q0 q1) ?_
  refine Go.step (fun _ zz => XS.lloadN X0.here hx rfl (hb hby d7_0) rfl zz) ?_
  show Go _ _ _ _ s₁ (mkF m 1 #[.val (.long q0), .second, .val (.long q1), .second] [(.long q0)])
  refine Go.step (fun _ zz => XS.lloadN X0.here hx rfl (hb hby d7_1) rfl zz) ?_
  show Go _ _ _ _ s₁ (mkF m 2 #[.val (.long q0), .second, .val (.long q1), .second] [(.long q1), (.long q0)])
  refine Go.step (fun _ zz => XS.ldiv X0.here hx rfl (hb hby d7_2) rfl hnz zz) ?_
  show Go _ _ _ _ s₁ (mkF m 3 #[.val (.long q0), .second, .val (.long q1), .second] [(.long (q0 / q1))])
  refine Go.step (fun _ zz => XS.lloadN X0.here hx rfl (hb hby d7_3) rfl zz) ?_
  show Go _ _ _ _ s₁ (mkF m 4 #[.val (.long q0), .second, .val (.long q1), .second] [(.long q0), (.long (q0 / q1))])
  refine Go.step (fun _ zz => XS.lloadN X0.here hx rfl (hb hby d7_4) rfl zz) ?_
  show Go _ _ _ _ s₁ (mkF m 5 #[.val (.long q0), .second, .val (.long q1), .second] [(.long q1), (.long q0), (.long (q0 / q1))])
  refine Go.step (fun _ zz => own_lremM X0 hx rfl (hb hby d7_5) rfl hnz zz) ?_
  show Go _ _ _ _ s₁ (mkF m 6 #[.val (.long q0), .second, .val (.long q1), .second] [(.long (q0 % q1)), (.long (q0 / q1))])
  refine Go.step (fun _ zz => XS.lconst X0.here hx rfl (hb hby d7_6) zz) ?_
  show Go _ _ _ _ s₁ (mkF m 7 #[.val (.long q0), .second, .val (.long q1), .second] [(.long (0 : Int64)), (.long (q0 % q1)), (.long (q0 / q1))])
  refine Go.step (fun _ zz => XS.lcmp X0.here hx rfl (hb hby d7_7) rfl zz) ?_
  show Go _ _ _ _ s₁ (mkF m 8 #[.val (.long q0), .second, .val (.long q1), .second] [(.int (lcmpW (q0 % q1) (0 : Int64))), (.long (q0 / q1))])
  by_cases hc8 : (q0 % q1) = (0 : Int64)
  · refine Go.step (fun _ zz => XS.ifNo X0.here hx rfl (hb hby d7_8) rfl ((if0 _ _).trans (teq ((lw_eq (q0 % q1) (0 : Int64)).mpr hc8)).2) zz) ?_
    show Go _ _ _ _ s₁ (mkF m 11 #[.val (.long q0), .second, .val (.long q1), .second] [(.long (q0 / q1))])
    refine Go.step (fun _ zz => XS.iconst X0.here hx rfl (hb hby d7_11) zz) ?_
    show Go _ _ _ _ s₁ (mkF m 12 #[.val (.long q0), .second, .val (.long q1), .second] [(.int (0 : Int32)), (.long (q0 / q1))])
    refine Go.step (fun _ zz => XS.goto X0.here hx rfl (pc0 := 12) (pc' := 16) rfl (hb hby d7_12) (by decide) (by decide) zz) ?_
    show Go _ _ _ _ s₁ (mkF m 16 #[.val (.long q0), .second, .val (.long q1), .second] [(.int (0 : Int32)), (.long (q0 / q1))])
    refine Go.step (fun _ zz => XS.i2l X0.here hx rfl (hb hby d7_16) rfl zz) ?_
    show Go _ _ _ _ s₁ (mkF m 17 #[.val (.long q0), .second, .val (.long q1), .second] [(.long ((0 : Int32).toInt64)), (.long (q0 / q1))])
    refine Go.step (fun _ zz => XS.ladd X0.here hx rfl (hb hby d7_17) rfl zz) ?_
    show Go _ _ _ _ s₁ (mkF m 18 #[.val (.long q0), .second, .val (.long q1), .second] [(.long ((q0 / q1) + ((0 : Int32).toInt64)))])
    exact Go.retJ X0 hx Bd.returns (hb hby d7_18) Bd.notSynchronized (⟨congrArg (fun q => some (Value.long q)) (show own_f7 q0 q1 = ((q0 / q1) + ((0 : Int32).toInt64)) from by unfold own_f7; rw [if_pos hc8]).symm, N0, e0⟩) (by decide) (by decide)
  · refine Go.step (fun _ zz => XS.ifYes X0.here hx rfl (pc0 := 8) (pc' := 15) rfl (hb hby d7_8) rfl ((if0 _ _).trans (feq (fun q => hc8 ((lw_eq (q0 % q1) (0 : Int64)).mp q))).2) (by decide) (by decide) zz) ?_
    show Go _ _ _ _ s₁ (mkF m 15 #[.val (.long q0), .second, .val (.long q1), .second] [(.long (q0 / q1))])
    refine Go.step (fun _ zz => XS.iconst X0.here hx rfl (hb hby d7_15) zz) ?_
    show Go _ _ _ _ s₁ (mkF m 16 #[.val (.long q0), .second, .val (.long q1), .second] [(.int (1 : Int32)), (.long (q0 / q1))])
    refine Go.step (fun _ zz => XS.i2l X0.here hx rfl (hb hby d7_16) rfl zz) ?_
    show Go _ _ _ _ s₁ (mkF m 17 #[.val (.long q0), .second, .val (.long q1), .second] [(.long ((1 : Int32).toInt64)), (.long (q0 / q1))])
    refine Go.step (fun _ zz => XS.ladd X0.here hx rfl (hb hby d7_17) rfl zz) ?_
    show Go _ _ _ _ s₁ (mkF m 18 #[.val (.long q0), .second, .val (.long q1), .second] [(.long ((q0 / q1) + ((1 : Int32).toInt64)))])
    exact Go.retJ X0 hx Bd.returns (hb hby d7_18) Bd.notSynchronized (⟨congrArg (fun q => some (Value.long q)) (show own_f7 q0 q1 = ((q0 / q1) + ((1 : Int32).toInt64)) from by unfold own_f7; rw [if_neg hc8]).symm, N0, e0⟩) (by decide) (by decide)
theorem own_sm {n : Int} (h1 : -9223372036854775808 ≤ n) (h2 : n < 9223372036854775808) : n.bmod (2 ^ 64) = n := Int.bmod_eq_of_le (by omega) (by omega)
theorem own_ceil (F R : Int64) (hF : 1 ≤ F.toInt) (hR : 1 ≤ R.toInt) :
    ¬ own_f7 F R < 1 ∧ ¬ F / R < own_f7 F R - 1 ∧ ¬ F - (own_f7 F R - 1) * R < 1 ∧ ¬ R < F - (own_f7 F R - 1) * R := by
  have hFb := F.toInt_lt
  have hRb := R.toInt_lt
  have hd : (F / R).toInt = F.toInt / R.toInt := by
    rw [Int64.toInt_div, Int.tdiv_eq_ediv_of_nonneg (by omega)]
    have h0 : 0 ≤ F.toInt / R.toInt := Int.ediv_nonneg (by omega) (by omega)
    have h1 : F.toInt / R.toInt ≤ F.toInt := Int.ediv_le_self _ (by omega)
    exact own_sm (by omega) (by omega)
  have hm : (F % R).toInt = F.toInt % R.toInt := by
    rw [Int64.toInt_mod, Int.tmod_eq_emod_of_nonneg (by omega)]
  have hq0 : 0 ≤ F.toInt / R.toInt := Int.ediv_nonneg (by omega) (by omega)
  have hq1 : F.toInt / R.toInt ≤ F.toInt := Int.ediv_le_self _ (by omega)
  have hr0 : 0 ≤ F.toInt % R.toInt := Int.emod_nonneg _ (by omega)
  have hr1 : F.toInt % R.toInt < R.toInt := Int.emod_lt_of_pos _ (by omega)
  have hsum : R.toInt * (F.toInt / R.toInt) + F.toInt % R.toInt = F.toInt := Int.mul_ediv_add_emod _ _
  have hz : ((F % R) = (0 : Int64)) ↔ F.toInt % R.toInt = 0 := by
    rw [← Int64.toInt_inj, hm]; rfl
  simp only [Int64.lt_iff_toInt_lt]
  have e1 : (1 : Int64).toInt = 1 := rfl
  have es : ((1 : Int32).toInt64).toInt = 1 := rfl
  have ez : ((0 : Int32).toInt64) = 0 := rfl
  by_cases h : F.toInt % R.toInt = 0
  · have hf : own_f7 F R = F / R := by unfold own_f7; rw [if_pos (hz.mpr h), ez, Int64.add_zero]
    rw [hf]
    have hqp : 1 ≤ F.toInt / R.toInt := by
      rcases Int.lt_or_le 0 (F.toInt / R.toInt) with q | q
      · omega
      · have : F.toInt / R.toInt = 0 := by omega
        rw [this] at hsum
        omega
    have hg : (F / R - 1).toInt = F.toInt / R.toInt - 1 := by
      rw [Int64.toInt_sub, hd, e1]; exact own_sm (by omega) (by omega)
    have hp : ((F / R - 1) * R).toInt = F.toInt - R.toInt := by
      rw [Int64.toInt_mul, hg, Int.sub_mul, Int.one_mul, Int.mul_comm (F.toInt / R.toInt)]
      rw [own_sm (by omega) (by omega)]; omega
    have hD : (F - (F / R - 1) * R).toInt = R.toInt := by
      rw [Int64.toInt_sub, hp]
      have : F.toInt - (F.toInt - R.toInt) = R.toInt := by omega
      rw [this]; exact own_sm (by omega) (by omega)
    rw [hg, hD, hd, e1]
    omega
  · have hR2 : 2 ≤ R.toInt := by omega
    have hqq : 2 * (F.toInt / R.toInt) ≤ R.toInt * (F.toInt / R.toInt) := Int.mul_le_mul_of_nonneg_right hR2 hq0
    have hf : own_f7 F R = F / R + (1 : Int32).toInt64 := by unfold own_f7; rw [if_neg (fun q => h (hz.mp q))]
    have hfi : (own_f7 F R).toInt = F.toInt / R.toInt + 1 := by
      rw [hf, Int64.toInt_add, hd, es]; exact own_sm (by omega) (by omega)
    have hg : (own_f7 F R - 1).toInt = F.toInt / R.toInt := by
      rw [Int64.toInt_sub, hfi, e1]
      have : F.toInt / R.toInt + 1 - 1 = F.toInt / R.toInt := by omega
      rw [this]; exact own_sm (by omega) (by omega)
    have hp : ((own_f7 F R - 1) * R).toInt = F.toInt - F.toInt % R.toInt := by
      rw [Int64.toInt_mul, hg, Int.mul_comm (F.toInt / R.toInt)]
      rw [own_sm (by omega) (by omega)]; omega
    have hD : (F - (own_f7 F R - 1) * R).toInt = F.toInt % R.toInt := by
      rw [Int64.toInt_sub, hp]
      have : F.toInt - (F.toInt - F.toInt % R.toInt) = F.toInt % R.toInt := by omega
      rw [this]; exact own_sm (by omega) (by omega)
    rw [hg, hD, hd, hfi, e1]
    omega
theorem own_land_nonneg (a : Int64) : 0 ≤ (a &&& 9223372036854775807).toInt := by
  have h : (a &&& 9223372036854775807).toBitVec.msb = false := by
    rw [Int64.toBitVec_and, BitVec.msb_and]
    have : (9223372036854775807 : Int64).toBitVec.msb = false := by decide
    rw [this, Bool.and_false]
  show 0 ≤ (a &&& 9223372036854775807).toBitVec.toInt
  rw [BitVec.toInt_eq_toNat_of_msb h]
  exact Int.natCast_nonneg _
theorem own_and15 (a : Int64) : 0 ≤ (a &&& 15).toInt ∧ (a &&& 15).toInt ≤ 15 := by
  have h : (a &&& 15).toBitVec.msb = false := by
    rw [Int64.toBitVec_and, BitVec.msb_and]
    have : (15 : Int64).toBitVec.msb = false := by decide
    rw [this, Bool.and_false]
  have e : (a &&& 15).toInt = ((a &&& 15).toBitVec.toNat : Int) := BitVec.toInt_eq_toNat_of_msb h
  have b : (a &&& 15).toBitVec.toNat ≤ 15 := by
    rw [Int64.toBitVec_and, BitVec.toNat_and]
    exact Nat.and_le_right
  omega
/-- 1 + x % m for x not negative, m at least 1 -/
theorem own_1mod (x m : Int64) (hx : 0 ≤ x.toInt) (hm : 1 ≤ m.toInt) : (1 + x % m).toInt = 1 + x.toInt % m.toInt ∧ 1 ≤ (1 + x % m).toInt ∧ (1 + x % m).toInt ≤ m.toInt := by
  have e1 : (1 : Int64).toInt = 1 := rfl
  have hm' : (x % m).toInt = x.toInt % m.toInt := by rw [Int64.toInt_mod, Int.tmod_eq_emod_of_nonneg hx]
  have h0 : 0 ≤ x.toInt % m.toInt := Int.emod_nonneg _ (by omega)
  have h1 : x.toInt % m.toInt < m.toInt := Int.emod_lt_of_pos _ (by omega)
  have hb := m.toInt_lt
  have : (1 + x % m).toInt = 1 + x.toInt % m.toInt := by rw [Int64.toInt_add, hm', e1]; exact own_sm (by omega) (by omega)
  omega
theorem own_1and (a : Int64) : 1 ≤ (1 + (a &&& 15)).toInt ∧ (1 + (a &&& 15)).toInt ≤ 16 := by
  have h := own_and15 a
  have e1 : (1 : Int64).toInt = 1 := rfl
  have : (1 + (a &&& 15)).toInt = 1 + (a &&& 15).toInt := by rw [Int64.toInt_add, e1]; exact own_sm (by omega) (by omega)
  omega
theorem own_prod (C I : Int64) (h1 : 1 ≤ C.toInt) (h2 : 1 ≤ I.toInt) (h : C.toInt * I.toInt ≤ 9223372036854775807) : 1 ≤ (C * I).toInt := by
  have hp : 1 ≤ C.toInt * I.toInt := by
    have := Int.mul_le_mul h1 h2 (by omega) (by omega)
    omega
  rw [Int64.toInt_mul, own_sm (by omega) (by omega)]; exact hp
theorem own_big (i c : Int64) : 1 ≤ (1 + ((i &&& 9223372036854775807) % 9223372036854775807)).toInt ∧ ¬ (9223372036854775807 : Int64) / (1 + ((i &&& 9223372036854775807) % 9223372036854775807)) = 0 ∧ 1 ≤ (1 + ((c &&& 9223372036854775807) % ((9223372036854775807 : Int64) / (1 + ((i &&& 9223372036854775807) % 9223372036854775807))))).toInt ∧
    (1 + ((c &&& 9223372036854775807) % ((9223372036854775807 : Int64) / (1 + ((i &&& 9223372036854775807) % 9223372036854775807))))).toInt * (1 + ((i &&& 9223372036854775807) % 9223372036854775807)).toInt ≤ 9223372036854775807 := by
  have eM : (9223372036854775807 : Int64).toInt = 9223372036854775807 := rfl
  have hI := own_1mod (i &&& 9223372036854775807) 9223372036854775807 (own_land_nonneg i) (by rw [eM]; decide)
  rw [eM] at hI
  generalize 1 + ((i &&& 9223372036854775807) % 9223372036854775807) = I at hI ⊢
  have hd : ((9223372036854775807 : Int64) / I).toInt = 9223372036854775807 / I.toInt := by
    rw [Int64.toInt_div, eM, Int.tdiv_eq_ediv_of_nonneg (by decide)]
    have h0 : 0 ≤ 9223372036854775807 / I.toInt := Int.ediv_nonneg (by decide) (by omega)
    have h1 : 9223372036854775807 / I.toInt ≤ 9223372036854775807 := Int.ediv_le_self _ (by decide)
    exact own_sm (by omega) (by omega)
  have hd1 : 1 ≤ 9223372036854775807 / I.toInt := by
    rw [Int.le_ediv_iff_mul_le (by omega)]; omega
  have hC := own_1mod (c &&& 9223372036854775807) ((9223372036854775807 : Int64) / I) (own_land_nonneg c) (by rw [hd]; exact hd1)
  rw [hd] at hC
  refine ⟨hI.2.1, fun q => ?_, hC.2.1, ?_⟩
  · have := congrArg Int64.toInt q
    rw [hd] at this
    have e0 : (0 : Int64).toInt = 0 := rfl
    omega
  · have h1 := Int.mul_le_mul_of_nonneg_right hC.2.2 (by omega : 0 ≤ I.toInt)
    have h2 : 9223372036854775807 / I.toInt * I.toInt ≤ 9223372036854775807 := Int.ediv_mul_le _ (by omega)
    omega

theorem own_pd2 : parseMethodDescriptor "()J" = some ⟨[], some .long⟩ := by decide +kernel
theorem own_pd3 : parseMethodDescriptor "(JJ)J" = some ⟨[.long, .long], some .long⟩ := by decide +kernel
theorem d3_0 : decode prog_20_method_2_code 0 = .ok (.aload_n 0, 1) := by decide +kernel
theorem d3_1 : decode prog_20_method_2_code 1 = .ok (.invokevirtual 13, 3) := by decide +kernel
theorem d3_4 : decode prog_20_method_2_code 4 = .ok (.aload_n 0, 1) := by decide +kernel
theorem d3_5 : decode prog_20_method_2_code 5 = .ok (.invokevirtual 19, 3) := by decide +kernel
theorem d3_8 : decode prog_20_method_2_code 8 = .ok (.lmul, 1) := by decide +kernel
theorem d3_9 : decode prog_20_method_2_code 9 = .ok (.aload_n 0, 1) := by decide +kernel
theorem d3_10 : decode prog_20_method_2_code 10 = .ok (.invokevirtual 22, 3) := by decide +kernel
theorem d3_13 : decode prog_20_method_2_code 13 = .ok (.invokestatic 25, 3) := by decide +kernel
theorem d3_16 : decode prog_20_method_2_code 16 = .ok (.lreturn, 1) := by decide +kernel
theorem ef_rm3 (m : MethodId) (x0 : Addr) : entryFrame m #[(.ref x0)] 1 = mkF m 0 #[.val (.ref x0)] [] := by first | (simp [entryFrame, mkF, argsToLocals, Value.category]; done) | rfl
def own_f3 (r0 : Addr) (cF : Int64) (iF : Int64) (rF : Int64) : Int64 := (own_f7 (cF * iF) rF)
def Q_rm3 (Z : State) (r0 : Addr) (cF : Int64) (iF : Int64) (rF : Int64) (h0 : Heap) (n0 : Nat) (v : Option Value) (h : Heap) (L : List Loc) : Prop := v = some (Value.long (own_f3 r0 cF iF rF)) ∧ Fr n0 L ∧ h = h0
set_option maxRecDepth 65536 in
set_option maxHeartbeats 40000000 in
theorem rm3 (l : Launch) (Z : State) (a0 : Array Value) (hw : ∀ d ∈ tables_1, d.before a0 Z = true) (ws : List Jvm.Cond) (r0 : Addr) (cF : Int64) (iF : Int64) (rF : Int64) (h0 : Heap) (n0 : Nat) (Z0 : n0 ≤ h0.size) (E0r : Exa Z h0 r0 "com/example/weir/weir/Settings") (F_cF : Fld Z h0 r0 "com/example/weir/weir/Settings" "capacity" "J" (.long cF)) (F_iF : Fld Z h0 r0 "com/example/weir/weir/Settings" "intervalMillis" "J" (.long iF)) (F_rF : Fld Z h0 r0 "com/example/weir/weir/Settings" "rate" "J" (.long rF)) (hnz : rF ≠ 0) :
    MetFree l (⟨"com/example/weir/weir/TokenBucket", "fillMillis", "(Lcom/example/weir/weir/Settings;)J"⟩ : MethodName) (head1 (Jvm.Cond.code (⟨"com/example/weir/weir/TokenBucket", "fillMillis", "(Lcom/example/weir/weir/Settings;)J"⟩ : MethodName) prog_20_method_2_code 1 (some .long) :: ws) ({ frames := 1, cells := 0, slots := 0, locals := 15 } : Room)) (fun az Uz => az = #[(.ref r0)] ∧ Z.Warmed39 Uz.vm ∧ Uz.heap = h0) (fun _ _ _ _ _ => True) (fun _ Uz oz Vz => ∃ vz Lz, oz = .returned vz ∧ Q_rm3 Z r0 cF iF rF h0 n0 vz Vz.heap Lz ∧ FrameEnd Uz oz Vz Lz ({ frames := 1, cells := 0, slots := 0, locals := 15 } : Room).cells ({ frames := 1, cells := 0, slots := 0, locals := 15 } : Room).slots) := by
  refine MetFree.of_bodySF (plainFor_of_name own_pn1) hisR ?_
  intro p e s m args below meth c s₁ Bd hml0 hP hK
  obtain ⟨rfl, hZ, hh⟩ := hP
  have hx := Bd.exec
  have hby := Bd.bytes
  have hml : c.maxLocals = 1 := hml0
  have hown : s.vm.findClass "com/example/weir/weir/TokenBucket" = some m.cls := findClass_of_methodNamed Bd.named
  have hnm := (name_of_methodNamed Bd.named Bd.method).1
  have X0 : Stand p l e ({ frames := 1, cells := 0, slots := 0, locals := 15 } : Room) s m #[(.ref r0)] below meth c s₁ [] 0 0 := Stand.of_body Bd
  have e0 : s₁.heap = h0 := by rw [← hh, Bd.state]; rfl
  have N0 := Fr.nil n0
  have K0 : Keep h0 h0 [] := Keep.refl _ _
  refine Go.enter (Q := Q_rm3 Z r0 cF iF rF h0 n0) (C := ({ frames := 1, cells := 0, slots := 0, locals := 15 } : Room).cells) (S := ({ frames := 1, cells := 0, slots := 0, locals := 15 } : Room).slots) (ef_rm3 m r0) ?_
  refine Go.step (fun _ zz => XS.aloadN X0.here hx rfl (hb hby d3_0) rfl rfl zz) ?_
  show Go _ _ _ _ s₁ (mkF m 1 #[.val (.ref r0)] [(.ref r0)])
  obtain ⟨cq1, kq1, q1a, q1b, q1c⟩ := isOf hZ e0 E0r
  obtain ⟨_, _, ⟨T1, L1, k1, n1⟩, -, X1, ⟨Lc1, hQ1, l1, y1, z1⟩, st1⟩ := X0.virtualBack hx (y := (⟨"com/example/weir/weir/Settings", "capacity", "()J"⟩ : MethodName)) (z := (⟨"com/example/weir/weir/Settings", "capacity", "()J"⟩ : MethodName)) hown (mvT hZ (hw _ (List.mem_of_getElem? (i := 25) rfl))) (mvT hZ (hw _ (List.mem_of_getElem? (i := 26) rfl))) (notFace_of_selects (args := #[]) (mvT hZ (hw _ (List.mem_of_getElem? (i := 28) rfl)))) (mvT hZ (hw _ (List.mem_of_getElem? (i := 28) rfl))) (mvT hZ (hw _ (List.mem_of_getElem? (i := 27) rfl))) (by decide) (backOf (W := 0) (rm4 l Z a0 hw [] r0 cF h0 n0 Z0 F_cF) hZ (hw _ (List.mem_of_getElem? (i := 29) rfl)) (hw _ (List.mem_of_getElem? (i := 3) rfl)) (by decide) (by decide)) q1a q1c (g := (mkF m 1 #[.val (.ref r0)] [(.ref r0)])) rfl (by rw [hml]; rfl) (Steps.refl _) (argsL := []) (rest := []) (lenOf own_pd2 rfl) rfl (by show 2 * 0 + _ ≤ _; exact Nat.le_of_eq rfl) (hb hby d3_1) (fun _ _ => ⟨rfl, e0, (by decide : 0 + 0 ≤ _), (by decide : 0 + 0 ≤ _)⟩)
  dsimp only [Pt.U, Pt.locs, Pt.cells, Pt.slots] at X1 l1 y1 z1 st1 hQ1
  subst l1 y1 z1
  obtain ⟨rfl, N1q, e1⟩ := hQ1
  have N1 := Fr.app N0 N1q
  refine Go.tr st1 ?_
  show Go _ _ _ _ T1 (mkF m 4 #[.val (.ref r0)] [(.long cF)])
  refine Go.step (fun _ zz => XS.aloadN X1.here hx rfl (hb hby d3_4) rfl rfl zz) ?_
  show Go _ _ _ _ T1 (mkF m 5 #[.val (.ref r0)] [(.ref r0), (.long cF)])
  obtain ⟨cq2, kq2, q2a, q2b, q2c⟩ := isOf hZ e1 E0r
  obtain ⟨_, _, ⟨T2, L2, k2, n2⟩, -, X2, ⟨Lc2, hQ2, l2, y2, z2⟩, st2⟩ := X1.virtualBack hx (y := (⟨"com/example/weir/weir/Settings", "intervalMillis", "()J"⟩ : MethodName)) (z := (⟨"com/example/weir/weir/Settings", "intervalMillis", "()J"⟩ : MethodName)) hown (mvT hZ (hw _ (List.mem_of_getElem? (i := 30) rfl))) (mvT hZ (hw _ (List.mem_of_getElem? (i := 31) rfl))) (notFace_of_selects (args := #[]) (mvT hZ (hw _ (List.mem_of_getElem? (i := 33) rfl)))) (mvT hZ (hw _ (List.mem_of_getElem? (i := 33) rfl))) (mvT hZ (hw _ (List.mem_of_getElem? (i := 32) rfl))) (by decide) (backOf (W := 2) (rm5 l Z a0 hw [] r0 iF h0 n0 Z0 F_iF) hZ (hw _ (List.mem_of_getElem? (i := 34) rfl)) (hw _ (List.mem_of_getElem? (i := 3) rfl)) (by decide) (by decide)) q2a q2c (g := (mkF m 5 #[.val (.ref r0)] [(.ref r0), (.long cF)])) rfl (by rw [hml]; rfl) (Steps.refl _) (argsL := []) (rest := [(.long cF)]) (lenOf own_pd2 rfl) rfl (by show 2 * 0 + _ ≤ _; exact Nat.le_of_eq rfl) (hb hby d3_5) (fun _ _ => ⟨rfl, e1, (by decide : 0 + 0 ≤ _), (by decide : 0 + 0 ≤ _)⟩)
  dsimp only [Pt.U, Pt.locs, Pt.cells, Pt.slots] at X2 l2 y2 z2 st2 hQ2
  subst l2 y2 z2
  obtain ⟨rfl, N2q, e2⟩ := hQ2
  have N2 := Fr.app N1 N2q
  refine Go.tr st2 ?_
  show Go _ _ _ _ T2 (mkF m 8 #[.val (.ref r0)] [(.long iF), (.long cF)])
  refine Go.step (fun _ zz => XS.lmul X2.here hx rfl (hb hby d3_8) rfl zz) ?_
  show Go _ _ _ _ T2 (mkF m 9 #[.val (.ref r0)] [(.long (cF * iF))])
  refine Go.step (fun _ zz => XS.aloadN X2.here hx rfl (hb hby d3_9) rfl rfl zz) ?_
  show Go _ _ _ _ T2 (mkF m 10 #[.val (.ref r0)] [(.ref r0), (.long (cF * iF))])
  obtain ⟨cq3, kq3, q3a, q3b, q3c⟩ := isOf hZ e2 E0r
  obtain ⟨_, _, ⟨T3, L3, k3, n3⟩, -, X3, ⟨Lc3, hQ3, l3, y3, z3⟩, st3⟩ := X2.virtualBack hx (y := (⟨"com/example/weir/weir/Settings", "rate", "()J"⟩ : MethodName)) (z := (⟨"com/example/weir/weir/Settings", "rate", "()J"⟩ : MethodName)) hown (mvT hZ (hw _ (List.mem_of_getElem? (i := 35) rfl))) (mvT hZ (hw _ (List.mem_of_getElem? (i := 36) rfl))) (notFace_of_selects (args := #[]) (mvT hZ (hw _ (List.mem_of_getElem? (i := 38) rfl)))) (mvT hZ (hw _ (List.mem_of_getElem? (i := 38) rfl))) (mvT hZ (hw _ (List.mem_of_getElem? (i := 37) rfl))) (by decide) (backOf (W := 2) (rm6 l Z a0 hw [] r0 rF h0 n0 Z0 F_rF) hZ (hw _ (List.mem_of_getElem? (i := 39) rfl)) (hw _ (List.mem_of_getElem? (i := 3) rfl)) (by decide) (by decide)) q3a q3c (g := (mkF m 10 #[.val (.ref r0)] [(.ref r0), (.long (cF * iF))])) rfl (by rw [hml]; rfl) (Steps.refl _) (argsL := []) (rest := [(.long (cF * iF))]) (lenOf own_pd2 rfl) rfl (by show 2 * 0 + _ ≤ _; exact Nat.le_of_eq rfl) (hb hby d3_10) (fun _ _ => ⟨rfl, e2, (by decide : 0 + 0 ≤ _), (by decide : 0 + 0 ≤ _)⟩)
  dsimp only [Pt.U, Pt.locs, Pt.cells, Pt.slots] at X3 l3 y3 z3 st3 hQ3
  subst l3 y3 z3
  obtain ⟨rfl, N3q, e3⟩ := hQ3
  have N3 := Fr.app N2 N3q
  refine Go.tr st3 ?_
  show Go _ _ _ _ T3 (mkF m 13 #[.val (.ref r0)] [(.long rF), (.long (cF * iF))])
  obtain ⟨_, _, ⟨T4, L4, k4, n4⟩, -, X4, ⟨Lc4, hQ4, l4, y4, z4⟩, st4⟩ := Jvm.LawKit.callS X3 hx (y := (⟨"com/example/weir/weir/TokenBucket", "ceilDiv", "(JJ)J"⟩ : MethodName)) hown (mvT hZ (hw _ (List.mem_of_getElem? (i := 40) rfl))) (mvT hZ (hw _ (List.mem_of_getElem? (i := 41) rfl))) (mvT hZ (hw _ (List.mem_of_getElem? (i := 23) rfl))) (mvT hZ (hw _ (List.mem_of_getElem? (i := 42) rfl))) (by decide) (backOf (W := 0) (rm7 l Z a0 hw [] (cF * iF) rF h0 n0 Z0 hnz) hZ (hw _ (List.mem_of_getElem? (i := 42) rfl)) (hw _ (List.mem_of_getElem? (i := 23) rfl)) (by decide) (by decide)) (g := (mkF m 13 #[.val (.ref r0)] [(.long rF), (.long (cF * iF))])) rfl (by rw [hml]; rfl) (argsL := [(.long (cF * iF)), (.long rF)]) (rest := []) (lenOf own_pd3 rfl) rfl (by show 2 * 0 + _ ≤ _; exact Nat.le_of_eq rfl) (hb hby d3_13) (fun _ _ => ⟨rfl, e3, (by decide : 0 + 0 ≤ _), (by decide : 0 + 0 ≤ _)⟩)
  dsimp only [Pt.U, Pt.locs, Pt.cells, Pt.slots] at X4 l4 y4 z4 st4 hQ4
  subst l4 y4 z4
  obtain ⟨rfl, N4q, e4⟩ := hQ4
  have N4 := Fr.app N3 N4q
  refine Go.step st4 ?_
  show Go _ _ _ _ T4 (mkF m 16 #[.val (.ref r0)] [(.long (own_f7 (cF * iF) rF))])
  exact Go.retJ X4 hx Bd.returns (hb hby d3_16) Bd.notSynchronized (⟨congrArg (fun q => some (Value.long q)) (show own_f3 r0 cF iF rF = (own_f7 (cF * iF) rF) from rfl).symm, N4, e4⟩) (by decide) (by decide)
theorem own_ne0 {x : Int64} (h : 1 ≤ x.toInt) : x ≠ 0 := fun q => by
  rw [q] at h
  exact absurd h (by decide)
theorem own_pd4 : parseMethodDescriptor "(Lcom/example/weir/weir/Algorithm;JJJ)V" = some ⟨[(.object "com/example/weir/weir/Algorithm"), .long, .long, .long], none⟩ := by decide +kernel
theorem own_pd5 : parseMethodDescriptor "(Lcom/example/weir/weir/Settings;)J" = some ⟨[(.object "com/example/weir/weir/Settings")], some .long⟩ := by decide +kernel
theorem own_pn6 : plainName "com/example/weir/weir/TokenBucketFillMillisPinLaw" = true := by first | (simp [plainName, overriddenIn]; done) | decide +kernel
theorem ef_rm0 (m : MethodId) (x0 : Int64) (x1 : Int64) (x2 : Int64) (x3 : Int32) : entryFrame m #[(.long x0), (.long x1), (.long x2), (.int x3)] maxLocals = mkF m 0 #[.val (.long x0), .second, .val (.long x1), .second, .val (.long x2), .second, .val (.int x3), .unset, .unset, .unset, .unset, .unset, .unset, .unset, .unset, .unset, .unset, .unset, .unset, .unset, .unset, .unset] [] := by first | (simp [entryFrame, mkF, argsToLocals, Value.category, maxLocals]; done) | rfl
def own_d0_81_L7 (q0 : Int64) (q1 : Int64) (q2 : Int64) (p3 : Int32) (w : Nat → Addr) : Int64 := (if (p3 &&& (1 : Int32)) = (0 : Int32) then ((1 : Int64) + ((q0 &&& (9223372036854775807 : Int64)) % ((9223372036854775807 : Int64) / ((1 : Int64) + ((q1 &&& (9223372036854775807 : Int64)) % (9223372036854775807 : Int64)))))) else ((1 : Int64) + (q0 &&& (15 : Int64))))
def own_d0_81_L9 (q0 : Int64) (q1 : Int64) (q2 : Int64) (p3 : Int32) (w : Nat → Addr) : Int64 := (if (p3 &&& (1 : Int32)) = (0 : Int32) then ((1 : Int64) + ((q1 &&& (9223372036854775807 : Int64)) % (9223372036854775807 : Int64))) else ((1 : Int64) + (q1 &&& (15 : Int64))))
def own_d0_81_L11 (q0 : Int64) (q1 : Int64) (q2 : Int64) (p3 : Int32) (w : Nat → Addr) : Int64 := (if (p3 &&& (1 : Int32)) = (0 : Int32) then ((1 : Int64) + ((q2 &&& (9223372036854775807 : Int64)) % (9223372036854775807 : Int64))) else ((1 : Int64) + (q2 &&& (15 : Int64))))
theorem own_bd (q0 q1 q2 : Int64) (p3 : Int32) (w : Nat → Addr) : 1 ≤ (own_d0_81_L7 q0 q1 q2 p3 w).toInt ∧ 1 ≤ (own_d0_81_L9 q0 q1 q2 p3 w).toInt ∧ 1 ≤ (own_d0_81_L11 q0 q1 q2 p3 w).toInt ∧ (own_d0_81_L7 q0 q1 q2 p3 w).toInt * (own_d0_81_L9 q0 q1 q2 p3 w).toInt ≤ 9223372036854775807 := by
  unfold own_d0_81_L7 own_d0_81_L9 own_d0_81_L11
  by_cases h : (p3 &&& (1 : Int32)) = (0 : Int32)
  · rw [if_pos h, if_pos h, if_pos h]
    have hb := own_big q1 q0
    have hr := own_1mod (q2 &&& 9223372036854775807) 9223372036854775807 (own_land_nonneg q2) (by decide)
    exact ⟨hb.2.2.1, hb.1, hr.2.1, hb.2.2.2⟩
  · rw [if_neg h, if_neg h, if_neg h]
    have h0 := own_1and q0
    have h1 := own_1and q1
    have h2 := own_1and q2
    refine ⟨h0.1, h1.1, h2.1, ?_⟩
    have := Int.mul_le_mul h0.2 h1.2 (by omega) (by omega)
    omega
def Q_rm0 (Z : State) (q0 : Int64) (q1 : Int64) (q2 : Int64) (p3 : Int32) (w : Nat → Addr) (h0 : Heap) (n0 : Nat) (v : Option Value) (h : Heap) (L : List Loc) : Prop := v = some (.int (1 : Int32)) ∧ Fr n0 L
set_option maxRecDepth 65536 in
set_option maxHeartbeats 40000000 in
theorem rm0 (l : Launch) (Z : State) (a0 : Array Value) (hw : ∀ d ∈ tables_1, d.before a0 Z = true) (ws : List Jvm.Cond) (q0 : Int64) (q1 : Int64) (q2 : Int64) (p3 : Int32) (w : Nat → Addr) (h0 : Heap) (n0 : Nat) (Z0 : n0 ≤ h0.size) (O0 : Old Z n0 h0) (wd : Wd Z w) :
    MetFree l x (head1 (Jvm.Cond.code x code maxLocals ret :: ws) room_1) (fun az Uz => az = #[(.long q0), (.long q1), (.long q2), (.int p3)] ∧ Z.Warmed39 Uz.vm ∧ Uz.heap = h0) (fun _ _ _ _ _ => True) (fun _ Uz oz Vz => ∃ vz Lz, oz = .returned vz ∧ Q_rm0 Z q0 q1 q2 p3 w h0 n0 vz Vz.heap Lz ∧ FrameEnd Uz oz Vz Lz room_1.cells room_1.slots) := by
  refine MetFree.of_bodySF (plainFor_of_name own_pn6) hisR ?_
  intro p e s m args below meth c s₁ Bd hml0 hP hK
  obtain ⟨rfl, hZ, hh⟩ := hP
  have hx := Bd.exec
  have hby := Bd.bytes
  have hml : c.maxLocals = 22 := hml0
  have hown : s.vm.findClass "com/example/weir/weir/TokenBucketFillMillisPinLaw" = some m.cls := findClass_of_methodNamed Bd.named
  have hnm := (name_of_methodNamed Bd.named Bd.method).1
  have X0 : Stand p l e room_1 s m #[(.long q0), (.long q1), (.long q2), (.int p3)] below meth c s₁ [] 0 0 := Stand.of_body Bd
  have e0 : s₁.heap = h0 := by rw [← hh, Bd.state]; rfl
  have N0 := Fr.nil n0
  have K0 : Keep h0 h0 [] := Keep.refl _ _
  refine Go.enter (Q := Q_rm0 Z q0 q1 q2 p3 w h0 n0) (C := room_1.cells) (S := room_1.slots) (ef_rm0 m q0 q1 q2 p3) ?_
  have jn81 : ∀ (Tj81 : State) (lj81 : List Loc) (Xj81 : Stand p l e room_1 s m #[(.long q0), (.long q1), (.long q2), (.int p3)] below meth c Tj81 lj81 0 0) (Nj81 : Fr n0 lj81) (ej81 : Tj81.heap = h0), Go p.tables e below (RT (Q_rm0 Z q0 q1 q2 p3 w h0 n0) s room_1.cells room_1.slots) Tj81 (mkF m 81 #[.val (.long q0), .second, .val (.long q1), .second, .val (.long q2), .second, .val (.int p3), .val (.long (own_d0_81_L7 q0 q1 q2 p3 w)), .second, .val (.long (own_d0_81_L9 q0 q1 q2 p3 w)), .second, .val (.long (own_d0_81_L11 q0 q1 q2 p3 w)), .second, .unset, .unset, .unset, .unset, .unset, .unset, .unset, .unset, .unset] []) := by
    intro Tj81 lj81 Xj81 Nj81 ej81
    have hB := own_bd q0 q1 q2 p3 w
    have hF := own_prod _ _ hB.1 hB.2.1 hB.2.2.2
    have hC := own_ceil _ _ hF hB.2.2.1
    obtain ⟨T1, h1, X1, e1, E1, A1, D1, -, st1⟩ := newO Xj81 hx hZ hown (hw _ (List.mem_of_getElem? (i := 1) rfl)) (hw _ (List.mem_of_getElem? (i := 2) rfl)) (hw _ (List.mem_of_getElem? (i := 3) rfl)) ej81 (g := (mkF m 81 #[.val (.long q0), .second, .val (.long q1), .second, .val (.long q2), .second, .val (.int p3), .val (.long (own_d0_81_L7 q0 q1 q2 p3 w)), .second, .val (.long (own_d0_81_L9 q0 q1 q2 p3 w)), .second, .val (.long (own_d0_81_L11 q0 q1 q2 p3 w)), .second, .unset, .unset, .unset, .unset, .unset, .unset, .unset, .unset, .unset] [])) rfl (hb hby at_81) (by decide) (by decide)
    obtain ⟨b1, g1⟩ : ∃ z, z = h0.size := ⟨_, rfl⟩
    rw [← g1] at A1 D1 st1
    have F1_14 : Fld Z h1 b1 "com/example/weir/weir/Settings" "algorithm" "Lcom/example/weir/weir/Algorithm;" .null := D1 (Or.inr (hw _ (List.mem_of_getElem? (i := 14) rfl))) (ty := (.object "com/example/weir/weir/Algorithm")) (by decide)
    have F1_16 : Fld Z h1 b1 "com/example/weir/weir/Settings" "capacity" "J" (.long (0 : Int64)) := D1 (Or.inr (hw _ (List.mem_of_getElem? (i := 16) rfl))) (ty := .long) (by decide)
    have F1_18 : Fld Z h1 b1 "com/example/weir/weir/Settings" "rate" "J" (.long (0 : Int64)) := D1 (Or.inr (hw _ (List.mem_of_getElem? (i := 18) rfl))) (ty := .long) (by decide)
    have F1_20 : Fld Z h1 b1 "com/example/weir/weir/Settings" "intervalMillis" "J" (.long (0 : Int64)) := D1 (Or.inr (hw _ (List.mem_of_getElem? (i := 20) rfl))) (ty := .long) (by decide)
    have g_b1 : n0 ≤ b1 := Nat.le_trans Z0 (Nat.le_of_eq g1.symm)
    have sz_b1 : h0.size ≤ b1 := Nat.le_trans K0.1 (Nat.le_of_eq g1.symm)
    have K1 : Keep h0 h1 [] := K0.ext E1
    refine Go.step st1 ?_
    show Go _ _ _ _ T1 (mkF m 84 #[.val (.long q0), .second, .val (.long q1), .second, .val (.long q2), .second, .val (.int p3), .val (.long (own_d0_81_L7 q0 q1 q2 p3 w)), .second, .val (.long (own_d0_81_L9 q0 q1 q2 p3 w)), .second, .val (.long (own_d0_81_L11 q0 q1 q2 p3 w)), .second, .unset, .unset, .unset, .unset, .unset, .unset, .unset, .unset, .unset] [(.ref b1)])
    refine Go.step (fun _ zz => XS.dup X1.here hx rfl (hb hby at_84) rfl rfl zz) ?_
    show Go _ _ _ _ T1 (mkF m 85 #[.val (.long q0), .second, .val (.long q1), .second, .val (.long q2), .second, .val (.int p3), .val (.long (own_d0_81_L7 q0 q1 q2 p3 w)), .second, .val (.long (own_d0_81_L9 q0 q1 q2 p3 w)), .second, .val (.long (own_d0_81_L11 q0 q1 q2 p3 w)), .second, .unset, .unset, .unset, .unset, .unset, .unset, .unset, .unset, .unset] [(.ref b1), (.ref b1)])
    obtain ⟨T2, X2, e2, st2⟩ := getS2 X1 hx hZ hown (host := "") (Or.inl (hw _ (List.mem_of_getElem? (i := 4) rfl))) Via.refl e1 ((wd0 wd).ext (O0.ext E1).2) (g := (mkF m 85 #[.val (.long q0), .second, .val (.long q1), .second, .val (.long q2), .second, .val (.int p3), .val (.long (own_d0_81_L7 q0 q1 q2 p3 w)), .second, .val (.long (own_d0_81_L9 q0 q1 q2 p3 w)), .second, .val (.long (own_d0_81_L11 q0 q1 q2 p3 w)), .second, .unset, .unset, .unset, .unset, .unset, .unset, .unset, .unset, .unset] [(.ref b1), (.ref b1)])) rfl (hb hby at_85)
    refine Go.step st2 ?_
    show Go _ _ _ _ T2 (mkF m 88 #[.val (.long q0), .second, .val (.long q1), .second, .val (.long q2), .second, .val (.int p3), .val (.long (own_d0_81_L7 q0 q1 q2 p3 w)), .second, .val (.long (own_d0_81_L9 q0 q1 q2 p3 w)), .second, .val (.long (own_d0_81_L11 q0 q1 q2 p3 w)), .second, .unset, .unset, .unset, .unset, .unset, .unset, .unset, .unset, .unset] [(.ref (w 0)), (.ref b1), (.ref b1)])
    refine Go.step (fun _ zz => XS.lload X2.here hx rfl (hb hby at_88) rfl zz) ?_
    show Go _ _ _ _ T2 (mkF m 90 #[.val (.long q0), .second, .val (.long q1), .second, .val (.long q2), .second, .val (.int p3), .val (.long (own_d0_81_L7 q0 q1 q2 p3 w)), .second, .val (.long (own_d0_81_L9 q0 q1 q2 p3 w)), .second, .val (.long (own_d0_81_L11 q0 q1 q2 p3 w)), .second, .unset, .unset, .unset, .unset, .unset, .unset, .unset, .unset, .unset] [(.long (own_d0_81_L7 q0 q1 q2 p3 w)), (.ref (w 0)), (.ref b1), (.ref b1)])
    refine Go.step (fun _ zz => XS.lload X2.here hx rfl (hb hby at_90) rfl zz) ?_
    show Go _ _ _ _ T2 (mkF m 92 #[.val (.long q0), .second, .val (.long q1), .second, .val (.long q2), .second, .val (.int p3), .val (.long (own_d0_81_L7 q0 q1 q2 p3 w)), .second, .val (.long (own_d0_81_L9 q0 q1 q2 p3 w)), .second, .val (.long (own_d0_81_L11 q0 q1 q2 p3 w)), .second, .unset, .unset, .unset, .unset, .unset, .unset, .unset, .unset, .unset] [(.long (own_d0_81_L11 q0 q1 q2 p3 w)), (.long (own_d0_81_L7 q0 q1 q2 p3 w)), (.ref (w 0)), (.ref b1), (.ref b1)])
    refine Go.step (fun _ zz => XS.lload X2.here hx rfl (hb hby at_92) rfl zz) ?_
    show Go _ _ _ _ T2 (mkF m 94 #[.val (.long q0), .second, .val (.long q1), .second, .val (.long q2), .second, .val (.int p3), .val (.long (own_d0_81_L7 q0 q1 q2 p3 w)), .second, .val (.long (own_d0_81_L9 q0 q1 q2 p3 w)), .second, .val (.long (own_d0_81_L11 q0 q1 q2 p3 w)), .second, .unset, .unset, .unset, .unset, .unset, .unset, .unset, .unset, .unset] [(.long (own_d0_81_L9 q0 q1 q2 p3 w)), (.long (own_d0_81_L11 q0 q1 q2 p3 w)), (.long (own_d0_81_L7 q0 q1 q2 p3 w)), (.ref (w 0)), (.ref b1), (.ref b1)])
    obtain ⟨_, _, ⟨T3, L3, k3, n3⟩, -, X3, ⟨Lc3, hQ3, l3, y3, z3⟩, st3⟩ := X2.specialBack hx (y := (⟨"com/example/weir/weir/Settings", "<init>", "(Lcom/example/weir/weir/Algorithm;JJJ)V"⟩ : MethodName)) rfl hown (mvT hZ (hw _ (List.mem_of_getElem? (i := 7) rfl))) (mvT hZ (hw _ (List.mem_of_getElem? (i := 8) rfl))) (mvT hZ (hw _ (List.mem_of_getElem? (i := 9) rfl))) (by decide) (backOf (W := 1) (rm1 l Z a0 hw [] b1 (w 0) (own_d0_81_L7 q0 q1 q2 p3 w) (own_d0_81_L11 q0 q1 q2 p3 w) (own_d0_81_L9 q0 q1 q2 p3 w) h1 n0 (Nat.le_trans Z0 E1.1) g_b1 A1 F1_14 F1_16 F1_18 F1_20) hZ (hw _ (List.mem_of_getElem? (i := 9) rfl)) (hw _ (List.mem_of_getElem? (i := 3) rfl)) (by decide) (by decide)) (g := (mkF m 94 #[.val (.long q0), .second, .val (.long q1), .second, .val (.long q2), .second, .val (.int p3), .val (.long (own_d0_81_L7 q0 q1 q2 p3 w)), .second, .val (.long (own_d0_81_L9 q0 q1 q2 p3 w)), .second, .val (.long (own_d0_81_L11 q0 q1 q2 p3 w)), .second, .unset, .unset, .unset, .unset, .unset, .unset, .unset, .unset, .unset] [(.long (own_d0_81_L9 q0 q1 q2 p3 w)), (.long (own_d0_81_L11 q0 q1 q2 p3 w)), (.long (own_d0_81_L7 q0 q1 q2 p3 w)), (.ref (w 0)), (.ref b1), (.ref b1)])) rfl (by rw [hml]; rfl) (Steps.refl _) (a := b1) (argsL := [(.ref (w 0)), (.long (own_d0_81_L7 q0 q1 q2 p3 w)), (.long (own_d0_81_L11 q0 q1 q2 p3 w)), (.long (own_d0_81_L9 q0 q1 q2 p3 w))]) (rest := [(.ref b1)]) (lenOf own_pd4 rfl) rfl (by show 2 * 0 + _ ≤ _; exact Nat.le_of_eq rfl) (hb hby at_94) (fun _ _ => ⟨rfl, e2, (by decide : 1 + 0 ≤ _), (by decide : 4 + 0 ≤ _)⟩)
    dsimp only [Pt.U, Pt.locs, Pt.cells, Pt.slots] at X3 l3 y3 z3 st3 hQ3
    subst l3 y3 z3
    obtain ⟨rfl, N3q, K3, E3, F3_0, F3_1, F3_2, F3_3⟩ := hQ3
    have N3 := Fr.app Nj81 N3q
    refine Go.tr st3 ?_
    have Kc3 : Keep h0 T3.heap [] := K1.trans K3 (allS (Or.inr sz_b1) all0)
    show Go _ _ _ _ T3 (mkF m 97 #[.val (.long q0), .second, .val (.long q1), .second, .val (.long q2), .second, .val (.int p3), .val (.long (own_d0_81_L7 q0 q1 q2 p3 w)), .second, .val (.long (own_d0_81_L9 q0 q1 q2 p3 w)), .second, .val (.long (own_d0_81_L11 q0 q1 q2 p3 w)), .second, .unset, .unset, .unset, .unset, .unset, .unset, .unset, .unset, .unset] [(.ref b1)])
    refine Go.step (fun _ zz => XS.astore X3.here hx rfl (hb hby at_97) rfl rfl (l' := #[.val (.long q0), .second, .val (.long q1), .second, .val (.long q2), .second, .val (.int p3), .val (.long (own_d0_81_L7 q0 q1 q2 p3 w)), .second, .val (.long (own_d0_81_L9 q0 q1 q2 p3 w)), .second, .val (.long (own_d0_81_L11 q0 q1 q2 p3 w)), .second, .val (.ref b1), .unset, .unset, .unset, .unset, .unset, .unset, .unset, .unset]) rfl zz) ?_
    show Go _ _ _ _ T3 (mkF m 99 #[.val (.long q0), .second, .val (.long q1), .second, .val (.long q2), .second, .val (.int p3), .val (.long (own_d0_81_L7 q0 q1 q2 p3 w)), .second, .val (.long (own_d0_81_L9 q0 q1 q2 p3 w)), .second, .val (.long (own_d0_81_L11 q0 q1 q2 p3 w)), .second, .val (.ref b1), .unset, .unset, .unset, .unset, .unset, .unset, .unset, .unset] [])
    refine Go.step (fun _ zz => XS.lload X3.here hx rfl (hb hby at_99) rfl zz) ?_
    show Go _ _ _ _ T3 (mkF m 101 #[.val (.long q0), .second, .val (.long q1), .second, .val (.long q2), .second, .val (.int p3), .val (.long (own_d0_81_L7 q0 q1 q2 p3 w)), .second, .val (.long (own_d0_81_L9 q0 q1 q2 p3 w)), .second, .val (.long (own_d0_81_L11 q0 q1 q2 p3 w)), .second, .val (.ref b1), .unset, .unset, .unset, .unset, .unset, .unset, .unset, .unset] [(.long (own_d0_81_L7 q0 q1 q2 p3 w))])
    refine Go.step (fun _ zz => XS.lload X3.here hx rfl (hb hby at_101) rfl zz) ?_
    show Go _ _ _ _ T3 (mkF m 103 #[.val (.long q0), .second, .val (.long q1), .second, .val (.long q2), .second, .val (.int p3), .val (.long (own_d0_81_L7 q0 q1 q2 p3 w)), .second, .val (.long (own_d0_81_L9 q0 q1 q2 p3 w)), .second, .val (.long (own_d0_81_L11 q0 q1 q2 p3 w)), .second, .val (.ref b1), .unset, .unset, .unset, .unset, .unset, .unset, .unset, .unset] [(.long (own_d0_81_L9 q0 q1 q2 p3 w)), (.long (own_d0_81_L7 q0 q1 q2 p3 w))])
    refine Go.step (fun _ zz => XS.lmul X3.here hx rfl (hb hby at_103) rfl zz) ?_
    show Go _ _ _ _ T3 (mkF m 104 #[.val (.long q0), .second, .val (.long q1), .second, .val (.long q2), .second, .val (.int p3), .val (.long (own_d0_81_L7 q0 q1 q2 p3 w)), .second, .val (.long (own_d0_81_L9 q0 q1 q2 p3 w)), .second, .val (.long (own_d0_81_L11 q0 q1 q2 p3 w)), .second, .val (.ref b1), .unset, .unset, .unset, .unset, .unset, .unset, .unset, .unset] [(.long ((own_d0_81_L7 q0 q1 q2 p3 w) * (own_d0_81_L9 q0 q1 q2 p3 w)))])
    refine Go.step (fun _ zz => XS.lstore X3.here hx rfl (hb hby at_104) rfl (l' := #[.val (.long q0), .second, .val (.long q1), .second, .val (.long q2), .second, .val (.int p3), .val (.long (own_d0_81_L7 q0 q1 q2 p3 w)), .second, .val (.long (own_d0_81_L9 q0 q1 q2 p3 w)), .second, .val (.long (own_d0_81_L11 q0 q1 q2 p3 w)), .second, .val (.ref b1), .val (.long ((own_d0_81_L7 q0 q1 q2 p3 w) * (own_d0_81_L9 q0 q1 q2 p3 w))), .second, .unset, .unset, .unset, .unset, .unset, .unset]) rfl zz) ?_
    show Go _ _ _ _ T3 (mkF m 106 #[.val (.long q0), .second, .val (.long q1), .second, .val (.long q2), .second, .val (.int p3), .val (.long (own_d0_81_L7 q0 q1 q2 p3 w)), .second, .val (.long (own_d0_81_L9 q0 q1 q2 p3 w)), .second, .val (.long (own_d0_81_L11 q0 q1 q2 p3 w)), .second, .val (.ref b1), .val (.long ((own_d0_81_L7 q0 q1 q2 p3 w) * (own_d0_81_L9 q0 q1 q2 p3 w))), .second, .unset, .unset, .unset, .unset, .unset, .unset] [])
    refine Go.step (fun _ zz => XS.aload X3.here hx rfl (hb hby at_106) rfl rfl zz) ?_
    show Go _ _ _ _ T3 (mkF m 108 #[.val (.long q0), .second, .val (.long q1), .second, .val (.long q2), .second, .val (.int p3), .val (.long (own_d0_81_L7 q0 q1 q2 p3 w)), .second, .val (.long (own_d0_81_L9 q0 q1 q2 p3 w)), .second, .val (.long (own_d0_81_L11 q0 q1 q2 p3 w)), .second, .val (.ref b1), .val (.long ((own_d0_81_L7 q0 q1 q2 p3 w) * (own_d0_81_L9 q0 q1 q2 p3 w))), .second, .unset, .unset, .unset, .unset, .unset, .unset] [(.ref b1)])
    obtain ⟨_, _, ⟨T4, L4, k4, n4⟩, -, X4, ⟨Lc4, hQ4, l4, y4, z4⟩, st4⟩ := Jvm.LawKit.callS X3 hx (y := (⟨"com/example/weir/weir/TokenBucket", "fillMillis", "(Lcom/example/weir/weir/Settings;)J"⟩ : MethodName)) hown (mvT hZ (hw _ (List.mem_of_getElem? (i := 21) rfl))) (mvT hZ (hw _ (List.mem_of_getElem? (i := 22) rfl))) (mvT hZ (hw _ (List.mem_of_getElem? (i := 23) rfl))) (mvT hZ (hw _ (List.mem_of_getElem? (i := 24) rfl))) (by decide) (backOf (W := 0) (rm3 l Z a0 hw [] b1 (own_d0_81_L7 q0 q1 q2 p3 w) (own_d0_81_L9 q0 q1 q2 p3 w) (own_d0_81_L11 q0 q1 q2 p3 w) T3.heap n0 (Nat.le_trans (Nat.le_trans Z0 E1.1) K3.1) E3 F3_1 F3_3 F3_2 (own_ne0 hB.2.2.1)) hZ (hw _ (List.mem_of_getElem? (i := 24) rfl)) (hw _ (List.mem_of_getElem? (i := 23) rfl)) (by decide) (by decide)) (g := (mkF m 108 #[.val (.long q0), .second, .val (.long q1), .second, .val (.long q2), .second, .val (.int p3), .val (.long (own_d0_81_L7 q0 q1 q2 p3 w)), .second, .val (.long (own_d0_81_L9 q0 q1 q2 p3 w)), .second, .val (.long (own_d0_81_L11 q0 q1 q2 p3 w)), .second, .val (.ref b1), .val (.long ((own_d0_81_L7 q0 q1 q2 p3 w) * (own_d0_81_L9 q0 q1 q2 p3 w))), .second, .unset, .unset, .unset, .unset, .unset, .unset] [(.ref b1)])) rfl (by rw [hml]; rfl) (argsL := [(.ref b1)]) (rest := []) (lenOf own_pd5 rfl) rfl (by show 2 * 0 + _ ≤ _; exact Nat.le_of_eq rfl) (hb hby at_108) (fun _ _ => ⟨rfl, rfl, (by decide : 1 + 0 ≤ _), (by decide : 4 + 0 ≤ _)⟩)
    dsimp only [Pt.U, Pt.locs, Pt.cells, Pt.slots] at X4 l4 y4 z4 st4 hQ4
    subst l4 y4 z4
    obtain ⟨rfl, N4q, e4⟩ := hQ4
    have N4 := Fr.app N3 N4q
    refine Go.step st4 ?_
    show Go _ _ _ _ T4 (mkF m 111 #[.val (.long q0), .second, .val (.long q1), .second, .val (.long q2), .second, .val (.int p3), .val (.long (own_d0_81_L7 q0 q1 q2 p3 w)), .second, .val (.long (own_d0_81_L9 q0 q1 q2 p3 w)), .second, .val (.long (own_d0_81_L11 q0 q1 q2 p3 w)), .second, .val (.ref b1), .val (.long ((own_d0_81_L7 q0 q1 q2 p3 w) * (own_d0_81_L9 q0 q1 q2 p3 w))), .second, .unset, .unset, .unset, .unset, .unset, .unset] [(.long (own_f7 ((own_d0_81_L7 q0 q1 q2 p3 w) * (own_d0_81_L9 q0 q1 q2 p3 w)) (own_d0_81_L11 q0 q1 q2 p3 w)))])
    refine Go.step (fun _ zz => XS.lstore X4.here hx rfl (hb hby at_111) rfl (l' := #[.val (.long q0), .second, .val (.long q1), .second, .val (.long q2), .second, .val (.int p3), .val (.long (own_d0_81_L7 q0 q1 q2 p3 w)), .second, .val (.long (own_d0_81_L9 q0 q1 q2 p3 w)), .second, .val (.long (own_d0_81_L11 q0 q1 q2 p3 w)), .second, .val (.ref b1), .val (.long ((own_d0_81_L7 q0 q1 q2 p3 w) * (own_d0_81_L9 q0 q1 q2 p3 w))), .second, .val (.long (own_f7 ((own_d0_81_L7 q0 q1 q2 p3 w) * (own_d0_81_L9 q0 q1 q2 p3 w)) (own_d0_81_L11 q0 q1 q2 p3 w))), .second, .unset, .unset, .unset, .unset]) rfl zz) ?_
    show Go _ _ _ _ T4 (mkF m 113 #[.val (.long q0), .second, .val (.long q1), .second, .val (.long q2), .second, .val (.int p3), .val (.long (own_d0_81_L7 q0 q1 q2 p3 w)), .second, .val (.long (own_d0_81_L9 q0 q1 q2 p3 w)), .second, .val (.long (own_d0_81_L11 q0 q1 q2 p3 w)), .second, .val (.ref b1), .val (.long ((own_d0_81_L7 q0 q1 q2 p3 w) * (own_d0_81_L9 q0 q1 q2 p3 w))), .second, .val (.long (own_f7 ((own_d0_81_L7 q0 q1 q2 p3 w) * (own_d0_81_L9 q0 q1 q2 p3 w)) (own_d0_81_L11 q0 q1 q2 p3 w))), .second, .unset, .unset, .unset, .unset] [])
    refine Go.step (fun _ zz => XS.lload X4.here hx rfl (hb hby at_113) rfl zz) ?_
    show Go _ _ _ _ T4 (mkF m 115 #[.val (.long q0), .second, .val (.long q1), .second, .val (.long q2), .second, .val (.int p3), .val (.long (own_d0_81_L7 q0 q1 q2 p3 w)), .second, .val (.long (own_d0_81_L9 q0 q1 q2 p3 w)), .second, .val (.long (own_d0_81_L11 q0 q1 q2 p3 w)), .second, .val (.ref b1), .val (.long ((own_d0_81_L7 q0 q1 q2 p3 w) * (own_d0_81_L9 q0 q1 q2 p3 w))), .second, .val (.long (own_f7 ((own_d0_81_L7 q0 q1 q2 p3 w) * (own_d0_81_L9 q0 q1 q2 p3 w)) (own_d0_81_L11 q0 q1 q2 p3 w))), .second, .unset, .unset, .unset, .unset] [(.long (own_f7 ((own_d0_81_L7 q0 q1 q2 p3 w) * (own_d0_81_L9 q0 q1 q2 p3 w)) (own_d0_81_L11 q0 q1 q2 p3 w)))])
    refine Go.step (fun _ zz => XS.lconst X4.here hx rfl (hb hby at_115) zz) ?_
    show Go _ _ _ _ T4 (mkF m 116 #[.val (.long q0), .second, .val (.long q1), .second, .val (.long q2), .second, .val (.int p3), .val (.long (own_d0_81_L7 q0 q1 q2 p3 w)), .second, .val (.long (own_d0_81_L9 q0 q1 q2 p3 w)), .second, .val (.long (own_d0_81_L11 q0 q1 q2 p3 w)), .second, .val (.ref b1), .val (.long ((own_d0_81_L7 q0 q1 q2 p3 w) * (own_d0_81_L9 q0 q1 q2 p3 w))), .second, .val (.long (own_f7 ((own_d0_81_L7 q0 q1 q2 p3 w) * (own_d0_81_L9 q0 q1 q2 p3 w)) (own_d0_81_L11 q0 q1 q2 p3 w))), .second, .unset, .unset, .unset, .unset] [(.long (1 : Int64)), (.long (own_f7 ((own_d0_81_L7 q0 q1 q2 p3 w) * (own_d0_81_L9 q0 q1 q2 p3 w)) (own_d0_81_L11 q0 q1 q2 p3 w)))])
    refine Go.step (fun _ zz => XS.lcmp X4.here hx rfl (hb hby at_116) rfl zz) ?_
    show Go _ _ _ _ T4 (mkF m 117 #[.val (.long q0), .second, .val (.long q1), .second, .val (.long q2), .second, .val (.int p3), .val (.long (own_d0_81_L7 q0 q1 q2 p3 w)), .second, .val (.long (own_d0_81_L9 q0 q1 q2 p3 w)), .second, .val (.long (own_d0_81_L11 q0 q1 q2 p3 w)), .second, .val (.ref b1), .val (.long ((own_d0_81_L7 q0 q1 q2 p3 w) * (own_d0_81_L9 q0 q1 q2 p3 w))), .second, .val (.long (own_f7 ((own_d0_81_L7 q0 q1 q2 p3 w) * (own_d0_81_L9 q0 q1 q2 p3 w)) (own_d0_81_L11 q0 q1 q2 p3 w))), .second, .unset, .unset, .unset, .unset] [(.int (lcmpW (own_f7 ((own_d0_81_L7 q0 q1 q2 p3 w) * (own_d0_81_L9 q0 q1 q2 p3 w)) (own_d0_81_L11 q0 q1 q2 p3 w)) (1 : Int64)))])
    refine Go.step (fun _ zz => XS.ifYes X4.here hx rfl (pc0 := 117) (pc' := 122) rfl (hb hby at_117) rfl ((if0 _ _).trans (flt (fun q => hC.1 ((lw_lt (own_f7 ((own_d0_81_L7 q0 q1 q2 p3 w) * (own_d0_81_L9 q0 q1 q2 p3 w)) (own_d0_81_L11 q0 q1 q2 p3 w)) (1 : Int64)).mp q))).2.1) (by decide) (by decide) zz) ?_
    show Go _ _ _ _ T4 (mkF m 122 #[.val (.long q0), .second, .val (.long q1), .second, .val (.long q2), .second, .val (.int p3), .val (.long (own_d0_81_L7 q0 q1 q2 p3 w)), .second, .val (.long (own_d0_81_L9 q0 q1 q2 p3 w)), .second, .val (.long (own_d0_81_L11 q0 q1 q2 p3 w)), .second, .val (.ref b1), .val (.long ((own_d0_81_L7 q0 q1 q2 p3 w) * (own_d0_81_L9 q0 q1 q2 p3 w))), .second, .val (.long (own_f7 ((own_d0_81_L7 q0 q1 q2 p3 w) * (own_d0_81_L9 q0 q1 q2 p3 w)) (own_d0_81_L11 q0 q1 q2 p3 w))), .second, .unset, .unset, .unset, .unset] [])
    refine Go.step (fun _ zz => XS.lload X4.here hx rfl (hb hby at_122) rfl zz) ?_
    show Go _ _ _ _ T4 (mkF m 124 #[.val (.long q0), .second, .val (.long q1), .second, .val (.long q2), .second, .val (.int p3), .val (.long (own_d0_81_L7 q0 q1 q2 p3 w)), .second, .val (.long (own_d0_81_L9 q0 q1 q2 p3 w)), .second, .val (.long (own_d0_81_L11 q0 q1 q2 p3 w)), .second, .val (.ref b1), .val (.long ((own_d0_81_L7 q0 q1 q2 p3 w) * (own_d0_81_L9 q0 q1 q2 p3 w))), .second, .val (.long (own_f7 ((own_d0_81_L7 q0 q1 q2 p3 w) * (own_d0_81_L9 q0 q1 q2 p3 w)) (own_d0_81_L11 q0 q1 q2 p3 w))), .second, .unset, .unset, .unset, .unset] [(.long (own_f7 ((own_d0_81_L7 q0 q1 q2 p3 w) * (own_d0_81_L9 q0 q1 q2 p3 w)) (own_d0_81_L11 q0 q1 q2 p3 w)))])
    refine Go.step (fun _ zz => XS.lconst X4.here hx rfl (hb hby at_124) zz) ?_
    show Go _ _ _ _ T4 (mkF m 125 #[.val (.long q0), .second, .val (.long q1), .second, .val (.long q2), .second, .val (.int p3), .val (.long (own_d0_81_L7 q0 q1 q2 p3 w)), .second, .val (.long (own_d0_81_L9 q0 q1 q2 p3 w)), .second, .val (.long (own_d0_81_L11 q0 q1 q2 p3 w)), .second, .val (.ref b1), .val (.long ((own_d0_81_L7 q0 q1 q2 p3 w) * (own_d0_81_L9 q0 q1 q2 p3 w))), .second, .val (.long (own_f7 ((own_d0_81_L7 q0 q1 q2 p3 w) * (own_d0_81_L9 q0 q1 q2 p3 w)) (own_d0_81_L11 q0 q1 q2 p3 w))), .second, .unset, .unset, .unset, .unset] [(.long (1 : Int64)), (.long (own_f7 ((own_d0_81_L7 q0 q1 q2 p3 w) * (own_d0_81_L9 q0 q1 q2 p3 w)) (own_d0_81_L11 q0 q1 q2 p3 w)))])
    refine Go.step (fun _ zz => XS.lsub X4.here hx rfl (hb hby at_125) rfl zz) ?_
    show Go _ _ _ _ T4 (mkF m 126 #[.val (.long q0), .second, .val (.long q1), .second, .val (.long q2), .second, .val (.int p3), .val (.long (own_d0_81_L7 q0 q1 q2 p3 w)), .second, .val (.long (own_d0_81_L9 q0 q1 q2 p3 w)), .second, .val (.long (own_d0_81_L11 q0 q1 q2 p3 w)), .second, .val (.ref b1), .val (.long ((own_d0_81_L7 q0 q1 q2 p3 w) * (own_d0_81_L9 q0 q1 q2 p3 w))), .second, .val (.long (own_f7 ((own_d0_81_L7 q0 q1 q2 p3 w) * (own_d0_81_L9 q0 q1 q2 p3 w)) (own_d0_81_L11 q0 q1 q2 p3 w))), .second, .unset, .unset, .unset, .unset] [(.long ((own_f7 ((own_d0_81_L7 q0 q1 q2 p3 w) * (own_d0_81_L9 q0 q1 q2 p3 w)) (own_d0_81_L11 q0 q1 q2 p3 w)) - (1 : Int64)))])
    refine Go.step (fun _ zz => XS.lstore X4.here hx rfl (hb hby at_126) rfl (l' := #[.val (.long q0), .second, .val (.long q1), .second, .val (.long q2), .second, .val (.int p3), .val (.long (own_d0_81_L7 q0 q1 q2 p3 w)), .second, .val (.long (own_d0_81_L9 q0 q1 q2 p3 w)), .second, .val (.long (own_d0_81_L11 q0 q1 q2 p3 w)), .second, .val (.ref b1), .val (.long ((own_d0_81_L7 q0 q1 q2 p3 w) * (own_d0_81_L9 q0 q1 q2 p3 w))), .second, .val (.long (own_f7 ((own_d0_81_L7 q0 q1 q2 p3 w) * (own_d0_81_L9 q0 q1 q2 p3 w)) (own_d0_81_L11 q0 q1 q2 p3 w))), .second, .val (.long ((own_f7 ((own_d0_81_L7 q0 q1 q2 p3 w) * (own_d0_81_L9 q0 q1 q2 p3 w)) (own_d0_81_L11 q0 q1 q2 p3 w)) - (1 : Int64))), .second, .unset, .unset]) rfl zz) ?_
    show Go _ _ _ _ T4 (mkF m 128 #[.val (.long q0), .second, .val (.long q1), .second, .val (.long q2), .second, .val (.int p3), .val (.long (own_d0_81_L7 q0 q1 q2 p3 w)), .second, .val (.long (own_d0_81_L9 q0 q1 q2 p3 w)), .second, .val (.long (own_d0_81_L11 q0 q1 q2 p3 w)), .second, .val (.ref b1), .val (.long ((own_d0_81_L7 q0 q1 q2 p3 w) * (own_d0_81_L9 q0 q1 q2 p3 w))), .second, .val (.long (own_f7 ((own_d0_81_L7 q0 q1 q2 p3 w) * (own_d0_81_L9 q0 q1 q2 p3 w)) (own_d0_81_L11 q0 q1 q2 p3 w))), .second, .val (.long ((own_f7 ((own_d0_81_L7 q0 q1 q2 p3 w) * (own_d0_81_L9 q0 q1 q2 p3 w)) (own_d0_81_L11 q0 q1 q2 p3 w)) - (1 : Int64))), .second, .unset, .unset] [])
    refine Go.step (fun _ zz => XS.lload X4.here hx rfl (hb hby at_128) rfl zz) ?_
    show Go _ _ _ _ T4 (mkF m 130 #[.val (.long q0), .second, .val (.long q1), .second, .val (.long q2), .second, .val (.int p3), .val (.long (own_d0_81_L7 q0 q1 q2 p3 w)), .second, .val (.long (own_d0_81_L9 q0 q1 q2 p3 w)), .second, .val (.long (own_d0_81_L11 q0 q1 q2 p3 w)), .second, .val (.ref b1), .val (.long ((own_d0_81_L7 q0 q1 q2 p3 w) * (own_d0_81_L9 q0 q1 q2 p3 w))), .second, .val (.long (own_f7 ((own_d0_81_L7 q0 q1 q2 p3 w) * (own_d0_81_L9 q0 q1 q2 p3 w)) (own_d0_81_L11 q0 q1 q2 p3 w))), .second, .val (.long ((own_f7 ((own_d0_81_L7 q0 q1 q2 p3 w) * (own_d0_81_L9 q0 q1 q2 p3 w)) (own_d0_81_L11 q0 q1 q2 p3 w)) - (1 : Int64))), .second, .unset, .unset] [(.long ((own_f7 ((own_d0_81_L7 q0 q1 q2 p3 w) * (own_d0_81_L9 q0 q1 q2 p3 w)) (own_d0_81_L11 q0 q1 q2 p3 w)) - (1 : Int64)))])
    refine Go.step (fun _ zz => XS.lload X4.here hx rfl (hb hby at_130) rfl zz) ?_
    show Go _ _ _ _ T4 (mkF m 132 #[.val (.long q0), .second, .val (.long q1), .second, .val (.long q2), .second, .val (.int p3), .val (.long (own_d0_81_L7 q0 q1 q2 p3 w)), .second, .val (.long (own_d0_81_L9 q0 q1 q2 p3 w)), .second, .val (.long (own_d0_81_L11 q0 q1 q2 p3 w)), .second, .val (.ref b1), .val (.long ((own_d0_81_L7 q0 q1 q2 p3 w) * (own_d0_81_L9 q0 q1 q2 p3 w))), .second, .val (.long (own_f7 ((own_d0_81_L7 q0 q1 q2 p3 w) * (own_d0_81_L9 q0 q1 q2 p3 w)) (own_d0_81_L11 q0 q1 q2 p3 w))), .second, .val (.long ((own_f7 ((own_d0_81_L7 q0 q1 q2 p3 w) * (own_d0_81_L9 q0 q1 q2 p3 w)) (own_d0_81_L11 q0 q1 q2 p3 w)) - (1 : Int64))), .second, .unset, .unset] [(.long ((own_d0_81_L7 q0 q1 q2 p3 w) * (own_d0_81_L9 q0 q1 q2 p3 w))), (.long ((own_f7 ((own_d0_81_L7 q0 q1 q2 p3 w) * (own_d0_81_L9 q0 q1 q2 p3 w)) (own_d0_81_L11 q0 q1 q2 p3 w)) - (1 : Int64)))])
    refine Go.step (fun _ zz => XS.lload X4.here hx rfl (hb hby at_132) rfl zz) ?_
    show Go _ _ _ _ T4 (mkF m 134 #[.val (.long q0), .second, .val (.long q1), .second, .val (.long q2), .second, .val (.int p3), .val (.long (own_d0_81_L7 q0 q1 q2 p3 w)), .second, .val (.long (own_d0_81_L9 q0 q1 q2 p3 w)), .second, .val (.long (own_d0_81_L11 q0 q1 q2 p3 w)), .second, .val (.ref b1), .val (.long ((own_d0_81_L7 q0 q1 q2 p3 w) * (own_d0_81_L9 q0 q1 q2 p3 w))), .second, .val (.long (own_f7 ((own_d0_81_L7 q0 q1 q2 p3 w) * (own_d0_81_L9 q0 q1 q2 p3 w)) (own_d0_81_L11 q0 q1 q2 p3 w))), .second, .val (.long ((own_f7 ((own_d0_81_L7 q0 q1 q2 p3 w) * (own_d0_81_L9 q0 q1 q2 p3 w)) (own_d0_81_L11 q0 q1 q2 p3 w)) - (1 : Int64))), .second, .unset, .unset] [(.long (own_d0_81_L11 q0 q1 q2 p3 w)), (.long ((own_d0_81_L7 q0 q1 q2 p3 w) * (own_d0_81_L9 q0 q1 q2 p3 w))), (.long ((own_f7 ((own_d0_81_L7 q0 q1 q2 p3 w) * (own_d0_81_L9 q0 q1 q2 p3 w)) (own_d0_81_L11 q0 q1 q2 p3 w)) - (1 : Int64)))])
    refine Go.step (fun _ zz => XS.ldiv X4.here hx rfl (hb hby at_134) rfl (own_ne0 hB.2.2.1) zz) ?_
    show Go _ _ _ _ T4 (mkF m 135 #[.val (.long q0), .second, .val (.long q1), .second, .val (.long q2), .second, .val (.int p3), .val (.long (own_d0_81_L7 q0 q1 q2 p3 w)), .second, .val (.long (own_d0_81_L9 q0 q1 q2 p3 w)), .second, .val (.long (own_d0_81_L11 q0 q1 q2 p3 w)), .second, .val (.ref b1), .val (.long ((own_d0_81_L7 q0 q1 q2 p3 w) * (own_d0_81_L9 q0 q1 q2 p3 w))), .second, .val (.long (own_f7 ((own_d0_81_L7 q0 q1 q2 p3 w) * (own_d0_81_L9 q0 q1 q2 p3 w)) (own_d0_81_L11 q0 q1 q2 p3 w))), .second, .val (.long ((own_f7 ((own_d0_81_L7 q0 q1 q2 p3 w) * (own_d0_81_L9 q0 q1 q2 p3 w)) (own_d0_81_L11 q0 q1 q2 p3 w)) - (1 : Int64))), .second, .unset, .unset] [(.long (((own_d0_81_L7 q0 q1 q2 p3 w) * (own_d0_81_L9 q0 q1 q2 p3 w)) / (own_d0_81_L11 q0 q1 q2 p3 w))), (.long ((own_f7 ((own_d0_81_L7 q0 q1 q2 p3 w) * (own_d0_81_L9 q0 q1 q2 p3 w)) (own_d0_81_L11 q0 q1 q2 p3 w)) - (1 : Int64)))])
    refine Go.step (fun _ zz => XS.lcmp X4.here hx rfl (hb hby at_135) rfl zz) ?_
    show Go _ _ _ _ T4 (mkF m 136 #[.val (.long q0), .second, .val (.long q1), .second, .val (.long q2), .second, .val (.int p3), .val (.long (own_d0_81_L7 q0 q1 q2 p3 w)), .second, .val (.long (own_d0_81_L9 q0 q1 q2 p3 w)), .second, .val (.long (own_d0_81_L11 q0 q1 q2 p3 w)), .second, .val (.ref b1), .val (.long ((own_d0_81_L7 q0 q1 q2 p3 w) * (own_d0_81_L9 q0 q1 q2 p3 w))), .second, .val (.long (own_f7 ((own_d0_81_L7 q0 q1 q2 p3 w) * (own_d0_81_L9 q0 q1 q2 p3 w)) (own_d0_81_L11 q0 q1 q2 p3 w))), .second, .val (.long ((own_f7 ((own_d0_81_L7 q0 q1 q2 p3 w) * (own_d0_81_L9 q0 q1 q2 p3 w)) (own_d0_81_L11 q0 q1 q2 p3 w)) - (1 : Int64))), .second, .unset, .unset] [(.int (lcmpW ((own_f7 ((own_d0_81_L7 q0 q1 q2 p3 w) * (own_d0_81_L9 q0 q1 q2 p3 w)) (own_d0_81_L11 q0 q1 q2 p3 w)) - (1 : Int64)) (((own_d0_81_L7 q0 q1 q2 p3 w) * (own_d0_81_L9 q0 q1 q2 p3 w)) / (own_d0_81_L11 q0 q1 q2 p3 w))))])
    refine Go.step (fun _ zz => XS.ifYes X4.here hx rfl (pc0 := 136) (pc' := 141) rfl (hb hby at_136) rfl ((if0 _ _).trans (flt (fun q => hC.2.1 ((lw_gt ((own_f7 ((own_d0_81_L7 q0 q1 q2 p3 w) * (own_d0_81_L9 q0 q1 q2 p3 w)) (own_d0_81_L11 q0 q1 q2 p3 w)) - (1 : Int64)) (((own_d0_81_L7 q0 q1 q2 p3 w) * (own_d0_81_L9 q0 q1 q2 p3 w)) / (own_d0_81_L11 q0 q1 q2 p3 w))).mp q))).2.2.2) (by decide) (by decide) zz) ?_
    show Go _ _ _ _ T4 (mkF m 141 #[.val (.long q0), .second, .val (.long q1), .second, .val (.long q2), .second, .val (.int p3), .val (.long (own_d0_81_L7 q0 q1 q2 p3 w)), .second, .val (.long (own_d0_81_L9 q0 q1 q2 p3 w)), .second, .val (.long (own_d0_81_L11 q0 q1 q2 p3 w)), .second, .val (.ref b1), .val (.long ((own_d0_81_L7 q0 q1 q2 p3 w) * (own_d0_81_L9 q0 q1 q2 p3 w))), .second, .val (.long (own_f7 ((own_d0_81_L7 q0 q1 q2 p3 w) * (own_d0_81_L9 q0 q1 q2 p3 w)) (own_d0_81_L11 q0 q1 q2 p3 w))), .second, .val (.long ((own_f7 ((own_d0_81_L7 q0 q1 q2 p3 w) * (own_d0_81_L9 q0 q1 q2 p3 w)) (own_d0_81_L11 q0 q1 q2 p3 w)) - (1 : Int64))), .second, .unset, .unset] [])
    refine Go.step (fun _ zz => XS.lload X4.here hx rfl (hb hby at_141) rfl zz) ?_
    show Go _ _ _ _ T4 (mkF m 143 #[.val (.long q0), .second, .val (.long q1), .second, .val (.long q2), .second, .val (.int p3), .val (.long (own_d0_81_L7 q0 q1 q2 p3 w)), .second, .val (.long (own_d0_81_L9 q0 q1 q2 p3 w)), .second, .val (.long (own_d0_81_L11 q0 q1 q2 p3 w)), .second, .val (.ref b1), .val (.long ((own_d0_81_L7 q0 q1 q2 p3 w) * (own_d0_81_L9 q0 q1 q2 p3 w))), .second, .val (.long (own_f7 ((own_d0_81_L7 q0 q1 q2 p3 w) * (own_d0_81_L9 q0 q1 q2 p3 w)) (own_d0_81_L11 q0 q1 q2 p3 w))), .second, .val (.long ((own_f7 ((own_d0_81_L7 q0 q1 q2 p3 w) * (own_d0_81_L9 q0 q1 q2 p3 w)) (own_d0_81_L11 q0 q1 q2 p3 w)) - (1 : Int64))), .second, .unset, .unset] [(.long ((own_d0_81_L7 q0 q1 q2 p3 w) * (own_d0_81_L9 q0 q1 q2 p3 w)))])
    refine Go.step (fun _ zz => XS.lload X4.here hx rfl (hb hby at_143) rfl zz) ?_
    show Go _ _ _ _ T4 (mkF m 145 #[.val (.long q0), .second, .val (.long q1), .second, .val (.long q2), .second, .val (.int p3), .val (.long (own_d0_81_L7 q0 q1 q2 p3 w)), .second, .val (.long (own_d0_81_L9 q0 q1 q2 p3 w)), .second, .val (.long (own_d0_81_L11 q0 q1 q2 p3 w)), .second, .val (.ref b1), .val (.long ((own_d0_81_L7 q0 q1 q2 p3 w) * (own_d0_81_L9 q0 q1 q2 p3 w))), .second, .val (.long (own_f7 ((own_d0_81_L7 q0 q1 q2 p3 w) * (own_d0_81_L9 q0 q1 q2 p3 w)) (own_d0_81_L11 q0 q1 q2 p3 w))), .second, .val (.long ((own_f7 ((own_d0_81_L7 q0 q1 q2 p3 w) * (own_d0_81_L9 q0 q1 q2 p3 w)) (own_d0_81_L11 q0 q1 q2 p3 w)) - (1 : Int64))), .second, .unset, .unset] [(.long ((own_f7 ((own_d0_81_L7 q0 q1 q2 p3 w) * (own_d0_81_L9 q0 q1 q2 p3 w)) (own_d0_81_L11 q0 q1 q2 p3 w)) - (1 : Int64))), (.long ((own_d0_81_L7 q0 q1 q2 p3 w) * (own_d0_81_L9 q0 q1 q2 p3 w)))])
    refine Go.step (fun _ zz => XS.lload X4.here hx rfl (hb hby at_145) rfl zz) ?_
    show Go _ _ _ _ T4 (mkF m 147 #[.val (.long q0), .second, .val (.long q1), .second, .val (.long q2), .second, .val (.int p3), .val (.long (own_d0_81_L7 q0 q1 q2 p3 w)), .second, .val (.long (own_d0_81_L9 q0 q1 q2 p3 w)), .second, .val (.long (own_d0_81_L11 q0 q1 q2 p3 w)), .second, .val (.ref b1), .val (.long ((own_d0_81_L7 q0 q1 q2 p3 w) * (own_d0_81_L9 q0 q1 q2 p3 w))), .second, .val (.long (own_f7 ((own_d0_81_L7 q0 q1 q2 p3 w) * (own_d0_81_L9 q0 q1 q2 p3 w)) (own_d0_81_L11 q0 q1 q2 p3 w))), .second, .val (.long ((own_f7 ((own_d0_81_L7 q0 q1 q2 p3 w) * (own_d0_81_L9 q0 q1 q2 p3 w)) (own_d0_81_L11 q0 q1 q2 p3 w)) - (1 : Int64))), .second, .unset, .unset] [(.long (own_d0_81_L11 q0 q1 q2 p3 w)), (.long ((own_f7 ((own_d0_81_L7 q0 q1 q2 p3 w) * (own_d0_81_L9 q0 q1 q2 p3 w)) (own_d0_81_L11 q0 q1 q2 p3 w)) - (1 : Int64))), (.long ((own_d0_81_L7 q0 q1 q2 p3 w) * (own_d0_81_L9 q0 q1 q2 p3 w)))])
    refine Go.step (fun _ zz => XS.lmul X4.here hx rfl (hb hby at_147) rfl zz) ?_
    show Go _ _ _ _ T4 (mkF m 148 #[.val (.long q0), .second, .val (.long q1), .second, .val (.long q2), .second, .val (.int p3), .val (.long (own_d0_81_L7 q0 q1 q2 p3 w)), .second, .val (.long (own_d0_81_L9 q0 q1 q2 p3 w)), .second, .val (.long (own_d0_81_L11 q0 q1 q2 p3 w)), .second, .val (.ref b1), .val (.long ((own_d0_81_L7 q0 q1 q2 p3 w) * (own_d0_81_L9 q0 q1 q2 p3 w))), .second, .val (.long (own_f7 ((own_d0_81_L7 q0 q1 q2 p3 w) * (own_d0_81_L9 q0 q1 q2 p3 w)) (own_d0_81_L11 q0 q1 q2 p3 w))), .second, .val (.long ((own_f7 ((own_d0_81_L7 q0 q1 q2 p3 w) * (own_d0_81_L9 q0 q1 q2 p3 w)) (own_d0_81_L11 q0 q1 q2 p3 w)) - (1 : Int64))), .second, .unset, .unset] [(.long (((own_f7 ((own_d0_81_L7 q0 q1 q2 p3 w) * (own_d0_81_L9 q0 q1 q2 p3 w)) (own_d0_81_L11 q0 q1 q2 p3 w)) - (1 : Int64)) * (own_d0_81_L11 q0 q1 q2 p3 w))), (.long ((own_d0_81_L7 q0 q1 q2 p3 w) * (own_d0_81_L9 q0 q1 q2 p3 w)))])
    refine Go.step (fun _ zz => XS.lsub X4.here hx rfl (hb hby at_148) rfl zz) ?_
    show Go _ _ _ _ T4 (mkF m 149 #[.val (.long q0), .second, .val (.long q1), .second, .val (.long q2), .second, .val (.int p3), .val (.long (own_d0_81_L7 q0 q1 q2 p3 w)), .second, .val (.long (own_d0_81_L9 q0 q1 q2 p3 w)), .second, .val (.long (own_d0_81_L11 q0 q1 q2 p3 w)), .second, .val (.ref b1), .val (.long ((own_d0_81_L7 q0 q1 q2 p3 w) * (own_d0_81_L9 q0 q1 q2 p3 w))), .second, .val (.long (own_f7 ((own_d0_81_L7 q0 q1 q2 p3 w) * (own_d0_81_L9 q0 q1 q2 p3 w)) (own_d0_81_L11 q0 q1 q2 p3 w))), .second, .val (.long ((own_f7 ((own_d0_81_L7 q0 q1 q2 p3 w) * (own_d0_81_L9 q0 q1 q2 p3 w)) (own_d0_81_L11 q0 q1 q2 p3 w)) - (1 : Int64))), .second, .unset, .unset] [(.long (((own_d0_81_L7 q0 q1 q2 p3 w) * (own_d0_81_L9 q0 q1 q2 p3 w)) - (((own_f7 ((own_d0_81_L7 q0 q1 q2 p3 w) * (own_d0_81_L9 q0 q1 q2 p3 w)) (own_d0_81_L11 q0 q1 q2 p3 w)) - (1 : Int64)) * (own_d0_81_L11 q0 q1 q2 p3 w))))])
    refine Go.step (fun _ zz => XS.lstore X4.here hx rfl (hb hby at_149) rfl (l' := #[.val (.long q0), .second, .val (.long q1), .second, .val (.long q2), .second, .val (.int p3), .val (.long (own_d0_81_L7 q0 q1 q2 p3 w)), .second, .val (.long (own_d0_81_L9 q0 q1 q2 p3 w)), .second, .val (.long (own_d0_81_L11 q0 q1 q2 p3 w)), .second, .val (.ref b1), .val (.long ((own_d0_81_L7 q0 q1 q2 p3 w) * (own_d0_81_L9 q0 q1 q2 p3 w))), .second, .val (.long (own_f7 ((own_d0_81_L7 q0 q1 q2 p3 w) * (own_d0_81_L9 q0 q1 q2 p3 w)) (own_d0_81_L11 q0 q1 q2 p3 w))), .second, .val (.long ((own_f7 ((own_d0_81_L7 q0 q1 q2 p3 w) * (own_d0_81_L9 q0 q1 q2 p3 w)) (own_d0_81_L11 q0 q1 q2 p3 w)) - (1 : Int64))), .second, .val (.long (((own_d0_81_L7 q0 q1 q2 p3 w) * (own_d0_81_L9 q0 q1 q2 p3 w)) - (((own_f7 ((own_d0_81_L7 q0 q1 q2 p3 w) * (own_d0_81_L9 q0 q1 q2 p3 w)) (own_d0_81_L11 q0 q1 q2 p3 w)) - (1 : Int64)) * (own_d0_81_L11 q0 q1 q2 p3 w)))), .second]) rfl zz) ?_
    show Go _ _ _ _ T4 (mkF m 151 #[.val (.long q0), .second, .val (.long q1), .second, .val (.long q2), .second, .val (.int p3), .val (.long (own_d0_81_L7 q0 q1 q2 p3 w)), .second, .val (.long (own_d0_81_L9 q0 q1 q2 p3 w)), .second, .val (.long (own_d0_81_L11 q0 q1 q2 p3 w)), .second, .val (.ref b1), .val (.long ((own_d0_81_L7 q0 q1 q2 p3 w) * (own_d0_81_L9 q0 q1 q2 p3 w))), .second, .val (.long (own_f7 ((own_d0_81_L7 q0 q1 q2 p3 w) * (own_d0_81_L9 q0 q1 q2 p3 w)) (own_d0_81_L11 q0 q1 q2 p3 w))), .second, .val (.long ((own_f7 ((own_d0_81_L7 q0 q1 q2 p3 w) * (own_d0_81_L9 q0 q1 q2 p3 w)) (own_d0_81_L11 q0 q1 q2 p3 w)) - (1 : Int64))), .second, .val (.long (((own_d0_81_L7 q0 q1 q2 p3 w) * (own_d0_81_L9 q0 q1 q2 p3 w)) - (((own_f7 ((own_d0_81_L7 q0 q1 q2 p3 w) * (own_d0_81_L9 q0 q1 q2 p3 w)) (own_d0_81_L11 q0 q1 q2 p3 w)) - (1 : Int64)) * (own_d0_81_L11 q0 q1 q2 p3 w)))), .second] [])
    refine Go.step (fun _ zz => XS.lload X4.here hx rfl (hb hby at_151) rfl zz) ?_
    show Go _ _ _ _ T4 (mkF m 153 #[.val (.long q0), .second, .val (.long q1), .second, .val (.long q2), .second, .val (.int p3), .val (.long (own_d0_81_L7 q0 q1 q2 p3 w)), .second, .val (.long (own_d0_81_L9 q0 q1 q2 p3 w)), .second, .val (.long (own_d0_81_L11 q0 q1 q2 p3 w)), .second, .val (.ref b1), .val (.long ((own_d0_81_L7 q0 q1 q2 p3 w) * (own_d0_81_L9 q0 q1 q2 p3 w))), .second, .val (.long (own_f7 ((own_d0_81_L7 q0 q1 q2 p3 w) * (own_d0_81_L9 q0 q1 q2 p3 w)) (own_d0_81_L11 q0 q1 q2 p3 w))), .second, .val (.long ((own_f7 ((own_d0_81_L7 q0 q1 q2 p3 w) * (own_d0_81_L9 q0 q1 q2 p3 w)) (own_d0_81_L11 q0 q1 q2 p3 w)) - (1 : Int64))), .second, .val (.long (((own_d0_81_L7 q0 q1 q2 p3 w) * (own_d0_81_L9 q0 q1 q2 p3 w)) - (((own_f7 ((own_d0_81_L7 q0 q1 q2 p3 w) * (own_d0_81_L9 q0 q1 q2 p3 w)) (own_d0_81_L11 q0 q1 q2 p3 w)) - (1 : Int64)) * (own_d0_81_L11 q0 q1 q2 p3 w)))), .second] [(.long (((own_d0_81_L7 q0 q1 q2 p3 w) * (own_d0_81_L9 q0 q1 q2 p3 w)) - (((own_f7 ((own_d0_81_L7 q0 q1 q2 p3 w) * (own_d0_81_L9 q0 q1 q2 p3 w)) (own_d0_81_L11 q0 q1 q2 p3 w)) - (1 : Int64)) * (own_d0_81_L11 q0 q1 q2 p3 w))))])
    refine Go.step (fun _ zz => XS.lconst X4.here hx rfl (hb hby at_153) zz) ?_
    show Go _ _ _ _ T4 (mkF m 154 #[.val (.long q0), .second, .val (.long q1), .second, .val (.long q2), .second, .val (.int p3), .val (.long (own_d0_81_L7 q0 q1 q2 p3 w)), .second, .val (.long (own_d0_81_L9 q0 q1 q2 p3 w)), .second, .val (.long (own_d0_81_L11 q0 q1 q2 p3 w)), .second, .val (.ref b1), .val (.long ((own_d0_81_L7 q0 q1 q2 p3 w) * (own_d0_81_L9 q0 q1 q2 p3 w))), .second, .val (.long (own_f7 ((own_d0_81_L7 q0 q1 q2 p3 w) * (own_d0_81_L9 q0 q1 q2 p3 w)) (own_d0_81_L11 q0 q1 q2 p3 w))), .second, .val (.long ((own_f7 ((own_d0_81_L7 q0 q1 q2 p3 w) * (own_d0_81_L9 q0 q1 q2 p3 w)) (own_d0_81_L11 q0 q1 q2 p3 w)) - (1 : Int64))), .second, .val (.long (((own_d0_81_L7 q0 q1 q2 p3 w) * (own_d0_81_L9 q0 q1 q2 p3 w)) - (((own_f7 ((own_d0_81_L7 q0 q1 q2 p3 w) * (own_d0_81_L9 q0 q1 q2 p3 w)) (own_d0_81_L11 q0 q1 q2 p3 w)) - (1 : Int64)) * (own_d0_81_L11 q0 q1 q2 p3 w)))), .second] [(.long (1 : Int64)), (.long (((own_d0_81_L7 q0 q1 q2 p3 w) * (own_d0_81_L9 q0 q1 q2 p3 w)) - (((own_f7 ((own_d0_81_L7 q0 q1 q2 p3 w) * (own_d0_81_L9 q0 q1 q2 p3 w)) (own_d0_81_L11 q0 q1 q2 p3 w)) - (1 : Int64)) * (own_d0_81_L11 q0 q1 q2 p3 w))))])
    refine Go.step (fun _ zz => XS.lcmp X4.here hx rfl (hb hby at_154) rfl zz) ?_
    show Go _ _ _ _ T4 (mkF m 155 #[.val (.long q0), .second, .val (.long q1), .second, .val (.long q2), .second, .val (.int p3), .val (.long (own_d0_81_L7 q0 q1 q2 p3 w)), .second, .val (.long (own_d0_81_L9 q0 q1 q2 p3 w)), .second, .val (.long (own_d0_81_L11 q0 q1 q2 p3 w)), .second, .val (.ref b1), .val (.long ((own_d0_81_L7 q0 q1 q2 p3 w) * (own_d0_81_L9 q0 q1 q2 p3 w))), .second, .val (.long (own_f7 ((own_d0_81_L7 q0 q1 q2 p3 w) * (own_d0_81_L9 q0 q1 q2 p3 w)) (own_d0_81_L11 q0 q1 q2 p3 w))), .second, .val (.long ((own_f7 ((own_d0_81_L7 q0 q1 q2 p3 w) * (own_d0_81_L9 q0 q1 q2 p3 w)) (own_d0_81_L11 q0 q1 q2 p3 w)) - (1 : Int64))), .second, .val (.long (((own_d0_81_L7 q0 q1 q2 p3 w) * (own_d0_81_L9 q0 q1 q2 p3 w)) - (((own_f7 ((own_d0_81_L7 q0 q1 q2 p3 w) * (own_d0_81_L9 q0 q1 q2 p3 w)) (own_d0_81_L11 q0 q1 q2 p3 w)) - (1 : Int64)) * (own_d0_81_L11 q0 q1 q2 p3 w)))), .second] [(.int (lcmpW (((own_d0_81_L7 q0 q1 q2 p3 w) * (own_d0_81_L9 q0 q1 q2 p3 w)) - (((own_f7 ((own_d0_81_L7 q0 q1 q2 p3 w) * (own_d0_81_L9 q0 q1 q2 p3 w)) (own_d0_81_L11 q0 q1 q2 p3 w)) - (1 : Int64)) * (own_d0_81_L11 q0 q1 q2 p3 w))) (1 : Int64)))])
    refine Go.step (fun _ zz => XS.ifNo X4.here hx rfl (hb hby at_155) rfl ((if0 _ _).trans (flt (fun q => hC.2.2.1 ((lw_lt (((own_d0_81_L7 q0 q1 q2 p3 w) * (own_d0_81_L9 q0 q1 q2 p3 w)) - (((own_f7 ((own_d0_81_L7 q0 q1 q2 p3 w) * (own_d0_81_L9 q0 q1 q2 p3 w)) (own_d0_81_L11 q0 q1 q2 p3 w)) - (1 : Int64)) * (own_d0_81_L11 q0 q1 q2 p3 w))) (1 : Int64)).mp q))).1) zz) ?_
    show Go _ _ _ _ T4 (mkF m 158 #[.val (.long q0), .second, .val (.long q1), .second, .val (.long q2), .second, .val (.int p3), .val (.long (own_d0_81_L7 q0 q1 q2 p3 w)), .second, .val (.long (own_d0_81_L9 q0 q1 q2 p3 w)), .second, .val (.long (own_d0_81_L11 q0 q1 q2 p3 w)), .second, .val (.ref b1), .val (.long ((own_d0_81_L7 q0 q1 q2 p3 w) * (own_d0_81_L9 q0 q1 q2 p3 w))), .second, .val (.long (own_f7 ((own_d0_81_L7 q0 q1 q2 p3 w) * (own_d0_81_L9 q0 q1 q2 p3 w)) (own_d0_81_L11 q0 q1 q2 p3 w))), .second, .val (.long ((own_f7 ((own_d0_81_L7 q0 q1 q2 p3 w) * (own_d0_81_L9 q0 q1 q2 p3 w)) (own_d0_81_L11 q0 q1 q2 p3 w)) - (1 : Int64))), .second, .val (.long (((own_d0_81_L7 q0 q1 q2 p3 w) * (own_d0_81_L9 q0 q1 q2 p3 w)) - (((own_f7 ((own_d0_81_L7 q0 q1 q2 p3 w) * (own_d0_81_L9 q0 q1 q2 p3 w)) (own_d0_81_L11 q0 q1 q2 p3 w)) - (1 : Int64)) * (own_d0_81_L11 q0 q1 q2 p3 w)))), .second] [])
    refine Go.step (fun _ zz => XS.lload X4.here hx rfl (hb hby at_158) rfl zz) ?_
    show Go _ _ _ _ T4 (mkF m 160 #[.val (.long q0), .second, .val (.long q1), .second, .val (.long q2), .second, .val (.int p3), .val (.long (own_d0_81_L7 q0 q1 q2 p3 w)), .second, .val (.long (own_d0_81_L9 q0 q1 q2 p3 w)), .second, .val (.long (own_d0_81_L11 q0 q1 q2 p3 w)), .second, .val (.ref b1), .val (.long ((own_d0_81_L7 q0 q1 q2 p3 w) * (own_d0_81_L9 q0 q1 q2 p3 w))), .second, .val (.long (own_f7 ((own_d0_81_L7 q0 q1 q2 p3 w) * (own_d0_81_L9 q0 q1 q2 p3 w)) (own_d0_81_L11 q0 q1 q2 p3 w))), .second, .val (.long ((own_f7 ((own_d0_81_L7 q0 q1 q2 p3 w) * (own_d0_81_L9 q0 q1 q2 p3 w)) (own_d0_81_L11 q0 q1 q2 p3 w)) - (1 : Int64))), .second, .val (.long (((own_d0_81_L7 q0 q1 q2 p3 w) * (own_d0_81_L9 q0 q1 q2 p3 w)) - (((own_f7 ((own_d0_81_L7 q0 q1 q2 p3 w) * (own_d0_81_L9 q0 q1 q2 p3 w)) (own_d0_81_L11 q0 q1 q2 p3 w)) - (1 : Int64)) * (own_d0_81_L11 q0 q1 q2 p3 w)))), .second] [(.long (((own_d0_81_L7 q0 q1 q2 p3 w) * (own_d0_81_L9 q0 q1 q2 p3 w)) - (((own_f7 ((own_d0_81_L7 q0 q1 q2 p3 w) * (own_d0_81_L9 q0 q1 q2 p3 w)) (own_d0_81_L11 q0 q1 q2 p3 w)) - (1 : Int64)) * (own_d0_81_L11 q0 q1 q2 p3 w))))])
    refine Go.step (fun _ zz => XS.lload X4.here hx rfl (hb hby at_160) rfl zz) ?_
    show Go _ _ _ _ T4 (mkF m 162 #[.val (.long q0), .second, .val (.long q1), .second, .val (.long q2), .second, .val (.int p3), .val (.long (own_d0_81_L7 q0 q1 q2 p3 w)), .second, .val (.long (own_d0_81_L9 q0 q1 q2 p3 w)), .second, .val (.long (own_d0_81_L11 q0 q1 q2 p3 w)), .second, .val (.ref b1), .val (.long ((own_d0_81_L7 q0 q1 q2 p3 w) * (own_d0_81_L9 q0 q1 q2 p3 w))), .second, .val (.long (own_f7 ((own_d0_81_L7 q0 q1 q2 p3 w) * (own_d0_81_L9 q0 q1 q2 p3 w)) (own_d0_81_L11 q0 q1 q2 p3 w))), .second, .val (.long ((own_f7 ((own_d0_81_L7 q0 q1 q2 p3 w) * (own_d0_81_L9 q0 q1 q2 p3 w)) (own_d0_81_L11 q0 q1 q2 p3 w)) - (1 : Int64))), .second, .val (.long (((own_d0_81_L7 q0 q1 q2 p3 w) * (own_d0_81_L9 q0 q1 q2 p3 w)) - (((own_f7 ((own_d0_81_L7 q0 q1 q2 p3 w) * (own_d0_81_L9 q0 q1 q2 p3 w)) (own_d0_81_L11 q0 q1 q2 p3 w)) - (1 : Int64)) * (own_d0_81_L11 q0 q1 q2 p3 w)))), .second] [(.long (own_d0_81_L11 q0 q1 q2 p3 w)), (.long (((own_d0_81_L7 q0 q1 q2 p3 w) * (own_d0_81_L9 q0 q1 q2 p3 w)) - (((own_f7 ((own_d0_81_L7 q0 q1 q2 p3 w) * (own_d0_81_L9 q0 q1 q2 p3 w)) (own_d0_81_L11 q0 q1 q2 p3 w)) - (1 : Int64)) * (own_d0_81_L11 q0 q1 q2 p3 w))))])
    refine Go.step (fun _ zz => XS.lcmp X4.here hx rfl (hb hby at_162) rfl zz) ?_
    show Go _ _ _ _ T4 (mkF m 163 #[.val (.long q0), .second, .val (.long q1), .second, .val (.long q2), .second, .val (.int p3), .val (.long (own_d0_81_L7 q0 q1 q2 p3 w)), .second, .val (.long (own_d0_81_L9 q0 q1 q2 p3 w)), .second, .val (.long (own_d0_81_L11 q0 q1 q2 p3 w)), .second, .val (.ref b1), .val (.long ((own_d0_81_L7 q0 q1 q2 p3 w) * (own_d0_81_L9 q0 q1 q2 p3 w))), .second, .val (.long (own_f7 ((own_d0_81_L7 q0 q1 q2 p3 w) * (own_d0_81_L9 q0 q1 q2 p3 w)) (own_d0_81_L11 q0 q1 q2 p3 w))), .second, .val (.long ((own_f7 ((own_d0_81_L7 q0 q1 q2 p3 w) * (own_d0_81_L9 q0 q1 q2 p3 w)) (own_d0_81_L11 q0 q1 q2 p3 w)) - (1 : Int64))), .second, .val (.long (((own_d0_81_L7 q0 q1 q2 p3 w) * (own_d0_81_L9 q0 q1 q2 p3 w)) - (((own_f7 ((own_d0_81_L7 q0 q1 q2 p3 w) * (own_d0_81_L9 q0 q1 q2 p3 w)) (own_d0_81_L11 q0 q1 q2 p3 w)) - (1 : Int64)) * (own_d0_81_L11 q0 q1 q2 p3 w)))), .second] [(.int (lcmpW (((own_d0_81_L7 q0 q1 q2 p3 w) * (own_d0_81_L9 q0 q1 q2 p3 w)) - (((own_f7 ((own_d0_81_L7 q0 q1 q2 p3 w) * (own_d0_81_L9 q0 q1 q2 p3 w)) (own_d0_81_L11 q0 q1 q2 p3 w)) - (1 : Int64)) * (own_d0_81_L11 q0 q1 q2 p3 w))) (own_d0_81_L11 q0 q1 q2 p3 w)))])
    refine Go.step (fun _ zz => XS.ifNo X4.here hx rfl (hb hby at_163) rfl ((if0 _ _).trans (flt (fun q => hC.2.2.2 ((lw_gt (((own_d0_81_L7 q0 q1 q2 p3 w) * (own_d0_81_L9 q0 q1 q2 p3 w)) - (((own_f7 ((own_d0_81_L7 q0 q1 q2 p3 w) * (own_d0_81_L9 q0 q1 q2 p3 w)) (own_d0_81_L11 q0 q1 q2 p3 w)) - (1 : Int64)) * (own_d0_81_L11 q0 q1 q2 p3 w))) (own_d0_81_L11 q0 q1 q2 p3 w)).mp q))).2.2.1) zz) ?_
    show Go _ _ _ _ T4 (mkF m 166 #[.val (.long q0), .second, .val (.long q1), .second, .val (.long q2), .second, .val (.int p3), .val (.long (own_d0_81_L7 q0 q1 q2 p3 w)), .second, .val (.long (own_d0_81_L9 q0 q1 q2 p3 w)), .second, .val (.long (own_d0_81_L11 q0 q1 q2 p3 w)), .second, .val (.ref b1), .val (.long ((own_d0_81_L7 q0 q1 q2 p3 w) * (own_d0_81_L9 q0 q1 q2 p3 w))), .second, .val (.long (own_f7 ((own_d0_81_L7 q0 q1 q2 p3 w) * (own_d0_81_L9 q0 q1 q2 p3 w)) (own_d0_81_L11 q0 q1 q2 p3 w))), .second, .val (.long ((own_f7 ((own_d0_81_L7 q0 q1 q2 p3 w) * (own_d0_81_L9 q0 q1 q2 p3 w)) (own_d0_81_L11 q0 q1 q2 p3 w)) - (1 : Int64))), .second, .val (.long (((own_d0_81_L7 q0 q1 q2 p3 w) * (own_d0_81_L9 q0 q1 q2 p3 w)) - (((own_f7 ((own_d0_81_L7 q0 q1 q2 p3 w) * (own_d0_81_L9 q0 q1 q2 p3 w)) (own_d0_81_L11 q0 q1 q2 p3 w)) - (1 : Int64)) * (own_d0_81_L11 q0 q1 q2 p3 w)))), .second] [])
    refine Go.step (fun _ zz => XS.iconst X4.here hx rfl (hb hby at_166) zz) ?_
    show Go _ _ _ _ T4 (mkF m 167 #[.val (.long q0), .second, .val (.long q1), .second, .val (.long q2), .second, .val (.int p3), .val (.long (own_d0_81_L7 q0 q1 q2 p3 w)), .second, .val (.long (own_d0_81_L9 q0 q1 q2 p3 w)), .second, .val (.long (own_d0_81_L11 q0 q1 q2 p3 w)), .second, .val (.ref b1), .val (.long ((own_d0_81_L7 q0 q1 q2 p3 w) * (own_d0_81_L9 q0 q1 q2 p3 w))), .second, .val (.long (own_f7 ((own_d0_81_L7 q0 q1 q2 p3 w) * (own_d0_81_L9 q0 q1 q2 p3 w)) (own_d0_81_L11 q0 q1 q2 p3 w))), .second, .val (.long ((own_f7 ((own_d0_81_L7 q0 q1 q2 p3 w) * (own_d0_81_L9 q0 q1 q2 p3 w)) (own_d0_81_L11 q0 q1 q2 p3 w)) - (1 : Int64))), .second, .val (.long (((own_d0_81_L7 q0 q1 q2 p3 w) * (own_d0_81_L9 q0 q1 q2 p3 w)) - (((own_f7 ((own_d0_81_L7 q0 q1 q2 p3 w) * (own_d0_81_L9 q0 q1 q2 p3 w)) (own_d0_81_L11 q0 q1 q2 p3 w)) - (1 : Int64)) * (own_d0_81_L11 q0 q1 q2 p3 w)))), .second] [(.int (1 : Int32))])
    refine Go.step (fun _ zz => XS.goto X4.here hx rfl (pc0 := 167) (pc' := 171) rfl (hb hby at_167) (by decide) (by decide) zz) ?_
    show Go _ _ _ _ T4 (mkF m 171 #[.val (.long q0), .second, .val (.long q1), .second, .val (.long q2), .second, .val (.int p3), .val (.long (own_d0_81_L7 q0 q1 q2 p3 w)), .second, .val (.long (own_d0_81_L9 q0 q1 q2 p3 w)), .second, .val (.long (own_d0_81_L11 q0 q1 q2 p3 w)), .second, .val (.ref b1), .val (.long ((own_d0_81_L7 q0 q1 q2 p3 w) * (own_d0_81_L9 q0 q1 q2 p3 w))), .second, .val (.long (own_f7 ((own_d0_81_L7 q0 q1 q2 p3 w) * (own_d0_81_L9 q0 q1 q2 p3 w)) (own_d0_81_L11 q0 q1 q2 p3 w))), .second, .val (.long ((own_f7 ((own_d0_81_L7 q0 q1 q2 p3 w) * (own_d0_81_L9 q0 q1 q2 p3 w)) (own_d0_81_L11 q0 q1 q2 p3 w)) - (1 : Int64))), .second, .val (.long (((own_d0_81_L7 q0 q1 q2 p3 w) * (own_d0_81_L9 q0 q1 q2 p3 w)) - (((own_f7 ((own_d0_81_L7 q0 q1 q2 p3 w) * (own_d0_81_L9 q0 q1 q2 p3 w)) (own_d0_81_L11 q0 q1 q2 p3 w)) - (1 : Int64)) * (own_d0_81_L11 q0 q1 q2 p3 w)))), .second] [(.int (1 : Int32))])
    exact Go.retN X4 hx (t := .boolean) Bd.returns (by simp) (hb hby at_171) Bd.notSynchronized (z' := (1 : Int32)) (by decide) (⟨rfl, N4⟩) (by decide) (by decide)
  refine Go.step (fun _ zz => XS.iload X0.here hx rfl (hb hby at_0) rfl zz) ?_
  show Go _ _ _ _ s₁ (mkF m 2 #[.val (.long q0), .second, .val (.long q1), .second, .val (.long q2), .second, .val (.int p3), .unset, .unset, .unset, .unset, .unset, .unset, .unset, .unset, .unset, .unset, .unset, .unset, .unset, .unset, .unset] [(.int p3)])
  refine Go.step (fun _ zz => XS.iconst X0.here hx rfl (hb hby at_2) zz) ?_
  show Go _ _ _ _ s₁ (mkF m 3 #[.val (.long q0), .second, .val (.long q1), .second, .val (.long q2), .second, .val (.int p3), .unset, .unset, .unset, .unset, .unset, .unset, .unset, .unset, .unset, .unset, .unset, .unset, .unset, .unset, .unset] [(.int (1 : Int32)), (.int p3)])
  refine Go.step (fun _ zz => XS.iand X0.here hx rfl (hb hby at_3) rfl zz) ?_
  show Go _ _ _ _ s₁ (mkF m 4 #[.val (.long q0), .second, .val (.long q1), .second, .val (.long q2), .second, .val (.int p3), .unset, .unset, .unset, .unset, .unset, .unset, .unset, .unset, .unset, .unset, .unset, .unset, .unset, .unset, .unset] [(.int (p3 &&& (1 : Int32)))])
  by_cases hc4 : (p3 &&& (1 : Int32)) = (0 : Int32)
  · refine Go.step (fun _ zz => XS.ifYes X0.here hx rfl (pc0 := 4) (pc' := 38) rfl (hb hby at_4) rfl ((if0 _ _).trans (teq hc4).1) (by decide) (by decide) zz) ?_
    show Go _ _ _ _ s₁ (mkF m 38 #[.val (.long q0), .second, .val (.long q1), .second, .val (.long q2), .second, .val (.int p3), .unset, .unset, .unset, .unset, .unset, .unset, .unset, .unset, .unset, .unset, .unset, .unset, .unset, .unset, .unset] [])
    refine Go.step (fun _ zz => XS.lconst X0.here hx rfl (hb hby at_38) zz) ?_
    show Go _ _ _ _ s₁ (mkF m 39 #[.val (.long q0), .second, .val (.long q1), .second, .val (.long q2), .second, .val (.int p3), .unset, .unset, .unset, .unset, .unset, .unset, .unset, .unset, .unset, .unset, .unset, .unset, .unset, .unset, .unset] [(.long (1 : Int64))])
    refine Go.step (fun _ zz => XS.lloadN X0.here hx rfl (hb hby at_39) rfl zz) ?_
    show Go _ _ _ _ s₁ (mkF m 40 #[.val (.long q0), .second, .val (.long q1), .second, .val (.long q2), .second, .val (.int p3), .unset, .unset, .unset, .unset, .unset, .unset, .unset, .unset, .unset, .unset, .unset, .unset, .unset, .unset, .unset] [(.long q1), (.long (1 : Int64))])
    refine Go.step (fun _ zz => X0.ldc2Long hx hown (mvT hZ (hw _ (List.mem_of_getElem? (i := 0) rfl))) (g := (mkF m 40 #[.val (.long q0), .second, .val (.long q1), .second, .val (.long q2), .second, .val (.int p3), .unset, .unset, .unset, .unset, .unset, .unset, .unset, .unset, .unset, .unset, .unset, .unset, .unset, .unset, .unset] [(.long q1), (.long (1 : Int64))])) rfl (hb hby at_40) _ zz) ?_
    show Go _ _ _ _ s₁ (mkF m 43 #[.val (.long q0), .second, .val (.long q1), .second, .val (.long q2), .second, .val (.int p3), .unset, .unset, .unset, .unset, .unset, .unset, .unset, .unset, .unset, .unset, .unset, .unset, .unset, .unset, .unset] [(.long (9223372036854775807 : Int64)), (.long q1), (.long (1 : Int64))])
    refine Go.step (fun _ zz => XS.land X0.here hx rfl (hb hby at_43) rfl zz) ?_
    show Go _ _ _ _ s₁ (mkF m 44 #[.val (.long q0), .second, .val (.long q1), .second, .val (.long q2), .second, .val (.int p3), .unset, .unset, .unset, .unset, .unset, .unset, .unset, .unset, .unset, .unset, .unset, .unset, .unset, .unset, .unset] [(.long (q1 &&& (9223372036854775807 : Int64))), (.long (1 : Int64))])
    refine Go.step (fun _ zz => X0.ldc2Long hx hown (mvT hZ (hw _ (List.mem_of_getElem? (i := 0) rfl))) (g := (mkF m 44 #[.val (.long q0), .second, .val (.long q1), .second, .val (.long q2), .second, .val (.int p3), .unset, .unset, .unset, .unset, .unset, .unset, .unset, .unset, .unset, .unset, .unset, .unset, .unset, .unset, .unset] [(.long (q1 &&& (9223372036854775807 : Int64))), (.long (1 : Int64))])) rfl (hb hby at_44) _ zz) ?_
    show Go _ _ _ _ s₁ (mkF m 47 #[.val (.long q0), .second, .val (.long q1), .second, .val (.long q2), .second, .val (.int p3), .unset, .unset, .unset, .unset, .unset, .unset, .unset, .unset, .unset, .unset, .unset, .unset, .unset, .unset, .unset] [(.long (9223372036854775807 : Int64)), (.long (q1 &&& (9223372036854775807 : Int64))), (.long (1 : Int64))])
    refine Go.step (fun _ zz => own_lremM X0 hx rfl (hb hby at_47) rfl (by decide) zz) ?_
    show Go _ _ _ _ s₁ (mkF m 48 #[.val (.long q0), .second, .val (.long q1), .second, .val (.long q2), .second, .val (.int p3), .unset, .unset, .unset, .unset, .unset, .unset, .unset, .unset, .unset, .unset, .unset, .unset, .unset, .unset, .unset] [(.long ((q1 &&& (9223372036854775807 : Int64)) % (9223372036854775807 : Int64))), (.long (1 : Int64))])
    refine Go.step (fun _ zz => XS.ladd X0.here hx rfl (hb hby at_48) rfl zz) ?_
    show Go _ _ _ _ s₁ (mkF m 49 #[.val (.long q0), .second, .val (.long q1), .second, .val (.long q2), .second, .val (.int p3), .unset, .unset, .unset, .unset, .unset, .unset, .unset, .unset, .unset, .unset, .unset, .unset, .unset, .unset, .unset] [(.long ((1 : Int64) + ((q1 &&& (9223372036854775807 : Int64)) % (9223372036854775807 : Int64))))])
    refine Go.step (fun _ zz => XS.lstore X0.here hx rfl (hb hby at_49) rfl (l' := #[.val (.long q0), .second, .val (.long q1), .second, .val (.long q2), .second, .val (.int p3), .unset, .unset, .val (.long ((1 : Int64) + ((q1 &&& (9223372036854775807 : Int64)) % (9223372036854775807 : Int64)))), .second, .unset, .unset, .unset, .unset, .unset, .unset, .unset, .unset, .unset, .unset, .unset]) rfl zz) ?_
    show Go _ _ _ _ s₁ (mkF m 51 #[.val (.long q0), .second, .val (.long q1), .second, .val (.long q2), .second, .val (.int p3), .unset, .unset, .val (.long ((1 : Int64) + ((q1 &&& (9223372036854775807 : Int64)) % (9223372036854775807 : Int64)))), .second, .unset, .unset, .unset, .unset, .unset, .unset, .unset, .unset, .unset, .unset, .unset] [])
    refine Go.step (fun _ zz => XS.lconst X0.here hx rfl (hb hby at_51) zz) ?_
    show Go _ _ _ _ s₁ (mkF m 52 #[.val (.long q0), .second, .val (.long q1), .second, .val (.long q2), .second, .val (.int p3), .unset, .unset, .val (.long ((1 : Int64) + ((q1 &&& (9223372036854775807 : Int64)) % (9223372036854775807 : Int64)))), .second, .unset, .unset, .unset, .unset, .unset, .unset, .unset, .unset, .unset, .unset, .unset] [(.long (1 : Int64))])
    refine Go.step (fun _ zz => XS.lloadN X0.here hx rfl (hb hby at_52) rfl zz) ?_
    show Go _ _ _ _ s₁ (mkF m 53 #[.val (.long q0), .second, .val (.long q1), .second, .val (.long q2), .second, .val (.int p3), .unset, .unset, .val (.long ((1 : Int64) + ((q1 &&& (9223372036854775807 : Int64)) % (9223372036854775807 : Int64)))), .second, .unset, .unset, .unset, .unset, .unset, .unset, .unset, .unset, .unset, .unset, .unset] [(.long q0), (.long (1 : Int64))])
    refine Go.step (fun _ zz => X0.ldc2Long hx hown (mvT hZ (hw _ (List.mem_of_getElem? (i := 0) rfl))) (g := (mkF m 53 #[.val (.long q0), .second, .val (.long q1), .second, .val (.long q2), .second, .val (.int p3), .unset, .unset, .val (.long ((1 : Int64) + ((q1 &&& (9223372036854775807 : Int64)) % (9223372036854775807 : Int64)))), .second, .unset, .unset, .unset, .unset, .unset, .unset, .unset, .unset, .unset, .unset, .unset] [(.long q0), (.long (1 : Int64))])) rfl (hb hby at_53) _ zz) ?_
    show Go _ _ _ _ s₁ (mkF m 56 #[.val (.long q0), .second, .val (.long q1), .second, .val (.long q2), .second, .val (.int p3), .unset, .unset, .val (.long ((1 : Int64) + ((q1 &&& (9223372036854775807 : Int64)) % (9223372036854775807 : Int64)))), .second, .unset, .unset, .unset, .unset, .unset, .unset, .unset, .unset, .unset, .unset, .unset] [(.long (9223372036854775807 : Int64)), (.long q0), (.long (1 : Int64))])
    refine Go.step (fun _ zz => XS.land X0.here hx rfl (hb hby at_56) rfl zz) ?_
    show Go _ _ _ _ s₁ (mkF m 57 #[.val (.long q0), .second, .val (.long q1), .second, .val (.long q2), .second, .val (.int p3), .unset, .unset, .val (.long ((1 : Int64) + ((q1 &&& (9223372036854775807 : Int64)) % (9223372036854775807 : Int64)))), .second, .unset, .unset, .unset, .unset, .unset, .unset, .unset, .unset, .unset, .unset, .unset] [(.long (q0 &&& (9223372036854775807 : Int64))), (.long (1 : Int64))])
    refine Go.step (fun _ zz => X0.ldc2Long hx hown (mvT hZ (hw _ (List.mem_of_getElem? (i := 0) rfl))) (g := (mkF m 57 #[.val (.long q0), .second, .val (.long q1), .second, .val (.long q2), .second, .val (.int p3), .unset, .unset, .val (.long ((1 : Int64) + ((q1 &&& (9223372036854775807 : Int64)) % (9223372036854775807 : Int64)))), .second, .unset, .unset, .unset, .unset, .unset, .unset, .unset, .unset, .unset, .unset, .unset] [(.long (q0 &&& (9223372036854775807 : Int64))), (.long (1 : Int64))])) rfl (hb hby at_57) _ zz) ?_
    show Go _ _ _ _ s₁ (mkF m 60 #[.val (.long q0), .second, .val (.long q1), .second, .val (.long q2), .second, .val (.int p3), .unset, .unset, .val (.long ((1 : Int64) + ((q1 &&& (9223372036854775807 : Int64)) % (9223372036854775807 : Int64)))), .second, .unset, .unset, .unset, .unset, .unset, .unset, .unset, .unset, .unset, .unset, .unset] [(.long (9223372036854775807 : Int64)), (.long (q0 &&& (9223372036854775807 : Int64))), (.long (1 : Int64))])
    refine Go.step (fun _ zz => XS.lload X0.here hx rfl (hb hby at_60) rfl zz) ?_
    show Go _ _ _ _ s₁ (mkF m 62 #[.val (.long q0), .second, .val (.long q1), .second, .val (.long q2), .second, .val (.int p3), .unset, .unset, .val (.long ((1 : Int64) + ((q1 &&& (9223372036854775807 : Int64)) % (9223372036854775807 : Int64)))), .second, .unset, .unset, .unset, .unset, .unset, .unset, .unset, .unset, .unset, .unset, .unset] [(.long ((1 : Int64) + ((q1 &&& (9223372036854775807 : Int64)) % (9223372036854775807 : Int64)))), (.long (9223372036854775807 : Int64)), (.long (q0 &&& (9223372036854775807 : Int64))), (.long (1 : Int64))])
    refine Go.step (fun _ zz => XS.ldiv X0.here hx rfl (hb hby at_62) rfl (own_ne0 (own_big q1 q0).1) zz) ?_
    show Go _ _ _ _ s₁ (mkF m 63 #[.val (.long q0), .second, .val (.long q1), .second, .val (.long q2), .second, .val (.int p3), .unset, .unset, .val (.long ((1 : Int64) + ((q1 &&& (9223372036854775807 : Int64)) % (9223372036854775807 : Int64)))), .second, .unset, .unset, .unset, .unset, .unset, .unset, .unset, .unset, .unset, .unset, .unset] [(.long ((9223372036854775807 : Int64) / ((1 : Int64) + ((q1 &&& (9223372036854775807 : Int64)) % (9223372036854775807 : Int64))))), (.long (q0 &&& (9223372036854775807 : Int64))), (.long (1 : Int64))])
    refine Go.step (fun _ zz => own_lremM X0 hx rfl (hb hby at_63) rfl (own_big q1 q0).2.1 zz) ?_
    show Go _ _ _ _ s₁ (mkF m 64 #[.val (.long q0), .second, .val (.long q1), .second, .val (.long q2), .second, .val (.int p3), .unset, .unset, .val (.long ((1 : Int64) + ((q1 &&& (9223372036854775807 : Int64)) % (9223372036854775807 : Int64)))), .second, .unset, .unset, .unset, .unset, .unset, .unset, .unset, .unset, .unset, .unset, .unset] [(.long ((q0 &&& (9223372036854775807 : Int64)) % ((9223372036854775807 : Int64) / ((1 : Int64) + ((q1 &&& (9223372036854775807 : Int64)) % (9223372036854775807 : Int64)))))), (.long (1 : Int64))])
    refine Go.step (fun _ zz => XS.ladd X0.here hx rfl (hb hby at_64) rfl zz) ?_
    show Go _ _ _ _ s₁ (mkF m 65 #[.val (.long q0), .second, .val (.long q1), .second, .val (.long q2), .second, .val (.int p3), .unset, .unset, .val (.long ((1 : Int64) + ((q1 &&& (9223372036854775807 : Int64)) % (9223372036854775807 : Int64)))), .second, .unset, .unset, .unset, .unset, .unset, .unset, .unset, .unset, .unset, .unset, .unset] [(.long ((1 : Int64) + ((q0 &&& (9223372036854775807 : Int64)) % ((9223372036854775807 : Int64) / ((1 : Int64) + ((q1 &&& (9223372036854775807 : Int64)) % (9223372036854775807 : Int64)))))))])
    refine Go.step (fun _ zz => XS.lstore X0.here hx rfl (hb hby at_65) rfl (l' := #[.val (.long q0), .second, .val (.long q1), .second, .val (.long q2), .second, .val (.int p3), .val (.long ((1 : Int64) + ((q0 &&& (9223372036854775807 : Int64)) % ((9223372036854775807 : Int64) / ((1 : Int64) + ((q1 &&& (9223372036854775807 : Int64)) % (9223372036854775807 : Int64))))))), .second, .val (.long ((1 : Int64) + ((q1 &&& (9223372036854775807 : Int64)) % (9223372036854775807 : Int64)))), .second, .unset, .unset, .unset, .unset, .unset, .unset, .unset, .unset, .unset, .unset, .unset]) rfl zz) ?_
    show Go _ _ _ _ s₁ (mkF m 67 #[.val (.long q0), .second, .val (.long q1), .second, .val (.long q2), .second, .val (.int p3), .val (.long ((1 : Int64) + ((q0 &&& (9223372036854775807 : Int64)) % ((9223372036854775807 : Int64) / ((1 : Int64) + ((q1 &&& (9223372036854775807 : Int64)) % (9223372036854775807 : Int64))))))), .second, .val (.long ((1 : Int64) + ((q1 &&& (9223372036854775807 : Int64)) % (9223372036854775807 : Int64)))), .second, .unset, .unset, .unset, .unset, .unset, .unset, .unset, .unset, .unset, .unset, .unset] [])
    refine Go.step (fun _ zz => XS.lconst X0.here hx rfl (hb hby at_67) zz) ?_
    show Go _ _ _ _ s₁ (mkF m 68 #[.val (.long q0), .second, .val (.long q1), .second, .val (.long q2), .second, .val (.int p3), .val (.long ((1 : Int64) + ((q0 &&& (9223372036854775807 : Int64)) % ((9223372036854775807 : Int64) / ((1 : Int64) + ((q1 &&& (9223372036854775807 : Int64)) % (9223372036854775807 : Int64))))))), .second, .val (.long ((1 : Int64) + ((q1 &&& (9223372036854775807 : Int64)) % (9223372036854775807 : Int64)))), .second, .unset, .unset, .unset, .unset, .unset, .unset, .unset, .unset, .unset, .unset, .unset] [(.long (1 : Int64))])
    refine Go.step (fun _ zz => XS.lload X0.here hx rfl (hb hby at_68) rfl zz) ?_
    show Go _ _ _ _ s₁ (mkF m 70 #[.val (.long q0), .second, .val (.long q1), .second, .val (.long q2), .second, .val (.int p3), .val (.long ((1 : Int64) + ((q0 &&& (9223372036854775807 : Int64)) % ((9223372036854775807 : Int64) / ((1 : Int64) + ((q1 &&& (9223372036854775807 : Int64)) % (9223372036854775807 : Int64))))))), .second, .val (.long ((1 : Int64) + ((q1 &&& (9223372036854775807 : Int64)) % (9223372036854775807 : Int64)))), .second, .unset, .unset, .unset, .unset, .unset, .unset, .unset, .unset, .unset, .unset, .unset] [(.long q2), (.long (1 : Int64))])
    refine Go.step (fun _ zz => X0.ldc2Long hx hown (mvT hZ (hw _ (List.mem_of_getElem? (i := 0) rfl))) (g := (mkF m 70 #[.val (.long q0), .second, .val (.long q1), .second, .val (.long q2), .second, .val (.int p3), .val (.long ((1 : Int64) + ((q0 &&& (9223372036854775807 : Int64)) % ((9223372036854775807 : Int64) / ((1 : Int64) + ((q1 &&& (9223372036854775807 : Int64)) % (9223372036854775807 : Int64))))))), .second, .val (.long ((1 : Int64) + ((q1 &&& (9223372036854775807 : Int64)) % (9223372036854775807 : Int64)))), .second, .unset, .unset, .unset, .unset, .unset, .unset, .unset, .unset, .unset, .unset, .unset] [(.long q2), (.long (1 : Int64))])) rfl (hb hby at_70) _ zz) ?_
    show Go _ _ _ _ s₁ (mkF m 73 #[.val (.long q0), .second, .val (.long q1), .second, .val (.long q2), .second, .val (.int p3), .val (.long ((1 : Int64) + ((q0 &&& (9223372036854775807 : Int64)) % ((9223372036854775807 : Int64) / ((1 : Int64) + ((q1 &&& (9223372036854775807 : Int64)) % (9223372036854775807 : Int64))))))), .second, .val (.long ((1 : Int64) + ((q1 &&& (9223372036854775807 : Int64)) % (9223372036854775807 : Int64)))), .second, .unset, .unset, .unset, .unset, .unset, .unset, .unset, .unset, .unset, .unset, .unset] [(.long (9223372036854775807 : Int64)), (.long q2), (.long (1 : Int64))])
    refine Go.step (fun _ zz => XS.land X0.here hx rfl (hb hby at_73) rfl zz) ?_
    show Go _ _ _ _ s₁ (mkF m 74 #[.val (.long q0), .second, .val (.long q1), .second, .val (.long q2), .second, .val (.int p3), .val (.long ((1 : Int64) + ((q0 &&& (9223372036854775807 : Int64)) % ((9223372036854775807 : Int64) / ((1 : Int64) + ((q1 &&& (9223372036854775807 : Int64)) % (9223372036854775807 : Int64))))))), .second, .val (.long ((1 : Int64) + ((q1 &&& (9223372036854775807 : Int64)) % (9223372036854775807 : Int64)))), .second, .unset, .unset, .unset, .unset, .unset, .unset, .unset, .unset, .unset, .unset, .unset] [(.long (q2 &&& (9223372036854775807 : Int64))), (.long (1 : Int64))])
    refine Go.step (fun _ zz => X0.ldc2Long hx hown (mvT hZ (hw _ (List.mem_of_getElem? (i := 0) rfl))) (g := (mkF m 74 #[.val (.long q0), .second, .val (.long q1), .second, .val (.long q2), .second, .val (.int p3), .val (.long ((1 : Int64) + ((q0 &&& (9223372036854775807 : Int64)) % ((9223372036854775807 : Int64) / ((1 : Int64) + ((q1 &&& (9223372036854775807 : Int64)) % (9223372036854775807 : Int64))))))), .second, .val (.long ((1 : Int64) + ((q1 &&& (9223372036854775807 : Int64)) % (9223372036854775807 : Int64)))), .second, .unset, .unset, .unset, .unset, .unset, .unset, .unset, .unset, .unset, .unset, .unset] [(.long (q2 &&& (9223372036854775807 : Int64))), (.long (1 : Int64))])) rfl (hb hby at_74) _ zz) ?_
    show Go _ _ _ _ s₁ (mkF m 77 #[.val (.long q0), .second, .val (.long q1), .second, .val (.long q2), .second, .val (.int p3), .val (.long ((1 : Int64) + ((q0 &&& (9223372036854775807 : Int64)) % ((9223372036854775807 : Int64) / ((1 : Int64) + ((q1 &&& (9223372036854775807 : Int64)) % (9223372036854775807 : Int64))))))), .second, .val (.long ((1 : Int64) + ((q1 &&& (9223372036854775807 : Int64)) % (9223372036854775807 : Int64)))), .second, .unset, .unset, .unset, .unset, .unset, .unset, .unset, .unset, .unset, .unset, .unset] [(.long (9223372036854775807 : Int64)), (.long (q2 &&& (9223372036854775807 : Int64))), (.long (1 : Int64))])
    refine Go.step (fun _ zz => own_lremM X0 hx rfl (hb hby at_77) rfl (by decide) zz) ?_
    show Go _ _ _ _ s₁ (mkF m 78 #[.val (.long q0), .second, .val (.long q1), .second, .val (.long q2), .second, .val (.int p3), .val (.long ((1 : Int64) + ((q0 &&& (9223372036854775807 : Int64)) % ((9223372036854775807 : Int64) / ((1 : Int64) + ((q1 &&& (9223372036854775807 : Int64)) % (9223372036854775807 : Int64))))))), .second, .val (.long ((1 : Int64) + ((q1 &&& (9223372036854775807 : Int64)) % (9223372036854775807 : Int64)))), .second, .unset, .unset, .unset, .unset, .unset, .unset, .unset, .unset, .unset, .unset, .unset] [(.long ((q2 &&& (9223372036854775807 : Int64)) % (9223372036854775807 : Int64))), (.long (1 : Int64))])
    refine Go.step (fun _ zz => XS.ladd X0.here hx rfl (hb hby at_78) rfl zz) ?_
    show Go _ _ _ _ s₁ (mkF m 79 #[.val (.long q0), .second, .val (.long q1), .second, .val (.long q2), .second, .val (.int p3), .val (.long ((1 : Int64) + ((q0 &&& (9223372036854775807 : Int64)) % ((9223372036854775807 : Int64) / ((1 : Int64) + ((q1 &&& (9223372036854775807 : Int64)) % (9223372036854775807 : Int64))))))), .second, .val (.long ((1 : Int64) + ((q1 &&& (9223372036854775807 : Int64)) % (9223372036854775807 : Int64)))), .second, .unset, .unset, .unset, .unset, .unset, .unset, .unset, .unset, .unset, .unset, .unset] [(.long ((1 : Int64) + ((q2 &&& (9223372036854775807 : Int64)) % (9223372036854775807 : Int64))))])
    refine Go.step (fun _ zz => XS.lstore X0.here hx rfl (hb hby at_79) rfl (l' := #[.val (.long q0), .second, .val (.long q1), .second, .val (.long q2), .second, .val (.int p3), .val (.long ((1 : Int64) + ((q0 &&& (9223372036854775807 : Int64)) % ((9223372036854775807 : Int64) / ((1 : Int64) + ((q1 &&& (9223372036854775807 : Int64)) % (9223372036854775807 : Int64))))))), .second, .val (.long ((1 : Int64) + ((q1 &&& (9223372036854775807 : Int64)) % (9223372036854775807 : Int64)))), .second, .val (.long ((1 : Int64) + ((q2 &&& (9223372036854775807 : Int64)) % (9223372036854775807 : Int64)))), .second, .unset, .unset, .unset, .unset, .unset, .unset, .unset, .unset, .unset]) rfl zz) ?_
    show Go _ _ _ _ s₁ (mkF m 81 #[.val (.long q0), .second, .val (.long q1), .second, .val (.long q2), .second, .val (.int p3), .val (.long ((1 : Int64) + ((q0 &&& (9223372036854775807 : Int64)) % ((9223372036854775807 : Int64) / ((1 : Int64) + ((q1 &&& (9223372036854775807 : Int64)) % (9223372036854775807 : Int64))))))), .second, .val (.long ((1 : Int64) + ((q1 &&& (9223372036854775807 : Int64)) % (9223372036854775807 : Int64)))), .second, .val (.long ((1 : Int64) + ((q2 &&& (9223372036854775807 : Int64)) % (9223372036854775807 : Int64)))), .second, .unset, .unset, .unset, .unset, .unset, .unset, .unset, .unset, .unset] [])
    have qd_L7 : own_d0_81_L7 q0 q1 q2 p3 w = ((1 : Int64) + ((q0 &&& (9223372036854775807 : Int64)) % ((9223372036854775807 : Int64) / ((1 : Int64) + ((q1 &&& (9223372036854775807 : Int64)) % (9223372036854775807 : Int64)))))) := by unfold own_d0_81_L7; rw [if_pos hc4]
    have qd_L9 : own_d0_81_L9 q0 q1 q2 p3 w = ((1 : Int64) + ((q1 &&& (9223372036854775807 : Int64)) % (9223372036854775807 : Int64))) := by unfold own_d0_81_L9; rw [if_pos hc4]
    have qd_L11 : own_d0_81_L11 q0 q1 q2 p3 w = ((1 : Int64) + ((q2 &&& (9223372036854775807 : Int64)) % (9223372036854775807 : Int64))) := by unfold own_d0_81_L11; rw [if_pos hc4]
    have jn := jn81 s₁ _ X0 N0 e0
    rw [qd_L7] at jn
    rw [qd_L9] at jn
    rw [qd_L11] at jn
    exact jn
  · refine Go.step (fun _ zz => XS.ifNo X0.here hx rfl (hb hby at_4) rfl ((if0 _ _).trans (feq hc4).1) zz) ?_
    show Go _ _ _ _ s₁ (mkF m 7 #[.val (.long q0), .second, .val (.long q1), .second, .val (.long q2), .second, .val (.int p3), .unset, .unset, .unset, .unset, .unset, .unset, .unset, .unset, .unset, .unset, .unset, .unset, .unset, .unset, .unset] [])
    refine Go.step (fun _ zz => XS.lconst X0.here hx rfl (hb hby at_7) zz) ?_
    show Go _ _ _ _ s₁ (mkF m 8 #[.val (.long q0), .second, .val (.long q1), .second, .val (.long q2), .second, .val (.int p3), .unset, .unset, .unset, .unset, .unset, .unset, .unset, .unset, .unset, .unset, .unset, .unset, .unset, .unset, .unset] [(.long (1 : Int64))])
    refine Go.step (fun _ zz => XS.lloadN X0.here hx rfl (hb hby at_8) rfl zz) ?_
    show Go _ _ _ _ s₁ (mkF m 9 #[.val (.long q0), .second, .val (.long q1), .second, .val (.long q2), .second, .val (.int p3), .unset, .unset, .unset, .unset, .unset, .unset, .unset, .unset, .unset, .unset, .unset, .unset, .unset, .unset, .unset] [(.long q0), (.long (1 : Int64))])
    refine Go.step (fun _ zz => X0.ldc2Long hx hown (mvT hZ (hw _ (List.mem_of_getElem? (i := 43) rfl))) (g := (mkF m 9 #[.val (.long q0), .second, .val (.long q1), .second, .val (.long q2), .second, .val (.int p3), .unset, .unset, .unset, .unset, .unset, .unset, .unset, .unset, .unset, .unset, .unset, .unset, .unset, .unset, .unset] [(.long q0), (.long (1 : Int64))])) rfl (hb hby at_9) _ zz) ?_
    show Go _ _ _ _ s₁ (mkF m 12 #[.val (.long q0), .second, .val (.long q1), .second, .val (.long q2), .second, .val (.int p3), .unset, .unset, .unset, .unset, .unset, .unset, .unset, .unset, .unset, .unset, .unset, .unset, .unset, .unset, .unset] [(.long (15 : Int64)), (.long q0), (.long (1 : Int64))])
    refine Go.step (fun _ zz => XS.land X0.here hx rfl (hb hby at_12) rfl zz) ?_
    show Go _ _ _ _ s₁ (mkF m 13 #[.val (.long q0), .second, .val (.long q1), .second, .val (.long q2), .second, .val (.int p3), .unset, .unset, .unset, .unset, .unset, .unset, .unset, .unset, .unset, .unset, .unset, .unset, .unset, .unset, .unset] [(.long (q0 &&& (15 : Int64))), (.long (1 : Int64))])
    refine Go.step (fun _ zz => XS.ladd X0.here hx rfl (hb hby at_13) rfl zz) ?_
    show Go _ _ _ _ s₁ (mkF m 14 #[.val (.long q0), .second, .val (.long q1), .second, .val (.long q2), .second, .val (.int p3), .unset, .unset, .unset, .unset, .unset, .unset, .unset, .unset, .unset, .unset, .unset, .unset, .unset, .unset, .unset] [(.long ((1 : Int64) + (q0 &&& (15 : Int64))))])
    refine Go.step (fun _ zz => XS.lstore X0.here hx rfl (hb hby at_14) rfl (l' := #[.val (.long q0), .second, .val (.long q1), .second, .val (.long q2), .second, .val (.int p3), .val (.long ((1 : Int64) + (q0 &&& (15 : Int64)))), .second, .unset, .unset, .unset, .unset, .unset, .unset, .unset, .unset, .unset, .unset, .unset, .unset, .unset]) rfl zz) ?_
    show Go _ _ _ _ s₁ (mkF m 16 #[.val (.long q0), .second, .val (.long q1), .second, .val (.long q2), .second, .val (.int p3), .val (.long ((1 : Int64) + (q0 &&& (15 : Int64)))), .second, .unset, .unset, .unset, .unset, .unset, .unset, .unset, .unset, .unset, .unset, .unset, .unset, .unset] [])
    refine Go.step (fun _ zz => XS.lconst X0.here hx rfl (hb hby at_16) zz) ?_
    show Go _ _ _ _ s₁ (mkF m 17 #[.val (.long q0), .second, .val (.long q1), .second, .val (.long q2), .second, .val (.int p3), .val (.long ((1 : Int64) + (q0 &&& (15 : Int64)))), .second, .unset, .unset, .unset, .unset, .unset, .unset, .unset, .unset, .unset, .unset, .unset, .unset, .unset] [(.long (1 : Int64))])
    refine Go.step (fun _ zz => XS.lloadN X0.here hx rfl (hb hby at_17) rfl zz) ?_
    show Go _ _ _ _ s₁ (mkF m 18 #[.val (.long q0), .second, .val (.long q1), .second, .val (.long q2), .second, .val (.int p3), .val (.long ((1 : Int64) + (q0 &&& (15 : Int64)))), .second, .unset, .unset, .unset, .unset, .unset, .unset, .unset, .unset, .unset, .unset, .unset, .unset, .unset] [(.long q1), (.long (1 : Int64))])
    refine Go.step (fun _ zz => X0.ldc2Long hx hown (mvT hZ (hw _ (List.mem_of_getElem? (i := 43) rfl))) (g := (mkF m 18 #[.val (.long q0), .second, .val (.long q1), .second, .val (.long q2), .second, .val (.int p3), .val (.long ((1 : Int64) + (q0 &&& (15 : Int64)))), .second, .unset, .unset, .unset, .unset, .unset, .unset, .unset, .unset, .unset, .unset, .unset, .unset, .unset] [(.long q1), (.long (1 : Int64))])) rfl (hb hby at_18) _ zz) ?_
    show Go _ _ _ _ s₁ (mkF m 21 #[.val (.long q0), .second, .val (.long q1), .second, .val (.long q2), .second, .val (.int p3), .val (.long ((1 : Int64) + (q0 &&& (15 : Int64)))), .second, .unset, .unset, .unset, .unset, .unset, .unset, .unset, .unset, .unset, .unset, .unset, .unset, .unset] [(.long (15 : Int64)), (.long q1), (.long (1 : Int64))])
    refine Go.step (fun _ zz => XS.land X0.here hx rfl (hb hby at_21) rfl zz) ?_
    show Go _ _ _ _ s₁ (mkF m 22 #[.val (.long q0), .second, .val (.long q1), .second, .val (.long q2), .second, .val (.int p3), .val (.long ((1 : Int64) + (q0 &&& (15 : Int64)))), .second, .unset, .unset, .unset, .unset, .unset, .unset, .unset, .unset, .unset, .unset, .unset, .unset, .unset] [(.long (q1 &&& (15 : Int64))), (.long (1 : Int64))])
    refine Go.step (fun _ zz => XS.ladd X0.here hx rfl (hb hby at_22) rfl zz) ?_
    show Go _ _ _ _ s₁ (mkF m 23 #[.val (.long q0), .second, .val (.long q1), .second, .val (.long q2), .second, .val (.int p3), .val (.long ((1 : Int64) + (q0 &&& (15 : Int64)))), .second, .unset, .unset, .unset, .unset, .unset, .unset, .unset, .unset, .unset, .unset, .unset, .unset, .unset] [(.long ((1 : Int64) + (q1 &&& (15 : Int64))))])
    refine Go.step (fun _ zz => XS.lstore X0.here hx rfl (hb hby at_23) rfl (l' := #[.val (.long q0), .second, .val (.long q1), .second, .val (.long q2), .second, .val (.int p3), .val (.long ((1 : Int64) + (q0 &&& (15 : Int64)))), .second, .val (.long ((1 : Int64) + (q1 &&& (15 : Int64)))), .second, .unset, .unset, .unset, .unset, .unset, .unset, .unset, .unset, .unset, .unset, .unset]) rfl zz) ?_
    show Go _ _ _ _ s₁ (mkF m 25 #[.val (.long q0), .second, .val (.long q1), .second, .val (.long q2), .second, .val (.int p3), .val (.long ((1 : Int64) + (q0 &&& (15 : Int64)))), .second, .val (.long ((1 : Int64) + (q1 &&& (15 : Int64)))), .second, .unset, .unset, .unset, .unset, .unset, .unset, .unset, .unset, .unset, .unset, .unset] [])
    refine Go.step (fun _ zz => XS.lconst X0.here hx rfl (hb hby at_25) zz) ?_
    show Go _ _ _ _ s₁ (mkF m 26 #[.val (.long q0), .second, .val (.long q1), .second, .val (.long q2), .second, .val (.int p3), .val (.long ((1 : Int64) + (q0 &&& (15 : Int64)))), .second, .val (.long ((1 : Int64) + (q1 &&& (15 : Int64)))), .second, .unset, .unset, .unset, .unset, .unset, .unset, .unset, .unset, .unset, .unset, .unset] [(.long (1 : Int64))])
    refine Go.step (fun _ zz => XS.lload X0.here hx rfl (hb hby at_26) rfl zz) ?_
    show Go _ _ _ _ s₁ (mkF m 28 #[.val (.long q0), .second, .val (.long q1), .second, .val (.long q2), .second, .val (.int p3), .val (.long ((1 : Int64) + (q0 &&& (15 : Int64)))), .second, .val (.long ((1 : Int64) + (q1 &&& (15 : Int64)))), .second, .unset, .unset, .unset, .unset, .unset, .unset, .unset, .unset, .unset, .unset, .unset] [(.long q2), (.long (1 : Int64))])
    refine Go.step (fun _ zz => X0.ldc2Long hx hown (mvT hZ (hw _ (List.mem_of_getElem? (i := 43) rfl))) (g := (mkF m 28 #[.val (.long q0), .second, .val (.long q1), .second, .val (.long q2), .second, .val (.int p3), .val (.long ((1 : Int64) + (q0 &&& (15 : Int64)))), .second, .val (.long ((1 : Int64) + (q1 &&& (15 : Int64)))), .second, .unset, .unset, .unset, .unset, .unset, .unset, .unset, .unset, .unset, .unset, .unset] [(.long q2), (.long (1 : Int64))])) rfl (hb hby at_28) _ zz) ?_
    show Go _ _ _ _ s₁ (mkF m 31 #[.val (.long q0), .second, .val (.long q1), .second, .val (.long q2), .second, .val (.int p3), .val (.long ((1 : Int64) + (q0 &&& (15 : Int64)))), .second, .val (.long ((1 : Int64) + (q1 &&& (15 : Int64)))), .second, .unset, .unset, .unset, .unset, .unset, .unset, .unset, .unset, .unset, .unset, .unset] [(.long (15 : Int64)), (.long q2), (.long (1 : Int64))])
    refine Go.step (fun _ zz => XS.land X0.here hx rfl (hb hby at_31) rfl zz) ?_
    show Go _ _ _ _ s₁ (mkF m 32 #[.val (.long q0), .second, .val (.long q1), .second, .val (.long q2), .second, .val (.int p3), .val (.long ((1 : Int64) + (q0 &&& (15 : Int64)))), .second, .val (.long ((1 : Int64) + (q1 &&& (15 : Int64)))), .second, .unset, .unset, .unset, .unset, .unset, .unset, .unset, .unset, .unset, .unset, .unset] [(.long (q2 &&& (15 : Int64))), (.long (1 : Int64))])
    refine Go.step (fun _ zz => XS.ladd X0.here hx rfl (hb hby at_32) rfl zz) ?_
    show Go _ _ _ _ s₁ (mkF m 33 #[.val (.long q0), .second, .val (.long q1), .second, .val (.long q2), .second, .val (.int p3), .val (.long ((1 : Int64) + (q0 &&& (15 : Int64)))), .second, .val (.long ((1 : Int64) + (q1 &&& (15 : Int64)))), .second, .unset, .unset, .unset, .unset, .unset, .unset, .unset, .unset, .unset, .unset, .unset] [(.long ((1 : Int64) + (q2 &&& (15 : Int64))))])
    refine Go.step (fun _ zz => XS.lstore X0.here hx rfl (hb hby at_33) rfl (l' := #[.val (.long q0), .second, .val (.long q1), .second, .val (.long q2), .second, .val (.int p3), .val (.long ((1 : Int64) + (q0 &&& (15 : Int64)))), .second, .val (.long ((1 : Int64) + (q1 &&& (15 : Int64)))), .second, .val (.long ((1 : Int64) + (q2 &&& (15 : Int64)))), .second, .unset, .unset, .unset, .unset, .unset, .unset, .unset, .unset, .unset]) rfl zz) ?_
    show Go _ _ _ _ s₁ (mkF m 35 #[.val (.long q0), .second, .val (.long q1), .second, .val (.long q2), .second, .val (.int p3), .val (.long ((1 : Int64) + (q0 &&& (15 : Int64)))), .second, .val (.long ((1 : Int64) + (q1 &&& (15 : Int64)))), .second, .val (.long ((1 : Int64) + (q2 &&& (15 : Int64)))), .second, .unset, .unset, .unset, .unset, .unset, .unset, .unset, .unset, .unset] [])
    refine Go.step (fun _ zz => XS.goto X0.here hx rfl (pc0 := 35) (pc' := 81) rfl (hb hby at_35) (by decide) (by decide) zz) ?_
    show Go _ _ _ _ s₁ (mkF m 81 #[.val (.long q0), .second, .val (.long q1), .second, .val (.long q2), .second, .val (.int p3), .val (.long ((1 : Int64) + (q0 &&& (15 : Int64)))), .second, .val (.long ((1 : Int64) + (q1 &&& (15 : Int64)))), .second, .val (.long ((1 : Int64) + (q2 &&& (15 : Int64)))), .second, .unset, .unset, .unset, .unset, .unset, .unset, .unset, .unset, .unset] [])
    have qd_L7 : own_d0_81_L7 q0 q1 q2 p3 w = ((1 : Int64) + (q0 &&& (15 : Int64))) := by unfold own_d0_81_L7; rw [if_neg hc4]
    have qd_L9 : own_d0_81_L9 q0 q1 q2 p3 w = ((1 : Int64) + (q1 &&& (15 : Int64))) := by unfold own_d0_81_L9; rw [if_neg hc4]
    have qd_L11 : own_d0_81_L11 q0 q1 q2 p3 w = ((1 : Int64) + (q2 &&& (15 : Int64))) := by unfold own_d0_81_L11; rw [if_neg hc4]
    have jn := jn81 s₁ _ X0 N0 e0
    rw [qd_L7] at jn
    rw [qd_L9] at jn
    rw [qd_L11] at jn
    exact jn
set_option maxRecDepth 65536 in
set_option maxHeartbeats 40000000 in
theorem comes_1 {Post : Tables → Env → Array Value → State → Outcome → State → Prop} (hpost : ∀ tb e args s v u, (limb_1_1.after args s (.returned v) u = true ∧ limb_1_2.after args s (.returned v) u = true ∧ True) → FrameEnd s (.returned v) u (Jvm.fieldLocs frame_1_writes args s ++ Jvm.arrayLocs frame_1_arrays args s ++ Jvm.staticLocs frame_1_statics s) 16 128 → Post tb e args s (.returned v) u) :
    ArmFor flags0 classFile x code maxLocals ret World_1 tables_1 room_1 Calls_1 rest_1 Pre_1 Post := by
  intro l hfl _ _ p e ha hc hk s m args below hf hA hF happ hP
  obtain ⟨hcalls, hrest, hpre⟩ := hP
  obtain ⟨-, -, -, hnamed, -, -, -, hat⟩ := (Spec.applies_iff hf).mp happ
  obtain ⟨hg, hn⟩ := and_e (Cond.before_iff.mp (show (Jvm.Cond.and given_1 narrow_1).before args s = true from hpre))
  obtain ⟨hg_a, hg_b⟩ := and_e hg
  obtain ⟨hg_b_a, hg_b_b⟩ := and_e hg_b
  obtain ⟨hg_b_b_a, hg_b_b_b⟩ := and_e hg_b_b
  obtain ⟨hg_b_b_b_a, hg_b_b_b_b⟩ := and_e hg_b_b_b
  obtain ⟨u0, u1, u2, u3, rfl⟩ : ∃ u0 u1 u2 u3 : Value, args = #[u0, u1, u2, u3] := by
    have hs : args.size = 4 := by simpa [Cond.value, given_1] using hg_a
    obtain ⟨L⟩ := args
    match L, hs with
    | [u0, u1, u2, u3], _ => exact ⟨u0, u1, u2, u3, rfl⟩
  have hw := fun d (hd : d ∈ tables_1) => atoms_spec (ws := Jvm.Cond.code x code maxLocals ret :: tables_1) hat d (List.mem_cons_of_mem _ hd)
  have hfit : Fit s := fun {y c} hc i hi => by
    obtain ⟨ha, rfl⟩ := Array.getElem?_eq_some_iff.mp hc
    have q := List.all_eq_true.mp ((Array.all_eq_true_iff_forall_mem.mp hF) _ (Array.getElem_mem ha)) i (List.mem_range.mpr hi)
    simpa [Array.getElem?_eq_getElem hi] using q
  obtain ⟨i0, ei0⟩ := isL_v hg_b_a
  obtain rfl : u0 = (.long i0) := Option.some.inj ei0
  obtain ⟨i1, ei1⟩ := isL_v hg_b_b_a
  obtain rfl : u1 = (.long i1) := Option.some.inj ei1
  obtain ⟨i2, ei2⟩ := isL_v hg_b_b_b_a
  obtain rfl : u2 = (.long i2) := Option.some.inj ei2
  obtain ⟨i3, ei3⟩ := is_v hg_b_b_b_b
  obtain rfl : u3 = (.int i3) := Option.some.inj ei3
  obtain ⟨w0, ev0⟩ := exa_v hn
  have wd : Wd s (fun i => ([w0] : List Addr).getD i 0) := ⟨Sta.start ev0 (Or.inr ⟨(hw _ (List.mem_of_getElem? (i := 5) rfl)), (hw _ (List.mem_of_getElem? (i := 6) rfl))⟩), Exa.start ev0 hn⟩
  obtain ⟨n, o, h1, h2, h3, _, L, rfl, ⟨rfl, N⟩, hq⟩ := rm0 l s _ hw tables_1 i0 i1 i2 i3 (fun i => ([w0] : List Addr).getD i 0) s.heap s.heap.size (Nat.le_refl _) (Old.start s) wd p e ha hc hk s m _ below hf ((Spec.applies_iff_loose hf).mp happ).1 ⟨rfl, State.Warmed39.refl s, rfl⟩ trivial
  refine ⟨n, _, h1, h2, h3, hpost _ _ _ _ _ _ ⟨Cond.after_iff.mpr rfl, Cond.after_iff.mpr (eq_i res_at (Term.int_eval (1)) rfl), trivial⟩ ⟨hq.1, hq.2.1, (hq.2.2.sift fun y hy => Or.inr (N y hy)).mono (by decide) (by decide)⟩⟩
theorem main_1_1 : Claimed_1_1 := comes_1 fun _ _ _ _ _ _ h hF => ⟨h.1, hF⟩
theorem main_1_2 : Claimed_1_2 := comes_1 fun _ _ _ _ _ _ h hF => ⟨h.2.1, hF⟩
end Jvm.Pilot.@@N@@
namespace Jvm.Pilot.@@N@@
open Jvm Jvm.ClassFile Sem Op Lib Jvm.Free Jvm.Stand Jvm.Pilot.@@N@@.Jvm.D
/-! MADE BY PROGRAM (witnessworld.py) out of the Statement's table words and the real class files: 14 classes; the members and pool entries that the words name. The judged class is class 1, her method 1. -/
namespace start1
open Jvm.ClassFile
def u (s : String) : CpInfo := .utf8 (stringToUtf16 s)
/-- a pool by its gaps: so many unusable entries, then the entry; so many at the end -/
def gap : Nat → List CpInfo → List CpInfo
  | 0, r => r
  | n + 1, r => .unusable :: gap n r
def poolList (es : List (Nat × CpInfo)) (last : Nat) : List CpInfo := es.foldr (fun e r => gap e.1 (e.2 :: r)) (gap last [])
def pool (es : List (Nat × CpInfo)) (last : Nat) : Array CpInfo := ⟨poolList es last⟩
def fileOf (pool : Array CpInfo) (this : Nat) (attrs : Array Attribute := #[]) (ms : Array MethodInfo := #[]) (fl : Nat := 33) (sup : Nat := 0) (ifs : Array Nat := #[]) (fds : Array FieldInfo := #[]) : ClassFile where
  minorVersion := 0
  majorVersion := 65
  constantPool := pool
  accessFlags := fl
  thisClass := this
  superClass := sup
  interfaces := ifs
  fields := fds
  methods := ms
  attributes := attrs
def plain (name : String) (sup : Option ClassId) : Class where
  name := name
  kind := .ordinary
  loader := none
  accessFlags := 33
  super := sup
  interfaces := #[]
  cf := none
  fields := #[]
  methods := #[]
  instanceTypes := #[]
  staticTypes := #[]
  resolved := #[]
  callSites := []
  init := .initialized
  statics := none
  mirror := none

def pool0 : Array CpInfo := pool [(5, u "<init>"), (0, u "()V"), (1, .class_ 10), (1, u "java/lang/Object")] 113

def k0c0 : Code := { maxStack := 0, maxLocals := 1, code := object_method_1_code, exceptionTable := #[], attributes := #[] }
def k0m0 : Method := { name := "<init>", desc := "()V", sig := { parameters := [], returnType := none }, accessFlags := 1, code := some k0c0 }
/-- java/lang/Object -/
def k0 : Class := { plain "java/lang/Object" none with
  accessFlags := 33
  interfaces := #[]
  cf := some (fileOf pool0 8 #[] #[{ accessFlags := 1, nameIndex := 5, descriptorIndex := 6, attributes := #[] }] 33 0 #[] #[])
  fields := #[]
  methods := #[k0m0]
  instanceTypes := #[]
  staticTypes := #[]
  resolved := Array.replicate 124 none
  statics := none }

def pool1 : Array CpInfo := pool [(2, .class_ 4), (1, u "java/lang/Object"), (0, u "<init>"), (0, u "()V"), (0, .long 15), (3, .long 9223372036854775807), (1, .class_ 14), (0, u "com/example/weir/weir/Settings"), (0, .fieldref 16 17), (0, .class_ 18), (0, .nameAndType 19 20), (0, u "com/example/weir/weir/Algorithm"), (0, u "TOKEN_BUCKET"), (0, u "Lcom/example/weir/weir/Algorithm;"), (0, .methodref 13 22), (0, .nameAndType 5 23), (0, u "(Lcom/example/weir/weir/Algorithm;JJJ)V"), (0, .methodref 25 26), (0, .class_ 27), (0, .nameAndType 28 29), (0, u "com/example/weir/weir/TokenBucket"), (0, u "fillMillis"), (0, u "(Lcom/example/weir/weir/Settings;)J"), (0, .class_ 31), (0, u "com/example/weir/weir/TokenBucketFillMillisPinLaw"), (2, u "law"), (0, u "(JJJI)Z")] 3

def k1m0 : Method := { name := "<init>", desc := "()V", sig := { parameters := [], returnType := none }, accessFlags := 1, code := none }
def k1c1 : Code := { maxStack := 9, maxLocals := 22, code := code, exceptionTable := #[], attributes := #[] }
def k1m1 : Method := { name := "law", desc := "(JJJI)Z", sig := { parameters := [.long, .long, .long, .int], returnType := some .boolean }, accessFlags := 9, code := some k1c1 }
/-- com/example/weir/weir/TokenBucketFillMillisPinLaw -/
def k1 : Class := { plain "com/example/weir/weir/TokenBucketFillMillisPinLaw" (some 0) with
  accessFlags := 49
  interfaces := #[]
  cf := some (fileOf pool1 30 #[] #[{ accessFlags := 1, nameIndex := 5, descriptorIndex := 6, attributes := #[] }, { accessFlags := 9, nameIndex := 34, descriptorIndex := 35, attributes := #[] }] 49 2 #[] #[])
  fields := #[]
  methods := #[k1m0, k1m1]
  instanceTypes := #[]
  staticTypes := #[]
  resolved := Array.replicate 39 none
  statics := none }

def pool2 : Array CpInfo := pool [(1, .methodref 2 3), (0, .class_ 4), (0, .nameAndType 5 6), (0, u "java/lang/Object"), (0, u "<init>"), (0, u "()V"), (0, .fieldref 8 9), (0, .class_ 10), (0, .nameAndType 11 12), (0, u "com/example/weir/weir/Settings"), (0, u "algorithm"), (0, u "Lcom/example/weir/weir/Algorithm;"), (0, .fieldref 8 14), (0, .nameAndType 15 16), (0, u "capacity"), (0, u "J"), (0, .fieldref 8 18), (0, .nameAndType 19 16), (0, u "rate"), (0, .fieldref 8 21), (0, .nameAndType 22 16), (0, u "intervalMillis"), (27, u "(Lcom/example/weir/weir/Algorithm;JJJ)V"), (55, u "()J")] 82

def k2c0 : Code := { maxStack := 3, maxLocals := 8, code := prog_16_method_1_code, exceptionTable := #[], attributes := #[] }
def k2m0 : Method := { name := "<init>", desc := "(Lcom/example/weir/weir/Algorithm;JJJ)V", sig := { parameters := [(.object "com/example/weir/weir/Algorithm"), .long, .long, .long], returnType := none }, accessFlags := 0, code := some k2c0 }
def k2c1 : Code := { maxStack := 2, maxLocals := 1, code := prog_16_method_8_code, exceptionTable := #[], attributes := #[] }
def k2m1 : Method := { name := "capacity", desc := "()J", sig := { parameters := [], returnType := some .long }, accessFlags := 1, code := some k2c1 }
def k2c2 : Code := { maxStack := 2, maxLocals := 1, code := prog_16_method_9_code, exceptionTable := #[], attributes := #[] }
def k2m2 : Method := { name := "rate", desc := "()J", sig := { parameters := [], returnType := some .long }, accessFlags := 1, code := some k2c2 }
def k2c3 : Code := { maxStack := 2, maxLocals := 1, code := prog_16_method_11_code, exceptionTable := #[], attributes := #[] }
def k2m3 : Method := { name := "intervalMillis", desc := "()J", sig := { parameters := [], returnType := some .long }, accessFlags := 0, code := some k2c3 }
/-- com/example/weir/weir/Settings -/
def k2 : Class := { plain "com/example/weir/weir/Settings" (some 0) with
  accessFlags := 33
  interfaces := #[]
  cf := some (fileOf pool2 8 #[] #[{ accessFlags := 0, nameIndex := 5, descriptorIndex := 50, attributes := #[] }, { accessFlags := 1, nameIndex := 15, descriptorIndex := 106, attributes := #[] }, { accessFlags := 1, nameIndex := 19, descriptorIndex := 106, attributes := #[] }, { accessFlags := 0, nameIndex := 22, descriptorIndex := 106, attributes := #[] }] 33 2 #[] #[{ accessFlags := 18, nameIndex := 11, descriptorIndex := 12, attributes := #[] }, { accessFlags := 18, nameIndex := 15, descriptorIndex := 16, attributes := #[] }, { accessFlags := 18, nameIndex := 19, descriptorIndex := 16, attributes := #[] }, { accessFlags := 18, nameIndex := 22, descriptorIndex := 16, attributes := #[] }])
  fields := #[{ name := "algorithm", type := (.object "com/example/weir/weir/Algorithm"), accessFlags := 18, slot := 0, constantValue := 0 }, { name := "capacity", type := .long, accessFlags := 18, slot := 1, constantValue := 0 }, { name := "rate", type := .long, accessFlags := 18, slot := 2, constantValue := 0 }, { name := "intervalMillis", type := .long, accessFlags := 18, slot := 3, constantValue := 0 }]
  methods := #[k2m0, k2m1, k2m2, k2m3]
  instanceTypes := #[(.object "com/example/weir/weir/Algorithm"), .long, .long, .long]
  staticTypes := #[]
  resolved := Array.replicate 189 none
  statics := none }

def pool3 : Array CpInfo := pool [(1, .class_ 2), (0, u "java/lang/constant/Constable"), (0, .class_ 4), (0, u "java/lang/Object")] 6

/-- java/lang/constant/Constable -/
def k3 : Class := { plain "java/lang/constant/Constable" (some 0) with
  accessFlags := 1537
  interfaces := #[]
  cf := some (fileOf pool3 1 #[] #[] 1537 3 #[] #[])
  fields := #[]
  methods := #[]
  instanceTypes := #[]
  staticTypes := #[]
  resolved := Array.replicate 11 none
  statics := none }

def pool4 : Array CpInfo := pool [(1, .class_ 2), (0, u "java/lang/Comparable"), (0, .class_ 4), (0, u "java/lang/Object")] 7

/-- java/lang/Comparable -/
def k4 : Class := { plain "java/lang/Comparable" (some 0) with
  accessFlags := 1537
  interfaces := #[]
  cf := some (fileOf pool4 1 #[] #[] 1537 3 #[] #[])
  fields := #[]
  methods := #[]
  instanceTypes := #[]
  staticTypes := #[]
  resolved := Array.replicate 12 none
  statics := none }

def pool5 : Array CpInfo := pool [(1, .class_ 2), (0, u "java/io/Serializable"), (0, .class_ 4), (0, u "java/lang/Object")] 2

/-- java/io/Serializable -/
def k5 : Class := { plain "java/io/Serializable" (some 0) with
  accessFlags := 1537
  interfaces := #[]
  cf := some (fileOf pool5 1 #[] #[] 1537 3 #[] #[])
  fields := #[]
  methods := #[]
  instanceTypes := #[]
  staticTypes := #[]
  resolved := Array.replicate 7 none
  statics := none }

def pool6 : Array CpInfo := pool [(2, .class_ 4), (1, u "java/lang/Enum"), (0, u "name"), (0, u "Ljava/lang/String;"), (2, u "ordinal"), (0, u "I"), (1, .class_ 14), (1, u "java/lang/Object"), (4, u "hash"), (86, .class_ 108), (1, u "java/lang/Enum$EnumDesc"), (2, .class_ 112), (0, u "java/lang/constant/Constable"), (0, .class_ 114), (0, u "java/lang/Comparable"), (0, .class_ 116), (0, u "java/io/Serializable")] 87

/-- java/lang/Enum -/
def k6 : Class := { plain "java/lang/Enum" (some 0) with
  accessFlags := 1057
  interfaces := #[3, 4, 5]
  cf := some (fileOf pool6 2 #[.nestMembers #[106]] #[] 1057 12 #[111, 113, 115] #[{ accessFlags := 18, nameIndex := 5, descriptorIndex := 6, attributes := #[] }, { accessFlags := 18, nameIndex := 9, descriptorIndex := 10, attributes := #[] }, { accessFlags := 2, nameIndex := 19, descriptorIndex := 10, attributes := #[] }])
  fields := #[{ name := "name", type := (.object "java/lang/String"), accessFlags := 18, slot := 0, constantValue := 0 }, { name := "ordinal", type := .int, accessFlags := 18, slot := 1, constantValue := 0 }, { name := "hash", type := .int, accessFlags := 2, slot := 2, constantValue := 0 }]
  methods := #[]
  instanceTypes := #[(.object "java/lang/String"), .int, .int]
  staticTypes := #[]
  resolved := Array.replicate 204 none
  statics := none }

def pool7 : Array CpInfo := pool [(1, .class_ 2), (0, u "com/example/weir/weir/Algorithm"), (2, u "SLIDING_WINDOW"), (0, u "Lcom/example/weir/weir/Algorithm;"), (2, u "FIXED_WINDOW"), (2, u "TOKEN_BUCKET"), (2, u "$VALUES"), (0, u "[Lcom/example/weir/weir/Algorithm;"), (6, .class_ 25), (1, u "java/lang/Enum"), (8, u "storedName"), (0, u "Ljava/lang/String;"), (2, u "title"), (2, u "fields"), (0, u "Ljava/util/List;"), (2, u "script"), (2, u "stateKeys"), (20, .class_ 70), (0, u "com/example/weir/weir/Algorithm$1"), (23, .class_ 95), (0, u "com/example/weir/weir/Algorithm$2"), (13, .class_ 110), (0, u "com/example/weir/weir/Algorithm$3")] 70

/-- com/example/weir/weir/Algorithm -/
def k7 : Class := { plain "com/example/weir/weir/Algorithm" (some 6) with
  accessFlags := 17440
  interfaces := #[]
  cf := some (fileOf pool7 1 #[.nestMembers #[109, 94, 69]] #[] 17440 23 #[] #[{ accessFlags := 16409, nameIndex := 5, descriptorIndex := 6, attributes := #[] }, { accessFlags := 16409, nameIndex := 9, descriptorIndex := 6, attributes := #[] }, { accessFlags := 16409, nameIndex := 12, descriptorIndex := 6, attributes := #[] }, { accessFlags := 18, nameIndex := 34, descriptorIndex := 35, attributes := #[] }, { accessFlags := 18, nameIndex := 38, descriptorIndex := 35, attributes := #[] }, { accessFlags := 18, nameIndex := 41, descriptorIndex := 42, attributes := #[] }, { accessFlags := 18, nameIndex := 45, descriptorIndex := 35, attributes := #[] }, { accessFlags := 18, nameIndex := 48, descriptorIndex := 42, attributes := #[] }, { accessFlags := 4122, nameIndex := 15, descriptorIndex := 16, attributes := #[] }])
  fields := #[{ name := "SLIDING_WINDOW", type := (.object "com/example/weir/weir/Algorithm"), accessFlags := 16409, slot := 0, constantValue := 0 }, { name := "FIXED_WINDOW", type := (.object "com/example/weir/weir/Algorithm"), accessFlags := 16409, slot := 1, constantValue := 0 }, { name := "TOKEN_BUCKET", type := (.object "com/example/weir/weir/Algorithm"), accessFlags := 16409, slot := 2, constantValue := 0 }, { name := "storedName", type := (.object "java/lang/String"), accessFlags := 18, slot := 3, constantValue := 0 }, { name := "title", type := (.object "java/lang/String"), accessFlags := 18, slot := 4, constantValue := 0 }, { name := "fields", type := (.object "java/util/List"), accessFlags := 18, slot := 5, constantValue := 0 }, { name := "script", type := (.object "java/lang/String"), accessFlags := 18, slot := 6, constantValue := 0 }, { name := "stateKeys", type := (.object "java/util/List"), accessFlags := 18, slot := 7, constantValue := 0 }, { name := "$VALUES", type := (.array (.object "com/example/weir/weir/Algorithm")), accessFlags := 4122, slot := 3, constantValue := 0 }]
  methods := #[]
  instanceTypes := #[(.object "java/lang/String"), .int, .int, (.object "java/lang/String"), (.object "java/lang/String"), (.object "java/util/List"), (.object "java/lang/String"), (.object "java/util/List")]
  staticTypes := #[(.object "com/example/weir/weir/Algorithm"), (.object "com/example/weir/weir/Algorithm"), (.object "com/example/weir/weir/Algorithm"), (.array (.object "com/example/weir/weir/Algorithm"))]
  resolved := Array.replicate 181 none
  statics := some 0 }

def pool8 : Array CpInfo := pool [(7, .class_ 8), (0, u "com/example/weir/weir/Quota"), (0, .class_ 10), (0, u "java/lang/Object")] 7

/-- com/example/weir/weir/Quota -/
def k8 : Class := { plain "com/example/weir/weir/Quota" (some 0) with
  accessFlags := 1536
  interfaces := #[]
  cf := some (fileOf pool8 7 #[] #[] 1536 9 #[] #[])
  fields := #[]
  methods := #[]
  instanceTypes := #[]
  staticTypes := #[]
  resolved := Array.replicate 18 none
  statics := none }

def pool9 : Array CpInfo := pool [(2, .class_ 4), (1, u "java/lang/Object"), (0, u "<init>"), (0, u "()V"), (1, .class_ 10), (1, u "com/example/weir/weir/TokenBucket"), (0, u "untouched"), (0, u "Z"), (0, .methodref 14 15), (0, .class_ 16), (0, .nameAndType 17 18), (0, u "com/example/weir/weir/Settings"), (0, u "capacity"), (0, u "()J"), (0, .methodref 14 20), (0, .nameAndType 21 18), (0, u "intervalMillis"), (0, .methodref 14 23), (0, .nameAndType 24 18), (0, u "rate"), (0, .methodref 8 26), (0, .nameAndType 27 28), (0, u "ceilDiv"), (0, u "(JJ)J"), (6, u "at"), (0, u "J"), (7, u "parts"), (2, u "partsPerToken"), (10, .class_ 59), (0, u "com/example/weir/weir/Quota"), (2, u "fillMillis"), (0, u "(Lcom/example/weir/weir/Settings;)J")] 5

def k9m0 : Method := { name := "<init>", desc := "()V", sig := { parameters := [], returnType := none }, accessFlags := 0, code := none }
def k9c1 : Code := { maxStack := 4, maxLocals := 1, code := prog_20_method_2_code, exceptionTable := #[], attributes := #[] }
def k9m1 : Method := { name := "fillMillis", desc := "(Lcom/example/weir/weir/Settings;)J", sig := { parameters := [(.object "com/example/weir/weir/Settings")], returnType := some .long }, accessFlags := 8, code := some k9c1 }
def k9c2 : Code := { maxStack := 6, maxLocals := 4, code := prog_20_method_5_code, exceptionTable := #[], attributes := #[] }
def k9m2 : Method := { name := "ceilDiv", desc := "(JJ)J", sig := { parameters := [.long, .long], returnType := some .long }, accessFlags := 10, code := some k9c2 }
/-- com/example/weir/weir/TokenBucket -/
def k9 : Class := { plain "com/example/weir/weir/TokenBucket" (some 0) with
  accessFlags := 32
  interfaces := #[8]
  cf := some (fileOf pool9 8 #[] #[{ accessFlags := 0, nameIndex := 5, descriptorIndex := 6, attributes := #[] }, { accessFlags := 8, nameIndex := 62, descriptorIndex := 63, attributes := #[] }, { accessFlags := 10, nameIndex := 27, descriptorIndex := 28, attributes := #[] }] 32 2 #[58] #[{ accessFlags := 2, nameIndex := 44, descriptorIndex := 36, attributes := #[] }, { accessFlags := 2, nameIndex := 47, descriptorIndex := 36, attributes := #[] }, { accessFlags := 2, nameIndex := 35, descriptorIndex := 36, attributes := #[] }, { accessFlags := 2, nameIndex := 11, descriptorIndex := 12, attributes := #[] }])
  fields := #[{ name := "parts", type := .long, accessFlags := 2, slot := 0, constantValue := 0 }, { name := "partsPerToken", type := .long, accessFlags := 2, slot := 1, constantValue := 0 }, { name := "at", type := .long, accessFlags := 2, slot := 2, constantValue := 0 }, { name := "untouched", type := .boolean, accessFlags := 2, slot := 3, constantValue := 0 }]
  methods := #[k9m0, k9m1, k9m2]
  instanceTypes := #[.long, .long, .long, .boolean]
  staticTypes := #[]
  resolved := Array.replicate 69 none
  statics := none }

def pool10 : Array CpInfo := pool [(2, .class_ 4), (1, u "com/example/weir/weir/Algorithm"), (36, .class_ 42), (0, u "com/example/weir/weir/Algorithm$3")] 36

/-- com/example/weir/weir/Algorithm$3 -/
def k10 : Class := { plain "com/example/weir/weir/Algorithm$3" (some 7) with
  accessFlags := 16432
  interfaces := #[]
  cf := some (fileOf pool10 41 #[.nestHost 2] #[] 16432 2 #[] #[])
  fields := #[]
  methods := #[]
  instanceTypes := #[(.object "java/lang/String"), .int, .int, (.object "java/lang/String"), (.object "java/lang/String"), (.object "java/util/List"), (.object "java/lang/String"), (.object "java/util/List")]
  staticTypes := #[]
  resolved := Array.replicate 79 none
  statics := none }

def pool11 : Array CpInfo := pool [(1, u "java/lang/Cloneable"), (0, .class_ 1), (0, u "java/lang/Object"), (0, .class_ 3)] 3

/-- java/lang/Cloneable -/
def k11 : Class := { plain "java/lang/Cloneable" (some 0) with
  accessFlags := 1537
  interfaces := #[]
  cf := some (fileOf pool11 2 #[] #[] 1537 4 #[] #[])
  fields := #[]
  methods := #[]
  instanceTypes := #[]
  staticTypes := #[]
  resolved := Array.replicate 8 none
  statics := none }

/-- the primitive byte -/
def k12 : Class := { plain "byte" none with kind := .primitive 'B', accessFlags := 0x411 }
/-- [B -/
def k13 : Class := { plain "[B" (some 0) with kind := .array 12 .byte, interfaces := #[11, 5], accessFlags := 1041 }

def heap : Heap := #[{ cls := 7, slots := #[.null, .null, .ref 1, .null], vm := .statics 7 },
  { cls := 10, slots := #[.null, .int 0, .int 0, .null, .null, .null, .null, .null], vm := .none }]
def classes : Array Class := #[k0, k1, k2, k3, k4, k5, k6, k7, k8, k9, k10, k11, k12, k13]
def interned : List (Array UInt16 × Addr) := []
def slotsUsed : Nat := 12
def theMethod : MethodId := ⟨1, 1⟩
def args0 : Array Value := #[.long 5, .long 5, .long 5, .int 5]
def aboutOver (below : List Frame) : State where
  vm := { classes := classes, interned := interned.toArray }
  heap := heap
  slotsUsed := slotsUsed
  threads := #[{ frames := .invoking theMethod args0 :: below }]
def below0 : List Frame := [.native { method := ⟨0, 0⟩, args := #[] }]
def about1 : State := aboutOver below0
def p0 : Program := .bare "" "" ""
def e0 : Env := launch0.env 0 0 0
theorem w_frames : about1.frames = Frame.invoking theMethod args0 :: below0 := rfl
set_option maxRecDepth 65536 in
theorem w_args : argsFit about1.vm theMethod args0 = true := by decide +kernel
set_option maxRecDepth 65536 in
theorem w_heap : heapFits about1 = true := by decide +kernel
set_option maxRecDepth 65536 in
theorem w_runnable : about1.curStatus? = some .runnable := by decide +kernel
set_option maxRecDepth 65536 in
theorem w_alone : about1.alone = true := by decide +kernel
set_option maxRecDepth 65536 in
theorem w_named : about1.methodNamed? x = some theMethod := by decide +kernel
set_option maxRecDepth 65536 in
theorem w_hears : about1.hears theMethod below0 = true := by decide +kernel
set_option maxRecDepth 65536 in
theorem w_ripe : about1.ripe theMethod args0 below0 = true := by decide +kernel
theorem w_running : about1.status = .running := rfl
set_option maxRecDepth 65536 in
theorem w_room : about1.hasRoom e0.platform room_1 = true :=
  launch0.hasRoom_least _ room_1 (by decide +kernel) (by decide +kernel) (by decide +kernel) (by decide +kernel) (by decide +kernel) (by decide +kernel)
theorem allAtoms_all (ts : List Jvm.Cond) (a : Array Jvm.Value) (st : Jvm.State) : (allAtoms ts).before a st = ts.all (fun c => c.before a st) := by
  induction ts with
  | nil => rfl
  | cons c t ih =>
    show (Jvm.Cond.and c (allAtoms t)).before a st = _
    rw [Jvm.Cond.before_and, ih, List.all_cons]
def words1 : List Jvm.Cond := Jvm.Cond.code x code maxLocals ret :: tables_1
/-- a 'code' word, met by the world's own term for the bytes: nothing is compared byte by byte -/
theorem code_word {y : MethodName} {bytes : ByteArray} {mx : Nat} {rt : Option FieldType} {a : Array Value} {s : State} {m : MethodId} {meth : Method} {c : Code} (h1 : s.methodNamed? y = some m) (h2 : s.vm.method? m = some meth) (h3 : meth.code = some c) (h4 : c.code = bytes)
    (h5 : (c.maxLocals == mx && c.exceptionTable.isEmpty && decide (c.maxStack ≤ mostOperands) && decide (meth.sig.returnType = rt) && !meth.locks && decide (parseMethodDescriptor y.desc = some meth.sig)) = true) : (Jvm.Cond.code y bytes mx rt).before a s = true := by
  simp only [Bool.and_eq_true, beq_iff_eq, Bool.not_eq_true', decide_eq_true_eq] at h5
  obtain ⟨⟨⟨⟨⟨g1, g2⟩, g3⟩, g4⟩, g5⟩, g6⟩ := h5
  simp [Cond.before, Cond.holds, Cond.value, h1, h2, h3, h4, g1, g2, g3, g4, g5, g6]
def isCode : Jvm.Cond → Bool
  | .code _ _ _ _ => true
  | _ => false
theorem all_split {L : List Jvm.Cond} {P : Jvm.Cond → Bool} (h1 : L.all (fun c => isCode c || P c) = true) (h2 : ∀ c ∈ L.filter isCode, P c = true) : L.all P = true := by
  refine List.all_eq_true.mpr fun c hc => ?_
  have h := List.all_eq_true.mp h1 c hc
  rcases Bool.eq_false_or_eq_true (isCode c) with hi | hi
  · exact h2 c (List.mem_filter.mpr ⟨hc, hi⟩)
  · simpa [hi] using h
set_option maxRecDepth 65536 in
theorem w_c0 : (Jvm.Cond.code x code maxLocals ret).before args0 about1 = true := code_word (m := ⟨1, 1⟩) (meth := k1m1) (c := k1c1) (by decide +kernel) rfl rfl rfl (by decide +kernel)
set_option maxRecDepth 65536 in
theorem w_c1 : (Jvm.Cond.code ({ cls := "com/example/weir/weir/Settings", name := "<init>", desc := "(Lcom/example/weir/weir/Algorithm;JJJ)V" } : Jvm.MethodName) prog_16_method_1_code (8 : Nat) (Option.none : Option Jvm.ClassFile.FieldType)).before args0 about1 = true := code_word (m := ⟨2, 0⟩) (meth := k2m0) (c := k2c0) (by decide +kernel) rfl rfl rfl (by decide +kernel)
set_option maxRecDepth 65536 in
theorem w_c2 : (Jvm.Cond.code ({ cls := "java/lang/Object", name := "<init>", desc := "()V" } : Jvm.MethodName) object_method_1_code (1 : Nat) (Option.none : Option Jvm.ClassFile.FieldType)).before args0 about1 = true := code_word (m := ⟨0, 0⟩) (meth := k0m0) (c := k0c0) (by decide +kernel) rfl rfl rfl (by decide +kernel)
set_option maxRecDepth 65536 in
theorem w_c3 : (Jvm.Cond.code ({ cls := "com/example/weir/weir/TokenBucket", name := "fillMillis", desc := "(Lcom/example/weir/weir/Settings;)J" } : Jvm.MethodName) prog_20_method_2_code (1 : Nat) (Option.some Jvm.ClassFile.FieldType.long)).before args0 about1 = true := code_word (m := ⟨9, 1⟩) (meth := k9m1) (c := k9c1) (by decide +kernel) rfl rfl rfl (by decide +kernel)
set_option maxRecDepth 65536 in
theorem w_c4 : (Jvm.Cond.code ({ cls := "com/example/weir/weir/Settings", name := "capacity", desc := "()J" } : Jvm.MethodName) prog_16_method_8_code (1 : Nat) (Option.some Jvm.ClassFile.FieldType.long)).before args0 about1 = true := code_word (m := ⟨2, 1⟩) (meth := k2m1) (c := k2c1) (by decide +kernel) rfl rfl rfl (by decide +kernel)
set_option maxRecDepth 65536 in
theorem w_c5 : (Jvm.Cond.code ({ cls := "com/example/weir/weir/Settings", name := "intervalMillis", desc := "()J" } : Jvm.MethodName) prog_16_method_11_code (1 : Nat) (Option.some Jvm.ClassFile.FieldType.long)).before args0 about1 = true := code_word (m := ⟨2, 3⟩) (meth := k2m3) (c := k2c3) (by decide +kernel) rfl rfl rfl (by decide +kernel)
set_option maxRecDepth 65536 in
theorem w_c6 : (Jvm.Cond.code ({ cls := "com/example/weir/weir/Settings", name := "rate", desc := "()J" } : Jvm.MethodName) prog_16_method_9_code (1 : Nat) (Option.some Jvm.ClassFile.FieldType.long)).before args0 about1 = true := code_word (m := ⟨2, 2⟩) (meth := k2m2) (c := k2c2) (by decide +kernel) rfl rfl rfl (by decide +kernel)
set_option maxRecDepth 65536 in
theorem w_c7 : (Jvm.Cond.code ({ cls := "com/example/weir/weir/TokenBucket", name := "ceilDiv", desc := "(JJ)J" } : Jvm.MethodName) prog_20_method_5_code (4 : Nat) (Option.some Jvm.ClassFile.FieldType.long)).before args0 about1 = true := code_word (m := ⟨9, 2⟩) (meth := k9m2) (c := k9c2) (by decide +kernel) rfl rfl rfl (by decide +kernel)
def codes1 : List Jvm.Cond := [Jvm.Cond.code x code maxLocals ret, Jvm.Cond.code ({ cls := "com/example/weir/weir/Settings", name := "<init>", desc := "(Lcom/example/weir/weir/Algorithm;JJJ)V" } : Jvm.MethodName) prog_16_method_1_code (8 : Nat) (Option.none : Option Jvm.ClassFile.FieldType), Jvm.Cond.code ({ cls := "java/lang/Object", name := "<init>", desc := "()V" } : Jvm.MethodName) object_method_1_code (1 : Nat) (Option.none : Option Jvm.ClassFile.FieldType), Jvm.Cond.code ({ cls := "com/example/weir/weir/TokenBucket", name := "fillMillis", desc := "(Lcom/example/weir/weir/Settings;)J" } : Jvm.MethodName) prog_20_method_2_code (1 : Nat) (Option.some Jvm.ClassFile.FieldType.long), Jvm.Cond.code ({ cls := "com/example/weir/weir/Settings", name := "capacity", desc := "()J" } : Jvm.MethodName) prog_16_method_8_code (1 : Nat) (Option.some Jvm.ClassFile.FieldType.long), Jvm.Cond.code ({ cls := "com/example/weir/weir/Settings", name := "intervalMillis", desc := "()J" } : Jvm.MethodName) prog_16_method_11_code (1 : Nat) (Option.some Jvm.ClassFile.FieldType.long), Jvm.Cond.code ({ cls := "com/example/weir/weir/Settings", name := "rate", desc := "()J" } : Jvm.MethodName) prog_16_method_9_code (1 : Nat) (Option.some Jvm.ClassFile.FieldType.long), Jvm.Cond.code ({ cls := "com/example/weir/weir/TokenBucket", name := "ceilDiv", desc := "(JJ)J" } : Jvm.MethodName) prog_20_method_5_code (4 : Nat) (Option.some Jvm.ClassFile.FieldType.long)]
set_option maxRecDepth 65536 in
theorem codes_eq : words1.filter isCode = codes1 := rfl
theorem w_codes : ∀ c ∈ words1.filter isCode, c.before args0 about1 = true := by
  rw [codes_eq]
  intro c hc
  simp only [codes1, List.mem_cons, List.not_mem_nil, or_false] at hc
  rcases hc with rfl | rfl | rfl | rfl | rfl | rfl | rfl | rfl
  · exact w_c0
  · exact w_c1
  · exact w_c2
  · exact w_c3
  · exact w_c4
  · exact w_c5
  · exact w_c6
  · exact w_c7
set_option maxRecDepth 65536 in
theorem w_t1 : (words1.take 24).all (fun c => isCode c || c.before args0 about1) = true := by decide +kernel
set_option maxRecDepth 65536 in
theorem w_t2 : (words1.drop 24).all (fun c => isCode c || c.before args0 about1) = true := by decide +kernel
theorem w_tables : (allAtoms (Jvm.Cond.code x code maxLocals ret :: tables_1)).before args0 about1 = true := by
  rw [allAtoms_all]
  show words1.all (fun c => c.before args0 about1) = true
  refine all_split ?_ w_codes
  rw [← List.take_append_drop 24 words1, List.all_append, w_t1, w_t2]
  rfl
set_option maxRecDepth 65536 in
theorem w_case : (Jvm.Cond.and given_1 narrow_1).before args0 about1 = true := by decide +kernel
theorem w_applies : (headSpec (Jvm.Cond.code x code maxLocals ret :: tables_1) room_1).applies x e0.platform about1 = true :=
  (Spec.applies_iff w_frames).mpr ⟨w_running, w_runnable, w_alone, w_named, w_hears, w_ripe, w_room, w_tables⟩
theorem atStart : AtStart classFile x code maxLocals ret World_1 tables_1 room_1 Calls_1 rest_1 Pre_1 launch0 p0 e0 about1 theMethod args0 below0 :=
  ⟨lists_1, trivial, launch0.admits_env _ _ _, launch0.least_env, fairChoices_fair.cas, fairChoices_fair.clock, w_frames, w_args, w_heap, w_applies, trivial, trivial, w_case⟩
end start1
theorem witness_1 : WitnessClaimed_1 := ⟨start1.p0, start1.e0, start1.about1, start1.theMethod, start1.args0, start1.below0, start1.atStart⟩
end Jvm.Pilot.@@N@@
