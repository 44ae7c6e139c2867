import JvmDerived
import JvmDerived.Pilot.@@N@@Statement
import JvmDerived.Pilot.@@N@@Code
set_option linter.unusedVariables false
set_option linter.unusedSimpArgs false
namespace Jvm.Pilot.@@N@@
open Jvm Jvm.ClassFile Sem Op Lib Jvm.Free Jvm.Stand Jvm.LawKit Jvm.RoadKit Bundle Jvm.Pilot.@@N@@.Jvm.D
/-- the walk from here on: it comes to an end that meets R -/
def Go (tb : Tables) (e : Env) (below : List Frame) (R : Outcome → State → Prop) (T : State) (g : JFrame) : Prop :=
  ∃ s₂ o, Steps tb e below (T.setTop g) s₂ ∧ s₂.status = .running ∧ Ended s₂ below o ∧ R o s₂
def RT (Q : Option Value → Heap → List Loc → Prop) (s : State) (C S : Nat) : Outcome → State → Prop :=
  fun o U' => ∃ v L, o = .returned v ∧ Q v U'.heap L ∧ FrameEnd s o U' L C S
theorem Go.step {tb : Tables} {e : Env} {below : List Frame} {R : Outcome → State → Prop} {T T' : State} {g g' : JFrame} (h : ∀ t, Steps tb e below (T'.setTop g') t → Steps tb e below (T.setTop g) t) (k : Go tb e below R T' g') : Go tb e below R T g := by
  obtain ⟨s₂, o, h1, h2⟩ := k
  exact ⟨s₂, o, h _ h1, h2⟩
theorem Go.tr {tb : Tables} {e : Env} {below : List Frame} {R : Outcome → State → Prop} {T T' : State} {g g' : JFrame} (h : Steps tb e below (T.setTop g) (T'.setTop g')) (k : Go tb e below R T' g') : Go tb e below R T g :=
  Go.step (fun _ q => h.trans q) k
theorem Go.enter {tb : Tables} {e : Env} {below : List Frame} {Q : Option Value → Heap → List Loc → Prop} {s : State} {C S : Nat} {T : State} {g g' : JFrame} (q : g = g') (k : Go tb e below (RT Q s C S) T g') :
    ∃ s₂ o, Steps tb e below (T.setTop g) s₂ ∧ s₂.status = .running ∧ Ended s₂ below o ∧ ∃ v L, o = .returned v ∧ Q v s₂.heap L ∧ FrameEnd s o s₂ L C S := by
  subst q
  exact k
section Ret
variable {p : Program} {l : Launch} {e : Env} {R : Room} {s : State} {m : MethodId} {args : Array Value} {below : List Frame} {meth : Method} {c : Code} {T : State} {locs : List Loc} {cells slots : Nat} {Q : Option Value → Heap → List Loc → Prop} {C S : Nat} {pc : Nat} {Ls : Array Slot} {rest : List Value}
theorem Go.fin (X : Stand p l e R s m args below meth c T locs cells slots) {v : Option Value} {g : JFrame} (hv : meth.sig.returnType = none → v = none) (hlk : meth.locks = false)
    (hst : ∀ fs, (∀ (f : JFrame) (acts : List Action), f.method = m → f.locked = none → f.entered = [] → (doReturn e (T.setTop f) acts v).1 = T.setFrames fs) → Steps p.tables e below (T.setTop g) (T.setFrames fs))
    (hQ : Q v T.heap locs) (hc : cells ≤ C) (hs : slots ≤ S) : Go p.tables e below (RT Q s C S) T g := by
  obtain ⟨fs, hr, hrun, hended, hW, hsame⟩ := X.leave hv hlk
  exact ⟨_, _, hst fs hr, hrun, hended, _, _, rfl, hQ, ⟨_, rfl⟩, hW, hsame.mono hc hs⟩
theorem Go.retN (X : Stand p l e R s m args below meth c T locs cells slots) (hx : p.tables.exec = Jvm.exec) {z z' : Int32} {t : FieldType} (hret : meth.sig.returnType = some t) (ht : t = .boolean ∨ t = .byte ∨ t = .char ∨ t = .short) (hd : decode c.code pc = .ok (.ireturn, 1)) (hlk : meth.locks = false) (hz : nar t z = z')
    (hQ : Q (some (.int z')) T.heap locs) (hc : cells ≤ C) (hs : slots ≤ S) : Go p.tables e below (RT Q s C S) T (mkF m pc Ls (.int z :: rest)) := by
  subst hz
  exact Go.fin X (fun h => by rw [hret] at h; cases h) hlk (fun fs hr => Jvm.RoadKit.retN X hx hret ht hd hr) hQ hc hs
theorem Go.retI (X : Stand p l e R s m args below meth c T locs cells slots) (hx : p.tables.exec = Jvm.exec) {z : Int32} (hret : meth.sig.returnType = some .int) (hd : decode c.code pc = .ok (.ireturn, 1)) (hlk : meth.locks = false)
    (hQ : Q (some (.int z)) T.heap locs) (hc : cells ≤ C) (hs : slots ≤ S) : Go p.tables e below (RT Q s C S) T (mkF m pc Ls (.int z :: rest)) := by
  refine Go.fin X (fun h => by rw [hret] at h; cases h) hlk (fun fs hr => ?_) hQ hc hs
  have hm' : T.vm.method? m = some meth := X.method'
  have hn : narrow .int (.int z) = .int z := rfl
  show Steps p.tables e below (T.setTop { method := m, pc := pc, locals := Ls, stack := _ :: rest, locked := none }) _
  jvm_step X.here [X.here.top, hx, hd, hm', hret, hn]
  first | (intro acts; rw [hr _ acts rfl rfl rfl]) | rw [hr _ _ rfl rfl rfl]
  exact Steps.refl _
theorem Go.retJ (X : Stand p l e R s m args below meth c T locs cells slots) (hx : p.tables.exec = Jvm.exec) {z : Int64} (hret : meth.sig.returnType = some .long) (hd : decode c.code pc = .ok (.lreturn, 1)) (hlk : meth.locks = false)
    (hQ : Q (some (.long z)) T.heap locs) (hc : cells ≤ C) (hs : slots ≤ S) : Go p.tables e below (RT Q s C S) T (mkF m pc Ls (.long z :: rest)) := by
  refine Go.fin X (fun h => by rw [hret] at h; cases h) hlk (fun fs hr => ?_) hQ hc hs
  have hm' : T.vm.method? m = some meth := X.method'
  show Steps p.tables e below (T.setTop { method := m, pc := pc, locals := Ls, stack := _ :: rest, locked := none }) _
  jvm_step X.here [X.here.top, hx, hd, hm', hret, narrow]
  first | (intro acts; rw [hr _ acts rfl rfl rfl]) | rw [hr _ _ rfl rfl rfl]
  exact Steps.refl _
theorem Go.retA (X : Stand p l e R s m args below meth c T locs cells slots) (hx : p.tables.exec = Jvm.exec) {z : Value} {t : FieldType} (hret : meth.sig.returnType = some t) (ht : t.isReference = true) (hd : decode c.code pc = .ok (.areturn, 1)) (hz : z.isRef = true) (hlk : meth.locks = false)
    (hQ : Q (some z) T.heap locs) (hc : cells ≤ C) (hs : slots ≤ S) : Go p.tables e below (RT Q s C S) T (mkF m pc Ls (z :: rest)) := by
  refine Go.fin X (fun h => by rw [hret] at h; cases h) hlk (fun fs hr => ?_) hQ hc hs
  have hm' : T.vm.method? m = some meth := X.method'
  show Steps p.tables e below (T.setTop { method := m, pc := pc, locals := Ls, stack := _ :: rest, locked := none }) _
  jvm_step X.here [X.here.top, hx, hd, hm', hret, hz, ht]
  first | (intro acts; rw [hr _ acts rfl rfl rfl]) | rw [hr _ _ rfl rfl rfl]
  exact Steps.refl _
theorem Go.retV (X : Stand p l e R s m args below meth c T locs cells slots) (hx : p.tables.exec = Jvm.exec) (hret : meth.sig.returnType = none) (hd : decode c.code pc = .ok (.return_, 1)) (hlk : meth.locks = false)
    (hQ : Q none T.heap locs) (hc : cells ≤ C) (hs : slots ≤ S) : Go p.tables e below (RT Q s C S) T (mkF m pc Ls []) :=
  Go.fin X (fun _ => rfl) hlk (fun fs hr => X.returnOut hx hret hd hr) hQ hc hs
end Ret
theorem own_and_nonneg (a : Int32) : 0 ≤ (a &&& 2147483647).toInt := by
  have h : (a &&& 2147483647).toBitVec.msb = false := by
    rw [Int32.toBitVec_and, BitVec.msb_and]
    have : (2147483647 : Int32).toBitVec.msb = false := by decide
    rw [this, Bool.and_false]
  show 0 ≤ (a &&& 2147483647).toBitVec.toInt
  rw [BitVec.toInt_eq_msb_cond, h]
  simp
theorem own_mod (a n : Int32) (hn : 0 < n.toInt) : 0 ≤ ((a &&& 2147483647) % n).toInt ∧ ((a &&& 2147483647) % n).toInt < n.toInt := by
  rw [Int32.toInt_mod]
  have h := own_and_nonneg a
  exact ⟨Int.tmod_nonneg _ h, by have := Int.tmod_lt_of_pos (a &&& 2147483647).toInt hn; exact this⟩
theorem own_char (x : Int32) : 0 ≤ (x.toUInt32.toUInt16.toUInt32.toInt32).toInt ∧ (x.toUInt32.toUInt16.toUInt32.toInt32).toInt < 65536 := by
  generalize x.toUInt32.toUInt16 = u
  have h : u.toNat < 65536 := u.toNat_lt
  have : (u.toUInt32.toInt32).toInt = (u.toNat : Int) := by
    show (u.toUInt32.toBitVec).toInt = _
    rw [BitVec.toInt_eq_toNat_of_lt]
    · simp
    · simp; omega
  omega
theorem own_lrem (x y : Int64) : x - x / y * y = x % y := by
  apply Int64.toInt_inj.mp
  rw [Int64.toInt_sub, Int64.toInt_mul, Int64.toInt_div, Int64.toInt_mod, Int.tmod_def, Int.mul_comm y.toInt]
  have hb := Int.bmod_emod (x := x.toInt.tdiv y.toInt) (m := 2 ^ 64)
  rw [Int.sub_bmod_bmod]
  have e : (x.toInt - (x.toInt.tdiv y.toInt).bmod (2 ^ 64) * y.toInt).bmod (2 ^ 64) = (x.toInt - x.toInt.tdiv y.toInt * y.toInt).bmod (2 ^ 64) := by
    rw [← Int.sub_bmod_bmod, Int.bmod_mul_bmod, Int.sub_bmod_bmod]
  rw [e]
  have h := Int64.toInt_mod x y
  have h2 := (x % y).le_toInt
  have h3 := (x % y).toInt_lt
  rw [h, Int.tmod_def, Int.mul_comm y.toInt] at h2 h3
  apply Int.bmod_eq_of_le
  · simpa using h2
  · simpa using h3
theorem own_lremM {p : Program} {l : Launch} {e : Env} {R : Room} {s : State} {m : MethodId} {args : Array Value} {below : List Frame} {meth : Method} {c : Code} {T : State} {locs : List Loc} {cells slots : Nat} {g : JFrame} {target : State} (X : Stand p l e R s m args below meth c T locs cells slots) (hx : p.tables.exec = Jvm.exec) (hg : g.method = m) {x y : Int64} {rest : List Value} (hd : decode c.code g.pc = .ok (.lrem, 1)) (hs : g.stack = .long y :: .long x :: rest) (hy : y ≠ 0)
    (hr : Steps p.tables e below (T.setTop { g with pc := g.pc + 1, stack := .long (x % y) :: rest }) target) : Steps p.tables e below (T.setTop g) target := by
  have q := own_lrem x y
  exact XS.lrem X.here hx hg hd hs hy (by rw [q]; exact hr)
theorem own_selp {s : State} {args : Array Value} {C : String} {y z : MethodName} (hsel : (Cond.selects C z z).before args s = true) (hz : z.cls = y.cls) (hinst : (Cond.instanceMethod y).before args s = true) (hpriv : s.PrivateAt y) (hy : y.cls ≠ "java/lang/invoke/MethodHandle" ∧ y.cls ≠ "java/lang/invoke/VarHandle") : (Cond.selects y.cls y y).before args s = true := by
  obtain ⟨c, r, m, -, -, h3, -, k, h5, h6⟩ := Cond.selects_spec hsel
  exact selects_self_of_private (hz ▸ findClass_of_methodNamed h3) h5 h6 hpriv hinst hy
theorem own_eqi {t : Term} {k : Int32} {args : Array Value} {first : State} {o : Option Outcome} {s : State} {idx : List Nat} (h : (Cond.eq t (.int k)).value args first o s idx = some true) : t.eval args first o idx s = some (.int k) := by
  cases ht : t.eval args first o idx s with
  | none => simp [Cond.value, ht] at h
  | some x => cases x <;> simp [Cond.value, Term.eval, ht] at h ⊢; exact h
theorem own_eqr {t u : Term} {b : Addr} {args : Array Value} {first : State} {o : Option Outcome} {s : State} {idx : List Nat} (h : (Cond.eq t u).value args first o s idx = some true) (hu : u.eval args first o idx s = some (.ref b)) : t.eval args first o idx s = some (.ref b) := by
  cases ht : t.eval args first o idx s with
  | none => simp [Cond.value, ht] at h
  | some x => cases x <;> simp [Cond.value, ht, hu] at h ⊢; exact h
/-- what the case says of the statics -/
def Wd (Z : State) (w : Nat → Addr) : Prop := Sta Z Z.heap "com/example/verlock/verlock/LockMode" "READ" "Lcom/example/verlock/verlock/LockMode;" (.ref (w 0)) ∧ Exa Z Z.heap (w 0) "com/example/verlock/verlock/LockMode" ∧ Sta Z Z.heap "com/example/verlock/verlock/LockMode" "WRITE" "Lcom/example/verlock/verlock/LockMode;" (.ref (w 1)) ∧ Exa Z Z.heap (w 1) "com/example/verlock/verlock/LockMode" ∧ Fld Z Z.heap (w 1) "java/lang/Enum" "ordinal" "I" (.int (1 : Int32)) ∧ Fld Z Z.heap (w 0) "java/lang/Enum" "ordinal" "I" (.int (0 : Int32))
theorem wd0 {Z : State} {w : Nat → Addr} (wd : Wd Z w) : Sta Z Z.heap "com/example/verlock/verlock/LockMode" "READ" "Lcom/example/verlock/verlock/LockMode;" (.ref (w 0)) := wd.1
theorem wd1 {Z : State} {w : Nat → Addr} (wd : Wd Z w) : Exa Z Z.heap (w 0) "com/example/verlock/verlock/LockMode" := wd.2.1
theorem wd2 {Z : State} {w : Nat → Addr} (wd : Wd Z w) : Sta Z Z.heap "com/example/verlock/verlock/LockMode" "WRITE" "Lcom/example/verlock/verlock/LockMode;" (.ref (w 1)) := wd.2.2.1
theorem wd3 {Z : State} {w : Nat → Addr} (wd : Wd Z w) : Exa Z Z.heap (w 1) "com/example/verlock/verlock/LockMode" := wd.2.2.2.1
theorem wd4 {Z : State} {w : Nat → Addr} (wd : Wd Z w) : Fld Z Z.heap (w 1) "java/lang/Enum" "ordinal" "I" (.int (1 : Int32)) := wd.2.2.2.2.1
theorem wd5 {Z : State} {w : Nat → Addr} (wd : Wd Z w) : Fld Z Z.heap (w 0) "java/lang/Enum" "ordinal" "I" (.int (0 : Int32)) := wd.2.2.2.2.2
theorem d1_0 : decode method_2_code 0 = .ok (.iload_n 0, 1) := by decide +kernel
theorem d1_1 : decode method_2_code 1 = .ok (.iconst 1, 1) := by decide +kernel
theorem d1_2 : decode method_2_code 2 = .ok (.iand, 1) := by decide +kernel
theorem d1_3 : decode method_2_code 3 = .ok (.ifCond .ne 7, 3) := by decide +kernel
theorem d1_6 : decode method_2_code 6 = .ok (.getstatic 7, 3) := by decide +kernel
theorem d1_9 : decode method_2_code 9 = .ok (.areturn, 1) := by decide +kernel
theorem d1_10 : decode method_2_code 10 = .ok (.getstatic 13, 3) := by decide +kernel
theorem d1_13 : decode method_2_code 13 = .ok (.areturn, 1) := by decide +kernel
theorem own_pn0 : plainName "com/example/verlock/verlock/LockModeIsSharedWithPinLaw" = true := by first | (simp [plainName, overriddenIn]; done) | decide +kernel
theorem ef_rm1 (m : MethodId) (x0 : Int32) : entryFrame m #[(.int x0)] 1 = mkF m 0 #[.val (.int x0)] [] := by first | (simp [entryFrame, mkF, argsToLocals, Value.category]; done) | rfl
def own_f1 (p0 : Int32) (w : Nat → Addr) : Addr := (if (p0 &&& (1 : Int32)) = (0 : Int32) then (w 0) else (w 1))
def Q_rm1 (Z : State) (p0 : Int32) (w : Nat → Addr) (h0 : Heap) (n0 : Nat) (v : Option Value) (h : Heap) (L : List Loc) : Prop := v = some (Value.ref (own_f1 p0 w)) ∧ Fr n0 L ∧ h = h0
set_option maxRecDepth 65536 in
set_option maxHeartbeats 40000000 in
theorem rm1 (l : Launch) (Z : State) (a0 : Array Value) (hw : ∀ d ∈ tables_1, d.before a0 Z = true) (ws : List Jvm.Cond) (p0 : Int32) (w : Nat → Addr) (h0 : Heap) (n0 : Nat) (Z0 : n0 ≤ h0.size) (O0 : Old Z n0 h0) (wd : Wd Z w) :
    MetFree l (⟨"com/example/verlock/verlock/LockModeIsSharedWithPinLaw", "pick", "(I)Lcom/example/verlock/verlock/LockMode;"⟩ : MethodName) (head1 (Jvm.Cond.code (⟨"com/example/verlock/verlock/LockModeIsSharedWithPinLaw", "pick", "(I)Lcom/example/verlock/verlock/LockMode;"⟩ : MethodName) method_2_code 1 (some (.object "com/example/verlock/verlock/LockMode")) :: ws) ({ frames := 0, cells := 0, slots := 0, locals := 0 } : Room)) (fun az Uz => az = #[(.int p0)] ∧ Z.Warmed39 Uz.vm ∧ Uz.heap = h0) (fun _ _ _ _ _ => True) (fun _ Uz oz Vz => ∃ vz Lz, oz = .returned vz ∧ Q_rm1 Z p0 w h0 n0 vz Vz.heap Lz ∧ FrameEnd Uz oz Vz Lz ({ frames := 0, cells := 0, slots := 0, locals := 0 } : Room).cells ({ frames := 0, cells := 0, slots := 0, locals := 0 } : Room).slots) := by
  refine MetFree.of_bodySF (plainFor_of_name own_pn0) hisR ?_
  intro p e s m args below meth c s₁ Bd hml0 hP hK
  obtain ⟨rfl, hZ, hh⟩ := hP
  have hx := Bd.exec
  have hby := Bd.bytes
  have hml : c.maxLocals = 1 := hml0
  have hown : s.vm.findClass "com/example/verlock/verlock/LockModeIsSharedWithPinLaw" = some m.cls := findClass_of_methodNamed Bd.named
  have hnm := (name_of_methodNamed Bd.named Bd.method).1
  have X0 : Stand p l e ({ frames := 0, cells := 0, slots := 0, locals := 0 } : Room) s m #[(.int p0)] below meth c s₁ [] 0 0 := Stand.of_body Bd
  have e0 : s₁.heap = h0 := by rw [← hh, Bd.state]; rfl
  have N0 := Fr.nil n0
  have K0 : Keep h0 h0 [] := Keep.refl _ _
  refine Go.enter (Q := Q_rm1 Z p0 w h0 n0) (C := ({ frames := 0, cells := 0, slots := 0, locals := 0 } : Room).cells) (S := ({ frames := 0, cells := 0, slots := 0, locals := 0 } : Room).slots) (ef_rm1 m p0) ?_
  refine Go.step (fun _ zz => XS.iloadN X0.here hx rfl (hb hby d1_0) rfl zz) ?_
  show Go _ _ _ _ s₁ (mkF m 1 #[.val (.int p0)] [(.int p0)])
  refine Go.step (fun _ zz => XS.iconst X0.here hx rfl (hb hby d1_1) zz) ?_
  show Go _ _ _ _ s₁ (mkF m 2 #[.val (.int p0)] [(.int (1 : Int32)), (.int p0)])
  refine Go.step (fun _ zz => XS.iand X0.here hx rfl (hb hby d1_2) rfl zz) ?_
  show Go _ _ _ _ s₁ (mkF m 3 #[.val (.int p0)] [(.int (p0 &&& (1 : Int32)))])
  by_cases hc3 : (p0 &&& (1 : Int32)) = (0 : Int32)
  · refine Go.step (fun _ zz => XS.ifNo X0.here hx rfl (hb hby d1_3) rfl ((if0 _ _).trans (teq hc3).2) zz) ?_
    show Go _ _ _ _ s₁ (mkF m 6 #[.val (.int p0)] [])
    obtain ⟨T1, X1, e1, st1⟩ := getS2 X0 hx hZ hown (host := "") (Or.inl (hw _ (List.mem_of_getElem? (i := 4) rfl))) Via.refl e0 ((wd0 wd).ext O0.2) (g := (mkF m 6 #[.val (.int p0)] [])) rfl (hb hby d1_6)
    refine Go.step st1 ?_
    show Go _ _ _ _ T1 (mkF m 9 #[.val (.int p0)] [(.ref (w 0))])
    exact Go.retA X1 hx Bd.returns rfl (hb hby d1_9) rfl Bd.notSynchronized (⟨congrArg (fun q => some (Value.ref q)) (show own_f1 p0 w = (w 0) from by unfold own_f1; rw [if_pos hc3]).symm, N0, e1⟩) (by decide) (by decide)
  · refine Go.step (fun _ zz => XS.ifYes X0.here hx rfl (pc0 := 3) (pc' := 10) rfl (hb hby d1_3) rfl ((if0 _ _).trans (feq hc3).2) (by decide) (by decide) zz) ?_
    show Go _ _ _ _ s₁ (mkF m 10 #[.val (.int p0)] [])
    obtain ⟨T2, X2, e2, st2⟩ := getS2 X0 hx hZ hown (host := "") (Or.inl (hw _ (List.mem_of_getElem? (i := 7) rfl))) Via.refl e0 ((wd2 wd).ext O0.2) (g := (mkF m 10 #[.val (.int p0)] [])) rfl (hb hby d1_10)
    refine Go.step st2 ?_
    show Go _ _ _ _ T2 (mkF m 13 #[.val (.int p0)] [(.ref (w 1))])
    exact Go.retA X2 hx Bd.returns rfl (hb hby d1_13) rfl Bd.notSynchronized (⟨congrArg (fun q => some (Value.ref q)) (show own_f1 p0 w = (w 1) from by unfold own_f1; rw [if_neg hc3]).symm, N0, e2⟩) (by decide) (by decide)
theorem d2_0 : decode prog_10_method_4_code 0 = .ok (.aload_n 0, 1) := by decide +kernel
theorem d2_1 : decode prog_10_method_4_code 1 = .ok (.getstatic 3, 3) := by decide +kernel
theorem d2_4 : decode prog_10_method_4_code 4 = .ok (.if_acmp .ne 14, 3) := by decide +kernel
theorem d2_7 : decode prog_10_method_4_code 7 = .ok (.aload_n 1, 1) := by decide +kernel
theorem d2_8 : decode prog_10_method_4_code 8 = .ok (.getstatic 3, 3) := by decide +kernel
theorem d2_11 : decode prog_10_method_4_code 11 = .ok (.if_acmp .ne 7, 3) := by decide +kernel
theorem d2_14 : decode prog_10_method_4_code 14 = .ok (.iconst 1, 1) := by decide +kernel
theorem d2_15 : decode prog_10_method_4_code 15 = .ok (.goto 4, 3) := by decide +kernel
theorem d2_18 : decode prog_10_method_4_code 18 = .ok (.iconst 0, 1) := by decide +kernel
theorem d2_19 : decode prog_10_method_4_code 19 = .ok (.ireturn, 1) := by decide +kernel
theorem own_pn1 : plainName "com/example/verlock/verlock/LockMode" = true := by first | (simp [plainName, overriddenIn]; done) | decide +kernel
theorem ef_rm2 (m : MethodId) (x0 : Addr) (x1 : Addr) : entryFrame m #[(.ref x0), (.ref x1)] 2 = mkF m 0 #[.val (.ref x0), .val (.ref x1)] [] := by first | (simp [entryFrame, mkF, argsToLocals, Value.category]; done) | rfl
def own_f2 (r0 : Addr) (r1 : Addr) (w : Nat → Addr) : Int32 := (if r0 = (w 0) then (if r1 = (w 0) then (1 : Int32) else (0 : Int32)) else (0 : Int32))
def Q_rm2 (Z : State) (r0 : Addr) (r1 : Addr) (w : Nat → Addr) (h0 : Heap) (n0 : Nat) (v : Option Value) (h : Heap) (L : List Loc) : Prop := v = some (Value.int (own_f2 r0 r1 w)) ∧ Fr n0 L ∧ h = h0
set_option maxRecDepth 65536 in
set_option maxHeartbeats 40000000 in
theorem rm2 (l : Launch) (Z : State) (a0 : Array Value) (hw : ∀ d ∈ tables_1, d.before a0 Z = true) (ws : List Jvm.Cond) (r0 : Addr) (r1 : Addr) (w : Nat → Addr) (h0 : Heap) (n0 : Nat) (Z0 : n0 ≤ h0.size) (O0 : Old Z n0 h0) (wd : Wd Z w) :
    MetFree l (⟨"com/example/verlock/verlock/LockMode", "isSharedWith", "(Lcom/example/verlock/verlock/LockMode;)Z"⟩ : MethodName) (head1 (Jvm.Cond.code (⟨"com/example/verlock/verlock/LockMode", "isSharedWith", "(Lcom/example/verlock/verlock/LockMode;)Z"⟩ : MethodName) prog_10_method_4_code 2 (some .boolean) :: ws) ({ frames := 0, cells := 0, slots := 0, locals := 0 } : Room)) (fun az Uz => az = #[(.ref r0), (.ref r1)] ∧ Z.Warmed39 Uz.vm ∧ Uz.heap = h0) (fun _ _ _ _ _ => True) (fun _ Uz oz Vz => ∃ vz Lz, oz = .returned vz ∧ Q_rm2 Z r0 r1 w h0 n0 vz Vz.heap Lz ∧ FrameEnd Uz oz Vz Lz ({ frames := 0, cells := 0, slots := 0, locals := 0 } : Room).cells ({ frames := 0, cells := 0, slots := 0, locals := 0 } : Room).slots) := by
  refine MetFree.of_bodySF (plainFor_of_name own_pn1) hisR ?_
  intro p e s m args below meth c s₁ Bd hml0 hP hK
  obtain ⟨rfl, hZ, hh⟩ := hP
  have hx := Bd.exec
  have hby := Bd.bytes
  have hml : c.maxLocals = 2 := hml0
  have hown : s.vm.findClass "com/example/verlock/verlock/LockMode" = some m.cls := findClass_of_methodNamed Bd.named
  have hnm := (name_of_methodNamed Bd.named Bd.method).1
  have X0 : Stand p l e ({ frames := 0, cells := 0, slots := 0, locals := 0 } : Room) s m #[(.ref r0), (.ref r1)] below meth c s₁ [] 0 0 := Stand.of_body Bd
  have e0 : s₁.heap = h0 := by rw [← hh, Bd.state]; rfl
  have N0 := Fr.nil n0
  have K0 : Keep h0 h0 [] := Keep.refl _ _
  refine Go.enter (Q := Q_rm2 Z r0 r1 w h0 n0) (C := ({ frames := 0, cells := 0, slots := 0, locals := 0 } : Room).cells) (S := ({ frames := 0, cells := 0, slots := 0, locals := 0 } : Room).slots) (ef_rm2 m r0 r1) ?_
  refine Go.step (fun _ zz => XS.aloadN X0.here hx rfl (hb hby d2_0) rfl rfl zz) ?_
  show Go _ _ _ _ s₁ (mkF m 1 #[.val (.ref r0), .val (.ref r1)] [(.ref r0)])
  obtain ⟨T1, X1, e1, st1⟩ := getS2 X0 hx hZ hown (host := "") (Or.inl (hw _ (List.mem_of_getElem? (i := 14) rfl))) Via.refl e0 ((wd0 wd).ext O0.2) (g := (mkF m 1 #[.val (.ref r0), .val (.ref r1)] [(.ref r0)])) rfl (hb hby d2_1)
  refine Go.step st1 ?_
  show Go _ _ _ _ T1 (mkF m 4 #[.val (.ref r0), .val (.ref r1)] [(.ref (w 0)), (.ref r0)])
  by_cases ha4 : r0 = (w 0)
  · refine Go.step (fun _ zz => Jvm.RoadKit.acmp (g := (mkF m 4 #[.val (.ref r0), .val (.ref r1)] [(.ref (w 0)), (.ref r0)])) X1 hx rfl rfl rfl (pc0 := 4) (pc' := 7) (same := true) rfl (hb hby d2_4) rfl (decide_eq_true (congrArg Value.ref ha4)) (by decide) (by decide) zz) ?_
    show Go _ _ _ _ T1 (mkF m 7 #[.val (.ref r0), .val (.ref r1)] [])
    refine Go.step (fun _ zz => XS.aloadN X1.here hx rfl (hb hby d2_7) rfl rfl zz) ?_
    show Go _ _ _ _ T1 (mkF m 8 #[.val (.ref r0), .val (.ref r1)] [(.ref r1)])
    obtain ⟨T2, X2, e2, st2⟩ := getS2 X1 hx hZ hown (host := "") (Or.inl (hw _ (List.mem_of_getElem? (i := 14) rfl))) Via.refl e1 ((wd0 wd).ext O0.2) (g := (mkF m 8 #[.val (.ref r0), .val (.ref r1)] [(.ref r1)])) rfl (hb hby d2_8)
    refine Go.step st2 ?_
    show Go _ _ _ _ T2 (mkF m 11 #[.val (.ref r0), .val (.ref r1)] [(.ref (w 0)), (.ref r1)])
    by_cases ha11 : r1 = (w 0)
    · refine Go.step (fun _ zz => Jvm.RoadKit.acmp (g := (mkF m 11 #[.val (.ref r0), .val (.ref r1)] [(.ref (w 0)), (.ref r1)])) X2 hx rfl rfl rfl (pc0 := 11) (pc' := 14) (same := true) rfl (hb hby d2_11) rfl (decide_eq_true (congrArg Value.ref ha11)) (by decide) (by decide) zz) ?_
      show Go _ _ _ _ T2 (mkF m 14 #[.val (.ref r0), .val (.ref r1)] [])
      refine Go.step (fun _ zz => XS.iconst X2.here hx rfl (hb hby d2_14) zz) ?_
      show Go _ _ _ _ T2 (mkF m 15 #[.val (.ref r0), .val (.ref r1)] [(.int (1 : Int32))])
      refine Go.step (fun _ zz => XS.goto X2.here hx rfl (pc0 := 15) (pc' := 19) rfl (hb hby d2_15) (by decide) (by decide) zz) ?_
      show Go _ _ _ _ T2 (mkF m 19 #[.val (.ref r0), .val (.ref r1)] [(.int (1 : Int32))])
      exact Go.retN X2 hx (t := .boolean) Bd.returns (by simp) (hb hby d2_19) Bd.notSynchronized (z' := (1 : Int32)) (by decide) (⟨congrArg (fun q => some (Value.int q)) (show own_f2 r0 r1 w = (1 : Int32) from by unfold own_f2; rw [if_pos ha4, if_pos ha11]).symm, N0, e2⟩) (by decide) (by decide)
    · refine Go.step (fun _ zz => Jvm.RoadKit.acmp (g := (mkF m 11 #[.val (.ref r0), .val (.ref r1)] [(.ref (w 0)), (.ref r1)])) X2 hx rfl rfl rfl (pc0 := 11) (pc' := 18) (same := false) rfl (hb hby d2_11) rfl (decide_eq_false fun q => ha11 (Value.ref.inj q)) (by decide) (by decide) zz) ?_
      show Go _ _ _ _ T2 (mkF m 18 #[.val (.ref r0), .val (.ref r1)] [])
      refine Go.step (fun _ zz => XS.iconst X2.here hx rfl (hb hby d2_18) zz) ?_
      show Go _ _ _ _ T2 (mkF m 19 #[.val (.ref r0), .val (.ref r1)] [(.int (0 : Int32))])
      exact Go.retN X2 hx (t := .boolean) Bd.returns (by simp) (hb hby d2_19) Bd.notSynchronized (z' := (0 : Int32)) (by decide) (⟨congrArg (fun q => some (Value.int q)) (show own_f2 r0 r1 w = (0 : Int32) from by unfold own_f2; rw [if_pos ha4, if_neg ha11]).symm, N0, e2⟩) (by decide) (by decide)
  · refine Go.step (fun _ zz => Jvm.RoadKit.acmp (g := (mkF m 4 #[.val (.ref r0), .val (.ref r1)] [(.ref (w 0)), (.ref r0)])) X1 hx rfl rfl rfl (pc0 := 4) (pc' := 18) (same := false) rfl (hb hby d2_4) rfl (decide_eq_false fun q => ha4 (Value.ref.inj q)) (by decide) (by decide) zz) ?_
    show Go _ _ _ _ T1 (mkF m 18 #[.val (.ref r0), .val (.ref r1)] [])
    refine Go.step (fun _ zz => XS.iconst X1.here hx rfl (hb hby d2_18) zz) ?_
    show Go _ _ _ _ T1 (mkF m 19 #[.val (.ref r0), .val (.ref r1)] [(.int (0 : Int32))])
    exact Go.retN X1 hx (t := .boolean) Bd.returns (by simp) (hb hby d2_19) Bd.notSynchronized (z' := (0 : Int32)) (by decide) (⟨congrArg (fun q => some (Value.int q)) (show own_f2 r0 r1 w = (0 : Int32) from by unfold own_f2; rw [if_neg ha4]).symm, N0, e1⟩) (by decide) (by decide)
theorem d3_0 : decode method_3_code 0 = .ok (.iload_n 0, 1) := by decide +kernel
theorem d3_1 : decode method_3_code 1 = .ok (.ifCond .ne 11, 3) := by decide +kernel
theorem d3_4 : decode method_3_code 4 = .ok (.iload_n 1, 1) := by decide +kernel
theorem d3_5 : decode method_3_code 5 = .ok (.ifCond .ne 5, 3) := by decide +kernel
theorem d3_8 : decode method_3_code 8 = .ok (.iconst 1, 1) := by decide +kernel
theorem d3_9 : decode method_3_code 9 = .ok (.ireturn, 1) := by decide +kernel
theorem d3_10 : decode method_3_code 10 = .ok (.iconst 0, 1) := by decide +kernel
theorem d3_11 : decode method_3_code 11 = .ok (.ireturn, 1) := by decide +kernel
theorem d3_12 : decode method_3_code 12 = .ok (.iconst 0, 1) := by decide +kernel
theorem d3_13 : decode method_3_code 13 = .ok (.ireturn, 1) := by decide +kernel
theorem ef_rm3 (m : MethodId) (x0 : Int32) (x1 : Int32) : entryFrame m #[(.int x0), (.int x1)] 2 = mkF m 0 #[.val (.int x0), .val (.int x1)] [] := by first | (simp [entryFrame, mkF, argsToLocals, Value.category]; done) | rfl
def own_f3 (p0 : Int32) (p1 : Int32) : Int32 := (if p0 = (0 : Int32) then (if p1 = (0 : Int32) then (1 : Int32) else (0 : Int32)) else (0 : Int32))
def Q_rm3 (Z : State) (p0 : Int32) (p1 : Int32) (h0 : Heap) (n0 : Nat) (v : Option Value) (h : Heap) (L : List Loc) : Prop := v = some (Value.int (own_f3 p0 p1)) ∧ Fr n0 L ∧ h = h0
set_option maxRecDepth 65536 in
set_option maxHeartbeats 40000000 in
theorem rm3 (l : Launch) (Z : State) (a0 : Array Value) (hw : ∀ d ∈ tables_1, d.before a0 Z = true) (ws : List Jvm.Cond) (p0 : Int32) (p1 : Int32) (h0 : Heap) (n0 : Nat) (Z0 : n0 ≤ h0.size) :
    MetFree l (⟨"com/example/verlock/verlock/LockModeIsSharedWithPinLaw", "expected", "(II)Z"⟩ : MethodName) (head1 (Jvm.Cond.code (⟨"com/example/verlock/verlock/LockModeIsSharedWithPinLaw", "expected", "(II)Z"⟩ : MethodName) method_3_code 2 (some .boolean) :: ws) ({ frames := 0, cells := 0, slots := 0, locals := 0 } : Room)) (fun az Uz => az = #[(.int p0), (.int p1)] ∧ Z.Warmed39 Uz.vm ∧ Uz.heap = h0) (fun _ _ _ _ _ => True) (fun _ Uz oz Vz => ∃ vz Lz, oz = .returned vz ∧ Q_rm3 Z p0 p1 h0 n0 vz Vz.heap Lz ∧ FrameEnd Uz oz Vz Lz ({ frames := 0, cells := 0, slots := 0, locals := 0 } : Room).cells ({ frames := 0, cells := 0, slots := 0, locals := 0 } : Room).slots) := by
  refine MetFree.of_bodySF (plainFor_of_name own_pn0) hisR ?_
  intro p e s m args below meth c s₁ Bd hml0 hP hK
  obtain ⟨rfl, hZ, hh⟩ := hP
  have hx := Bd.exec
  have hby := Bd.bytes
  have hml : c.maxLocals = 2 := hml0
  have hown : s.vm.findClass "com/example/verlock/verlock/LockModeIsSharedWithPinLaw" = some m.cls := findClass_of_methodNamed Bd.named
  have hnm := (name_of_methodNamed Bd.named Bd.method).1
  have X0 : Stand p l e ({ frames := 0, cells := 0, slots := 0, locals := 0 } : Room) s m #[(.int p0), (.int p1)] below meth c s₁ [] 0 0 := Stand.of_body Bd
  have e0 : s₁.heap = h0 := by rw [← hh, Bd.state]; rfl
  have N0 := Fr.nil n0
  have K0 : Keep h0 h0 [] := Keep.refl _ _
  refine Go.enter (Q := Q_rm3 Z p0 p1 h0 n0) (C := ({ frames := 0, cells := 0, slots := 0, locals := 0 } : Room).cells) (S := ({ frames := 0, cells := 0, slots := 0, locals := 0 } : Room).slots) (ef_rm3 m p0 p1) ?_
  refine Go.step (fun _ zz => XS.iloadN X0.here hx rfl (hb hby d3_0) rfl zz) ?_
  show Go _ _ _ _ s₁ (mkF m 1 #[.val (.int p0), .val (.int p1)] [(.int p0)])
  by_cases hc1 : p0 = (0 : Int32)
  · refine Go.step (fun _ zz => XS.ifNo X0.here hx rfl (hb hby d3_1) rfl ((if0 _ _).trans (teq hc1).2) zz) ?_
    show Go _ _ _ _ s₁ (mkF m 4 #[.val (.int p0), .val (.int p1)] [])
    refine Go.step (fun _ zz => XS.iloadN X0.here hx rfl (hb hby d3_4) rfl zz) ?_
    show Go _ _ _ _ s₁ (mkF m 5 #[.val (.int p0), .val (.int p1)] [(.int p1)])
    by_cases hc5 : p1 = (0 : Int32)
    · refine Go.step (fun _ zz => XS.ifNo X0.here hx rfl (hb hby d3_5) rfl ((if0 _ _).trans (teq hc5).2) zz) ?_
      show Go _ _ _ _ s₁ (mkF m 8 #[.val (.int p0), .val (.int p1)] [])
      refine Go.step (fun _ zz => XS.iconst X0.here hx rfl (hb hby d3_8) zz) ?_
      show Go _ _ _ _ s₁ (mkF m 9 #[.val (.int p0), .val (.int p1)] [(.int (1 : Int32))])
      exact Go.retN X0 hx (t := .boolean) Bd.returns (by simp) (hb hby d3_9) Bd.notSynchronized (z' := (1 : Int32)) (by decide) (⟨congrArg (fun q => some (Value.int q)) (show own_f3 p0 p1 = (1 : Int32) from by unfold own_f3; rw [if_pos hc1, if_pos hc5]).symm, N0, e0⟩) (by decide) (by decide)
    · refine Go.step (fun _ zz => XS.ifYes X0.here hx rfl (pc0 := 5) (pc' := 10) rfl (hb hby d3_5) rfl ((if0 _ _).trans (feq hc5).2) (by decide) (by decide) zz) ?_
      show Go _ _ _ _ s₁ (mkF m 10 #[.val (.int p0), .val (.int p1)] [])
      refine Go.step (fun _ zz => XS.iconst X0.here hx rfl (hb hby d3_10) zz) ?_
      show Go _ _ _ _ s₁ (mkF m 11 #[.val (.int p0), .val (.int p1)] [(.int (0 : Int32))])
      exact Go.retN X0 hx (t := .boolean) Bd.returns (by simp) (hb hby d3_11) Bd.notSynchronized (z' := (0 : Int32)) (by decide) (⟨congrArg (fun q => some (Value.int q)) (show own_f3 p0 p1 = (0 : Int32) from by unfold own_f3; rw [if_pos hc1, if_neg hc5]).symm, N0, e0⟩) (by decide) (by decide)
  · refine Go.step (fun _ zz => XS.ifYes X0.here hx rfl (pc0 := 1) (pc' := 12) rfl (hb hby d3_1) rfl ((if0 _ _).trans (feq hc1).2) (by decide) (by decide) zz) ?_
    show Go _ _ _ _ s₁ (mkF m 12 #[.val (.int p0), .val (.int p1)] [])
    refine Go.step (fun _ zz => XS.iconst X0.here hx rfl (hb hby d3_12) zz) ?_
    show Go _ _ _ _ s₁ (mkF m 13 #[.val (.int p0), .val (.int p1)] [(.int (0 : Int32))])
    exact Go.retN X0 hx (t := .boolean) Bd.returns (by simp) (hb hby d3_13) Bd.notSynchronized (z' := (0 : Int32)) (by decide) (⟨congrArg (fun q => some (Value.int q)) (show own_f3 p0 p1 = (0 : Int32) from by unfold own_f3; rw [if_neg hc1]).symm, N0, e0⟩) (by decide) (by decide)
theorem own_exa {Z : State} {w : Nat → Addr} (wd : Wd Z w) (i : Int32) : Exa Z Z.heap (own_f1 i w) "com/example/verlock/verlock/LockMode" := by
  unfold own_f1
  split
  · exact (wd1 wd)
  · exact (wd3 wd)
theorem own_fin {Z : State} {w : Nat → Addr} (wd : Wd Z w) (a b : Int32) : own_f2 (own_f1 (a &&& 1) w) (own_f1 (b &&& 1) w) w = own_f3 (a &&& 1) (b &&& 1) := by
  have h : ¬ w 1 = w 0 := Fld.ne (wd4 wd) (wd5 wd) (by decide)
  have ha : a &&& 1 &&& 1 = a &&& 1 := by rw [Int32.and_assoc]; rfl
  have hb : b &&& 1 &&& 1 = b &&& 1 := by rw [Int32.and_assoc]; rfl
  unfold own_f2 own_f1 own_f3
  rw [ha, hb]
  by_cases h1 : a &&& 1 = 0 <;> by_cases h2 : b &&& 1 = 0 <;> simp [h1, h2, h]
theorem own_pd2 : parseMethodDescriptor "(I)Lcom/example/verlock/verlock/LockMode;" = some ⟨[.int], some (.object "com/example/verlock/verlock/LockMode")⟩ := by decide +kernel
theorem own_pd3 : parseMethodDescriptor "(Lcom/example/verlock/verlock/LockMode;)Z" = some ⟨[(.object "com/example/verlock/verlock/LockMode")], some .boolean⟩ := by decide +kernel
theorem own_pd4 : parseMethodDescriptor "(II)Z" = some ⟨[.int, .int], some .boolean⟩ := by decide +kernel
theorem ef_rm0 (m : MethodId) (x0 : Int32) (x1 : Int32) : entryFrame m #[(.int x0), (.int x1)] maxLocals = mkF m 0 #[.val (.int x0), .val (.int x1), .unset, .unset, .unset, .unset, .unset, .unset] [] := by first | (simp [entryFrame, mkF, argsToLocals, Value.category, maxLocals]; done) | rfl
def Q_rm0 (Z : State) (p0 : Int32) (p1 : Int32) (w : Nat → Addr) (h0 : Heap) (n0 : Nat) (v : Option Value) (h : Heap) (L : List Loc) : Prop := v = some (.int (1 : Int32)) ∧ Fr n0 L
set_option maxRecDepth 65536 in
set_option maxHeartbeats 40000000 in
theorem rm0 (l : Launch) (Z : State) (a0 : Array Value) (hw : ∀ d ∈ tables_1, d.before a0 Z = true) (ws : List Jvm.Cond) (p0 : Int32) (p1 : Int32) (w : Nat → Addr) (h0 : Heap) (n0 : Nat) (Z0 : n0 ≤ h0.size) (O0 : Old Z n0 h0) (wd : Wd Z w) :
    MetFree l x (head1 (Jvm.Cond.code x code maxLocals ret :: ws) room_1) (fun az Uz => az = #[(.int p0), (.int p1)] ∧ Z.Warmed39 Uz.vm ∧ Uz.heap = h0) (fun _ _ _ _ _ => True) (fun _ Uz oz Vz => ∃ vz Lz, oz = .returned vz ∧ Q_rm0 Z p0 p1 w h0 n0 vz Vz.heap Lz ∧ FrameEnd Uz oz Vz Lz room_1.cells room_1.slots) := by
  refine MetFree.of_bodySF (plainFor_of_name own_pn0) hisR ?_
  intro p e s m args below meth c s₁ Bd hml0 hP hK
  obtain ⟨rfl, hZ, hh⟩ := hP
  have hx := Bd.exec
  have hby := Bd.bytes
  have hml : c.maxLocals = 8 := hml0
  have hown : s.vm.findClass "com/example/verlock/verlock/LockModeIsSharedWithPinLaw" = some m.cls := findClass_of_methodNamed Bd.named
  have hnm := (name_of_methodNamed Bd.named Bd.method).1
  have X0 : Stand p l e room_1 s m #[(.int p0), (.int p1)] below meth c s₁ [] 0 0 := Stand.of_body Bd
  have e0 : s₁.heap = h0 := by rw [← hh, Bd.state]; rfl
  have N0 := Fr.nil n0
  have K0 : Keep h0 h0 [] := Keep.refl _ _
  refine Go.enter (Q := Q_rm0 Z p0 p1 w h0 n0) (C := room_1.cells) (S := room_1.slots) (ef_rm0 m p0 p1) ?_
  refine Go.step (fun _ zz => XS.iloadN X0.here hx rfl (hb hby at_0) rfl zz) ?_
  show Go _ _ _ _ s₁ (mkF m 1 #[.val (.int p0), .val (.int p1), .unset, .unset, .unset, .unset, .unset, .unset] [(.int p0)])
  refine Go.step (fun _ zz => XS.iconst X0.here hx rfl (hb hby at_1) zz) ?_
  show Go _ _ _ _ s₁ (mkF m 2 #[.val (.int p0), .val (.int p1), .unset, .unset, .unset, .unset, .unset, .unset] [(.int (1 : Int32)), (.int p0)])
  refine Go.step (fun _ zz => XS.iand X0.here hx rfl (hb hby at_2) rfl zz) ?_
  show Go _ _ _ _ s₁ (mkF m 3 #[.val (.int p0), .val (.int p1), .unset, .unset, .unset, .unset, .unset, .unset] [(.int (p0 &&& (1 : Int32)))])
  refine Go.step (fun _ zz => XS.istoreN X0.here hx rfl (hb hby at_3) rfl (l' := #[.val (.int p0), .val (.int p1), .val (.int (p0 &&& (1 : Int32))), .unset, .unset, .unset, .unset, .unset]) rfl zz) ?_
  show Go _ _ _ _ s₁ (mkF m 4 #[.val (.int p0), .val (.int p1), .val (.int (p0 &&& (1 : Int32))), .unset, .unset, .unset, .unset, .unset] [])
  refine Go.step (fun _ zz => XS.iloadN X0.here hx rfl (hb hby at_4) rfl zz) ?_
  show Go _ _ _ _ s₁ (mkF m 5 #[.val (.int p0), .val (.int p1), .val (.int (p0 &&& (1 : Int32))), .unset, .unset, .unset, .unset, .unset] [(.int p1)])
  refine Go.step (fun _ zz => XS.iconst X0.here hx rfl (hb hby at_5) zz) ?_
  show Go _ _ _ _ s₁ (mkF m 6 #[.val (.int p0), .val (.int p1), .val (.int (p0 &&& (1 : Int32))), .unset, .unset, .unset, .unset, .unset] [(.int (1 : Int32)), (.int p1)])
  refine Go.step (fun _ zz => XS.iand X0.here hx rfl (hb hby at_6) rfl zz) ?_
  show Go _ _ _ _ s₁ (mkF m 7 #[.val (.int p0), .val (.int p1), .val (.int (p0 &&& (1 : Int32))), .unset, .unset, .unset, .unset, .unset] [(.int (p1 &&& (1 : Int32)))])
  refine Go.step (fun _ zz => XS.istoreN X0.here hx rfl (hb hby at_7) rfl (l' := #[.val (.int p0), .val (.int p1), .val (.int (p0 &&& (1 : Int32))), .val (.int (p1 &&& (1 : Int32))), .unset, .unset, .unset, .unset]) rfl zz) ?_
  show Go _ _ _ _ s₁ (mkF m 8 #[.val (.int p0), .val (.int p1), .val (.int (p0 &&& (1 : Int32))), .val (.int (p1 &&& (1 : Int32))), .unset, .unset, .unset, .unset] [])
  refine Go.step (fun _ zz => XS.iloadN X0.here hx rfl (hb hby at_8) rfl zz) ?_
  show Go _ _ _ _ s₁ (mkF m 9 #[.val (.int p0), .val (.int p1), .val (.int (p0 &&& (1 : Int32))), .val (.int (p1 &&& (1 : Int32))), .unset, .unset, .unset, .unset] [(.int (p0 &&& (1 : Int32)))])
  obtain ⟨_, _, ⟨T1, L1, k1, n1⟩, -, X1, ⟨Lc1, hQ1, l1, y1, z1⟩, st1⟩ := Jvm.LawKit.callS X0 hx (y := (⟨"com/example/verlock/verlock/LockModeIsSharedWithPinLaw", "pick", "(I)Lcom/example/verlock/verlock/LockMode;"⟩ : MethodName)) hown (mvT hZ (hw _ (List.mem_of_getElem? (i := 0) rfl))) (mvT hZ (hw _ (List.mem_of_getElem? (i := 1) rfl))) (mvT hZ (hw _ (List.mem_of_getElem? (i := 2) rfl))) (mvT hZ (hw _ (List.mem_of_getElem? (i := 3) rfl))) (by decide) (backOf (W := 0) (rm1 l Z a0 hw [] (p0 &&& (1 : Int32)) w h0 n0 Z0 O0 wd) hZ (hw _ (List.mem_of_getElem? (i := 3) rfl)) (hw _ (List.mem_of_getElem? (i := 2) rfl)) (by decide) (by decide)) (g := (mkF m 9 #[.val (.int p0), .val (.int p1), .val (.int (p0 &&& (1 : Int32))), .val (.int (p1 &&& (1 : Int32))), .unset, .unset, .unset, .unset] [(.int (p0 &&& (1 : Int32)))])) rfl (by rw [hml]; rfl) (argsL := [(.int (p0 &&& (1 : Int32)))]) (rest := []) (lenOf own_pd2 rfl) rfl (by show 2 * 0 + _ ≤ _; exact Nat.le_of_eq rfl) (hb hby at_9) (fun _ _ => ⟨rfl, e0, (by decide : 0 + 0 ≤ _), (by decide : 0 + 0 ≤ _)⟩)
  dsimp only [Pt.U, Pt.locs, Pt.cells, Pt.slots] at X1 l1 y1 z1 st1 hQ1
  subst l1 y1 z1
  obtain ⟨rfl, N1q, e1⟩ := hQ1
  have N1 := Fr.app N0 N1q
  refine Go.step st1 ?_
  show Go _ _ _ _ T1 (mkF m 12 #[.val (.int p0), .val (.int p1), .val (.int (p0 &&& (1 : Int32))), .val (.int (p1 &&& (1 : Int32))), .unset, .unset, .unset, .unset] [(.ref (own_f1 (p0 &&& (1 : Int32)) w))])
  refine Go.step (fun _ zz => XS.astore X1.here hx rfl (hb hby at_12) rfl rfl (l' := #[.val (.int p0), .val (.int p1), .val (.int (p0 &&& (1 : Int32))), .val (.int (p1 &&& (1 : Int32))), .val (.ref (own_f1 (p0 &&& (1 : Int32)) w)), .unset, .unset, .unset]) rfl zz) ?_
  show Go _ _ _ _ T1 (mkF m 14 #[.val (.int p0), .val (.int p1), .val (.int (p0 &&& (1 : Int32))), .val (.int (p1 &&& (1 : Int32))), .val (.ref (own_f1 (p0 &&& (1 : Int32)) w)), .unset, .unset, .unset] [])
  refine Go.step (fun _ zz => XS.iloadN X1.here hx rfl (hb hby at_14) rfl zz) ?_
  show Go _ _ _ _ T1 (mkF m 15 #[.val (.int p0), .val (.int p1), .val (.int (p0 &&& (1 : Int32))), .val (.int (p1 &&& (1 : Int32))), .val (.ref (own_f1 (p0 &&& (1 : Int32)) w)), .unset, .unset, .unset] [(.int (p1 &&& (1 : Int32)))])
  obtain ⟨_, _, ⟨T2, L2, k2, n2⟩, -, X2, ⟨Lc2, hQ2, l2, y2, z2⟩, st2⟩ := Jvm.LawKit.callS X1 hx (y := (⟨"com/example/verlock/verlock/LockModeIsSharedWithPinLaw", "pick", "(I)Lcom/example/verlock/verlock/LockMode;"⟩ : MethodName)) hown (mvT hZ (hw _ (List.mem_of_getElem? (i := 0) rfl))) (mvT hZ (hw _ (List.mem_of_getElem? (i := 1) rfl))) (mvT hZ (hw _ (List.mem_of_getElem? (i := 2) rfl))) (mvT hZ (hw _ (List.mem_of_getElem? (i := 3) rfl))) (by decide) (backOf (W := 0) (rm1 l Z a0 hw [] (p1 &&& (1 : Int32)) w h0 n0 Z0 O0 wd) hZ (hw _ (List.mem_of_getElem? (i := 3) rfl)) (hw _ (List.mem_of_getElem? (i := 2) rfl)) (by decide) (by decide)) (g := (mkF m 15 #[.val (.int p0), .val (.int p1), .val (.int (p0 &&& (1 : Int32))), .val (.int (p1 &&& (1 : Int32))), .val (.ref (own_f1 (p0 &&& (1 : Int32)) w)), .unset, .unset, .unset] [(.int (p1 &&& (1 : Int32)))])) rfl (by rw [hml]; rfl) (argsL := [(.int (p1 &&& (1 : Int32)))]) (rest := []) (lenOf own_pd2 rfl) rfl (by show 2 * 0 + _ ≤ _; exact Nat.le_of_eq rfl) (hb hby at_15) (fun _ _ => ⟨rfl, e1, (by decide : 0 + 0 ≤ _), (by decide : 0 + 0 ≤ _)⟩)
  dsimp only [Pt.U, Pt.locs, Pt.cells, Pt.slots] at X2 l2 y2 z2 st2 hQ2
  subst l2 y2 z2
  obtain ⟨rfl, N2q, e2⟩ := hQ2
  have N2 := Fr.app N1 N2q
  refine Go.step st2 ?_
  show Go _ _ _ _ T2 (mkF m 18 #[.val (.int p0), .val (.int p1), .val (.int (p0 &&& (1 : Int32))), .val (.int (p1 &&& (1 : Int32))), .val (.ref (own_f1 (p0 &&& (1 : Int32)) w)), .unset, .unset, .unset] [(.ref (own_f1 (p1 &&& (1 : Int32)) w))])
  refine Go.step (fun _ zz => XS.astore X2.here hx rfl (hb hby at_18) rfl rfl (l' := #[.val (.int p0), .val (.int p1), .val (.int (p0 &&& (1 : Int32))), .val (.int (p1 &&& (1 : Int32))), .val (.ref (own_f1 (p0 &&& (1 : Int32)) w)), .val (.ref (own_f1 (p1 &&& (1 : Int32)) w)), .unset, .unset]) rfl zz) ?_
  show Go _ _ _ _ T2 (mkF m 20 #[.val (.int p0), .val (.int p1), .val (.int (p0 &&& (1 : Int32))), .val (.int (p1 &&& (1 : Int32))), .val (.ref (own_f1 (p0 &&& (1 : Int32)) w)), .val (.ref (own_f1 (p1 &&& (1 : Int32)) w)), .unset, .unset] [])
  refine Go.step (fun _ zz => XS.aload X2.here hx rfl (hb hby at_20) rfl rfl zz) ?_
  show Go _ _ _ _ T2 (mkF m 22 #[.val (.int p0), .val (.int p1), .val (.int (p0 &&& (1 : Int32))), .val (.int (p1 &&& (1 : Int32))), .val (.ref (own_f1 (p0 &&& (1 : Int32)) w)), .val (.ref (own_f1 (p1 &&& (1 : Int32)) w)), .unset, .unset] [(.ref (own_f1 (p0 &&& (1 : Int32)) w))])
  refine Go.step (fun _ zz => XS.aload X2.here hx rfl (hb hby at_22) rfl rfl zz) ?_
  show Go _ _ _ _ T2 (mkF m 24 #[.val (.int p0), .val (.int p1), .val (.int (p0 &&& (1 : Int32))), .val (.int (p1 &&& (1 : Int32))), .val (.ref (own_f1 (p0 &&& (1 : Int32)) w)), .val (.ref (own_f1 (p1 &&& (1 : Int32)) w)), .unset, .unset] [(.ref (own_f1 (p1 &&& (1 : Int32)) w)), (.ref (own_f1 (p0 &&& (1 : Int32)) w))])
  obtain ⟨cq3, kq3, q3a, q3b, q3c⟩ := isOf hZ e2 ((own_exa wd _).ext O0.2)
  obtain ⟨_, _, ⟨T3, L3, k3, n3⟩, -, X3, ⟨Lc3, hQ3, l3, y3, z3⟩, st3⟩ := X2.virtualBack hx (y := (⟨"com/example/verlock/verlock/LockMode", "isSharedWith", "(Lcom/example/verlock/verlock/LockMode;)Z"⟩ : MethodName)) (z := (⟨"com/example/verlock/verlock/LockMode", "isSharedWith", "(Lcom/example/verlock/verlock/LockMode;)Z"⟩ : MethodName)) hown (mvT hZ (hw _ (List.mem_of_getElem? (i := 9) rfl))) (mvT hZ (hw _ (List.mem_of_getElem? (i := 10) rfl))) (notFace_of_selects (args := #[]) (mvT hZ (hw _ (List.mem_of_getElem? (i := 12) rfl)))) (mvT hZ (hw _ (List.mem_of_getElem? (i := 12) rfl))) (mvT hZ (hw _ (List.mem_of_getElem? (i := 11) rfl))) (by decide) (backOf (W := 0) (rm2 l Z a0 hw [] (own_f1 (p0 &&& (1 : Int32)) w) (own_f1 (p1 &&& (1 : Int32)) w) w h0 n0 Z0 O0 wd) hZ (hw _ (List.mem_of_getElem? (i := 13) rfl)) (hw _ (List.mem_of_getElem? (i := 5) rfl)) (by decide) (by decide)) q3a q3c (g := (mkF m 24 #[.val (.int p0), .val (.int p1), .val (.int (p0 &&& (1 : Int32))), .val (.int (p1 &&& (1 : Int32))), .val (.ref (own_f1 (p0 &&& (1 : Int32)) w)), .val (.ref (own_f1 (p1 &&& (1 : Int32)) w)), .unset, .unset] [(.ref (own_f1 (p1 &&& (1 : Int32)) w)), (.ref (own_f1 (p0 &&& (1 : Int32)) w))])) rfl (by rw [hml]; rfl) (Steps.refl _) (argsL := [(.ref (own_f1 (p1 &&& (1 : Int32)) w))]) (rest := []) (lenOf own_pd3 rfl) rfl (by show 2 * 0 + _ ≤ _; exact Nat.le_of_eq rfl) (hb hby at_24) (fun _ _ => ⟨rfl, e2, (by decide : 0 + 0 ≤ _), (by decide : 0 + 0 ≤ _)⟩)
  dsimp only [Pt.U, Pt.locs, Pt.cells, Pt.slots] at X3 l3 y3 z3 st3 hQ3
  subst l3 y3 z3
  obtain ⟨rfl, N3q, e3⟩ := hQ3
  have N3 := Fr.app N2 N3q
  refine Go.tr st3 ?_
  show Go _ _ _ _ T3 (mkF m 27 #[.val (.int p0), .val (.int p1), .val (.int (p0 &&& (1 : Int32))), .val (.int (p1 &&& (1 : Int32))), .val (.ref (own_f1 (p0 &&& (1 : Int32)) w)), .val (.ref (own_f1 (p1 &&& (1 : Int32)) w)), .unset, .unset] [(.int (own_f2 (own_f1 (p0 &&& (1 : Int32)) w) (own_f1 (p1 &&& (1 : Int32)) w) w))])
  refine Go.step (fun _ zz => XS.istore X3.here hx rfl (hb hby at_27) rfl (l' := #[.val (.int p0), .val (.int p1), .val (.int (p0 &&& (1 : Int32))), .val (.int (p1 &&& (1 : Int32))), .val (.ref (own_f1 (p0 &&& (1 : Int32)) w)), .val (.ref (own_f1 (p1 &&& (1 : Int32)) w)), .val (.int (own_f2 (own_f1 (p0 &&& (1 : Int32)) w) (own_f1 (p1 &&& (1 : Int32)) w) w)), .unset]) rfl zz) ?_
  show Go _ _ _ _ T3 (mkF m 29 #[.val (.int p0), .val (.int p1), .val (.int (p0 &&& (1 : Int32))), .val (.int (p1 &&& (1 : Int32))), .val (.ref (own_f1 (p0 &&& (1 : Int32)) w)), .val (.ref (own_f1 (p1 &&& (1 : Int32)) w)), .val (.int (own_f2 (own_f1 (p0 &&& (1 : Int32)) w) (own_f1 (p1 &&& (1 : Int32)) w) w)), .unset] [])
  refine Go.step (fun _ zz => XS.aload X3.here hx rfl (hb hby at_29) rfl rfl zz) ?_
  show Go _ _ _ _ T3 (mkF m 31 #[.val (.int p0), .val (.int p1), .val (.int (p0 &&& (1 : Int32))), .val (.int (p1 &&& (1 : Int32))), .val (.ref (own_f1 (p0 &&& (1 : Int32)) w)), .val (.ref (own_f1 (p1 &&& (1 : Int32)) w)), .val (.int (own_f2 (own_f1 (p0 &&& (1 : Int32)) w) (own_f1 (p1 &&& (1 : Int32)) w) w)), .unset] [(.ref (own_f1 (p1 &&& (1 : Int32)) w))])
  refine Go.step (fun _ zz => XS.aload X3.here hx rfl (hb hby at_31) rfl rfl zz) ?_
  show Go _ _ _ _ T3 (mkF m 33 #[.val (.int p0), .val (.int p1), .val (.int (p0 &&& (1 : Int32))), .val (.int (p1 &&& (1 : Int32))), .val (.ref (own_f1 (p0 &&& (1 : Int32)) w)), .val (.ref (own_f1 (p1 &&& (1 : Int32)) w)), .val (.int (own_f2 (own_f1 (p0 &&& (1 : Int32)) w) (own_f1 (p1 &&& (1 : Int32)) w) w)), .unset] [(.ref (own_f1 (p0 &&& (1 : Int32)) w)), (.ref (own_f1 (p1 &&& (1 : Int32)) w))])
  obtain ⟨cq4, kq4, q4a, q4b, q4c⟩ := isOf hZ e3 ((own_exa wd _).ext O0.2)
  obtain ⟨_, _, ⟨T4, L4, k4, n4⟩, -, X4, ⟨Lc4, hQ4, l4, y4, z4⟩, st4⟩ := X3.virtualBack hx (y := (⟨"com/example/verlock/verlock/LockMode", "isSharedWith", "(Lcom/example/verlock/verlock/LockMode;)Z"⟩ : MethodName)) (z := (⟨"com/example/verlock/verlock/LockMode", "isSharedWith", "(Lcom/example/verlock/verlock/LockMode;)Z"⟩ : MethodName)) hown (mvT hZ (hw _ (List.mem_of_getElem? (i := 9) rfl))) (mvT hZ (hw _ (List.mem_of_getElem? (i := 10) rfl))) (notFace_of_selects (args := #[]) (mvT hZ (hw _ (List.mem_of_getElem? (i := 12) rfl)))) (mvT hZ (hw _ (List.mem_of_getElem? (i := 12) rfl))) (mvT hZ (hw _ (List.mem_of_getElem? (i := 11) rfl))) (by decide) (backOf (W := 0) (rm2 l Z a0 hw [] (own_f1 (p1 &&& (1 : Int32)) w) (own_f1 (p0 &&& (1 : Int32)) w) w h0 n0 Z0 O0 wd) hZ (hw _ (List.mem_of_getElem? (i := 13) rfl)) (hw _ (List.mem_of_getElem? (i := 5) rfl)) (by decide) (by decide)) q4a q4c (g := (mkF m 33 #[.val (.int p0), .val (.int p1), .val (.int (p0 &&& (1 : Int32))), .val (.int (p1 &&& (1 : Int32))), .val (.ref (own_f1 (p0 &&& (1 : Int32)) w)), .val (.ref (own_f1 (p1 &&& (1 : Int32)) w)), .val (.int (own_f2 (own_f1 (p0 &&& (1 : Int32)) w) (own_f1 (p1 &&& (1 : Int32)) w) w)), .unset] [(.ref (own_f1 (p0 &&& (1 : Int32)) w)), (.ref (own_f1 (p1 &&& (1 : Int32)) w))])) rfl (by rw [hml]; rfl) (Steps.refl _) (argsL := [(.ref (own_f1 (p0 &&& (1 : Int32)) w))]) (rest := []) (lenOf own_pd3 rfl) rfl (by show 2 * 0 + _ ≤ _; exact Nat.le_of_eq rfl) (hb hby at_33) (fun _ _ => ⟨rfl, e3, (by decide : 0 + 0 ≤ _), (by decide : 0 + 0 ≤ _)⟩)
  dsimp only [Pt.U, Pt.locs, Pt.cells, Pt.slots] at X4 l4 y4 z4 st4 hQ4
  subst l4 y4 z4
  obtain ⟨rfl, N4q, e4⟩ := hQ4
  have N4 := Fr.app N3 N4q
  refine Go.tr st4 ?_
  show Go _ _ _ _ T4 (mkF m 36 #[.val (.int p0), .val (.int p1), .val (.int (p0 &&& (1 : Int32))), .val (.int (p1 &&& (1 : Int32))), .val (.ref (own_f1 (p0 &&& (1 : Int32)) w)), .val (.ref (own_f1 (p1 &&& (1 : Int32)) w)), .val (.int (own_f2 (own_f1 (p0 &&& (1 : Int32)) w) (own_f1 (p1 &&& (1 : Int32)) w) w)), .unset] [(.int (own_f2 (own_f1 (p1 &&& (1 : Int32)) w) (own_f1 (p0 &&& (1 : Int32)) w) w))])
  refine Go.step (fun _ zz => XS.istore X4.here hx rfl (hb hby at_36) rfl (l' := #[.val (.int p0), .val (.int p1), .val (.int (p0 &&& (1 : Int32))), .val (.int (p1 &&& (1 : Int32))), .val (.ref (own_f1 (p0 &&& (1 : Int32)) w)), .val (.ref (own_f1 (p1 &&& (1 : Int32)) w)), .val (.int (own_f2 (own_f1 (p0 &&& (1 : Int32)) w) (own_f1 (p1 &&& (1 : Int32)) w) w)), .val (.int (own_f2 (own_f1 (p1 &&& (1 : Int32)) w) (own_f1 (p0 &&& (1 : Int32)) w) w))]) rfl zz) ?_
  show Go _ _ _ _ T4 (mkF m 38 #[.val (.int p0), .val (.int p1), .val (.int (p0 &&& (1 : Int32))), .val (.int (p1 &&& (1 : Int32))), .val (.ref (own_f1 (p0 &&& (1 : Int32)) w)), .val (.ref (own_f1 (p1 &&& (1 : Int32)) w)), .val (.int (own_f2 (own_f1 (p0 &&& (1 : Int32)) w) (own_f1 (p1 &&& (1 : Int32)) w) w)), .val (.int (own_f2 (own_f1 (p1 &&& (1 : Int32)) w) (own_f1 (p0 &&& (1 : Int32)) w) w))] [])
  refine Go.step (fun _ zz => XS.iload X4.here hx rfl (hb hby at_38) rfl zz) ?_
  show Go _ _ _ _ T4 (mkF m 40 #[.val (.int p0), .val (.int p1), .val (.int (p0 &&& (1 : Int32))), .val (.int (p1 &&& (1 : Int32))), .val (.ref (own_f1 (p0 &&& (1 : Int32)) w)), .val (.ref (own_f1 (p1 &&& (1 : Int32)) w)), .val (.int (own_f2 (own_f1 (p0 &&& (1 : Int32)) w) (own_f1 (p1 &&& (1 : Int32)) w) w)), .val (.int (own_f2 (own_f1 (p1 &&& (1 : Int32)) w) (own_f1 (p0 &&& (1 : Int32)) w) w))] [(.int (own_f2 (own_f1 (p0 &&& (1 : Int32)) w) (own_f1 (p1 &&& (1 : Int32)) w) w))])
  refine Go.step (fun _ zz => XS.iloadN X4.here hx rfl (hb hby at_40) rfl zz) ?_
  show Go _ _ _ _ T4 (mkF m 41 #[.val (.int p0), .val (.int p1), .val (.int (p0 &&& (1 : Int32))), .val (.int (p1 &&& (1 : Int32))), .val (.ref (own_f1 (p0 &&& (1 : Int32)) w)), .val (.ref (own_f1 (p1 &&& (1 : Int32)) w)), .val (.int (own_f2 (own_f1 (p0 &&& (1 : Int32)) w) (own_f1 (p1 &&& (1 : Int32)) w) w)), .val (.int (own_f2 (own_f1 (p1 &&& (1 : Int32)) w) (own_f1 (p0 &&& (1 : Int32)) w) w))] [(.int (p0 &&& (1 : Int32))), (.int (own_f2 (own_f1 (p0 &&& (1 : Int32)) w) (own_f1 (p1 &&& (1 : Int32)) w) w))])
  refine Go.step (fun _ zz => XS.iloadN X4.here hx rfl (hb hby at_41) rfl zz) ?_
  show Go _ _ _ _ T4 (mkF m 42 #[.val (.int p0), .val (.int p1), .val (.int (p0 &&& (1 : Int32))), .val (.int (p1 &&& (1 : Int32))), .val (.ref (own_f1 (p0 &&& (1 : Int32)) w)), .val (.ref (own_f1 (p1 &&& (1 : Int32)) w)), .val (.int (own_f2 (own_f1 (p0 &&& (1 : Int32)) w) (own_f1 (p1 &&& (1 : Int32)) w) w)), .val (.int (own_f2 (own_f1 (p1 &&& (1 : Int32)) w) (own_f1 (p0 &&& (1 : Int32)) w) w))] [(.int (p1 &&& (1 : Int32))), (.int (p0 &&& (1 : Int32))), (.int (own_f2 (own_f1 (p0 &&& (1 : Int32)) w) (own_f1 (p1 &&& (1 : Int32)) w) w))])
  obtain ⟨_, _, ⟨T5, L5, k5, n5⟩, -, X5, ⟨Lc5, hQ5, l5, y5, z5⟩, st5⟩ := Jvm.LawKit.callS X4 hx (y := (⟨"com/example/verlock/verlock/LockModeIsSharedWithPinLaw", "expected", "(II)Z"⟩ : MethodName)) hown (mvT hZ (hw _ (List.mem_of_getElem? (i := 15) rfl))) (mvT hZ (hw _ (List.mem_of_getElem? (i := 16) rfl))) (mvT hZ (hw _ (List.mem_of_getElem? (i := 2) rfl))) (mvT hZ (hw _ (List.mem_of_getElem? (i := 17) rfl))) (by decide) (backOf (W := 1) (rm3 l Z a0 hw [] (p0 &&& (1 : Int32)) (p1 &&& (1 : Int32)) h0 n0 Z0) hZ (hw _ (List.mem_of_getElem? (i := 17) rfl)) (hw _ (List.mem_of_getElem? (i := 2) rfl)) (by decide) (by decide)) (g := (mkF m 42 #[.val (.int p0), .val (.int p1), .val (.int (p0 &&& (1 : Int32))), .val (.int (p1 &&& (1 : Int32))), .val (.ref (own_f1 (p0 &&& (1 : Int32)) w)), .val (.ref (own_f1 (p1 &&& (1 : Int32)) w)), .val (.int (own_f2 (own_f1 (p0 &&& (1 : Int32)) w) (own_f1 (p1 &&& (1 : Int32)) w) w)), .val (.int (own_f2 (own_f1 (p1 &&& (1 : Int32)) w) (own_f1 (p0 &&& (1 : Int32)) w) w))] [(.int (p1 &&& (1 : Int32))), (.int (p0 &&& (1 : Int32))), (.int (own_f2 (own_f1 (p0 &&& (1 : Int32)) w) (own_f1 (p1 &&& (1 : Int32)) w) w))])) rfl (by rw [hml]; rfl) (argsL := [(.int (p0 &&& (1 : Int32))), (.int (p1 &&& (1 : Int32)))]) (rest := [(.int (own_f2 (own_f1 (p0 &&& (1 : Int32)) w) (own_f1 (p1 &&& (1 : Int32)) w) w))]) (lenOf own_pd4 rfl) rfl (by show 2 * 0 + _ ≤ _; exact Nat.le_of_eq rfl) (hb hby at_42) (fun _ _ => ⟨rfl, e4, (by decide : 0 + 0 ≤ _), (by decide : 0 + 0 ≤ _)⟩)
  dsimp only [Pt.U, Pt.locs, Pt.cells, Pt.slots] at X5 l5 y5 z5 st5 hQ5
  subst l5 y5 z5
  obtain ⟨rfl, N5q, e5⟩ := hQ5
  have N5 := Fr.app N4 N5q
  refine Go.step st5 ?_
  show Go _ _ _ _ T5 (mkF m 45 #[.val (.int p0), .val (.int p1), .val (.int (p0 &&& (1 : Int32))), .val (.int (p1 &&& (1 : Int32))), .val (.ref (own_f1 (p0 &&& (1 : Int32)) w)), .val (.ref (own_f1 (p1 &&& (1 : Int32)) w)), .val (.int (own_f2 (own_f1 (p0 &&& (1 : Int32)) w) (own_f1 (p1 &&& (1 : Int32)) w) w)), .val (.int (own_f2 (own_f1 (p1 &&& (1 : Int32)) w) (own_f1 (p0 &&& (1 : Int32)) w) w))] [(.int (own_f3 (p0 &&& (1 : Int32)) (p1 &&& (1 : Int32)))), (.int (own_f2 (own_f1 (p0 &&& (1 : Int32)) w) (own_f1 (p1 &&& (1 : Int32)) w) w))])
  refine Go.step (fun _ zz => XS.icmpNo X5.here hx rfl (hb hby at_45) rfl (teq (own_fin wd p0 p1)).2 zz) ?_
  show Go _ _ _ _ T5 (mkF m 48 #[.val (.int p0), .val (.int p1), .val (.int (p0 &&& (1 : Int32))), .val (.int (p1 &&& (1 : Int32))), .val (.ref (own_f1 (p0 &&& (1 : Int32)) w)), .val (.ref (own_f1 (p1 &&& (1 : Int32)) w)), .val (.int (own_f2 (own_f1 (p0 &&& (1 : Int32)) w) (own_f1 (p1 &&& (1 : Int32)) w) w)), .val (.int (own_f2 (own_f1 (p1 &&& (1 : Int32)) w) (own_f1 (p0 &&& (1 : Int32)) w) w))] [])
  refine Go.step (fun _ zz => XS.iload X5.here hx rfl (hb hby at_48) rfl zz) ?_
  show Go _ _ _ _ T5 (mkF m 50 #[.val (.int p0), .val (.int p1), .val (.int (p0 &&& (1 : Int32))), .val (.int (p1 &&& (1 : Int32))), .val (.ref (own_f1 (p0 &&& (1 : Int32)) w)), .val (.ref (own_f1 (p1 &&& (1 : Int32)) w)), .val (.int (own_f2 (own_f1 (p0 &&& (1 : Int32)) w) (own_f1 (p1 &&& (1 : Int32)) w) w)), .val (.int (own_f2 (own_f1 (p1 &&& (1 : Int32)) w) (own_f1 (p0 &&& (1 : Int32)) w) w))] [(.int (own_f2 (own_f1 (p1 &&& (1 : Int32)) w) (own_f1 (p0 &&& (1 : Int32)) w) w))])
  refine Go.step (fun _ zz => XS.iloadN X5.here hx rfl (hb hby at_50) rfl zz) ?_
  show Go _ _ _ _ T5 (mkF m 51 #[.val (.int p0), .val (.int p1), .val (.int (p0 &&& (1 : Int32))), .val (.int (p1 &&& (1 : Int32))), .val (.ref (own_f1 (p0 &&& (1 : Int32)) w)), .val (.ref (own_f1 (p1 &&& (1 : Int32)) w)), .val (.int (own_f2 (own_f1 (p0 &&& (1 : Int32)) w) (own_f1 (p1 &&& (1 : Int32)) w) w)), .val (.int (own_f2 (own_f1 (p1 &&& (1 : Int32)) w) (own_f1 (p0 &&& (1 : Int32)) w) w))] [(.int (p1 &&& (1 : Int32))), (.int (own_f2 (own_f1 (p1 &&& (1 : Int32)) w) (own_f1 (p0 &&& (1 : Int32)) w) w))])
  refine Go.step (fun _ zz => XS.iloadN X5.here hx rfl (hb hby at_51) rfl zz) ?_
  show Go _ _ _ _ T5 (mkF m 52 #[.val (.int p0), .val (.int p1), .val (.int (p0 &&& (1 : Int32))), .val (.int (p1 &&& (1 : Int32))), .val (.ref (own_f1 (p0 &&& (1 : Int32)) w)), .val (.ref (own_f1 (p1 &&& (1 : Int32)) w)), .val (.int (own_f2 (own_f1 (p0 &&& (1 : Int32)) w) (own_f1 (p1 &&& (1 : Int32)) w) w)), .val (.int (own_f2 (own_f1 (p1 &&& (1 : Int32)) w) (own_f1 (p0 &&& (1 : Int32)) w) w))] [(.int (p0 &&& (1 : Int32))), (.int (p1 &&& (1 : Int32))), (.int (own_f2 (own_f1 (p1 &&& (1 : Int32)) w) (own_f1 (p0 &&& (1 : Int32)) w) w))])
  obtain ⟨_, _, ⟨T6, L6, k6, n6⟩, -, X6, ⟨Lc6, hQ6, l6, y6, z6⟩, st6⟩ := Jvm.LawKit.callS X5 hx (y := (⟨"com/example/verlock/verlock/LockModeIsSharedWithPinLaw", "expected", "(II)Z"⟩ : MethodName)) hown (mvT hZ (hw _ (List.mem_of_getElem? (i := 15) rfl))) (mvT hZ (hw _ (List.mem_of_getElem? (i := 16) rfl))) (mvT hZ (hw _ (List.mem_of_getElem? (i := 2) rfl))) (mvT hZ (hw _ (List.mem_of_getElem? (i := 17) rfl))) (by decide) (backOf (W := 1) (rm3 l Z a0 hw [] (p1 &&& (1 : Int32)) (p0 &&& (1 : Int32)) h0 n0 Z0) hZ (hw _ (List.mem_of_getElem? (i := 17) rfl)) (hw _ (List.mem_of_getElem? (i := 2) rfl)) (by decide) (by decide)) (g := (mkF m 52 #[.val (.int p0), .val (.int p1), .val (.int (p0 &&& (1 : Int32))), .val (.int (p1 &&& (1 : Int32))), .val (.ref (own_f1 (p0 &&& (1 : Int32)) w)), .val (.ref (own_f1 (p1 &&& (1 : Int32)) w)), .val (.int (own_f2 (own_f1 (p0 &&& (1 : Int32)) w) (own_f1 (p1 &&& (1 : Int32)) w) w)), .val (.int (own_f2 (own_f1 (p1 &&& (1 : Int32)) w) (own_f1 (p0 &&& (1 : Int32)) w) w))] [(.int (p0 &&& (1 : Int32))), (.int (p1 &&& (1 : Int32))), (.int (own_f2 (own_f1 (p1 &&& (1 : Int32)) w) (own_f1 (p0 &&& (1 : Int32)) w) w))])) rfl (by rw [hml]; rfl) (argsL := [(.int (p1 &&& (1 : Int32))), (.int (p0 &&& (1 : Int32)))]) (rest := [(.int (own_f2 (own_f1 (p1 &&& (1 : Int32)) w) (own_f1 (p0 &&& (1 : Int32)) w) w))]) (lenOf own_pd4 rfl) rfl (by show 2 * 0 + _ ≤ _; exact Nat.le_of_eq rfl) (hb hby at_52) (fun _ _ => ⟨rfl, e5, (by decide : 0 + 0 ≤ _), (by decide : 0 + 0 ≤ _)⟩)
  dsimp only [Pt.U, Pt.locs, Pt.cells, Pt.slots] at X6 l6 y6 z6 st6 hQ6
  subst l6 y6 z6
  obtain ⟨rfl, N6q, e6⟩ := hQ6
  have N6 := Fr.app N5 N6q
  refine Go.step st6 ?_
  show Go _ _ _ _ T6 (mkF m 55 #[.val (.int p0), .val (.int p1), .val (.int (p0 &&& (1 : Int32))), .val (.int (p1 &&& (1 : Int32))), .val (.ref (own_f1 (p0 &&& (1 : Int32)) w)), .val (.ref (own_f1 (p1 &&& (1 : Int32)) w)), .val (.int (own_f2 (own_f1 (p0 &&& (1 : Int32)) w) (own_f1 (p1 &&& (1 : Int32)) w) w)), .val (.int (own_f2 (own_f1 (p1 &&& (1 : Int32)) w) (own_f1 (p0 &&& (1 : Int32)) w) w))] [(.int (own_f3 (p1 &&& (1 : Int32)) (p0 &&& (1 : Int32)))), (.int (own_f2 (own_f1 (p1 &&& (1 : Int32)) w) (own_f1 (p0 &&& (1 : Int32)) w) w))])
  refine Go.step (fun _ zz => XS.icmpNo X6.here hx rfl (hb hby at_55) rfl (teq (own_fin wd p1 p0)).2 zz) ?_
  show Go _ _ _ _ T6 (mkF m 58 #[.val (.int p0), .val (.int p1), .val (.int (p0 &&& (1 : Int32))), .val (.int (p1 &&& (1 : Int32))), .val (.ref (own_f1 (p0 &&& (1 : Int32)) w)), .val (.ref (own_f1 (p1 &&& (1 : Int32)) w)), .val (.int (own_f2 (own_f1 (p0 &&& (1 : Int32)) w) (own_f1 (p1 &&& (1 : Int32)) w) w)), .val (.int (own_f2 (own_f1 (p1 &&& (1 : Int32)) w) (own_f1 (p0 &&& (1 : Int32)) w) w))] [])
  refine Go.step (fun _ zz => XS.iconst X6.here hx rfl (hb hby at_58) zz) ?_
  show Go _ _ _ _ T6 (mkF m 59 #[.val (.int p0), .val (.int p1), .val (.int (p0 &&& (1 : Int32))), .val (.int (p1 &&& (1 : Int32))), .val (.ref (own_f1 (p0 &&& (1 : Int32)) w)), .val (.ref (own_f1 (p1 &&& (1 : Int32)) w)), .val (.int (own_f2 (own_f1 (p0 &&& (1 : Int32)) w) (own_f1 (p1 &&& (1 : Int32)) w) w)), .val (.int (own_f2 (own_f1 (p1 &&& (1 : Int32)) w) (own_f1 (p0 &&& (1 : Int32)) w) w))] [(.int (1 : Int32))])
  refine Go.step (fun _ zz => XS.goto X6.here hx rfl (pc0 := 59) (pc' := 63) rfl (hb hby at_59) (by decide) (by decide) zz) ?_
  show Go _ _ _ _ T6 (mkF m 63 #[.val (.int p0), .val (.int p1), .val (.int (p0 &&& (1 : Int32))), .val (.int (p1 &&& (1 : Int32))), .val (.ref (own_f1 (p0 &&& (1 : Int32)) w)), .val (.ref (own_f1 (p1 &&& (1 : Int32)) w)), .val (.int (own_f2 (own_f1 (p0 &&& (1 : Int32)) w) (own_f1 (p1 &&& (1 : Int32)) w) w)), .val (.int (own_f2 (own_f1 (p1 &&& (1 : Int32)) w) (own_f1 (p0 &&& (1 : Int32)) w) w))] [(.int (1 : Int32))])
  exact Go.retN X6 hx (t := .boolean) Bd.returns (by simp) (hb hby at_63) Bd.notSynchronized (z' := (1 : Int32)) (by decide) (⟨rfl, N6⟩) (by decide) (by decide)
set_option maxRecDepth 65536 in
set_option maxHeartbeats 40000000 in
theorem comes_1 {Post : Tables → Env → Array Value → State → Outcome → State → Prop} (hpost : ∀ tb e args s v u, (limb_1_1.after args s (.returned v) u = true ∧ limb_1_2.after args s (.returned v) u = true ∧ True) → FrameEnd s (.returned v) u (Jvm.fieldLocs frame_1_writes args s ++ Jvm.arrayLocs frame_1_arrays args s ++ Jvm.staticLocs frame_1_statics s) 0 0 → Post tb e args s (.returned v) u) :
    ArmFor flags0 classFile x code maxLocals ret World_1 tables_1 room_1 Calls_1 rest_1 Pre_1 Post := by
  intro l hfl _ _ p e ha hc hk s m args below hf hA hF happ hP
  obtain ⟨hcalls, hrest, hpre⟩ := hP
  obtain ⟨-, -, -, hnamed, -, -, -, hat⟩ := (Spec.applies_iff hf).mp happ
  obtain ⟨hg, hn⟩ := and_e (Cond.before_iff.mp (show (Jvm.Cond.and given_1 narrow_1).before args s = true from hpre))
  obtain ⟨hg_a, hg_b⟩ := and_e hg
  obtain ⟨hg_b_a, hg_b_b⟩ := and_e hg_b
  obtain ⟨u0, u1, rfl⟩ : ∃ u0 u1 : Value, args = #[u0, u1] := by
    have hs : args.size = 2 := by simpa [Cond.value, given_1] using hg_a
    obtain ⟨L⟩ := args
    match L, hs with
    | [u0, u1], _ => exact ⟨u0, u1, rfl⟩
  have hw := fun d (hd : d ∈ tables_1) => atoms_spec (ws := Jvm.Cond.code x code maxLocals ret :: tables_1) hat d (List.mem_cons_of_mem _ hd)
  have hfit : Fit s := fun {y c} hc i hi => by
    obtain ⟨ha, rfl⟩ := Array.getElem?_eq_some_iff.mp hc
    have q := List.all_eq_true.mp ((Array.all_eq_true_iff_forall_mem.mp hF) _ (Array.getElem_mem ha)) i (List.mem_range.mpr hi)
    simpa [Array.getElem?_eq_getElem hi] using q
  obtain ⟨i0, ei0⟩ := is_v hg_b_a
  obtain rfl : u0 = (.int i0) := Option.some.inj ei0
  obtain ⟨i1, ei1⟩ := is_v hg_b_b
  obtain rfl : u1 = (.int i1) := Option.some.inj ei1
  obtain ⟨hn_a, hn_b⟩ := and_e hn
  obtain ⟨hn_b_a, hn_b_b⟩ := and_e hn_b
  obtain ⟨hn_b_b_a, hn_b_b_b⟩ := and_e hn_b_b
  obtain ⟨w0, ev0⟩ := exa_v hn_a
  obtain ⟨w1, ev1⟩ := exa_v hn_b_a
  have wd : Wd s (fun i => ([w0, w1] : List Addr).getD i 0) := ⟨Sta.start ev0 (Or.inr ⟨(hw _ (List.mem_of_getElem? (i := 5) rfl)), (hw _ (List.mem_of_getElem? (i := 6) rfl))⟩), Exa.start ev0 hn_a, Sta.start ev1 (Or.inr ⟨(hw _ (List.mem_of_getElem? (i := 5) rfl)), (hw _ (List.mem_of_getElem? (i := 8) rfl))⟩), Exa.start ev1 hn_b_a, Fld.start ((fld_at ev1).symm.trans (own_eqi hn_b_b_a)), Fld.start ((fld_at ev0).symm.trans (own_eqi hn_b_b_b))⟩
  obtain ⟨n, o, h1, h2, h3, _, L, rfl, ⟨rfl, N⟩, hq⟩ := rm0 l s _ hw tables_1 i0 i1 (fun i => ([w0, w1] : List Addr).getD i 0) s.heap s.heap.size (Nat.le_refl _) (Old.start s) wd p e ha hc hk s m _ below hf ((Spec.applies_iff_loose hf).mp happ).1 ⟨rfl, State.Warmed39.refl s, rfl⟩ trivial
  refine ⟨n, _, h1, h2, h3, hpost _ _ _ _ _ _ ⟨Cond.after_iff.mpr rfl, Cond.after_iff.mpr (eq_i res_at (Term.int_eval (1)) rfl), trivial⟩ ⟨hq.1, hq.2.1, (hq.2.2.sift fun y hy => Or.inr (N y hy)).mono (by decide) (by decide)⟩⟩
theorem main_1_1 : Claimed_1_1 := comes_1 fun _ _ _ _ _ _ h hF => ⟨h.1, hF⟩
theorem main_1_2 : Claimed_1_2 := comes_1 fun _ _ _ _ _ _ h hF => ⟨h.2.1, hF⟩
end Jvm.Pilot.@@N@@
namespace Jvm.Pilot.@@N@@
open Jvm Jvm.ClassFile Sem Op Lib Jvm.Free Jvm.Stand Jvm.Pilot.@@N@@.Jvm.D
/-! MADE BY PROGRAM (witnessworld.py) out of the Statement's table words and the real class files: 10 classes; the members and pool entries that the words name. The judged class is class 1, her method 3. -/
namespace start1
open Jvm.ClassFile
def u (s : String) : CpInfo := .utf8 (stringToUtf16 s)
/-- a pool by its gaps: so many unusable entries, then the entry; so many at the end -/
def gap : Nat → List CpInfo → List CpInfo
  | 0, r => r
  | n + 1, r => .unusable :: gap n r
def poolList (es : List (Nat × CpInfo)) (last : Nat) : List CpInfo := es.foldr (fun e r => gap e.1 (e.2 :: r)) (gap last [])
def pool (es : List (Nat × CpInfo)) (last : Nat) : Array CpInfo := ⟨poolList es last⟩
def fileOf (pool : Array CpInfo) (this : Nat) (attrs : Array Attribute := #[]) (ms : Array MethodInfo := #[]) (fl : Nat := 33) (sup : Nat := 0) (ifs : Array Nat := #[]) (fds : Array FieldInfo := #[]) : ClassFile where
  minorVersion := 0
  majorVersion := 65
  constantPool := pool
  accessFlags := fl
  thisClass := this
  superClass := sup
  interfaces := ifs
  fields := fds
  methods := ms
  attributes := attrs
def plain (name : String) (sup : Option ClassId) : Class where
  name := name
  kind := .ordinary
  loader := none
  accessFlags := 33
  super := sup
  interfaces := #[]
  cf := none
  fields := #[]
  methods := #[]
  instanceTypes := #[]
  staticTypes := #[]
  resolved := #[]
  callSites := []
  init := .initialized
  statics := none
  mirror := none

def pool0 : Array CpInfo := pool [(5, u "<init>"), (0, u "()V"), (1, .class_ 10), (1, u "java/lang/Object")] 113

def k0m0 : Method := { name := "<init>", desc := "()V", sig := { parameters := [], returnType := none }, accessFlags := 1, code := none }
/-- java/lang/Object -/
def k0 : Class := { plain "java/lang/Object" none with
  accessFlags := 33
  interfaces := #[]
  cf := some (fileOf pool0 8 #[] #[{ accessFlags := 1, nameIndex := 5, descriptorIndex := 6, attributes := #[] }] 33 0 #[] #[])
  fields := #[]
  methods := #[k0m0]
  instanceTypes := #[]
  staticTypes := #[]
  resolved := Array.replicate 124 none
  statics := none }

def pool1 : Array CpInfo := pool [(2, .class_ 4), (1, u "java/lang/Object"), (0, u "<init>"), (0, u "()V"), (0, .fieldref 8 9), (0, .class_ 10), (0, .nameAndType 11 12), (0, u "com/example/verlock/verlock/LockMode"), (0, u "READ"), (0, u "Lcom/example/verlock/verlock/LockMode;"), (0, .fieldref 8 14), (0, .nameAndType 15 12), (0, u "WRITE"), (0, .methodref 17 18), (0, .class_ 19), (0, .nameAndType 20 21), (0, u "com/example/verlock/verlock/LockModeIsSharedWithPinLaw"), (0, u "pick"), (0, u "(I)Lcom/example/verlock/verlock/LockMode;"), (0, .methodref 8 23), (0, .nameAndType 24 25), (0, u "isSharedWith"), (0, u "(Lcom/example/verlock/verlock/LockMode;)Z"), (0, .methodref 17 27), (0, .nameAndType 28 29), (0, u "expected"), (0, u "(II)Z"), (3, u "law")] 2

def k1m0 : Method := { name := "<init>", desc := "()V", sig := { parameters := [], returnType := none }, accessFlags := 1, code := none }
def k1c1 : Code := { maxStack := 2, maxLocals := 1, code := method_2_code, exceptionTable := #[], attributes := #[] }
def k1m1 : Method := { name := "pick", desc := "(I)Lcom/example/verlock/verlock/LockMode;", sig := { parameters := [.int], returnType := some (.object "com/example/verlock/verlock/LockMode") }, accessFlags := 10, code := some k1c1 }
def k1c2 : Code := { maxStack := 1, maxLocals := 2, code := method_3_code, exceptionTable := #[], attributes := #[] }
def k1m2 : Method := { name := "expected", desc := "(II)Z", sig := { parameters := [.int, .int], returnType := some .boolean }, accessFlags := 10, code := some k1c2 }
def k1c3 : Code := { maxStack := 3, maxLocals := 8, code := code, exceptionTable := #[], attributes := #[] }
def k1m3 : Method := { name := "law", desc := "(II)Z", sig := { parameters := [.int, .int], returnType := some .boolean }, accessFlags := 9, code := some k1c3 }
/-- com/example/verlock/verlock/LockModeIsSharedWithPinLaw -/
def k1 : Class := { plain "com/example/verlock/verlock/LockModeIsSharedWithPinLaw" (some 0) with
  accessFlags := 49
  interfaces := #[]
  cf := some (fileOf pool1 17 #[] #[{ accessFlags := 1, nameIndex := 5, descriptorIndex := 6, attributes := #[] }, { accessFlags := 10, nameIndex := 20, descriptorIndex := 21, attributes := #[] }, { accessFlags := 10, nameIndex := 28, descriptorIndex := 29, attributes := #[] }, { accessFlags := 9, nameIndex := 33, descriptorIndex := 29, attributes := #[] }] 49 2 #[] #[])
  fields := #[]
  methods := #[k1m0, k1m1, k1m2, k1m3]
  instanceTypes := #[]
  staticTypes := #[]
  resolved := Array.replicate 36 none
  statics := none }

def pool2 : Array CpInfo := pool [(1, .class_ 2), (0, u "java/lang/constant/Constable"), (0, .class_ 4), (0, u "java/lang/Object")] 6

/-- java/lang/constant/Constable -/
def k2 : Class := { plain "java/lang/constant/Constable" (some 0) with
  accessFlags := 1537
  interfaces := #[]
  cf := some (fileOf pool2 1 #[] #[] 1537 3 #[] #[])
  fields := #[]
  methods := #[]
  instanceTypes := #[]
  staticTypes := #[]
  resolved := Array.replicate 11 none
  statics := none }

def pool3 : Array CpInfo := pool [(1, .class_ 2), (0, u "java/lang/Comparable"), (0, .class_ 4), (0, u "java/lang/Object")] 7

/-- java/lang/Comparable -/
def k3 : Class := { plain "java/lang/Comparable" (some 0) with
  accessFlags := 1537
  interfaces := #[]
  cf := some (fileOf pool3 1 #[] #[] 1537 3 #[] #[])
  fields := #[]
  methods := #[]
  instanceTypes := #[]
  staticTypes := #[]
  resolved := Array.replicate 12 none
  statics := none }

def pool4 : Array CpInfo := pool [(1, .class_ 2), (0, u "java/io/Serializable"), (0, .class_ 4), (0, u "java/lang/Object")] 2

/-- java/io/Serializable -/
def k4 : Class := { plain "java/io/Serializable" (some 0) with
  accessFlags := 1537
  interfaces := #[]
  cf := some (fileOf pool4 1 #[] #[] 1537 3 #[] #[])
  fields := #[]
  methods := #[]
  instanceTypes := #[]
  staticTypes := #[]
  resolved := Array.replicate 7 none
  statics := none }

def pool5 : Array CpInfo := pool [(2, .class_ 4), (1, u "java/lang/Enum"), (0, u "name"), (0, u "Ljava/lang/String;"), (2, u "ordinal"), (0, u "I"), (1, .class_ 14), (1, u "java/lang/Object"), (4, u "hash"), (86, .class_ 108), (1, u "java/lang/Enum$EnumDesc"), (2, .class_ 112), (0, u "java/lang/constant/Constable"), (0, .class_ 114), (0, u "java/lang/Comparable"), (0, .class_ 116), (0, u "java/io/Serializable")] 87

/-- java/lang/Enum -/
def k5 : Class := { plain "java/lang/Enum" (some 0) with
  accessFlags := 1057
  interfaces := #[2, 3, 4]
  cf := some (fileOf pool5 2 #[.nestMembers #[106]] #[] 1057 12 #[111, 113, 115] #[{ accessFlags := 18, nameIndex := 5, descriptorIndex := 6, attributes := #[] }, { accessFlags := 18, nameIndex := 9, descriptorIndex := 10, attributes := #[] }, { accessFlags := 2, nameIndex := 19, descriptorIndex := 10, attributes := #[] }])
  fields := #[{ name := "name", type := (.object "java/lang/String"), accessFlags := 18, slot := 0, constantValue := 0 }, { name := "ordinal", type := .int, accessFlags := 18, slot := 1, constantValue := 0 }, { name := "hash", type := .int, accessFlags := 2, slot := 2, constantValue := 0 }]
  methods := #[]
  instanceTypes := #[(.object "java/lang/String"), .int, .int]
  staticTypes := #[]
  resolved := Array.replicate 204 none
  statics := none }

def pool6 : Array CpInfo := pool [(1, .class_ 2), (0, u "com/example/verlock/verlock/LockMode"), (0, .fieldref 1 4), (0, .nameAndType 5 6), (0, u "READ"), (0, u "Lcom/example/verlock/verlock/LockMode;"), (2, u "WRITE"), (2, u "$VALUES"), (0, u "[Lcom/example/verlock/verlock/LockMode;"), (6, .class_ 22), (1, u "java/lang/Enum"), (20, u "isSharedWith"), (0, u "(Lcom/example/verlock/verlock/LockMode;)Z")] 5

def k6c0 : Code := { maxStack := 2, maxLocals := 2, code := prog_10_method_4_code, exceptionTable := #[], attributes := #[] }
def k6m0 : Method := { name := "isSharedWith", desc := "(Lcom/example/verlock/verlock/LockMode;)Z", sig := { parameters := [(.object "com/example/verlock/verlock/LockMode")], returnType := some .boolean }, accessFlags := 1, code := some k6c0 }
/-- com/example/verlock/verlock/LockMode -/
def k6 : Class := { plain "com/example/verlock/verlock/LockMode" (some 5) with
  accessFlags := 16433
  interfaces := #[]
  cf := some (fileOf pool6 1 #[] #[{ accessFlags := 1, nameIndex := 43, descriptorIndex := 44, attributes := #[] }] 16433 20 #[] #[{ accessFlags := 16409, nameIndex := 5, descriptorIndex := 6, attributes := #[] }, { accessFlags := 16409, nameIndex := 9, descriptorIndex := 6, attributes := #[] }, { accessFlags := 4122, nameIndex := 12, descriptorIndex := 13, attributes := #[] }])
  fields := #[{ name := "READ", type := (.object "com/example/verlock/verlock/LockMode"), accessFlags := 16409, slot := 0, constantValue := 0 }, { name := "WRITE", type := (.object "com/example/verlock/verlock/LockMode"), accessFlags := 16409, slot := 1, constantValue := 0 }, { name := "$VALUES", type := (.array (.object "com/example/verlock/verlock/LockMode")), accessFlags := 4122, slot := 2, constantValue := 0 }]
  methods := #[k6m0]
  instanceTypes := #[(.object "java/lang/String"), .int, .int]
  staticTypes := #[(.object "com/example/verlock/verlock/LockMode"), (.object "com/example/verlock/verlock/LockMode"), (.array (.object "com/example/verlock/verlock/LockMode"))]
  resolved := Array.replicate 50 none
  statics := some 0 }

def pool7 : Array CpInfo := pool [(1, u "java/lang/Cloneable"), (0, .class_ 1), (0, u "java/lang/Object"), (0, .class_ 3)] 3

/-- java/lang/Cloneable -/
def k7 : Class := { plain "java/lang/Cloneable" (some 0) with
  accessFlags := 1537
  interfaces := #[]
  cf := some (fileOf pool7 2 #[] #[] 1537 4 #[] #[])
  fields := #[]
  methods := #[]
  instanceTypes := #[]
  staticTypes := #[]
  resolved := Array.replicate 8 none
  statics := none }

/-- the primitive byte -/
def k8 : Class := { plain "byte" none with kind := .primitive 'B', accessFlags := 0x411 }
/-- [B -/
def k9 : Class := { plain "[B" (some 0) with kind := .array 8 .byte, interfaces := #[7, 4], accessFlags := 1041 }

def heap : Heap := #[{ cls := 6, slots := #[.ref 1, .ref 2, .null], vm := .statics 6 },
  { cls := 6, slots := #[.null, .int 0, .int 0], vm := .none },
  { cls := 6, slots := #[.null, .int 1, .int 0], vm := .none }]
def classes : Array Class := #[k0, k1, k2, k3, k4, k5, k6, k7, k8, k9]
def interned : List (Array UInt16 × Addr) := []
def slotsUsed : Nat := 9
def theMethod : MethodId := ⟨1, 3⟩
def args0 : Array Value := #[.int 5, .int 5]
def aboutOver (below : List Frame) : State where
  vm := { classes := classes, interned := interned.toArray }
  heap := heap
  slotsUsed := slotsUsed
  threads := #[{ frames := .invoking theMethod args0 :: below }]
def below0 : List Frame := [.native { method := ⟨0, 0⟩, args := #[] }]
def about1 : State := aboutOver below0
def p0 : Program := .bare "" "" ""
def e0 : Env := launch0.env 0 0 0
theorem w_frames : about1.frames = Frame.invoking theMethod args0 :: below0 := rfl
set_option maxRecDepth 65536 in
theorem w_args : argsFit about1.vm theMethod args0 = true := by decide +kernel
set_option maxRecDepth 65536 in
theorem w_heap : heapFits about1 = true := by decide +kernel
set_option maxRecDepth 65536 in
theorem w_runnable : about1.curStatus? = some .runnable := by decide +kernel
set_option maxRecDepth 65536 in
theorem w_alone : about1.alone = true := by decide +kernel
set_option maxRecDepth 65536 in
theorem w_named : about1.methodNamed? x = some theMethod := by decide +kernel
set_option maxRecDepth 65536 in
theorem w_hears : about1.hears theMethod below0 = true := by decide +kernel
set_option maxRecDepth 65536 in
theorem w_ripe : about1.ripe theMethod args0 below0 = true := by decide +kernel
theorem w_running : about1.status = .running := rfl
set_option maxRecDepth 65536 in
theorem w_room : about1.hasRoom e0.platform room_1 = true :=
  launch0.hasRoom_least _ room_1 (by decide +kernel) (by decide +kernel) (by decide +kernel) (by decide +kernel) (by decide +kernel) (by decide +kernel)
theorem allAtoms_all (ts : List Jvm.Cond) (a : Array Jvm.Value) (st : Jvm.State) : (allAtoms ts).before a st = ts.all (fun c => c.before a st) := by
  induction ts with
  | nil => rfl
  | cons c t ih =>
    show (Jvm.Cond.and c (allAtoms t)).before a st = _
    rw [Jvm.Cond.before_and, ih, List.all_cons]
def words1 : List Jvm.Cond := Jvm.Cond.code x code maxLocals ret :: tables_1
/-- a 'code' word, met by the world's own term for the bytes: nothing is compared byte by byte -/
theorem code_word {y : MethodName} {bytes : ByteArray} {mx : Nat} {rt : Option FieldType} {a : Array Value} {s : State} {m : MethodId} {meth : Method} {c : Code} (h1 : s.methodNamed? y = some m) (h2 : s.vm.method? m = some meth) (h3 : meth.code = some c) (h4 : c.code = bytes)
    (h5 : (c.maxLocals == mx && c.exceptionTable.isEmpty && decide (c.maxStack ≤ mostOperands) && decide (meth.sig.returnType = rt) && !meth.locks && decide (parseMethodDescriptor y.desc = some meth.sig)) = true) : (Jvm.Cond.code y bytes mx rt).before a s = true := by
  simp only [Bool.and_eq_true, beq_iff_eq, Bool.not_eq_true', decide_eq_true_eq] at h5
  obtain ⟨⟨⟨⟨⟨g1, g2⟩, g3⟩, g4⟩, g5⟩, g6⟩ := h5
  simp [Cond.before, Cond.holds, Cond.value, h1, h2, h3, h4, g1, g2, g3, g4, g5, g6]
def isCode : Jvm.Cond → Bool
  | .code _ _ _ _ => true
  | _ => false
theorem all_split {L : List Jvm.Cond} {P : Jvm.Cond → Bool} (h1 : L.all (fun c => isCode c || P c) = true) (h2 : ∀ c ∈ L.filter isCode, P c = true) : L.all P = true := by
  refine List.all_eq_true.mpr fun c hc => ?_
  have h := List.all_eq_true.mp h1 c hc
  rcases Bool.eq_false_or_eq_true (isCode c) with hi | hi
  · exact h2 c (List.mem_filter.mpr ⟨hc, hi⟩)
  · simpa [hi] using h
set_option maxRecDepth 65536 in
theorem w_c0 : (Jvm.Cond.code x code maxLocals ret).before args0 about1 = true := code_word (m := ⟨1, 3⟩) (meth := k1m3) (c := k1c3) (by decide +kernel) rfl rfl rfl (by decide +kernel)
set_option maxRecDepth 65536 in
theorem w_c1 : (Jvm.Cond.code ({ cls := "com/example/verlock/verlock/LockModeIsSharedWithPinLaw", name := "pick", desc := "(I)Lcom/example/verlock/verlock/LockMode;" } : Jvm.MethodName) method_2_code (1 : Nat) (Option.some (Jvm.ClassFile.FieldType.object "com/example/verlock/verlock/LockMode"))).before args0 about1 = true := code_word (m := ⟨1, 1⟩) (meth := k1m1) (c := k1c1) (by decide +kernel) rfl rfl rfl (by decide +kernel)
set_option maxRecDepth 65536 in
theorem w_c2 : (Jvm.Cond.code ({ cls := "com/example/verlock/verlock/LockMode", name := "isSharedWith", desc := "(Lcom/example/verlock/verlock/LockMode;)Z" } : Jvm.MethodName) prog_10_method_4_code (2 : Nat) (Option.some Jvm.ClassFile.FieldType.boolean)).before args0 about1 = true := code_word (m := ⟨6, 0⟩) (meth := k6m0) (c := k6c0) (by decide +kernel) rfl rfl rfl (by decide +kernel)
set_option maxRecDepth 65536 in
theorem w_c3 : (Jvm.Cond.code ({ cls := "com/example/verlock/verlock/LockModeIsSharedWithPinLaw", name := "expected", desc := "(II)Z" } : Jvm.MethodName) method_3_code (2 : Nat) (Option.some Jvm.ClassFile.FieldType.boolean)).before args0 about1 = true := code_word (m := ⟨1, 2⟩) (meth := k1m2) (c := k1c2) (by decide +kernel) rfl rfl rfl (by decide +kernel)
def codes1 : List Jvm.Cond := [Jvm.Cond.code x code maxLocals ret, Jvm.Cond.code ({ cls := "com/example/verlock/verlock/LockModeIsSharedWithPinLaw", name := "pick", desc := "(I)Lcom/example/verlock/verlock/LockMode;" } : Jvm.MethodName) method_2_code (1 : Nat) (Option.some (Jvm.ClassFile.FieldType.object "com/example/verlock/verlock/LockMode")), Jvm.Cond.code ({ cls := "com/example/verlock/verlock/LockMode", name := "isSharedWith", desc := "(Lcom/example/verlock/verlock/LockMode;)Z" } : Jvm.MethodName) prog_10_method_4_code (2 : Nat) (Option.some Jvm.ClassFile.FieldType.boolean), Jvm.Cond.code ({ cls := "com/example/verlock/verlock/LockModeIsSharedWithPinLaw", name := "expected", desc := "(II)Z" } : Jvm.MethodName) method_3_code (2 : Nat) (Option.some Jvm.ClassFile.FieldType.boolean)]
set_option maxRecDepth 65536 in
theorem codes_eq : words1.filter isCode = codes1 := rfl
theorem w_codes : ∀ c ∈ words1.filter isCode, c.before args0 about1 = true := by
  rw [codes_eq]
  intro c hc
  simp only [codes1, List.mem_cons, List.not_mem_nil, or_false] at hc
  rcases hc with rfl | rfl | rfl | rfl
  · exact w_c0
  · exact w_c1
  · exact w_c2
  · exact w_c3
set_option maxRecDepth 65536 in
theorem w_t1 : words1.all (fun c => isCode c || c.before args0 about1) = true := by decide +kernel
theorem w_tables : (allAtoms (Jvm.Cond.code x code maxLocals ret :: tables_1)).before args0 about1 = true := by
  rw [allAtoms_all]
  show words1.all (fun c => c.before args0 about1) = true
  refine all_split ?_ w_codes
  rw [w_t1]
set_option maxRecDepth 65536 in
theorem w_case : (Jvm.Cond.and given_1 narrow_1).before args0 about1 = true := by decide +kernel
theorem w_applies : (headSpec (Jvm.Cond.code x code maxLocals ret :: tables_1) room_1).applies x e0.platform about1 = true :=
  (Spec.applies_iff w_frames).mpr ⟨w_running, w_runnable, w_alone, w_named, w_hears, w_ripe, w_room, w_tables⟩
theorem atStart : AtStart classFile x code maxLocals ret World_1 tables_1 room_1 Calls_1 rest_1 Pre_1 launch0 p0 e0 about1 theMethod args0 below0 :=
  ⟨lists_1, trivial, launch0.admits_env _ _ _, launch0.least_env, fairChoices_fair.cas, fairChoices_fair.clock, w_frames, w_args, w_heap, w_applies, trivial, trivial, w_case⟩
end start1
theorem witness_1 : WitnessClaimed_1 := ⟨start1.p0, start1.e0, start1.about1, start1.theMethod, start1.args0, start1.below0, start1.atStart⟩
end Jvm.Pilot.@@N@@
