import JvmDerived
import JvmDerived.Pilot.@@N@@Statement
import JvmDerived.Pilot.@@N@@Code
set_option linter.unusedVariables false
set_option linter.unusedSimpArgs false
namespace Jvm.Pilot.@@N@@
open Jvm Jvm.ClassFile Sem Op Lib Jvm.Free Jvm.Stand Jvm.LawKit Jvm.RoadKit Bundle Jvm.Pilot.@@N@@.Jvm.D
/-- the walk from here on: it comes to an end that meets R -/
def Go (tb : Tables) (e : Env) (below : List Frame) (R : Outcome → State → Prop) (T : State) (g : JFrame) : Prop :=
  ∃ s₂ o, Steps tb e below (T.setTop g) s₂ ∧ s₂.status = .running ∧ Ended s₂ below o ∧ R o s₂
def RT (Q : Option Value → Heap → List Loc → Prop) (s : State) (C S : Nat) : Outcome → State → Prop :=
  fun o U' => ∃ v L, o = .returned v ∧ Q v U'.heap L ∧ FrameEnd s o U' L C S
theorem Go.step {tb : Tables} {e : Env} {below : List Frame} {R : Outcome → State → Prop} {T T' : State} {g g' : JFrame} (h : ∀ t, Steps tb e below (T'.setTop g') t → Steps tb e below (T.setTop g) t) (k : Go tb e below R T' g') : Go tb e below R T g := by
  obtain ⟨s₂, o, h1, h2⟩ := k
  exact ⟨s₂, o, h _ h1, h2⟩
theorem Go.tr {tb : Tables} {e : Env} {below : List Frame} {R : Outcome → State → Prop} {T T' : State} {g g' : JFrame} (h : Steps tb e below (T.setTop g) (T'.setTop g')) (k : Go tb e below R T' g') : Go tb e below R T g :=
  Go.step (fun _ q => h.trans q) k
theorem Go.enter {tb : Tables} {e : Env} {below : List Frame} {Q : Option Value → Heap → List Loc → Prop} {s : State} {C S : Nat} {T : State} {g g' : JFrame} (q : g = g') (k : Go tb e below (RT Q s C S) T g') :
    ∃ s₂ o, Steps tb e below (T.setTop g) s₂ ∧ s₂.status = .running ∧ Ended s₂ below o ∧ ∃ v L, o = .returned v ∧ Q v s₂.heap L ∧ FrameEnd s o s₂ L C S := by
  subst q
  exact k
section Ret
variable {p : Program} {l : Launch} {e : Env} {R : Room} {s : State} {m : MethodId} {args : Array Value} {below : List Frame} {meth : Method} {c : Code} {T : State} {locs : List Loc} {cells slots : Nat} {Q : Option Value → Heap → List Loc → Prop} {C S : Nat} {pc : Nat} {Ls : Array Slot} {rest : List Value}
theorem Go.fin (X : Stand p l e R s m args below meth c T locs cells slots) {v : Option Value} {g : JFrame} (hv : meth.sig.returnType = none → v = none) (hlk : meth.locks = false)
    (hst : ∀ fs, (∀ (f : JFrame) (acts : List Action), f.method = m → f.locked = none → f.entered = [] → (doReturn e (T.setTop f) acts v).1 = T.setFrames fs) → Steps p.tables e below (T.setTop g) (T.setFrames fs))
    (hQ : Q v T.heap locs) (hc : cells ≤ C) (hs : slots ≤ S) : Go p.tables e below (RT Q s C S) T g := by
  obtain ⟨fs, hr, hrun, hended, hW, hsame⟩ := X.leave hv hlk
  exact ⟨_, _, hst fs hr, hrun, hended, _, _, rfl, hQ, ⟨_, rfl⟩, hW, hsame.mono hc hs⟩
theorem Go.retN (X : Stand p l e R s m args below meth c T locs cells slots) (hx : p.tables.exec = Jvm.exec) {z z' : Int32} {t : FieldType} (hret : meth.sig.returnType = some t) (ht : t = .boolean ∨ t = .byte ∨ t = .char ∨ t = .short) (hd : decode c.code pc = .ok (.ireturn, 1)) (hlk : meth.locks = false) (hz : nar t z = z')
    (hQ : Q (some (.int z')) T.heap locs) (hc : cells ≤ C) (hs : slots ≤ S) : Go p.tables e below (RT Q s C S) T (mkF m pc Ls (.int z :: rest)) := by
  subst hz
  exact Go.fin X (fun h => by rw [hret] at h; cases h) hlk (fun fs hr => Jvm.RoadKit.retN X hx hret ht hd hr) hQ hc hs
theorem Go.retI (X : Stand p l e R s m args below meth c T locs cells slots) (hx : p.tables.exec = Jvm.exec) {z : Int32} (hret : meth.sig.returnType = some .int) (hd : decode c.code pc = .ok (.ireturn, 1)) (hlk : meth.locks = false)
    (hQ : Q (some (.int z)) T.heap locs) (hc : cells ≤ C) (hs : slots ≤ S) : Go p.tables e below (RT Q s C S) T (mkF m pc Ls (.int z :: rest)) := by
  refine Go.fin X (fun h => by rw [hret] at h; cases h) hlk (fun fs hr => ?_) hQ hc hs
  have hm' : T.vm.method? m = some meth := X.method'
  have hn : narrow .int (.int z) = .int z := rfl
  show Steps p.tables e below (T.setTop { method := m, pc := pc, locals := Ls, stack := _ :: rest, locked := none }) _
  jvm_step X.here [X.here.top, hx, hd, hm', hret, hn]
  first | (intro acts; rw [hr _ acts rfl rfl rfl]) | rw [hr _ _ rfl rfl rfl]
  exact Steps.refl _
theorem Go.retJ (X : Stand p l e R s m args below meth c T locs cells slots) (hx : p.tables.exec = Jvm.exec) {z : Int64} (hret : meth.sig.returnType = some .long) (hd : decode c.code pc = .ok (.lreturn, 1)) (hlk : meth.locks = false)
    (hQ : Q (some (.long z)) T.heap locs) (hc : cells ≤ C) (hs : slots ≤ S) : Go p.tables e below (RT Q s C S) T (mkF m pc Ls (.long z :: rest)) := by
  refine Go.fin X (fun h => by rw [hret] at h; cases h) hlk (fun fs hr => ?_) hQ hc hs
  have hm' : T.vm.method? m = some meth := X.method'
  show Steps p.tables e below (T.setTop { method := m, pc := pc, locals := Ls, stack := _ :: rest, locked := none }) _
  jvm_step X.here [X.here.top, hx, hd, hm', hret, narrow]
  first | (intro acts; rw [hr _ acts rfl rfl rfl]) | rw [hr _ _ rfl rfl rfl]
  exact Steps.refl _
theorem Go.retA (X : Stand p l e R s m args below meth c T locs cells slots) (hx : p.tables.exec = Jvm.exec) {z : Value} {t : FieldType} (hret : meth.sig.returnType = some t) (ht : t.isReference = true) (hd : decode c.code pc = .ok (.areturn, 1)) (hz : z.isRef = true) (hlk : meth.locks = false)
    (hQ : Q (some z) T.heap locs) (hc : cells ≤ C) (hs : slots ≤ S) : Go p.tables e below (RT Q s C S) T (mkF m pc Ls (z :: rest)) := by
  refine Go.fin X (fun h => by rw [hret] at h; cases h) hlk (fun fs hr => ?_) hQ hc hs
  have hm' : T.vm.method? m = some meth := X.method'
  show Steps p.tables e below (T.setTop { method := m, pc := pc, locals := Ls, stack := _ :: rest, locked := none }) _
  jvm_step X.here [X.here.top, hx, hd, hm', hret, hz, ht]
  first | (intro acts; rw [hr _ acts rfl rfl rfl]) | rw [hr _ _ rfl rfl rfl]
  exact Steps.refl _
theorem Go.retV (X : Stand p l e R s m args below meth c T locs cells slots) (hx : p.tables.exec = Jvm.exec) (hret : meth.sig.returnType = none) (hd : decode c.code pc = .ok (.return_, 1)) (hlk : meth.locks = false)
    (hQ : Q none T.heap locs) (hc : cells ≤ C) (hs : slots ≤ S) : Go p.tables e below (RT Q s C S) T (mkF m pc Ls []) :=
  Go.fin X (fun _ => rfl) hlk (fun fs hr => X.returnOut hx hret hd hr) hQ hc hs
end Ret
theorem own_and_nonneg (a : Int32) : 0 ≤ (a &&& 2147483647).toInt := by
  have h : (a &&& 2147483647).toBitVec.msb = false := by
    rw [Int32.toBitVec_and, BitVec.msb_and]
    have : (2147483647 : Int32).toBitVec.msb = false := by decide
    rw [this, Bool.and_false]
  show 0 ≤ (a &&& 2147483647).toBitVec.toInt
  rw [BitVec.toInt_eq_msb_cond, h]
  simp
theorem own_mod (a n : Int32) (hn : 0 < n.toInt) : 0 ≤ ((a &&& 2147483647) % n).toInt ∧ ((a &&& 2147483647) % n).toInt < n.toInt := by
  rw [Int32.toInt_mod]
  have h := own_and_nonneg a
  exact ⟨Int.tmod_nonneg _ h, by have := Int.tmod_lt_of_pos (a &&& 2147483647).toInt hn; exact this⟩
theorem own_char (x : Int32) : 0 ≤ (x.toUInt32.toUInt16.toUInt32.toInt32).toInt ∧ (x.toUInt32.toUInt16.toUInt32.toInt32).toInt < 65536 := by
  generalize x.toUInt32.toUInt16 = u
  have h : u.toNat < 65536 := u.toNat_lt
  have : (u.toUInt32.toInt32).toInt = (u.toNat : Int) := by
    show (u.toUInt32.toBitVec).toInt = _
    rw [BitVec.toInt_eq_toNat_of_lt]
    · simp
    · simp; omega
  omega
theorem own_lrem (x y : Int64) : x - x / y * y = x % y := by
  apply Int64.toInt_inj.mp
  rw [Int64.toInt_sub, Int64.toInt_mul, Int64.toInt_div, Int64.toInt_mod, Int.tmod_def, Int.mul_comm y.toInt]
  have hb := Int.bmod_emod (x := x.toInt.tdiv y.toInt) (m := 2 ^ 64)
  rw [Int.sub_bmod_bmod]
  have e : (x.toInt - (x.toInt.tdiv y.toInt).bmod (2 ^ 64) * y.toInt).bmod (2 ^ 64) = (x.toInt - x.toInt.tdiv y.toInt * y.toInt).bmod (2 ^ 64) := by
    rw [← Int.sub_bmod_bmod, Int.bmod_mul_bmod, Int.sub_bmod_bmod]
  rw [e]
  have h := Int64.toInt_mod x y
  have h2 := (x % y).le_toInt
  have h3 := (x % y).toInt_lt
  rw [h, Int.tmod_def, Int.mul_comm y.toInt] at h2 h3
  apply Int.bmod_eq_of_le
  · simpa using h2
  · simpa using h3
theorem own_lremM {p : Program} {l : Launch} {e : Env} {R : Room} {s : State} {m : MethodId} {args : Array Value} {below : List Frame} {meth : Method} {c : Code} {T : State} {locs : List Loc} {cells slots : Nat} {g : JFrame} {target : State} (X : Stand p l e R s m args below meth c T locs cells slots) (hx : p.tables.exec = Jvm.exec) (hg : g.method = m) {x y : Int64} {rest : List Value} (hd : decode c.code g.pc = .ok (.lrem, 1)) (hs : g.stack = .long y :: .long x :: rest) (hy : y ≠ 0)
    (hr : Steps p.tables e below (T.setTop { g with pc := g.pc + 1, stack := .long (x % y) :: rest }) target) : Steps p.tables e below (T.setTop g) target := by
  have q := own_lrem x y
  exact XS.lrem X.here hx hg hd hs hy (by rw [q]; exact hr)
theorem own_selp {s : State} {args : Array Value} {C : String} {y z : MethodName} (hsel : (Cond.selects C z z).before args s = true) (hz : z.cls = y.cls) (hinst : (Cond.instanceMethod y).before args s = true) (hpriv : s.PrivateAt y) (hy : y.cls ≠ "java/lang/invoke/MethodHandle" ∧ y.cls ≠ "java/lang/invoke/VarHandle") : (Cond.selects y.cls y y).before args s = true := by
  obtain ⟨c, r, m, -, -, h3, -, k, h5, h6⟩ := Cond.selects_spec hsel
  exact selects_self_of_private (hz ▸ findClass_of_methodNamed h3) h5 h6 hpriv hinst hy
theorem own_eqi {t : Term} {k : Int32} {args : Array Value} {first : State} {o : Option Outcome} {s : State} {idx : List Nat} (h : (Cond.eq t (.int k)).value args first o s idx = some true) : t.eval args first o idx s = some (.int k) := by
  cases ht : t.eval args first o idx s with
  | none => simp [Cond.value, ht] at h
  | some x => cases x <;> simp [Cond.value, Term.eval, ht] at h ⊢; exact h
theorem own_eqr {t u : Term} {b : Addr} {args : Array Value} {first : State} {o : Option Outcome} {s : State} {idx : List Nat} (h : (Cond.eq t u).value args first o s idx = some true) (hu : u.eval args first o idx s = some (.ref b)) : t.eval args first o idx s = some (.ref b) := by
  cases ht : t.eval args first o idx s with
  | none => simp [Cond.value, ht] at h
  | some x => cases x <;> simp [Cond.value, ht, hu] at h ⊢; exact h
/-- what the case says of the statics -/
def Wd (Z : State) (w : Nat → Addr) : Prop := Sta Z Z.heap "com/example/verlock/verlock/LockMode" "READ" "Lcom/example/verlock/verlock/LockMode;" (.ref (w 0)) ∧ Exa Z Z.heap (w 0) "com/example/verlock/verlock/LockMode" ∧ Sta Z Z.heap "com/example/verlock/verlock/LockMode" "WRITE" "Lcom/example/verlock/verlock/LockMode;" (.ref (w 1)) ∧ Exa Z Z.heap (w 1) "com/example/verlock/verlock/LockMode"
theorem wd0 {Z : State} {w : Nat → Addr} (wd : Wd Z w) : Sta Z Z.heap "com/example/verlock/verlock/LockMode" "READ" "Lcom/example/verlock/verlock/LockMode;" (.ref (w 0)) := wd.1
theorem wd1 {Z : State} {w : Nat → Addr} (wd : Wd Z w) : Exa Z Z.heap (w 0) "com/example/verlock/verlock/LockMode" := wd.2.1
theorem wd2 {Z : State} {w : Nat → Addr} (wd : Wd Z w) : Sta Z Z.heap "com/example/verlock/verlock/LockMode" "WRITE" "Lcom/example/verlock/verlock/LockMode;" (.ref (w 1)) := wd.2.2.1
theorem wd3 {Z : State} {w : Nat → Addr} (wd : Wd Z w) : Exa Z Z.heap (w 1) "com/example/verlock/verlock/LockMode" := wd.2.2.2
theorem d1_0 : decode prog_5_method_8_code 0 = .ok (.aload_n 0, 1) := by decide +kernel
theorem d1_1 : decode prog_5_method_8_code 1 = .ok (.ifnonnull 13, 3) := by decide +kernel
theorem d1_14 : decode prog_5_method_8_code 14 = .ok (.aload_n 0, 1) := by decide +kernel
theorem d1_15 : decode prog_5_method_8_code 15 = .ok (.areturn, 1) := by decide +kernel
theorem own_pn0 : plainName "com/example/verlock/verlock/LockArguments" = true := by first | (simp [plainName, overriddenIn]; done) | decide +kernel
theorem ef_rm1 (m : MethodId) (x0 : Addr) : entryFrame m #[(.ref x0)] 1 = mkF m 0 #[.val (.ref x0)] [] := by first | (simp [entryFrame, mkF, argsToLocals, Value.category]; done) | rfl
def Q_rm1 (Z : State) (a0r : Addr) (h0 : Heap) (n0 : Nat) (v : Option Value) (h : Heap) (L : List Loc) : Prop := v = some (.ref a0r) ∧ Fr n0 L ∧ h = h0
set_option maxRecDepth 65536 in
set_option maxHeartbeats 40000000 in
theorem rm1 (l : Launch) (Z : State) (a0 : Array Value) (hw : ∀ d ∈ tables_1, d.before a0 Z = true) (ws : List Jvm.Cond) (a0r : Addr) (h0 : Heap) (n0 : Nat) (Z0 : n0 ≤ h0.size) :
    MetFree l (⟨"com/example/verlock/verlock/LockArguments", "requireMode", "(Lcom/example/verlock/verlock/LockMode;)Lcom/example/verlock/verlock/LockMode;"⟩ : MethodName) (head1 (Jvm.Cond.code (⟨"com/example/verlock/verlock/LockArguments", "requireMode", "(Lcom/example/verlock/verlock/LockMode;)Lcom/example/verlock/verlock/LockMode;"⟩ : MethodName) prog_5_method_8_code 1 (some (.object "com/example/verlock/verlock/LockMode")) :: ws) ({ frames := 0, cells := 0, slots := 0, locals := 0 } : Room)) (fun az Uz => az = #[(.ref a0r)] ∧ Z.Warmed39 Uz.vm ∧ Uz.heap = h0) (fun _ _ _ _ _ => True) (fun _ Uz oz Vz => ∃ vz Lz, oz = .returned vz ∧ Q_rm1 Z a0r h0 n0 vz Vz.heap Lz ∧ FrameEnd Uz oz Vz Lz ({ frames := 0, cells := 0, slots := 0, locals := 0 } : Room).cells ({ frames := 0, cells := 0, slots := 0, locals := 0 } : Room).slots) := by
  refine MetFree.of_bodySF (plainFor_of_name own_pn0) hisR ?_
  intro p e s m args below meth c s₁ Bd hml0 hP hK
  obtain ⟨rfl, hZ, hh⟩ := hP
  have hx := Bd.exec
  have hby := Bd.bytes
  have hml : c.maxLocals = 1 := hml0
  have hown : s.vm.findClass "com/example/verlock/verlock/LockArguments" = some m.cls := findClass_of_methodNamed Bd.named
  have hnm := (name_of_methodNamed Bd.named Bd.method).1
  have X0 : Stand p l e ({ frames := 0, cells := 0, slots := 0, locals := 0 } : Room) s m #[(.ref a0r)] below meth c s₁ [] 0 0 := Stand.of_body Bd
  have e0 : s₁.heap = h0 := by rw [← hh, Bd.state]; rfl
  have N0 := Fr.nil n0
  have K0 : Keep h0 h0 [] := Keep.refl _ _
  refine Go.enter (Q := Q_rm1 Z a0r h0 n0) (C := ({ frames := 0, cells := 0, slots := 0, locals := 0 } : Room).cells) (S := ({ frames := 0, cells := 0, slots := 0, locals := 0 } : Room).slots) (ef_rm1 m a0r) ?_
  refine Go.step (fun _ zz => XS.aloadN X0.here hx rfl (hb hby d1_0) rfl rfl zz) ?_
  show Go _ _ _ _ s₁ (mkF m 1 #[.val (.ref a0r)] [(.ref a0r)])
  refine Go.step (fun _ zz => XS.ifnonnullYes X0.here hx rfl (pc0 := 1) (pc' := 14) rfl (hb hby d1_1) rfl (by decide) (by decide) zz) ?_
  show Go _ _ _ _ s₁ (mkF m 14 #[.val (.ref a0r)] [])
  refine Go.step (fun _ zz => XS.aloadN X0.here hx rfl (hb hby d1_14) rfl rfl zz) ?_
  show Go _ _ _ _ s₁ (mkF m 15 #[.val (.ref a0r)] [(.ref a0r)])
  exact Go.retA X0 hx Bd.returns rfl (hb hby d1_15) rfl Bd.notSynchronized (⟨rfl, N0, e0⟩) (by decide) (by decide)
theorem own_pd1 : parseMethodDescriptor "(Lcom/example/verlock/verlock/LockMode;)Lcom/example/verlock/verlock/LockMode;" = some ⟨[(.object "com/example/verlock/verlock/LockMode")], some (.object "com/example/verlock/verlock/LockMode")⟩ := by decide +kernel
theorem own_pn2 : plainName "com/example/verlock/verlock/LockArgumentsRequireModePinLaw" = true := by first | (simp [plainName, overriddenIn]; done) | decide +kernel
theorem ef_rm0 (m : MethodId) (x0 : Int32) : entryFrame m #[(.int x0)] maxLocals = mkF m 0 #[.val (.int x0), .unset, .unset] [] := by first | (simp [entryFrame, mkF, argsToLocals, Value.category, maxLocals]; done) | rfl
def Q_rm0 (Z : State) (p0 : Int32) (w : Nat → Addr) (h0 : Heap) (n0 : Nat) (v : Option Value) (h : Heap) (L : List Loc) : Prop := v = some (.int (1 : Int32)) ∧ Fr n0 L
set_option maxRecDepth 65536 in
set_option maxHeartbeats 40000000 in
theorem rm0 (l : Launch) (Z : State) (a0 : Array Value) (hw : ∀ d ∈ tables_1, d.before a0 Z = true) (ws : List Jvm.Cond) (p0 : Int32) (w : Nat → Addr) (h0 : Heap) (n0 : Nat) (Z0 : n0 ≤ h0.size) (O0 : Old Z n0 h0) (wd : Wd Z w) :
    MetFree l x (head1 (Jvm.Cond.code x code maxLocals ret :: ws) room_1) (fun az Uz => az = #[(.int p0)] ∧ Z.Warmed39 Uz.vm ∧ Uz.heap = h0) (fun _ _ _ _ _ => True) (fun _ Uz oz Vz => ∃ vz Lz, oz = .returned vz ∧ Q_rm0 Z p0 w h0 n0 vz Vz.heap Lz ∧ FrameEnd Uz oz Vz Lz room_1.cells room_1.slots) := by
  refine MetFree.of_bodySF (plainFor_of_name own_pn2) hisR ?_
  intro p e s m args below meth c s₁ Bd hml0 hP hK
  obtain ⟨rfl, hZ, hh⟩ := hP
  have hx := Bd.exec
  have hby := Bd.bytes
  have hml : c.maxLocals = 3 := hml0
  have hown : s.vm.findClass "com/example/verlock/verlock/LockArgumentsRequireModePinLaw" = some m.cls := findClass_of_methodNamed Bd.named
  have hnm := (name_of_methodNamed Bd.named Bd.method).1
  have X0 : Stand p l e room_1 s m #[(.int p0)] below meth c s₁ [] 0 0 := Stand.of_body Bd
  have e0 : s₁.heap = h0 := by rw [← hh, Bd.state]; rfl
  have N0 := Fr.nil n0
  have K0 : Keep h0 h0 [] := Keep.refl _ _
  refine Go.enter (Q := Q_rm0 Z p0 w h0 n0) (C := room_1.cells) (S := room_1.slots) (ef_rm0 m p0) ?_
  refine Go.step (fun _ zz => XS.iloadN X0.here hx rfl (hb hby at_0) rfl zz) ?_
  show Go _ _ _ _ s₁ (mkF m 1 #[.val (.int p0), .unset, .unset] [(.int p0)])
  refine Go.step (fun _ zz => XS.iconst X0.here hx rfl (hb hby at_1) zz) ?_
  show Go _ _ _ _ s₁ (mkF m 2 #[.val (.int p0), .unset, .unset] [(.int (1 : Int32)), (.int p0)])
  refine Go.step (fun _ zz => XS.iand X0.here hx rfl (hb hby at_2) rfl zz) ?_
  show Go _ _ _ _ s₁ (mkF m 3 #[.val (.int p0), .unset, .unset] [(.int (p0 &&& (1 : Int32)))])
  by_cases hc3 : (p0 &&& (1 : Int32)) = (0 : Int32)
  · refine Go.step (fun _ zz => XS.ifNo X0.here hx rfl (hb hby at_3) rfl ((if0 _ _).trans (teq hc3).2) zz) ?_
    show Go _ _ _ _ s₁ (mkF m 6 #[.val (.int p0), .unset, .unset] [])
    obtain ⟨T1, X1, e1, st1⟩ := getS2 X0 hx hZ hown (host := "") (Or.inl (hw _ (List.mem_of_getElem? (i := 0) rfl))) Via.refl e0 ((wd0 wd).ext O0.2) (g := (mkF m 6 #[.val (.int p0), .unset, .unset] [])) rfl (hb hby at_6)
    refine Go.step st1 ?_
    show Go _ _ _ _ T1 (mkF m 9 #[.val (.int p0), .unset, .unset] [(.ref (w 0))])
    refine Go.step (fun _ zz => XS.goto X1.here hx rfl (pc0 := 9) (pc' := 15) rfl (hb hby at_9) (by decide) (by decide) zz) ?_
    show Go _ _ _ _ T1 (mkF m 15 #[.val (.int p0), .unset, .unset] [(.ref (w 0))])
    refine Go.step (fun _ zz => XS.astoreN X1.here hx rfl (hb hby at_15) rfl rfl (l' := #[.val (.int p0), .val (.ref (w 0)), .unset]) rfl zz) ?_
    show Go _ _ _ _ T1 (mkF m 16 #[.val (.int p0), .val (.ref (w 0)), .unset] [])
    refine Go.step (fun _ zz => XS.aloadN X1.here hx rfl (hb hby at_16) rfl rfl zz) ?_
    show Go _ _ _ _ T1 (mkF m 17 #[.val (.int p0), .val (.ref (w 0)), .unset] [(.ref (w 0))])
    obtain ⟨_, _, ⟨T2, L2, k2, n2⟩, -, X2, ⟨Lc2, hQ2, l2, y2, z2⟩, st2⟩ := Jvm.LawKit.callS X1 hx (y := (⟨"com/example/verlock/verlock/LockArguments", "requireMode", "(Lcom/example/verlock/verlock/LockMode;)Lcom/example/verlock/verlock/LockMode;"⟩ : MethodName)) hown (mvT hZ (hw _ (List.mem_of_getElem? (i := 3) rfl))) (mvT hZ (hw _ (List.mem_of_getElem? (i := 4) rfl))) (mvT hZ (hw _ (List.mem_of_getElem? (i := 5) rfl))) (mvT hZ (hw _ (List.mem_of_getElem? (i := 6) rfl))) (by decide) (backOf (W := 0) (rm1 l Z a0 hw [] (w 0) h0 n0 Z0) hZ (hw _ (List.mem_of_getElem? (i := 6) rfl)) (hw _ (List.mem_of_getElem? (i := 5) rfl)) (by decide) (by decide)) (g := (mkF m 17 #[.val (.int p0), .val (.ref (w 0)), .unset] [(.ref (w 0))])) rfl (by rw [hml]; rfl) (argsL := [(.ref (w 0))]) (rest := []) (lenOf own_pd1 rfl) rfl (by show 2 * 0 + _ ≤ _; exact Nat.le_of_eq rfl) (hb hby at_17) (fun _ _ => ⟨rfl, e1, (by decide : 0 + 0 ≤ _), (by decide : 0 + 0 ≤ _)⟩)
    dsimp only [Pt.U, Pt.locs, Pt.cells, Pt.slots] at X2 l2 y2 z2 st2 hQ2
    subst l2 y2 z2
    obtain ⟨rfl, N2q, e2⟩ := hQ2
    have N2 := Fr.app N0 N2q
    refine Go.step st2 ?_
    show Go _ _ _ _ T2 (mkF m 20 #[.val (.int p0), .val (.ref (w 0)), .unset] [(.ref (w 0))])
    refine Go.step (fun _ zz => XS.astoreN X2.here hx rfl (hb hby at_20) rfl rfl (l' := #[.val (.int p0), .val (.ref (w 0)), .val (.ref (w 0))]) rfl zz) ?_
    show Go _ _ _ _ T2 (mkF m 21 #[.val (.int p0), .val (.ref (w 0)), .val (.ref (w 0))] [])
    refine Go.step (fun _ zz => XS.aloadN X2.here hx rfl (hb hby at_21) rfl rfl zz) ?_
    show Go _ _ _ _ T2 (mkF m 22 #[.val (.int p0), .val (.ref (w 0)), .val (.ref (w 0))] [(.ref (w 0))])
    refine Go.step (fun _ zz => XS.aloadN X2.here hx rfl (hb hby at_22) rfl rfl zz) ?_
    show Go _ _ _ _ T2 (mkF m 23 #[.val (.int p0), .val (.ref (w 0)), .val (.ref (w 0))] [(.ref (w 0)), (.ref (w 0))])
    refine Go.step (fun _ zz => Jvm.RoadKit.acmp (g := (mkF m 23 #[.val (.int p0), .val (.ref (w 0)), .val (.ref (w 0))] [(.ref (w 0)), (.ref (w 0))])) X2 hx rfl rfl rfl (pc0 := 23) (pc' := 26) (same := true) rfl (hb hby at_23) rfl (decide_eq_true rfl) (by decide) (by decide) zz) ?_
    show Go _ _ _ _ T2 (mkF m 26 #[.val (.int p0), .val (.ref (w 0)), .val (.ref (w 0))] [])
    refine Go.step (fun _ zz => XS.iconst X2.here hx rfl (hb hby at_26) zz) ?_
    show Go _ _ _ _ T2 (mkF m 27 #[.val (.int p0), .val (.ref (w 0)), .val (.ref (w 0))] [(.int (1 : Int32))])
    refine Go.step (fun _ zz => XS.goto X2.here hx rfl (pc0 := 27) (pc' := 31) rfl (hb hby at_27) (by decide) (by decide) zz) ?_
    show Go _ _ _ _ T2 (mkF m 31 #[.val (.int p0), .val (.ref (w 0)), .val (.ref (w 0))] [(.int (1 : Int32))])
    exact Go.retN X2 hx (t := .boolean) Bd.returns (by simp) (hb hby at_31) Bd.notSynchronized (z' := (1 : Int32)) (by decide) (⟨rfl, N2⟩) (by decide) (by decide)
  · refine Go.step (fun _ zz => XS.ifYes X0.here hx rfl (pc0 := 3) (pc' := 12) rfl (hb hby at_3) rfl ((if0 _ _).trans (feq hc3).2) (by decide) (by decide) zz) ?_
    show Go _ _ _ _ s₁ (mkF m 12 #[.val (.int p0), .unset, .unset] [])
    obtain ⟨T3, X3, e3, st3⟩ := getS2 X0 hx hZ hown (host := "") (Or.inl (hw _ (List.mem_of_getElem? (i := 7) rfl))) Via.refl e0 ((wd2 wd).ext O0.2) (g := (mkF m 12 #[.val (.int p0), .unset, .unset] [])) rfl (hb hby at_12)
    refine Go.step st3 ?_
    show Go _ _ _ _ T3 (mkF m 15 #[.val (.int p0), .unset, .unset] [(.ref (w 1))])
    refine Go.step (fun _ zz => XS.astoreN X3.here hx rfl (hb hby at_15) rfl rfl (l' := #[.val (.int p0), .val (.ref (w 1)), .unset]) rfl zz) ?_
    show Go _ _ _ _ T3 (mkF m 16 #[.val (.int p0), .val (.ref (w 1)), .unset] [])
    refine Go.step (fun _ zz => XS.aloadN X3.here hx rfl (hb hby at_16) rfl rfl zz) ?_
    show Go _ _ _ _ T3 (mkF m 17 #[.val (.int p0), .val (.ref (w 1)), .unset] [(.ref (w 1))])
    obtain ⟨_, _, ⟨T4, L4, k4, n4⟩, -, X4, ⟨Lc4, hQ4, l4, y4, z4⟩, st4⟩ := Jvm.LawKit.callS X3 hx (y := (⟨"com/example/verlock/verlock/LockArguments", "requireMode", "(Lcom/example/verlock/verlock/LockMode;)Lcom/example/verlock/verlock/LockMode;"⟩ : MethodName)) hown (mvT hZ (hw _ (List.mem_of_getElem? (i := 3) rfl))) (mvT hZ (hw _ (List.mem_of_getElem? (i := 4) rfl))) (mvT hZ (hw _ (List.mem_of_getElem? (i := 5) rfl))) (mvT hZ (hw _ (List.mem_of_getElem? (i := 6) rfl))) (by decide) (backOf (W := 0) (rm1 l Z a0 hw [] (w 1) h0 n0 Z0) hZ (hw _ (List.mem_of_getElem? (i := 6) rfl)) (hw _ (List.mem_of_getElem? (i := 5) rfl)) (by decide) (by decide)) (g := (mkF m 17 #[.val (.int p0), .val (.ref (w 1)), .unset] [(.ref (w 1))])) rfl (by rw [hml]; rfl) (argsL := [(.ref (w 1))]) (rest := []) (lenOf own_pd1 rfl) rfl (by show 2 * 0 + _ ≤ _; exact Nat.le_of_eq rfl) (hb hby at_17) (fun _ _ => ⟨rfl, e3, (by decide : 0 + 0 ≤ _), (by decide : 0 + 0 ≤ _)⟩)
    dsimp only [Pt.U, Pt.locs, Pt.cells, Pt.slots] at X4 l4 y4 z4 st4 hQ4
    subst l4 y4 z4
    obtain ⟨rfl, N4q, e4⟩ := hQ4
    have N4 := Fr.app N0 N4q
    refine Go.step st4 ?_
    show Go _ _ _ _ T4 (mkF m 20 #[.val (.int p0), .val (.ref (w 1)), .unset] [(.ref (w 1))])
    refine Go.step (fun _ zz => XS.astoreN X4.here hx rfl (hb hby at_20) rfl rfl (l' := #[.val (.int p0), .val (.ref (w 1)), .val (.ref (w 1))]) rfl zz) ?_
    show Go _ _ _ _ T4 (mkF m 21 #[.val (.int p0), .val (.ref (w 1)), .val (.ref (w 1))] [])
    refine Go.step (fun _ zz => XS.aloadN X4.here hx rfl (hb hby at_21) rfl rfl zz) ?_
    show Go _ _ _ _ T4 (mkF m 22 #[.val (.int p0), .val (.ref (w 1)), .val (.ref (w 1))] [(.ref (w 1))])
    refine Go.step (fun _ zz => XS.aloadN X4.here hx rfl (hb hby at_22) rfl rfl zz) ?_
    show Go _ _ _ _ T4 (mkF m 23 #[.val (.int p0), .val (.ref (w 1)), .val (.ref (w 1))] [(.ref (w 1)), (.ref (w 1))])
    refine Go.step (fun _ zz => Jvm.RoadKit.acmp (g := (mkF m 23 #[.val (.int p0), .val (.ref (w 1)), .val (.ref (w 1))] [(.ref (w 1)), (.ref (w 1))])) X4 hx rfl rfl rfl (pc0 := 23) (pc' := 26) (same := true) rfl (hb hby at_23) rfl (decide_eq_true rfl) (by decide) (by decide) zz) ?_
    show Go _ _ _ _ T4 (mkF m 26 #[.val (.int p0), .val (.ref (w 1)), .val (.ref (w 1))] [])
    refine Go.step (fun _ zz => XS.iconst X4.here hx rfl (hb hby at_26) zz) ?_
    show Go _ _ _ _ T4 (mkF m 27 #[.val (.int p0), .val (.ref (w 1)), .val (.ref (w 1))] [(.int (1 : Int32))])
    refine Go.step (fun _ zz => XS.goto X4.here hx rfl (pc0 := 27) (pc' := 31) rfl (hb hby at_27) (by decide) (by decide) zz) ?_
    show Go _ _ _ _ T4 (mkF m 31 #[.val (.int p0), .val (.ref (w 1)), .val (.ref (w 1))] [(.int (1 : Int32))])
    exact Go.retN X4 hx (t := .boolean) Bd.returns (by simp) (hb hby at_31) Bd.notSynchronized (z' := (1 : Int32)) (by decide) (⟨rfl, N4⟩) (by decide) (by decide)
set_option maxRecDepth 65536 in
set_option maxHeartbeats 40000000 in
theorem comes_1 {Post : Tables → Env → Array Value → State → Outcome → State → Prop} (hpost : ∀ tb e args s v u, (limb_1_1.after args s (.returned v) u = true ∧ limb_1_2.after args s (.returned v) u = true ∧ True) → FrameEnd s (.returned v) u (Jvm.fieldLocs frame_1_writes args s ++ Jvm.arrayLocs frame_1_arrays args s ++ Jvm.staticLocs frame_1_statics s) 0 0 → Post tb e args s (.returned v) u) :
    ArmFor flags0 classFile x code maxLocals ret World_1 tables_1 room_1 Calls_1 rest_1 Pre_1 Post := by
  intro l hfl _ _ p e ha hc hk s m args below hf hA hF happ hP
  obtain ⟨hcalls, hrest, hpre⟩ := hP
  obtain ⟨-, -, -, hnamed, -, -, -, hat⟩ := (Spec.applies_iff hf).mp happ
  obtain ⟨hg, hn⟩ := and_e (Cond.before_iff.mp (show (Jvm.Cond.and given_1 narrow_1).before args s = true from hpre))
  obtain ⟨hg_a, hg_b⟩ := and_e hg
  obtain ⟨u0, rfl⟩ : ∃ u0 : Value, args = #[u0] := by
    have hs : args.size = 1 := by simpa [Cond.value, given_1] using hg_a
    obtain ⟨L⟩ := args
    match L, hs with
    | [u0], _ => exact ⟨u0, rfl⟩
  have hw := fun d (hd : d ∈ tables_1) => atoms_spec (ws := Jvm.Cond.code x code maxLocals ret :: tables_1) hat d (List.mem_cons_of_mem _ hd)
  have hfit : Fit s := fun {y c} hc i hi => by
    obtain ⟨ha, rfl⟩ := Array.getElem?_eq_some_iff.mp hc
    have q := List.all_eq_true.mp ((Array.all_eq_true_iff_forall_mem.mp hF) _ (Array.getElem_mem ha)) i (List.mem_range.mpr hi)
    simpa [Array.getElem?_eq_getElem hi] using q
  obtain ⟨i0, ei0⟩ := is_v hg_b
  obtain rfl : u0 = (.int i0) := Option.some.inj ei0
  obtain ⟨hn_a, hn_b⟩ := and_e hn
  obtain ⟨w0, ev0⟩ := exa_v hn_a
  obtain ⟨w1, ev1⟩ := exa_v hn_b
  have wd : Wd s (fun i => ([w0, w1] : List Addr).getD i 0) := ⟨Sta.start ev0 (Or.inr ⟨(hw _ (List.mem_of_getElem? (i := 1) rfl)), (hw _ (List.mem_of_getElem? (i := 2) rfl))⟩), Exa.start ev0 hn_a, Sta.start ev1 (Or.inr ⟨(hw _ (List.mem_of_getElem? (i := 1) rfl)), (hw _ (List.mem_of_getElem? (i := 8) rfl))⟩), Exa.start ev1 hn_b⟩
  obtain ⟨n, o, h1, h2, h3, _, L, rfl, ⟨rfl, N⟩, hq⟩ := rm0 l s _ hw tables_1 i0 (fun i => ([w0, w1] : List Addr).getD i 0) s.heap s.heap.size (Nat.le_refl _) (Old.start s) wd p e ha hc hk s m _ below hf ((Spec.applies_iff_loose hf).mp happ).1 ⟨rfl, State.Warmed39.refl s, rfl⟩ trivial
  refine ⟨n, _, h1, h2, h3, hpost _ _ _ _ _ _ ⟨Cond.after_iff.mpr rfl, Cond.after_iff.mpr (eq_i res_at (Term.int_eval (1)) rfl), trivial⟩ ⟨hq.1, hq.2.1, (hq.2.2.sift fun y hy => Or.inr (N y hy)).mono (by decide) (by decide)⟩⟩
theorem main_1_1 : Claimed_1_1 := comes_1 fun _ _ _ _ _ _ h hF => ⟨h.1, hF⟩
theorem main_1_2 : Claimed_1_2 := comes_1 fun _ _ _ _ _ _ h hF => ⟨h.2.1, hF⟩
end Jvm.Pilot.@@N@@
namespace Jvm.Pilot.@@N@@
open Jvm Jvm.ClassFile Sem Op Lib Jvm.Free Jvm.Stand Jvm.Pilot.@@N@@.Jvm.D
/-! MADE BY PROGRAM (witnessworld.py) out of the Statement's table words and the real class files: 11 classes; the members and pool entries that the words name. The judged class is class 1, her method 1. -/
namespace start1
open Jvm.ClassFile
def u (s : String) : CpInfo := .utf8 (stringToUtf16 s)
/-- a pool by its gaps: so many unusable entries, then the entry; so many at the end -/
def gap : Nat → List CpInfo → List CpInfo
  | 0, r => r
  | n + 1, r => .unusable :: gap n r
def poolList (es : List (Nat × CpInfo)) (last : Nat) : List CpInfo := es.foldr (fun e r => gap e.1 (e.2 :: r)) (gap last [])
def pool (es : List (Nat × CpInfo)) (last : Nat) : Array CpInfo := ⟨poolList es last⟩
def fileOf (pool : Array CpInfo) (this : Nat) (attrs : Array Attribute := #[]) (ms : Array MethodInfo := #[]) (fl : Nat := 33) (sup : Nat := 0) (ifs : Array Nat := #[]) (fds : Array FieldInfo := #[]) : ClassFile where
  minorVersion := 0
  majorVersion := 65
  constantPool := pool
  accessFlags := fl
  thisClass := this
  superClass := sup
  interfaces := ifs
  fields := fds
  methods := ms
  attributes := attrs
def plain (name : String) (sup : Option ClassId) : Class where
  name := name
  kind := .ordinary
  loader := none
  accessFlags := 33
  super := sup
  interfaces := #[]
  cf := none
  fields := #[]
  methods := #[]
  instanceTypes := #[]
  staticTypes := #[]
  resolved := #[]
  callSites := []
  init := .initialized
  statics := none
  mirror := none

def pool0 : Array CpInfo := pool [(5, u "<init>"), (0, u "()V"), (1, .class_ 10), (1, u "java/lang/Object")] 113

def k0m0 : Method := { name := "<init>", desc := "()V", sig := { parameters := [], returnType := none }, accessFlags := 1, code := none }
/-- java/lang/Object -/
def k0 : Class := { plain "java/lang/Object" none with
  accessFlags := 33
  interfaces := #[]
  cf := some (fileOf pool0 8 #[] #[{ accessFlags := 1, nameIndex := 5, descriptorIndex := 6, attributes := #[] }] 33 0 #[] #[])
  fields := #[]
  methods := #[k0m0]
  instanceTypes := #[]
  staticTypes := #[]
  resolved := Array.replicate 124 none
  statics := none }

def pool1 : Array CpInfo := pool [(2, .class_ 4), (1, u "java/lang/Object"), (0, u "<init>"), (0, u "()V"), (0, .fieldref 8 9), (0, .class_ 10), (0, .nameAndType 11 12), (0, u "com/example/verlock/verlock/LockMode"), (0, u "READ"), (0, u "Lcom/example/verlock/verlock/LockMode;"), (0, .fieldref 8 14), (0, .nameAndType 15 12), (0, u "WRITE"), (0, .methodref 17 18), (0, .class_ 19), (0, .nameAndType 20 21), (0, u "com/example/verlock/verlock/LockArguments"), (0, u "requireMode"), (0, u "(Lcom/example/verlock/verlock/LockMode;)Lcom/example/verlock/verlock/LockMode;"), (0, .class_ 23), (0, u "com/example/verlock/verlock/LockArgumentsRequireModePinLaw"), (2, u "law"), (0, u "(I)Z")] 3

def k1m0 : Method := { name := "<init>", desc := "()V", sig := { parameters := [], returnType := none }, accessFlags := 2, code := none }
def k1c1 : Code := { maxStack := 2, maxLocals := 3, code := code, exceptionTable := #[], attributes := #[] }
def k1m1 : Method := { name := "law", desc := "(I)Z", sig := { parameters := [.int], returnType := some .boolean }, accessFlags := 9, code := some k1c1 }
/-- com/example/verlock/verlock/LockArgumentsRequireModePinLaw -/
def k1 : Class := { plain "com/example/verlock/verlock/LockArgumentsRequireModePinLaw" (some 0) with
  accessFlags := 49
  interfaces := #[]
  cf := some (fileOf pool1 22 #[] #[{ accessFlags := 2, nameIndex := 5, descriptorIndex := 6, attributes := #[] }, { accessFlags := 9, nameIndex := 26, descriptorIndex := 27, attributes := #[] }] 49 2 #[] #[])
  fields := #[]
  methods := #[k1m0, k1m1]
  instanceTypes := #[]
  staticTypes := #[]
  resolved := Array.replicate 31 none
  statics := none }

def pool2 : Array CpInfo := pool [(1, .class_ 2), (0, u "java/lang/constant/Constable"), (0, .class_ 4), (0, u "java/lang/Object")] 6

/-- java/lang/constant/Constable -/
def k2 : Class := { plain "java/lang/constant/Constable" (some 0) with
  accessFlags := 1537
  interfaces := #[]
  cf := some (fileOf pool2 1 #[] #[] 1537 3 #[] #[])
  fields := #[]
  methods := #[]
  instanceTypes := #[]
  staticTypes := #[]
  resolved := Array.replicate 11 none
  statics := none }

def pool3 : Array CpInfo := pool [(1, .class_ 2), (0, u "java/lang/Comparable"), (0, .class_ 4), (0, u "java/lang/Object")] 7

/-- java/lang/Comparable -/
def k3 : Class := { plain "java/lang/Comparable" (some 0) with
  accessFlags := 1537
  interfaces := #[]
  cf := some (fileOf pool3 1 #[] #[] 1537 3 #[] #[])
  fields := #[]
  methods := #[]
  instanceTypes := #[]
  staticTypes := #[]
  resolved := Array.replicate 12 none
  statics := none }

def pool4 : Array CpInfo := pool [(1, .class_ 2), (0, u "java/io/Serializable"), (0, .class_ 4), (0, u "java/lang/Object")] 2

/-- java/io/Serializable -/
def k4 : Class := { plain "java/io/Serializable" (some 0) with
  accessFlags := 1537
  interfaces := #[]
  cf := some (fileOf pool4 1 #[] #[] 1537 3 #[] #[])
  fields := #[]
  methods := #[]
  instanceTypes := #[]
  staticTypes := #[]
  resolved := Array.replicate 7 none
  statics := none }

def pool5 : Array CpInfo := pool [(2, .class_ 4), (1, u "java/lang/Enum"), (0, u "name"), (0, u "Ljava/lang/String;"), (2, u "ordinal"), (0, u "I"), (1, .class_ 14), (1, u "java/lang/Object"), (4, u "hash"), (86, .class_ 108), (1, u "java/lang/Enum$EnumDesc"), (2, .class_ 112), (0, u "java/lang/constant/Constable"), (0, .class_ 114), (0, u "java/lang/Comparable"), (0, .class_ 116), (0, u "java/io/Serializable")] 87

/-- java/lang/Enum -/
def k5 : Class := { plain "java/lang/Enum" (some 0) with
  accessFlags := 1057
  interfaces := #[2, 3, 4]
  cf := some (fileOf pool5 2 #[.nestMembers #[106]] #[] 1057 12 #[111, 113, 115] #[{ accessFlags := 18, nameIndex := 5, descriptorIndex := 6, attributes := #[] }, { accessFlags := 18, nameIndex := 9, descriptorIndex := 10, attributes := #[] }, { accessFlags := 2, nameIndex := 19, descriptorIndex := 10, attributes := #[] }])
  fields := #[{ name := "name", type := (.object "java/lang/String"), accessFlags := 18, slot := 0, constantValue := 0 }, { name := "ordinal", type := .int, accessFlags := 18, slot := 1, constantValue := 0 }, { name := "hash", type := .int, accessFlags := 2, slot := 2, constantValue := 0 }]
  methods := #[]
  instanceTypes := #[(.object "java/lang/String"), .int, .int]
  staticTypes := #[]
  resolved := Array.replicate 204 none
  statics := none }

def pool6 : Array CpInfo := pool [(1, .class_ 2), (0, u "com/example/verlock/verlock/LockMode"), (2, u "READ"), (0, u "Lcom/example/verlock/verlock/LockMode;"), (2, u "WRITE"), (2, u "$VALUES"), (0, u "[Lcom/example/verlock/verlock/LockMode;"), (6, .class_ 22), (1, u "java/lang/Enum")] 27

/-- com/example/verlock/verlock/LockMode -/
def k6 : Class := { plain "com/example/verlock/verlock/LockMode" (some 5) with
  accessFlags := 16433
  interfaces := #[]
  cf := some (fileOf pool6 1 #[] #[] 16433 20 #[] #[{ accessFlags := 16409, nameIndex := 5, descriptorIndex := 6, attributes := #[] }, { accessFlags := 16409, nameIndex := 9, descriptorIndex := 6, attributes := #[] }, { accessFlags := 4122, nameIndex := 12, descriptorIndex := 13, attributes := #[] }])
  fields := #[{ name := "READ", type := (.object "com/example/verlock/verlock/LockMode"), accessFlags := 16409, slot := 0, constantValue := 0 }, { name := "WRITE", type := (.object "com/example/verlock/verlock/LockMode"), accessFlags := 16409, slot := 1, constantValue := 0 }, { name := "$VALUES", type := (.array (.object "com/example/verlock/verlock/LockMode")), accessFlags := 4122, slot := 2, constantValue := 0 }]
  methods := #[]
  instanceTypes := #[(.object "java/lang/String"), .int, .int]
  staticTypes := #[(.object "com/example/verlock/verlock/LockMode"), (.object "com/example/verlock/verlock/LockMode"), (.array (.object "com/example/verlock/verlock/LockMode"))]
  resolved := Array.replicate 50 none
  statics := some 0 }

def pool7 : Array CpInfo := pool [(2, .class_ 4), (1, u "java/lang/Object"), (0, u "<init>"), (0, u "()V"), (20, .class_ 29), (1, u "com/example/verlock/verlock/LockArguments"), (67, u "requireMode"), (0, u "(Lcom/example/verlock/verlock/LockMode;)Lcom/example/verlock/verlock/LockMode;")] 23

def k7m0 : Method := { name := "<init>", desc := "()V", sig := { parameters := [], returnType := none }, accessFlags := 2, code := none }
def k7c1 : Code := { maxStack := 3, maxLocals := 1, code := prog_5_method_8_code, exceptionTable := #[], attributes := #[] }
def k7m1 : Method := { name := "requireMode", desc := "(Lcom/example/verlock/verlock/LockMode;)Lcom/example/verlock/verlock/LockMode;", sig := { parameters := [(.object "com/example/verlock/verlock/LockMode")], returnType := some (.object "com/example/verlock/verlock/LockMode") }, accessFlags := 9, code := some k7c1 }
/-- com/example/verlock/verlock/LockArguments -/
def k7 : Class := { plain "com/example/verlock/verlock/LockArguments" (some 0) with
  accessFlags := 49
  interfaces := #[]
  cf := some (fileOf pool7 27 #[] #[{ accessFlags := 2, nameIndex := 5, descriptorIndex := 6, attributes := #[] }, { accessFlags := 9, nameIndex := 97, descriptorIndex := 98, attributes := #[] }] 49 2 #[] #[])
  fields := #[]
  methods := #[k7m0, k7m1]
  instanceTypes := #[]
  staticTypes := #[]
  resolved := Array.replicate 122 none
  statics := none }

def pool8 : Array CpInfo := pool [(1, u "java/lang/Cloneable"), (0, .class_ 1), (0, u "java/lang/Object"), (0, .class_ 3)] 3

/-- java/lang/Cloneable -/
def k8 : Class := { plain "java/lang/Cloneable" (some 0) with
  accessFlags := 1537
  interfaces := #[]
  cf := some (fileOf pool8 2 #[] #[] 1537 4 #[] #[])
  fields := #[]
  methods := #[]
  instanceTypes := #[]
  staticTypes := #[]
  resolved := Array.replicate 8 none
  statics := none }

/-- the primitive byte -/
def k9 : Class := { plain "byte" none with kind := .primitive 'B', accessFlags := 0x411 }
/-- [B -/
def k10 : Class := { plain "[B" (some 0) with kind := .array 9 .byte, interfaces := #[8, 4], accessFlags := 1041 }

def heap : Heap := #[{ cls := 6, slots := #[.ref 1, .ref 2, .null], vm := .statics 6 },
  { cls := 6, slots := #[.null, .int 0, .int 0], vm := .none },
  { cls := 6, slots := #[.null, .int 1, .int 0], vm := .none }]
def classes : Array Class := #[k0, k1, k2, k3, k4, k5, k6, k7, k8, k9, k10]
def interned : List (Array UInt16 × Addr) := []
def slotsUsed : Nat := 9
def theMethod : MethodId := ⟨1, 1⟩
def args0 : Array Value := #[.int 5]
def aboutOver (below : List Frame) : State where
  vm := { classes := classes, interned := interned.toArray }
  heap := heap
  slotsUsed := slotsUsed
  threads := #[{ frames := .invoking theMethod args0 :: below }]
def below0 : List Frame := [.native { method := ⟨0, 0⟩, args := #[] }]
def about1 : State := aboutOver below0
def p0 : Program := .bare "" "" ""
def e0 : Env := launch0.env 0 0 0
theorem w_frames : about1.frames = Frame.invoking theMethod args0 :: below0 := rfl
set_option maxRecDepth 65536 in
theorem w_args : argsFit about1.vm theMethod args0 = true := by decide +kernel
set_option maxRecDepth 65536 in
theorem w_heap : heapFits about1 = true := by decide +kernel
set_option maxRecDepth 65536 in
theorem w_runnable : about1.curStatus? = some .runnable := by decide +kernel
set_option maxRecDepth 65536 in
theorem w_alone : about1.alone = true := by decide +kernel
set_option maxRecDepth 65536 in
theorem w_named : about1.methodNamed? x = some theMethod := by decide +kernel
set_option maxRecDepth 65536 in
theorem w_hears : about1.hears theMethod below0 = true := by decide +kernel
set_option maxRecDepth 65536 in
theorem w_ripe : about1.ripe theMethod args0 below0 = true := by decide +kernel
theorem w_running : about1.status = .running := rfl
set_option maxRecDepth 65536 in
theorem w_room : about1.hasRoom e0.platform room_1 = true :=
  launch0.hasRoom_least _ room_1 (by decide +kernel) (by decide +kernel) (by decide +kernel) (by decide +kernel) (by decide +kernel) (by decide +kernel)
theorem allAtoms_all (ts : List Jvm.Cond) (a : Array Jvm.Value) (st : Jvm.State) : (allAtoms ts).before a st = ts.all (fun c => c.before a st) := by
  induction ts with
  | nil => rfl
  | cons c t ih =>
    show (Jvm.Cond.and c (allAtoms t)).before a st = _
    rw [Jvm.Cond.before_and, ih, List.all_cons]
def words1 : List Jvm.Cond := Jvm.Cond.code x code maxLocals ret :: tables_1
/-- a 'code' word, met by the world's own term for the bytes: nothing is compared byte by byte -/
theorem code_word {y : MethodName} {bytes : ByteArray} {mx : Nat} {rt : Option FieldType} {a : Array Value} {s : State} {m : MethodId} {meth : Method} {c : Code} (h1 : s.methodNamed? y = some m) (h2 : s.vm.method? m = some meth) (h3 : meth.code = some c) (h4 : c.code = bytes)
    (h5 : (c.maxLocals == mx && c.exceptionTable.isEmpty && decide (c.maxStack ≤ mostOperands) && decide (meth.sig.returnType = rt) && !meth.locks && decide (parseMethodDescriptor y.desc = some meth.sig)) = true) : (Jvm.Cond.code y bytes mx rt).before a s = true := by
  simp only [Bool.and_eq_true, beq_iff_eq, Bool.not_eq_true', decide_eq_true_eq] at h5
  obtain ⟨⟨⟨⟨⟨g1, g2⟩, g3⟩, g4⟩, g5⟩, g6⟩ := h5
  simp [Cond.before, Cond.holds, Cond.value, h1, h2, h3, h4, g1, g2, g3, g4, g5, g6]
def isCode : Jvm.Cond → Bool
  | .code _ _ _ _ => true
  | _ => false
theorem all_split {L : List Jvm.Cond} {P : Jvm.Cond → Bool} (h1 : L.all (fun c => isCode c || P c) = true) (h2 : ∀ c ∈ L.filter isCode, P c = true) : L.all P = true := by
  refine List.all_eq_true.mpr fun c hc => ?_
  have h := List.all_eq_true.mp h1 c hc
  rcases Bool.eq_false_or_eq_true (isCode c) with hi | hi
  · exact h2 c (List.mem_filter.mpr ⟨hc, hi⟩)
  · simpa [hi] using h
set_option maxRecDepth 65536 in
theorem w_c0 : (Jvm.Cond.code x code maxLocals ret).before args0 about1 = true := code_word (m := ⟨1, 1⟩) (meth := k1m1) (c := k1c1) (by decide +kernel) rfl rfl rfl (by decide +kernel)
set_option maxRecDepth 65536 in
theorem w_c1 : (Jvm.Cond.code ({ cls := "com/example/verlock/verlock/LockArguments", name := "requireMode", desc := "(Lcom/example/verlock/verlock/LockMode;)Lcom/example/verlock/verlock/LockMode;" } : Jvm.MethodName) prog_5_method_8_code (1 : Nat) (Option.some (Jvm.ClassFile.FieldType.object "com/example/verlock/verlock/LockMode"))).before args0 about1 = true := code_word (m := ⟨7, 1⟩) (meth := k7m1) (c := k7c1) (by decide +kernel) rfl rfl rfl (by decide +kernel)
def codes1 : List Jvm.Cond := [Jvm.Cond.code x code maxLocals ret, Jvm.Cond.code ({ cls := "com/example/verlock/verlock/LockArguments", name := "requireMode", desc := "(Lcom/example/verlock/verlock/LockMode;)Lcom/example/verlock/verlock/LockMode;" } : Jvm.MethodName) prog_5_method_8_code (1 : Nat) (Option.some (Jvm.ClassFile.FieldType.object "com/example/verlock/verlock/LockMode"))]
set_option maxRecDepth 65536 in
theorem codes_eq : words1.filter isCode = codes1 := rfl
theorem w_codes : ∀ c ∈ words1.filter isCode, c.before args0 about1 = true := by
  rw [codes_eq]
  intro c hc
  simp only [codes1, List.mem_cons, List.not_mem_nil, or_false] at hc
  rcases hc with rfl | rfl
  · exact w_c0
  · exact w_c1
set_option maxRecDepth 65536 in
theorem w_t1 : words1.all (fun c => isCode c || c.before args0 about1) = true := by decide +kernel
theorem w_tables : (allAtoms (Jvm.Cond.code x code maxLocals ret :: tables_1)).before args0 about1 = true := by
  rw [allAtoms_all]
  show words1.all (fun c => c.before args0 about1) = true
  refine all_split ?_ w_codes
  rw [w_t1]
set_option maxRecDepth 65536 in
theorem w_case : (Jvm.Cond.and given_1 narrow_1).before args0 about1 = true := by decide +kernel
theorem w_applies : (headSpec (Jvm.Cond.code x code maxLocals ret :: tables_1) room_1).applies x e0.platform about1 = true :=
  (Spec.applies_iff w_frames).mpr ⟨w_running, w_runnable, w_alone, w_named, w_hears, w_ripe, w_room, w_tables⟩
theorem atStart : AtStart classFile x code maxLocals ret World_1 tables_1 room_1 Calls_1 rest_1 Pre_1 launch0 p0 e0 about1 theMethod args0 below0 :=
  ⟨lists_1, trivial, launch0.admits_env _ _ _, launch0.least_env, fairChoices_fair.cas, fairChoices_fair.clock, w_frames, w_args, w_heap, w_applies, trivial, trivial, w_case⟩
end start1
theorem witness_1 : WitnessClaimed_1 := ⟨start1.p0, start1.e0, start1.about1, start1.theMethod, start1.args0, start1.below0, start1.atStart⟩
end Jvm.Pilot.@@N@@
