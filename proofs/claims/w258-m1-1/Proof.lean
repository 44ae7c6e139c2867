import JvmDerived
import JvmDerived.Pilot.@@N@@Statement
import JvmDerived.Pilot.@@N@@Code
set_option linter.unusedVariables false
set_option linter.unusedSimpArgs false
namespace Jvm.Pilot.@@N@@
open Jvm Jvm.ClassFile Sem Op Lib Jvm.Free Jvm.Stand Jvm.LawKit Jvm.RoadKit Bundle Jvm.Pilot.@@N@@.Jvm.D
/-- the walk from here on: it comes to an end that meets R -/
def Go (tb : Tables) (e : Env) (below : List Frame) (R : Outcome → State → Prop) (T : State) (g : JFrame) : Prop :=
  ∃ s₂ o, Steps tb e below (T.setTop g) s₂ ∧ s₂.status = .running ∧ Ended s₂ below o ∧ R o s₂
def RT (Q : Option Value → Heap → List Loc → Prop) (s : State) (C S : Nat) : Outcome → State → Prop :=
  fun o U' => ∃ v L, o = .returned v ∧ Q v U'.heap L ∧ FrameEnd s o U' L C S
theorem Go.step {tb : Tables} {e : Env} {below : List Frame} {R : Outcome → State → Prop} {T T' : State} {g g' : JFrame} (h : ∀ t, Steps tb e below (T'.setTop g') t → Steps tb e below (T.setTop g) t) (k : Go tb e below R T' g') : Go tb e below R T g := by
  obtain ⟨s₂, o, h1, h2⟩ := k
  exact ⟨s₂, o, h _ h1, h2⟩
theorem Go.tr {tb : Tables} {e : Env} {below : List Frame} {R : Outcome → State → Prop} {T T' : State} {g g' : JFrame} (h : Steps tb e below (T.setTop g) (T'.setTop g')) (k : Go tb e below R T' g') : Go tb e below R T g :=
  Go.step (fun _ q => h.trans q) k
theorem Go.enter {tb : Tables} {e : Env} {below : List Frame} {Q : Option Value → Heap → List Loc → Prop} {s : State} {C S : Nat} {T : State} {g g' : JFrame} (q : g = g') (k : Go tb e below (RT Q s C S) T g') :
    ∃ s₂ o, Steps tb e below (T.setTop g) s₂ ∧ s₂.status = .running ∧ Ended s₂ below o ∧ ∃ v L, o = .returned v ∧ Q v s₂.heap L ∧ FrameEnd s o s₂ L C S := by
  subst q
  exact k
section Ret
variable {p : Program} {l : Launch} {e : Env} {R : Room} {s : State} {m : MethodId} {args : Array Value} {below : List Frame} {meth : Method} {c : Code} {T : State} {locs : List Loc} {cells slots : Nat} {Q : Option Value → Heap → List Loc → Prop} {C S : Nat} {pc : Nat} {Ls : Array Slot} {rest : List Value}
theorem Go.fin (X : Stand p l e R s m args below meth c T locs cells slots) {v : Option Value} {g : JFrame} (hv : meth.sig.returnType = none → v = none) (hlk : meth.locks = false)
    (hst : ∀ fs, (∀ (f : JFrame) (acts : List Action), f.method = m → f.locked = none → f.entered = [] → (doReturn e (T.setTop f) acts v).1 = T.setFrames fs) → Steps p.tables e below (T.setTop g) (T.setFrames fs))
    (hQ : Q v T.heap locs) (hc : cells ≤ C) (hs : slots ≤ S) : Go p.tables e below (RT Q s C S) T g := by
  obtain ⟨fs, hr, hrun, hended, hW, hsame⟩ := X.leave hv hlk
  exact ⟨_, _, hst fs hr, hrun, hended, _, _, rfl, hQ, ⟨_, rfl⟩, hW, hsame.mono hc hs⟩
theorem Go.retN (X : Stand p l e R s m args below meth c T locs cells slots) (hx : p.tables.exec = Jvm.exec) {z z' : Int32} {t : FieldType} (hret : meth.sig.returnType = some t) (ht : t = .boolean ∨ t = .byte ∨ t = .char ∨ t = .short) (hd : decode c.code pc = .ok (.ireturn, 1)) (hlk : meth.locks = false) (hz : nar t z = z')
    (hQ : Q (some (.int z')) T.heap locs) (hc : cells ≤ C) (hs : slots ≤ S) : Go p.tables e below (RT Q s C S) T (mkF m pc Ls (.int z :: rest)) := by
  subst hz
  exact Go.fin X (fun h => by rw [hret] at h; cases h) hlk (fun fs hr => Jvm.RoadKit.retN X hx hret ht hd hr) hQ hc hs
theorem Go.retI (X : Stand p l e R s m args below meth c T locs cells slots) (hx : p.tables.exec = Jvm.exec) {z : Int32} (hret : meth.sig.returnType = some .int) (hd : decode c.code pc = .ok (.ireturn, 1)) (hlk : meth.locks = false)
    (hQ : Q (some (.int z)) T.heap locs) (hc : cells ≤ C) (hs : slots ≤ S) : Go p.tables e below (RT Q s C S) T (mkF m pc Ls (.int z :: rest)) := by
  refine Go.fin X (fun h => by rw [hret] at h; cases h) hlk (fun fs hr => ?_) hQ hc hs
  have hm' : T.vm.method? m = some meth := X.method'
  have hn : narrow .int (.int z) = .int z := rfl
  show Steps p.tables e below (T.setTop { method := m, pc := pc, locals := Ls, stack := _ :: rest, locked := none }) _
  jvm_step X.here [X.here.top, hx, hd, hm', hret, hn]
  first | (intro acts; rw [hr _ acts rfl rfl rfl]) | rw [hr _ _ rfl rfl rfl]
  exact Steps.refl _
theorem Go.retJ (X : Stand p l e R s m args below meth c T locs cells slots) (hx : p.tables.exec = Jvm.exec) {z : Int64} (hret : meth.sig.returnType = some .long) (hd : decode c.code pc = .ok (.lreturn, 1)) (hlk : meth.locks = false)
    (hQ : Q (some (.long z)) T.heap locs) (hc : cells ≤ C) (hs : slots ≤ S) : Go p.tables e below (RT Q s C S) T (mkF m pc Ls (.long z :: rest)) := by
  refine Go.fin X (fun h => by rw [hret] at h; cases h) hlk (fun fs hr => ?_) hQ hc hs
  have hm' : T.vm.method? m = some meth := X.method'
  show Steps p.tables e below (T.setTop { method := m, pc := pc, locals := Ls, stack := _ :: rest, locked := none }) _
  jvm_step X.here [X.here.top, hx, hd, hm', hret, narrow]
  first | (intro acts; rw [hr _ acts rfl rfl rfl]) | rw [hr _ _ rfl rfl rfl]
  exact Steps.refl _
theorem Go.retA (X : Stand p l e R s m args below meth c T locs cells slots) (hx : p.tables.exec = Jvm.exec) {z : Value} {t : FieldType} (hret : meth.sig.returnType = some t) (ht : t.isReference = true) (hd : decode c.code pc = .ok (.areturn, 1)) (hz : z.isRef = true) (hlk : meth.locks = false)
    (hQ : Q (some z) T.heap locs) (hc : cells ≤ C) (hs : slots ≤ S) : Go p.tables e below (RT Q s C S) T (mkF m pc Ls (z :: rest)) := by
  refine Go.fin X (fun h => by rw [hret] at h; cases h) hlk (fun fs hr => ?_) hQ hc hs
  have hm' : T.vm.method? m = some meth := X.method'
  show Steps p.tables e below (T.setTop { method := m, pc := pc, locals := Ls, stack := _ :: rest, locked := none }) _
  jvm_step X.here [X.here.top, hx, hd, hm', hret, hz, ht]
  first | (intro acts; rw [hr _ acts rfl rfl rfl]) | rw [hr _ _ rfl rfl rfl]
  exact Steps.refl _
theorem Go.retV (X : Stand p l e R s m args below meth c T locs cells slots) (hx : p.tables.exec = Jvm.exec) (hret : meth.sig.returnType = none) (hd : decode c.code pc = .ok (.return_, 1)) (hlk : meth.locks = false)
    (hQ : Q none T.heap locs) (hc : cells ≤ C) (hs : slots ≤ S) : Go p.tables e below (RT Q s C S) T (mkF m pc Ls []) :=
  Go.fin X (fun _ => rfl) hlk (fun fs hr => X.returnOut hx hret hd hr) hQ hc hs
end Ret
theorem own_and_nonneg (a : Int32) : 0 ≤ (a &&& 2147483647).toInt := by
  have h : (a &&& 2147483647).toBitVec.msb = false := by
    rw [Int32.toBitVec_and, BitVec.msb_and]
    have : (2147483647 : Int32).toBitVec.msb = false := by decide
    rw [this, Bool.and_false]
  show 0 ≤ (a &&& 2147483647).toBitVec.toInt
  rw [BitVec.toInt_eq_msb_cond, h]
  simp
theorem own_mod (a n : Int32) (hn : 0 < n.toInt) : 0 ≤ ((a &&& 2147483647) % n).toInt ∧ ((a &&& 2147483647) % n).toInt < n.toInt := by
  rw [Int32.toInt_mod]
  have h := own_and_nonneg a
  exact ⟨Int.tmod_nonneg _ h, by have := Int.tmod_lt_of_pos (a &&& 2147483647).toInt hn; exact this⟩
theorem own_char (x : Int32) : 0 ≤ (x.toUInt32.toUInt16.toUInt32.toInt32).toInt ∧ (x.toUInt32.toUInt16.toUInt32.toInt32).toInt < 65536 := by
  generalize x.toUInt32.toUInt16 = u
  have h : u.toNat < 65536 := u.toNat_lt
  have : (u.toUInt32.toInt32).toInt = (u.toNat : Int) := by
    show (u.toUInt32.toBitVec).toInt = _
    rw [BitVec.toInt_eq_toNat_of_lt]
    · simp
    · simp; omega
  omega
theorem own_lrem (x y : Int64) : x - x / y * y = x % y := by
  apply Int64.toInt_inj.mp
  rw [Int64.toInt_sub, Int64.toInt_mul, Int64.toInt_div, Int64.toInt_mod, Int.tmod_def, Int.mul_comm y.toInt]
  have hb := Int.bmod_emod (x := x.toInt.tdiv y.toInt) (m := 2 ^ 64)
  rw [Int.sub_bmod_bmod]
  have e : (x.toInt - (x.toInt.tdiv y.toInt).bmod (2 ^ 64) * y.toInt).bmod (2 ^ 64) = (x.toInt - x.toInt.tdiv y.toInt * y.toInt).bmod (2 ^ 64) := by
    rw [← Int.sub_bmod_bmod, Int.bmod_mul_bmod, Int.sub_bmod_bmod]
  rw [e]
  have h := Int64.toInt_mod x y
  have h2 := (x % y).le_toInt
  have h3 := (x % y).toInt_lt
  rw [h, Int.tmod_def, Int.mul_comm y.toInt] at h2 h3
  apply Int.bmod_eq_of_le
  · simpa using h2
  · simpa using h3
theorem own_lremM {p : Program} {l : Launch} {e : Env} {R : Room} {s : State} {m : MethodId} {args : Array Value} {below : List Frame} {meth : Method} {c : Code} {T : State} {locs : List Loc} {cells slots : Nat} {g : JFrame} {target : State} (X : Stand p l e R s m args below meth c T locs cells slots) (hx : p.tables.exec = Jvm.exec) (hg : g.method = m) {x y : Int64} {rest : List Value} (hd : decode c.code g.pc = .ok (.lrem, 1)) (hs : g.stack = .long y :: .long x :: rest) (hy : y ≠ 0)
    (hr : Steps p.tables e below (T.setTop { g with pc := g.pc + 1, stack := .long (x % y) :: rest }) target) : Steps p.tables e below (T.setTop g) target := by
  have q := own_lrem x y
  exact XS.lrem X.here hx hg hd hs hy (by rw [q]; exact hr)
theorem own_selp {s : State} {args : Array Value} {C : String} {y z : MethodName} (hsel : (Cond.selects C z z).before args s = true) (hz : z.cls = y.cls) (hinst : (Cond.instanceMethod y).before args s = true) (hpriv : s.PrivateAt y) (hy : y.cls ≠ "java/lang/invoke/MethodHandle" ∧ y.cls ≠ "java/lang/invoke/VarHandle") : (Cond.selects y.cls y y).before args s = true := by
  obtain ⟨c, r, m, -, -, h3, -, k, h5, h6⟩ := Cond.selects_spec hsel
  exact selects_self_of_private (hz ▸ findClass_of_methodNamed h3) h5 h6 hpriv hinst hy
theorem own_eqi {t : Term} {k : Int32} {args : Array Value} {first : State} {o : Option Outcome} {s : State} {idx : List Nat} (h : (Cond.eq t (.int k)).value args first o s idx = some true) : t.eval args first o idx s = some (.int k) := by
  cases ht : t.eval args first o idx s with
  | none => simp [Cond.value, ht] at h
  | some x => cases x <;> simp [Cond.value, Term.eval, ht] at h ⊢; exact h
theorem own_eqr {t u : Term} {b : Addr} {args : Array Value} {first : State} {o : Option Outcome} {s : State} {idx : List Nat} (h : (Cond.eq t u).value args first o s idx = some true) (hu : u.eval args first o idx s = some (.ref b)) : t.eval args first o idx s = some (.ref b) := by
  cases ht : t.eval args first o idx s with
  | none => simp [Cond.value, ht] at h
  | some x => cases x <;> simp [Cond.value, ht, hu] at h ⊢; exact h
/-- what the case says of the statics -/
def Wd (Z : State) (w : Nat → Addr) : Prop := Sta Z Z.heap "com/example/topicd/topicd/protocol/Command" "NO_BODY" "[B" (.ref (w 0)) ∧ Sta Z Z.heap "java/util/ImmutableCollections" "EMPTY_MAP" "Ljava/util/ImmutableCollections$MapN;" (.ref (w 1)) ∧ Exa Z Z.heap (w 1) "java/util/ImmutableCollections$MapN"
theorem wd0 {Z : State} {w : Nat → Addr} (wd : Wd Z w) : Sta Z Z.heap "com/example/topicd/topicd/protocol/Command" "NO_BODY" "[B" (.ref (w 0)) := wd.1
theorem wd1 {Z : State} {w : Nat → Addr} (wd : Wd Z w) : Sta Z Z.heap "java/util/ImmutableCollections" "EMPTY_MAP" "Ljava/util/ImmutableCollections$MapN;" (.ref (w 1)) := wd.2.1
theorem wd2 {Z : State} {w : Nat → Addr} (wd : Wd Z w) : Exa Z Z.heap (w 1) "java/util/ImmutableCollections$MapN" := wd.2.2
theorem d1_0 : decode jdk_72_method_26_code 0 = .ok (.getstatic 81, 3) := by decide +kernel
theorem d1_3 : decode jdk_72_method_26_code 3 = .ok (.areturn, 1) := by decide +kernel
theorem own_pn0 : plainName "java/util/Map" = true := by first | (simp [plainName, overriddenIn]; done) | decide +kernel
theorem ef_rm1 (m : MethodId)  : entryFrame m #[] 0 = mkF m 0 #[] [] := by first | (simp [entryFrame, mkF, argsToLocals, Value.category]; done) | rfl
def Q_rm1 (Z : State) (w : Nat → Addr) (h0 : Heap) (n0 : Nat) (v : Option Value) (h : Heap) (L : List Loc) : Prop := v = some (.ref (w 1)) ∧ Fr n0 L ∧ h = h0
set_option maxRecDepth 65536 in
set_option maxHeartbeats 40000000 in
theorem rm1 (l : Launch) (Z : State) (a0 : Array Value) (hw : ∀ d ∈ tables_1, d.before a0 Z = true) (ws : List Jvm.Cond) (w : Nat → Addr) (h0 : Heap) (n0 : Nat) (Z0 : n0 ≤ h0.size) (O0 : Old Z n0 h0) (wd : Wd Z w) :
    MetFree l (⟨"java/util/Map", "of", "()Ljava/util/Map;"⟩ : MethodName) (head1 (Jvm.Cond.code (⟨"java/util/Map", "of", "()Ljava/util/Map;"⟩ : MethodName) jdk_72_method_26_code 0 (some (.object "java/util/Map")) :: ws) ({ frames := 0, cells := 0, slots := 0, locals := 0 } : Room)) (fun az Uz => az = #[] ∧ Z.Warmed39 Uz.vm ∧ Uz.heap = h0) (fun _ _ _ _ _ => True) (fun _ Uz oz Vz => ∃ vz Lz, oz = .returned vz ∧ Q_rm1 Z w h0 n0 vz Vz.heap Lz ∧ FrameEnd Uz oz Vz Lz ({ frames := 0, cells := 0, slots := 0, locals := 0 } : Room).cells ({ frames := 0, cells := 0, slots := 0, locals := 0 } : Room).slots) := by
  refine MetFree.of_bodySF (plainFor_of_name own_pn0) hisR ?_
  intro p e s m args below meth c s₁ Bd hml0 hP hK
  obtain ⟨rfl, hZ, hh⟩ := hP
  have hx := Bd.exec
  have hby := Bd.bytes
  have hml : c.maxLocals = 0 := hml0
  have hown : s.vm.findClass "java/util/Map" = some m.cls := findClass_of_methodNamed Bd.named
  have hnm := (name_of_methodNamed Bd.named Bd.method).1
  have X0 : Stand p l e ({ frames := 0, cells := 0, slots := 0, locals := 0 } : Room) s m #[] below meth c s₁ [] 0 0 := Stand.of_body Bd
  have e0 : s₁.heap = h0 := by rw [← hh, Bd.state]; rfl
  have N0 := Fr.nil n0
  have K0 : Keep h0 h0 [] := Keep.refl _ _
  refine Go.enter (Q := Q_rm1 Z w h0 n0) (C := ({ frames := 0, cells := 0, slots := 0, locals := 0 } : Room).cells) (S := ({ frames := 0, cells := 0, slots := 0, locals := 0 } : Room).slots) (ef_rm1 m ) ?_
  obtain ⟨T1, X1, e1, st1⟩ := getS2 X0 hx hZ hown (host := "") (Or.inl (hw _ (List.mem_of_getElem? (i := 4) rfl))) Via.refl e0 ((wd1 wd).ext O0.2) (g := (mkF m 0 #[] [])) rfl (hb hby d1_0)
  refine Go.step st1 ?_
  show Go _ _ _ _ T1 (mkF m 3 #[] [(.ref (w 1))])
  exact Go.retA X1 hx Bd.returns rfl (hb hby d1_3) rfl Bd.notSynchronized (⟨rfl, N0, e1⟩) (by decide) (by decide)
theorem d5_0 : decode jdk_72_method_39_code 0 = .ok (.aload_n 0, 1) := by decide +kernel
theorem d5_1 : decode jdk_72_method_39_code 1 = .ok (.instanceof 101, 3) := by decide +kernel
theorem d5_4 : decode jdk_72_method_39_code 4 = .ok (.ifCond .eq 5, 3) := by decide +kernel
theorem d5_7 : decode jdk_72_method_39_code 7 = .ok (.aload_n 0, 1) := by decide +kernel
theorem d5_8 : decode jdk_72_method_39_code 8 = .ok (.areturn, 1) := by decide +kernel
theorem ef_rm5 (m : MethodId) (x0 : Addr) : entryFrame m #[(.ref x0)] 1 = mkF m 0 #[.val (.ref x0)] [] := by first | (simp [entryFrame, mkF, argsToLocals, Value.category]; done) | rfl
def Q_rm5 (Z : State) (w : Nat → Addr) (h0 : Heap) (n0 : Nat) (v : Option Value) (h : Heap) (L : List Loc) : Prop := v = some (.ref (w 1)) ∧ Fr n0 L ∧ h = h0
set_option maxRecDepth 65536 in
set_option maxHeartbeats 40000000 in
theorem rm5 (l : Launch) (Z : State) (a0 : Array Value) (hw : ∀ d ∈ tables_1, d.before a0 Z = true) (ws : List Jvm.Cond) (w : Nat → Addr) (h0 : Heap) (n0 : Nat) (Z0 : n0 ≤ h0.size) (O0 : Old Z n0 h0) (wd : Wd Z w) :
    MetFree l (⟨"java/util/Map", "copyOf", "(Ljava/util/Map;)Ljava/util/Map;"⟩ : MethodName) (head1 (Jvm.Cond.code (⟨"java/util/Map", "copyOf", "(Ljava/util/Map;)Ljava/util/Map;"⟩ : MethodName) jdk_72_method_39_code 1 (some (.object "java/util/Map")) :: ws) ({ frames := 0, cells := 0, slots := 0, locals := 0 } : Room)) (fun az Uz => az = #[(.ref (w 1))] ∧ Z.Warmed39 Uz.vm ∧ Uz.heap = h0) (fun _ _ _ _ _ => True) (fun _ Uz oz Vz => ∃ vz Lz, oz = .returned vz ∧ Q_rm5 Z w h0 n0 vz Vz.heap Lz ∧ FrameEnd Uz oz Vz Lz ({ frames := 0, cells := 0, slots := 0, locals := 0 } : Room).cells ({ frames := 0, cells := 0, slots := 0, locals := 0 } : Room).slots) := by
  refine MetFree.of_bodySF (plainFor_of_name own_pn0) hisR ?_
  intro p e s m args below meth c s₁ Bd hml0 hP hK
  obtain ⟨rfl, hZ, hh⟩ := hP
  have hx := Bd.exec
  have hby := Bd.bytes
  have hml : c.maxLocals = 1 := hml0
  have hown : s.vm.findClass "java/util/Map" = some m.cls := findClass_of_methodNamed Bd.named
  have hnm := (name_of_methodNamed Bd.named Bd.method).1
  have X0 : Stand p l e ({ frames := 0, cells := 0, slots := 0, locals := 0 } : Room) s m #[(.ref (w 1))] below meth c s₁ [] 0 0 := Stand.of_body Bd
  have e0 : s₁.heap = h0 := by rw [← hh, Bd.state]; rfl
  have N0 := Fr.nil n0
  have K0 : Keep h0 h0 [] := Keep.refl _ _
  refine Go.enter (Q := Q_rm5 Z w h0 n0) (C := ({ frames := 0, cells := 0, slots := 0, locals := 0 } : Room).cells) (S := ({ frames := 0, cells := 0, slots := 0, locals := 0 } : Room).slots) (ef_rm5 m (w 1)) ?_
  refine Go.step (fun _ zz => XS.aloadN X0.here hx rfl (hb hby d5_0) rfl rfl zz) ?_
  show Go _ _ _ _ s₁ (mkF m 1 #[.val (.ref (w 1))] [(.ref (w 1))])
  obtain ⟨T1, X1, e1, st1⟩ := instY X0 hx hZ hown (hw _ (List.mem_of_getElem? (i := 23) rfl)) e0 (Ins.of_exa ((wd2 wd).ext O0.2) (hw _ (List.mem_of_getElem? (i := 24) rfl))) (g := (mkF m 1 #[.val (.ref (w 1))] [(.ref (w 1))])) rfl rfl (hb hby d5_1)
  refine Go.step st1 ?_
  show Go _ _ _ _ T1 (mkF m 4 #[.val (.ref (w 1))] [(.int (1 : Int32))])
  refine Go.step (fun _ zz => XS.ifNo X1.here hx rfl (hb hby d5_4) rfl ((if0 _ _).trans (feq (by decide)).1) zz) ?_
  show Go _ _ _ _ T1 (mkF m 7 #[.val (.ref (w 1))] [])
  refine Go.step (fun _ zz => XS.aloadN X1.here hx rfl (hb hby d5_7) rfl rfl zz) ?_
  show Go _ _ _ _ T1 (mkF m 8 #[.val (.ref (w 1))] [(.ref (w 1))])
  exact Go.retA X1 hx Bd.returns rfl (hb hby d5_8) rfl Bd.notSynchronized (⟨rfl, N0, e1⟩) (by decide) (by decide)
theorem d3_0 : decode jdk_30_method_1_code 0 = .ok (.aload_n 0, 1) := by decide +kernel
theorem d3_1 : decode jdk_30_method_1_code 1 = .ok (.invokespecial 1, 3) := by decide +kernel
theorem d3_4 : decode jdk_30_method_1_code 4 = .ok (.return_, 1) := by decide +kernel
theorem own_pn1 : plainName "java/lang/Record" = true := by first | (simp [plainName, overriddenIn]; done) | decide +kernel
theorem ef_rm3 (m : MethodId) (x0 : Addr) : entryFrame m #[(.ref x0)] 1 = mkF m 0 #[.val (.ref x0)] [] := by first | (simp [entryFrame, mkF, argsToLocals, Value.category]; done) | rfl
def Q_rm3 (Z : State) (r0 : Addr) (h0 : Heap) (n0 : Nat) (v : Option Value) (h : Heap) (L : List Loc) : Prop := v = none ∧ Fr n0 L ∧ h = h0
set_option maxRecDepth 65536 in
set_option maxHeartbeats 40000000 in
theorem rm3 (l : Launch) (Z : State) (a0 : Array Value) (hw : ∀ d ∈ tables_1, d.before a0 Z = true) (ws : List Jvm.Cond) (r0 : Addr) (h0 : Heap) (n0 : Nat) (Z0 : n0 ≤ h0.size) :
    MetFree l (⟨"java/lang/Record", "<init>", "()V"⟩ : MethodName) (head1 (Jvm.Cond.code (⟨"java/lang/Record", "<init>", "()V"⟩ : MethodName) jdk_30_method_1_code 1 none :: ws) ({ frames := 1, cells := 0, slots := 0, locals := 12 } : Room)) (fun az Uz => az = #[(.ref r0)] ∧ Z.Warmed39 Uz.vm ∧ Uz.heap = h0) (fun _ _ _ _ _ => True) (fun _ Uz oz Vz => ∃ vz Lz, oz = .returned vz ∧ Q_rm3 Z r0 h0 n0 vz Vz.heap Lz ∧ FrameEnd Uz oz Vz Lz ({ frames := 1, cells := 0, slots := 0, locals := 12 } : Room).cells ({ frames := 1, cells := 0, slots := 0, locals := 12 } : Room).slots) := by
  refine MetFree.of_bodySF (plainFor_of_name own_pn1) hisR ?_
  intro p e s m args below meth c s₁ Bd hml0 hP hK
  obtain ⟨rfl, hZ, hh⟩ := hP
  have hx := Bd.exec
  have hby := Bd.bytes
  have hml : c.maxLocals = 1 := hml0
  have hown : s.vm.findClass "java/lang/Record" = some m.cls := findClass_of_methodNamed Bd.named
  have hnm := (name_of_methodNamed Bd.named Bd.method).1
  have X0 : Stand p l e ({ frames := 1, cells := 0, slots := 0, locals := 12 } : Room) s m #[(.ref r0)] below meth c s₁ [] 0 0 := Stand.of_body Bd
  have e0 : s₁.heap = h0 := by rw [← hh, Bd.state]; rfl
  have N0 := Fr.nil n0
  have K0 : Keep h0 h0 [] := Keep.refl _ _
  refine Go.enter (Q := Q_rm3 Z r0 h0 n0) (C := ({ frames := 1, cells := 0, slots := 0, locals := 12 } : Room).cells) (S := ({ frames := 1, cells := 0, slots := 0, locals := 12 } : Room).slots) (ef_rm3 m r0) ?_
  refine Go.step (fun _ zz => XS.aloadN X0.here hx rfl (hb hby d3_0) rfl rfl zz) ?_
  show Go _ _ _ _ s₁ (mkF m 1 #[.val (.ref r0)] [(.ref r0)])
  obtain ⟨T1, X1, e1, st1⟩ := initO X0 hx hZ hown (hw _ (List.mem_of_getElem? (i := 17) rfl)) (hw _ (List.mem_of_getElem? (i := 18) rfl)) (hw _ (List.mem_of_getElem? (i := 19) rfl)) e0 (g := (mkF m 1 #[.val (.ref r0)] [(.ref r0)])) rfl (by rw [hml]; rfl) rfl (hb hby d3_1) (by decide) (W := 0) (by show 2 * 0 + _ ≤ _; exact Nat.le_of_eq rfl) (by decide)
  refine Go.step st1 ?_
  show Go _ _ _ _ T1 (mkF m 4 #[.val (.ref r0)] [])
  exact Go.retV X1 hx Bd.returns (hb hby d3_4) Bd.notSynchronized (⟨rfl, N0, e1⟩) (by decide) (by decide)
theorem own_pd2 : parseMethodDescriptor "()V" = some ⟨[], none⟩ := by decide +kernel
theorem own_pd3 : parseMethodDescriptor "(Ljava/util/Map;)Ljava/util/Map;" = some ⟨[(.object "java/util/Map")], some (.object "java/util/Map")⟩ := by decide +kernel
theorem d2_0 : decode prog_6_method_1_code 0 = .ok (.aload_n 0, 1) := by decide +kernel
theorem d2_1 : decode prog_6_method_1_code 1 = .ok (.invokespecial 1, 3) := by decide +kernel
theorem d2_4 : decode prog_6_method_1_code 4 = .ok (.aload 5, 2) := by decide +kernel
theorem d2_6 : decode prog_6_method_1_code 6 = .ok (.invokestatic 7, 3) := by decide +kernel
theorem d2_9 : decode prog_6_method_1_code 9 = .ok (.astore 5, 2) := by decide +kernel
theorem d2_11 : decode prog_6_method_1_code 11 = .ok (.aload 6, 2) := by decide +kernel
theorem d2_13 : decode prog_6_method_1_code 13 = .ok (.ifnonnull 9, 3) := by decide +kernel
theorem d2_16 : decode prog_6_method_1_code 16 = .ok (.getstatic 13, 3) := by decide +kernel
theorem d2_19 : decode prog_6_method_1_code 19 = .ok (.goto 5, 3) := by decide +kernel
theorem d2_24 : decode prog_6_method_1_code 24 = .ok (.astore 6, 2) := by decide +kernel
theorem d2_26 : decode prog_6_method_1_code 26 = .ok (.aload_n 0, 1) := by decide +kernel
theorem d2_27 : decode prog_6_method_1_code 27 = .ok (.iload_n 1, 1) := by decide +kernel
theorem d2_28 : decode prog_6_method_1_code 28 = .ok (.putfield 19, 3) := by decide +kernel
theorem d2_31 : decode prog_6_method_1_code 31 = .ok (.aload_n 0, 1) := by decide +kernel
theorem d2_32 : decode prog_6_method_1_code 32 = .ok (.iload_n 2, 1) := by decide +kernel
theorem d2_33 : decode prog_6_method_1_code 33 = .ok (.putfield 23, 3) := by decide +kernel
theorem d2_36 : decode prog_6_method_1_code 36 = .ok (.aload_n 0, 1) := by decide +kernel
theorem d2_37 : decode prog_6_method_1_code 37 = .ok (.iload_n 3, 1) := by decide +kernel
theorem d2_38 : decode prog_6_method_1_code 38 = .ok (.putfield 26, 3) := by decide +kernel
theorem d2_41 : decode prog_6_method_1_code 41 = .ok (.aload_n 0, 1) := by decide +kernel
theorem d2_42 : decode prog_6_method_1_code 42 = .ok (.aload 4, 2) := by decide +kernel
theorem d2_44 : decode prog_6_method_1_code 44 = .ok (.putfield 29, 3) := by decide +kernel
theorem d2_47 : decode prog_6_method_1_code 47 = .ok (.aload_n 0, 1) := by decide +kernel
theorem d2_48 : decode prog_6_method_1_code 48 = .ok (.aload 5, 2) := by decide +kernel
theorem d2_50 : decode prog_6_method_1_code 50 = .ok (.putfield 33, 3) := by decide +kernel
theorem d2_53 : decode prog_6_method_1_code 53 = .ok (.aload_n 0, 1) := by decide +kernel
theorem d2_54 : decode prog_6_method_1_code 54 = .ok (.aload 6, 2) := by decide +kernel
theorem d2_56 : decode prog_6_method_1_code 56 = .ok (.putfield 37, 3) := by decide +kernel
theorem d2_59 : decode prog_6_method_1_code 59 = .ok (.return_, 1) := by decide +kernel
theorem own_pn4 : plainName "com/example/topicd/topicd/protocol/Command" = true := by first | (simp [plainName, overriddenIn]; done) | decide +kernel
theorem ef_rm2 (m : MethodId) (x0 : Addr) (x1 : Int32) (x2 : Int32) (x3 : Int32) (x5 : Addr) : entryFrame m #[(.ref x0), (.int x1), (.int x2), (.int x3), .null, (.ref x5), .null] 7 = mkF m 0 #[.val (.ref x0), .val (.int x1), .val (.int x2), .val (.int x3), .val .null, .val (.ref x5), .val .null] [] := by first | (simp [entryFrame, mkF, argsToLocals, Value.category]; done) | rfl
def Q_rm2 (Z : State) (r0 : Addr) (p1 : Int32) (p2 : Int32) (p3 : Int32) (w : Nat → Addr) (h0 : Heap) (n0 : Nat) (v : Option Value) (h : Heap) (L : List Loc) : Prop := v = none ∧ Fr n0 L ∧ Keep h0 h [r0] ∧ Exa Z h r0 "com/example/topicd/topicd/protocol/Command" ∧ Fld Z h r0 "com/example/topicd/topicd/protocol/Command" "code" "I" (.int p1) ∧ Fld Z h r0 "com/example/topicd/topicd/protocol/Command" "opaque" "I" (.int p2) ∧ Fld Z h r0 "com/example/topicd/topicd/protocol/Command" "flag" "I" (.int p3) ∧ Fld Z h r0 "com/example/topicd/topicd/protocol/Command" "remark" "Ljava/lang/String;" .null ∧ Fld Z h r0 "com/example/topicd/topicd/protocol/Command" "extFields" "Ljava/util/Map;" (.ref (w 1)) ∧ Fld Z h r0 "com/example/topicd/topicd/protocol/Command" "body" "[B" (.ref (w 0))
set_option maxRecDepth 65536 in
set_option maxHeartbeats 40000000 in
theorem rm2 (l : Launch) (Z : State) (a0 : Array Value) (hw : ∀ d ∈ tables_1, d.before a0 Z = true) (ws : List Jvm.Cond) (r0 : Addr) (p1 : Int32) (p2 : Int32) (p3 : Int32) (w : Nat → Addr) (h0 : Heap) (n0 : Nat) (Z0 : n0 ≤ h0.size) (O0 : Old Z n0 h0) (wd : Wd Z w) (g_r0 : n0 ≤ r0) (E_r0 : Exa Z h0 r0 "com/example/topicd/topicd/protocol/Command") (F_r0_0 : Fld Z h0 r0 "com/example/topicd/topicd/protocol/Command" "code" "I" (.int (0 : Int32))) (F_r0_1 : Fld Z h0 r0 "com/example/topicd/topicd/protocol/Command" "opaque" "I" (.int (0 : Int32))) (F_r0_2 : Fld Z h0 r0 "com/example/topicd/topicd/protocol/Command" "flag" "I" (.int (0 : Int32))) (F_r0_3 : Fld Z h0 r0 "com/example/topicd/topicd/protocol/Command" "remark" "Ljava/lang/String;" .null) (F_r0_4 : Fld Z h0 r0 "com/example/topicd/topicd/protocol/Command" "extFields" "Ljava/util/Map;" .null) (F_r0_5 : Fld Z h0 r0 "com/example/topicd/topicd/protocol/Command" "body" "[B" .null) :
    MetFree l (⟨"com/example/topicd/topicd/protocol/Command", "<init>", "(IIILjava/lang/String;Ljava/util/Map;[B)V"⟩ : MethodName) (head1 (Jvm.Cond.code (⟨"com/example/topicd/topicd/protocol/Command", "<init>", "(IIILjava/lang/String;Ljava/util/Map;[B)V"⟩ : MethodName) prog_6_method_1_code 7 none :: ws) ({ frames := 2, cells := 0, slots := 0, locals := 24 } : Room)) (fun az Uz => az = #[(.ref r0), (.int p1), (.int p2), (.int p3), .null, (.ref (w 1)), .null] ∧ Z.Warmed39 Uz.vm ∧ Uz.heap = h0) (fun _ _ _ _ _ => True) (fun _ Uz oz Vz => ∃ vz Lz, oz = .returned vz ∧ Q_rm2 Z r0 p1 p2 p3 w h0 n0 vz Vz.heap Lz ∧ FrameEnd Uz oz Vz Lz ({ frames := 2, cells := 0, slots := 0, locals := 24 } : Room).cells ({ frames := 2, cells := 0, slots := 0, locals := 24 } : Room).slots) := by
  refine MetFree.of_bodySF (plainFor_of_name own_pn4) hisR ?_
  intro p e s m args below meth c s₁ Bd hml0 hP hK
  obtain ⟨rfl, hZ, hh⟩ := hP
  have hx := Bd.exec
  have hby := Bd.bytes
  have hml : c.maxLocals = 7 := hml0
  have hown : s.vm.findClass "com/example/topicd/topicd/protocol/Command" = some m.cls := findClass_of_methodNamed Bd.named
  have hnm := (name_of_methodNamed Bd.named Bd.method).1
  have X0 : Stand p l e ({ frames := 2, cells := 0, slots := 0, locals := 24 } : Room) s m #[(.ref r0), (.int p1), (.int p2), (.int p3), .null, (.ref (w 1)), .null] below meth c s₁ [] 0 0 := Stand.of_body Bd
  have e0 : s₁.heap = h0 := by rw [← hh, Bd.state]; rfl
  have N0 := Fr.nil n0
  have K0 : Keep h0 h0 [r0] := Keep.refl _ _
  refine Go.enter (Q := Q_rm2 Z r0 p1 p2 p3 w h0 n0) (C := ({ frames := 2, cells := 0, slots := 0, locals := 24 } : Room).cells) (S := ({ frames := 2, cells := 0, slots := 0, locals := 24 } : Room).slots) (ef_rm2 m r0 p1 p2 p3 (w 1)) ?_
  refine Go.step (fun _ zz => XS.aloadN X0.here hx rfl (hb hby d2_0) rfl rfl zz) ?_
  show Go _ _ _ _ s₁ (mkF m 1 #[.val (.ref r0), .val (.int p1), .val (.int p2), .val (.int p3), .val .null, .val (.ref (w 1)), .val .null] [(.ref r0)])
  obtain ⟨_, _, ⟨T1, L1, k1, n1⟩, -, X1, ⟨Lc1, hQ1, l1, y1, z1⟩, st1⟩ := X0.specialBack hx (y := (⟨"java/lang/Record", "<init>", "()V"⟩ : MethodName)) rfl hown (mvT hZ (hw _ (List.mem_of_getElem? (i := 12) rfl))) (mvT hZ (hw _ (List.mem_of_getElem? (i := 13) rfl))) (mvT hZ (hw _ (List.mem_of_getElem? (i := 16) rfl))) (by decide) (backOf (W := 0) (rm3 l Z a0 hw [] r0 h0 n0 Z0) hZ (hw _ (List.mem_of_getElem? (i := 16) rfl)) (hw _ (List.mem_of_getElem? (i := 15) rfl)) (by decide) (by decide)) (g := (mkF m 1 #[.val (.ref r0), .val (.int p1), .val (.int p2), .val (.int p3), .val .null, .val (.ref (w 1)), .val .null] [(.ref r0)])) rfl (by rw [hml]; rfl) (Steps.refl _) (a := r0) (argsL := []) (rest := []) (lenOf own_pd2 rfl) rfl (by show 2 * 0 + _ ≤ _; exact Nat.le_of_eq rfl) (hb hby d2_1) (fun _ _ => ⟨rfl, e0, (by decide : 0 + 0 ≤ _), (by decide : 0 + 0 ≤ _)⟩)
  dsimp only [Pt.U, Pt.locs, Pt.cells, Pt.slots] at X1 l1 y1 z1 st1 hQ1
  subst l1 y1 z1
  obtain ⟨rfl, N1q, e1⟩ := hQ1
  have N1 := Fr.app N0 N1q
  refine Go.tr st1 ?_
  show Go _ _ _ _ T1 (mkF m 4 #[.val (.ref r0), .val (.int p1), .val (.int p2), .val (.int p3), .val .null, .val (.ref (w 1)), .val .null] [])
  refine Go.step (fun _ zz => XS.aload X1.here hx rfl (hb hby d2_4) rfl rfl zz) ?_
  show Go _ _ _ _ T1 (mkF m 6 #[.val (.ref r0), .val (.int p1), .val (.int p2), .val (.int p3), .val .null, .val (.ref (w 1)), .val .null] [(.ref (w 1))])
  obtain ⟨_, _, ⟨T2, L2, k2, n2⟩, -, X2, ⟨Lc2, hQ2, l2, y2, z2⟩, st2⟩ := Jvm.LawKit.callS X1 hx (y := (⟨"java/util/Map", "copyOf", "(Ljava/util/Map;)Ljava/util/Map;"⟩ : MethodName)) hown (mvT hZ (hw _ (List.mem_of_getElem? (i := 20) rfl))) (mvT hZ (hw _ (List.mem_of_getElem? (i := 21) rfl))) (mvT hZ (hw _ (List.mem_of_getElem? (i := 2) rfl))) (mvT hZ (hw _ (List.mem_of_getElem? (i := 22) rfl))) (by decide) (backOf (W := 0) (rm5 l Z a0 hw [] w h0 n0 Z0 O0 wd) hZ (hw _ (List.mem_of_getElem? (i := 22) rfl)) (hw _ (List.mem_of_getElem? (i := 2) rfl)) (by decide) (by decide)) (g := (mkF m 6 #[.val (.ref r0), .val (.int p1), .val (.int p2), .val (.int p3), .val .null, .val (.ref (w 1)), .val .null] [(.ref (w 1))])) rfl (by rw [hml]; rfl) (argsL := [(.ref (w 1))]) (rest := []) (lenOf own_pd3 rfl) rfl (by show 2 * 0 + _ ≤ _; exact Nat.le_of_eq rfl) (hb hby d2_6) (fun _ _ => ⟨rfl, e1, (by decide : 0 + 0 ≤ _), (by decide : 0 + 0 ≤ _)⟩)
  dsimp only [Pt.U, Pt.locs, Pt.cells, Pt.slots] at X2 l2 y2 z2 st2 hQ2
  subst l2 y2 z2
  obtain ⟨rfl, N2q, e2⟩ := hQ2
  have N2 := Fr.app N1 N2q
  refine Go.step st2 ?_
  show Go _ _ _ _ T2 (mkF m 9 #[.val (.ref r0), .val (.int p1), .val (.int p2), .val (.int p3), .val .null, .val (.ref (w 1)), .val .null] [(.ref (w 1))])
  refine Go.step (fun _ zz => XS.astore X2.here hx rfl (hb hby d2_9) rfl rfl (l' := #[.val (.ref r0), .val (.int p1), .val (.int p2), .val (.int p3), .val .null, .val (.ref (w 1)), .val .null]) rfl zz) ?_
  show Go _ _ _ _ T2 (mkF m 11 #[.val (.ref r0), .val (.int p1), .val (.int p2), .val (.int p3), .val .null, .val (.ref (w 1)), .val .null] [])
  refine Go.step (fun _ zz => XS.aload X2.here hx rfl (hb hby d2_11) rfl rfl zz) ?_
  show Go _ _ _ _ T2 (mkF m 13 #[.val (.ref r0), .val (.int p1), .val (.int p2), .val (.int p3), .val .null, .val (.ref (w 1)), .val .null] [.null])
  refine Go.step (fun _ zz => XS.ifnonnullNo X2.here hx rfl (hb hby d2_13) rfl zz) ?_
  show Go _ _ _ _ T2 (mkF m 16 #[.val (.ref r0), .val (.int p1), .val (.int p2), .val (.int p3), .val .null, .val (.ref (w 1)), .val .null] [])
  obtain ⟨T3, X3, e3, st3⟩ := getS2 X2 hx hZ hown (host := "") (Or.inl (hw _ (List.mem_of_getElem? (i := 25) rfl))) Via.refl e2 ((wd0 wd).ext O0.2) (g := (mkF m 16 #[.val (.ref r0), .val (.int p1), .val (.int p2), .val (.int p3), .val .null, .val (.ref (w 1)), .val .null] [])) rfl (hb hby d2_16)
  refine Go.step st3 ?_
  show Go _ _ _ _ T3 (mkF m 19 #[.val (.ref r0), .val (.int p1), .val (.int p2), .val (.int p3), .val .null, .val (.ref (w 1)), .val .null] [(.ref (w 0))])
  refine Go.step (fun _ zz => XS.goto X3.here hx rfl (pc0 := 19) (pc' := 24) rfl (hb hby d2_19) (by decide) (by decide) zz) ?_
  show Go _ _ _ _ T3 (mkF m 24 #[.val (.ref r0), .val (.int p1), .val (.int p2), .val (.int p3), .val .null, .val (.ref (w 1)), .val .null] [(.ref (w 0))])
  refine Go.step (fun _ zz => XS.astore X3.here hx rfl (hb hby d2_24) rfl rfl (l' := #[.val (.ref r0), .val (.int p1), .val (.int p2), .val (.int p3), .val .null, .val (.ref (w 1)), .val (.ref (w 0))]) rfl zz) ?_
  show Go _ _ _ _ T3 (mkF m 26 #[.val (.ref r0), .val (.int p1), .val (.int p2), .val (.int p3), .val .null, .val (.ref (w 1)), .val (.ref (w 0))] [])
  refine Go.step (fun _ zz => XS.aloadN X3.here hx rfl (hb hby d2_26) rfl rfl zz) ?_
  show Go _ _ _ _ T3 (mkF m 27 #[.val (.ref r0), .val (.int p1), .val (.int p2), .val (.int p3), .val .null, .val (.ref (w 1)), .val (.ref (w 0))] [(.ref r0)])
  refine Go.step (fun _ zz => XS.iloadN X3.here hx rfl (hb hby d2_27) rfl zz) ?_
  show Go _ _ _ _ T3 (mkF m 28 #[.val (.ref r0), .val (.int p1), .val (.int p2), .val (.int p3), .val .null, .val (.ref (w 1)), .val (.ref (w 0))] [(.int p1), (.ref r0)])
  obtain ⟨T4, h4, X4, e4, W4, st4⟩ := putF X3 hx hZ hown (host := "") (Or.inl (hw _ (List.mem_of_getElem? (i := 27) rfl))) Via.refl e3 F_r0_0 E_r0 (Or.inr ⟨(hw _ (List.mem_of_getElem? (i := 28) rfl)), rfl, hnm⟩) (hw _ (List.mem_of_getElem? (i := 7) rfl)) (ty := .int) (by decide) rfl rfl (g := (mkF m 28 #[.val (.ref r0), .val (.int p1), .val (.int p2), .val (.int p3), .val .null, .val (.ref (w 1)), .val (.ref (w 0))] [(.int p1), (.ref r0)])) rfl rfl (hb hby d2_28)
  have Fw4 := F_r0_0.same W4
  have N4 := Fr.snoc X4 N2 g_r0
  have K4 : Keep h0 h4 [r0] := K0.wr W4 (Or.inl (List.mem_of_getElem? (i := 0) rfl))
  refine Go.step st4 ?_
  show Go _ _ _ _ T4 (mkF m 31 #[.val (.ref r0), .val (.int p1), .val (.int p2), .val (.int p3), .val .null, .val (.ref (w 1)), .val (.ref (w 0))] [])
  refine Go.step (fun _ zz => XS.aloadN X4.here hx rfl (hb hby d2_31) rfl rfl zz) ?_
  show Go _ _ _ _ T4 (mkF m 32 #[.val (.ref r0), .val (.int p1), .val (.int p2), .val (.int p3), .val .null, .val (.ref (w 1)), .val (.ref (w 0))] [(.ref r0)])
  refine Go.step (fun _ zz => XS.iloadN X4.here hx rfl (hb hby d2_32) rfl zz) ?_
  show Go _ _ _ _ T4 (mkF m 33 #[.val (.ref r0), .val (.int p1), .val (.int p2), .val (.int p3), .val .null, .val (.ref (w 1)), .val (.ref (w 0))] [(.int p2), (.ref r0)])
  obtain ⟨T5, h5, X5, e5, W5, st5⟩ := putF X4 hx hZ hown (host := "") (Or.inl (hw _ (List.mem_of_getElem? (i := 29) rfl))) Via.refl e4 (F_r0_1.other W4 (Or.inr (slot_ne (Or.inr (hw _ (List.mem_of_getElem? (i := 30) rfl))) (Or.inr (hw _ (List.mem_of_getElem? (i := 28) rfl))) (by decide) (t := .int) (t' := .int) (by decide) (by decide)))) (E_r0.wr W4) (Or.inr ⟨(hw _ (List.mem_of_getElem? (i := 30) rfl)), rfl, hnm⟩) (hw _ (List.mem_of_getElem? (i := 7) rfl)) (ty := .int) (by decide) rfl rfl (g := (mkF m 33 #[.val (.ref r0), .val (.int p1), .val (.int p2), .val (.int p3), .val .null, .val (.ref (w 1)), .val (.ref (w 0))] [(.int p2), (.ref r0)])) rfl rfl (hb hby d2_33)
  have Fw5 := (F_r0_1.other W4 (Or.inr (slot_ne (Or.inr (hw _ (List.mem_of_getElem? (i := 30) rfl))) (Or.inr (hw _ (List.mem_of_getElem? (i := 28) rfl))) (by decide) (t := .int) (t' := .int) (by decide) (by decide)))).same W5
  have N5 := Fr.snoc X5 N4 g_r0
  have K5 : Keep h0 h5 [r0] := K4.wr W5 (Or.inl (List.mem_of_getElem? (i := 0) rfl))
  refine Go.step st5 ?_
  show Go _ _ _ _ T5 (mkF m 36 #[.val (.ref r0), .val (.int p1), .val (.int p2), .val (.int p3), .val .null, .val (.ref (w 1)), .val (.ref (w 0))] [])
  refine Go.step (fun _ zz => XS.aloadN X5.here hx rfl (hb hby d2_36) rfl rfl zz) ?_
  show Go _ _ _ _ T5 (mkF m 37 #[.val (.ref r0), .val (.int p1), .val (.int p2), .val (.int p3), .val .null, .val (.ref (w 1)), .val (.ref (w 0))] [(.ref r0)])
  refine Go.step (fun _ zz => XS.iloadN X5.here hx rfl (hb hby d2_37) rfl zz) ?_
  show Go _ _ _ _ T5 (mkF m 38 #[.val (.ref r0), .val (.int p1), .val (.int p2), .val (.int p3), .val .null, .val (.ref (w 1)), .val (.ref (w 0))] [(.int p3), (.ref r0)])
  obtain ⟨T6, h6, X6, e6, W6, st6⟩ := putF X5 hx hZ hown (host := "") (Or.inl (hw _ (List.mem_of_getElem? (i := 31) rfl))) Via.refl e5 ((F_r0_2.other W4 (Or.inr (slot_ne (Or.inr (hw _ (List.mem_of_getElem? (i := 32) rfl))) (Or.inr (hw _ (List.mem_of_getElem? (i := 28) rfl))) (by decide) (t := .int) (t' := .int) (by decide) (by decide)))).other W5 (Or.inr (slot_ne (Or.inr (hw _ (List.mem_of_getElem? (i := 32) rfl))) (Or.inr (hw _ (List.mem_of_getElem? (i := 30) rfl))) (by decide) (t := .int) (t' := .int) (by decide) (by decide)))) ((E_r0.wr W4).wr W5) (Or.inr ⟨(hw _ (List.mem_of_getElem? (i := 32) rfl)), rfl, hnm⟩) (hw _ (List.mem_of_getElem? (i := 7) rfl)) (ty := .int) (by decide) rfl rfl (g := (mkF m 38 #[.val (.ref r0), .val (.int p1), .val (.int p2), .val (.int p3), .val .null, .val (.ref (w 1)), .val (.ref (w 0))] [(.int p3), (.ref r0)])) rfl rfl (hb hby d2_38)
  have Fw6 := ((F_r0_2.other W4 (Or.inr (slot_ne (Or.inr (hw _ (List.mem_of_getElem? (i := 32) rfl))) (Or.inr (hw _ (List.mem_of_getElem? (i := 28) rfl))) (by decide) (t := .int) (t' := .int) (by decide) (by decide)))).other W5 (Or.inr (slot_ne (Or.inr (hw _ (List.mem_of_getElem? (i := 32) rfl))) (Or.inr (hw _ (List.mem_of_getElem? (i := 30) rfl))) (by decide) (t := .int) (t' := .int) (by decide) (by decide)))).same W6
  have N6 := Fr.snoc X6 N5 g_r0
  have K6 : Keep h0 h6 [r0] := K5.wr W6 (Or.inl (List.mem_of_getElem? (i := 0) rfl))
  refine Go.step st6 ?_
  show Go _ _ _ _ T6 (mkF m 41 #[.val (.ref r0), .val (.int p1), .val (.int p2), .val (.int p3), .val .null, .val (.ref (w 1)), .val (.ref (w 0))] [])
  refine Go.step (fun _ zz => XS.aloadN X6.here hx rfl (hb hby d2_41) rfl rfl zz) ?_
  show Go _ _ _ _ T6 (mkF m 42 #[.val (.ref r0), .val (.int p1), .val (.int p2), .val (.int p3), .val .null, .val (.ref (w 1)), .val (.ref (w 0))] [(.ref r0)])
  refine Go.step (fun _ zz => XS.aload X6.here hx rfl (hb hby d2_42) rfl rfl zz) ?_
  show Go _ _ _ _ T6 (mkF m 44 #[.val (.ref r0), .val (.int p1), .val (.int p2), .val (.int p3), .val .null, .val (.ref (w 1)), .val (.ref (w 0))] [.null, (.ref r0)])
  obtain ⟨T7, h7, X7, e7, W7, st7⟩ := putF X6 hx hZ hown (host := "") (Or.inl (hw _ (List.mem_of_getElem? (i := 33) rfl))) Via.refl e6 (((F_r0_3.other W4 (Or.inr (slot_ne (Or.inr (hw _ (List.mem_of_getElem? (i := 34) rfl))) (Or.inr (hw _ (List.mem_of_getElem? (i := 28) rfl))) (by decide) (t := (.object "java/lang/String")) (t' := .int) (by decide) (by decide)))).other W5 (Or.inr (slot_ne (Or.inr (hw _ (List.mem_of_getElem? (i := 34) rfl))) (Or.inr (hw _ (List.mem_of_getElem? (i := 30) rfl))) (by decide) (t := (.object "java/lang/String")) (t' := .int) (by decide) (by decide)))).other W6 (Or.inr (slot_ne (Or.inr (hw _ (List.mem_of_getElem? (i := 34) rfl))) (Or.inr (hw _ (List.mem_of_getElem? (i := 32) rfl))) (by decide) (t := (.object "java/lang/String")) (t' := .int) (by decide) (by decide)))) (((E_r0.wr W4).wr W5).wr W6) (Or.inr ⟨(hw _ (List.mem_of_getElem? (i := 34) rfl)), rfl, hnm⟩) (hw _ (List.mem_of_getElem? (i := 7) rfl)) (ty := (.object "java/lang/String")) (by decide) rfl rfl (g := (mkF m 44 #[.val (.ref r0), .val (.int p1), .val (.int p2), .val (.int p3), .val .null, .val (.ref (w 1)), .val (.ref (w 0))] [.null, (.ref r0)])) rfl rfl (hb hby d2_44)
  have Fw7 := (((F_r0_3.other W4 (Or.inr (slot_ne (Or.inr (hw _ (List.mem_of_getElem? (i := 34) rfl))) (Or.inr (hw _ (List.mem_of_getElem? (i := 28) rfl))) (by decide) (t := (.object "java/lang/String")) (t' := .int) (by decide) (by decide)))).other W5 (Or.inr (slot_ne (Or.inr (hw _ (List.mem_of_getElem? (i := 34) rfl))) (Or.inr (hw _ (List.mem_of_getElem? (i := 30) rfl))) (by decide) (t := (.object "java/lang/String")) (t' := .int) (by decide) (by decide)))).other W6 (Or.inr (slot_ne (Or.inr (hw _ (List.mem_of_getElem? (i := 34) rfl))) (Or.inr (hw _ (List.mem_of_getElem? (i := 32) rfl))) (by decide) (t := (.object "java/lang/String")) (t' := .int) (by decide) (by decide)))).same W7
  have N7 := Fr.snoc X7 N6 g_r0
  have K7 : Keep h0 h7 [r0] := K6.wr W7 (Or.inl (List.mem_of_getElem? (i := 0) rfl))
  refine Go.step st7 ?_
  show Go _ _ _ _ T7 (mkF m 47 #[.val (.ref r0), .val (.int p1), .val (.int p2), .val (.int p3), .val .null, .val (.ref (w 1)), .val (.ref (w 0))] [])
  refine Go.step (fun _ zz => XS.aloadN X7.here hx rfl (hb hby d2_47) rfl rfl zz) ?_
  show Go _ _ _ _ T7 (mkF m 48 #[.val (.ref r0), .val (.int p1), .val (.int p2), .val (.int p3), .val .null, .val (.ref (w 1)), .val (.ref (w 0))] [(.ref r0)])
  refine Go.step (fun _ zz => XS.aload X7.here hx rfl (hb hby d2_48) rfl rfl zz) ?_
  show Go _ _ _ _ T7 (mkF m 50 #[.val (.ref r0), .val (.int p1), .val (.int p2), .val (.int p3), .val .null, .val (.ref (w 1)), .val (.ref (w 0))] [(.ref (w 1)), (.ref r0)])
  obtain ⟨T8, h8, X8, e8, W8, st8⟩ := putF X7 hx hZ hown (host := "") (Or.inl (hw _ (List.mem_of_getElem? (i := 35) rfl))) Via.refl e7 ((((F_r0_4.other W4 (Or.inr (slot_ne (Or.inr (hw _ (List.mem_of_getElem? (i := 36) rfl))) (Or.inr (hw _ (List.mem_of_getElem? (i := 28) rfl))) (by decide) (t := (.object "java/util/Map")) (t' := .int) (by decide) (by decide)))).other W5 (Or.inr (slot_ne (Or.inr (hw _ (List.mem_of_getElem? (i := 36) rfl))) (Or.inr (hw _ (List.mem_of_getElem? (i := 30) rfl))) (by decide) (t := (.object "java/util/Map")) (t' := .int) (by decide) (by decide)))).other W6 (Or.inr (slot_ne (Or.inr (hw _ (List.mem_of_getElem? (i := 36) rfl))) (Or.inr (hw _ (List.mem_of_getElem? (i := 32) rfl))) (by decide) (t := (.object "java/util/Map")) (t' := .int) (by decide) (by decide)))).other W7 (Or.inr (slot_ne (Or.inr (hw _ (List.mem_of_getElem? (i := 36) rfl))) (Or.inr (hw _ (List.mem_of_getElem? (i := 34) rfl))) (by decide) (t := (.object "java/util/Map")) (t' := (.object "java/lang/String")) (by decide) (by decide)))) ((((E_r0.wr W4).wr W5).wr W6).wr W7) (Or.inr ⟨(hw _ (List.mem_of_getElem? (i := 36) rfl)), rfl, hnm⟩) (hw _ (List.mem_of_getElem? (i := 7) rfl)) (ty := (.object "java/util/Map")) (by decide) rfl rfl (g := (mkF m 50 #[.val (.ref r0), .val (.int p1), .val (.int p2), .val (.int p3), .val .null, .val (.ref (w 1)), .val (.ref (w 0))] [(.ref (w 1)), (.ref r0)])) rfl rfl (hb hby d2_50)
  have Fw8 := ((((F_r0_4.other W4 (Or.inr (slot_ne (Or.inr (hw _ (List.mem_of_getElem? (i := 36) rfl))) (Or.inr (hw _ (List.mem_of_getElem? (i := 28) rfl))) (by decide) (t := (.object "java/util/Map")) (t' := .int) (by decide) (by decide)))).other W5 (Or.inr (slot_ne (Or.inr (hw _ (List.mem_of_getElem? (i := 36) rfl))) (Or.inr (hw _ (List.mem_of_getElem? (i := 30) rfl))) (by decide) (t := (.object "java/util/Map")) (t' := .int) (by decide) (by decide)))).other W6 (Or.inr (slot_ne (Or.inr (hw _ (List.mem_of_getElem? (i := 36) rfl))) (Or.inr (hw _ (List.mem_of_getElem? (i := 32) rfl))) (by decide) (t := (.object "java/util/Map")) (t' := .int) (by decide) (by decide)))).other W7 (Or.inr (slot_ne (Or.inr (hw _ (List.mem_of_getElem? (i := 36) rfl))) (Or.inr (hw _ (List.mem_of_getElem? (i := 34) rfl))) (by decide) (t := (.object "java/util/Map")) (t' := (.object "java/lang/String")) (by decide) (by decide)))).same W8
  have N8 := Fr.snoc X8 N7 g_r0
  have K8 : Keep h0 h8 [r0] := K7.wr W8 (Or.inl (List.mem_of_getElem? (i := 0) rfl))
  refine Go.step st8 ?_
  show Go _ _ _ _ T8 (mkF m 53 #[.val (.ref r0), .val (.int p1), .val (.int p2), .val (.int p3), .val .null, .val (.ref (w 1)), .val (.ref (w 0))] [])
  refine Go.step (fun _ zz => XS.aloadN X8.here hx rfl (hb hby d2_53) rfl rfl zz) ?_
  show Go _ _ _ _ T8 (mkF m 54 #[.val (.ref r0), .val (.int p1), .val (.int p2), .val (.int p3), .val .null, .val (.ref (w 1)), .val (.ref (w 0))] [(.ref r0)])
  refine Go.step (fun _ zz => XS.aload X8.here hx rfl (hb hby d2_54) rfl rfl zz) ?_
  show Go _ _ _ _ T8 (mkF m 56 #[.val (.ref r0), .val (.int p1), .val (.int p2), .val (.int p3), .val .null, .val (.ref (w 1)), .val (.ref (w 0))] [(.ref (w 0)), (.ref r0)])
  obtain ⟨T9, h9, X9, e9, W9, st9⟩ := putF X8 hx hZ hown (host := "") (Or.inl (hw _ (List.mem_of_getElem? (i := 37) rfl))) Via.refl e8 (((((F_r0_5.other W4 (Or.inr (slot_ne (Or.inr (hw _ (List.mem_of_getElem? (i := 38) rfl))) (Or.inr (hw _ (List.mem_of_getElem? (i := 28) rfl))) (by decide) (t := (.array .byte)) (t' := .int) (by decide) (by decide)))).other W5 (Or.inr (slot_ne (Or.inr (hw _ (List.mem_of_getElem? (i := 38) rfl))) (Or.inr (hw _ (List.mem_of_getElem? (i := 30) rfl))) (by decide) (t := (.array .byte)) (t' := .int) (by decide) (by decide)))).other W6 (Or.inr (slot_ne (Or.inr (hw _ (List.mem_of_getElem? (i := 38) rfl))) (Or.inr (hw _ (List.mem_of_getElem? (i := 32) rfl))) (by decide) (t := (.array .byte)) (t' := .int) (by decide) (by decide)))).other W7 (Or.inr (slot_ne (Or.inr (hw _ (List.mem_of_getElem? (i := 38) rfl))) (Or.inr (hw _ (List.mem_of_getElem? (i := 34) rfl))) (by decide) (t := (.array .byte)) (t' := (.object "java/lang/String")) (by decide) (by decide)))).other W8 (Or.inr (slot_ne (Or.inr (hw _ (List.mem_of_getElem? (i := 38) rfl))) (Or.inr (hw _ (List.mem_of_getElem? (i := 36) rfl))) (by decide) (t := (.array .byte)) (t' := (.object "java/util/Map")) (by decide) (by decide)))) (((((E_r0.wr W4).wr W5).wr W6).wr W7).wr W8) (Or.inr ⟨(hw _ (List.mem_of_getElem? (i := 38) rfl)), rfl, hnm⟩) (hw _ (List.mem_of_getElem? (i := 7) rfl)) (ty := (.array .byte)) (by decide) rfl rfl (g := (mkF m 56 #[.val (.ref r0), .val (.int p1), .val (.int p2), .val (.int p3), .val .null, .val (.ref (w 1)), .val (.ref (w 0))] [(.ref (w 0)), (.ref r0)])) rfl rfl (hb hby d2_56)
  have Fw9 := (((((F_r0_5.other W4 (Or.inr (slot_ne (Or.inr (hw _ (List.mem_of_getElem? (i := 38) rfl))) (Or.inr (hw _ (List.mem_of_getElem? (i := 28) rfl))) (by decide) (t := (.array .byte)) (t' := .int) (by decide) (by decide)))).other W5 (Or.inr (slot_ne (Or.inr (hw _ (List.mem_of_getElem? (i := 38) rfl))) (Or.inr (hw _ (List.mem_of_getElem? (i := 30) rfl))) (by decide) (t := (.array .byte)) (t' := .int) (by decide) (by decide)))).other W6 (Or.inr (slot_ne (Or.inr (hw _ (List.mem_of_getElem? (i := 38) rfl))) (Or.inr (hw _ (List.mem_of_getElem? (i := 32) rfl))) (by decide) (t := (.array .byte)) (t' := .int) (by decide) (by decide)))).other W7 (Or.inr (slot_ne (Or.inr (hw _ (List.mem_of_getElem? (i := 38) rfl))) (Or.inr (hw _ (List.mem_of_getElem? (i := 34) rfl))) (by decide) (t := (.array .byte)) (t' := (.object "java/lang/String")) (by decide) (by decide)))).other W8 (Or.inr (slot_ne (Or.inr (hw _ (List.mem_of_getElem? (i := 38) rfl))) (Or.inr (hw _ (List.mem_of_getElem? (i := 36) rfl))) (by decide) (t := (.array .byte)) (t' := (.object "java/util/Map")) (by decide) (by decide)))).same W9
  have N9 := Fr.snoc X9 N8 g_r0
  have K9 : Keep h0 h9 [r0] := K8.wr W9 (Or.inl (List.mem_of_getElem? (i := 0) rfl))
  refine Go.step st9 ?_
  show Go _ _ _ _ T9 (mkF m 59 #[.val (.ref r0), .val (.int p1), .val (.int p2), .val (.int p3), .val .null, .val (.ref (w 1)), .val (.ref (w 0))] [])
  exact Go.retV X9 hx Bd.returns (hb hby d2_59) Bd.notSynchronized (by rw [e9]; exact ⟨rfl, N9, K9, ((((((E_r0.wr W4).wr W5).wr W6).wr W7).wr W8).wr W9), (((((Fw4.other W5 (Or.inr (slot_ne (Or.inr (hw _ (List.mem_of_getElem? (i := 28) rfl))) (Or.inr (hw _ (List.mem_of_getElem? (i := 30) rfl))) (by decide) (t := .int) (t' := .int) (by decide) (by decide)))).other W6 (Or.inr (slot_ne (Or.inr (hw _ (List.mem_of_getElem? (i := 28) rfl))) (Or.inr (hw _ (List.mem_of_getElem? (i := 32) rfl))) (by decide) (t := .int) (t' := .int) (by decide) (by decide)))).other W7 (Or.inr (slot_ne (Or.inr (hw _ (List.mem_of_getElem? (i := 28) rfl))) (Or.inr (hw _ (List.mem_of_getElem? (i := 34) rfl))) (by decide) (t := .int) (t' := (.object "java/lang/String")) (by decide) (by decide)))).other W8 (Or.inr (slot_ne (Or.inr (hw _ (List.mem_of_getElem? (i := 28) rfl))) (Or.inr (hw _ (List.mem_of_getElem? (i := 36) rfl))) (by decide) (t := .int) (t' := (.object "java/util/Map")) (by decide) (by decide)))).other W9 (Or.inr (slot_ne (Or.inr (hw _ (List.mem_of_getElem? (i := 28) rfl))) (Or.inr (hw _ (List.mem_of_getElem? (i := 38) rfl))) (by decide) (t := .int) (t' := (.array .byte)) (by decide) (by decide)))), ((((Fw5.other W6 (Or.inr (slot_ne (Or.inr (hw _ (List.mem_of_getElem? (i := 30) rfl))) (Or.inr (hw _ (List.mem_of_getElem? (i := 32) rfl))) (by decide) (t := .int) (t' := .int) (by decide) (by decide)))).other W7 (Or.inr (slot_ne (Or.inr (hw _ (List.mem_of_getElem? (i := 30) rfl))) (Or.inr (hw _ (List.mem_of_getElem? (i := 34) rfl))) (by decide) (t := .int) (t' := (.object "java/lang/String")) (by decide) (by decide)))).other W8 (Or.inr (slot_ne (Or.inr (hw _ (List.mem_of_getElem? (i := 30) rfl))) (Or.inr (hw _ (List.mem_of_getElem? (i := 36) rfl))) (by decide) (t := .int) (t' := (.object "java/util/Map")) (by decide) (by decide)))).other W9 (Or.inr (slot_ne (Or.inr (hw _ (List.mem_of_getElem? (i := 30) rfl))) (Or.inr (hw _ (List.mem_of_getElem? (i := 38) rfl))) (by decide) (t := .int) (t' := (.array .byte)) (by decide) (by decide)))), (((Fw6.other W7 (Or.inr (slot_ne (Or.inr (hw _ (List.mem_of_getElem? (i := 32) rfl))) (Or.inr (hw _ (List.mem_of_getElem? (i := 34) rfl))) (by decide) (t := .int) (t' := (.object "java/lang/String")) (by decide) (by decide)))).other W8 (Or.inr (slot_ne (Or.inr (hw _ (List.mem_of_getElem? (i := 32) rfl))) (Or.inr (hw _ (List.mem_of_getElem? (i := 36) rfl))) (by decide) (t := .int) (t' := (.object "java/util/Map")) (by decide) (by decide)))).other W9 (Or.inr (slot_ne (Or.inr (hw _ (List.mem_of_getElem? (i := 32) rfl))) (Or.inr (hw _ (List.mem_of_getElem? (i := 38) rfl))) (by decide) (t := .int) (t' := (.array .byte)) (by decide) (by decide)))), ((Fw7.other W8 (Or.inr (slot_ne (Or.inr (hw _ (List.mem_of_getElem? (i := 34) rfl))) (Or.inr (hw _ (List.mem_of_getElem? (i := 36) rfl))) (by decide) (t := (.object "java/lang/String")) (t' := (.object "java/util/Map")) (by decide) (by decide)))).other W9 (Or.inr (slot_ne (Or.inr (hw _ (List.mem_of_getElem? (i := 34) rfl))) (Or.inr (hw _ (List.mem_of_getElem? (i := 38) rfl))) (by decide) (t := (.object "java/lang/String")) (t' := (.array .byte)) (by decide) (by decide)))), (Fw8.other W9 (Or.inr (slot_ne (Or.inr (hw _ (List.mem_of_getElem? (i := 36) rfl))) (Or.inr (hw _ (List.mem_of_getElem? (i := 38) rfl))) (by decide) (t := (.object "java/util/Map")) (t' := (.array .byte)) (by decide) (by decide)))), Fw9⟩) (by decide) (by decide)
theorem own_pd5 : parseMethodDescriptor "(IIILjava/lang/String;Ljava/util/Map;[B)V" = some ⟨[.int, .int, .int, (.object "java/lang/String"), (.object "java/util/Map"), (.array .byte)], none⟩ := by decide +kernel
theorem d9_0 : decode prog_6_method_4_code 0 = .ok (.new 14, 3) := by decide +kernel
theorem d9_3 : decode prog_6_method_4_code 3 = .ok (.dup, 1) := by decide +kernel
theorem d9_4 : decode prog_6_method_4_code 4 = .ok (.iload_n 1, 1) := by decide +kernel
theorem d9_5 : decode prog_6_method_4_code 5 = .ok (.aload_n 0, 1) := by decide +kernel
theorem d9_6 : decode prog_6_method_4_code 6 = .ok (.getfield 23, 3) := by decide +kernel
theorem d9_9 : decode prog_6_method_4_code 9 = .ok (.iconst 1, 1) := by decide +kernel
theorem d9_10 : decode prog_6_method_4_code 10 = .ok (.aload_n 2, 1) := by decide +kernel
theorem d9_11 : decode prog_6_method_4_code 11 = .ok (.aload_n 3, 1) := by decide +kernel
theorem d9_12 : decode prog_6_method_4_code 12 = .ok (.aload 4, 2) := by decide +kernel
theorem d9_14 : decode prog_6_method_4_code 14 = .ok (.invokespecial 40, 3) := by decide +kernel
theorem d9_17 : decode prog_6_method_4_code 17 = .ok (.areturn, 1) := by decide +kernel
theorem ef_rm9 (m : MethodId) (x0 : Addr) (x1 : Int32) (x3 : Addr) : entryFrame m #[(.ref x0), (.int x1), .null, (.ref x3), .null] 5 = mkF m 0 #[.val (.ref x0), .val (.int x1), .val .null, .val (.ref x3), .val .null] [] := by first | (simp [entryFrame, mkF, argsToLocals, Value.category]; done) | rfl
def Q_rm9 (Z : State) (r0 : Addr) (p1 : Int32) (w : Nat → Addr) (op : Int32) (h0 : Heap) (n0 : Nat) (v : Option Value) (h : Heap) (L : List Loc) : Prop := ∃ b : Addr, v = some (.ref b) ∧ Fr n0 L ∧ Keep h0 h [] ∧ n0 ≤ b ∧ h0.size ≤ b ∧ Exa Z h b "com/example/topicd/topicd/protocol/Command" ∧ Fld Z h b "com/example/topicd/topicd/protocol/Command" "flag" "I" (.int (1 : Int32))
set_option maxRecDepth 65536 in
set_option maxHeartbeats 40000000 in
theorem rm9 (l : Launch) (Z : State) (a0 : Array Value) (hw : ∀ d ∈ tables_1, d.before a0 Z = true) (ws : List Jvm.Cond) (r0 : Addr) (p1 : Int32) (w : Nat → Addr) (op : Int32) (h0 : Heap) (n0 : Nat) (Z0 : n0 ≤ h0.size) (O0 : Old Z n0 h0) (wd : Wd Z w) (E_r0 : Exa Z h0 r0 "com/example/topicd/topicd/protocol/Command") (F_op : Fld Z h0 r0 "com/example/topicd/topicd/protocol/Command" "opaque" "I" (.int op)) :
    MetFree l (⟨"com/example/topicd/topicd/protocol/Command", "answer", "(ILjava/lang/String;Ljava/util/Map;[B)Lcom/example/topicd/topicd/protocol/Command;"⟩ : MethodName) (head1 (Jvm.Cond.code (⟨"com/example/topicd/topicd/protocol/Command", "answer", "(ILjava/lang/String;Ljava/util/Map;[B)Lcom/example/topicd/topicd/protocol/Command;"⟩ : MethodName) prog_6_method_4_code 5 (some (.object "com/example/topicd/topicd/protocol/Command")) :: ws) ({ frames := 3, cells := 1, slots := 6, locals := 43 } : Room)) (fun az Uz => az = #[(.ref r0), (.int p1), .null, (.ref (w 1)), .null] ∧ Z.Warmed39 Uz.vm ∧ Uz.heap = h0) (fun _ _ _ _ _ => True) (fun _ Uz oz Vz => ∃ vz Lz, oz = .returned vz ∧ Q_rm9 Z r0 p1 w op h0 n0 vz Vz.heap Lz ∧ FrameEnd Uz oz Vz Lz ({ frames := 3, cells := 1, slots := 6, locals := 43 } : Room).cells ({ frames := 3, cells := 1, slots := 6, locals := 43 } : Room).slots) := by
  refine MetFree.of_bodySF (plainFor_of_name own_pn4) hisR ?_
  intro p e s m args below meth c s₁ Bd hml0 hP hK
  obtain ⟨rfl, hZ, hh⟩ := hP
  have hx := Bd.exec
  have hby := Bd.bytes
  have hml : c.maxLocals = 5 := hml0
  have hown : s.vm.findClass "com/example/topicd/topicd/protocol/Command" = some m.cls := findClass_of_methodNamed Bd.named
  have hnm := (name_of_methodNamed Bd.named Bd.method).1
  have X0 : Stand p l e ({ frames := 3, cells := 1, slots := 6, locals := 43 } : Room) s m #[(.ref r0), (.int p1), .null, (.ref (w 1)), .null] below meth c s₁ [] 0 0 := Stand.of_body Bd
  have e0 : s₁.heap = h0 := by rw [← hh, Bd.state]; rfl
  have N0 := Fr.nil n0
  have K0 : Keep h0 h0 [] := Keep.refl _ _
  refine Go.enter (Q := Q_rm9 Z r0 p1 w op h0 n0) (C := ({ frames := 3, cells := 1, slots := 6, locals := 43 } : Room).cells) (S := ({ frames := 3, cells := 1, slots := 6, locals := 43 } : Room).slots) (ef_rm9 m r0 p1 (w 1)) ?_
  obtain ⟨T1, h1, X1, e1, E1, A1, D1, -, st1⟩ := newO X0 hx hZ hown (hw _ (List.mem_of_getElem? (i := 42) rfl)) (hw _ (List.mem_of_getElem? (i := 7) rfl)) (hw _ (List.mem_of_getElem? (i := 8) rfl)) e0 (g := (mkF m 0 #[.val (.ref r0), .val (.int p1), .val .null, .val (.ref (w 1)), .val .null] [])) rfl (hb hby d9_0) (by decide) (by decide)
  obtain ⟨b1, g1⟩ : ∃ z, z = h0.size := ⟨_, rfl⟩
  rw [← g1] at A1 D1 st1
  have F1_28 : Fld Z h1 b1 "com/example/topicd/topicd/protocol/Command" "code" "I" (.int (0 : Int32)) := D1 (Or.inr (hw _ (List.mem_of_getElem? (i := 28) rfl))) (ty := .int) (by decide)
  have F1_30 : Fld Z h1 b1 "com/example/topicd/topicd/protocol/Command" "opaque" "I" (.int (0 : Int32)) := D1 (Or.inr (hw _ (List.mem_of_getElem? (i := 30) rfl))) (ty := .int) (by decide)
  have F1_32 : Fld Z h1 b1 "com/example/topicd/topicd/protocol/Command" "flag" "I" (.int (0 : Int32)) := D1 (Or.inr (hw _ (List.mem_of_getElem? (i := 32) rfl))) (ty := .int) (by decide)
  have F1_34 : Fld Z h1 b1 "com/example/topicd/topicd/protocol/Command" "remark" "Ljava/lang/String;" .null := D1 (Or.inr (hw _ (List.mem_of_getElem? (i := 34) rfl))) (ty := (.object "java/lang/String")) (by decide)
  have F1_36 : Fld Z h1 b1 "com/example/topicd/topicd/protocol/Command" "extFields" "Ljava/util/Map;" .null := D1 (Or.inr (hw _ (List.mem_of_getElem? (i := 36) rfl))) (ty := (.object "java/util/Map")) (by decide)
  have F1_38 : Fld Z h1 b1 "com/example/topicd/topicd/protocol/Command" "body" "[B" .null := D1 (Or.inr (hw _ (List.mem_of_getElem? (i := 38) rfl))) (ty := (.array .byte)) (by decide)
  have g_b1 : n0 ≤ b1 := Nat.le_trans Z0 (Nat.le_of_eq g1.symm)
  have sz_b1 : h0.size ≤ b1 := Nat.le_trans K0.1 (Nat.le_of_eq g1.symm)
  have K1 : Keep h0 h1 [] := K0.ext E1
  refine Go.step st1 ?_
  show Go _ _ _ _ T1 (mkF m 3 #[.val (.ref r0), .val (.int p1), .val .null, .val (.ref (w 1)), .val .null] [(.ref b1)])
  refine Go.step (fun _ zz => XS.dup X1.here hx rfl (hb hby d9_3) rfl rfl zz) ?_
  show Go _ _ _ _ T1 (mkF m 4 #[.val (.ref r0), .val (.int p1), .val .null, .val (.ref (w 1)), .val .null] [(.ref b1), (.ref b1)])
  refine Go.step (fun _ zz => XS.iloadN X1.here hx rfl (hb hby d9_4) rfl zz) ?_
  show Go _ _ _ _ T1 (mkF m 5 #[.val (.ref r0), .val (.int p1), .val .null, .val (.ref (w 1)), .val .null] [(.int p1), (.ref b1), (.ref b1)])
  refine Go.step (fun _ zz => XS.aloadN X1.here hx rfl (hb hby d9_5) rfl rfl zz) ?_
  show Go _ _ _ _ T1 (mkF m 6 #[.val (.ref r0), .val (.int p1), .val .null, .val (.ref (w 1)), .val .null] [(.ref r0), (.int p1), (.ref b1), (.ref b1)])
  obtain ⟨T2, X2, e2, st2⟩ := getF X1 hx hZ hown (host := "") (Or.inl (hw _ (List.mem_of_getElem? (i := 29) rfl))) Via.refl e1 (F_op.ext E1) (g := (mkF m 6 #[.val (.ref r0), .val (.int p1), .val .null, .val (.ref (w 1)), .val .null] [(.ref r0), (.int p1), (.ref b1), (.ref b1)])) rfl rfl (hb hby d9_6)
  refine Go.step st2 ?_
  show Go _ _ _ _ T2 (mkF m 9 #[.val (.ref r0), .val (.int p1), .val .null, .val (.ref (w 1)), .val .null] [(.int op), (.int p1), (.ref b1), (.ref b1)])
  refine Go.step (fun _ zz => XS.iconst X2.here hx rfl (hb hby d9_9) zz) ?_
  show Go _ _ _ _ T2 (mkF m 10 #[.val (.ref r0), .val (.int p1), .val .null, .val (.ref (w 1)), .val .null] [(.int (1 : Int32)), (.int op), (.int p1), (.ref b1), (.ref b1)])
  refine Go.step (fun _ zz => XS.aloadN X2.here hx rfl (hb hby d9_10) rfl rfl zz) ?_
  show Go _ _ _ _ T2 (mkF m 11 #[.val (.ref r0), .val (.int p1), .val .null, .val (.ref (w 1)), .val .null] [.null, (.int (1 : Int32)), (.int op), (.int p1), (.ref b1), (.ref b1)])
  refine Go.step (fun _ zz => XS.aloadN X2.here hx rfl (hb hby d9_11) rfl rfl zz) ?_
  show Go _ _ _ _ T2 (mkF m 12 #[.val (.ref r0), .val (.int p1), .val .null, .val (.ref (w 1)), .val .null] [(.ref (w 1)), .null, (.int (1 : Int32)), (.int op), (.int p1), (.ref b1), (.ref b1)])
  refine Go.step (fun _ zz => XS.aload X2.here hx rfl (hb hby d9_12) rfl rfl zz) ?_
  show Go _ _ _ _ T2 (mkF m 14 #[.val (.ref r0), .val (.int p1), .val .null, .val (.ref (w 1)), .val .null] [.null, (.ref (w 1)), .null, (.int (1 : Int32)), (.int op), (.int p1), (.ref b1), (.ref b1)])
  obtain ⟨_, _, ⟨T3, L3, k3, n3⟩, -, X3, ⟨Lc3, hQ3, l3, y3, z3⟩, st3⟩ := X2.specialBack hx (y := (⟨"com/example/topicd/topicd/protocol/Command", "<init>", "(IIILjava/lang/String;Ljava/util/Map;[B)V"⟩ : MethodName)) rfl hown (mvT hZ (hw _ (List.mem_of_getElem? (i := 43) rfl))) (mvT hZ (hw _ (List.mem_of_getElem? (i := 10) rfl))) (mvT hZ (hw _ (List.mem_of_getElem? (i := 11) rfl))) (by decide) (backOf (W := 1) (rm2 l Z a0 hw [] b1 p1 op (1 : Int32) w h1 n0 (Nat.le_trans Z0 E1.1) (O0.ext E1) wd g_b1 A1 F1_28 F1_30 F1_32 F1_34 F1_36 F1_38) hZ (hw _ (List.mem_of_getElem? (i := 11) rfl)) (hw _ (List.mem_of_getElem? (i := 8) rfl)) (by decide) (by decide)) (g := (mkF m 14 #[.val (.ref r0), .val (.int p1), .val .null, .val (.ref (w 1)), .val .null] [.null, (.ref (w 1)), .null, (.int (1 : Int32)), (.int op), (.int p1), (.ref b1), (.ref b1)])) rfl (by rw [hml]; rfl) (Steps.refl _) (a := b1) (argsL := [(.int p1), (.int op), (.int (1 : Int32)), .null, (.ref (w 1)), .null]) (rest := [(.ref b1)]) (lenOf own_pd5 rfl) rfl (by show 2 * 0 + _ ≤ _; exact Nat.le_of_eq rfl) (hb hby d9_14) (fun _ _ => ⟨rfl, e2, (by decide : 1 + 0 ≤ _), (by decide : 6 + 0 ≤ _)⟩)
  dsimp only [Pt.U, Pt.locs, Pt.cells, Pt.slots] at X3 l3 y3 z3 st3 hQ3
  subst l3 y3 z3
  obtain ⟨rfl, N3q, K3, E3, F3_0, F3_1, F3_2, F3_3, F3_4, F3_5⟩ := hQ3
  have N3 := Fr.app N0 N3q
  refine Go.tr st3 ?_
  have Kc3 : Keep h0 T3.heap [] := K1.trans K3 (allS (Or.inr sz_b1) all0)
  show Go _ _ _ _ T3 (mkF m 17 #[.val (.ref r0), .val (.int p1), .val .null, .val (.ref (w 1)), .val .null] [(.ref b1)])
  exact Go.retA X3 hx Bd.returns rfl (hb hby d9_17) rfl Bd.notSynchronized (⟨b1, rfl, N3, Kc3, g_b1, sz_b1, E3, F3_2⟩) (by decide) (by decide)
theorem own_pd6 : parseMethodDescriptor "()Ljava/util/Map;" = some ⟨[], some (.object "java/util/Map")⟩ := by decide +kernel
theorem own_pd7 : parseMethodDescriptor "(ILjava/lang/String;Ljava/util/Map;[B)Lcom/example/topicd/topicd/protocol/Command;" = some ⟨[.int, (.object "java/lang/String"), (.object "java/util/Map"), (.array .byte)], some (.object "com/example/topicd/topicd/protocol/Command")⟩ := by decide +kernel
theorem d8_0 : decode prog_6_method_5_code 0 = .ok (.aload_n 0, 1) := by decide +kernel
theorem d8_1 : decode prog_6_method_5_code 1 = .ok (.iload_n 1, 1) := by decide +kernel
theorem d8_2 : decode prog_6_method_5_code 2 = .ok (.aload_n 2, 1) := by decide +kernel
theorem d8_3 : decode prog_6_method_5_code 3 = .ok (.invokestatic 43, 3) := by decide +kernel
theorem d8_6 : decode prog_6_method_5_code 6 = .ok (.aconst_null, 1) := by decide +kernel
theorem d8_7 : decode prog_6_method_5_code 7 = .ok (.invokevirtual 47, 3) := by decide +kernel
theorem d8_10 : decode prog_6_method_5_code 10 = .ok (.areturn, 1) := by decide +kernel
theorem ef_rm8 (m : MethodId) (x0 : Addr) (x1 : Int32) : entryFrame m #[(.ref x0), (.int x1), .null] 3 = mkF m 0 #[.val (.ref x0), .val (.int x1), .val .null] [] := by first | (simp [entryFrame, mkF, argsToLocals, Value.category]; done) | rfl
def Q_rm8 (Z : State) (r0 : Addr) (p1 : Int32) (w : Nat → Addr) (op : Int32) (h0 : Heap) (n0 : Nat) (v : Option Value) (h : Heap) (L : List Loc) : Prop := ∃ b : Addr, v = some (.ref b) ∧ Fr n0 L ∧ Keep h0 h [] ∧ n0 ≤ b ∧ h0.size ≤ b ∧ Exa Z h b "com/example/topicd/topicd/protocol/Command" ∧ Fld Z h b "com/example/topicd/topicd/protocol/Command" "flag" "I" (.int (1 : Int32))
set_option maxRecDepth 65536 in
set_option maxHeartbeats 40000000 in
theorem rm8 (l : Launch) (Z : State) (a0 : Array Value) (hw : ∀ d ∈ tables_1, d.before a0 Z = true) (ws : List Jvm.Cond) (r0 : Addr) (p1 : Int32) (w : Nat → Addr) (op : Int32) (h0 : Heap) (n0 : Nat) (Z0 : n0 ≤ h0.size) (O0 : Old Z n0 h0) (wd : Wd Z w) (E_r0 : Exa Z h0 r0 "com/example/topicd/topicd/protocol/Command") (F_op : Fld Z h0 r0 "com/example/topicd/topicd/protocol/Command" "opaque" "I" (.int op)) :
    MetFree l (⟨"com/example/topicd/topicd/protocol/Command", "answer", "(ILjava/lang/String;)Lcom/example/topicd/topicd/protocol/Command;"⟩ : MethodName) (head1 (Jvm.Cond.code (⟨"com/example/topicd/topicd/protocol/Command", "answer", "(ILjava/lang/String;)Lcom/example/topicd/topicd/protocol/Command;"⟩ : MethodName) prog_6_method_5_code 3 (some (.object "com/example/topicd/topicd/protocol/Command")) :: ws) ({ frames := 4, cells := 1, slots := 6, locals := 59 } : Room)) (fun az Uz => az = #[(.ref r0), (.int p1), .null] ∧ Z.Warmed39 Uz.vm ∧ Uz.heap = h0) (fun _ _ _ _ _ => True) (fun _ Uz oz Vz => ∃ vz Lz, oz = .returned vz ∧ Q_rm8 Z r0 p1 w op h0 n0 vz Vz.heap Lz ∧ FrameEnd Uz oz Vz Lz ({ frames := 4, cells := 1, slots := 6, locals := 59 } : Room).cells ({ frames := 4, cells := 1, slots := 6, locals := 59 } : Room).slots) := by
  refine MetFree.of_bodySF (plainFor_of_name own_pn4) hisR ?_
  intro p e s m args below meth c s₁ Bd hml0 hP hK
  obtain ⟨rfl, hZ, hh⟩ := hP
  have hx := Bd.exec
  have hby := Bd.bytes
  have hml : c.maxLocals = 3 := hml0
  have hown : s.vm.findClass "com/example/topicd/topicd/protocol/Command" = some m.cls := findClass_of_methodNamed Bd.named
  have hnm := (name_of_methodNamed Bd.named Bd.method).1
  have X0 : Stand p l e ({ frames := 4, cells := 1, slots := 6, locals := 59 } : Room) s m #[(.ref r0), (.int p1), .null] below meth c s₁ [] 0 0 := Stand.of_body Bd
  have e0 : s₁.heap = h0 := by rw [← hh, Bd.state]; rfl
  have N0 := Fr.nil n0
  have K0 : Keep h0 h0 [] := Keep.refl _ _
  refine Go.enter (Q := Q_rm8 Z r0 p1 w op h0 n0) (C := ({ frames := 4, cells := 1, slots := 6, locals := 59 } : Room).cells) (S := ({ frames := 4, cells := 1, slots := 6, locals := 59 } : Room).slots) (ef_rm8 m r0 p1) ?_
  refine Go.step (fun _ zz => XS.aloadN X0.here hx rfl (hb hby d8_0) rfl rfl zz) ?_
  show Go _ _ _ _ s₁ (mkF m 1 #[.val (.ref r0), .val (.int p1), .val .null] [(.ref r0)])
  refine Go.step (fun _ zz => XS.iloadN X0.here hx rfl (hb hby d8_1) rfl zz) ?_
  show Go _ _ _ _ s₁ (mkF m 2 #[.val (.ref r0), .val (.int p1), .val .null] [(.int p1), (.ref r0)])
  refine Go.step (fun _ zz => XS.aloadN X0.here hx rfl (hb hby d8_2) rfl rfl zz) ?_
  show Go _ _ _ _ s₁ (mkF m 3 #[.val (.ref r0), .val (.int p1), .val .null] [.null, (.int p1), (.ref r0)])
  obtain ⟨_, _, ⟨T1, L1, k1, n1⟩, -, X1, ⟨Lc1, hQ1, l1, y1, z1⟩, st1⟩ := Jvm.LawKit.callS X0 hx (y := (⟨"java/util/Map", "of", "()Ljava/util/Map;"⟩ : MethodName)) hown (mvT hZ (hw _ (List.mem_of_getElem? (i := 52) rfl))) (mvT hZ (hw _ (List.mem_of_getElem? (i := 1) rfl))) (mvT hZ (hw _ (List.mem_of_getElem? (i := 2) rfl))) (mvT hZ (hw _ (List.mem_of_getElem? (i := 3) rfl))) (by decide) (backOf (W := 3) (rm1 l Z a0 hw [] w h0 n0 Z0 O0 wd) hZ (hw _ (List.mem_of_getElem? (i := 3) rfl)) (hw _ (List.mem_of_getElem? (i := 2) rfl)) (by decide) (by decide)) (g := (mkF m 3 #[.val (.ref r0), .val (.int p1), .val .null] [.null, (.int p1), (.ref r0)])) rfl (by rw [hml]; rfl) (argsL := []) (rest := [.null, (.int p1), (.ref r0)]) (lenOf own_pd6 rfl) rfl (by show 2 * 0 + _ ≤ _; exact Nat.le_of_eq rfl) (hb hby d8_3) (fun _ _ => ⟨rfl, e0, (by decide : 0 + 0 ≤ _), (by decide : 0 + 0 ≤ _)⟩)
  dsimp only [Pt.U, Pt.locs, Pt.cells, Pt.slots] at X1 l1 y1 z1 st1 hQ1
  subst l1 y1 z1
  obtain ⟨rfl, N1q, e1⟩ := hQ1
  have N1 := Fr.app N0 N1q
  refine Go.step st1 ?_
  show Go _ _ _ _ T1 (mkF m 6 #[.val (.ref r0), .val (.int p1), .val .null] [(.ref (w 1)), .null, (.int p1), (.ref r0)])
  refine Go.step (fun _ zz => XS.aconstNull X1.here hx rfl (hb hby d8_6) zz) ?_
  show Go _ _ _ _ T1 (mkF m 7 #[.val (.ref r0), .val (.int p1), .val .null] [.null, (.ref (w 1)), .null, (.int p1), (.ref r0)])
  obtain ⟨cq2, kq2, q2a, q2b, q2c⟩ := isOf hZ e1 E_r0
  obtain ⟨_, _, ⟨T2, L2, k2, n2⟩, -, X2, ⟨Lc2, hQ2, l2, y2, z2⟩, st2⟩ := X1.virtualBack hx (y := (⟨"com/example/topicd/topicd/protocol/Command", "answer", "(ILjava/lang/String;Ljava/util/Map;[B)Lcom/example/topicd/topicd/protocol/Command;"⟩ : MethodName)) (z := (⟨"com/example/topicd/topicd/protocol/Command", "answer", "(ILjava/lang/String;Ljava/util/Map;[B)Lcom/example/topicd/topicd/protocol/Command;"⟩ : MethodName)) hown (mvT hZ (hw _ (List.mem_of_getElem? (i := 53) rfl))) (mvT hZ (hw _ (List.mem_of_getElem? (i := 54) rfl))) (notFace_of_selects (args := #[]) (mvT hZ (hw _ (List.mem_of_getElem? (i := 56) rfl)))) (mvT hZ (hw _ (List.mem_of_getElem? (i := 56) rfl))) (mvT hZ (hw _ (List.mem_of_getElem? (i := 55) rfl))) (by decide) (backOf (W := 0) (rm9 l Z a0 hw [] r0 p1 w op h0 n0 Z0 O0 wd E_r0 F_op) hZ (hw _ (List.mem_of_getElem? (i := 57) rfl)) (hw _ (List.mem_of_getElem? (i := 8) rfl)) (by decide) (by decide)) q2a q2c (g := (mkF m 7 #[.val (.ref r0), .val (.int p1), .val .null] [.null, (.ref (w 1)), .null, (.int p1), (.ref r0)])) rfl (by rw [hml]; rfl) (Steps.refl _) (argsL := [(.int p1), .null, (.ref (w 1)), .null]) (rest := []) (lenOf own_pd7 rfl) rfl (by show 2 * 0 + _ ≤ _; exact Nat.le_of_eq rfl) (hb hby d8_7) (fun _ _ => ⟨rfl, e1, (by decide : 0 + 1 ≤ _), (by decide : 0 + 6 ≤ _)⟩)
  dsimp only [Pt.U, Pt.locs, Pt.cells, Pt.slots] at X2 l2 y2 z2 st2 hQ2
  subst l2 y2 z2
  obtain ⟨b2, rfl, N2q, K2, g_b2, s_b2, E2, F2_0⟩ := hQ2
  have N2 := Fr.app N1 N2q
  refine Go.tr st2 ?_
  have sz_b2 : h0.size ≤ b2 := Nat.le_trans K0.1 s_b2
  have Kc2 : Keep h0 T2.heap [] := K0.trans K2 all0
  show Go _ _ _ _ T2 (mkF m 10 #[.val (.ref r0), .val (.int p1), .val .null] [(.ref b2)])
  exact Go.retA X2 hx Bd.returns rfl (hb hby d8_10) rfl Bd.notSynchronized (⟨b2, rfl, N2, Kc2, g_b2, sz_b2, E2, F2_0⟩) (by decide) (by decide)
theorem d10_0 : decode prog_6_method_7_code 0 = .ok (.aload_n 0, 1) := by decide +kernel
theorem d10_1 : decode prog_6_method_7_code 1 = .ok (.getfield 26, 3) := by decide +kernel
theorem d10_4 : decode prog_6_method_7_code 4 = .ok (.iconst 2, 1) := by decide +kernel
theorem d10_5 : decode prog_6_method_7_code 5 = .ok (.iand, 1) := by decide +kernel
theorem d10_6 : decode prog_6_method_7_code 6 = .ok (.ifCond .eq 7, 3) := by decide +kernel
theorem d10_9 : decode prog_6_method_7_code 9 = .ok (.iconst 1, 1) := by decide +kernel
theorem d10_10 : decode prog_6_method_7_code 10 = .ok (.goto 4, 3) := by decide +kernel
theorem d10_13 : decode prog_6_method_7_code 13 = .ok (.iconst 0, 1) := by decide +kernel
theorem d10_14 : decode prog_6_method_7_code 14 = .ok (.ireturn, 1) := by decide +kernel
theorem ef_rm10 (m : MethodId) (x0 : Addr) : entryFrame m #[(.ref x0)] 1 = mkF m 0 #[.val (.ref x0)] [] := by first | (simp [entryFrame, mkF, argsToLocals, Value.category]; done) | rfl
def own_f10 (r0 : Addr) (fv : Int32) : Int32 := (if (fv &&& (2 : Int32)) = (0 : Int32) then (0 : Int32) else (1 : Int32))
def Q_rm10 (Z : State) (r0 : Addr) (fv : Int32) (h0 : Heap) (n0 : Nat) (v : Option Value) (h : Heap) (L : List Loc) : Prop := v = some (Value.int (own_f10 r0 fv)) ∧ Fr n0 L ∧ h = h0
set_option maxRecDepth 65536 in
set_option maxHeartbeats 40000000 in
theorem rm10 (l : Launch) (Z : State) (a0 : Array Value) (hw : ∀ d ∈ tables_1, d.before a0 Z = true) (ws : List Jvm.Cond) (r0 : Addr) (fv : Int32) (h0 : Heap) (n0 : Nat) (Z0 : n0 ≤ h0.size) (Fc : Fld Z h0 r0 "com/example/topicd/topicd/protocol/Command" "flag" "I" (.int fv)) :
    MetFree l (⟨"com/example/topicd/topicd/protocol/Command", "isOneway", "()Z"⟩ : MethodName) (head1 (Jvm.Cond.code (⟨"com/example/topicd/topicd/protocol/Command", "isOneway", "()Z"⟩ : MethodName) prog_6_method_7_code 1 (some .boolean) :: ws) ({ frames := 0, cells := 0, slots := 0, locals := 0 } : Room)) (fun az Uz => az = #[(.ref r0)] ∧ Z.Warmed39 Uz.vm ∧ Uz.heap = h0) (fun _ _ _ _ _ => True) (fun _ Uz oz Vz => ∃ vz Lz, oz = .returned vz ∧ Q_rm10 Z r0 fv h0 n0 vz Vz.heap Lz ∧ FrameEnd Uz oz Vz Lz ({ frames := 0, cells := 0, slots := 0, locals := 0 } : Room).cells ({ frames := 0, cells := 0, slots := 0, locals := 0 } : Room).slots) := by
  refine MetFree.of_bodySF (plainFor_of_name own_pn4) hisR ?_
  intro p e s m args below meth c s₁ Bd hml0 hP hK
  obtain ⟨rfl, hZ, hh⟩ := hP
  have hx := Bd.exec
  have hby := Bd.bytes
  have hml : c.maxLocals = 1 := hml0
  have hown : s.vm.findClass "com/example/topicd/topicd/protocol/Command" = some m.cls := findClass_of_methodNamed Bd.named
  have hnm := (name_of_methodNamed Bd.named Bd.method).1
  have X0 : Stand p l e ({ frames := 0, cells := 0, slots := 0, locals := 0 } : Room) s m #[(.ref r0)] below meth c s₁ [] 0 0 := Stand.of_body Bd
  have e0 : s₁.heap = h0 := by rw [← hh, Bd.state]; rfl
  have N0 := Fr.nil n0
  have K0 : Keep h0 h0 [] := Keep.refl _ _
  refine Go.enter (Q := Q_rm10 Z r0 fv h0 n0) (C := ({ frames := 0, cells := 0, slots := 0, locals := 0 } : Room).cells) (S := ({ frames := 0, cells := 0, slots := 0, locals := 0 } : Room).slots) (ef_rm10 m r0) ?_
  refine Go.step (fun _ zz => XS.aloadN X0.here hx rfl (hb hby d10_0) rfl rfl zz) ?_
  show Go _ _ _ _ s₁ (mkF m 1 #[.val (.ref r0)] [(.ref r0)])
  obtain ⟨T1, X1, e1, st1⟩ := getF X0 hx hZ hown (host := "") (Or.inl (hw _ (List.mem_of_getElem? (i := 31) rfl))) Via.refl e0 Fc (g := (mkF m 1 #[.val (.ref r0)] [(.ref r0)])) rfl rfl (hb hby d10_1)
  refine Go.step st1 ?_
  show Go _ _ _ _ T1 (mkF m 4 #[.val (.ref r0)] [(.int fv)])
  refine Go.step (fun _ zz => XS.iconst X1.here hx rfl (hb hby d10_4) zz) ?_
  show Go _ _ _ _ T1 (mkF m 5 #[.val (.ref r0)] [(.int (2 : Int32)), (.int fv)])
  refine Go.step (fun _ zz => XS.iand X1.here hx rfl (hb hby d10_5) rfl zz) ?_
  show Go _ _ _ _ T1 (mkF m 6 #[.val (.ref r0)] [(.int (fv &&& (2 : Int32)))])
  by_cases hc6 : (fv &&& (2 : Int32)) = (0 : Int32)
  · refine Go.step (fun _ zz => XS.ifYes X1.here hx rfl (pc0 := 6) (pc' := 13) rfl (hb hby d10_6) rfl ((if0 _ _).trans (teq hc6).1) (by decide) (by decide) zz) ?_
    show Go _ _ _ _ T1 (mkF m 13 #[.val (.ref r0)] [])
    refine Go.step (fun _ zz => XS.iconst X1.here hx rfl (hb hby d10_13) zz) ?_
    show Go _ _ _ _ T1 (mkF m 14 #[.val (.ref r0)] [(.int (0 : Int32))])
    exact Go.retN X1 hx (t := .boolean) Bd.returns (by simp) (hb hby d10_14) Bd.notSynchronized (z' := (0 : Int32)) (by decide) (⟨congrArg (fun q => some (Value.int q)) (show own_f10 r0 fv = (0 : Int32) from by unfold own_f10; rw [if_pos hc6]).symm, N0, e1⟩) (by decide) (by decide)
  · refine Go.step (fun _ zz => XS.ifNo X1.here hx rfl (hb hby d10_6) rfl ((if0 _ _).trans (feq hc6).1) zz) ?_
    show Go _ _ _ _ T1 (mkF m 9 #[.val (.ref r0)] [])
    refine Go.step (fun _ zz => XS.iconst X1.here hx rfl (hb hby d10_9) zz) ?_
    show Go _ _ _ _ T1 (mkF m 10 #[.val (.ref r0)] [(.int (1 : Int32))])
    refine Go.step (fun _ zz => XS.goto X1.here hx rfl (pc0 := 10) (pc' := 14) rfl (hb hby d10_10) (by decide) (by decide) zz) ?_
    show Go _ _ _ _ T1 (mkF m 14 #[.val (.ref r0)] [(.int (1 : Int32))])
    exact Go.retN X1 hx (t := .boolean) Bd.returns (by simp) (hb hby d10_14) Bd.notSynchronized (z' := (1 : Int32)) (by decide) (⟨congrArg (fun q => some (Value.int q)) (show own_f10 r0 fv = (1 : Int32) from by unfold own_f10; rw [if_neg hc6]).symm, N0, e1⟩) (by decide) (by decide)
theorem d6_0 : decode prog_6_method_3_code 0 = .ok (.new 14, 3) := by decide +kernel
theorem d6_3 : decode prog_6_method_3_code 3 = .ok (.dup, 1) := by decide +kernel
theorem d6_4 : decode prog_6_method_3_code 4 = .ok (.iload_n 0, 1) := by decide +kernel
theorem d6_5 : decode prog_6_method_3_code 5 = .ok (.iload_n 1, 1) := by decide +kernel
theorem d6_6 : decode prog_6_method_3_code 6 = .ok (.iconst 2, 1) := by decide +kernel
theorem d6_7 : decode prog_6_method_3_code 7 = .ok (.aconst_null, 1) := by decide +kernel
theorem d6_8 : decode prog_6_method_3_code 8 = .ok (.aload_n 2, 1) := by decide +kernel
theorem d6_9 : decode prog_6_method_3_code 9 = .ok (.aload_n 3, 1) := by decide +kernel
theorem d6_10 : decode prog_6_method_3_code 10 = .ok (.invokespecial 40, 3) := by decide +kernel
theorem d6_13 : decode prog_6_method_3_code 13 = .ok (.areturn, 1) := by decide +kernel
theorem ef_rm6 (m : MethodId) (x0 : Int32) (x1 : Int32) (x2 : Addr) : entryFrame m #[(.int x0), (.int x1), (.ref x2), .null] 4 = mkF m 0 #[.val (.int x0), .val (.int x1), .val (.ref x2), .val .null] [] := by first | (simp [entryFrame, mkF, argsToLocals, Value.category]; done) | rfl
def Q_rm6 (Z : State) (p0 : Int32) (p1 : Int32) (w : Nat → Addr) (h0 : Heap) (n0 : Nat) (v : Option Value) (h : Heap) (L : List Loc) : Prop := ∃ b : Addr, v = some (.ref b) ∧ Fr n0 L ∧ Keep h0 h [] ∧ n0 ≤ b ∧ h0.size ≤ b ∧ Exa Z h b "com/example/topicd/topicd/protocol/Command" ∧ Fld Z h b "com/example/topicd/topicd/protocol/Command" "flag" "I" (.int (2 : Int32))
set_option maxRecDepth 65536 in
set_option maxHeartbeats 40000000 in
theorem rm6 (l : Launch) (Z : State) (a0 : Array Value) (hw : ∀ d ∈ tables_1, d.before a0 Z = true) (ws : List Jvm.Cond) (p0 : Int32) (p1 : Int32) (w : Nat → Addr) (h0 : Heap) (n0 : Nat) (Z0 : n0 ≤ h0.size) (O0 : Old Z n0 h0) (wd : Wd Z w) :
    MetFree l (⟨"com/example/topicd/topicd/protocol/Command", "oneway", "(IILjava/util/Map;[B)Lcom/example/topicd/topicd/protocol/Command;"⟩ : MethodName) (head1 (Jvm.Cond.code (⟨"com/example/topicd/topicd/protocol/Command", "oneway", "(IILjava/util/Map;[B)Lcom/example/topicd/topicd/protocol/Command;"⟩ : MethodName) prog_6_method_3_code 4 (some (.object "com/example/topicd/topicd/protocol/Command")) :: ws) ({ frames := 3, cells := 1, slots := 6, locals := 43 } : Room)) (fun az Uz => az = #[(.int p0), (.int p1), (.ref (w 1)), .null] ∧ Z.Warmed39 Uz.vm ∧ Uz.heap = h0) (fun _ _ _ _ _ => True) (fun _ Uz oz Vz => ∃ vz Lz, oz = .returned vz ∧ Q_rm6 Z p0 p1 w h0 n0 vz Vz.heap Lz ∧ FrameEnd Uz oz Vz Lz ({ frames := 3, cells := 1, slots := 6, locals := 43 } : Room).cells ({ frames := 3, cells := 1, slots := 6, locals := 43 } : Room).slots) := by
  refine MetFree.of_bodySF (plainFor_of_name own_pn4) hisR ?_
  intro p e s m args below meth c s₁ Bd hml0 hP hK
  obtain ⟨rfl, hZ, hh⟩ := hP
  have hx := Bd.exec
  have hby := Bd.bytes
  have hml : c.maxLocals = 4 := hml0
  have hown : s.vm.findClass "com/example/topicd/topicd/protocol/Command" = some m.cls := findClass_of_methodNamed Bd.named
  have hnm := (name_of_methodNamed Bd.named Bd.method).1
  have X0 : Stand p l e ({ frames := 3, cells := 1, slots := 6, locals := 43 } : Room) s m #[(.int p0), (.int p1), (.ref (w 1)), .null] below meth c s₁ [] 0 0 := Stand.of_body Bd
  have e0 : s₁.heap = h0 := by rw [← hh, Bd.state]; rfl
  have N0 := Fr.nil n0
  have K0 : Keep h0 h0 [] := Keep.refl _ _
  refine Go.enter (Q := Q_rm6 Z p0 p1 w h0 n0) (C := ({ frames := 3, cells := 1, slots := 6, locals := 43 } : Room).cells) (S := ({ frames := 3, cells := 1, slots := 6, locals := 43 } : Room).slots) (ef_rm6 m p0 p1 (w 1)) ?_
  obtain ⟨T1, h1, X1, e1, E1, A1, D1, -, st1⟩ := newO X0 hx hZ hown (hw _ (List.mem_of_getElem? (i := 42) rfl)) (hw _ (List.mem_of_getElem? (i := 7) rfl)) (hw _ (List.mem_of_getElem? (i := 8) rfl)) e0 (g := (mkF m 0 #[.val (.int p0), .val (.int p1), .val (.ref (w 1)), .val .null] [])) rfl (hb hby d6_0) (by decide) (by decide)
  obtain ⟨b1, g1⟩ : ∃ z, z = h0.size := ⟨_, rfl⟩
  rw [← g1] at A1 D1 st1
  have F1_28 : Fld Z h1 b1 "com/example/topicd/topicd/protocol/Command" "code" "I" (.int (0 : Int32)) := D1 (Or.inr (hw _ (List.mem_of_getElem? (i := 28) rfl))) (ty := .int) (by decide)
  have F1_30 : Fld Z h1 b1 "com/example/topicd/topicd/protocol/Command" "opaque" "I" (.int (0 : Int32)) := D1 (Or.inr (hw _ (List.mem_of_getElem? (i := 30) rfl))) (ty := .int) (by decide)
  have F1_32 : Fld Z h1 b1 "com/example/topicd/topicd/protocol/Command" "flag" "I" (.int (0 : Int32)) := D1 (Or.inr (hw _ (List.mem_of_getElem? (i := 32) rfl))) (ty := .int) (by decide)
  have F1_34 : Fld Z h1 b1 "com/example/topicd/topicd/protocol/Command" "remark" "Ljava/lang/String;" .null := D1 (Or.inr (hw _ (List.mem_of_getElem? (i := 34) rfl))) (ty := (.object "java/lang/String")) (by decide)
  have F1_36 : Fld Z h1 b1 "com/example/topicd/topicd/protocol/Command" "extFields" "Ljava/util/Map;" .null := D1 (Or.inr (hw _ (List.mem_of_getElem? (i := 36) rfl))) (ty := (.object "java/util/Map")) (by decide)
  have F1_38 : Fld Z h1 b1 "com/example/topicd/topicd/protocol/Command" "body" "[B" .null := D1 (Or.inr (hw _ (List.mem_of_getElem? (i := 38) rfl))) (ty := (.array .byte)) (by decide)
  have g_b1 : n0 ≤ b1 := Nat.le_trans Z0 (Nat.le_of_eq g1.symm)
  have sz_b1 : h0.size ≤ b1 := Nat.le_trans K0.1 (Nat.le_of_eq g1.symm)
  have K1 : Keep h0 h1 [] := K0.ext E1
  refine Go.step st1 ?_
  show Go _ _ _ _ T1 (mkF m 3 #[.val (.int p0), .val (.int p1), .val (.ref (w 1)), .val .null] [(.ref b1)])
  refine Go.step (fun _ zz => XS.dup X1.here hx rfl (hb hby d6_3) rfl rfl zz) ?_
  show Go _ _ _ _ T1 (mkF m 4 #[.val (.int p0), .val (.int p1), .val (.ref (w 1)), .val .null] [(.ref b1), (.ref b1)])
  refine Go.step (fun _ zz => XS.iloadN X1.here hx rfl (hb hby d6_4) rfl zz) ?_
  show Go _ _ _ _ T1 (mkF m 5 #[.val (.int p0), .val (.int p1), .val (.ref (w 1)), .val .null] [(.int p0), (.ref b1), (.ref b1)])
  refine Go.step (fun _ zz => XS.iloadN X1.here hx rfl (hb hby d6_5) rfl zz) ?_
  show Go _ _ _ _ T1 (mkF m 6 #[.val (.int p0), .val (.int p1), .val (.ref (w 1)), .val .null] [(.int p1), (.int p0), (.ref b1), (.ref b1)])
  refine Go.step (fun _ zz => XS.iconst X1.here hx rfl (hb hby d6_6) zz) ?_
  show Go _ _ _ _ T1 (mkF m 7 #[.val (.int p0), .val (.int p1), .val (.ref (w 1)), .val .null] [(.int (2 : Int32)), (.int p1), (.int p0), (.ref b1), (.ref b1)])
  refine Go.step (fun _ zz => XS.aconstNull X1.here hx rfl (hb hby d6_7) zz) ?_
  show Go _ _ _ _ T1 (mkF m 8 #[.val (.int p0), .val (.int p1), .val (.ref (w 1)), .val .null] [.null, (.int (2 : Int32)), (.int p1), (.int p0), (.ref b1), (.ref b1)])
  refine Go.step (fun _ zz => XS.aloadN X1.here hx rfl (hb hby d6_8) rfl rfl zz) ?_
  show Go _ _ _ _ T1 (mkF m 9 #[.val (.int p0), .val (.int p1), .val (.ref (w 1)), .val .null] [(.ref (w 1)), .null, (.int (2 : Int32)), (.int p1), (.int p0), (.ref b1), (.ref b1)])
  refine Go.step (fun _ zz => XS.aloadN X1.here hx rfl (hb hby d6_9) rfl rfl zz) ?_
  show Go _ _ _ _ T1 (mkF m 10 #[.val (.int p0), .val (.int p1), .val (.ref (w 1)), .val .null] [.null, (.ref (w 1)), .null, (.int (2 : Int32)), (.int p1), (.int p0), (.ref b1), (.ref b1)])
  obtain ⟨_, _, ⟨T2, L2, k2, n2⟩, -, X2, ⟨Lc2, hQ2, l2, y2, z2⟩, st2⟩ := X1.specialBack hx (y := (⟨"com/example/topicd/topicd/protocol/Command", "<init>", "(IIILjava/lang/String;Ljava/util/Map;[B)V"⟩ : MethodName)) rfl hown (mvT hZ (hw _ (List.mem_of_getElem? (i := 43) rfl))) (mvT hZ (hw _ (List.mem_of_getElem? (i := 10) rfl))) (mvT hZ (hw _ (List.mem_of_getElem? (i := 11) rfl))) (by decide) (backOf (W := 1) (rm2 l Z a0 hw [] b1 p0 p1 (2 : Int32) w h1 n0 (Nat.le_trans Z0 E1.1) (O0.ext E1) wd g_b1 A1 F1_28 F1_30 F1_32 F1_34 F1_36 F1_38) hZ (hw _ (List.mem_of_getElem? (i := 11) rfl)) (hw _ (List.mem_of_getElem? (i := 8) rfl)) (by decide) (by decide)) (g := (mkF m 10 #[.val (.int p0), .val (.int p1), .val (.ref (w 1)), .val .null] [.null, (.ref (w 1)), .null, (.int (2 : Int32)), (.int p1), (.int p0), (.ref b1), (.ref b1)])) rfl (by rw [hml]; rfl) (Steps.refl _) (a := b1) (argsL := [(.int p0), (.int p1), (.int (2 : Int32)), .null, (.ref (w 1)), .null]) (rest := [(.ref b1)]) (lenOf own_pd5 rfl) rfl (by show 2 * 0 + _ ≤ _; exact Nat.le_of_eq rfl) (hb hby d6_10) (fun _ _ => ⟨rfl, e1, (by decide : 1 + 0 ≤ _), (by decide : 6 + 0 ≤ _)⟩)
  dsimp only [Pt.U, Pt.locs, Pt.cells, Pt.slots] at X2 l2 y2 z2 st2 hQ2
  subst l2 y2 z2
  obtain ⟨rfl, N2q, K2, E2, F2_0, F2_1, F2_2, F2_3, F2_4, F2_5⟩ := hQ2
  have N2 := Fr.app N0 N2q
  refine Go.tr st2 ?_
  have Kc2 : Keep h0 T2.heap [] := K1.trans K2 (allS (Or.inr sz_b1) all0)
  show Go _ _ _ _ T2 (mkF m 13 #[.val (.int p0), .val (.int p1), .val (.ref (w 1)), .val .null] [(.ref b1)])
  exact Go.retA X2 hx Bd.returns rfl (hb hby d6_13) rfl Bd.notSynchronized (⟨b1, rfl, N2, Kc2, g_b1, sz_b1, E2, F2_2⟩) (by decide) (by decide)
theorem d7_0 : decode prog_6_method_2_code 0 = .ok (.new 14, 3) := by decide +kernel
theorem d7_3 : decode prog_6_method_2_code 3 = .ok (.dup, 1) := by decide +kernel
theorem d7_4 : decode prog_6_method_2_code 4 = .ok (.iload_n 0, 1) := by decide +kernel
theorem d7_5 : decode prog_6_method_2_code 5 = .ok (.iload_n 1, 1) := by decide +kernel
theorem d7_6 : decode prog_6_method_2_code 6 = .ok (.iconst 0, 1) := by decide +kernel
theorem d7_7 : decode prog_6_method_2_code 7 = .ok (.aconst_null, 1) := by decide +kernel
theorem d7_8 : decode prog_6_method_2_code 8 = .ok (.aload_n 2, 1) := by decide +kernel
theorem d7_9 : decode prog_6_method_2_code 9 = .ok (.aload_n 3, 1) := by decide +kernel
theorem d7_10 : decode prog_6_method_2_code 10 = .ok (.invokespecial 40, 3) := by decide +kernel
theorem d7_13 : decode prog_6_method_2_code 13 = .ok (.areturn, 1) := by decide +kernel
theorem ef_rm7 (m : MethodId) (x0 : Int32) (x1 : Int32) (x2 : Addr) : entryFrame m #[(.int x0), (.int x1), (.ref x2), .null] 4 = mkF m 0 #[.val (.int x0), .val (.int x1), .val (.ref x2), .val .null] [] := by first | (simp [entryFrame, mkF, argsToLocals, Value.category]; done) | rfl
def Q_rm7 (Z : State) (p0 : Int32) (p1 : Int32) (w : Nat → Addr) (h0 : Heap) (n0 : Nat) (v : Option Value) (h : Heap) (L : List Loc) : Prop := ∃ b : Addr, v = some (.ref b) ∧ Fr n0 L ∧ Keep h0 h [] ∧ n0 ≤ b ∧ h0.size ≤ b ∧ Exa Z h b "com/example/topicd/topicd/protocol/Command" ∧ Fld Z h b "com/example/topicd/topicd/protocol/Command" "flag" "I" (.int (0 : Int32))
set_option maxRecDepth 65536 in
set_option maxHeartbeats 40000000 in
theorem rm7 (l : Launch) (Z : State) (a0 : Array Value) (hw : ∀ d ∈ tables_1, d.before a0 Z = true) (ws : List Jvm.Cond) (p0 : Int32) (p1 : Int32) (w : Nat → Addr) (h0 : Heap) (n0 : Nat) (Z0 : n0 ≤ h0.size) (O0 : Old Z n0 h0) (wd : Wd Z w) :
    MetFree l (⟨"com/example/topicd/topicd/protocol/Command", "request", "(IILjava/util/Map;[B)Lcom/example/topicd/topicd/protocol/Command;"⟩ : MethodName) (head1 (Jvm.Cond.code (⟨"com/example/topicd/topicd/protocol/Command", "request", "(IILjava/util/Map;[B)Lcom/example/topicd/topicd/protocol/Command;"⟩ : MethodName) prog_6_method_2_code 4 (some (.object "com/example/topicd/topicd/protocol/Command")) :: ws) ({ frames := 3, cells := 1, slots := 6, locals := 43 } : Room)) (fun az Uz => az = #[(.int p0), (.int p1), (.ref (w 1)), .null] ∧ Z.Warmed39 Uz.vm ∧ Uz.heap = h0) (fun _ _ _ _ _ => True) (fun _ Uz oz Vz => ∃ vz Lz, oz = .returned vz ∧ Q_rm7 Z p0 p1 w h0 n0 vz Vz.heap Lz ∧ FrameEnd Uz oz Vz Lz ({ frames := 3, cells := 1, slots := 6, locals := 43 } : Room).cells ({ frames := 3, cells := 1, slots := 6, locals := 43 } : Room).slots) := by
  refine MetFree.of_bodySF (plainFor_of_name own_pn4) hisR ?_
  intro p e s m args below meth c s₁ Bd hml0 hP hK
  obtain ⟨rfl, hZ, hh⟩ := hP
  have hx := Bd.exec
  have hby := Bd.bytes
  have hml : c.maxLocals = 4 := hml0
  have hown : s.vm.findClass "com/example/topicd/topicd/protocol/Command" = some m.cls := findClass_of_methodNamed Bd.named
  have hnm := (name_of_methodNamed Bd.named Bd.method).1
  have X0 : Stand p l e ({ frames := 3, cells := 1, slots := 6, locals := 43 } : Room) s m #[(.int p0), (.int p1), (.ref (w 1)), .null] below meth c s₁ [] 0 0 := Stand.of_body Bd
  have e0 : s₁.heap = h0 := by rw [← hh, Bd.state]; rfl
  have N0 := Fr.nil n0
  have K0 : Keep h0 h0 [] := Keep.refl _ _
  refine Go.enter (Q := Q_rm7 Z p0 p1 w h0 n0) (C := ({ frames := 3, cells := 1, slots := 6, locals := 43 } : Room).cells) (S := ({ frames := 3, cells := 1, slots := 6, locals := 43 } : Room).slots) (ef_rm7 m p0 p1 (w 1)) ?_
  obtain ⟨T1, h1, X1, e1, E1, A1, D1, -, st1⟩ := newO X0 hx hZ hown (hw _ (List.mem_of_getElem? (i := 42) rfl)) (hw _ (List.mem_of_getElem? (i := 7) rfl)) (hw _ (List.mem_of_getElem? (i := 8) rfl)) e0 (g := (mkF m 0 #[.val (.int p0), .val (.int p1), .val (.ref (w 1)), .val .null] [])) rfl (hb hby d7_0) (by decide) (by decide)
  obtain ⟨b1, g1⟩ : ∃ z, z = h0.size := ⟨_, rfl⟩
  rw [← g1] at A1 D1 st1
  have F1_28 : Fld Z h1 b1 "com/example/topicd/topicd/protocol/Command" "code" "I" (.int (0 : Int32)) := D1 (Or.inr (hw _ (List.mem_of_getElem? (i := 28) rfl))) (ty := .int) (by decide)
  have F1_30 : Fld Z h1 b1 "com/example/topicd/topicd/protocol/Command" "opaque" "I" (.int (0 : Int32)) := D1 (Or.inr (hw _ (List.mem_of_getElem? (i := 30) rfl))) (ty := .int) (by decide)
  have F1_32 : Fld Z h1 b1 "com/example/topicd/topicd/protocol/Command" "flag" "I" (.int (0 : Int32)) := D1 (Or.inr (hw _ (List.mem_of_getElem? (i := 32) rfl))) (ty := .int) (by decide)
  have F1_34 : Fld Z h1 b1 "com/example/topicd/topicd/protocol/Command" "remark" "Ljava/lang/String;" .null := D1 (Or.inr (hw _ (List.mem_of_getElem? (i := 34) rfl))) (ty := (.object "java/lang/String")) (by decide)
  have F1_36 : Fld Z h1 b1 "com/example/topicd/topicd/protocol/Command" "extFields" "Ljava/util/Map;" .null := D1 (Or.inr (hw _ (List.mem_of_getElem? (i := 36) rfl))) (ty := (.object "java/util/Map")) (by decide)
  have F1_38 : Fld Z h1 b1 "com/example/topicd/topicd/protocol/Command" "body" "[B" .null := D1 (Or.inr (hw _ (List.mem_of_getElem? (i := 38) rfl))) (ty := (.array .byte)) (by decide)
  have g_b1 : n0 ≤ b1 := Nat.le_trans Z0 (Nat.le_of_eq g1.symm)
  have sz_b1 : h0.size ≤ b1 := Nat.le_trans K0.1 (Nat.le_of_eq g1.symm)
  have K1 : Keep h0 h1 [] := K0.ext E1
  refine Go.step st1 ?_
  show Go _ _ _ _ T1 (mkF m 3 #[.val (.int p0), .val (.int p1), .val (.ref (w 1)), .val .null] [(.ref b1)])
  refine Go.step (fun _ zz => XS.dup X1.here hx rfl (hb hby d7_3) rfl rfl zz) ?_
  show Go _ _ _ _ T1 (mkF m 4 #[.val (.int p0), .val (.int p1), .val (.ref (w 1)), .val .null] [(.ref b1), (.ref b1)])
  refine Go.step (fun _ zz => XS.iloadN X1.here hx rfl (hb hby d7_4) rfl zz) ?_
  show Go _ _ _ _ T1 (mkF m 5 #[.val (.int p0), .val (.int p1), .val (.ref (w 1)), .val .null] [(.int p0), (.ref b1), (.ref b1)])
  refine Go.step (fun _ zz => XS.iloadN X1.here hx rfl (hb hby d7_5) rfl zz) ?_
  show Go _ _ _ _ T1 (mkF m 6 #[.val (.int p0), .val (.int p1), .val (.ref (w 1)), .val .null] [(.int p1), (.int p0), (.ref b1), (.ref b1)])
  refine Go.step (fun _ zz => XS.iconst X1.here hx rfl (hb hby d7_6) zz) ?_
  show Go _ _ _ _ T1 (mkF m 7 #[.val (.int p0), .val (.int p1), .val (.ref (w 1)), .val .null] [(.int (0 : Int32)), (.int p1), (.int p0), (.ref b1), (.ref b1)])
  refine Go.step (fun _ zz => XS.aconstNull X1.here hx rfl (hb hby d7_7) zz) ?_
  show Go _ _ _ _ T1 (mkF m 8 #[.val (.int p0), .val (.int p1), .val (.ref (w 1)), .val .null] [.null, (.int (0 : Int32)), (.int p1), (.int p0), (.ref b1), (.ref b1)])
  refine Go.step (fun _ zz => XS.aloadN X1.here hx rfl (hb hby d7_8) rfl rfl zz) ?_
  show Go _ _ _ _ T1 (mkF m 9 #[.val (.int p0), .val (.int p1), .val (.ref (w 1)), .val .null] [(.ref (w 1)), .null, (.int (0 : Int32)), (.int p1), (.int p0), (.ref b1), (.ref b1)])
  refine Go.step (fun _ zz => XS.aloadN X1.here hx rfl (hb hby d7_9) rfl rfl zz) ?_
  show Go _ _ _ _ T1 (mkF m 10 #[.val (.int p0), .val (.int p1), .val (.ref (w 1)), .val .null] [.null, (.ref (w 1)), .null, (.int (0 : Int32)), (.int p1), (.int p0), (.ref b1), (.ref b1)])
  obtain ⟨_, _, ⟨T2, L2, k2, n2⟩, -, X2, ⟨Lc2, hQ2, l2, y2, z2⟩, st2⟩ := X1.specialBack hx (y := (⟨"com/example/topicd/topicd/protocol/Command", "<init>", "(IIILjava/lang/String;Ljava/util/Map;[B)V"⟩ : MethodName)) rfl hown (mvT hZ (hw _ (List.mem_of_getElem? (i := 43) rfl))) (mvT hZ (hw _ (List.mem_of_getElem? (i := 10) rfl))) (mvT hZ (hw _ (List.mem_of_getElem? (i := 11) rfl))) (by decide) (backOf (W := 1) (rm2 l Z a0 hw [] b1 p0 p1 (0 : Int32) w h1 n0 (Nat.le_trans Z0 E1.1) (O0.ext E1) wd g_b1 A1 F1_28 F1_30 F1_32 F1_34 F1_36 F1_38) hZ (hw _ (List.mem_of_getElem? (i := 11) rfl)) (hw _ (List.mem_of_getElem? (i := 8) rfl)) (by decide) (by decide)) (g := (mkF m 10 #[.val (.int p0), .val (.int p1), .val (.ref (w 1)), .val .null] [.null, (.ref (w 1)), .null, (.int (0 : Int32)), (.int p1), (.int p0), (.ref b1), (.ref b1)])) rfl (by rw [hml]; rfl) (Steps.refl _) (a := b1) (argsL := [(.int p0), (.int p1), (.int (0 : Int32)), .null, (.ref (w 1)), .null]) (rest := [(.ref b1)]) (lenOf own_pd5 rfl) rfl (by show 2 * 0 + _ ≤ _; exact Nat.le_of_eq rfl) (hb hby d7_10) (fun _ _ => ⟨rfl, e1, (by decide : 1 + 0 ≤ _), (by decide : 6 + 0 ≤ _)⟩)
  dsimp only [Pt.U, Pt.locs, Pt.cells, Pt.slots] at X2 l2 y2 z2 st2 hQ2
  subst l2 y2 z2
  obtain ⟨rfl, N2q, K2, E2, F2_0, F2_1, F2_2, F2_3, F2_4, F2_5⟩ := hQ2
  have N2 := Fr.app N0 N2q
  refine Go.tr st2 ?_
  have Kc2 : Keep h0 T2.heap [] := K1.trans K2 (allS (Or.inr sz_b1) all0)
  show Go _ _ _ _ T2 (mkF m 13 #[.val (.int p0), .val (.int p1), .val (.ref (w 1)), .val .null] [(.ref b1)])
  exact Go.retA X2 hx Bd.returns rfl (hb hby d7_13) rfl Bd.notSynchronized (⟨b1, rfl, N2, Kc2, g_b1, sz_b1, E2, F2_2⟩) (by decide) (by decide)
theorem own_and2 (n : Nat) : n &&& 2 = 2 * (n / 2 % 2) := by
  apply Nat.eq_of_testBit_eq
  intro i
  rw [Nat.testBit_and]
  rcases i with _ | i
  · simp
  · rw [Nat.testBit_succ, Nat.testBit_succ, Nat.testBit_succ]
    have : 2 * (n / 2 % 2) / 2 = n / 2 % 2 := by omega
    rw [this]
    have h2 : (2 / 2 : Nat) = 1 := rfl
    rw [h2]
    rcases i with _ | i
    · simp
    · have : n / 2 % 2 < 2 := by omega
      have h3 : (1 : Nat).testBit (i+1) = false := by simp [Nat.testBit_succ]
      rw [h3, Bool.and_false]
      symm
      rw [Nat.testBit_succ]
      have : n / 2 % 2 / 2 = 0 := by omega
      rw [this]; simp
theorem own_bit (c : Int32) : ((c.toUInt32 >>> ((1 : Int32) &&& 31).toUInt32).toInt32) &&& 1 = 1 ↔ ¬ c &&& 2 = 0 := by
  have e : ((1 : Int32) &&& 31).toUInt32 = 1 := by decide
  rw [e, ← Int32.toBitVec_inj, ← Int32.toBitVec_inj, Int32.toBitVec_and, Int32.toBitVec_and]
  have hs : ((c.toUInt32 >>> 1).toInt32).toBitVec = c.toBitVec >>> 1 := by
    show (c.toUInt32 >>> 1).toBitVec = _
    rw [UInt32.toBitVec_shiftRight]
    rfl
  rw [hs]
  have e1 : (1 : Int32).toBitVec = 1#32 := rfl
  have e2 : (2 : Int32).toBitVec = 2#32 := rfl
  have e0 : (0 : Int32).toBitVec = 0#32 := rfl
  rw [e1, e2, e0, ← BitVec.toNat_inj, ← BitVec.toNat_inj, BitVec.toNat_and, BitVec.toNat_and, BitVec.toNat_ushiftRight]
  have h1 : (1#32).toNat = 1 := rfl
  have h2 : (2#32).toNat = 2 := rfl
  have h0 : (0#32).toNat = 0 := rfl
  rw [h1, h2, h0, Nat.and_one_is_mod, Nat.shiftRight_eq_div_pow, own_and2]
  omega
theorem own_pd8 : parseMethodDescriptor "(IILjava/util/Map;[B)Lcom/example/topicd/topicd/protocol/Command;" = some ⟨[.int, .int, (.object "java/util/Map"), (.array .byte)], some (.object "com/example/topicd/topicd/protocol/Command")⟩ := by decide +kernel
theorem own_pd9 : parseMethodDescriptor "(ILjava/lang/String;)Lcom/example/topicd/topicd/protocol/Command;" = some ⟨[.int, (.object "java/lang/String")], some (.object "com/example/topicd/topicd/protocol/Command")⟩ := by decide +kernel
theorem own_pd10 : parseMethodDescriptor "()Z" = some ⟨[], some .boolean⟩ := by decide +kernel
theorem own_pn11 : plainName "com/example/topicd/topicd/protocol/CommandIsOnewayPinLaw" = true := by first | (simp [plainName, overriddenIn]; done) | decide +kernel
theorem ef_rm0 (m : MethodId) (x0 : Int32) (x1 : Int32) (x2 : Int32) : entryFrame m #[(.int x0), (.int x1), (.int x2)] maxLocals = mkF m 0 #[.val (.int x0), .val (.int x1), .val (.int x2), .unset, .unset, .unset, .unset, .unset, .unset] [] := by first | (simp [entryFrame, mkF, argsToLocals, Value.category, maxLocals]; done) | rfl
def Q_rm0 (Z : State) (p0 : Int32) (p1 : Int32) (p2 : Int32) (w : Nat → Addr) (h0 : Heap) (n0 : Nat) (v : Option Value) (h : Heap) (L : List Loc) : Prop := v = some (.int (1 : Int32)) ∧ Fr n0 L
set_option maxRecDepth 65536 in
set_option maxHeartbeats 40000000 in
theorem rm0 (l : Launch) (Z : State) (a0 : Array Value) (hw : ∀ d ∈ tables_1, d.before a0 Z = true) (ws : List Jvm.Cond) (p0 : Int32) (p1 : Int32) (p2 : Int32) (w : Nat → Addr) (h0 : Heap) (n0 : Nat) (Z0 : n0 ≤ h0.size) (O0 : Old Z n0 h0) (wd : Wd Z w) :
    MetFree l x (head1 (Jvm.Cond.code x code maxLocals ret :: ws) room_1) (fun az Uz => az = #[(.int p0), (.int p1), (.int p2)] ∧ Z.Warmed39 Uz.vm ∧ Uz.heap = h0) (fun _ _ _ _ _ => True) (fun _ Uz oz Vz => ∃ vz Lz, oz = .returned vz ∧ Q_rm0 Z p0 p1 p2 w h0 n0 vz Vz.heap Lz ∧ FrameEnd Uz oz Vz Lz room_1.cells room_1.slots) := by
  refine MetFree.of_bodySF (plainFor_of_name own_pn11) hisR ?_
  intro p e s m args below meth c s₁ Bd hml0 hP hK
  obtain ⟨rfl, hZ, hh⟩ := hP
  have hx := Bd.exec
  have hby := Bd.bytes
  have hml : c.maxLocals = 9 := hml0
  have hown : s.vm.findClass "com/example/topicd/topicd/protocol/CommandIsOnewayPinLaw" = some m.cls := findClass_of_methodNamed Bd.named
  have hnm := (name_of_methodNamed Bd.named Bd.method).1
  have X0 : Stand p l e room_1 s m #[(.int p0), (.int p1), (.int p2)] below meth c s₁ [] 0 0 := Stand.of_body Bd
  have e0 : s₁.heap = h0 := by rw [← hh, Bd.state]; rfl
  have N0 := Fr.nil n0
  have K0 : Keep h0 h0 [] := Keep.refl _ _
  refine Go.enter (Q := Q_rm0 Z p0 p1 p2 w h0 n0) (C := room_1.cells) (S := room_1.slots) (ef_rm0 m p0 p1 p2) ?_
  obtain ⟨_, _, ⟨T1, L1, k1, n1⟩, -, X1, ⟨Lc1, hQ1, l1, y1, z1⟩, st1⟩ := Jvm.LawKit.callS X0 hx (y := (⟨"java/util/Map", "of", "()Ljava/util/Map;"⟩ : MethodName)) hown (mvT hZ (hw _ (List.mem_of_getElem? (i := 0) rfl))) (mvT hZ (hw _ (List.mem_of_getElem? (i := 1) rfl))) (mvT hZ (hw _ (List.mem_of_getElem? (i := 2) rfl))) (mvT hZ (hw _ (List.mem_of_getElem? (i := 3) rfl))) (by decide) (backOf (W := 0) (rm1 l Z a0 hw [] w h0 n0 Z0 O0 wd) hZ (hw _ (List.mem_of_getElem? (i := 3) rfl)) (hw _ (List.mem_of_getElem? (i := 2) rfl)) (by decide) (by decide)) (g := (mkF m 0 #[.val (.int p0), .val (.int p1), .val (.int p2), .unset, .unset, .unset, .unset, .unset, .unset] [])) rfl (by rw [hml]; rfl) (argsL := []) (rest := []) (lenOf own_pd6 rfl) rfl (by show 2 * 0 + _ ≤ _; exact Nat.le_of_eq rfl) (hb hby at_0) (fun _ _ => ⟨rfl, e0, (by decide : 0 + 0 ≤ _), (by decide : 0 + 0 ≤ _)⟩)
  dsimp only [Pt.U, Pt.locs, Pt.cells, Pt.slots] at X1 l1 y1 z1 st1 hQ1
  subst l1 y1 z1
  obtain ⟨rfl, N1q, e1⟩ := hQ1
  have N1 := Fr.app N0 N1q
  refine Go.step st1 ?_
  show Go _ _ _ _ T1 (mkF m 3 #[.val (.int p0), .val (.int p1), .val (.int p2), .unset, .unset, .unset, .unset, .unset, .unset] [(.ref (w 1))])
  refine Go.step (fun _ zz => XS.astoreN X1.here hx rfl (hb hby at_3) rfl rfl (l' := #[.val (.int p0), .val (.int p1), .val (.int p2), .val (.ref (w 1)), .unset, .unset, .unset, .unset, .unset]) rfl zz) ?_
  show Go _ _ _ _ T1 (mkF m 4 #[.val (.int p0), .val (.int p1), .val (.int p2), .val (.ref (w 1)), .unset, .unset, .unset, .unset, .unset] [])
  obtain ⟨T2, h2, X2, e2, E2, A2, D2, -, st2⟩ := newO X1 hx hZ hown (hw _ (List.mem_of_getElem? (i := 6) rfl)) (hw _ (List.mem_of_getElem? (i := 7) rfl)) (hw _ (List.mem_of_getElem? (i := 8) rfl)) e1 (g := (mkF m 4 #[.val (.int p0), .val (.int p1), .val (.int p2), .val (.ref (w 1)), .unset, .unset, .unset, .unset, .unset] [])) rfl (hb hby at_4) (by decide) (by decide)
  obtain ⟨b2, g2⟩ : ∃ z, z = h0.size := ⟨_, rfl⟩
  rw [← g2] at A2 D2 st2
  have F2_28 : Fld Z h2 b2 "com/example/topicd/topicd/protocol/Command" "code" "I" (.int (0 : Int32)) := D2 (Or.inr (hw _ (List.mem_of_getElem? (i := 28) rfl))) (ty := .int) (by decide)
  have F2_30 : Fld Z h2 b2 "com/example/topicd/topicd/protocol/Command" "opaque" "I" (.int (0 : Int32)) := D2 (Or.inr (hw _ (List.mem_of_getElem? (i := 30) rfl))) (ty := .int) (by decide)
  have F2_32 : Fld Z h2 b2 "com/example/topicd/topicd/protocol/Command" "flag" "I" (.int (0 : Int32)) := D2 (Or.inr (hw _ (List.mem_of_getElem? (i := 32) rfl))) (ty := .int) (by decide)
  have F2_34 : Fld Z h2 b2 "com/example/topicd/topicd/protocol/Command" "remark" "Ljava/lang/String;" .null := D2 (Or.inr (hw _ (List.mem_of_getElem? (i := 34) rfl))) (ty := (.object "java/lang/String")) (by decide)
  have F2_36 : Fld Z h2 b2 "com/example/topicd/topicd/protocol/Command" "extFields" "Ljava/util/Map;" .null := D2 (Or.inr (hw _ (List.mem_of_getElem? (i := 36) rfl))) (ty := (.object "java/util/Map")) (by decide)
  have F2_38 : Fld Z h2 b2 "com/example/topicd/topicd/protocol/Command" "body" "[B" .null := D2 (Or.inr (hw _ (List.mem_of_getElem? (i := 38) rfl))) (ty := (.array .byte)) (by decide)
  have g_b2 : n0 ≤ b2 := Nat.le_trans Z0 (Nat.le_of_eq g2.symm)
  have sz_b2 : h0.size ≤ b2 := Nat.le_trans K0.1 (Nat.le_of_eq g2.symm)
  have K2 : Keep h0 h2 [] := K0.ext E2
  refine Go.step st2 ?_
  show Go _ _ _ _ T2 (mkF m 7 #[.val (.int p0), .val (.int p1), .val (.int p2), .val (.ref (w 1)), .unset, .unset, .unset, .unset, .unset] [(.ref b2)])
  refine Go.step (fun _ zz => XS.dup X2.here hx rfl (hb hby at_7) rfl rfl zz) ?_
  show Go _ _ _ _ T2 (mkF m 8 #[.val (.int p0), .val (.int p1), .val (.int p2), .val (.ref (w 1)), .unset, .unset, .unset, .unset, .unset] [(.ref b2), (.ref b2)])
  refine Go.step (fun _ zz => XS.iloadN X2.here hx rfl (hb hby at_8) rfl zz) ?_
  show Go _ _ _ _ T2 (mkF m 9 #[.val (.int p0), .val (.int p1), .val (.int p2), .val (.ref (w 1)), .unset, .unset, .unset, .unset, .unset] [(.int p0), (.ref b2), (.ref b2)])
  refine Go.step (fun _ zz => XS.iloadN X2.here hx rfl (hb hby at_9) rfl zz) ?_
  show Go _ _ _ _ T2 (mkF m 10 #[.val (.int p0), .val (.int p1), .val (.int p2), .val (.ref (w 1)), .unset, .unset, .unset, .unset, .unset] [(.int p1), (.int p0), (.ref b2), (.ref b2)])
  refine Go.step (fun _ zz => XS.iloadN X2.here hx rfl (hb hby at_10) rfl zz) ?_
  show Go _ _ _ _ T2 (mkF m 11 #[.val (.int p0), .val (.int p1), .val (.int p2), .val (.ref (w 1)), .unset, .unset, .unset, .unset, .unset] [(.int p2), (.int p1), (.int p0), (.ref b2), (.ref b2)])
  refine Go.step (fun _ zz => XS.aconstNull X2.here hx rfl (hb hby at_11) zz) ?_
  show Go _ _ _ _ T2 (mkF m 12 #[.val (.int p0), .val (.int p1), .val (.int p2), .val (.ref (w 1)), .unset, .unset, .unset, .unset, .unset] [.null, (.int p2), (.int p1), (.int p0), (.ref b2), (.ref b2)])
  refine Go.step (fun _ zz => XS.aloadN X2.here hx rfl (hb hby at_12) rfl rfl zz) ?_
  show Go _ _ _ _ T2 (mkF m 13 #[.val (.int p0), .val (.int p1), .val (.int p2), .val (.ref (w 1)), .unset, .unset, .unset, .unset, .unset] [(.ref (w 1)), .null, (.int p2), (.int p1), (.int p0), (.ref b2), (.ref b2)])
  refine Go.step (fun _ zz => XS.aconstNull X2.here hx rfl (hb hby at_13) zz) ?_
  show Go _ _ _ _ T2 (mkF m 14 #[.val (.int p0), .val (.int p1), .val (.int p2), .val (.ref (w 1)), .unset, .unset, .unset, .unset, .unset] [.null, (.ref (w 1)), .null, (.int p2), (.int p1), (.int p0), (.ref b2), (.ref b2)])
  obtain ⟨_, _, ⟨T3, L3, k3, n3⟩, -, X3, ⟨Lc3, hQ3, l3, y3, z3⟩, st3⟩ := X2.specialBack hx (y := (⟨"com/example/topicd/topicd/protocol/Command", "<init>", "(IIILjava/lang/String;Ljava/util/Map;[B)V"⟩ : MethodName)) rfl hown (mvT hZ (hw _ (List.mem_of_getElem? (i := 9) rfl))) (mvT hZ (hw _ (List.mem_of_getElem? (i := 10) rfl))) (mvT hZ (hw _ (List.mem_of_getElem? (i := 11) rfl))) (by decide) (backOf (W := 1) (rm2 l Z a0 hw [] b2 p0 p1 p2 w h2 n0 (Nat.le_trans Z0 E2.1) (O0.ext E2) wd g_b2 A2 F2_28 F2_30 F2_32 F2_34 F2_36 F2_38) hZ (hw _ (List.mem_of_getElem? (i := 11) rfl)) (hw _ (List.mem_of_getElem? (i := 8) rfl)) (by decide) (by decide)) (g := (mkF m 14 #[.val (.int p0), .val (.int p1), .val (.int p2), .val (.ref (w 1)), .unset, .unset, .unset, .unset, .unset] [.null, (.ref (w 1)), .null, (.int p2), (.int p1), (.int p0), (.ref b2), (.ref b2)])) rfl (by rw [hml]; rfl) (Steps.refl _) (a := b2) (argsL := [(.int p0), (.int p1), (.int p2), .null, (.ref (w 1)), .null]) (rest := [(.ref b2)]) (lenOf own_pd5 rfl) rfl (by show 2 * 0 + _ ≤ _; exact Nat.le_of_eq rfl) (hb hby at_14) (fun _ _ => ⟨rfl, e2, (by decide : 1 + 0 ≤ _), (by decide : 6 + 0 ≤ _)⟩)
  dsimp only [Pt.U, Pt.locs, Pt.cells, Pt.slots] at X3 l3 y3 z3 st3 hQ3
  subst l3 y3 z3
  obtain ⟨rfl, N3q, K3, E3, F3_0, F3_1, F3_2, F3_3, F3_4, F3_5⟩ := hQ3
  have N3 := Fr.app N1 N3q
  refine Go.tr st3 ?_
  have Kc3 : Keep h0 T3.heap [] := K2.trans K3 (allS (Or.inr sz_b2) all0)
  show Go _ _ _ _ T3 (mkF m 17 #[.val (.int p0), .val (.int p1), .val (.int p2), .val (.ref (w 1)), .unset, .unset, .unset, .unset, .unset] [(.ref b2)])
  refine Go.step (fun _ zz => XS.astore X3.here hx rfl (hb hby at_17) rfl rfl (l' := #[.val (.int p0), .val (.int p1), .val (.int p2), .val (.ref (w 1)), .val (.ref b2), .unset, .unset, .unset, .unset]) rfl zz) ?_
  show Go _ _ _ _ T3 (mkF m 19 #[.val (.int p0), .val (.int p1), .val (.int p2), .val (.ref (w 1)), .val (.ref b2), .unset, .unset, .unset, .unset] [])
  refine Go.step (fun _ zz => XS.iloadN X3.here hx rfl (hb hby at_19) rfl zz) ?_
  show Go _ _ _ _ T3 (mkF m 20 #[.val (.int p0), .val (.int p1), .val (.int p2), .val (.ref (w 1)), .val (.ref b2), .unset, .unset, .unset, .unset] [(.int p2)])
  refine Go.step (fun _ zz => XS.iconst X3.here hx rfl (hb hby at_20) zz) ?_
  show Go _ _ _ _ T3 (mkF m 21 #[.val (.int p0), .val (.int p1), .val (.int p2), .val (.ref (w 1)), .val (.ref b2), .unset, .unset, .unset, .unset] [(.int (1 : Int32)), (.int p2)])
  refine Go.step (fun _ zz => XS.iushr X3.here hx rfl (hb hby at_21) rfl zz) ?_
  show Go _ _ _ _ T3 (mkF m 22 #[.val (.int p0), .val (.int p1), .val (.int p2), .val (.ref (w 1)), .val (.ref b2), .unset, .unset, .unset, .unset] [(.int ((p2.toUInt32 >>> ((1 : Int32) &&& 31).toUInt32).toInt32))])
  refine Go.step (fun _ zz => XS.iconst X3.here hx rfl (hb hby at_22) zz) ?_
  show Go _ _ _ _ T3 (mkF m 23 #[.val (.int p0), .val (.int p1), .val (.int p2), .val (.ref (w 1)), .val (.ref b2), .unset, .unset, .unset, .unset] [(.int (1 : Int32)), (.int ((p2.toUInt32 >>> ((1 : Int32) &&& 31).toUInt32).toInt32))])
  refine Go.step (fun _ zz => XS.iand X3.here hx rfl (hb hby at_23) rfl zz) ?_
  show Go _ _ _ _ T3 (mkF m 24 #[.val (.int p0), .val (.int p1), .val (.int p2), .val (.ref (w 1)), .val (.ref b2), .unset, .unset, .unset, .unset] [(.int (((p2.toUInt32 >>> ((1 : Int32) &&& 31).toUInt32).toInt32) &&& (1 : Int32)))])
  refine Go.step (fun _ zz => XS.iconst X3.here hx rfl (hb hby at_24) zz) ?_
  show Go _ _ _ _ T3 (mkF m 25 #[.val (.int p0), .val (.int p1), .val (.int p2), .val (.ref (w 1)), .val (.ref b2), .unset, .unset, .unset, .unset] [(.int (1 : Int32)), (.int (((p2.toUInt32 >>> ((1 : Int32) &&& 31).toUInt32).toInt32) &&& (1 : Int32)))])
  by_cases hc25 : (((p2.toUInt32 >>> ((1 : Int32) &&& 31).toUInt32).toInt32) &&& (1 : Int32)) = (1 : Int32)
  · refine Go.step (fun _ zz => XS.icmpNo X3.here hx rfl (hb hby at_25) rfl (teq hc25).2 zz) ?_
    show Go _ _ _ _ T3 (mkF m 28 #[.val (.int p0), .val (.int p1), .val (.int p2), .val (.ref (w 1)), .val (.ref b2), .unset, .unset, .unset, .unset] [])
    refine Go.step (fun _ zz => XS.iconst X3.here hx rfl (hb hby at_28) zz) ?_
    show Go _ _ _ _ T3 (mkF m 29 #[.val (.int p0), .val (.int p1), .val (.int p2), .val (.ref (w 1)), .val (.ref b2), .unset, .unset, .unset, .unset] [(.int (1 : Int32))])
    refine Go.step (fun _ zz => XS.goto X3.here hx rfl (pc0 := 29) (pc' := 33) rfl (hb hby at_29) (by decide) (by decide) zz) ?_
    show Go _ _ _ _ T3 (mkF m 33 #[.val (.int p0), .val (.int p1), .val (.int p2), .val (.ref (w 1)), .val (.ref b2), .unset, .unset, .unset, .unset] [(.int (1 : Int32))])
    refine Go.step (fun _ zz => XS.istore X3.here hx rfl (hb hby at_33) rfl (l' := #[.val (.int p0), .val (.int p1), .val (.int p2), .val (.ref (w 1)), .val (.ref b2), .val (.int (1 : Int32)), .unset, .unset, .unset]) rfl zz) ?_
    show Go _ _ _ _ T3 (mkF m 35 #[.val (.int p0), .val (.int p1), .val (.int p2), .val (.ref (w 1)), .val (.ref b2), .val (.int (1 : Int32)), .unset, .unset, .unset] [])
    refine Go.step (fun _ zz => XS.iloadN X3.here hx rfl (hb hby at_35) rfl zz) ?_
    show Go _ _ _ _ T3 (mkF m 36 #[.val (.int p0), .val (.int p1), .val (.int p2), .val (.ref (w 1)), .val (.ref b2), .val (.int (1 : Int32)), .unset, .unset, .unset] [(.int p0)])
    refine Go.step (fun _ zz => XS.iloadN X3.here hx rfl (hb hby at_36) rfl zz) ?_
    show Go _ _ _ _ T3 (mkF m 37 #[.val (.int p0), .val (.int p1), .val (.int p2), .val (.ref (w 1)), .val (.ref b2), .val (.int (1 : Int32)), .unset, .unset, .unset] [(.int p1), (.int p0)])
    refine Go.step (fun _ zz => XS.aloadN X3.here hx rfl (hb hby at_37) rfl rfl zz) ?_
    show Go _ _ _ _ T3 (mkF m 38 #[.val (.int p0), .val (.int p1), .val (.int p2), .val (.ref (w 1)), .val (.ref b2), .val (.int (1 : Int32)), .unset, .unset, .unset] [(.ref (w 1)), (.int p1), (.int p0)])
    refine Go.step (fun _ zz => XS.aconstNull X3.here hx rfl (hb hby at_38) zz) ?_
    show Go _ _ _ _ T3 (mkF m 39 #[.val (.int p0), .val (.int p1), .val (.int p2), .val (.ref (w 1)), .val (.ref b2), .val (.int (1 : Int32)), .unset, .unset, .unset] [.null, (.ref (w 1)), (.int p1), (.int p0)])
    obtain ⟨_, _, ⟨T4, L4, k4, n4⟩, -, X4, ⟨Lc4, hQ4, l4, y4, z4⟩, st4⟩ := Jvm.LawKit.callS X3 hx (y := (⟨"com/example/topicd/topicd/protocol/Command", "oneway", "(IILjava/util/Map;[B)Lcom/example/topicd/topicd/protocol/Command;"⟩ : MethodName)) hown (mvT hZ (hw _ (List.mem_of_getElem? (i := 39) rfl))) (mvT hZ (hw _ (List.mem_of_getElem? (i := 40) rfl))) (mvT hZ (hw _ (List.mem_of_getElem? (i := 8) rfl))) (mvT hZ (hw _ (List.mem_of_getElem? (i := 41) rfl))) (by decide) (backOf (W := 0) (rm6 l Z a0 hw [] p0 p1 w T3.heap n0 (Nat.le_trans (Nat.le_trans Z0 E2.1) K3.1) ((O0.ext E2).keep K3 (allS g_b2 all0)) wd) hZ (hw _ (List.mem_of_getElem? (i := 41) rfl)) (hw _ (List.mem_of_getElem? (i := 8) rfl)) (by decide) (by decide)) (g := (mkF m 39 #[.val (.int p0), .val (.int p1), .val (.int p2), .val (.ref (w 1)), .val (.ref b2), .val (.int (1 : Int32)), .unset, .unset, .unset] [.null, (.ref (w 1)), (.int p1), (.int p0)])) rfl (by rw [hml]; rfl) (argsL := [(.int p0), (.int p1), (.ref (w 1)), .null]) (rest := []) (lenOf own_pd8 rfl) rfl (by show 2 * 0 + _ ≤ _; exact Nat.le_of_eq rfl) (hb hby at_39) (fun _ _ => ⟨rfl, rfl, (by decide : 1 + 1 ≤ _), (by decide : 6 + 6 ≤ _)⟩)
    dsimp only [Pt.U, Pt.locs, Pt.cells, Pt.slots] at X4 l4 y4 z4 st4 hQ4
    subst l4 y4 z4
    obtain ⟨b4, rfl, N4q, K4, g_b4, s_b4, E4, F4_0⟩ := hQ4
    have N4 := Fr.app N3 N4q
    refine Go.step st4 ?_
    have sz_b4 : h0.size ≤ b4 := Nat.le_trans Kc3.1 s_b4
    have Kc4 : Keep h0 T4.heap [] := Kc3.trans K4 all0
    show Go _ _ _ _ T4 (mkF m 42 #[.val (.int p0), .val (.int p1), .val (.int p2), .val (.ref (w 1)), .val (.ref b2), .val (.int (1 : Int32)), .unset, .unset, .unset] [(.ref b4)])
    refine Go.step (fun _ zz => XS.astore X4.here hx rfl (hb hby at_42) rfl rfl (l' := #[.val (.int p0), .val (.int p1), .val (.int p2), .val (.ref (w 1)), .val (.ref b2), .val (.int (1 : Int32)), .val (.ref b4), .unset, .unset]) rfl zz) ?_
    show Go _ _ _ _ T4 (mkF m 44 #[.val (.int p0), .val (.int p1), .val (.int p2), .val (.ref (w 1)), .val (.ref b2), .val (.int (1 : Int32)), .val (.ref b4), .unset, .unset] [])
    refine Go.step (fun _ zz => XS.iloadN X4.here hx rfl (hb hby at_44) rfl zz) ?_
    show Go _ _ _ _ T4 (mkF m 45 #[.val (.int p0), .val (.int p1), .val (.int p2), .val (.ref (w 1)), .val (.ref b2), .val (.int (1 : Int32)), .val (.ref b4), .unset, .unset] [(.int p0)])
    refine Go.step (fun _ zz => XS.iloadN X4.here hx rfl (hb hby at_45) rfl zz) ?_
    show Go _ _ _ _ T4 (mkF m 46 #[.val (.int p0), .val (.int p1), .val (.int p2), .val (.ref (w 1)), .val (.ref b2), .val (.int (1 : Int32)), .val (.ref b4), .unset, .unset] [(.int p1), (.int p0)])
    refine Go.step (fun _ zz => XS.aloadN X4.here hx rfl (hb hby at_46) rfl rfl zz) ?_
    show Go _ _ _ _ T4 (mkF m 47 #[.val (.int p0), .val (.int p1), .val (.int p2), .val (.ref (w 1)), .val (.ref b2), .val (.int (1 : Int32)), .val (.ref b4), .unset, .unset] [(.ref (w 1)), (.int p1), (.int p0)])
    refine Go.step (fun _ zz => XS.aconstNull X4.here hx rfl (hb hby at_47) zz) ?_
    show Go _ _ _ _ T4 (mkF m 48 #[.val (.int p0), .val (.int p1), .val (.int p2), .val (.ref (w 1)), .val (.ref b2), .val (.int (1 : Int32)), .val (.ref b4), .unset, .unset] [.null, (.ref (w 1)), (.int p1), (.int p0)])
    obtain ⟨_, _, ⟨T5, L5, k5, n5⟩, -, X5, ⟨Lc5, hQ5, l5, y5, z5⟩, st5⟩ := Jvm.LawKit.callS X4 hx (y := (⟨"com/example/topicd/topicd/protocol/Command", "request", "(IILjava/util/Map;[B)Lcom/example/topicd/topicd/protocol/Command;"⟩ : MethodName)) hown (mvT hZ (hw _ (List.mem_of_getElem? (i := 44) rfl))) (mvT hZ (hw _ (List.mem_of_getElem? (i := 45) rfl))) (mvT hZ (hw _ (List.mem_of_getElem? (i := 8) rfl))) (mvT hZ (hw _ (List.mem_of_getElem? (i := 46) rfl))) (by decide) (backOf (W := 0) (rm7 l Z a0 hw [] p0 p1 w T4.heap n0 (Nat.le_trans (Nat.le_trans (Nat.le_trans Z0 E2.1) K3.1) K4.1) (((O0.ext E2).keep K3 (allS g_b2 all0)).keep K4 all0) wd) hZ (hw _ (List.mem_of_getElem? (i := 46) rfl)) (hw _ (List.mem_of_getElem? (i := 8) rfl)) (by decide) (by decide)) (g := (mkF m 48 #[.val (.int p0), .val (.int p1), .val (.int p2), .val (.ref (w 1)), .val (.ref b2), .val (.int (1 : Int32)), .val (.ref b4), .unset, .unset] [.null, (.ref (w 1)), (.int p1), (.int p0)])) rfl (by rw [hml]; rfl) (argsL := [(.int p0), (.int p1), (.ref (w 1)), .null]) (rest := []) (lenOf own_pd8 rfl) rfl (by show 2 * 0 + _ ≤ _; exact Nat.le_of_eq rfl) (hb hby at_48) (fun _ _ => ⟨rfl, rfl, (by decide : 2 + 1 ≤ _), (by decide : 12 + 6 ≤ _)⟩)
    dsimp only [Pt.U, Pt.locs, Pt.cells, Pt.slots] at X5 l5 y5 z5 st5 hQ5
    subst l5 y5 z5
    obtain ⟨b5, rfl, N5q, K5, g_b5, s_b5, E5, F5_0⟩ := hQ5
    have N5 := Fr.app N4 N5q
    refine Go.step st5 ?_
    have sz_b5 : h0.size ≤ b5 := Nat.le_trans Kc4.1 s_b5
    have Kc5 : Keep h0 T5.heap [] := Kc4.trans K5 all0
    show Go _ _ _ _ T5 (mkF m 51 #[.val (.int p0), .val (.int p1), .val (.int p2), .val (.ref (w 1)), .val (.ref b2), .val (.int (1 : Int32)), .val (.ref b4), .unset, .unset] [(.ref b5)])
    refine Go.step (fun _ zz => XS.astore X5.here hx rfl (hb hby at_51) rfl rfl (l' := #[.val (.int p0), .val (.int p1), .val (.int p2), .val (.ref (w 1)), .val (.ref b2), .val (.int (1 : Int32)), .val (.ref b4), .val (.ref b5), .unset]) rfl zz) ?_
    show Go _ _ _ _ T5 (mkF m 53 #[.val (.int p0), .val (.int p1), .val (.int p2), .val (.ref (w 1)), .val (.ref b2), .val (.int (1 : Int32)), .val (.ref b4), .val (.ref b5), .unset] [])
    refine Go.step (fun _ zz => XS.aload X5.here hx rfl (hb hby at_53) rfl rfl zz) ?_
    show Go _ _ _ _ T5 (mkF m 55 #[.val (.int p0), .val (.int p1), .val (.int p2), .val (.ref (w 1)), .val (.ref b2), .val (.int (1 : Int32)), .val (.ref b4), .val (.ref b5), .unset] [(.ref b2)])
    refine Go.step (fun _ zz => XS.iloadN X5.here hx rfl (hb hby at_55) rfl zz) ?_
    show Go _ _ _ _ T5 (mkF m 56 #[.val (.int p0), .val (.int p1), .val (.int p2), .val (.ref (w 1)), .val (.ref b2), .val (.int (1 : Int32)), .val (.ref b4), .val (.ref b5), .unset] [(.int p0), (.ref b2)])
    refine Go.step (fun _ zz => XS.aconstNull X5.here hx rfl (hb hby at_56) zz) ?_
    show Go _ _ _ _ T5 (mkF m 57 #[.val (.int p0), .val (.int p1), .val (.int p2), .val (.ref (w 1)), .val (.ref b2), .val (.int (1 : Int32)), .val (.ref b4), .val (.ref b5), .unset] [.null, (.int p0), (.ref b2)])
    obtain ⟨cq6, kq6, q6a, q6b, q6c⟩ := isOf hZ rfl ((E3.keep K4).keep K5)
    obtain ⟨_, _, ⟨T6, L6, k6, n6⟩, -, X6, ⟨Lc6, hQ6, l6, y6, z6⟩, st6⟩ := X5.virtualBack hx (y := (⟨"com/example/topicd/topicd/protocol/Command", "answer", "(ILjava/lang/String;)Lcom/example/topicd/topicd/protocol/Command;"⟩ : MethodName)) (z := (⟨"com/example/topicd/topicd/protocol/Command", "answer", "(ILjava/lang/String;)Lcom/example/topicd/topicd/protocol/Command;"⟩ : MethodName)) hown (mvT hZ (hw _ (List.mem_of_getElem? (i := 47) rfl))) (mvT hZ (hw _ (List.mem_of_getElem? (i := 48) rfl))) (notFace_of_selects (args := #[]) (mvT hZ (hw _ (List.mem_of_getElem? (i := 50) rfl)))) (mvT hZ (hw _ (List.mem_of_getElem? (i := 50) rfl))) (mvT hZ (hw _ (List.mem_of_getElem? (i := 49) rfl))) (by decide) (backOf (W := 0) (rm8 l Z a0 hw [] b2 p0 w p1 T5.heap n0 (Nat.le_trans (Nat.le_trans (Nat.le_trans (Nat.le_trans Z0 E2.1) K3.1) K4.1) K5.1) ((((O0.ext E2).keep K3 (allS g_b2 all0)).keep K4 all0).keep K5 all0) wd ((E3.keep K4).keep K5) ((F3_1.keep K4 nin0).keep K5 nin0)) hZ (hw _ (List.mem_of_getElem? (i := 51) rfl)) (hw _ (List.mem_of_getElem? (i := 8) rfl)) (by decide) (by decide)) q6a q6c (g := (mkF m 57 #[.val (.int p0), .val (.int p1), .val (.int p2), .val (.ref (w 1)), .val (.ref b2), .val (.int (1 : Int32)), .val (.ref b4), .val (.ref b5), .unset] [.null, (.int p0), (.ref b2)])) rfl (by rw [hml]; rfl) (Steps.refl _) (argsL := [(.int p0), .null]) (rest := []) (lenOf own_pd9 rfl) rfl (by show 2 * 0 + _ ≤ _; exact Nat.le_of_eq rfl) (hb hby at_57) (fun _ _ => ⟨rfl, rfl, (by decide : 3 + 1 ≤ _), (by decide : 18 + 6 ≤ _)⟩)
    dsimp only [Pt.U, Pt.locs, Pt.cells, Pt.slots] at X6 l6 y6 z6 st6 hQ6
    subst l6 y6 z6
    obtain ⟨b6, rfl, N6q, K6, g_b6, s_b6, E6, F6_0⟩ := hQ6
    have N6 := Fr.app N5 N6q
    refine Go.tr st6 ?_
    have sz_b6 : h0.size ≤ b6 := Nat.le_trans Kc5.1 s_b6
    have Kc6 : Keep h0 T6.heap [] := Kc5.trans K6 all0
    show Go _ _ _ _ T6 (mkF m 60 #[.val (.int p0), .val (.int p1), .val (.int p2), .val (.ref (w 1)), .val (.ref b2), .val (.int (1 : Int32)), .val (.ref b4), .val (.ref b5), .unset] [(.ref b6)])
    refine Go.step (fun _ zz => XS.astore X6.here hx rfl (hb hby at_60) rfl rfl (l' := #[.val (.int p0), .val (.int p1), .val (.int p2), .val (.ref (w 1)), .val (.ref b2), .val (.int (1 : Int32)), .val (.ref b4), .val (.ref b5), .val (.ref b6)]) rfl zz) ?_
    show Go _ _ _ _ T6 (mkF m 62 #[.val (.int p0), .val (.int p1), .val (.int p2), .val (.ref (w 1)), .val (.ref b2), .val (.int (1 : Int32)), .val (.ref b4), .val (.ref b5), .val (.ref b6)] [])
    refine Go.step (fun _ zz => XS.aload X6.here hx rfl (hb hby at_62) rfl rfl zz) ?_
    show Go _ _ _ _ T6 (mkF m 64 #[.val (.int p0), .val (.int p1), .val (.int p2), .val (.ref (w 1)), .val (.ref b2), .val (.int (1 : Int32)), .val (.ref b4), .val (.ref b5), .val (.ref b6)] [(.ref b2)])
    obtain ⟨cq7, kq7, q7a, q7b, q7c⟩ := isOf hZ rfl (((E3.keep K4).keep K5).keep K6)
    obtain ⟨_, _, ⟨T7, L7, k7, n7⟩, -, X7, ⟨Lc7, hQ7, l7, y7, z7⟩, st7⟩ := X6.virtualBack hx (y := (⟨"com/example/topicd/topicd/protocol/Command", "isOneway", "()Z"⟩ : MethodName)) (z := (⟨"com/example/topicd/topicd/protocol/Command", "isOneway", "()Z"⟩ : MethodName)) hown (mvT hZ (hw _ (List.mem_of_getElem? (i := 58) rfl))) (mvT hZ (hw _ (List.mem_of_getElem? (i := 59) rfl))) (notFace_of_selects (args := #[]) (mvT hZ (hw _ (List.mem_of_getElem? (i := 61) rfl)))) (mvT hZ (hw _ (List.mem_of_getElem? (i := 61) rfl))) (mvT hZ (hw _ (List.mem_of_getElem? (i := 60) rfl))) (by decide) (backOf (W := 0) (rm10 l Z a0 hw [] b2 p2 T6.heap n0 (Nat.le_trans (Nat.le_trans (Nat.le_trans (Nat.le_trans (Nat.le_trans Z0 E2.1) K3.1) K4.1) K5.1) K6.1) (((F3_2.keep K4 nin0).keep K5 nin0).keep K6 nin0)) hZ (hw _ (List.mem_of_getElem? (i := 62) rfl)) (hw _ (List.mem_of_getElem? (i := 8) rfl)) (by decide) (by decide)) q7a q7c (g := (mkF m 64 #[.val (.int p0), .val (.int p1), .val (.int p2), .val (.ref (w 1)), .val (.ref b2), .val (.int (1 : Int32)), .val (.ref b4), .val (.ref b5), .val (.ref b6)] [(.ref b2)])) rfl (by rw [hml]; rfl) (Steps.refl _) (argsL := []) (rest := []) (lenOf own_pd10 rfl) rfl (by show 2 * 0 + _ ≤ _; exact Nat.le_of_eq rfl) (hb hby at_64) (fun _ _ => ⟨rfl, rfl, (by decide : 4 + 0 ≤ _), (by decide : 24 + 0 ≤ _)⟩)
    dsimp only [Pt.U, Pt.locs, Pt.cells, Pt.slots] at X7 l7 y7 z7 st7 hQ7
    subst l7 y7 z7
    obtain ⟨rfl, N7q, e7⟩ := hQ7
    have N7 := Fr.app N6 N7q
    refine Go.tr st7 ?_
    show Go _ _ _ _ T7 (mkF m 67 #[.val (.int p0), .val (.int p1), .val (.int p2), .val (.ref (w 1)), .val (.ref b2), .val (.int (1 : Int32)), .val (.ref b4), .val (.ref b5), .val (.ref b6)] [(.int (own_f10 b2 p2))])
    refine Go.step (fun _ zz => XS.iload X7.here hx rfl (hb hby at_67) rfl zz) ?_
    show Go _ _ _ _ T7 (mkF m 69 #[.val (.int p0), .val (.int p1), .val (.int p2), .val (.ref (w 1)), .val (.ref b2), .val (.int (1 : Int32)), .val (.ref b4), .val (.ref b5), .val (.ref b6)] [(.int (1 : Int32)), (.int (own_f10 b2 p2))])
    refine Go.step (fun _ zz => XS.icmpNo X7.here hx rfl (hb hby at_69) rfl (teq (if_neg ((own_bit _).mp hc25))).2 zz) ?_
    show Go _ _ _ _ T7 (mkF m 72 #[.val (.int p0), .val (.int p1), .val (.int p2), .val (.ref (w 1)), .val (.ref b2), .val (.int (1 : Int32)), .val (.ref b4), .val (.ref b5), .val (.ref b6)] [])
    refine Go.step (fun _ zz => XS.aload X7.here hx rfl (hb hby at_72) rfl rfl zz) ?_
    show Go _ _ _ _ T7 (mkF m 74 #[.val (.int p0), .val (.int p1), .val (.int p2), .val (.ref (w 1)), .val (.ref b2), .val (.int (1 : Int32)), .val (.ref b4), .val (.ref b5), .val (.ref b6)] [(.ref b4)])
    obtain ⟨cq8, kq8, q8a, q8b, q8c⟩ := isOf hZ e7 ((E4.keep K5).keep K6)
    obtain ⟨_, _, ⟨T8, L8, k8, n8⟩, -, X8, ⟨Lc8, hQ8, l8, y8, z8⟩, st8⟩ := X7.virtualBack hx (y := (⟨"com/example/topicd/topicd/protocol/Command", "isOneway", "()Z"⟩ : MethodName)) (z := (⟨"com/example/topicd/topicd/protocol/Command", "isOneway", "()Z"⟩ : MethodName)) hown (mvT hZ (hw _ (List.mem_of_getElem? (i := 58) rfl))) (mvT hZ (hw _ (List.mem_of_getElem? (i := 59) rfl))) (notFace_of_selects (args := #[]) (mvT hZ (hw _ (List.mem_of_getElem? (i := 61) rfl)))) (mvT hZ (hw _ (List.mem_of_getElem? (i := 61) rfl))) (mvT hZ (hw _ (List.mem_of_getElem? (i := 60) rfl))) (by decide) (backOf (W := 0) (rm10 l Z a0 hw [] b4 (2 : Int32) T6.heap n0 (Nat.le_trans (Nat.le_trans (Nat.le_trans (Nat.le_trans (Nat.le_trans Z0 E2.1) K3.1) K4.1) K5.1) K6.1) ((F4_0.keep K5 nin0).keep K6 nin0)) hZ (hw _ (List.mem_of_getElem? (i := 62) rfl)) (hw _ (List.mem_of_getElem? (i := 8) rfl)) (by decide) (by decide)) q8a q8c (g := (mkF m 74 #[.val (.int p0), .val (.int p1), .val (.int p2), .val (.ref (w 1)), .val (.ref b2), .val (.int (1 : Int32)), .val (.ref b4), .val (.ref b5), .val (.ref b6)] [(.ref b4)])) rfl (by rw [hml]; rfl) (Steps.refl _) (argsL := []) (rest := []) (lenOf own_pd10 rfl) rfl (by show 2 * 0 + _ ≤ _; exact Nat.le_of_eq rfl) (hb hby at_74) (fun _ _ => ⟨rfl, e7, (by decide : 4 + 0 ≤ _), (by decide : 24 + 0 ≤ _)⟩)
    dsimp only [Pt.U, Pt.locs, Pt.cells, Pt.slots] at X8 l8 y8 z8 st8 hQ8
    subst l8 y8 z8
    obtain ⟨rfl, N8q, e8⟩ := hQ8
    have N8 := Fr.app N7 N8q
    refine Go.tr st8 ?_
    show Go _ _ _ _ T8 (mkF m 77 #[.val (.int p0), .val (.int p1), .val (.int p2), .val (.ref (w 1)), .val (.ref b2), .val (.int (1 : Int32)), .val (.ref b4), .val (.ref b5), .val (.ref b6)] [(.int (own_f10 b4 (2 : Int32)))])
    refine Go.step (fun _ zz => XS.ifNo X8.here hx rfl (hb hby at_77) rfl ((if0 _ _).trans (feq (by unfold own_f10; decide)).1) zz) ?_
    show Go _ _ _ _ T8 (mkF m 80 #[.val (.int p0), .val (.int p1), .val (.int p2), .val (.ref (w 1)), .val (.ref b2), .val (.int (1 : Int32)), .val (.ref b4), .val (.ref b5), .val (.ref b6)] [])
    refine Go.step (fun _ zz => XS.aload X8.here hx rfl (hb hby at_80) rfl rfl zz) ?_
    show Go _ _ _ _ T8 (mkF m 82 #[.val (.int p0), .val (.int p1), .val (.int p2), .val (.ref (w 1)), .val (.ref b2), .val (.int (1 : Int32)), .val (.ref b4), .val (.ref b5), .val (.ref b6)] [(.ref b5)])
    obtain ⟨cq9, kq9, q9a, q9b, q9c⟩ := isOf hZ e8 (E5.keep K6)
    obtain ⟨_, _, ⟨T9, L9, k9, n9⟩, -, X9, ⟨Lc9, hQ9, l9, y9, z9⟩, st9⟩ := X8.virtualBack hx (y := (⟨"com/example/topicd/topicd/protocol/Command", "isOneway", "()Z"⟩ : MethodName)) (z := (⟨"com/example/topicd/topicd/protocol/Command", "isOneway", "()Z"⟩ : MethodName)) hown (mvT hZ (hw _ (List.mem_of_getElem? (i := 58) rfl))) (mvT hZ (hw _ (List.mem_of_getElem? (i := 59) rfl))) (notFace_of_selects (args := #[]) (mvT hZ (hw _ (List.mem_of_getElem? (i := 61) rfl)))) (mvT hZ (hw _ (List.mem_of_getElem? (i := 61) rfl))) (mvT hZ (hw _ (List.mem_of_getElem? (i := 60) rfl))) (by decide) (backOf (W := 0) (rm10 l Z a0 hw [] b5 (0 : Int32) T6.heap n0 (Nat.le_trans (Nat.le_trans (Nat.le_trans (Nat.le_trans (Nat.le_trans Z0 E2.1) K3.1) K4.1) K5.1) K6.1) (F5_0.keep K6 nin0)) hZ (hw _ (List.mem_of_getElem? (i := 62) rfl)) (hw _ (List.mem_of_getElem? (i := 8) rfl)) (by decide) (by decide)) q9a q9c (g := (mkF m 82 #[.val (.int p0), .val (.int p1), .val (.int p2), .val (.ref (w 1)), .val (.ref b2), .val (.int (1 : Int32)), .val (.ref b4), .val (.ref b5), .val (.ref b6)] [(.ref b5)])) rfl (by rw [hml]; rfl) (Steps.refl _) (argsL := []) (rest := []) (lenOf own_pd10 rfl) rfl (by show 2 * 0 + _ ≤ _; exact Nat.le_of_eq rfl) (hb hby at_82) (fun _ _ => ⟨rfl, e8, (by decide : 4 + 0 ≤ _), (by decide : 24 + 0 ≤ _)⟩)
    dsimp only [Pt.U, Pt.locs, Pt.cells, Pt.slots] at X9 l9 y9 z9 st9 hQ9
    subst l9 y9 z9
    obtain ⟨rfl, N9q, e9⟩ := hQ9
    have N9 := Fr.app N8 N9q
    refine Go.tr st9 ?_
    show Go _ _ _ _ T9 (mkF m 85 #[.val (.int p0), .val (.int p1), .val (.int p2), .val (.ref (w 1)), .val (.ref b2), .val (.int (1 : Int32)), .val (.ref b4), .val (.ref b5), .val (.ref b6)] [(.int (own_f10 b5 (0 : Int32)))])
    refine Go.step (fun _ zz => XS.ifNo X9.here hx rfl (hb hby at_85) rfl ((if0 _ _).trans (teq (by unfold own_f10; decide)).2) zz) ?_
    show Go _ _ _ _ T9 (mkF m 88 #[.val (.int p0), .val (.int p1), .val (.int p2), .val (.ref (w 1)), .val (.ref b2), .val (.int (1 : Int32)), .val (.ref b4), .val (.ref b5), .val (.ref b6)] [])
    refine Go.step (fun _ zz => XS.aload X9.here hx rfl (hb hby at_88) rfl rfl zz) ?_
    show Go _ _ _ _ T9 (mkF m 90 #[.val (.int p0), .val (.int p1), .val (.int p2), .val (.ref (w 1)), .val (.ref b2), .val (.int (1 : Int32)), .val (.ref b4), .val (.ref b5), .val (.ref b6)] [(.ref b6)])
    obtain ⟨cq10, kq10, q10a, q10b, q10c⟩ := isOf hZ e9 E6
    obtain ⟨_, _, ⟨T10, L10, k10, n10⟩, -, X10, ⟨Lc10, hQ10, l10, y10, z10⟩, st10⟩ := X9.virtualBack hx (y := (⟨"com/example/topicd/topicd/protocol/Command", "isOneway", "()Z"⟩ : MethodName)) (z := (⟨"com/example/topicd/topicd/protocol/Command", "isOneway", "()Z"⟩ : MethodName)) hown (mvT hZ (hw _ (List.mem_of_getElem? (i := 58) rfl))) (mvT hZ (hw _ (List.mem_of_getElem? (i := 59) rfl))) (notFace_of_selects (args := #[]) (mvT hZ (hw _ (List.mem_of_getElem? (i := 61) rfl)))) (mvT hZ (hw _ (List.mem_of_getElem? (i := 61) rfl))) (mvT hZ (hw _ (List.mem_of_getElem? (i := 60) rfl))) (by decide) (backOf (W := 0) (rm10 l Z a0 hw [] b6 (1 : Int32) T6.heap n0 (Nat.le_trans (Nat.le_trans (Nat.le_trans (Nat.le_trans (Nat.le_trans Z0 E2.1) K3.1) K4.1) K5.1) K6.1) F6_0) hZ (hw _ (List.mem_of_getElem? (i := 62) rfl)) (hw _ (List.mem_of_getElem? (i := 8) rfl)) (by decide) (by decide)) q10a q10c (g := (mkF m 90 #[.val (.int p0), .val (.int p1), .val (.int p2), .val (.ref (w 1)), .val (.ref b2), .val (.int (1 : Int32)), .val (.ref b4), .val (.ref b5), .val (.ref b6)] [(.ref b6)])) rfl (by rw [hml]; rfl) (Steps.refl _) (argsL := []) (rest := []) (lenOf own_pd10 rfl) rfl (by show 2 * 0 + _ ≤ _; exact Nat.le_of_eq rfl) (hb hby at_90) (fun _ _ => ⟨rfl, e9, (by decide : 4 + 0 ≤ _), (by decide : 24 + 0 ≤ _)⟩)
    dsimp only [Pt.U, Pt.locs, Pt.cells, Pt.slots] at X10 l10 y10 z10 st10 hQ10
    subst l10 y10 z10
    obtain ⟨rfl, N10q, e10⟩ := hQ10
    have N10 := Fr.app N9 N10q
    refine Go.tr st10 ?_
    show Go _ _ _ _ T10 (mkF m 93 #[.val (.int p0), .val (.int p1), .val (.int p2), .val (.ref (w 1)), .val (.ref b2), .val (.int (1 : Int32)), .val (.ref b4), .val (.ref b5), .val (.ref b6)] [(.int (own_f10 b6 (1 : Int32)))])
    refine Go.step (fun _ zz => XS.ifNo X10.here hx rfl (hb hby at_93) rfl ((if0 _ _).trans (teq (by unfold own_f10; decide)).2) zz) ?_
    show Go _ _ _ _ T10 (mkF m 96 #[.val (.int p0), .val (.int p1), .val (.int p2), .val (.ref (w 1)), .val (.ref b2), .val (.int (1 : Int32)), .val (.ref b4), .val (.ref b5), .val (.ref b6)] [])
    refine Go.step (fun _ zz => XS.iconst X10.here hx rfl (hb hby at_96) zz) ?_
    show Go _ _ _ _ T10 (mkF m 97 #[.val (.int p0), .val (.int p1), .val (.int p2), .val (.ref (w 1)), .val (.ref b2), .val (.int (1 : Int32)), .val (.ref b4), .val (.ref b5), .val (.ref b6)] [(.int (1 : Int32))])
    refine Go.step (fun _ zz => XS.goto X10.here hx rfl (pc0 := 97) (pc' := 101) rfl (hb hby at_97) (by decide) (by decide) zz) ?_
    show Go _ _ _ _ T10 (mkF m 101 #[.val (.int p0), .val (.int p1), .val (.int p2), .val (.ref (w 1)), .val (.ref b2), .val (.int (1 : Int32)), .val (.ref b4), .val (.ref b5), .val (.ref b6)] [(.int (1 : Int32))])
    exact Go.retN X10 hx (t := .boolean) Bd.returns (by simp) (hb hby at_101) Bd.notSynchronized (z' := (1 : Int32)) (by decide) (⟨rfl, N10⟩) (by decide) (by decide)
  · refine Go.step (fun _ zz => XS.icmpYes X3.here hx rfl (pc0 := 25) (pc' := 32) rfl (hb hby at_25) rfl (feq hc25).2 (by decide) (by decide) zz) ?_
    show Go _ _ _ _ T3 (mkF m 32 #[.val (.int p0), .val (.int p1), .val (.int p2), .val (.ref (w 1)), .val (.ref b2), .unset, .unset, .unset, .unset] [])
    refine Go.step (fun _ zz => XS.iconst X3.here hx rfl (hb hby at_32) zz) ?_
    show Go _ _ _ _ T3 (mkF m 33 #[.val (.int p0), .val (.int p1), .val (.int p2), .val (.ref (w 1)), .val (.ref b2), .unset, .unset, .unset, .unset] [(.int (0 : Int32))])
    refine Go.step (fun _ zz => XS.istore X3.here hx rfl (hb hby at_33) rfl (l' := #[.val (.int p0), .val (.int p1), .val (.int p2), .val (.ref (w 1)), .val (.ref b2), .val (.int (0 : Int32)), .unset, .unset, .unset]) rfl zz) ?_
    show Go _ _ _ _ T3 (mkF m 35 #[.val (.int p0), .val (.int p1), .val (.int p2), .val (.ref (w 1)), .val (.ref b2), .val (.int (0 : Int32)), .unset, .unset, .unset] [])
    refine Go.step (fun _ zz => XS.iloadN X3.here hx rfl (hb hby at_35) rfl zz) ?_
    show Go _ _ _ _ T3 (mkF m 36 #[.val (.int p0), .val (.int p1), .val (.int p2), .val (.ref (w 1)), .val (.ref b2), .val (.int (0 : Int32)), .unset, .unset, .unset] [(.int p0)])
    refine Go.step (fun _ zz => XS.iloadN X3.here hx rfl (hb hby at_36) rfl zz) ?_
    show Go _ _ _ _ T3 (mkF m 37 #[.val (.int p0), .val (.int p1), .val (.int p2), .val (.ref (w 1)), .val (.ref b2), .val (.int (0 : Int32)), .unset, .unset, .unset] [(.int p1), (.int p0)])
    refine Go.step (fun _ zz => XS.aloadN X3.here hx rfl (hb hby at_37) rfl rfl zz) ?_
    show Go _ _ _ _ T3 (mkF m 38 #[.val (.int p0), .val (.int p1), .val (.int p2), .val (.ref (w 1)), .val (.ref b2), .val (.int (0 : Int32)), .unset, .unset, .unset] [(.ref (w 1)), (.int p1), (.int p0)])
    refine Go.step (fun _ zz => XS.aconstNull X3.here hx rfl (hb hby at_38) zz) ?_
    show Go _ _ _ _ T3 (mkF m 39 #[.val (.int p0), .val (.int p1), .val (.int p2), .val (.ref (w 1)), .val (.ref b2), .val (.int (0 : Int32)), .unset, .unset, .unset] [.null, (.ref (w 1)), (.int p1), (.int p0)])
    obtain ⟨_, _, ⟨T11, L11, k11, n11⟩, -, X11, ⟨Lc11, hQ11, l11, y11, z11⟩, st11⟩ := Jvm.LawKit.callS X3 hx (y := (⟨"com/example/topicd/topicd/protocol/Command", "oneway", "(IILjava/util/Map;[B)Lcom/example/topicd/topicd/protocol/Command;"⟩ : MethodName)) hown (mvT hZ (hw _ (List.mem_of_getElem? (i := 39) rfl))) (mvT hZ (hw _ (List.mem_of_getElem? (i := 40) rfl))) (mvT hZ (hw _ (List.mem_of_getElem? (i := 8) rfl))) (mvT hZ (hw _ (List.mem_of_getElem? (i := 41) rfl))) (by decide) (backOf (W := 0) (rm6 l Z a0 hw [] p0 p1 w T3.heap n0 (Nat.le_trans (Nat.le_trans Z0 E2.1) K3.1) ((O0.ext E2).keep K3 (allS g_b2 all0)) wd) hZ (hw _ (List.mem_of_getElem? (i := 41) rfl)) (hw _ (List.mem_of_getElem? (i := 8) rfl)) (by decide) (by decide)) (g := (mkF m 39 #[.val (.int p0), .val (.int p1), .val (.int p2), .val (.ref (w 1)), .val (.ref b2), .val (.int (0 : Int32)), .unset, .unset, .unset] [.null, (.ref (w 1)), (.int p1), (.int p0)])) rfl (by rw [hml]; rfl) (argsL := [(.int p0), (.int p1), (.ref (w 1)), .null]) (rest := []) (lenOf own_pd8 rfl) rfl (by show 2 * 0 + _ ≤ _; exact Nat.le_of_eq rfl) (hb hby at_39) (fun _ _ => ⟨rfl, rfl, (by decide : 1 + 1 ≤ _), (by decide : 6 + 6 ≤ _)⟩)
    dsimp only [Pt.U, Pt.locs, Pt.cells, Pt.slots] at X11 l11 y11 z11 st11 hQ11
    subst l11 y11 z11
    obtain ⟨b11, rfl, N11q, K11, g_b11, s_b11, E11, F11_0⟩ := hQ11
    have N11 := Fr.app N3 N11q
    refine Go.step st11 ?_
    have sz_b11 : h0.size ≤ b11 := Nat.le_trans Kc3.1 s_b11
    have Kc11 : Keep h0 T11.heap [] := Kc3.trans K11 all0
    show Go _ _ _ _ T11 (mkF m 42 #[.val (.int p0), .val (.int p1), .val (.int p2), .val (.ref (w 1)), .val (.ref b2), .val (.int (0 : Int32)), .unset, .unset, .unset] [(.ref b11)])
    refine Go.step (fun _ zz => XS.astore X11.here hx rfl (hb hby at_42) rfl rfl (l' := #[.val (.int p0), .val (.int p1), .val (.int p2), .val (.ref (w 1)), .val (.ref b2), .val (.int (0 : Int32)), .val (.ref b11), .unset, .unset]) rfl zz) ?_
    show Go _ _ _ _ T11 (mkF m 44 #[.val (.int p0), .val (.int p1), .val (.int p2), .val (.ref (w 1)), .val (.ref b2), .val (.int (0 : Int32)), .val (.ref b11), .unset, .unset] [])
    refine Go.step (fun _ zz => XS.iloadN X11.here hx rfl (hb hby at_44) rfl zz) ?_
    show Go _ _ _ _ T11 (mkF m 45 #[.val (.int p0), .val (.int p1), .val (.int p2), .val (.ref (w 1)), .val (.ref b2), .val (.int (0 : Int32)), .val (.ref b11), .unset, .unset] [(.int p0)])
    refine Go.step (fun _ zz => XS.iloadN X11.here hx rfl (hb hby at_45) rfl zz) ?_
    show Go _ _ _ _ T11 (mkF m 46 #[.val (.int p0), .val (.int p1), .val (.int p2), .val (.ref (w 1)), .val (.ref b2), .val (.int (0 : Int32)), .val (.ref b11), .unset, .unset] [(.int p1), (.int p0)])
    refine Go.step (fun _ zz => XS.aloadN X11.here hx rfl (hb hby at_46) rfl rfl zz) ?_
    show Go _ _ _ _ T11 (mkF m 47 #[.val (.int p0), .val (.int p1), .val (.int p2), .val (.ref (w 1)), .val (.ref b2), .val (.int (0 : Int32)), .val (.ref b11), .unset, .unset] [(.ref (w 1)), (.int p1), (.int p0)])
    refine Go.step (fun _ zz => XS.aconstNull X11.here hx rfl (hb hby at_47) zz) ?_
    show Go _ _ _ _ T11 (mkF m 48 #[.val (.int p0), .val (.int p1), .val (.int p2), .val (.ref (w 1)), .val (.ref b2), .val (.int (0 : Int32)), .val (.ref b11), .unset, .unset] [.null, (.ref (w 1)), (.int p1), (.int p0)])
    obtain ⟨_, _, ⟨T12, L12, k12, n12⟩, -, X12, ⟨Lc12, hQ12, l12, y12, z12⟩, st12⟩ := Jvm.LawKit.callS X11 hx (y := (⟨"com/example/topicd/topicd/protocol/Command", "request", "(IILjava/util/Map;[B)Lcom/example/topicd/topicd/protocol/Command;"⟩ : MethodName)) hown (mvT hZ (hw _ (List.mem_of_getElem? (i := 44) rfl))) (mvT hZ (hw _ (List.mem_of_getElem? (i := 45) rfl))) (mvT hZ (hw _ (List.mem_of_getElem? (i := 8) rfl))) (mvT hZ (hw _ (List.mem_of_getElem? (i := 46) rfl))) (by decide) (backOf (W := 0) (rm7 l Z a0 hw [] p0 p1 w T11.heap n0 (Nat.le_trans (Nat.le_trans (Nat.le_trans Z0 E2.1) K3.1) K11.1) (((O0.ext E2).keep K3 (allS g_b2 all0)).keep K11 all0) wd) hZ (hw _ (List.mem_of_getElem? (i := 46) rfl)) (hw _ (List.mem_of_getElem? (i := 8) rfl)) (by decide) (by decide)) (g := (mkF m 48 #[.val (.int p0), .val (.int p1), .val (.int p2), .val (.ref (w 1)), .val (.ref b2), .val (.int (0 : Int32)), .val (.ref b11), .unset, .unset] [.null, (.ref (w 1)), (.int p1), (.int p0)])) rfl (by rw [hml]; rfl) (argsL := [(.int p0), (.int p1), (.ref (w 1)), .null]) (rest := []) (lenOf own_pd8 rfl) rfl (by show 2 * 0 + _ ≤ _; exact Nat.le_of_eq rfl) (hb hby at_48) (fun _ _ => ⟨rfl, rfl, (by decide : 2 + 1 ≤ _), (by decide : 12 + 6 ≤ _)⟩)
    dsimp only [Pt.U, Pt.locs, Pt.cells, Pt.slots] at X12 l12 y12 z12 st12 hQ12
    subst l12 y12 z12
    obtain ⟨b12, rfl, N12q, K12, g_b12, s_b12, E12, F12_0⟩ := hQ12
    have N12 := Fr.app N11 N12q
    refine Go.step st12 ?_
    have sz_b12 : h0.size ≤ b12 := Nat.le_trans Kc11.1 s_b12
    have Kc12 : Keep h0 T12.heap [] := Kc11.trans K12 all0
    show Go _ _ _ _ T12 (mkF m 51 #[.val (.int p0), .val (.int p1), .val (.int p2), .val (.ref (w 1)), .val (.ref b2), .val (.int (0 : Int32)), .val (.ref b11), .unset, .unset] [(.ref b12)])
    refine Go.step (fun _ zz => XS.astore X12.here hx rfl (hb hby at_51) rfl rfl (l' := #[.val (.int p0), .val (.int p1), .val (.int p2), .val (.ref (w 1)), .val (.ref b2), .val (.int (0 : Int32)), .val (.ref b11), .val (.ref b12), .unset]) rfl zz) ?_
    show Go _ _ _ _ T12 (mkF m 53 #[.val (.int p0), .val (.int p1), .val (.int p2), .val (.ref (w 1)), .val (.ref b2), .val (.int (0 : Int32)), .val (.ref b11), .val (.ref b12), .unset] [])
    refine Go.step (fun _ zz => XS.aload X12.here hx rfl (hb hby at_53) rfl rfl zz) ?_
    show Go _ _ _ _ T12 (mkF m 55 #[.val (.int p0), .val (.int p1), .val (.int p2), .val (.ref (w 1)), .val (.ref b2), .val (.int (0 : Int32)), .val (.ref b11), .val (.ref b12), .unset] [(.ref b2)])
    refine Go.step (fun _ zz => XS.iloadN X12.here hx rfl (hb hby at_55) rfl zz) ?_
    show Go _ _ _ _ T12 (mkF m 56 #[.val (.int p0), .val (.int p1), .val (.int p2), .val (.ref (w 1)), .val (.ref b2), .val (.int (0 : Int32)), .val (.ref b11), .val (.ref b12), .unset] [(.int p0), (.ref b2)])
    refine Go.step (fun _ zz => XS.aconstNull X12.here hx rfl (hb hby at_56) zz) ?_
    show Go _ _ _ _ T12 (mkF m 57 #[.val (.int p0), .val (.int p1), .val (.int p2), .val (.ref (w 1)), .val (.ref b2), .val (.int (0 : Int32)), .val (.ref b11), .val (.ref b12), .unset] [.null, (.int p0), (.ref b2)])
    obtain ⟨cq13, kq13, q13a, q13b, q13c⟩ := isOf hZ rfl ((E3.keep K11).keep K12)
    obtain ⟨_, _, ⟨T13, L13, k13, n13⟩, -, X13, ⟨Lc13, hQ13, l13, y13, z13⟩, st13⟩ := X12.virtualBack hx (y := (⟨"com/example/topicd/topicd/protocol/Command", "answer", "(ILjava/lang/String;)Lcom/example/topicd/topicd/protocol/Command;"⟩ : MethodName)) (z := (⟨"com/example/topicd/topicd/protocol/Command", "answer", "(ILjava/lang/String;)Lcom/example/topicd/topicd/protocol/Command;"⟩ : MethodName)) hown (mvT hZ (hw _ (List.mem_of_getElem? (i := 47) rfl))) (mvT hZ (hw _ (List.mem_of_getElem? (i := 48) rfl))) (notFace_of_selects (args := #[]) (mvT hZ (hw _ (List.mem_of_getElem? (i := 50) rfl)))) (mvT hZ (hw _ (List.mem_of_getElem? (i := 50) rfl))) (mvT hZ (hw _ (List.mem_of_getElem? (i := 49) rfl))) (by decide) (backOf (W := 0) (rm8 l Z a0 hw [] b2 p0 w p1 T12.heap n0 (Nat.le_trans (Nat.le_trans (Nat.le_trans (Nat.le_trans Z0 E2.1) K3.1) K11.1) K12.1) ((((O0.ext E2).keep K3 (allS g_b2 all0)).keep K11 all0).keep K12 all0) wd ((E3.keep K11).keep K12) ((F3_1.keep K11 nin0).keep K12 nin0)) hZ (hw _ (List.mem_of_getElem? (i := 51) rfl)) (hw _ (List.mem_of_getElem? (i := 8) rfl)) (by decide) (by decide)) q13a q13c (g := (mkF m 57 #[.val (.int p0), .val (.int p1), .val (.int p2), .val (.ref (w 1)), .val (.ref b2), .val (.int (0 : Int32)), .val (.ref b11), .val (.ref b12), .unset] [.null, (.int p0), (.ref b2)])) rfl (by rw [hml]; rfl) (Steps.refl _) (argsL := [(.int p0), .null]) (rest := []) (lenOf own_pd9 rfl) rfl (by show 2 * 0 + _ ≤ _; exact Nat.le_of_eq rfl) (hb hby at_57) (fun _ _ => ⟨rfl, rfl, (by decide : 3 + 1 ≤ _), (by decide : 18 + 6 ≤ _)⟩)
    dsimp only [Pt.U, Pt.locs, Pt.cells, Pt.slots] at X13 l13 y13 z13 st13 hQ13
    subst l13 y13 z13
    obtain ⟨b13, rfl, N13q, K13, g_b13, s_b13, E13, F13_0⟩ := hQ13
    have N13 := Fr.app N12 N13q
    refine Go.tr st13 ?_
    have sz_b13 : h0.size ≤ b13 := Nat.le_trans Kc12.1 s_b13
    have Kc13 : Keep h0 T13.heap [] := Kc12.trans K13 all0
    show Go _ _ _ _ T13 (mkF m 60 #[.val (.int p0), .val (.int p1), .val (.int p2), .val (.ref (w 1)), .val (.ref b2), .val (.int (0 : Int32)), .val (.ref b11), .val (.ref b12), .unset] [(.ref b13)])
    refine Go.step (fun _ zz => XS.astore X13.here hx rfl (hb hby at_60) rfl rfl (l' := #[.val (.int p0), .val (.int p1), .val (.int p2), .val (.ref (w 1)), .val (.ref b2), .val (.int (0 : Int32)), .val (.ref b11), .val (.ref b12), .val (.ref b13)]) rfl zz) ?_
    show Go _ _ _ _ T13 (mkF m 62 #[.val (.int p0), .val (.int p1), .val (.int p2), .val (.ref (w 1)), .val (.ref b2), .val (.int (0 : Int32)), .val (.ref b11), .val (.ref b12), .val (.ref b13)] [])
    refine Go.step (fun _ zz => XS.aload X13.here hx rfl (hb hby at_62) rfl rfl zz) ?_
    show Go _ _ _ _ T13 (mkF m 64 #[.val (.int p0), .val (.int p1), .val (.int p2), .val (.ref (w 1)), .val (.ref b2), .val (.int (0 : Int32)), .val (.ref b11), .val (.ref b12), .val (.ref b13)] [(.ref b2)])
    obtain ⟨cq14, kq14, q14a, q14b, q14c⟩ := isOf hZ rfl (((E3.keep K11).keep K12).keep K13)
    obtain ⟨_, _, ⟨T14, L14, k14, n14⟩, -, X14, ⟨Lc14, hQ14, l14, y14, z14⟩, st14⟩ := X13.virtualBack hx (y := (⟨"com/example/topicd/topicd/protocol/Command", "isOneway", "()Z"⟩ : MethodName)) (z := (⟨"com/example/topicd/topicd/protocol/Command", "isOneway", "()Z"⟩ : MethodName)) hown (mvT hZ (hw _ (List.mem_of_getElem? (i := 58) rfl))) (mvT hZ (hw _ (List.mem_of_getElem? (i := 59) rfl))) (notFace_of_selects (args := #[]) (mvT hZ (hw _ (List.mem_of_getElem? (i := 61) rfl)))) (mvT hZ (hw _ (List.mem_of_getElem? (i := 61) rfl))) (mvT hZ (hw _ (List.mem_of_getElem? (i := 60) rfl))) (by decide) (backOf (W := 0) (rm10 l Z a0 hw [] b2 p2 T13.heap n0 (Nat.le_trans (Nat.le_trans (Nat.le_trans (Nat.le_trans (Nat.le_trans Z0 E2.1) K3.1) K11.1) K12.1) K13.1) (((F3_2.keep K11 nin0).keep K12 nin0).keep K13 nin0)) hZ (hw _ (List.mem_of_getElem? (i := 62) rfl)) (hw _ (List.mem_of_getElem? (i := 8) rfl)) (by decide) (by decide)) q14a q14c (g := (mkF m 64 #[.val (.int p0), .val (.int p1), .val (.int p2), .val (.ref (w 1)), .val (.ref b2), .val (.int (0 : Int32)), .val (.ref b11), .val (.ref b12), .val (.ref b13)] [(.ref b2)])) rfl (by rw [hml]; rfl) (Steps.refl _) (argsL := []) (rest := []) (lenOf own_pd10 rfl) rfl (by show 2 * 0 + _ ≤ _; exact Nat.le_of_eq rfl) (hb hby at_64) (fun _ _ => ⟨rfl, rfl, (by decide : 4 + 0 ≤ _), (by decide : 24 + 0 ≤ _)⟩)
    dsimp only [Pt.U, Pt.locs, Pt.cells, Pt.slots] at X14 l14 y14 z14 st14 hQ14
    subst l14 y14 z14
    obtain ⟨rfl, N14q, e14⟩ := hQ14
    have N14 := Fr.app N13 N14q
    refine Go.tr st14 ?_
    show Go _ _ _ _ T14 (mkF m 67 #[.val (.int p0), .val (.int p1), .val (.int p2), .val (.ref (w 1)), .val (.ref b2), .val (.int (0 : Int32)), .val (.ref b11), .val (.ref b12), .val (.ref b13)] [(.int (own_f10 b2 p2))])
    refine Go.step (fun _ zz => XS.iload X14.here hx rfl (hb hby at_67) rfl zz) ?_
    show Go _ _ _ _ T14 (mkF m 69 #[.val (.int p0), .val (.int p1), .val (.int p2), .val (.ref (w 1)), .val (.ref b2), .val (.int (0 : Int32)), .val (.ref b11), .val (.ref b12), .val (.ref b13)] [(.int (0 : Int32)), (.int (own_f10 b2 p2))])
    refine Go.step (fun _ zz => XS.icmpNo X14.here hx rfl (hb hby at_69) rfl (teq (if_pos (Classical.not_not.mp fun q => hc25 ((own_bit _).mpr q)))).2 zz) ?_
    show Go _ _ _ _ T14 (mkF m 72 #[.val (.int p0), .val (.int p1), .val (.int p2), .val (.ref (w 1)), .val (.ref b2), .val (.int (0 : Int32)), .val (.ref b11), .val (.ref b12), .val (.ref b13)] [])
    refine Go.step (fun _ zz => XS.aload X14.here hx rfl (hb hby at_72) rfl rfl zz) ?_
    show Go _ _ _ _ T14 (mkF m 74 #[.val (.int p0), .val (.int p1), .val (.int p2), .val (.ref (w 1)), .val (.ref b2), .val (.int (0 : Int32)), .val (.ref b11), .val (.ref b12), .val (.ref b13)] [(.ref b11)])
    obtain ⟨cq15, kq15, q15a, q15b, q15c⟩ := isOf hZ e14 ((E11.keep K12).keep K13)
    obtain ⟨_, _, ⟨T15, L15, k15, n15⟩, -, X15, ⟨Lc15, hQ15, l15, y15, z15⟩, st15⟩ := X14.virtualBack hx (y := (⟨"com/example/topicd/topicd/protocol/Command", "isOneway", "()Z"⟩ : MethodName)) (z := (⟨"com/example/topicd/topicd/protocol/Command", "isOneway", "()Z"⟩ : MethodName)) hown (mvT hZ (hw _ (List.mem_of_getElem? (i := 58) rfl))) (mvT hZ (hw _ (List.mem_of_getElem? (i := 59) rfl))) (notFace_of_selects (args := #[]) (mvT hZ (hw _ (List.mem_of_getElem? (i := 61) rfl)))) (mvT hZ (hw _ (List.mem_of_getElem? (i := 61) rfl))) (mvT hZ (hw _ (List.mem_of_getElem? (i := 60) rfl))) (by decide) (backOf (W := 0) (rm10 l Z a0 hw [] b11 (2 : Int32) T13.heap n0 (Nat.le_trans (Nat.le_trans (Nat.le_trans (Nat.le_trans (Nat.le_trans Z0 E2.1) K3.1) K11.1) K12.1) K13.1) ((F11_0.keep K12 nin0).keep K13 nin0)) hZ (hw _ (List.mem_of_getElem? (i := 62) rfl)) (hw _ (List.mem_of_getElem? (i := 8) rfl)) (by decide) (by decide)) q15a q15c (g := (mkF m 74 #[.val (.int p0), .val (.int p1), .val (.int p2), .val (.ref (w 1)), .val (.ref b2), .val (.int (0 : Int32)), .val (.ref b11), .val (.ref b12), .val (.ref b13)] [(.ref b11)])) rfl (by rw [hml]; rfl) (Steps.refl _) (argsL := []) (rest := []) (lenOf own_pd10 rfl) rfl (by show 2 * 0 + _ ≤ _; exact Nat.le_of_eq rfl) (hb hby at_74) (fun _ _ => ⟨rfl, e14, (by decide : 4 + 0 ≤ _), (by decide : 24 + 0 ≤ _)⟩)
    dsimp only [Pt.U, Pt.locs, Pt.cells, Pt.slots] at X15 l15 y15 z15 st15 hQ15
    subst l15 y15 z15
    obtain ⟨rfl, N15q, e15⟩ := hQ15
    have N15 := Fr.app N14 N15q
    refine Go.tr st15 ?_
    show Go _ _ _ _ T15 (mkF m 77 #[.val (.int p0), .val (.int p1), .val (.int p2), .val (.ref (w 1)), .val (.ref b2), .val (.int (0 : Int32)), .val (.ref b11), .val (.ref b12), .val (.ref b13)] [(.int (own_f10 b11 (2 : Int32)))])
    refine Go.step (fun _ zz => XS.ifNo X15.here hx rfl (hb hby at_77) rfl ((if0 _ _).trans (feq (by unfold own_f10; decide)).1) zz) ?_
    show Go _ _ _ _ T15 (mkF m 80 #[.val (.int p0), .val (.int p1), .val (.int p2), .val (.ref (w 1)), .val (.ref b2), .val (.int (0 : Int32)), .val (.ref b11), .val (.ref b12), .val (.ref b13)] [])
    refine Go.step (fun _ zz => XS.aload X15.here hx rfl (hb hby at_80) rfl rfl zz) ?_
    show Go _ _ _ _ T15 (mkF m 82 #[.val (.int p0), .val (.int p1), .val (.int p2), .val (.ref (w 1)), .val (.ref b2), .val (.int (0 : Int32)), .val (.ref b11), .val (.ref b12), .val (.ref b13)] [(.ref b12)])
    obtain ⟨cq16, kq16, q16a, q16b, q16c⟩ := isOf hZ e15 (E12.keep K13)
    obtain ⟨_, _, ⟨T16, L16, k16, n16⟩, -, X16, ⟨Lc16, hQ16, l16, y16, z16⟩, st16⟩ := X15.virtualBack hx (y := (⟨"com/example/topicd/topicd/protocol/Command", "isOneway", "()Z"⟩ : MethodName)) (z := (⟨"com/example/topicd/topicd/protocol/Command", "isOneway", "()Z"⟩ : MethodName)) hown (mvT hZ (hw _ (List.mem_of_getElem? (i := 58) rfl))) (mvT hZ (hw _ (List.mem_of_getElem? (i := 59) rfl))) (notFace_of_selects (args := #[]) (mvT hZ (hw _ (List.mem_of_getElem? (i := 61) rfl)))) (mvT hZ (hw _ (List.mem_of_getElem? (i := 61) rfl))) (mvT hZ (hw _ (List.mem_of_getElem? (i := 60) rfl))) (by decide) (backOf (W := 0) (rm10 l Z a0 hw [] b12 (0 : Int32) T13.heap n0 (Nat.le_trans (Nat.le_trans (Nat.le_trans (Nat.le_trans (Nat.le_trans Z0 E2.1) K3.1) K11.1) K12.1) K13.1) (F12_0.keep K13 nin0)) hZ (hw _ (List.mem_of_getElem? (i := 62) rfl)) (hw _ (List.mem_of_getElem? (i := 8) rfl)) (by decide) (by decide)) q16a q16c (g := (mkF m 82 #[.val (.int p0), .val (.int p1), .val (.int p2), .val (.ref (w 1)), .val (.ref b2), .val (.int (0 : Int32)), .val (.ref b11), .val (.ref b12), .val (.ref b13)] [(.ref b12)])) rfl (by rw [hml]; rfl) (Steps.refl _) (argsL := []) (rest := []) (lenOf own_pd10 rfl) rfl (by show 2 * 0 + _ ≤ _; exact Nat.le_of_eq rfl) (hb hby at_82) (fun _ _ => ⟨rfl, e15, (by decide : 4 + 0 ≤ _), (by decide : 24 + 0 ≤ _)⟩)
    dsimp only [Pt.U, Pt.locs, Pt.cells, Pt.slots] at X16 l16 y16 z16 st16 hQ16
    subst l16 y16 z16
    obtain ⟨rfl, N16q, e16⟩ := hQ16
    have N16 := Fr.app N15 N16q
    refine Go.tr st16 ?_
    show Go _ _ _ _ T16 (mkF m 85 #[.val (.int p0), .val (.int p1), .val (.int p2), .val (.ref (w 1)), .val (.ref b2), .val (.int (0 : Int32)), .val (.ref b11), .val (.ref b12), .val (.ref b13)] [(.int (own_f10 b12 (0 : Int32)))])
    refine Go.step (fun _ zz => XS.ifNo X16.here hx rfl (hb hby at_85) rfl ((if0 _ _).trans (teq (by unfold own_f10; decide)).2) zz) ?_
    show Go _ _ _ _ T16 (mkF m 88 #[.val (.int p0), .val (.int p1), .val (.int p2), .val (.ref (w 1)), .val (.ref b2), .val (.int (0 : Int32)), .val (.ref b11), .val (.ref b12), .val (.ref b13)] [])
    refine Go.step (fun _ zz => XS.aload X16.here hx rfl (hb hby at_88) rfl rfl zz) ?_
    show Go _ _ _ _ T16 (mkF m 90 #[.val (.int p0), .val (.int p1), .val (.int p2), .val (.ref (w 1)), .val (.ref b2), .val (.int (0 : Int32)), .val (.ref b11), .val (.ref b12), .val (.ref b13)] [(.ref b13)])
    obtain ⟨cq17, kq17, q17a, q17b, q17c⟩ := isOf hZ e16 E13
    obtain ⟨_, _, ⟨T17, L17, k17, n17⟩, -, X17, ⟨Lc17, hQ17, l17, y17, z17⟩, st17⟩ := X16.virtualBack hx (y := (⟨"com/example/topicd/topicd/protocol/Command", "isOneway", "()Z"⟩ : MethodName)) (z := (⟨"com/example/topicd/topicd/protocol/Command", "isOneway", "()Z"⟩ : MethodName)) hown (mvT hZ (hw _ (List.mem_of_getElem? (i := 58) rfl))) (mvT hZ (hw _ (List.mem_of_getElem? (i := 59) rfl))) (notFace_of_selects (args := #[]) (mvT hZ (hw _ (List.mem_of_getElem? (i := 61) rfl)))) (mvT hZ (hw _ (List.mem_of_getElem? (i := 61) rfl))) (mvT hZ (hw _ (List.mem_of_getElem? (i := 60) rfl))) (by decide) (backOf (W := 0) (rm10 l Z a0 hw [] b13 (1 : Int32) T13.heap n0 (Nat.le_trans (Nat.le_trans (Nat.le_trans (Nat.le_trans (Nat.le_trans Z0 E2.1) K3.1) K11.1) K12.1) K13.1) F13_0) hZ (hw _ (List.mem_of_getElem? (i := 62) rfl)) (hw _ (List.mem_of_getElem? (i := 8) rfl)) (by decide) (by decide)) q17a q17c (g := (mkF m 90 #[.val (.int p0), .val (.int p1), .val (.int p2), .val (.ref (w 1)), .val (.ref b2), .val (.int (0 : Int32)), .val (.ref b11), .val (.ref b12), .val (.ref b13)] [(.ref b13)])) rfl (by rw [hml]; rfl) (Steps.refl _) (argsL := []) (rest := []) (lenOf own_pd10 rfl) rfl (by show 2 * 0 + _ ≤ _; exact Nat.le_of_eq rfl) (hb hby at_90) (fun _ _ => ⟨rfl, e16, (by decide : 4 + 0 ≤ _), (by decide : 24 + 0 ≤ _)⟩)
    dsimp only [Pt.U, Pt.locs, Pt.cells, Pt.slots] at X17 l17 y17 z17 st17 hQ17
    subst l17 y17 z17
    obtain ⟨rfl, N17q, e17⟩ := hQ17
    have N17 := Fr.app N16 N17q
    refine Go.tr st17 ?_
    show Go _ _ _ _ T17 (mkF m 93 #[.val (.int p0), .val (.int p1), .val (.int p2), .val (.ref (w 1)), .val (.ref b2), .val (.int (0 : Int32)), .val (.ref b11), .val (.ref b12), .val (.ref b13)] [(.int (own_f10 b13 (1 : Int32)))])
    refine Go.step (fun _ zz => XS.ifNo X17.here hx rfl (hb hby at_93) rfl ((if0 _ _).trans (teq (by unfold own_f10; decide)).2) zz) ?_
    show Go _ _ _ _ T17 (mkF m 96 #[.val (.int p0), .val (.int p1), .val (.int p2), .val (.ref (w 1)), .val (.ref b2), .val (.int (0 : Int32)), .val (.ref b11), .val (.ref b12), .val (.ref b13)] [])
    refine Go.step (fun _ zz => XS.iconst X17.here hx rfl (hb hby at_96) zz) ?_
    show Go _ _ _ _ T17 (mkF m 97 #[.val (.int p0), .val (.int p1), .val (.int p2), .val (.ref (w 1)), .val (.ref b2), .val (.int (0 : Int32)), .val (.ref b11), .val (.ref b12), .val (.ref b13)] [(.int (1 : Int32))])
    refine Go.step (fun _ zz => XS.goto X17.here hx rfl (pc0 := 97) (pc' := 101) rfl (hb hby at_97) (by decide) (by decide) zz) ?_
    show Go _ _ _ _ T17 (mkF m 101 #[.val (.int p0), .val (.int p1), .val (.int p2), .val (.ref (w 1)), .val (.ref b2), .val (.int (0 : Int32)), .val (.ref b11), .val (.ref b12), .val (.ref b13)] [(.int (1 : Int32))])
    exact Go.retN X17 hx (t := .boolean) Bd.returns (by simp) (hb hby at_101) Bd.notSynchronized (z' := (1 : Int32)) (by decide) (⟨rfl, N17⟩) (by decide) (by decide)
set_option maxRecDepth 65536 in
set_option maxHeartbeats 40000000 in
theorem comes_1 {Post : Tables → Env → Array Value → State → Outcome → State → Prop} (hpost : ∀ tb e args s v u, (limb_1_1.after args s (.returned v) u = true ∧ limb_1_2.after args s (.returned v) u = true ∧ True) → FrameEnd s (.returned v) u (Jvm.fieldLocs frame_1_writes args s ++ Jvm.arrayLocs frame_1_arrays args s ++ Jvm.staticLocs frame_1_statics s) 16 128 → Post tb e args s (.returned v) u) :
    ArmFor flags0 classFile x code maxLocals ret World_1 tables_1 room_1 Calls_1 rest_1 Pre_1 Post := by
  intro l hfl _ _ p e ha hc hk s m args below hf hA hF happ hP
  obtain ⟨hcalls, hrest, hpre⟩ := hP
  obtain ⟨-, -, -, hnamed, -, -, -, hat⟩ := (Spec.applies_iff hf).mp happ
  obtain ⟨hg, hn⟩ := and_e (Cond.before_iff.mp (show (Jvm.Cond.and given_1 narrow_1).before args s = true from hpre))
  obtain ⟨hg_a, hg_b⟩ := and_e hg
  obtain ⟨hg_b_a, hg_b_b⟩ := and_e hg_b
  obtain ⟨hg_b_b_a, hg_b_b_b⟩ := and_e hg_b_b
  obtain ⟨u0, u1, u2, rfl⟩ : ∃ u0 u1 u2 : Value, args = #[u0, u1, u2] := by
    have hs : args.size = 3 := by simpa [Cond.value, given_1] using hg_a
    obtain ⟨L⟩ := args
    match L, hs with
    | [u0, u1, u2], _ => exact ⟨u0, u1, u2, rfl⟩
  have hw := fun d (hd : d ∈ tables_1) => atoms_spec (ws := Jvm.Cond.code x code maxLocals ret :: tables_1) hat d (List.mem_cons_of_mem _ hd)
  have hfit : Fit s := fun {y c} hc i hi => by
    obtain ⟨ha, rfl⟩ := Array.getElem?_eq_some_iff.mp hc
    have q := List.all_eq_true.mp ((Array.all_eq_true_iff_forall_mem.mp hF) _ (Array.getElem_mem ha)) i (List.mem_range.mpr hi)
    simpa [Array.getElem?_eq_getElem hi] using q
  obtain ⟨hsets, hown0⟩ := atoms_of _ (rest_1_c_eq ▸ (show rest_1_c.before _ s = true from hrest))
  obtain ⟨i0, ei0⟩ := is_v hg_b_a
  obtain rfl : u0 = (.int i0) := Option.some.inj ei0
  obtain ⟨i1, ei1⟩ := is_v hg_b_b_a
  obtain rfl : u1 = (.int i1) := Option.some.inj ei1
  obtain ⟨i2, ei2⟩ := is_v hg_b_b_b
  obtain rfl : u2 = (.int i2) := Option.some.inj ei2
  obtain ⟨hn_a, hn_b⟩ := and_e hn
  obtain ⟨w0, ev0⟩ := arr_v hn_a
  obtain ⟨w1, ev1⟩ := exa_v (Cond.before_iff.mp (hsets _ (List.mem_of_getElem? (i := 2) rfl)))
  have wd : Wd s (fun i => ([w0, w1] : List Addr).getD i 0) := ⟨Sta.start ev0 (Or.inr ⟨(hw _ (List.mem_of_getElem? (i := 8) rfl)), (hw _ (List.mem_of_getElem? (i := 26) rfl))⟩), Sta.start ev1 (Or.inl (hsets _ (List.mem_of_getElem? (i := 1) rfl))), Exa.start ev1 (Cond.before_iff.mp (hsets _ (List.mem_of_getElem? (i := 2) rfl)))⟩
  obtain ⟨n, o, h1, h2, h3, _, L, rfl, ⟨rfl, N⟩, hq⟩ := rm0 l s _ hw tables_1 i0 i1 i2 (fun i => ([w0, w1] : List Addr).getD i 0) s.heap s.heap.size (Nat.le_refl _) (Old.start s) wd p e ha hc hk s m _ below hf ((Spec.applies_iff_loose hf).mp happ).1 ⟨rfl, State.Warmed39.refl s, rfl⟩ trivial
  refine ⟨n, _, h1, h2, h3, hpost _ _ _ _ _ _ ⟨Cond.after_iff.mpr rfl, Cond.after_iff.mpr (eq_i res_at (Term.int_eval (1)) rfl), trivial⟩ ⟨hq.1, hq.2.1, (hq.2.2.sift fun y hy => Or.inr (N y hy)).mono (by decide) (by decide)⟩⟩
theorem main_1_1 : Claimed_1_1 := comes_1 fun _ _ _ _ _ _ h hF => ⟨h.1, hF⟩
theorem main_1_2 : Claimed_1_2 := comes_1 fun _ _ _ _ _ _ h hF => ⟨h.2.1, hF⟩
end Jvm.Pilot.@@N@@
namespace Jvm.Pilot.@@N@@
open Jvm Jvm.ClassFile Sem Op Lib Jvm.Free Jvm.Stand Jvm.Pilot.@@N@@.Jvm.D
/-! MADE BY PROGRAM (witnessworld.py) out of the Statement's table words and the real class files: 14 classes; the members and pool entries that the words name. The judged class is class 1, her method 1. -/
namespace start1
open Jvm.ClassFile
def u (s : String) : CpInfo := .utf8 (stringToUtf16 s)
/-- a pool by its gaps: so many unusable entries, then the entry; so many at the end -/
def gap : Nat → List CpInfo → List CpInfo
  | 0, r => r
  | n + 1, r => .unusable :: gap n r
def poolList (es : List (Nat × CpInfo)) (last : Nat) : List CpInfo := es.foldr (fun e r => gap e.1 (e.2 :: r)) (gap last [])
def pool (es : List (Nat × CpInfo)) (last : Nat) : Array CpInfo := ⟨poolList es last⟩
def fileOf (pool : Array CpInfo) (this : Nat) (attrs : Array Attribute := #[]) (ms : Array MethodInfo := #[]) (fl : Nat := 33) (sup : Nat := 0) (ifs : Array Nat := #[]) (fds : Array FieldInfo := #[]) : ClassFile where
  minorVersion := 0
  majorVersion := 65
  constantPool := pool
  accessFlags := fl
  thisClass := this
  superClass := sup
  interfaces := ifs
  fields := fds
  methods := ms
  attributes := attrs
def plain (name : String) (sup : Option ClassId) : Class where
  name := name
  kind := .ordinary
  loader := none
  accessFlags := 33
  super := sup
  interfaces := #[]
  cf := none
  fields := #[]
  methods := #[]
  instanceTypes := #[]
  staticTypes := #[]
  resolved := #[]
  callSites := []
  init := .initialized
  statics := none
  mirror := none

def pool0 : Array CpInfo := pool [(5, u "<init>"), (0, u "()V"), (1, .class_ 10), (1, u "java/lang/Object")] 113

def k0c0 : Code := { maxStack := 0, maxLocals := 1, code := object_method_1_code, exceptionTable := #[], attributes := #[] }
def k0m0 : Method := { name := "<init>", desc := "()V", sig := { parameters := [], returnType := none }, accessFlags := 1, code := some k0c0 }
/-- java/lang/Object -/
def k0 : Class := { plain "java/lang/Object" none with
  accessFlags := 33
  interfaces := #[]
  cf := some (fileOf pool0 8 #[] #[{ accessFlags := 1, nameIndex := 5, descriptorIndex := 6, attributes := #[] }] 33 0 #[] #[])
  fields := #[]
  methods := #[k0m0]
  instanceTypes := #[]
  staticTypes := #[]
  resolved := Array.replicate 124 none
  statics := none }

def pool1 : Array CpInfo := pool [(2, .class_ 4), (1, u "java/lang/Object"), (0, u "<init>"), (0, u "()V"), (0, .interfaceMethodref 8 9), (0, .class_ 10), (0, .nameAndType 11 12), (0, u "java/util/Map"), (0, u "of"), (0, u "()Ljava/util/Map;"), (0, .class_ 14), (0, u "com/example/topicd/topicd/protocol/Command"), (0, .methodref 13 16), (0, .nameAndType 5 17), (0, u "(IIILjava/lang/String;Ljava/util/Map;[B)V"), (0, .methodref 13 19), (0, .nameAndType 20 21), (0, u "oneway"), (0, u "(IILjava/util/Map;[B)Lcom/example/topicd/topicd/protocol/Command;"), (0, .methodref 13 23), (0, .nameAndType 24 21), (0, u "request"), (0, .methodref 13 26), (0, .nameAndType 27 28), (0, u "answer"), (0, u "(ILjava/lang/String;)Lcom/example/topicd/topicd/protocol/Command;"), (0, .methodref 13 30), (0, .nameAndType 31 32), (0, u "isOneway"), (0, u "()Z"), (0, .class_ 34), (0, u "com/example/topicd/topicd/protocol/CommandIsOnewayPinLaw"), (2, u "law"), (0, u "(III)Z")] 3

def k1m0 : Method := { name := "<init>", desc := "()V", sig := { parameters := [], returnType := none }, accessFlags := 1, code := none }
def k1c1 : Code := { maxStack := 8, maxLocals := 9, code := code, exceptionTable := #[], attributes := #[] }
def k1m1 : Method := { name := "law", desc := "(III)Z", sig := { parameters := [.int, .int, .int], returnType := some .boolean }, accessFlags := 9, code := some k1c1 }
/-- com/example/topicd/topicd/protocol/CommandIsOnewayPinLaw -/
def k1 : Class := { plain "com/example/topicd/topicd/protocol/CommandIsOnewayPinLaw" (some 0) with
  accessFlags := 49
  interfaces := #[]
  cf := some (fileOf pool1 33 #[] #[{ accessFlags := 1, nameIndex := 5, descriptorIndex := 6, attributes := #[] }, { accessFlags := 9, nameIndex := 37, descriptorIndex := 38, attributes := #[] }] 49 2 #[] #[])
  fields := #[]
  methods := #[k1m0, k1m1]
  instanceTypes := #[]
  staticTypes := #[]
  resolved := Array.replicate 42 none
  statics := none }

def pool2 : Array CpInfo := pool [(2, .class_ 4), (1, u "java/util/Map"), (31, .class_ 37), (0, u "java/util/Map$Entry"), (43, .fieldref 82 83), (0, .class_ 84), (0, .nameAndType 85 86), (0, u "java/util/ImmutableCollections"), (0, u "EMPTY_MAP"), (0, u "Ljava/util/ImmutableCollections$MapN;"), (6, .class_ 94), (0, u "java/lang/Object"), (6, .class_ 102), (0, u "java/util/ImmutableCollections$AbstractImmutableMap"), (5, u "of"), (0, u "()Ljava/util/Map;"), (140, u "copyOf"), (0, u "(Ljava/util/Map;)Ljava/util/Map;")] 11

def k2c0 : Code := { maxStack := 1, maxLocals := 0, code := jdk_72_method_26_code, exceptionTable := #[], attributes := #[] }
def k2m0 : Method := { name := "of", desc := "()Ljava/util/Map;", sig := { parameters := [], returnType := some (.object "java/util/Map") }, accessFlags := 9, code := some k2c0 }
def k2c1 : Code := { maxStack := 2, maxLocals := 1, code := jdk_72_method_39_code, exceptionTable := #[], attributes := #[] }
def k2m1 : Method := { name := "copyOf", desc := "(Ljava/util/Map;)Ljava/util/Map;", sig := { parameters := [(.object "java/util/Map")], returnType := some (.object "java/util/Map") }, accessFlags := 9, code := some k2c1 }
/-- java/util/Map -/
def k2 : Class := { plain "java/util/Map" (some 0) with
  accessFlags := 1537
  interfaces := #[]
  cf := some (fileOf pool2 2 #[.nestMembers #[36]] #[{ accessFlags := 9, nameIndex := 108, descriptorIndex := 109, attributes := #[] }, { accessFlags := 9, nameIndex := 250, descriptorIndex := 251, attributes := #[] }] 1537 93 #[] #[])
  fields := #[]
  methods := #[k2m0, k2m1]
  instanceTypes := #[]
  staticTypes := #[]
  resolved := Array.replicate 263 none
  statics := none }

def pool3 : Array CpInfo := pool [(2, .class_ 4), (1, u "java/lang/Object"), (0, u "<init>"), (0, u "()V"), (3, .class_ 11), (0, u "java/util/ImmutableCollections$List12"), (0, .class_ 13), (0, u "java/util/ImmutableCollections$ListN"), (3, u "Z"), (29, .class_ 49), (1, u "java/util/ImmutableCollections"), (0, u "$assertionsDisabled"), (5, u "[Ljava/lang/Object;"), (5, u "EMPTY_LIST"), (0, u "Ljava/util/ImmutableCollections$ListN;"), (8, u "EMPTY_LIST_NULLS"), (22, u "SALT32L"), (0, u "J"), (2, u "REVERSE"), (6, u "archivedObjects"), (2, u "EMPTY"), (0, u "Ljava/lang/Object;"), (0, .class_ 112), (0, u "java/util/ImmutableCollections$SetN"), (5, u "EMPTY_SET"), (0, u "Ljava/util/ImmutableCollections$SetN;"), (0, .class_ 121), (0, u "java/util/ImmutableCollections$MapN"), (3, u "EMPTY_MAP"), (0, u "Ljava/util/ImmutableCollections$MapN;"), (4, u "EXPAND_FACTOR"), (0, u "I"), (36, .class_ 170), (0, u "java/util/ImmutableCollections$MapN$MapNIterator"), (0, .class_ 172), (0, u "java/util/ImmutableCollections$MapN$1"), (0, .class_ 174), (0, u "java/util/ImmutableCollections$Map1"), (0, .class_ 176), (0, u "java/util/ImmutableCollections$AbstractImmutableMap"), (0, .class_ 178), (0, u "java/util/ImmutableCollections$SetN$SetNIterator"), (0, .class_ 180), (0, u "java/util/ImmutableCollections$Set12"), (0, .class_ 182), (0, u "java/util/ImmutableCollections$Set12$1"), (0, .class_ 184), (0, u "java/util/ImmutableCollections$AbstractImmutableSet"), (0, .class_ 186), (0, u "java/util/ImmutableCollections$SubList"), (0, .class_ 188), (0, u "java/util/ImmutableCollections$ListItr"), (0, .class_ 190), (0, u "java/util/ImmutableCollections$AbstractImmutableList"), (0, .class_ 192), (0, u "java/util/ImmutableCollections$AbstractImmutableCollection"), (0, .class_ 194), (0, u "java/util/ImmutableCollections$Access"), (0, .class_ 196), (0, u "java/util/ImmutableCollections$Access$1")] 16

def k3m0 : Method := { name := "<init>", desc := "()V", sig := { parameters := [], returnType := none }, accessFlags := 2, code := none }
/-- java/util/ImmutableCollections -/
def k3 : Class := { plain "java/util/ImmutableCollections" (some 0) with
  accessFlags := 32
  interfaces := #[]
  cf := some (fileOf pool3 47 #[.nestMembers #[120, 169, 171, 173, 175, 111, 177, 179, 181, 183, 12, 10, 185, 187, 189, 191, 193, 195]] #[{ accessFlags := 2, nameIndex := 5, descriptorIndex := 6, attributes := #[] }] 32 2 #[] #[{ accessFlags := 26, nameIndex := 95, descriptorIndex := 96, attributes := #[] }, { accessFlags := 26, nameIndex := 99, descriptorIndex := 17, attributes := #[] }, { accessFlags := 10, nameIndex := 106, descriptorIndex := 56, attributes := #[] }, { accessFlags := 26, nameIndex := 109, descriptorIndex := 110, attributes := #[] }, { accessFlags := 24, nameIndex := 62, descriptorIndex := 63, attributes := #[] }, { accessFlags := 24, nameIndex := 72, descriptorIndex := 63, attributes := #[] }, { accessFlags := 24, nameIndex := 118, descriptorIndex := 119, attributes := #[] }, { accessFlags := 24, nameIndex := 125, descriptorIndex := 126, attributes := #[] }, { accessFlags := 24, nameIndex := 131, descriptorIndex := 132, attributes := #[] }, { accessFlags := 4120, nameIndex := 50, descriptorIndex := 17, attributes := #[] }])
  fields := #[{ name := "SALT32L", type := .long, accessFlags := 26, slot := 0, constantValue := 0 }, { name := "REVERSE", type := .boolean, accessFlags := 26, slot := 1, constantValue := 0 }, { name := "archivedObjects", type := (.array (.object "java/lang/Object")), accessFlags := 10, slot := 2, constantValue := 0 }, { name := "EMPTY", type := (.object "java/lang/Object"), accessFlags := 26, slot := 3, constantValue := 0 }, { name := "EMPTY_LIST", type := (.object "java/util/ImmutableCollections$ListN"), accessFlags := 24, slot := 4, constantValue := 0 }, { name := "EMPTY_LIST_NULLS", type := (.object "java/util/ImmutableCollections$ListN"), accessFlags := 24, slot := 5, constantValue := 0 }, { name := "EMPTY_SET", type := (.object "java/util/ImmutableCollections$SetN"), accessFlags := 24, slot := 6, constantValue := 0 }, { name := "EMPTY_MAP", type := (.object "java/util/ImmutableCollections$MapN"), accessFlags := 24, slot := 7, constantValue := 0 }, { name := "EXPAND_FACTOR", type := .int, accessFlags := 24, slot := 8, constantValue := 0 }, { name := "$assertionsDisabled", type := .boolean, accessFlags := 4120, slot := 9, constantValue := 0 }]
  methods := #[k3m0]
  instanceTypes := #[]
  staticTypes := #[.long, .boolean, (.array (.object "java/lang/Object")), (.object "java/lang/Object"), (.object "java/util/ImmutableCollections$ListN"), (.object "java/util/ImmutableCollections$ListN"), (.object "java/util/ImmutableCollections$SetN"), (.object "java/util/ImmutableCollections$MapN"), .int, .boolean]
  resolved := Array.replicate 213 none
  statics := some 0 }

def pool4 : Array CpInfo := pool [(1, .methodref 2 3), (0, .class_ 4), (0, .nameAndType 5 6), (0, u "java/lang/Object"), (0, u "<init>"), (0, u "()V"), (0, .class_ 8), (0, u "java/lang/Record")] 13

def k4c0 : Code := { maxStack := 1, maxLocals := 1, code := jdk_30_method_1_code, exceptionTable := #[], attributes := #[] }
def k4m0 : Method := { name := "<init>", desc := "()V", sig := { parameters := [], returnType := none }, accessFlags := 4, code := some k4c0 }
/-- java/lang/Record -/
def k4 : Class := { plain "java/lang/Record" (some 0) with
  accessFlags := 1057
  interfaces := #[]
  cf := some (fileOf pool4 7 #[] #[{ accessFlags := 4, nameIndex := 5, descriptorIndex := 6, attributes := #[] }] 1057 2 #[] #[])
  fields := #[]
  methods := #[k4m0]
  instanceTypes := #[]
  staticTypes := #[]
  resolved := Array.replicate 22 none
  statics := none }

def pool5 : Array CpInfo := pool [(1, .methodref 2 3), (0, .class_ 4), (0, .nameAndType 5 6), (0, u "java/lang/Record"), (0, u "<init>"), (0, u "()V"), (0, .interfaceMethodref 8 9), (0, .class_ 10), (0, .nameAndType 11 12), (0, u "java/util/Map"), (0, u "copyOf"), (0, u "(Ljava/util/Map;)Ljava/util/Map;"), (0, .fieldref 14 15), (0, .class_ 16), (0, .nameAndType 17 18), (0, u "com/example/topicd/topicd/protocol/Command"), (0, u "NO_BODY"), (0, u "[B"), (0, .fieldref 14 20), (0, .nameAndType 21 22), (0, u "code"), (0, u "I"), (0, .fieldref 14 24), (0, .nameAndType 25 22), (0, u "opaque"), (0, .fieldref 14 27), (0, .nameAndType 28 22), (0, u "flag"), (0, .fieldref 14 30), (0, .nameAndType 31 32), (0, u "remark"), (0, u "Ljava/lang/String;"), (0, .fieldref 14 34), (0, .nameAndType 35 36), (0, u "extFields"), (0, u "Ljava/util/Map;"), (0, .fieldref 14 38), (0, .nameAndType 39 18), (0, u "body"), (0, .methodref 14 41), (0, .nameAndType 5 42), (0, u "(IIILjava/lang/String;Ljava/util/Map;[B)V"), (0, .interfaceMethodref 8 44), (0, .nameAndType 45 46), (0, u "of"), (0, u "()Ljava/util/Map;"), (0, .methodref 14 48), (0, .nameAndType 49 50), (0, u "answer"), (0, u "(ILjava/lang/String;Ljava/util/Map;[B)Lcom/example/topicd/topicd/protocol/Command;"), (33, u "RESPONSE_FLAG"), (2, u "ONEWAY_FLAG"), (7, u "request"), (0, u "(IILjava/util/Map;[B)Lcom/example/topicd/topicd/protocol/Command;"), (1, u "oneway"), (1, u "(ILjava/lang/String;)Lcom/example/topicd/topicd/protocol/Command;"), (1, u "()Z"), (0, u "isOneway")] 41

def k5c0 : Code := { maxStack := 2, maxLocals := 7, code := prog_6_method_1_code, exceptionTable := #[], attributes := #[] }
def k5m0 : Method := { name := "<init>", desc := "(IIILjava/lang/String;Ljava/util/Map;[B)V", sig := { parameters := [.int, .int, .int, (.object "java/lang/String"), (.object "java/util/Map"), (.array .byte)], returnType := none }, accessFlags := 1, code := some k5c0 }
def k5c1 : Code := { maxStack := 8, maxLocals := 4, code := prog_6_method_2_code, exceptionTable := #[], attributes := #[] }
def k5m1 : Method := { name := "request", desc := "(IILjava/util/Map;[B)Lcom/example/topicd/topicd/protocol/Command;", sig := { parameters := [.int, .int, (.object "java/util/Map"), (.array .byte)], returnType := some (.object "com/example/topicd/topicd/protocol/Command") }, accessFlags := 9, code := some k5c1 }
def k5c2 : Code := { maxStack := 8, maxLocals := 4, code := prog_6_method_3_code, exceptionTable := #[], attributes := #[] }
def k5m2 : Method := { name := "oneway", desc := "(IILjava/util/Map;[B)Lcom/example/topicd/topicd/protocol/Command;", sig := { parameters := [.int, .int, (.object "java/util/Map"), (.array .byte)], returnType := some (.object "com/example/topicd/topicd/protocol/Command") }, accessFlags := 9, code := some k5c2 }
def k5c3 : Code := { maxStack := 8, maxLocals := 5, code := prog_6_method_4_code, exceptionTable := #[], attributes := #[] }
def k5m3 : Method := { name := "answer", desc := "(ILjava/lang/String;Ljava/util/Map;[B)Lcom/example/topicd/topicd/protocol/Command;", sig := { parameters := [.int, (.object "java/lang/String"), (.object "java/util/Map"), (.array .byte)], returnType := some (.object "com/example/topicd/topicd/protocol/Command") }, accessFlags := 1, code := some k5c3 }
def k5c4 : Code := { maxStack := 5, maxLocals := 3, code := prog_6_method_5_code, exceptionTable := #[], attributes := #[] }
def k5m4 : Method := { name := "answer", desc := "(ILjava/lang/String;)Lcom/example/topicd/topicd/protocol/Command;", sig := { parameters := [.int, (.object "java/lang/String")], returnType := some (.object "com/example/topicd/topicd/protocol/Command") }, accessFlags := 1, code := some k5c4 }
def k5c5 : Code := { maxStack := 2, maxLocals := 1, code := prog_6_method_7_code, exceptionTable := #[], attributes := #[] }
def k5m5 : Method := { name := "isOneway", desc := "()Z", sig := { parameters := [], returnType := some .boolean }, accessFlags := 1, code := some k5c5 }
/-- com/example/topicd/topicd/protocol/Command -/
def k5 : Class := { plain "com/example/topicd/topicd/protocol/Command" (some 4) with
  accessFlags := 49
  interfaces := #[]
  cf := some (fileOf pool5 14 #[] #[{ accessFlags := 1, nameIndex := 5, descriptorIndex := 42, attributes := #[] }, { accessFlags := 9, nameIndex := 95, descriptorIndex := 96, attributes := #[] }, { accessFlags := 9, nameIndex := 98, descriptorIndex := 96, attributes := #[] }, { accessFlags := 1, nameIndex := 49, descriptorIndex := 50, attributes := #[] }, { accessFlags := 1, nameIndex := 49, descriptorIndex := 100, attributes := #[] }, { accessFlags := 1, nameIndex := 103, descriptorIndex := 102, attributes := #[] }] 49 2 #[] #[{ accessFlags := 18, nameIndex := 21, descriptorIndex := 22, attributes := #[] }, { accessFlags := 18, nameIndex := 25, descriptorIndex := 22, attributes := #[] }, { accessFlags := 18, nameIndex := 28, descriptorIndex := 22, attributes := #[] }, { accessFlags := 18, nameIndex := 31, descriptorIndex := 32, attributes := #[] }, { accessFlags := 18, nameIndex := 35, descriptorIndex := 36, attributes := #[] }, { accessFlags := 18, nameIndex := 39, descriptorIndex := 18, attributes := #[] }, { accessFlags := 26, nameIndex := 84, descriptorIndex := 22, attributes := #[] }, { accessFlags := 26, nameIndex := 87, descriptorIndex := 22, attributes := #[] }, { accessFlags := 26, nameIndex := 17, descriptorIndex := 18, attributes := #[] }])
  fields := #[{ name := "code", type := .int, accessFlags := 18, slot := 0, constantValue := 0 }, { name := "opaque", type := .int, accessFlags := 18, slot := 1, constantValue := 0 }, { name := "flag", type := .int, accessFlags := 18, slot := 2, constantValue := 0 }, { name := "remark", type := (.object "java/lang/String"), accessFlags := 18, slot := 3, constantValue := 0 }, { name := "extFields", type := (.object "java/util/Map"), accessFlags := 18, slot := 4, constantValue := 0 }, { name := "body", type := (.array .byte), accessFlags := 18, slot := 5, constantValue := 0 }, { name := "RESPONSE_FLAG", type := .int, accessFlags := 26, slot := 0, constantValue := 0 }, { name := "ONEWAY_FLAG", type := .int, accessFlags := 26, slot := 1, constantValue := 0 }, { name := "NO_BODY", type := (.array .byte), accessFlags := 26, slot := 2, constantValue := 0 }]
  methods := #[k5m0, k5m1, k5m2, k5m3, k5m4, k5m5]
  instanceTypes := #[.int, .int, .int, (.object "java/lang/String"), (.object "java/util/Map"), (.array .byte)]
  staticTypes := #[.int, .int, (.array .byte)]
  resolved := Array.replicate 145 none
  statics := some 1 }

def pool6 : Array CpInfo := pool [(2, .class_ 4), (1, u "java/lang/Object"), (0, u "<init>"), (0, u "()V"), (1, .class_ 10), (1, u "java/util/AbstractMap"), (42, .class_ 54), (0, u "java/util/Map"), (9, u "keySet"), (0, u "Ljava/util/Set;"), (0, .class_ 67), (0, u "java/util/AbstractMap$1"), (5, u "values"), (0, u "Ljava/util/Collection;"), (0, .class_ 76), (0, u "java/util/AbstractMap$2"), (104, .class_ 182), (0, u "java/util/AbstractMap$ViewCollection"), (0, .class_ 184), (0, u "java/util/AbstractMap$SimpleImmutableEntry"), (0, .class_ 186), (0, u "java/util/AbstractMap$SimpleEntry"), (0, .class_ 188), (0, u "java/util/AbstractMap$2$1"), (0, .class_ 190), (0, u "java/util/AbstractMap$1$1")] 5

def k6m0 : Method := { name := "<init>", desc := "()V", sig := { parameters := [], returnType := none }, accessFlags := 4, code := none }
/-- java/util/AbstractMap -/
def k6 : Class := { plain "java/util/AbstractMap" (some 0) with
  accessFlags := 1057
  interfaces := #[2]
  cf := some (fileOf pool6 8 #[.nestMembers #[181, 183, 185, 75, 187, 66, 189]] #[{ accessFlags := 4, nameIndex := 5, descriptorIndex := 6, attributes := #[] }] 1057 2 #[53] #[{ accessFlags := 128, nameIndex := 64, descriptorIndex := 65, attributes := #[] }, { accessFlags := 128, nameIndex := 73, descriptorIndex := 74, attributes := #[] }])
  fields := #[{ name := "keySet", type := (.object "java/util/Set"), accessFlags := 128, slot := 0, constantValue := 0 }, { name := "values", type := (.object "java/util/Collection"), accessFlags := 128, slot := 1, constantValue := 0 }]
  methods := #[k6m0]
  instanceTypes := #[(.object "java/util/Set"), (.object "java/util/Collection")]
  staticTypes := #[]
  resolved := Array.replicate 196 none
  statics := none }

def pool7 : Array CpInfo := pool [(1, .class_ 2), (0, u "java/io/Serializable"), (0, .class_ 4), (0, u "java/lang/Object")] 2

/-- java/io/Serializable -/
def k7 : Class := { plain "java/io/Serializable" (some 0) with
  accessFlags := 1537
  interfaces := #[]
  cf := some (fileOf pool7 1 #[] #[] 1537 3 #[] #[])
  fields := #[]
  methods := #[]
  instanceTypes := #[]
  staticTypes := #[]
  resolved := Array.replicate 7 none
  statics := none }

def pool8 : Array CpInfo := pool [(2, .class_ 4), (1, u "java/util/AbstractMap"), (0, u "<init>"), (0, u "()V"), (1, .class_ 10), (1, u "java/util/ImmutableCollections"), (3, .class_ 16), (1, u "java/util/ImmutableCollections$AbstractImmutableMap"), (2, .class_ 20), (0, u "java/io/Serializable")] 66

def k8m0 : Method := { name := "<init>", desc := "()V", sig := { parameters := [], returnType := none }, accessFlags := 0, code := none }
/-- java/util/ImmutableCollections$AbstractImmutableMap -/
def k8 : Class := { plain "java/util/ImmutableCollections$AbstractImmutableMap" (some 6) with
  accessFlags := 1056
  interfaces := #[7]
  cf := some (fileOf pool8 14 #[.nestHost 8] #[{ accessFlags := 0, nameIndex := 5, descriptorIndex := 6, attributes := #[] }] 1056 2 #[19] #[])
  fields := #[]
  methods := #[k8m0]
  instanceTypes := #[(.object "java/util/Set"), (.object "java/util/Collection")]
  staticTypes := #[]
  resolved := Array.replicate 87 none
  statics := none }

def pool9 : Array CpInfo := pool [(1, .class_ 2), (0, u "java/util/ImmutableCollections"), (1, .class_ 6), (1, u "java/util/ImmutableCollections$AbstractImmutableMap"), (10, .class_ 19), (1, u "java/util/ImmutableCollections$MapN"), (0, u "size"), (0, u "I"), (4, u "table"), (0, u "[Ljava/lang/Object;")] 121

/-- java/util/ImmutableCollections$MapN -/
def k9 : Class := { plain "java/util/ImmutableCollections$MapN" (some 8) with
  accessFlags := 48
  interfaces := #[]
  cf := some (fileOf pool9 17 #[.nestHost 1] #[] 48 4 #[] #[{ accessFlags := 16, nameIndex := 26, descriptorIndex := 27, attributes := #[] }, { accessFlags := 16, nameIndex := 20, descriptorIndex := 21, attributes := #[] }])
  fields := #[{ name := "table", type := (.array (.object "java/lang/Object")), accessFlags := 16, slot := 2, constantValue := 0 }, { name := "size", type := .int, accessFlags := 16, slot := 3, constantValue := 0 }]
  methods := #[]
  instanceTypes := #[(.object "java/util/Set"), (.object "java/util/Collection"), (.array (.object "java/lang/Object")), .int]
  staticTypes := #[]
  resolved := Array.replicate 149 none
  statics := none }

def pool10 : Array CpInfo := pool [(1, u "java/lang/Cloneable"), (0, .class_ 1), (0, u "java/lang/Object"), (0, .class_ 3)] 3

/-- java/lang/Cloneable -/
def k10 : Class := { plain "java/lang/Cloneable" (some 0) with
  accessFlags := 1537
  interfaces := #[]
  cf := some (fileOf pool10 2 #[] #[] 1537 4 #[] #[])
  fields := #[]
  methods := #[]
  instanceTypes := #[]
  staticTypes := #[]
  resolved := Array.replicate 8 none
  statics := none }

/-- the primitive byte -/
def k11 : Class := { plain "byte" none with kind := .primitive 'B', accessFlags := 0x411 }
/-- [B -/
def k12 : Class := { plain "[B" (some 0) with kind := .array 11 .byte, interfaces := #[10, 7], accessFlags := 1041 }

/-- [Ljava/lang/Object; -/
def k13 : Class := { plain "[Ljava/lang/Object;" (some 0) with kind := .array 0 (.object "java/lang/Object"), interfaces := #[10, 7], accessFlags := 1041 }

def heap : Heap := #[{ cls := 3, slots := #[.long 0, .int 0, .null, .null, .null, .null, .null, .ref 3, .int 0, .int 0], vm := .statics 3 },
  { cls := 5, slots := #[.int 0, .int 0, .ref 4], vm := .statics 5 },
  { cls := 13, slots := #[], vm := .none },
  { cls := 9, slots := #[.null, .null, .ref 2, .int 0], vm := .none },
  { cls := 12, slots := #[], vm := .none }]
def classes : Array Class := #[k0, k1, k2, k3, k4, k5, k6, k7, k8, k9, k10, k11, k12, k13]
def interned : List (Array UInt16 × Addr) := []
def slotsUsed : Nat := 17
def theMethod : MethodId := ⟨1, 1⟩
def args0 : Array Value := #[.int 5, .int 5, .int 5]
def aboutOver (below : List Frame) : State where
  vm := { classes := classes, interned := interned.toArray }
  heap := heap
  slotsUsed := slotsUsed
  threads := #[{ frames := .invoking theMethod args0 :: below }]
def below0 : List Frame := [.native { method := ⟨0, 0⟩, args := #[] }]
def about1 : State := aboutOver below0
def p0 : Program := .bare "" "" ""
def e0 : Env := launch0.env 0 0 0
theorem w_frames : about1.frames = Frame.invoking theMethod args0 :: below0 := rfl
set_option maxRecDepth 65536 in
theorem w_args : argsFit about1.vm theMethod args0 = true := by decide +kernel
set_option maxRecDepth 65536 in
theorem w_heap : heapFits about1 = true := by decide +kernel
set_option maxRecDepth 65536 in
theorem w_runnable : about1.curStatus? = some .runnable := by decide +kernel
set_option maxRecDepth 65536 in
theorem w_alone : about1.alone = true := by decide +kernel
set_option maxRecDepth 65536 in
theorem w_named : about1.methodNamed? x = some theMethod := by decide +kernel
set_option maxRecDepth 65536 in
theorem w_hears : about1.hears theMethod below0 = true := by decide +kernel
set_option maxRecDepth 65536 in
theorem w_ripe : about1.ripe theMethod args0 below0 = true := by decide +kernel
theorem w_running : about1.status = .running := rfl
set_option maxRecDepth 65536 in
theorem w_room : about1.hasRoom e0.platform room_1 = true :=
  launch0.hasRoom_least _ room_1 (by decide +kernel) (by decide +kernel) (by decide +kernel) (by decide +kernel) (by decide +kernel) (by decide +kernel)
theorem allAtoms_all (ts : List Jvm.Cond) (a : Array Jvm.Value) (st : Jvm.State) : (allAtoms ts).before a st = ts.all (fun c => c.before a st) := by
  induction ts with
  | nil => rfl
  | cons c t ih =>
    show (Jvm.Cond.and c (allAtoms t)).before a st = _
    rw [Jvm.Cond.before_and, ih, List.all_cons]
def words1 : List Jvm.Cond := Jvm.Cond.code x code maxLocals ret :: tables_1
/-- a 'code' word, met by the world's own term for the bytes: nothing is compared byte by byte -/
theorem code_word {y : MethodName} {bytes : ByteArray} {mx : Nat} {rt : Option FieldType} {a : Array Value} {s : State} {m : MethodId} {meth : Method} {c : Code} (h1 : s.methodNamed? y = some m) (h2 : s.vm.method? m = some meth) (h3 : meth.code = some c) (h4 : c.code = bytes)
    (h5 : (c.maxLocals == mx && c.exceptionTable.isEmpty && decide (c.maxStack ≤ mostOperands) && decide (meth.sig.returnType = rt) && !meth.locks && decide (parseMethodDescriptor y.desc = some meth.sig)) = true) : (Jvm.Cond.code y bytes mx rt).before a s = true := by
  simp only [Bool.and_eq_true, beq_iff_eq, Bool.not_eq_true', decide_eq_true_eq] at h5
  obtain ⟨⟨⟨⟨⟨g1, g2⟩, g3⟩, g4⟩, g5⟩, g6⟩ := h5
  simp [Cond.before, Cond.holds, Cond.value, h1, h2, h3, h4, g1, g2, g3, g4, g5, g6]
def isCode : Jvm.Cond → Bool
  | .code _ _ _ _ => true
  | _ => false
theorem all_split {L : List Jvm.Cond} {P : Jvm.Cond → Bool} (h1 : L.all (fun c => isCode c || P c) = true) (h2 : ∀ c ∈ L.filter isCode, P c = true) : L.all P = true := by
  refine List.all_eq_true.mpr fun c hc => ?_
  have h := List.all_eq_true.mp h1 c hc
  rcases Bool.eq_false_or_eq_true (isCode c) with hi | hi
  · exact h2 c (List.mem_filter.mpr ⟨hc, hi⟩)
  · simpa [hi] using h
set_option maxRecDepth 65536 in
theorem w_c0 : (Jvm.Cond.code x code maxLocals ret).before args0 about1 = true := code_word (m := ⟨1, 1⟩) (meth := k1m1) (c := k1c1) (by decide +kernel) rfl rfl rfl (by decide +kernel)
set_option maxRecDepth 65536 in
theorem w_c1 : (Jvm.Cond.code ({ cls := "java/util/Map", name := "of", desc := "()Ljava/util/Map;" } : Jvm.MethodName) jdk_72_method_26_code (0 : Nat) (Option.some (Jvm.ClassFile.FieldType.object "java/util/Map"))).before args0 about1 = true := code_word (m := ⟨2, 0⟩) (meth := k2m0) (c := k2c0) (by decide +kernel) rfl rfl rfl (by decide +kernel)
set_option maxRecDepth 65536 in
theorem w_c2 : (Jvm.Cond.code ({ cls := "com/example/topicd/topicd/protocol/Command", name := "<init>", desc := "(IIILjava/lang/String;Ljava/util/Map;[B)V" } : Jvm.MethodName) prog_6_method_1_code (7 : Nat) (Option.none : Option Jvm.ClassFile.FieldType)).before args0 about1 = true := code_word (m := ⟨5, 0⟩) (meth := k5m0) (c := k5c0) (by decide +kernel) rfl rfl rfl (by decide +kernel)
set_option maxRecDepth 65536 in
theorem w_c3 : (Jvm.Cond.code ({ cls := "java/lang/Record", name := "<init>", desc := "()V" } : Jvm.MethodName) jdk_30_method_1_code (1 : Nat) (Option.none : Option Jvm.ClassFile.FieldType)).before args0 about1 = true := code_word (m := ⟨4, 0⟩) (meth := k4m0) (c := k4c0) (by decide +kernel) rfl rfl rfl (by decide +kernel)
set_option maxRecDepth 65536 in
theorem w_c4 : (Jvm.Cond.code ({ cls := "java/lang/Object", name := "<init>", desc := "()V" } : Jvm.MethodName) object_method_1_code (1 : Nat) (Option.none : Option Jvm.ClassFile.FieldType)).before args0 about1 = true := code_word (m := ⟨0, 0⟩) (meth := k0m0) (c := k0c0) (by decide +kernel) rfl rfl rfl (by decide +kernel)
set_option maxRecDepth 65536 in
theorem w_c5 : (Jvm.Cond.code ({ cls := "java/util/Map", name := "copyOf", desc := "(Ljava/util/Map;)Ljava/util/Map;" } : Jvm.MethodName) jdk_72_method_39_code (1 : Nat) (Option.some (Jvm.ClassFile.FieldType.object "java/util/Map"))).before args0 about1 = true := code_word (m := ⟨2, 1⟩) (meth := k2m1) (c := k2c1) (by decide +kernel) rfl rfl rfl (by decide +kernel)
set_option maxRecDepth 65536 in
theorem w_c6 : (Jvm.Cond.code ({ cls := "com/example/topicd/topicd/protocol/Command", name := "oneway", desc := "(IILjava/util/Map;[B)Lcom/example/topicd/topicd/protocol/Command;" } : Jvm.MethodName) prog_6_method_3_code (4 : Nat) (Option.some (Jvm.ClassFile.FieldType.object "com/example/topicd/topicd/protocol/Command"))).before args0 about1 = true := code_word (m := ⟨5, 2⟩) (meth := k5m2) (c := k5c2) (by decide +kernel) rfl rfl rfl (by decide +kernel)
set_option maxRecDepth 65536 in
theorem w_c7 : (Jvm.Cond.code ({ cls := "com/example/topicd/topicd/protocol/Command", name := "request", desc := "(IILjava/util/Map;[B)Lcom/example/topicd/topicd/protocol/Command;" } : Jvm.MethodName) prog_6_method_2_code (4 : Nat) (Option.some (Jvm.ClassFile.FieldType.object "com/example/topicd/topicd/protocol/Command"))).before args0 about1 = true := code_word (m := ⟨5, 1⟩) (meth := k5m1) (c := k5c1) (by decide +kernel) rfl rfl rfl (by decide +kernel)
set_option maxRecDepth 65536 in
theorem w_c8 : (Jvm.Cond.code ({ cls := "com/example/topicd/topicd/protocol/Command", name := "answer", desc := "(ILjava/lang/String;)Lcom/example/topicd/topicd/protocol/Command;" } : Jvm.MethodName) prog_6_method_5_code (3 : Nat) (Option.some (Jvm.ClassFile.FieldType.object "com/example/topicd/topicd/protocol/Command"))).before args0 about1 = true := code_word (m := ⟨5, 4⟩) (meth := k5m4) (c := k5c4) (by decide +kernel) rfl rfl rfl (by decide +kernel)
set_option maxRecDepth 65536 in
theorem w_c9 : (Jvm.Cond.code ({ cls := "com/example/topicd/topicd/protocol/Command", name := "answer", desc := "(ILjava/lang/String;Ljava/util/Map;[B)Lcom/example/topicd/topicd/protocol/Command;" } : Jvm.MethodName) prog_6_method_4_code (5 : Nat) (Option.some (Jvm.ClassFile.FieldType.object "com/example/topicd/topicd/protocol/Command"))).before args0 about1 = true := code_word (m := ⟨5, 3⟩) (meth := k5m3) (c := k5c3) (by decide +kernel) rfl rfl rfl (by decide +kernel)
set_option maxRecDepth 65536 in
theorem w_c10 : (Jvm.Cond.code ({ cls := "com/example/topicd/topicd/protocol/Command", name := "isOneway", desc := "()Z" } : Jvm.MethodName) prog_6_method_7_code (1 : Nat) (Option.some Jvm.ClassFile.FieldType.boolean)).before args0 about1 = true := code_word (m := ⟨5, 5⟩) (meth := k5m5) (c := k5c5) (by decide +kernel) rfl rfl rfl (by decide +kernel)
def codes1 : List Jvm.Cond := [Jvm.Cond.code x code maxLocals ret, Jvm.Cond.code ({ cls := "java/util/Map", name := "of", desc := "()Ljava/util/Map;" } : Jvm.MethodName) jdk_72_method_26_code (0 : Nat) (Option.some (Jvm.ClassFile.FieldType.object "java/util/Map")), Jvm.Cond.code ({ cls := "com/example/topicd/topicd/protocol/Command", name := "<init>", desc := "(IIILjava/lang/String;Ljava/util/Map;[B)V" } : Jvm.MethodName) prog_6_method_1_code (7 : Nat) (Option.none : Option Jvm.ClassFile.FieldType), Jvm.Cond.code ({ cls := "java/lang/Record", name := "<init>", desc := "()V" } : Jvm.MethodName) jdk_30_method_1_code (1 : Nat) (Option.none : Option Jvm.ClassFile.FieldType), Jvm.Cond.code ({ cls := "java/lang/Object", name := "<init>", desc := "()V" } : Jvm.MethodName) object_method_1_code (1 : Nat) (Option.none : Option Jvm.ClassFile.FieldType), Jvm.Cond.code ({ cls := "java/util/Map", name := "copyOf", desc := "(Ljava/util/Map;)Ljava/util/Map;" } : Jvm.MethodName) jdk_72_method_39_code (1 : Nat) (Option.some (Jvm.ClassFile.FieldType.object "java/util/Map")), Jvm.Cond.code ({ cls := "com/example/topicd/topicd/protocol/Command", name := "oneway", desc := "(IILjava/util/Map;[B)Lcom/example/topicd/topicd/protocol/Command;" } : Jvm.MethodName) prog_6_method_3_code (4 : Nat) (Option.some (Jvm.ClassFile.FieldType.object "com/example/topicd/topicd/protocol/Command")), Jvm.Cond.code ({ cls := "com/example/topicd/topicd/protocol/Command", name := "request", desc := "(IILjava/util/Map;[B)Lcom/example/topicd/topicd/protocol/Command;" } : Jvm.MethodName) prog_6_method_2_code (4 : Nat) (Option.some (Jvm.ClassFile.FieldType.object "com/example/topicd/topicd/protocol/Command")), Jvm.Cond.code ({ cls := "com/example/topicd/topicd/protocol/Command", name := "answer", desc := "(ILjava/lang/String;)Lcom/example/topicd/topicd/protocol/Command;" } : Jvm.MethodName) prog_6_method_5_code (3 : Nat) (Option.some (Jvm.ClassFile.FieldType.object "com/example/topicd/topicd/protocol/Command")), Jvm.Cond.code ({ cls := "com/example/topicd/topicd/protocol/Command", name := "answer", desc := "(ILjava/lang/String;Ljava/util/Map;[B)Lcom/example/topicd/topicd/protocol/Command;" } : Jvm.MethodName) prog_6_method_4_code (5 : Nat) (Option.some (Jvm.ClassFile.FieldType.object "com/example/topicd/topicd/protocol/Command")), Jvm.Cond.code ({ cls := "com/example/topicd/topicd/protocol/Command", name := "isOneway", desc := "()Z" } : Jvm.MethodName) prog_6_method_7_code (1 : Nat) (Option.some Jvm.ClassFile.FieldType.boolean)]
set_option maxRecDepth 65536 in
theorem codes_eq : words1.filter isCode = codes1 := rfl
theorem w_codes : ∀ c ∈ words1.filter isCode, c.before args0 about1 = true := by
  rw [codes_eq]
  intro c hc
  simp only [codes1, List.mem_cons, List.not_mem_nil, or_false] at hc
  rcases hc with rfl | rfl | rfl | rfl | rfl | rfl | rfl | rfl | rfl | rfl | rfl
  · exact w_c0
  · exact w_c1
  · exact w_c2
  · exact w_c3
  · exact w_c4
  · exact w_c5
  · exact w_c6
  · exact w_c7
  · exact w_c8
  · exact w_c9
  · exact w_c10
set_option maxRecDepth 65536 in
theorem w_t1 : (words1.take 24).all (fun c => isCode c || c.before args0 about1) = true := by decide +kernel
set_option maxRecDepth 65536 in
theorem w_t2 : ((words1.drop 24).take 24).all (fun c => isCode c || c.before args0 about1) = true := by decide +kernel
set_option maxRecDepth 65536 in
theorem w_t3 : ((words1.drop 24).drop 24).all (fun c => isCode c || c.before args0 about1) = true := by decide +kernel
theorem w_tables : (allAtoms (Jvm.Cond.code x code maxLocals ret :: tables_1)).before args0 about1 = true := by
  rw [allAtoms_all]
  show words1.all (fun c => c.before args0 about1) = true
  refine all_split ?_ w_codes
  rw [← List.take_append_drop 24 words1, List.all_append, w_t1, ← List.take_append_drop 24 (words1.drop 24), List.all_append, w_t2, w_t3]
  rfl
set_option maxRecDepth 65536 in
theorem w_rest : rest_1_c.before args0 about1 = true := by decide +kernel
set_option maxRecDepth 65536 in
theorem w_case : (Jvm.Cond.and given_1 narrow_1).before args0 about1 = true := by decide +kernel
theorem w_applies : (headSpec (Jvm.Cond.code x code maxLocals ret :: tables_1) room_1).applies x e0.platform about1 = true :=
  (Spec.applies_iff w_frames).mpr ⟨w_running, w_runnable, w_alone, w_named, w_hears, w_ripe, w_room, w_tables⟩
theorem atStart : AtStart classFile x code maxLocals ret World_1 tables_1 room_1 Calls_1 rest_1 Pre_1 launch0 p0 e0 about1 theMethod args0 below0 :=
  ⟨lists_1, trivial, launch0.admits_env _ _ _, launch0.least_env, fairChoices_fair.cas, fairChoices_fair.clock, w_frames, w_args, w_heap, w_applies, trivial, w_rest, w_case⟩
end start1
theorem witness_1 : WitnessClaimed_1 := ⟨start1.p0, start1.e0, start1.about1, start1.theMethod, start1.args0, start1.below0, start1.atStart⟩
end Jvm.Pilot.@@N@@
