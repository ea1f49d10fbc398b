import JvmDerived
import JvmDerived.Pilot.@@N@@Statement
import JvmDerived.Pilot.@@N@@Code
set_option linter.unusedVariables false
set_option linter.unusedSimpArgs false
namespace Jvm.RoadKit
open Sem ClassFile Op Lib Jvm.Stand Jvm.Free Jvm.LawKit
section New
variable {p : Program} {l : Launch} {e : Env} {R : Room} {s : State} {m : MethodId} {args : Array Value} {below : List Frame} {meth : Method} {c : Code} {T : State} {locs : List Loc} {cells slots : Nat}
theorem retI (X : Stand p l e R s m args below meth c T locs cells slots) (hx : p.tables.exec = Jvm.exec) {pc : Nat} {Ls : Array Slot} {z : Int32} {rest : List Value} (hret : meth.sig.returnType = some .int) (hd : decode c.code pc = .ok (.ireturn, 1)) {fs : List Frame}
    (hl : ∀ (f : JFrame) (acts : List Action), f.method = m → f.locked = none → f.entered = [] → (doReturn e (T.setTop f) acts (some (.int z))).1 = T.setFrames fs) : Steps p.tables e below (T.setTop (mkF m pc Ls (.int z :: rest))) (T.setFrames fs) := by
  have hm' : T.vm.method? m = some meth := X.method'
  have hn : narrow .int (.int z) = .int z := rfl
  show Steps p.tables e below (T.setTop { method := m, pc := pc, locals := Ls, stack := _ :: rest, locked := none }) _
  jvm_step X.here [X.here.top, hx, hd, hm', hret, hn]
  first | (intro acts; rw [hl _ acts rfl rfl rfl]) | rw [hl _ _ rfl rfl rfl]
  exact Steps.refl _
end New
end Jvm.RoadKit
namespace Jvm.Pilot.@@N@@
open Jvm Jvm.ClassFile Sem Op Lib Jvm.Free Jvm.Stand Jvm.LawKit Jvm.RoadKit Bundle Jvm.Pilot.@@N@@.Jvm.D
/-! OWN KIT: a walk's goal that can be forked and joined -/
section OwnKit
variable {p : Program} {l : Launch} {e : Env} {R : Room} {s : State} {m : MethodId} {args : Array Value} {below : List Frame} {meth : Method} {c : Code} {T : State} {locs : List Loc} {cells slots : Nat}
/-- from the state st the run comes to its end, having returned v over the heap and the places of which F speaks -/
def own_End (p : Program) (e : Env) (below : List Frame) (s st : State) (F : Option Value → Heap → List Loc → Prop) (k n : Nat) : Prop :=
  ∃ s₂ o, Steps p.tables e below st s₂ ∧ s₂.status = .running ∧ Ended s₂ below o ∧ ∃ v L, o = .returned v ∧ F v s₂.heap L ∧ FrameEnd s o s₂ L k n
theorem own_go {st st' : State} {F : Option Value → Heap → List Loc → Prop} {k n : Nat} (h : ∀ t, Steps p.tables e below st' t → Steps p.tables e below st t) (q : own_End p e below s st' F k n) : own_End p e below s st F k n := by
  obtain ⟨s₂, o, h1, h2⟩ := q
  exact ⟨s₂, o, h _ h1, h2⟩
theorem own_ret (X : Stand p l e R s m args below meth c T locs cells slots) {v : Option Value} {g : JFrame} {F : Option Value → Heap → List Loc → Prop} {k n : Nat} (hv : meth.sig.returnType = none → v = none) (hlocks : meth.locks = false)
    (hst : ∀ fs, (∀ (f : JFrame) (acts : List Action), f.method = m → f.locked = none → f.entered = [] → (doReturn e (T.setTop f) acts v).1 = T.setFrames fs) → Steps p.tables e below (T.setTop g) (T.setFrames fs))
    (hF : F v T.heap locs) (hc : cells ≤ k) (hs : slots ≤ n) : own_End p e below s (T.setTop g) F k n := by
  obtain ⟨fs, hr, hrun, hended, hW, hsame⟩ := X.leave (v := v) hv hlocks
  exact ⟨_, _, hst fs hr, hrun, hended, _, _, rfl, hF, ⟨_, rfl⟩, hW, hsame.mono hc hs⟩
theorem own_retJ (X : Stand p l e R s m args below meth c T locs cells slots) (hx : p.tables.exec = Jvm.exec) {pc : Nat} {Ls : Array Slot} {z : Int64} {rest : List Value} (hret : meth.sig.returnType = some .long) (hd : decode c.code pc = .ok (.lreturn, 1)) {fs : List Frame}
    (hl : ∀ (f : JFrame) (acts : List Action), f.method = m → f.locked = none → f.entered = [] → (doReturn e (T.setTop f) acts (some (.long z))).1 = T.setFrames fs) : Steps p.tables e below (T.setTop (mkF m pc Ls (.long z :: rest))) (T.setFrames fs) := by
  have hm' : T.vm.method? m = some meth := X.method'
  have hn : narrow .long (.long z) = .long z := rfl
  show Steps p.tables e below (T.setTop { method := m, pc := pc, locals := Ls, stack := _ :: rest, locked := none }) _
  jvm_step X.here [X.here.top, hx, hd, hm', hret, hn]
  first | (intro acts; rw [hl _ acts rfl rfl rfl]) | rw [hl _ _ rfl rfl rfl]
  exact Steps.refl _
theorem own_retD (X : Stand p l e R s m args below meth c T locs cells slots) (hx : p.tables.exec = Jvm.exec) {pc : Nat} {Ls : Array Slot} {z : UInt64} {rest : List Value} (hret : meth.sig.returnType = some .double) (hd : decode c.code pc = .ok (.dreturn, 1)) {fs : List Frame}
    (hl : ∀ (f : JFrame) (acts : List Action), f.method = m → f.locked = none → f.entered = [] → (doReturn e (T.setTop f) acts (some (.double z))).1 = T.setFrames fs) : Steps p.tables e below (T.setTop (mkF m pc Ls (.double z :: rest))) (T.setFrames fs) := by
  have hm' : T.vm.method? m = some meth := X.method'
  have hn : narrow .double (.double z) = .double z := rfl
  show Steps p.tables e below (T.setTop { method := m, pc := pc, locals := Ls, stack := _ :: rest, locked := none }) _
  jvm_step X.here [X.here.top, hx, hd, hm', hret, hn]
  first | (intro acts; rw [hl _ acts rfl rfl rfl]) | rw [hl _ _ rfl rfl rfl]
  exact Steps.refl _
theorem own_tlt {x y : Int32} {i j : Int} (hx : x.toInt = i) (hy : y.toInt = j) (h : i < j) : if_icmp.holds .lt x y = true ∧ if_icmp.holds .ge x y = false ∧ if_icmp.holds .gt y x = true ∧ if_icmp.holds .le y x = false :=
  tlt (by rw [Int32.lt_iff_toInt_lt, hx, hy]; exact h)
theorem own_flt {x y : Int32} {i j : Int} (hx : x.toInt = i) (hy : y.toInt = j) (h : ¬ i < j) : if_icmp.holds .lt x y = false ∧ if_icmp.holds .ge x y = true ∧ if_icmp.holds .gt y x = false ∧ if_icmp.holds .le y x = true :=
  flt (by rw [Int32.lt_iff_toInt_lt, hx, hy]; exact h)
theorem own_eq {x y : Int32} {i j : Int} (hx : x.toInt = i) (hy : y.toInt = j) (h : i = j) : if_icmp.holds .eq x y = true ∧ if_icmp.holds .ne x y = false :=
  teq (Int32.toInt_inj.mp (by rw [hx, hy]; exact h))
theorem own_ne {x y : Int32} {i j : Int} (hx : x.toInt = i) (hy : y.toInt = j) (h : ¬ i = j) : if_icmp.holds .eq x y = false ∧ if_icmp.holds .ne x y = true :=
  feq (fun q => h (by rw [← hx, ← hy, q]))
theorem own_Llt {x y : Int64} {i j : Int} (hx : x.toInt = i) (hy : y.toInt = j) (h : i < j) : if_icmp.holds .lt (lcmpW x y) 0 = true ∧ if_icmp.holds .ge (lcmpW x y) 0 = false ∧ if_icmp.holds .gt 0 (lcmpW x y) = true ∧ if_icmp.holds .le 0 (lcmpW x y) = false :=
  tlt ((lw_lt x y).mpr (by rw [Int64.lt_iff_toInt_lt, hx, hy]; exact h))
theorem own_Llf {x y : Int64} {i j : Int} (hx : x.toInt = i) (hy : y.toInt = j) (h : ¬ i < j) : if_icmp.holds .lt (lcmpW x y) 0 = false ∧ if_icmp.holds .ge (lcmpW x y) 0 = true ∧ if_icmp.holds .gt 0 (lcmpW x y) = false ∧ if_icmp.holds .le 0 (lcmpW x y) = true :=
  flt (fun q => h (by have := (lw_lt x y).mp q; rw [Int64.lt_iff_toInt_lt, hx, hy] at this; exact this))
theorem own_Lgt {x y : Int64} {i j : Int} (hy : y.toInt = j) (hx : x.toInt = i) (h : j < i) : if_icmp.holds .lt 0 (lcmpW x y) = true ∧ if_icmp.holds .ge 0 (lcmpW x y) = false ∧ if_icmp.holds .gt (lcmpW x y) 0 = true ∧ if_icmp.holds .le (lcmpW x y) 0 = false :=
  tlt ((lw_gt x y).mpr (by rw [Int64.lt_iff_toInt_lt, hx, hy]; exact h))
theorem own_Lgf {x y : Int64} {i j : Int} (hy : y.toInt = j) (hx : x.toInt = i) (h : ¬ j < i) : if_icmp.holds .lt 0 (lcmpW x y) = false ∧ if_icmp.holds .ge 0 (lcmpW x y) = true ∧ if_icmp.holds .gt (lcmpW x y) 0 = false ∧ if_icmp.holds .le (lcmpW x y) 0 = true :=
  flt (fun q => h (by have := (lw_gt x y).mp q; rw [Int64.lt_iff_toInt_lt, hx, hy] at this; exact this))
theorem own_Let {x y : Int64} {i j : Int} (hx : x.toInt = i) (hy : y.toInt = j) (h : i = j) : if_icmp.holds .eq (lcmpW x y) 0 = true ∧ if_icmp.holds .ne (lcmpW x y) 0 = false :=
  teq ((lw_eq x y).mpr (Int64.toInt_inj.mp (by rw [hx, hy]; exact h)))
theorem own_Lef {x y : Int64} {i j : Int} (hx : x.toInt = i) (hy : y.toInt = j) (h : ¬ i = j) : if_icmp.holds .eq (lcmpW x y) 0 = false ∧ if_icmp.holds .ne (lcmpW x y) 0 = true :=
  feq (fun q => h (by rw [← hx, ← hy, (lw_eq x y).mp q]))
/-- (turned from the worked claim gauge-weight) the model's own selection picks a private method itself -/
theorem own_selP {y : MethodName} {s : State} {args : Array Value} {n : Nat} (hy : y.cls ≠ "java/lang/invoke/MethodHandle" ∧ y.cls ≠ "java/lang/invoke/VarHandle") (hins : (Cond.instantiable y.cls n).before args s = true) (hpriv : (Cond.privateMethod y).before args s = true) (hinst : (Cond.instanceMethod y).before args s = true) :
    (Cond.selects y.cls y y).before args s = true := by
  obtain ⟨c, k, hc, hk, -, hniab, -, -⟩ := Cond.instantiable_spec hins
  have hni : k.isInterface = false := (Bool.or_eq_false_iff.mp hniab).1
  obtain ⟨mk, methM, hnamed, hmethM, -, -⟩ := Cond.instanceMethod_spec hinst
  have hfound : s.methodFound? y.cls y.name y.desc = some mk := State.methodFound?_of_named hnamed hy
  have hcls : mk.cls = c := Option.some.inj ((findClass_of_methodNamed hnamed).symm.trans hc)
  have hsel : selectMethod {} s.vm c mk = .method mk := selectMethod_private hmethM (Cond.privateMethod_at hpriv mk methM hnamed hmethM)
  simp only [Cond.before, Cond.holds, Cond.value, hc, hfound, hnamed, hsel, hcls, hk]
  simp; exact hni
end OwnKit
theorem own_or0 (a b : Int64) : (a ||| b).toInt = 0 ↔ a.toInt = 0 ∧ b.toInt = 0 := by
  have h0 : (0 : Int64).toInt = 0 := rfl
  rw [← h0, Int64.toInt_inj, Int64.toInt_inj, Int64.toInt_inj]
  exact Int64.or_eq_zero_iff
theorem own_pn0 : plainName "java/lang/Record" = true := by first | (simp [plainName, overriddenIn]; done) | decide +kernel
theorem own_ef2_rm1 (m : MethodId) (o0 : Addr) : entryFrame m #[(.ref o0)] 1 = mkF m 0 #[.val (.ref o0)] [] := by first | (simp [entryFrame, mkF, argsToLocals, Value.category]; done) | rfl
def Q_rm1 (Z : State) (o0 : Addr)  (h0 : Heap) (n0 : Nat) (v : Option Value) (h : Heap) (L : List Loc) : Prop := v = none ∧ Fr n0 L ∧ h = h0
theorem d2_0 : decode jdk_30_method_1_code 0 = .ok (.aload_n 0, 1) := by decide +kernel
theorem d2_1 : decode jdk_30_method_1_code 1 = .ok (.invokespecial 1, 3) := by decide +kernel
theorem d2_4 : decode jdk_30_method_1_code 4 = .ok (.return_, 1) := by decide +kernel
set_option maxRecDepth 65536 in
set_option maxHeartbeats 40000000 in
theorem rm1 (l : Launch) (Z : State) (a0 : Array Value) (hw : ∀ d ∈ tables_1, d.before a0 Z = true) (ws : List Jvm.Cond) (o0 : Addr)  (h0 : Heap) (n0 : Nat) (Z0 : n0 ≤ h0.size)  :
    MetFree l (⟨"java/lang/Record", "<init>", "()V"⟩ : MethodName) (head1 (Jvm.Cond.code (⟨"java/lang/Record", "<init>", "()V"⟩ : MethodName) jdk_30_method_1_code 1 none :: ws) ({ frames := 1, cells := 0, slots := 0, locals := 12 } : Room)) (fun a U => a = #[(.ref o0)] ∧ Z.Warmed39 U.vm ∧ U.heap = h0) (fun _ _ _ _ _ => True) (fun _ U o U' => ∃ v L, o = .returned v ∧ Q_rm1 Z o0  h0 n0 v U'.heap L ∧ FrameEnd U o U' L ({ frames := 1, cells := 0, slots := 0, locals := 12 } : Room).cells ({ frames := 1, cells := 0, slots := 0, locals := 12 } : Room).slots) := by
  refine MetFree.of_bodySF (plainFor_of_name own_pn0) hisR ?_
  intro p e s m args below meth c s₁ Bd hml0 hP hK
  obtain ⟨rfl, hZ, hh⟩ := hP
  have hx := Bd.exec
  have hby := Bd.bytes
  have hml : c.maxLocals = 1 := hml0
  have hown : s.vm.findClass "java/lang/Record" = some m.cls := findClass_of_methodNamed Bd.named
  have hnm := (name_of_methodNamed Bd.named Bd.method).1
  have X0 : Stand p l e ({ frames := 1, cells := 0, slots := 0, locals := 12 } : Room) s m #[(.ref o0)] below meth c s₁ [] 0 0 := Stand.of_body Bd
  have e0 : s₁.heap = h0 := by rw [← hh, Bd.state]; rfl
  have N0 := Fr.nil n0
  refine (show own_End p e below s (s₁.setTop (entryFrame m #[(.ref o0)] 1)) (Q_rm1 Z o0  h0 n0) ({ frames := 1, cells := 0, slots := 0, locals := 12 } : Room).cells ({ frames := 1, cells := 0, slots := 0, locals := 12 } : Room).slots from ?_)
  refine own_go (fun t k => castTop (own_ef2_rm1 m o0) k) ?_
  have li0 : (0 : Int32).toInt = 0 := rfl
  have li1 : (1 : Int32).toInt = 1 := rfl
  show own_End p e below s (s₁.setTop (mkF m 0 #[.val (.ref o0)] [])) _ _ _
  refine own_go (fun t k => XS.aloadN X0.here hx rfl (hb hby d2_0) rfl rfl k) ?_
  show own_End p e below s (s₁.setTop (mkF m 1 #[.val (.ref o0)] [(.ref o0)])) _ _ _
  obtain ⟨T1, X1, e1, st1⟩ := initO X0 hx hZ hown (hw _ (List.mem_of_getElem? (i := 14) rfl)) (hw _ (List.mem_of_getElem? (i := 15) rfl)) (hw _ (List.mem_of_getElem? (i := 16) rfl)) e0 (g := (mkF m 1 #[.val (.ref o0)] [(.ref o0)])) rfl (by rw [hml]; rfl) rfl (hb hby d2_1) (by decide) (W := 0) (by show 2 * 0 + _ ≤ _; exact Nat.le_of_eq rfl) (by decide)
  refine own_go st1 ?_
  show own_End p e below s (T1.setTop (mkF m 4 #[.val (.ref o0)] [])) _ _ _
  refine own_ret X1 (v := none) (fun _ => rfl) Bd.notSynchronized (fun fs hr => X1.returnOut hx Bd.returns (hb hby d2_4) hr) ?_ (by decide) (by decide)
  · rw [e1]; exact ⟨rfl, N0, rfl⟩
theorem own_pn1 : plainName "com/example/interweave/interweave/cli/BenchRun$Readings" = true := by first | (simp [plainName, overriddenIn]; done) | decide +kernel
theorem own_ef1_rm2 (m : MethodId) (o0 : Addr) (p1 : Int32) (q2 : Int64) (q3 : Int64) (q4 : Int64) (q5 : Int64) : entryFrame m #[(.ref o0), (.int p1), (.long q2), (.long q3), (.long q4), (.long q5)] 10 = mkF m 0 #[.val (.ref o0), .val (.int p1), .val (.long q2), .second, .val (.long q3), .second, .val (.long q4), .second, .val (.long q5), .second] [] := by first | (simp [entryFrame, mkF, argsToLocals, Value.category]; done) | rfl
def Q_rm2 (Z : State) (o0 : Addr) (p1 : Int32) (q2 : Int64) (q3 : Int64) (q4 : Int64) (q5 : Int64)  (h0 : Heap) (n0 : Nat) (v : Option Value) (h : Heap) (L : List Loc) : Prop := v = none ∧ Fr n0 L ∧ Keep h0 h [o0] ∧ Exa Z h o0 "com/example/interweave/interweave/cli/BenchRun$Readings" ∧ Fld Z h o0 "com/example/interweave/interweave/cli/BenchRun$Readings" "nWrong" "J" (.long q3) ∧ Fld Z h o0 "com/example/interweave/interweave/cli/BenchRun$Readings" "nAborts" "J" (.long q4)
theorem d1_0 : decode prog_10_method_1_code 0 = .ok (.aload_n 0, 1) := by decide +kernel
theorem d1_1 : decode prog_10_method_1_code 1 = .ok (.invokespecial 1, 3) := by decide +kernel
theorem own_pd0 : parseMethodDescriptor "()V" = some ⟨[], none⟩ := by decide +kernel
theorem d1_4 : decode prog_10_method_1_code 4 = .ok (.aload_n 0, 1) := by decide +kernel
theorem d1_5 : decode prog_10_method_1_code 5 = .ok (.iload_n 1, 1) := by decide +kernel
theorem d1_6 : decode prog_10_method_1_code 6 = .ok (.putfield 7, 3) := by decide +kernel
theorem d1_9 : decode prog_10_method_1_code 9 = .ok (.aload_n 0, 1) := by decide +kernel
theorem d1_10 : decode prog_10_method_1_code 10 = .ok (.lload_n 2, 1) := by decide +kernel
theorem d1_11 : decode prog_10_method_1_code 11 = .ok (.putfield 13, 3) := by decide +kernel
theorem d1_14 : decode prog_10_method_1_code 14 = .ok (.aload_n 0, 1) := by decide +kernel
theorem d1_15 : decode prog_10_method_1_code 15 = .ok (.lload 4, 2) := by decide +kernel
theorem d1_17 : decode prog_10_method_1_code 17 = .ok (.putfield 17, 3) := by decide +kernel
theorem d1_20 : decode prog_10_method_1_code 20 = .ok (.aload_n 0, 1) := by decide +kernel
theorem d1_21 : decode prog_10_method_1_code 21 = .ok (.lload 6, 2) := by decide +kernel
theorem d1_23 : decode prog_10_method_1_code 23 = .ok (.putfield 20, 3) := by decide +kernel
theorem d1_26 : decode prog_10_method_1_code 26 = .ok (.aload_n 0, 1) := by decide +kernel
theorem d1_27 : decode prog_10_method_1_code 27 = .ok (.lload 8, 2) := by decide +kernel
theorem d1_29 : decode prog_10_method_1_code 29 = .ok (.putfield 23, 3) := by decide +kernel
theorem d1_32 : decode prog_10_method_1_code 32 = .ok (.return_, 1) := by decide +kernel
set_option maxRecDepth 65536 in
set_option maxHeartbeats 40000000 in
theorem rm2 (l : Launch) (Z : State) (a0 : Array Value) (hw : ∀ d ∈ tables_1, d.before a0 Z = true) (ws : List Jvm.Cond) (o0 : Addr) (p1 : Int32) (q2 : Int64) (q3 : Int64) (q4 : Int64) (q5 : Int64)  (h0 : Heap) (n0 : Nat) (Z0 : n0 ≤ h0.size) (g_o0 : n0 ≤ o0) (E_o0 : Exa Z h0 o0 "com/example/interweave/interweave/cli/BenchRun$Readings") (F_nReaders : Fld Z h0 o0 "com/example/interweave/interweave/cli/BenchRun$Readings" "nReaders" "I" (.int (0 : Int32))) (F_nReads : Fld Z h0 o0 "com/example/interweave/interweave/cli/BenchRun$Readings" "nReads" "J" (.long (0 : Int64))) (F_nWrong : Fld Z h0 o0 "com/example/interweave/interweave/cli/BenchRun$Readings" "nWrong" "J" (.long (0 : Int64))) (F_nAborts : Fld Z h0 o0 "com/example/interweave/interweave/cli/BenchRun$Readings" "nAborts" "J" (.long (0 : Int64))) (F_nVersions : Fld Z h0 o0 "com/example/interweave/interweave/cli/BenchRun$Readings" "nVersions" "J" (.long (0 : Int64))) :
    MetFree l (⟨"com/example/interweave/interweave/cli/BenchRun$Readings", "<init>", "(IJJJJ)V"⟩ : MethodName) (head1 (Jvm.Cond.code (⟨"com/example/interweave/interweave/cli/BenchRun$Readings", "<init>", "(IJJJJ)V"⟩ : MethodName) prog_10_method_1_code 10 none :: ws) ({ frames := 2, cells := 0, slots := 0, locals := 24 } : Room)) (fun a U => a = #[(.ref o0), (.int p1), (.long q2), (.long q3), (.long q4), (.long q5)] ∧ Z.Warmed39 U.vm ∧ U.heap = h0) (fun _ _ _ _ _ => True) (fun _ U o U' => ∃ v L, o = .returned v ∧ Q_rm2 Z o0 p1 q2 q3 q4 q5  h0 n0 v U'.heap L ∧ FrameEnd U o U' L ({ frames := 2, cells := 0, slots := 0, locals := 24 } : Room).cells ({ frames := 2, cells := 0, slots := 0, locals := 24 } : Room).slots) := by
  refine MetFree.of_bodySF (plainFor_of_name own_pn1) hisR ?_
  intro p e s m args below meth c s₁ Bd hml0 hP hK
  obtain ⟨rfl, hZ, hh⟩ := hP
  have hx := Bd.exec
  have hby := Bd.bytes
  have hml : c.maxLocals = 10 := hml0
  have hown : s.vm.findClass "com/example/interweave/interweave/cli/BenchRun$Readings" = some m.cls := findClass_of_methodNamed Bd.named
  have hnm := (name_of_methodNamed Bd.named Bd.method).1
  have X0 : Stand p l e ({ frames := 2, cells := 0, slots := 0, locals := 24 } : Room) s m #[(.ref o0), (.int p1), (.long q2), (.long q3), (.long q4), (.long q5)] below meth c s₁ [] 0 0 := Stand.of_body Bd
  have e0 : s₁.heap = h0 := by rw [← hh, Bd.state]; rfl
  have N0 := Fr.nil n0
  refine (show own_End p e below s (s₁.setTop (entryFrame m #[(.ref o0), (.int p1), (.long q2), (.long q3), (.long q4), (.long q5)] 10)) (Q_rm2 Z o0 p1 q2 q3 q4 q5  h0 n0) ({ frames := 2, cells := 0, slots := 0, locals := 24 } : Room).cells ({ frames := 2, cells := 0, slots := 0, locals := 24 } : Room).slots from ?_)
  refine own_go (fun t k => castTop (own_ef1_rm2 m o0 p1 q2 q3 q4 q5) k) ?_
  have li0 : (0 : Int32).toInt = 0 := rfl
  have li1 : (1 : Int32).toInt = 1 := rfl
  show own_End p e below s (s₁.setTop (mkF m 0 #[.val (.ref o0), .val (.int p1), .val (.long q2), .second, .val (.long q3), .second, .val (.long q4), .second, .val (.long q5), .second] [])) _ _ _
  refine own_go (fun t k => XS.aloadN X0.here hx rfl (hb hby d1_0) rfl rfl k) ?_
  show own_End p e below s (s₁.setTop (mkF m 1 #[.val (.ref o0), .val (.int p1), .val (.long q2), .second, .val (.long q3), .second, .val (.long q4), .second, .val (.long q5), .second] [(.ref o0)])) _ _ _
  obtain ⟨_, _, ⟨T1, L1, k1, n1⟩, -, X1, ⟨Lc1, hQ1, l1, y1, z1⟩, st1⟩ := X0.specialBack hx (y := (⟨"java/lang/Record", "<init>", "()V"⟩ : MethodName)) rfl hown (mvT hZ (hw _ (List.mem_of_getElem? (i := 9) rfl))) (mvT hZ (hw _ (List.mem_of_getElem? (i := 10) rfl))) (mvT hZ (hw _ (List.mem_of_getElem? (i := 13) rfl))) (by decide) (backOf (W := 0) (rm1 l Z a0 hw [] o0 h0 n0 Z0) hZ (hw _ (List.mem_of_getElem? (i := 13) rfl)) (hw _ (List.mem_of_getElem? (i := 12) rfl)) (by decide) (by decide)) (g := (mkF m 1 #[.val (.ref o0), .val (.int p1), .val (.long q2), .second, .val (.long q3), .second, .val (.long q4), .second, .val (.long q5), .second] [(.ref o0)])) rfl (by rw [hml]; rfl) (Steps.refl _) (a := o0) (argsL := []) (rest := []) (lenOf own_pd0 rfl) rfl (by show 2 * 0 + _ ≤ _; exact Nat.le_of_eq rfl) (hb hby d1_1) (fun _ _ => ⟨rfl, e0, (by decide : 0 + 0 ≤ _), (by decide : 0 + 0 ≤ _)⟩)
  dsimp only [Pt.U, Pt.locs, Pt.cells, Pt.slots] at X1 l1 y1 z1 st1 hQ1
  subst l1 y1 z1
  obtain ⟨rfl, N1q, e1⟩ := hQ1
  have N1 := Fr.app N0 N1q
  refine own_go (fun t k => st1.trans k) ?_
  show own_End p e below s (T1.setTop (mkF m 4 #[.val (.ref o0), .val (.int p1), .val (.long q2), .second, .val (.long q3), .second, .val (.long q4), .second, .val (.long q5), .second] [])) _ _ _
  refine own_go (fun t k => XS.aloadN X1.here hx rfl (hb hby d1_4) rfl rfl k) ?_
  show own_End p e below s (T1.setTop (mkF m 5 #[.val (.ref o0), .val (.int p1), .val (.long q2), .second, .val (.long q3), .second, .val (.long q4), .second, .val (.long q5), .second] [(.ref o0)])) _ _ _
  refine own_go (fun t k => XS.iloadN X1.here hx rfl (hb hby d1_5) rfl k) ?_
  show own_End p e below s (T1.setTop (mkF m 6 #[.val (.ref o0), .val (.int p1), .val (.long q2), .second, .val (.long q3), .second, .val (.long q4), .second, .val (.long q5), .second] [(.int p1), (.ref o0)])) _ _ _
  obtain ⟨T2, h2, X2, e2, W2, st2⟩ := putF X1 hx hZ hown (host := "") (Or.inl (hw _ (List.mem_of_getElem? (i := 17) rfl))) Via.refl e1 F_nReaders E_o0 (Or.inr ⟨(hw _ (List.mem_of_getElem? (i := 18) rfl)), rfl, hnm⟩) (hw _ (List.mem_of_getElem? (i := 4) rfl)) (ty := .int) (by decide) rfl rfl (g := (mkF m 6 #[.val (.ref o0), .val (.int p1), .val (.long q2), .second, .val (.long q3), .second, .val (.long q4), .second, .val (.long q5), .second] [(.int p1), (.ref o0)])) rfl rfl (hb hby d1_6)
  have Fw2 := F_nReaders.same W2
  have N2 := Fr.snoc X2 N1 g_o0
  have Z2 : n0 ≤ h2.size := Nat.le_trans Z0 (Keep.of_wr W2).1
  have KP2 := (Keep.refl h0 [o0]).wr W2 (Or.inl (List.mem_of_getElem? (i := 0) rfl))
  refine own_go st2 ?_
  show own_End p e below s (T2.setTop (mkF m 9 #[.val (.ref o0), .val (.int p1), .val (.long q2), .second, .val (.long q3), .second, .val (.long q4), .second, .val (.long q5), .second] [])) _ _ _
  refine own_go (fun t k => XS.aloadN X2.here hx rfl (hb hby d1_9) rfl rfl k) ?_
  show own_End p e below s (T2.setTop (mkF m 10 #[.val (.ref o0), .val (.int p1), .val (.long q2), .second, .val (.long q3), .second, .val (.long q4), .second, .val (.long q5), .second] [(.ref o0)])) _ _ _
  refine own_go (fun t k => XS.lloadN X2.here hx rfl (hb hby d1_10) rfl k) ?_
  show own_End p e below s (T2.setTop (mkF m 11 #[.val (.ref o0), .val (.int p1), .val (.long q2), .second, .val (.long q3), .second, .val (.long q4), .second, .val (.long q5), .second] [(.long q2), (.ref o0)])) _ _ _
  have U3 := (E_o0.wr W2)
  have U4 := (F_nReads.other W2 (Or.inr (slot_ne (Or.inr (hw _ (List.mem_of_getElem? (i := 20) rfl))) (Or.inr (hw _ (List.mem_of_getElem? (i := 18) rfl))) (by decide) (t := .long) (t' := .int) (by decide) (by decide))))
  obtain ⟨T5, h5, X5, e5, W5, st5⟩ := putF X2 hx hZ hown (host := "") (Or.inl (hw _ (List.mem_of_getElem? (i := 19) rfl))) Via.refl e2 U4 U3 (Or.inr ⟨(hw _ (List.mem_of_getElem? (i := 20) rfl)), rfl, hnm⟩) (hw _ (List.mem_of_getElem? (i := 4) rfl)) (ty := .long) (by decide) rfl rfl (g := (mkF m 11 #[.val (.ref o0), .val (.int p1), .val (.long q2), .second, .val (.long q3), .second, .val (.long q4), .second, .val (.long q5), .second] [(.long q2), (.ref o0)])) rfl rfl (hb hby d1_11)
  have Fw5 := U4.same W5
  have N5 := Fr.snoc X5 N2 g_o0
  have Z5 : n0 ≤ h5.size := Nat.le_trans Z2 (Keep.of_wr W5).1
  have KP5 := KP2.wr W5 (Or.inl (List.mem_of_getElem? (i := 0) rfl))
  refine own_go st5 ?_
  show own_End p e below s (T5.setTop (mkF m 14 #[.val (.ref o0), .val (.int p1), .val (.long q2), .second, .val (.long q3), .second, .val (.long q4), .second, .val (.long q5), .second] [])) _ _ _
  refine own_go (fun t k => XS.aloadN X5.here hx rfl (hb hby d1_14) rfl rfl k) ?_
  show own_End p e below s (T5.setTop (mkF m 15 #[.val (.ref o0), .val (.int p1), .val (.long q2), .second, .val (.long q3), .second, .val (.long q4), .second, .val (.long q5), .second] [(.ref o0)])) _ _ _
  refine own_go (fun t k => XS.lload X5.here hx rfl (hb hby d1_15) rfl k) ?_
  show own_End p e below s (T5.setTop (mkF m 17 #[.val (.ref o0), .val (.int p1), .val (.long q2), .second, .val (.long q3), .second, .val (.long q4), .second, .val (.long q5), .second] [(.long q3), (.ref o0)])) _ _ _
  have U6 := (U3.wr W5)
  have U7 := ((F_nWrong.other W2 (Or.inr (slot_ne (Or.inr (hw _ (List.mem_of_getElem? (i := 22) rfl))) (Or.inr (hw _ (List.mem_of_getElem? (i := 18) rfl))) (by decide) (t := .long) (t' := .int) (by decide) (by decide)))).other W5 (Or.inr (slot_ne (Or.inr (hw _ (List.mem_of_getElem? (i := 22) rfl))) (Or.inr (hw _ (List.mem_of_getElem? (i := 20) rfl))) (by decide) (t := .long) (t' := .long) (by decide) (by decide))))
  obtain ⟨T8, h8, X8, e8, W8, st8⟩ := putF X5 hx hZ hown (host := "") (Or.inl (hw _ (List.mem_of_getElem? (i := 21) rfl))) Via.refl e5 U7 U6 (Or.inr ⟨(hw _ (List.mem_of_getElem? (i := 22) rfl)), rfl, hnm⟩) (hw _ (List.mem_of_getElem? (i := 4) rfl)) (ty := .long) (by decide) rfl rfl (g := (mkF m 17 #[.val (.ref o0), .val (.int p1), .val (.long q2), .second, .val (.long q3), .second, .val (.long q4), .second, .val (.long q5), .second] [(.long q3), (.ref o0)])) rfl rfl (hb hby d1_17)
  have Fw8 := U7.same W8
  have N8 := Fr.snoc X8 N5 g_o0
  have Z8 : n0 ≤ h8.size := Nat.le_trans Z5 (Keep.of_wr W8).1
  have KP8 := KP5.wr W8 (Or.inl (List.mem_of_getElem? (i := 0) rfl))
  refine own_go st8 ?_
  show own_End p e below s (T8.setTop (mkF m 20 #[.val (.ref o0), .val (.int p1), .val (.long q2), .second, .val (.long q3), .second, .val (.long q4), .second, .val (.long q5), .second] [])) _ _ _
  refine own_go (fun t k => XS.aloadN X8.here hx rfl (hb hby d1_20) rfl rfl k) ?_
  show own_End p e below s (T8.setTop (mkF m 21 #[.val (.ref o0), .val (.int p1), .val (.long q2), .second, .val (.long q3), .second, .val (.long q4), .second, .val (.long q5), .second] [(.ref o0)])) _ _ _
  refine own_go (fun t k => XS.lload X8.here hx rfl (hb hby d1_21) rfl k) ?_
  show own_End p e below s (T8.setTop (mkF m 23 #[.val (.ref o0), .val (.int p1), .val (.long q2), .second, .val (.long q3), .second, .val (.long q4), .second, .val (.long q5), .second] [(.long q4), (.ref o0)])) _ _ _
  have U9 := (U6.wr W8)
  have U10 := (((F_nAborts.other W2 (Or.inr (slot_ne (Or.inr (hw _ (List.mem_of_getElem? (i := 24) rfl))) (Or.inr (hw _ (List.mem_of_getElem? (i := 18) rfl))) (by decide) (t := .long) (t' := .int) (by decide) (by decide)))).other W5 (Or.inr (slot_ne (Or.inr (hw _ (List.mem_of_getElem? (i := 24) rfl))) (Or.inr (hw _ (List.mem_of_getElem? (i := 20) rfl))) (by decide) (t := .long) (t' := .long) (by decide) (by decide)))).other W8 (Or.inr (slot_ne (Or.inr (hw _ (List.mem_of_getElem? (i := 24) rfl))) (Or.inr (hw _ (List.mem_of_getElem? (i := 22) rfl))) (by decide) (t := .long) (t' := .long) (by decide) (by decide))))
  obtain ⟨T11, h11, X11, e11, W11, st11⟩ := putF X8 hx hZ hown (host := "") (Or.inl (hw _ (List.mem_of_getElem? (i := 23) rfl))) Via.refl e8 U10 U9 (Or.inr ⟨(hw _ (List.mem_of_getElem? (i := 24) rfl)), rfl, hnm⟩) (hw _ (List.mem_of_getElem? (i := 4) rfl)) (ty := .long) (by decide) rfl rfl (g := (mkF m 23 #[.val (.ref o0), .val (.int p1), .val (.long q2), .second, .val (.long q3), .second, .val (.long q4), .second, .val (.long q5), .second] [(.long q4), (.ref o0)])) rfl rfl (hb hby d1_23)
  have Fw11 := U10.same W11
  have N11 := Fr.snoc X11 N8 g_o0
  have Z11 : n0 ≤ h11.size := Nat.le_trans Z8 (Keep.of_wr W11).1
  have KP11 := KP8.wr W11 (Or.inl (List.mem_of_getElem? (i := 0) rfl))
  refine own_go st11 ?_
  show own_End p e below s (T11.setTop (mkF m 26 #[.val (.ref o0), .val (.int p1), .val (.long q2), .second, .val (.long q3), .second, .val (.long q4), .second, .val (.long q5), .second] [])) _ _ _
  refine own_go (fun t k => XS.aloadN X11.here hx rfl (hb hby d1_26) rfl rfl k) ?_
  show own_End p e below s (T11.setTop (mkF m 27 #[.val (.ref o0), .val (.int p1), .val (.long q2), .second, .val (.long q3), .second, .val (.long q4), .second, .val (.long q5), .second] [(.ref o0)])) _ _ _
  refine own_go (fun t k => XS.lload X11.here hx rfl (hb hby d1_27) rfl k) ?_
  show own_End p e below s (T11.setTop (mkF m 29 #[.val (.ref o0), .val (.int p1), .val (.long q2), .second, .val (.long q3), .second, .val (.long q4), .second, .val (.long q5), .second] [(.long q5), (.ref o0)])) _ _ _
  have U12 := (U9.wr W11)
  have U13 := ((((F_nVersions.other W2 (Or.inr (slot_ne (Or.inr (hw _ (List.mem_of_getElem? (i := 26) rfl))) (Or.inr (hw _ (List.mem_of_getElem? (i := 18) rfl))) (by decide) (t := .long) (t' := .int) (by decide) (by decide)))).other W5 (Or.inr (slot_ne (Or.inr (hw _ (List.mem_of_getElem? (i := 26) rfl))) (Or.inr (hw _ (List.mem_of_getElem? (i := 20) rfl))) (by decide) (t := .long) (t' := .long) (by decide) (by decide)))).other W8 (Or.inr (slot_ne (Or.inr (hw _ (List.mem_of_getElem? (i := 26) rfl))) (Or.inr (hw _ (List.mem_of_getElem? (i := 22) rfl))) (by decide) (t := .long) (t' := .long) (by decide) (by decide)))).other W11 (Or.inr (slot_ne (Or.inr (hw _ (List.mem_of_getElem? (i := 26) rfl))) (Or.inr (hw _ (List.mem_of_getElem? (i := 24) rfl))) (by decide) (t := .long) (t' := .long) (by decide) (by decide))))
  obtain ⟨T14, h14, X14, e14, W14, st14⟩ := putF X11 hx hZ hown (host := "") (Or.inl (hw _ (List.mem_of_getElem? (i := 25) rfl))) Via.refl e11 U13 U12 (Or.inr ⟨(hw _ (List.mem_of_getElem? (i := 26) rfl)), rfl, hnm⟩) (hw _ (List.mem_of_getElem? (i := 4) rfl)) (ty := .long) (by decide) rfl rfl (g := (mkF m 29 #[.val (.ref o0), .val (.int p1), .val (.long q2), .second, .val (.long q3), .second, .val (.long q4), .second, .val (.long q5), .second] [(.long q5), (.ref o0)])) rfl rfl (hb hby d1_29)
  have Fw14 := U13.same W14
  have N14 := Fr.snoc X14 N11 g_o0
  have Z14 : n0 ≤ h14.size := Nat.le_trans Z11 (Keep.of_wr W14).1
  have KP14 := KP11.wr W14 (Or.inl (List.mem_of_getElem? (i := 0) rfl))
  refine own_go st14 ?_
  show own_End p e below s (T14.setTop (mkF m 32 #[.val (.ref o0), .val (.int p1), .val (.long q2), .second, .val (.long q3), .second, .val (.long q4), .second, .val (.long q5), .second] [])) _ _ _
  refine own_ret X14 (v := none) (fun _ => rfl) Bd.notSynchronized (fun fs hr => X14.returnOut hx Bd.returns (hb hby d1_32) hr) ?_ (by decide) (by decide)
  have U15 := (U12.wr W14)
  have U16 := ((Fw8.other W11 (Or.inr (slot_ne (Or.inr (hw _ (List.mem_of_getElem? (i := 22) rfl))) (Or.inr (hw _ (List.mem_of_getElem? (i := 24) rfl))) (by decide) (t := .long) (t' := .long) (by decide) (by decide)))).other W14 (Or.inr (slot_ne (Or.inr (hw _ (List.mem_of_getElem? (i := 22) rfl))) (Or.inr (hw _ (List.mem_of_getElem? (i := 26) rfl))) (by decide) (t := .long) (t' := .long) (by decide) (by decide))))
  have U17 := (Fw11.other W14 (Or.inr (slot_ne (Or.inr (hw _ (List.mem_of_getElem? (i := 24) rfl))) (Or.inr (hw _ (List.mem_of_getElem? (i := 26) rfl))) (by decide) (t := .long) (t' := .long) (by decide) (by decide))))
  · rw [e14]; exact ⟨rfl, N14, KP14, U15, U16, U17⟩
theorem own_pn2 : plainName "com/example/interweave/interweave/cli/BenchRun" = true := by first | (simp [plainName, overriddenIn]; done) | decide +kernel
theorem own_ef4_rm3 (m : MethodId) (o0 : Addr) (p1 : Int32) (q2 : Int64) (q3 : Int64) (q4 : Int64) (q5 : Int64) (o6 : Addr) (o7 : Addr) : entryFrame m #[(.ref o0), (.int p1), (.long q2), (.long q3), (.long q4), (.long q5), (.ref o6), (.ref o7)] 12 = mkF m 0 #[.val (.ref o0), .val (.int p1), .val (.long q2), .second, .val (.long q3), .second, .val (.long q4), .second, .val (.long q5), .second, .val (.ref o6), .val (.ref o7)] [] := by first | (simp [entryFrame, mkF, argsToLocals, Value.category]; done) | rfl
def Q_rm3 (Z : State) (o0 : Addr) (p1 : Int32) (q2 : Int64) (q3 : Int64) (q4 : Int64) (q5 : Int64) (o6 : Addr) (o7 : Addr)  (h0 : Heap) (n0 : Nat) (v : Option Value) (h : Heap) (L : List Loc) : Prop := v = none ∧ Fr n0 L ∧ Keep h0 h [o0] ∧ Exa Z h o0 "com/example/interweave/interweave/cli/BenchRun" ∧ Fld Z h o0 "com/example/interweave/interweave/cli/BenchRun" "m_aReadings" "Lcom/example/interweave/interweave/cli/BenchRun$Readings;" (.ref o6)
theorem d4_0 : decode prog_5_method_1_code 0 = .ok (.aload_n 0, 1) := by decide +kernel
theorem d4_1 : decode prog_5_method_1_code 1 = .ok (.invokespecial 3, 3) := by decide +kernel
theorem d4_4 : decode prog_5_method_1_code 4 = .ok (.aload_n 0, 1) := by decide +kernel
theorem d4_5 : decode prog_5_method_1_code 5 = .ok (.iload_n 1, 1) := by decide +kernel
theorem d4_6 : decode prog_5_method_1_code 6 = .ok (.putfield 9, 3) := by decide +kernel
theorem d4_9 : decode prog_5_method_1_code 9 = .ok (.aload_n 0, 1) := by decide +kernel
theorem d4_10 : decode prog_5_method_1_code 10 = .ok (.lload_n 2, 1) := by decide +kernel
theorem d4_11 : decode prog_5_method_1_code 11 = .ok (.putfield 15, 3) := by decide +kernel
theorem d4_14 : decode prog_5_method_1_code 14 = .ok (.aload_n 0, 1) := by decide +kernel
theorem d4_15 : decode prog_5_method_1_code 15 = .ok (.lload 4, 2) := by decide +kernel
theorem d4_17 : decode prog_5_method_1_code 17 = .ok (.putfield 19, 3) := by decide +kernel
theorem d4_20 : decode prog_5_method_1_code 20 = .ok (.aload_n 0, 1) := by decide +kernel
theorem d4_21 : decode prog_5_method_1_code 21 = .ok (.lload 6, 2) := by decide +kernel
theorem d4_23 : decode prog_5_method_1_code 23 = .ok (.putfield 22, 3) := by decide +kernel
theorem d4_26 : decode prog_5_method_1_code 26 = .ok (.aload_n 0, 1) := by decide +kernel
theorem d4_27 : decode prog_5_method_1_code 27 = .ok (.lload 8, 2) := by decide +kernel
theorem d4_29 : decode prog_5_method_1_code 29 = .ok (.putfield 25, 3) := by decide +kernel
theorem d4_32 : decode prog_5_method_1_code 32 = .ok (.aload_n 0, 1) := by decide +kernel
theorem d4_33 : decode prog_5_method_1_code 33 = .ok (.aload 10, 2) := by decide +kernel
theorem d4_35 : decode prog_5_method_1_code 35 = .ok (.putfield 28, 3) := by decide +kernel
theorem d4_38 : decode prog_5_method_1_code 38 = .ok (.aload_n 0, 1) := by decide +kernel
theorem d4_39 : decode prog_5_method_1_code 39 = .ok (.aload 11, 2) := by decide +kernel
theorem d4_41 : decode prog_5_method_1_code 41 = .ok (.putfield 32, 3) := by decide +kernel
theorem d4_44 : decode prog_5_method_1_code 44 = .ok (.return_, 1) := by decide +kernel
set_option maxRecDepth 65536 in
set_option maxHeartbeats 40000000 in
theorem rm3 (l : Launch) (Z : State) (a0 : Array Value) (hw : ∀ d ∈ tables_1, d.before a0 Z = true) (ws : List Jvm.Cond) (o0 : Addr) (p1 : Int32) (q2 : Int64) (q3 : Int64) (q4 : Int64) (q5 : Int64) (o6 : Addr) (o7 : Addr)  (h0 : Heap) (n0 : Nat) (Z0 : n0 ≤ h0.size) (g_o0 : n0 ≤ o0) (E_o0 : Exa Z h0 o0 "com/example/interweave/interweave/cli/BenchRun") (F_m_nThreads : Fld Z h0 o0 "com/example/interweave/interweave/cli/BenchRun" "m_nThreads" "I" (.int (0 : Int32))) (F_m_nCommitted : Fld Z h0 o0 "com/example/interweave/interweave/cli/BenchRun" "m_nCommitted" "J" (.long (0 : Int64))) (F_m_nAborted : Fld Z h0 o0 "com/example/interweave/interweave/cli/BenchRun" "m_nAborted" "J" (.long (0 : Int64))) (F_m_nNanos : Fld Z h0 o0 "com/example/interweave/interweave/cli/BenchRun" "m_nNanos" "J" (.long (0 : Int64))) (F_m_nSyncs : Fld Z h0 o0 "com/example/interweave/interweave/cli/BenchRun" "m_nSyncs" "J" (.long (0 : Int64))) (F_m_aReadings : Fld Z h0 o0 "com/example/interweave/interweave/cli/BenchRun" "m_aReadings" "Lcom/example/interweave/interweave/cli/BenchRun$Readings;" .null) (F_m_eIsolation : Fld Z h0 o0 "com/example/interweave/interweave/cli/BenchRun" "m_eIsolation" "Lcom/example/interweave/interweave/Isolation;" .null) :
    MetFree l (⟨"com/example/interweave/interweave/cli/BenchRun", "<init>", "(IJJJJLcom/example/interweave/interweave/cli/BenchRun$Readings;Lcom/example/interweave/interweave/Isolation;)V"⟩ : MethodName) (head1 (Jvm.Cond.code (⟨"com/example/interweave/interweave/cli/BenchRun", "<init>", "(IJJJJLcom/example/interweave/interweave/cli/BenchRun$Readings;Lcom/example/interweave/interweave/Isolation;)V"⟩ : MethodName) prog_5_method_1_code 12 none :: ws) ({ frames := 1, cells := 0, slots := 0, locals := 12 } : Room)) (fun a U => a = #[(.ref o0), (.int p1), (.long q2), (.long q3), (.long q4), (.long q5), (.ref o6), (.ref o7)] ∧ Z.Warmed39 U.vm ∧ U.heap = h0) (fun _ _ _ _ _ => True) (fun _ U o U' => ∃ v L, o = .returned v ∧ Q_rm3 Z o0 p1 q2 q3 q4 q5 o6 o7  h0 n0 v U'.heap L ∧ FrameEnd U o U' L ({ frames := 1, cells := 0, slots := 0, locals := 12 } : Room).cells ({ frames := 1, cells := 0, slots := 0, locals := 12 } : Room).slots) := by
  refine MetFree.of_bodySF (plainFor_of_name own_pn2) hisR ?_
  intro p e s m args below meth c s₁ Bd hml0 hP hK
  obtain ⟨rfl, hZ, hh⟩ := hP
  have hx := Bd.exec
  have hby := Bd.bytes
  have hml : c.maxLocals = 12 := hml0
  have hown : s.vm.findClass "com/example/interweave/interweave/cli/BenchRun" = some m.cls := findClass_of_methodNamed Bd.named
  have hnm := (name_of_methodNamed Bd.named Bd.method).1
  have X0 : Stand p l e ({ frames := 1, cells := 0, slots := 0, locals := 12 } : Room) s m #[(.ref o0), (.int p1), (.long q2), (.long q3), (.long q4), (.long q5), (.ref o6), (.ref o7)] below meth c s₁ [] 0 0 := Stand.of_body Bd
  have e0 : s₁.heap = h0 := by rw [← hh, Bd.state]; rfl
  have N0 := Fr.nil n0
  refine (show own_End p e below s (s₁.setTop (entryFrame m #[(.ref o0), (.int p1), (.long q2), (.long q3), (.long q4), (.long q5), (.ref o6), (.ref o7)] 12)) (Q_rm3 Z o0 p1 q2 q3 q4 q5 o6 o7  h0 n0) ({ frames := 1, cells := 0, slots := 0, locals := 12 } : Room).cells ({ frames := 1, cells := 0, slots := 0, locals := 12 } : Room).slots from ?_)
  refine own_go (fun t k => castTop (own_ef4_rm3 m o0 p1 q2 q3 q4 q5 o6 o7) k) ?_
  have li0 : (0 : Int32).toInt = 0 := rfl
  have li1 : (1 : Int32).toInt = 1 := rfl
  show own_End p e below s (s₁.setTop (mkF m 0 #[.val (.ref o0), .val (.int p1), .val (.long q2), .second, .val (.long q3), .second, .val (.long q4), .second, .val (.long q5), .second, .val (.ref o6), .val (.ref o7)] [])) _ _ _
  refine own_go (fun t k => XS.aloadN X0.here hx rfl (hb hby d4_0) rfl rfl k) ?_
  show own_End p e below s (s₁.setTop (mkF m 1 #[.val (.ref o0), .val (.int p1), .val (.long q2), .second, .val (.long q3), .second, .val (.long q4), .second, .val (.long q5), .second, .val (.ref o6), .val (.ref o7)] [(.ref o0)])) _ _ _
  obtain ⟨T1, X1, e1, st1⟩ := initO X0 hx hZ hown (hw _ (List.mem_of_getElem? (i := 33) rfl)) (hw _ (List.mem_of_getElem? (i := 15) rfl)) (hw _ (List.mem_of_getElem? (i := 16) rfl)) e0 (g := (mkF m 1 #[.val (.ref o0), .val (.int p1), .val (.long q2), .second, .val (.long q3), .second, .val (.long q4), .second, .val (.long q5), .second, .val (.ref o6), .val (.ref o7)] [(.ref o0)])) rfl (by rw [hml]; rfl) rfl (hb hby d4_1) (by decide) (W := 0) (by show 2 * 0 + _ ≤ _; exact Nat.le_of_eq rfl) (by decide)
  refine own_go st1 ?_
  show own_End p e below s (T1.setTop (mkF m 4 #[.val (.ref o0), .val (.int p1), .val (.long q2), .second, .val (.long q3), .second, .val (.long q4), .second, .val (.long q5), .second, .val (.ref o6), .val (.ref o7)] [])) _ _ _
  refine own_go (fun t k => XS.aloadN X1.here hx rfl (hb hby d4_4) rfl rfl k) ?_
  show own_End p e below s (T1.setTop (mkF m 5 #[.val (.ref o0), .val (.int p1), .val (.long q2), .second, .val (.long q3), .second, .val (.long q4), .second, .val (.long q5), .second, .val (.ref o6), .val (.ref o7)] [(.ref o0)])) _ _ _
  refine own_go (fun t k => XS.iloadN X1.here hx rfl (hb hby d4_5) rfl k) ?_
  show own_End p e below s (T1.setTop (mkF m 6 #[.val (.ref o0), .val (.int p1), .val (.long q2), .second, .val (.long q3), .second, .val (.long q4), .second, .val (.long q5), .second, .val (.ref o6), .val (.ref o7)] [(.int p1), (.ref o0)])) _ _ _
  obtain ⟨T2, h2, X2, e2, W2, st2⟩ := putF X1 hx hZ hown (host := "") (Or.inl (hw _ (List.mem_of_getElem? (i := 34) rfl))) Via.refl e1 F_m_nThreads E_o0 (Or.inr ⟨(hw _ (List.mem_of_getElem? (i := 35) rfl)), rfl, hnm⟩) (hw _ (List.mem_of_getElem? (i := 28) rfl)) (ty := .int) (by decide) rfl rfl (g := (mkF m 6 #[.val (.ref o0), .val (.int p1), .val (.long q2), .second, .val (.long q3), .second, .val (.long q4), .second, .val (.long q5), .second, .val (.ref o6), .val (.ref o7)] [(.int p1), (.ref o0)])) rfl rfl (hb hby d4_6)
  have Fw2 := F_m_nThreads.same W2
  have N2 := Fr.snoc X2 N0 g_o0
  have Z2 : n0 ≤ h2.size := Nat.le_trans Z0 (Keep.of_wr W2).1
  have KP2 := (Keep.refl h0 [o0]).wr W2 (Or.inl (List.mem_of_getElem? (i := 0) rfl))
  refine own_go st2 ?_
  show own_End p e below s (T2.setTop (mkF m 9 #[.val (.ref o0), .val (.int p1), .val (.long q2), .second, .val (.long q3), .second, .val (.long q4), .second, .val (.long q5), .second, .val (.ref o6), .val (.ref o7)] [])) _ _ _
  refine own_go (fun t k => XS.aloadN X2.here hx rfl (hb hby d4_9) rfl rfl k) ?_
  show own_End p e below s (T2.setTop (mkF m 10 #[.val (.ref o0), .val (.int p1), .val (.long q2), .second, .val (.long q3), .second, .val (.long q4), .second, .val (.long q5), .second, .val (.ref o6), .val (.ref o7)] [(.ref o0)])) _ _ _
  refine own_go (fun t k => XS.lloadN X2.here hx rfl (hb hby d4_10) rfl k) ?_
  show own_End p e below s (T2.setTop (mkF m 11 #[.val (.ref o0), .val (.int p1), .val (.long q2), .second, .val (.long q3), .second, .val (.long q4), .second, .val (.long q5), .second, .val (.ref o6), .val (.ref o7)] [(.long q2), (.ref o0)])) _ _ _
  have U3 := (E_o0.wr W2)
  have U4 := (F_m_nCommitted.other W2 (Or.inr (slot_ne (Or.inr (hw _ (List.mem_of_getElem? (i := 37) rfl))) (Or.inr (hw _ (List.mem_of_getElem? (i := 35) rfl))) (by decide) (t := .long) (t' := .int) (by decide) (by decide))))
  obtain ⟨T5, h5, X5, e5, W5, st5⟩ := putF X2 hx hZ hown (host := "") (Or.inl (hw _ (List.mem_of_getElem? (i := 36) rfl))) Via.refl e2 U4 U3 (Or.inr ⟨(hw _ (List.mem_of_getElem? (i := 37) rfl)), rfl, hnm⟩) (hw _ (List.mem_of_getElem? (i := 28) rfl)) (ty := .long) (by decide) rfl rfl (g := (mkF m 11 #[.val (.ref o0), .val (.int p1), .val (.long q2), .second, .val (.long q3), .second, .val (.long q4), .second, .val (.long q5), .second, .val (.ref o6), .val (.ref o7)] [(.long q2), (.ref o0)])) rfl rfl (hb hby d4_11)
  have Fw5 := U4.same W5
  have N5 := Fr.snoc X5 N2 g_o0
  have Z5 : n0 ≤ h5.size := Nat.le_trans Z2 (Keep.of_wr W5).1
  have KP5 := KP2.wr W5 (Or.inl (List.mem_of_getElem? (i := 0) rfl))
  refine own_go st5 ?_
  show own_End p e below s (T5.setTop (mkF m 14 #[.val (.ref o0), .val (.int p1), .val (.long q2), .second, .val (.long q3), .second, .val (.long q4), .second, .val (.long q5), .second, .val (.ref o6), .val (.ref o7)] [])) _ _ _
  refine own_go (fun t k => XS.aloadN X5.here hx rfl (hb hby d4_14) rfl rfl k) ?_
  show own_End p e below s (T5.setTop (mkF m 15 #[.val (.ref o0), .val (.int p1), .val (.long q2), .second, .val (.long q3), .second, .val (.long q4), .second, .val (.long q5), .second, .val (.ref o6), .val (.ref o7)] [(.ref o0)])) _ _ _
  refine own_go (fun t k => XS.lload X5.here hx rfl (hb hby d4_15) rfl k) ?_
  show own_End p e below s (T5.setTop (mkF m 17 #[.val (.ref o0), .val (.int p1), .val (.long q2), .second, .val (.long q3), .second, .val (.long q4), .second, .val (.long q5), .second, .val (.ref o6), .val (.ref o7)] [(.long q3), (.ref o0)])) _ _ _
  have U6 := (U3.wr W5)
  have U7 := ((F_m_nAborted.other W2 (Or.inr (slot_ne (Or.inr (hw _ (List.mem_of_getElem? (i := 39) rfl))) (Or.inr (hw _ (List.mem_of_getElem? (i := 35) rfl))) (by decide) (t := .long) (t' := .int) (by decide) (by decide)))).other W5 (Or.inr (slot_ne (Or.inr (hw _ (List.mem_of_getElem? (i := 39) rfl))) (Or.inr (hw _ (List.mem_of_getElem? (i := 37) rfl))) (by decide) (t := .long) (t' := .long) (by decide) (by decide))))
  obtain ⟨T8, h8, X8, e8, W8, st8⟩ := putF X5 hx hZ hown (host := "") (Or.inl (hw _ (List.mem_of_getElem? (i := 38) rfl))) Via.refl e5 U7 U6 (Or.inr ⟨(hw _ (List.mem_of_getElem? (i := 39) rfl)), rfl, hnm⟩) (hw _ (List.mem_of_getElem? (i := 28) rfl)) (ty := .long) (by decide) rfl rfl (g := (mkF m 17 #[.val (.ref o0), .val (.int p1), .val (.long q2), .second, .val (.long q3), .second, .val (.long q4), .second, .val (.long q5), .second, .val (.ref o6), .val (.ref o7)] [(.long q3), (.ref o0)])) rfl rfl (hb hby d4_17)
  have Fw8 := U7.same W8
  have N8 := Fr.snoc X8 N5 g_o0
  have Z8 : n0 ≤ h8.size := Nat.le_trans Z5 (Keep.of_wr W8).1
  have KP8 := KP5.wr W8 (Or.inl (List.mem_of_getElem? (i := 0) rfl))
  refine own_go st8 ?_
  show own_End p e below s (T8.setTop (mkF m 20 #[.val (.ref o0), .val (.int p1), .val (.long q2), .second, .val (.long q3), .second, .val (.long q4), .second, .val (.long q5), .second, .val (.ref o6), .val (.ref o7)] [])) _ _ _
  refine own_go (fun t k => XS.aloadN X8.here hx rfl (hb hby d4_20) rfl rfl k) ?_
  show own_End p e below s (T8.setTop (mkF m 21 #[.val (.ref o0), .val (.int p1), .val (.long q2), .second, .val (.long q3), .second, .val (.long q4), .second, .val (.long q5), .second, .val (.ref o6), .val (.ref o7)] [(.ref o0)])) _ _ _
  refine own_go (fun t k => XS.lload X8.here hx rfl (hb hby d4_21) rfl k) ?_
  show own_End p e below s (T8.setTop (mkF m 23 #[.val (.ref o0), .val (.int p1), .val (.long q2), .second, .val (.long q3), .second, .val (.long q4), .second, .val (.long q5), .second, .val (.ref o6), .val (.ref o7)] [(.long q4), (.ref o0)])) _ _ _
  have U9 := (U6.wr W8)
  have U10 := (((F_m_nNanos.other W2 (Or.inr (slot_ne (Or.inr (hw _ (List.mem_of_getElem? (i := 41) rfl))) (Or.inr (hw _ (List.mem_of_getElem? (i := 35) rfl))) (by decide) (t := .long) (t' := .int) (by decide) (by decide)))).other W5 (Or.inr (slot_ne (Or.inr (hw _ (List.mem_of_getElem? (i := 41) rfl))) (Or.inr (hw _ (List.mem_of_getElem? (i := 37) rfl))) (by decide) (t := .long) (t' := .long) (by decide) (by decide)))).other W8 (Or.inr (slot_ne (Or.inr (hw _ (List.mem_of_getElem? (i := 41) rfl))) (Or.inr (hw _ (List.mem_of_getElem? (i := 39) rfl))) (by decide) (t := .long) (t' := .long) (by decide) (by decide))))
  obtain ⟨T11, h11, X11, e11, W11, st11⟩ := putF X8 hx hZ hown (host := "") (Or.inl (hw _ (List.mem_of_getElem? (i := 40) rfl))) Via.refl e8 U10 U9 (Or.inr ⟨(hw _ (List.mem_of_getElem? (i := 41) rfl)), rfl, hnm⟩) (hw _ (List.mem_of_getElem? (i := 28) rfl)) (ty := .long) (by decide) rfl rfl (g := (mkF m 23 #[.val (.ref o0), .val (.int p1), .val (.long q2), .second, .val (.long q3), .second, .val (.long q4), .second, .val (.long q5), .second, .val (.ref o6), .val (.ref o7)] [(.long q4), (.ref o0)])) rfl rfl (hb hby d4_23)
  have Fw11 := U10.same W11
  have N11 := Fr.snoc X11 N8 g_o0
  have Z11 : n0 ≤ h11.size := Nat.le_trans Z8 (Keep.of_wr W11).1
  have KP11 := KP8.wr W11 (Or.inl (List.mem_of_getElem? (i := 0) rfl))
  refine own_go st11 ?_
  show own_End p e below s (T11.setTop (mkF m 26 #[.val (.ref o0), .val (.int p1), .val (.long q2), .second, .val (.long q3), .second, .val (.long q4), .second, .val (.long q5), .second, .val (.ref o6), .val (.ref o7)] [])) _ _ _
  refine own_go (fun t k => XS.aloadN X11.here hx rfl (hb hby d4_26) rfl rfl k) ?_
  show own_End p e below s (T11.setTop (mkF m 27 #[.val (.ref o0), .val (.int p1), .val (.long q2), .second, .val (.long q3), .second, .val (.long q4), .second, .val (.long q5), .second, .val (.ref o6), .val (.ref o7)] [(.ref o0)])) _ _ _
  refine own_go (fun t k => XS.lload X11.here hx rfl (hb hby d4_27) rfl k) ?_
  show own_End p e below s (T11.setTop (mkF m 29 #[.val (.ref o0), .val (.int p1), .val (.long q2), .second, .val (.long q3), .second, .val (.long q4), .second, .val (.long q5), .second, .val (.ref o6), .val (.ref o7)] [(.long q5), (.ref o0)])) _ _ _
  have U12 := (U9.wr W11)
  have U13 := ((((F_m_nSyncs.other W2 (Or.inr (slot_ne (Or.inr (hw _ (List.mem_of_getElem? (i := 43) rfl))) (Or.inr (hw _ (List.mem_of_getElem? (i := 35) rfl))) (by decide) (t := .long) (t' := .int) (by decide) (by decide)))).other W5 (Or.inr (slot_ne (Or.inr (hw _ (List.mem_of_getElem? (i := 43) rfl))) (Or.inr (hw _ (List.mem_of_getElem? (i := 37) rfl))) (by decide) (t := .long) (t' := .long) (by decide) (by decide)))).other W8 (Or.inr (slot_ne (Or.inr (hw _ (List.mem_of_getElem? (i := 43) rfl))) (Or.inr (hw _ (List.mem_of_getElem? (i := 39) rfl))) (by decide) (t := .long) (t' := .long) (by decide) (by decide)))).other W11 (Or.inr (slot_ne (Or.inr (hw _ (List.mem_of_getElem? (i := 43) rfl))) (Or.inr (hw _ (List.mem_of_getElem? (i := 41) rfl))) (by decide) (t := .long) (t' := .long) (by decide) (by decide))))
  obtain ⟨T14, h14, X14, e14, W14, st14⟩ := putF X11 hx hZ hown (host := "") (Or.inl (hw _ (List.mem_of_getElem? (i := 42) rfl))) Via.refl e11 U13 U12 (Or.inr ⟨(hw _ (List.mem_of_getElem? (i := 43) rfl)), rfl, hnm⟩) (hw _ (List.mem_of_getElem? (i := 28) rfl)) (ty := .long) (by decide) rfl rfl (g := (mkF m 29 #[.val (.ref o0), .val (.int p1), .val (.long q2), .second, .val (.long q3), .second, .val (.long q4), .second, .val (.long q5), .second, .val (.ref o6), .val (.ref o7)] [(.long q5), (.ref o0)])) rfl rfl (hb hby d4_29)
  have Fw14 := U13.same W14
  have N14 := Fr.snoc X14 N11 g_o0
  have Z14 : n0 ≤ h14.size := Nat.le_trans Z11 (Keep.of_wr W14).1
  have KP14 := KP11.wr W14 (Or.inl (List.mem_of_getElem? (i := 0) rfl))
  refine own_go st14 ?_
  show own_End p e below s (T14.setTop (mkF m 32 #[.val (.ref o0), .val (.int p1), .val (.long q2), .second, .val (.long q3), .second, .val (.long q4), .second, .val (.long q5), .second, .val (.ref o6), .val (.ref o7)] [])) _ _ _
  refine own_go (fun t k => XS.aloadN X14.here hx rfl (hb hby d4_32) rfl rfl k) ?_
  show own_End p e below s (T14.setTop (mkF m 33 #[.val (.ref o0), .val (.int p1), .val (.long q2), .second, .val (.long q3), .second, .val (.long q4), .second, .val (.long q5), .second, .val (.ref o6), .val (.ref o7)] [(.ref o0)])) _ _ _
  refine own_go (fun t k => XS.aload X14.here hx rfl (hb hby d4_33) rfl rfl k) ?_
  show own_End p e below s (T14.setTop (mkF m 35 #[.val (.ref o0), .val (.int p1), .val (.long q2), .second, .val (.long q3), .second, .val (.long q4), .second, .val (.long q5), .second, .val (.ref o6), .val (.ref o7)] [(.ref o6), (.ref o0)])) _ _ _
  have U15 := (U12.wr W14)
  have U16 := (((((F_m_aReadings.other W2 (Or.inr (slot_ne (Or.inr (hw _ (List.mem_of_getElem? (i := 45) rfl))) (Or.inr (hw _ (List.mem_of_getElem? (i := 35) rfl))) (by decide) (t := (.object "com/example/interweave/interweave/cli/BenchRun$Readings")) (t' := .int) (by decide) (by decide)))).other W5 (Or.inr (slot_ne (Or.inr (hw _ (List.mem_of_getElem? (i := 45) rfl))) (Or.inr (hw _ (List.mem_of_getElem? (i := 37) rfl))) (by decide) (t := (.object "com/example/interweave/interweave/cli/BenchRun$Readings")) (t' := .long) (by decide) (by decide)))).other W8 (Or.inr (slot_ne (Or.inr (hw _ (List.mem_of_getElem? (i := 45) rfl))) (Or.inr (hw _ (List.mem_of_getElem? (i := 39) rfl))) (by decide) (t := (.object "com/example/interweave/interweave/cli/BenchRun$Readings")) (t' := .long) (by decide) (by decide)))).other W11 (Or.inr (slot_ne (Or.inr (hw _ (List.mem_of_getElem? (i := 45) rfl))) (Or.inr (hw _ (List.mem_of_getElem? (i := 41) rfl))) (by decide) (t := (.object "com/example/interweave/interweave/cli/BenchRun$Readings")) (t' := .long) (by decide) (by decide)))).other W14 (Or.inr (slot_ne (Or.inr (hw _ (List.mem_of_getElem? (i := 45) rfl))) (Or.inr (hw _ (List.mem_of_getElem? (i := 43) rfl))) (by decide) (t := (.object "com/example/interweave/interweave/cli/BenchRun$Readings")) (t' := .long) (by decide) (by decide))))
  obtain ⟨T17, h17, X17, e17, W17, st17⟩ := putF X14 hx hZ hown (host := "") (Or.inl (hw _ (List.mem_of_getElem? (i := 44) rfl))) Via.refl e14 U16 U15 (Or.inr ⟨(hw _ (List.mem_of_getElem? (i := 45) rfl)), rfl, hnm⟩) (hw _ (List.mem_of_getElem? (i := 28) rfl)) (ty := (.object "com/example/interweave/interweave/cli/BenchRun$Readings")) (by decide) rfl rfl (g := (mkF m 35 #[.val (.ref o0), .val (.int p1), .val (.long q2), .second, .val (.long q3), .second, .val (.long q4), .second, .val (.long q5), .second, .val (.ref o6), .val (.ref o7)] [(.ref o6), (.ref o0)])) rfl rfl (hb hby d4_35)
  have Fw17 := U16.same W17
  have N17 := Fr.snoc X17 N14 g_o0
  have Z17 : n0 ≤ h17.size := Nat.le_trans Z14 (Keep.of_wr W17).1
  have KP17 := KP14.wr W17 (Or.inl (List.mem_of_getElem? (i := 0) rfl))
  refine own_go st17 ?_
  show own_End p e below s (T17.setTop (mkF m 38 #[.val (.ref o0), .val (.int p1), .val (.long q2), .second, .val (.long q3), .second, .val (.long q4), .second, .val (.long q5), .second, .val (.ref o6), .val (.ref o7)] [])) _ _ _
  refine own_go (fun t k => XS.aloadN X17.here hx rfl (hb hby d4_38) rfl rfl k) ?_
  show own_End p e below s (T17.setTop (mkF m 39 #[.val (.ref o0), .val (.int p1), .val (.long q2), .second, .val (.long q3), .second, .val (.long q4), .second, .val (.long q5), .second, .val (.ref o6), .val (.ref o7)] [(.ref o0)])) _ _ _
  refine own_go (fun t k => XS.aload X17.here hx rfl (hb hby d4_39) rfl rfl k) ?_
  show own_End p e below s (T17.setTop (mkF m 41 #[.val (.ref o0), .val (.int p1), .val (.long q2), .second, .val (.long q3), .second, .val (.long q4), .second, .val (.long q5), .second, .val (.ref o6), .val (.ref o7)] [(.ref o7), (.ref o0)])) _ _ _
  have U18 := (U15.wr W17)
  have U19 := ((((((F_m_eIsolation.other W2 (Or.inr (slot_ne (Or.inr (hw _ (List.mem_of_getElem? (i := 47) rfl))) (Or.inr (hw _ (List.mem_of_getElem? (i := 35) rfl))) (by decide) (t := (.object "com/example/interweave/interweave/Isolation")) (t' := .int) (by decide) (by decide)))).other W5 (Or.inr (slot_ne (Or.inr (hw _ (List.mem_of_getElem? (i := 47) rfl))) (Or.inr (hw _ (List.mem_of_getElem? (i := 37) rfl))) (by decide) (t := (.object "com/example/interweave/interweave/Isolation")) (t' := .long) (by decide) (by decide)))).other W8 (Or.inr (slot_ne (Or.inr (hw _ (List.mem_of_getElem? (i := 47) rfl))) (Or.inr (hw _ (List.mem_of_getElem? (i := 39) rfl))) (by decide) (t := (.object "com/example/interweave/interweave/Isolation")) (t' := .long) (by decide) (by decide)))).other W11 (Or.inr (slot_ne (Or.inr (hw _ (List.mem_of_getElem? (i := 47) rfl))) (Or.inr (hw _ (List.mem_of_getElem? (i := 41) rfl))) (by decide) (t := (.object "com/example/interweave/interweave/Isolation")) (t' := .long) (by decide) (by decide)))).other W14 (Or.inr (slot_ne (Or.inr (hw _ (List.mem_of_getElem? (i := 47) rfl))) (Or.inr (hw _ (List.mem_of_getElem? (i := 43) rfl))) (by decide) (t := (.object "com/example/interweave/interweave/Isolation")) (t' := .long) (by decide) (by decide)))).other W17 (Or.inr (slot_ne (Or.inr (hw _ (List.mem_of_getElem? (i := 47) rfl))) (Or.inr (hw _ (List.mem_of_getElem? (i := 45) rfl))) (by decide) (t := (.object "com/example/interweave/interweave/Isolation")) (t' := (.object "com/example/interweave/interweave/cli/BenchRun$Readings")) (by decide) (by decide))))
  obtain ⟨T20, h20, X20, e20, W20, st20⟩ := putF X17 hx hZ hown (host := "") (Or.inl (hw _ (List.mem_of_getElem? (i := 46) rfl))) Via.refl e17 U19 U18 (Or.inr ⟨(hw _ (List.mem_of_getElem? (i := 47) rfl)), rfl, hnm⟩) (hw _ (List.mem_of_getElem? (i := 28) rfl)) (ty := (.object "com/example/interweave/interweave/Isolation")) (by decide) rfl rfl (g := (mkF m 41 #[.val (.ref o0), .val (.int p1), .val (.long q2), .second, .val (.long q3), .second, .val (.long q4), .second, .val (.long q5), .second, .val (.ref o6), .val (.ref o7)] [(.ref o7), (.ref o0)])) rfl rfl (hb hby d4_41)
  have Fw20 := U19.same W20
  have N20 := Fr.snoc X20 N17 g_o0
  have Z20 : n0 ≤ h20.size := Nat.le_trans Z17 (Keep.of_wr W20).1
  have KP20 := KP17.wr W20 (Or.inl (List.mem_of_getElem? (i := 0) rfl))
  refine own_go st20 ?_
  show own_End p e below s (T20.setTop (mkF m 44 #[.val (.ref o0), .val (.int p1), .val (.long q2), .second, .val (.long q3), .second, .val (.long q4), .second, .val (.long q5), .second, .val (.ref o6), .val (.ref o7)] [])) _ _ _
  refine own_ret X20 (v := none) (fun _ => rfl) Bd.notSynchronized (fun fs hr => X20.returnOut hx Bd.returns (hb hby d4_44) hr) ?_ (by decide) (by decide)
  have U21 := (U18.wr W20)
  have U22 := (Fw17.other W20 (Or.inr (slot_ne (Or.inr (hw _ (List.mem_of_getElem? (i := 45) rfl))) (Or.inr (hw _ (List.mem_of_getElem? (i := 47) rfl))) (by decide) (t := (.object "com/example/interweave/interweave/cli/BenchRun$Readings")) (t' := (.object "com/example/interweave/interweave/Isolation")) (by decide) (by decide))))
  · rw [e20]; exact ⟨rfl, N20, KP20, U21, U22⟩
theorem own_ef6_rm4 (m : MethodId) (o0 : Addr) : entryFrame m #[(.ref o0)] 1 = mkF m 0 #[.val (.ref o0)] [] := by first | (simp [entryFrame, mkF, argsToLocals, Value.category]; done) | rfl
def Q_rm4 (Z : State) (o0 : Addr) (w1 : Int64) (h0 : Heap) (n0 : Nat) (v : Option Value) (h : Heap) (L : List Loc) : Prop := v = some (.long w1) ∧ Fr n0 L ∧ h = h0
theorem d6_0 : decode prog_10_method_7_code 0 = .ok (.aload_n 0, 1) := by decide +kernel
theorem d6_1 : decode prog_10_method_7_code 1 = .ok (.getfield 17, 3) := by decide +kernel
theorem d6_4 : decode prog_10_method_7_code 4 = .ok (.lreturn, 1) := by decide +kernel
set_option maxRecDepth 65536 in
set_option maxHeartbeats 40000000 in
theorem rm4 (l : Launch) (Z : State) (a0 : Array Value) (hw : ∀ d ∈ tables_1, d.before a0 Z = true) (ws : List Jvm.Cond) (o0 : Addr) (w1 : Int64) (h0 : Heap) (n0 : Nat) (Z0 : n0 ≤ h0.size) (F_nWrong : Fld Z h0 o0 "com/example/interweave/interweave/cli/BenchRun$Readings" "nWrong" "J" (.long w1)) :
    MetFree l (⟨"com/example/interweave/interweave/cli/BenchRun$Readings", "nWrong", "()J"⟩ : MethodName) (head1 (Jvm.Cond.code (⟨"com/example/interweave/interweave/cli/BenchRun$Readings", "nWrong", "()J"⟩ : MethodName) prog_10_method_7_code 1 (some .long) :: ws) ({ frames := 0, cells := 0, slots := 0, locals := 0 } : Room)) (fun a U => a = #[(.ref o0)] ∧ Z.Warmed39 U.vm ∧ U.heap = h0) (fun _ _ _ _ _ => True) (fun _ U o U' => ∃ v L, o = .returned v ∧ Q_rm4 Z o0 w1 h0 n0 v U'.heap L ∧ FrameEnd U o U' L ({ frames := 0, cells := 0, slots := 0, locals := 0 } : Room).cells ({ frames := 0, cells := 0, slots := 0, locals := 0 } : Room).slots) := by
  refine MetFree.of_bodySF (plainFor_of_name own_pn1) hisR ?_
  intro p e s m args below meth c s₁ Bd hml0 hP hK
  obtain ⟨rfl, hZ, hh⟩ := hP
  have hx := Bd.exec
  have hby := Bd.bytes
  have hml : c.maxLocals = 1 := hml0
  have hown : s.vm.findClass "com/example/interweave/interweave/cli/BenchRun$Readings" = some m.cls := findClass_of_methodNamed Bd.named
  have hnm := (name_of_methodNamed Bd.named Bd.method).1
  have X0 : Stand p l e ({ frames := 0, cells := 0, slots := 0, locals := 0 } : Room) s m #[(.ref o0)] below meth c s₁ [] 0 0 := Stand.of_body Bd
  have e0 : s₁.heap = h0 := by rw [← hh, Bd.state]; rfl
  have N0 := Fr.nil n0
  refine (show own_End p e below s (s₁.setTop (entryFrame m #[(.ref o0)] 1)) (Q_rm4 Z o0 w1 h0 n0) ({ frames := 0, cells := 0, slots := 0, locals := 0 } : Room).cells ({ frames := 0, cells := 0, slots := 0, locals := 0 } : Room).slots from ?_)
  refine own_go (fun t k => castTop (own_ef6_rm4 m o0) k) ?_
  have li0 : (0 : Int32).toInt = 0 := rfl
  have li1 : (1 : Int32).toInt = 1 := rfl
  show own_End p e below s (s₁.setTop (mkF m 0 #[.val (.ref o0)] [])) _ _ _
  refine own_go (fun t k => XS.aloadN X0.here hx rfl (hb hby d6_0) rfl rfl k) ?_
  show own_End p e below s (s₁.setTop (mkF m 1 #[.val (.ref o0)] [(.ref o0)])) _ _ _
  obtain ⟨T1, X1, e1, st1⟩ := getF X0 hx hZ hown (host := "") (Or.inl (hw _ (List.mem_of_getElem? (i := 21) rfl))) Via.refl e0 F_nWrong (g := (mkF m 1 #[.val (.ref o0)] [(.ref o0)])) rfl rfl (hb hby d6_1)
  refine own_go st1 ?_
  show own_End p e below s (T1.setTop (mkF m 4 #[.val (.ref o0)] [(.long w1)])) _ _ _
  refine own_ret X1 (v := some (.long w1)) (fun h => by rw [Bd.returns] at h; cases h) Bd.notSynchronized (fun fs hr => own_retJ X1 hx Bd.returns (hb hby d6_4) hr) ?_ (by decide) (by decide)
  · rw [e1]; exact ⟨rfl, N0, rfl⟩
theorem own_ef7_rm5 (m : MethodId) (o0 : Addr) : entryFrame m #[(.ref o0)] 1 = mkF m 0 #[.val (.ref o0)] [] := by first | (simp [entryFrame, mkF, argsToLocals, Value.category]; done) | rfl
def Q_rm5 (Z : State) (o0 : Addr) (w1 : Int64) (h0 : Heap) (n0 : Nat) (v : Option Value) (h : Heap) (L : List Loc) : Prop := v = some (.long w1) ∧ Fr n0 L ∧ h = h0
theorem d7_0 : decode prog_10_method_8_code 0 = .ok (.aload_n 0, 1) := by decide +kernel
theorem d7_1 : decode prog_10_method_8_code 1 = .ok (.getfield 20, 3) := by decide +kernel
theorem d7_4 : decode prog_10_method_8_code 4 = .ok (.lreturn, 1) := by decide +kernel
set_option maxRecDepth 65536 in
set_option maxHeartbeats 40000000 in
theorem rm5 (l : Launch) (Z : State) (a0 : Array Value) (hw : ∀ d ∈ tables_1, d.before a0 Z = true) (ws : List Jvm.Cond) (o0 : Addr) (w1 : Int64) (h0 : Heap) (n0 : Nat) (Z0 : n0 ≤ h0.size) (F_nAborts : Fld Z h0 o0 "com/example/interweave/interweave/cli/BenchRun$Readings" "nAborts" "J" (.long w1)) :
    MetFree l (⟨"com/example/interweave/interweave/cli/BenchRun$Readings", "nAborts", "()J"⟩ : MethodName) (head1 (Jvm.Cond.code (⟨"com/example/interweave/interweave/cli/BenchRun$Readings", "nAborts", "()J"⟩ : MethodName) prog_10_method_8_code 1 (some .long) :: ws) ({ frames := 0, cells := 0, slots := 0, locals := 0 } : Room)) (fun a U => a = #[(.ref o0)] ∧ Z.Warmed39 U.vm ∧ U.heap = h0) (fun _ _ _ _ _ => True) (fun _ U o U' => ∃ v L, o = .returned v ∧ Q_rm5 Z o0 w1 h0 n0 v U'.heap L ∧ FrameEnd U o U' L ({ frames := 0, cells := 0, slots := 0, locals := 0 } : Room).cells ({ frames := 0, cells := 0, slots := 0, locals := 0 } : Room).slots) := by
  refine MetFree.of_bodySF (plainFor_of_name own_pn1) hisR ?_
  intro p e s m args below meth c s₁ Bd hml0 hP hK
  obtain ⟨rfl, hZ, hh⟩ := hP
  have hx := Bd.exec
  have hby := Bd.bytes
  have hml : c.maxLocals = 1 := hml0
  have hown : s.vm.findClass "com/example/interweave/interweave/cli/BenchRun$Readings" = some m.cls := findClass_of_methodNamed Bd.named
  have hnm := (name_of_methodNamed Bd.named Bd.method).1
  have X0 : Stand p l e ({ frames := 0, cells := 0, slots := 0, locals := 0 } : Room) s m #[(.ref o0)] below meth c s₁ [] 0 0 := Stand.of_body Bd
  have e0 : s₁.heap = h0 := by rw [← hh, Bd.state]; rfl
  have N0 := Fr.nil n0
  refine (show own_End p e below s (s₁.setTop (entryFrame m #[(.ref o0)] 1)) (Q_rm5 Z o0 w1 h0 n0) ({ frames := 0, cells := 0, slots := 0, locals := 0 } : Room).cells ({ frames := 0, cells := 0, slots := 0, locals := 0 } : Room).slots from ?_)
  refine own_go (fun t k => castTop (own_ef7_rm5 m o0) k) ?_
  have li0 : (0 : Int32).toInt = 0 := rfl
  have li1 : (1 : Int32).toInt = 1 := rfl
  show own_End p e below s (s₁.setTop (mkF m 0 #[.val (.ref o0)] [])) _ _ _
  refine own_go (fun t k => XS.aloadN X0.here hx rfl (hb hby d7_0) rfl rfl k) ?_
  show own_End p e below s (s₁.setTop (mkF m 1 #[.val (.ref o0)] [(.ref o0)])) _ _ _
  obtain ⟨T1, X1, e1, st1⟩ := getF X0 hx hZ hown (host := "") (Or.inl (hw _ (List.mem_of_getElem? (i := 23) rfl))) Via.refl e0 F_nAborts (g := (mkF m 1 #[.val (.ref o0)] [(.ref o0)])) rfl rfl (hb hby d7_1)
  refine own_go st1 ?_
  show own_End p e below s (T1.setTop (mkF m 4 #[.val (.ref o0)] [(.long w1)])) _ _ _
  refine own_ret X1 (v := some (.long w1)) (fun h => by rw [Bd.returns] at h; cases h) Bd.notSynchronized (fun fs hr => own_retJ X1 hx Bd.returns (hb hby d7_4) hr) ?_ (by decide) (by decide)
  · rw [e1]; exact ⟨rfl, N0, rfl⟩
theorem own_ef5_rm6 (m : MethodId) (o0 : Addr) : entryFrame m #[(.ref o0)] 1 = mkF m 0 #[.val (.ref o0)] [] := by first | (simp [entryFrame, mkF, argsToLocals, Value.category]; done) | rfl
def Q_rm6 (Z : State) (o0 : Addr) (r : Addr) (w1 : Int64) (w2 : Int64) (h0 : Heap) (n0 : Nat) (v : Option Value) (h : Heap) (L : List Loc) : Prop := (∃ z, v = some (.int z) ∧ (z.toInt = 1 ∧ (w1.toInt = 0 ∧ w2.toInt = 0) ∨ z.toInt = 0 ∧ ¬ (w1.toInt = 0 ∧ w2.toInt = 0))) ∧ Fr n0 L ∧ h = h0
theorem d5_0 : decode prog_5_method_13_code 0 = .ok (.aload_n 0, 1) := by decide +kernel
theorem d5_1 : decode prog_5_method_13_code 1 = .ok (.getfield 28, 3) := by decide +kernel
theorem d5_4 : decode prog_5_method_13_code 4 = .ok (.invokevirtual 284, 3) := by decide +kernel
theorem own_pd1 : parseMethodDescriptor "()J" = some ⟨[], some .long⟩ := by decide +kernel
theorem d5_7 : decode prog_5_method_13_code 7 = .ok (.lconst 0, 1) := by decide +kernel
theorem d5_8 : decode prog_5_method_13_code 8 = .ok (.lcmp, 1) := by decide +kernel
theorem d5_9 : decode prog_5_method_13_code 9 = .ok (.ifCond .ne 19, 3) := by decide +kernel
theorem d5_12 : decode prog_5_method_13_code 12 = .ok (.aload_n 0, 1) := by decide +kernel
theorem d5_13 : decode prog_5_method_13_code 13 = .ok (.getfield 28, 3) := by decide +kernel
theorem d5_16 : decode prog_5_method_13_code 16 = .ok (.invokevirtual 287, 3) := by decide +kernel
theorem d5_19 : decode prog_5_method_13_code 19 = .ok (.lconst 0, 1) := by decide +kernel
theorem d5_20 : decode prog_5_method_13_code 20 = .ok (.lcmp, 1) := by decide +kernel
theorem d5_21 : decode prog_5_method_13_code 21 = .ok (.ifCond .ne 7, 3) := by decide +kernel
theorem d5_24 : decode prog_5_method_13_code 24 = .ok (.iconst 1, 1) := by decide +kernel
theorem d5_25 : decode prog_5_method_13_code 25 = .ok (.goto 4, 3) := by decide +kernel
theorem d5_29 : decode prog_5_method_13_code 29 = .ok (.ireturn, 1) := by decide +kernel
theorem d5_28 : decode prog_5_method_13_code 28 = .ok (.iconst 0, 1) := by decide +kernel
set_option maxRecDepth 65536 in
set_option maxHeartbeats 40000000 in
theorem rm6 (l : Launch) (Z : State) (a0 : Array Value) (hw : ∀ d ∈ tables_1, d.before a0 Z = true) (ws : List Jvm.Cond) (o0 : Addr) (r : Addr) (w1 : Int64) (w2 : Int64) (h0 : Heap) (n0 : Nat) (Z0 : n0 ≤ h0.size) (F_m_aReadings : Fld Z h0 o0 "com/example/interweave/interweave/cli/BenchRun" "m_aReadings" "Lcom/example/interweave/interweave/cli/BenchRun$Readings;" (.ref r)) (E_r : Exa Z h0 r "com/example/interweave/interweave/cli/BenchRun$Readings") (F_nWrong : Fld Z h0 r "com/example/interweave/interweave/cli/BenchRun$Readings" "nWrong" "J" (.long w1)) (F_nAborts : Fld Z h0 r "com/example/interweave/interweave/cli/BenchRun$Readings" "nAborts" "J" (.long w2)) :
    MetFree l (⟨"com/example/interweave/interweave/cli/BenchRun", "areReadingsRight", "()Z"⟩ : MethodName) (head1 (Jvm.Cond.code (⟨"com/example/interweave/interweave/cli/BenchRun", "areReadingsRight", "()Z"⟩ : MethodName) prog_5_method_13_code 1 (some .boolean) :: ws) ({ frames := 1, cells := 0, slots := 0, locals := 12 } : Room)) (fun a U => a = #[(.ref o0)] ∧ Z.Warmed39 U.vm ∧ U.heap = h0) (fun _ _ _ _ _ => True) (fun _ U o U' => ∃ v L, o = .returned v ∧ Q_rm6 Z o0 r w1 w2 h0 n0 v U'.heap L ∧ FrameEnd U o U' L ({ frames := 1, cells := 0, slots := 0, locals := 12 } : Room).cells ({ frames := 1, cells := 0, slots := 0, locals := 12 } : Room).slots) := by
  refine MetFree.of_bodySF (plainFor_of_name own_pn2) hisR ?_
  intro p e s m args below meth c s₁ Bd hml0 hP hK
  obtain ⟨rfl, hZ, hh⟩ := hP
  have hx := Bd.exec
  have hby := Bd.bytes
  have hml : c.maxLocals = 1 := hml0
  have hown : s.vm.findClass "com/example/interweave/interweave/cli/BenchRun" = some m.cls := findClass_of_methodNamed Bd.named
  have hnm := (name_of_methodNamed Bd.named Bd.method).1
  have X0 : Stand p l e ({ frames := 1, cells := 0, slots := 0, locals := 12 } : Room) s m #[(.ref o0)] below meth c s₁ [] 0 0 := Stand.of_body Bd
  have e0 : s₁.heap = h0 := by rw [← hh, Bd.state]; rfl
  have N0 := Fr.nil n0
  refine (show own_End p e below s (s₁.setTop (entryFrame m #[(.ref o0)] 1)) (Q_rm6 Z o0 r w1 w2 h0 n0) ({ frames := 1, cells := 0, slots := 0, locals := 12 } : Room).cells ({ frames := 1, cells := 0, slots := 0, locals := 12 } : Room).slots from ?_)
  refine own_go (fun t k => castTop (own_ef5_rm6 m o0) k) ?_
  have li0 : (0 : Int32).toInt = 0 := rfl
  have li1 : (1 : Int32).toInt = 1 := rfl
  show own_End p e below s (s₁.setTop (mkF m 0 #[.val (.ref o0)] [])) _ _ _
  refine own_go (fun t k => XS.aloadN X0.here hx rfl (hb hby d5_0) rfl rfl k) ?_
  show own_End p e below s (s₁.setTop (mkF m 1 #[.val (.ref o0)] [(.ref o0)])) _ _ _
  obtain ⟨T1, X1, e1, st1⟩ := getF X0 hx hZ hown (host := "") (Or.inl (hw _ (List.mem_of_getElem? (i := 44) rfl))) Via.refl e0 F_m_aReadings (g := (mkF m 1 #[.val (.ref o0)] [(.ref o0)])) rfl rfl (hb hby d5_1)
  refine own_go st1 ?_
  show own_End p e below s (T1.setTop (mkF m 4 #[.val (.ref o0)] [(.ref r)])) _ _ _
  obtain ⟨cq2, kq2, q2a, q2b, q2c⟩ := isOf hZ e1 E_r
  obtain ⟨_, _, ⟨T2, L2, k2, n2⟩, -, X2, ⟨Lc2, hQ2, l2, y2, z2⟩, st2⟩ := X1.virtualBack hx (y := (⟨"com/example/interweave/interweave/cli/BenchRun$Readings", "nWrong", "()J"⟩ : MethodName)) (z := (⟨"com/example/interweave/interweave/cli/BenchRun$Readings", "nWrong", "()J"⟩ : MethodName)) hown (mvT hZ (hw _ (List.mem_of_getElem? (i := 53) rfl))) (mvT hZ (hw _ (List.mem_of_getElem? (i := 54) rfl))) (notFace_of_selects (args := #[]) (mvT hZ (hw _ (List.mem_of_getElem? (i := 56) rfl)))) (mvT hZ (hw _ (List.mem_of_getElem? (i := 56) rfl))) (mvT hZ (hw _ (List.mem_of_getElem? (i := 55) rfl))) (by decide) (backOf (W := 0) (rm4 l Z a0 hw [] r w1 h0 n0 Z0 F_nWrong) hZ (hw _ (List.mem_of_getElem? (i := 57) rfl)) (hw _ (List.mem_of_getElem? (i := 5) rfl)) (by decide) (by decide)) q2a q2c (g := (mkF m 4 #[.val (.ref o0)] [(.ref r)])) rfl (by rw [hml]; rfl) (Steps.refl _) (argsL := []) (rest := []) (lenOf own_pd1 rfl) rfl (by show 2 * 0 + _ ≤ _; exact Nat.le_of_eq rfl) (hb hby d5_4) (fun _ _ => ⟨rfl, e1, (by decide : 0 + 0 ≤ _), (by decide : 0 + 0 ≤ _)⟩)
  dsimp only [Pt.U, Pt.locs, Pt.cells, Pt.slots] at X2 l2 y2 z2 st2 hQ2
  subst l2 y2 z2
  obtain ⟨rfl, N2q, e2⟩ := hQ2
  have N2 := Fr.app N0 N2q
  refine own_go (fun t k => st2.trans k) ?_
  show own_End p e below s (T2.setTop (mkF m 7 #[.val (.ref o0)] [(.long w1)])) _ _ _
  refine own_go (fun t k => XS.lconst X2.here hx rfl (hb hby d5_7) k) ?_
  show own_End p e below s (T2.setTop (mkF m 8 #[.val (.ref o0)] [(.long (0 : Int64)), (.long w1)])) _ _ _
  refine own_go (fun t k => XS.lcmp X2.here hx rfl (hb hby d5_8) rfl k) ?_
  show own_End p e below s (T2.setTop (mkF m 9 #[.val (.ref o0)] [(.int (lcmpW w1 (0 : Int64)))])) _ _ _
  by_cases c9_3 : w1.toInt = 0
  · skip
    refine own_go (fun t k => XS.ifNo X2.here hx rfl (hb hby d5_9) rfl ((if0 _ _).trans (own_Let (x := w1) (y := (0 : Int64)) (i := w1.toInt) (j := 0) rfl rfl c9_3).2) k) ?_
    show own_End p e below s (T2.setTop (mkF m 12 #[.val (.ref o0)] [])) _ _ _
    refine own_go (fun t k => XS.aloadN X2.here hx rfl (hb hby d5_12) rfl rfl k) ?_
    show own_End p e below s (T2.setTop (mkF m 13 #[.val (.ref o0)] [(.ref o0)])) _ _ _
    obtain ⟨T4, X4, e4, st4⟩ := getF X2 hx hZ hown (host := "") (Or.inl (hw _ (List.mem_of_getElem? (i := 44) rfl))) Via.refl e2 F_m_aReadings (g := (mkF m 13 #[.val (.ref o0)] [(.ref o0)])) rfl rfl (hb hby d5_13)
    refine own_go st4 ?_
    show own_End p e below s (T4.setTop (mkF m 16 #[.val (.ref o0)] [(.ref r)])) _ _ _
    obtain ⟨cq5, kq5, q5a, q5b, q5c⟩ := isOf hZ e4 E_r
    obtain ⟨_, _, ⟨T5, L5, k5, n5⟩, -, X5, ⟨Lc5, hQ5, l5, y5, z5⟩, st5⟩ := X4.virtualBack hx (y := (⟨"com/example/interweave/interweave/cli/BenchRun$Readings", "nAborts", "()J"⟩ : MethodName)) (z := (⟨"com/example/interweave/interweave/cli/BenchRun$Readings", "nAborts", "()J"⟩ : MethodName)) hown (mvT hZ (hw _ (List.mem_of_getElem? (i := 58) rfl))) (mvT hZ (hw _ (List.mem_of_getElem? (i := 59) rfl))) (notFace_of_selects (args := #[]) (mvT hZ (hw _ (List.mem_of_getElem? (i := 61) rfl)))) (mvT hZ (hw _ (List.mem_of_getElem? (i := 61) rfl))) (mvT hZ (hw _ (List.mem_of_getElem? (i := 60) rfl))) (by decide) (backOf (W := 0) (rm5 l Z a0 hw [] r w2 h0 n0 Z0 F_nAborts) hZ (hw _ (List.mem_of_getElem? (i := 62) rfl)) (hw _ (List.mem_of_getElem? (i := 5) rfl)) (by decide) (by decide)) q5a q5c (g := (mkF m 16 #[.val (.ref o0)] [(.ref r)])) rfl (by rw [hml]; rfl) (Steps.refl _) (argsL := []) (rest := []) (lenOf own_pd1 rfl) rfl (by show 2 * 0 + _ ≤ _; exact Nat.le_of_eq rfl) (hb hby d5_16) (fun _ _ => ⟨rfl, e4, (by decide : 0 + 0 ≤ _), (by decide : 0 + 0 ≤ _)⟩)
    dsimp only [Pt.U, Pt.locs, Pt.cells, Pt.slots] at X5 l5 y5 z5 st5 hQ5
    subst l5 y5 z5
    obtain ⟨rfl, N5q, e5⟩ := hQ5
    have N5 := Fr.app N2 N5q
    refine own_go (fun t k => st5.trans k) ?_
    show own_End p e below s (T5.setTop (mkF m 19 #[.val (.ref o0)] [(.long w2)])) _ _ _
    refine own_go (fun t k => XS.lconst X5.here hx rfl (hb hby d5_19) k) ?_
    show own_End p e below s (T5.setTop (mkF m 20 #[.val (.ref o0)] [(.long (0 : Int64)), (.long w2)])) _ _ _
    refine own_go (fun t k => XS.lcmp X5.here hx rfl (hb hby d5_20) rfl k) ?_
    show own_End p e below s (T5.setTop (mkF m 21 #[.val (.ref o0)] [(.int (lcmpW w2 (0 : Int64)))])) _ _ _
    by_cases c21_6 : w2.toInt = 0
    · skip
      refine own_go (fun t k => XS.ifNo X5.here hx rfl (hb hby d5_21) rfl ((if0 _ _).trans (own_Let (x := w2) (y := (0 : Int64)) (i := w2.toInt) (j := 0) rfl rfl c21_6).2) k) ?_
      show own_End p e below s (T5.setTop (mkF m 24 #[.val (.ref o0)] [])) _ _ _
      refine own_go (fun t k => XS.iconst X5.here hx rfl (hb hby d5_24) k) ?_
      show own_End p e below s (T5.setTop (mkF m 25 #[.val (.ref o0)] [(.int (1 : Int32))])) _ _ _
      refine own_go (fun t k => XS.goto X5.here hx rfl (pc0 := 25) (pc' := 29) rfl (hb hby d5_25) (by decide) (by decide) k) ?_
      show own_End p e below s (T5.setTop (mkF m 29 #[.val (.ref o0)] [(.int (1 : Int32))])) _ _ _
      refine own_ret X5 (v := some (.int (1 : Int32))) (fun h => by rw [Bd.returns] at h; cases h) Bd.notSynchronized (fun fs hr => retN X5 hx (t := .boolean) Bd.returns (by simp) (hb hby d5_29) hr) ?_ (by decide) (by decide)
      · rw [e5]; exact ⟨⟨_, rfl, by omega⟩, N5, rfl⟩
    · skip
      refine own_go (fun t k => XS.ifYes X5.here hx rfl (pc0 := 21) (pc' := 28) rfl (hb hby d5_21) rfl ((if0 _ _).trans (own_Lef (x := w2) (y := (0 : Int64)) (i := w2.toInt) (j := 0) rfl rfl c21_6).2) (by decide) (by decide) k) ?_
      show own_End p e below s (T5.setTop (mkF m 28 #[.val (.ref o0)] [])) _ _ _
      refine own_go (fun t k => XS.iconst X5.here hx rfl (hb hby d5_28) k) ?_
      show own_End p e below s (T5.setTop (mkF m 29 #[.val (.ref o0)] [(.int (0 : Int32))])) _ _ _
      refine own_ret X5 (v := some (.int (0 : Int32))) (fun h => by rw [Bd.returns] at h; cases h) Bd.notSynchronized (fun fs hr => retN X5 hx (t := .boolean) Bd.returns (by simp) (hb hby d5_29) hr) ?_ (by decide) (by decide)
      · rw [e5]; exact ⟨⟨_, rfl, by omega⟩, N5, rfl⟩
  · skip
    refine own_go (fun t k => XS.ifYes X2.here hx rfl (pc0 := 9) (pc' := 28) rfl (hb hby d5_9) rfl ((if0 _ _).trans (own_Lef (x := w1) (y := (0 : Int64)) (i := w1.toInt) (j := 0) rfl rfl c9_3).2) (by decide) (by decide) k) ?_
    show own_End p e below s (T2.setTop (mkF m 28 #[.val (.ref o0)] [])) _ _ _
    refine own_go (fun t k => XS.iconst X2.here hx rfl (hb hby d5_28) k) ?_
    show own_End p e below s (T2.setTop (mkF m 29 #[.val (.ref o0)] [(.int (0 : Int32))])) _ _ _
    refine own_ret X2 (v := some (.int (0 : Int32))) (fun h => by rw [Bd.returns] at h; cases h) Bd.notSynchronized (fun fs hr => retN X2 hx (t := .boolean) Bd.returns (by simp) (hb hby d5_29) hr) ?_ (by decide) (by decide)
    · rw [e2]; exact ⟨⟨_, rfl, by omega⟩, N2, rfl⟩
theorem own_pn3 : plainName "com/example/interweave/interweave/cli/BenchRunAreReadingsRightPinLaw" = true := by first | (simp [plainName, overriddenIn]; done) | decide +kernel
theorem own_ef0_rm0 (m : MethodId) (p0 : Int32) (q1 : Int64) (q2 : Int64) (q3 : Int64) (p4 : Int32) : entryFrame m #[(.int p0), (.long q1), (.long q2), (.long q3), (.int p4)] maxLocals = mkF m 0 #[.val (.int p0), .val (.long q1), .second, .val (.long q2), .second, .val (.long q3), .second, .val (.int p4), .unset, .unset, .unset, .unset, .unset, .unset, .unset, .unset, .unset] [] := by first | (simp [entryFrame, mkF, argsToLocals, Value.category, maxLocals]; done) | rfl
def Q_rm0 (Z : State) (p0 : Int32) (q1 : Int64) (q2 : Int64) (q3 : Int64) (p4 : Int32) (aS : Addr) (aI : Addr) (aN : Addr) (h0 : Heap) (n0 : Nat) (v : Option Value) (h : Heap) (L : List Loc) : Prop := v = some (.int 1) ∧ Fr n0 L
theorem own_pd2 : parseMethodDescriptor "(IJJJJ)V" = some ⟨[.int, .long, .long, .long, .long], none⟩ := by decide +kernel
theorem own_pd3 : parseMethodDescriptor "(IJJJJLcom/example/interweave/interweave/cli/BenchRun$Readings;Lcom/example/interweave/interweave/Isolation;)V" = some ⟨[.int, .long, .long, .long, .long, (.object "com/example/interweave/interweave/cli/BenchRun$Readings"), (.object "com/example/interweave/interweave/Isolation")], none⟩ := by decide +kernel
theorem own_pd4 : parseMethodDescriptor "()Z" = some ⟨[], some .boolean⟩ := by decide +kernel
set_option maxRecDepth 65536 in
set_option maxHeartbeats 40000000 in
theorem rm0 (l : Launch) (Z : State) (a0 : Array Value) (hw : ∀ d ∈ tables_1, d.before a0 Z = true) (ws : List Jvm.Cond) (p0 : Int32) (q1 : Int64) (q2 : Int64) (q3 : Int64) (p4 : Int32) (aS : Addr) (aI : Addr) (aN : Addr) (h0 : Heap) (n0 : Nat) (Z0 : n0 ≤ h0.size) (S_SNAPSHOT : Sta Z h0 "com/example/interweave/interweave/Isolation" "SNAPSHOT" "Lcom/example/interweave/interweave/Isolation;" (.ref aS)) (S_SERIALIZABLE : Sta Z h0 "com/example/interweave/interweave/Isolation" "SERIALIZABLE" "Lcom/example/interweave/interweave/Isolation;" (.ref aI)) (S_NONE : Sta Z h0 "com/example/interweave/interweave/cli/BenchRun$Readings" "NONE" "Lcom/example/interweave/interweave/cli/BenchRun$Readings;" (.ref aN)) (E_aN : Exa Z h0 aN "com/example/interweave/interweave/cli/BenchRun$Readings") (FN_nWrong : Fld Z h0 aN "com/example/interweave/interweave/cli/BenchRun$Readings" "nWrong" "J" (.long (0 : Int64))) (FN_nAborts : Fld Z h0 aN "com/example/interweave/interweave/cli/BenchRun$Readings" "nAborts" "J" (.long (0 : Int64))) :
    MetFree l x (head1 (Jvm.Cond.code x code maxLocals ret :: ws) room_1) (fun a U => a = #[(.int p0), (.long q1), (.long q2), (.long q3), (.int p4)] ∧ Z.Warmed39 U.vm ∧ U.heap = h0) (fun _ _ _ _ _ => True) (fun _ U o U' => ∃ v L, o = .returned v ∧ Q_rm0 Z p0 q1 q2 q3 p4 aS aI aN h0 n0 v U'.heap L ∧ FrameEnd U o U' L room_1.cells room_1.slots) := by
  refine MetFree.of_bodySF (plainFor_of_name own_pn3) hisR ?_
  intro p e s m args below meth c s₁ Bd hml0 hP hK
  obtain ⟨rfl, hZ, hh⟩ := hP
  have hx := Bd.exec
  have hby := Bd.bytes
  have hml : c.maxLocals = 17 := hml0
  have hown : s.vm.findClass "com/example/interweave/interweave/cli/BenchRunAreReadingsRightPinLaw" = some m.cls := findClass_of_methodNamed Bd.named
  have hnm := (name_of_methodNamed Bd.named Bd.method).1
  have X0 : Stand p l e room_1 s m #[(.int p0), (.long q1), (.long q2), (.long q3), (.int p4)] below meth c s₁ [] 0 0 := Stand.of_body Bd
  have e0 : s₁.heap = h0 := by rw [← hh, Bd.state]; rfl
  have N0 := Fr.nil n0
  refine (show own_End p e below s (s₁.setTop (entryFrame m #[(.int p0), (.long q1), (.long q2), (.long q3), (.int p4)] maxLocals)) (Q_rm0 Z p0 q1 q2 q3 p4 aS aI aN h0 n0) room_1.cells room_1.slots from ?_)
  refine own_go (fun t k => castTop (own_ef0_rm0 m p0 q1 q2 q3 p4) k) ?_
  have li0 : (0 : Int32).toInt = 0 := rfl
  have li1 : (1 : Int32).toInt = 1 := rfl
  show own_End p e below s (s₁.setTop (mkF m 0 #[.val (.int p0), .val (.long q1), .second, .val (.long q2), .second, .val (.long q3), .second, .val (.int p4), .unset, .unset, .unset, .unset, .unset, .unset, .unset, .unset, .unset] [])) _ _ _
  have z0 : (0 : Int64).toInt = 0 := rfl
  have J26 : ∀ (nW nA : Int64), own_End p e below s (s₁.setTop (mkF m 26 #[.val (.int p0), .val (.long q1), .second, .val (.long q2), .second, .val (.long q3), .second, .val (.int p4), .val (.long nW), .second, .unset, .unset, .unset, .unset, .unset, .unset, .unset] [(.long nA)])) (Q_rm0 Z p0 q1 q2 q3 p4 aS aI aN h0 n0) room_1.cells room_1.slots := by
    intro nW nA
    have ho := own_or0 nW nA
    show own_End p e below s (s₁.setTop (mkF m 26 #[.val (.int p0), .val (.long q1), .second, .val (.long q2), .second, .val (.long q3), .second, .val (.int p4), .val (.long nW), .second, .unset, .unset, .unset, .unset, .unset, .unset, .unset] [(.long nA)])) _ _ _
    refine own_go (fun t k => XS.lstore X0.here hx rfl (hb hby at_26) rfl (l' := #[.val (.int p0), .val (.long q1), .second, .val (.long q2), .second, .val (.long q3), .second, .val (.int p4), .val (.long nW), .second, .val (.long nA), .second, .unset, .unset, .unset, .unset, .unset]) rfl k) ?_
    show own_End p e below s (s₁.setTop (mkF m 28 #[.val (.int p0), .val (.long q1), .second, .val (.long q2), .second, .val (.long q3), .second, .val (.int p4), .val (.long nW), .second, .val (.long nA), .second, .unset, .unset, .unset, .unset, .unset] [])) _ _ _
    refine own_go (fun t k => XS.iload X0.here hx rfl (hb hby at_28) rfl k) ?_
    show own_End p e below s (s₁.setTop (mkF m 30 #[.val (.int p0), .val (.long q1), .second, .val (.long q2), .second, .val (.long q3), .second, .val (.int p4), .val (.long nW), .second, .val (.long nA), .second, .unset, .unset, .unset, .unset, .unset] [(.int p4)])) _ _ _
    refine own_go (fun t k => XS.iconst X0.here hx rfl (hb hby at_30) k) ?_
    show own_End p e below s (s₁.setTop (mkF m 31 #[.val (.int p0), .val (.long q1), .second, .val (.long q2), .second, .val (.long q3), .second, .val (.int p4), .val (.long nW), .second, .val (.long nA), .second, .unset, .unset, .unset, .unset, .unset] [(.int (4 : Int32)), (.int p4)])) _ _ _
    refine own_go (fun t k => XS.iand X0.here hx rfl (hb hby at_31) rfl k) ?_
    show own_End p e below s (s₁.setTop (mkF m 32 #[.val (.int p0), .val (.long q1), .second, .val (.long q2), .second, .val (.long q3), .second, .val (.int p4), .val (.long nW), .second, .val (.long nA), .second, .unset, .unset, .unset, .unset, .unset] [(.int (p4 &&& (4 : Int32)))])) _ _ _
    by_cases c32_1 : (p4 &&& (4 : Int32)).toInt = 0
    · skip
      refine own_go (fun t k => XS.ifYes X0.here hx rfl (pc0 := 32) (pc' := 39) rfl (hb hby at_32) rfl ((if0 _ _).trans (own_eq (x := (p4 &&& (4 : Int32))) (y := (0 : Int32)) (i := (p4 &&& (4 : Int32)).toInt) (j := 0) rfl rfl c32_1).1) (by decide) (by decide) k) ?_
      show own_End p e below s (s₁.setTop (mkF m 39 #[.val (.int p0), .val (.long q1), .second, .val (.long q2), .second, .val (.long q3), .second, .val (.int p4), .val (.long nW), .second, .val (.long nA), .second, .unset, .unset, .unset, .unset, .unset] [])) _ _ _
      refine own_go (fun t k => XS.iconst X0.here hx rfl (hb hby at_39) k) ?_
      show own_End p e below s (s₁.setTop (mkF m 40 #[.val (.int p0), .val (.long q1), .second, .val (.long q2), .second, .val (.long q3), .second, .val (.int p4), .val (.long nW), .second, .val (.long nA), .second, .unset, .unset, .unset, .unset, .unset] [(.int (0 : Int32))])) _ _ _
      refine own_go (fun t k => XS.istore X0.here hx rfl (hb hby at_40) rfl (l' := #[.val (.int p0), .val (.long q1), .second, .val (.long q2), .second, .val (.long q3), .second, .val (.int p4), .val (.long nW), .second, .val (.long nA), .second, .val (.int (0 : Int32)), .unset, .unset, .unset, .unset]) rfl k) ?_
      show own_End p e below s (s₁.setTop (mkF m 42 #[.val (.int p0), .val (.long q1), .second, .val (.long q2), .second, .val (.long q3), .second, .val (.int p4), .val (.long nW), .second, .val (.long nA), .second, .val (.int (0 : Int32)), .unset, .unset, .unset, .unset] [])) _ _ _
      refine own_go (fun t k => XS.iload X0.here hx rfl (hb hby at_42) rfl k) ?_
      show own_End p e below s (s₁.setTop (mkF m 44 #[.val (.int p0), .val (.long q1), .second, .val (.long q2), .second, .val (.long q3), .second, .val (.int p4), .val (.long nW), .second, .val (.long nA), .second, .val (.int (0 : Int32)), .unset, .unset, .unset, .unset] [(.int p4)])) _ _ _
      refine own_go (fun t k => XS.bipush X0.here hx rfl (hb hby at_44) k) ?_
      show own_End p e below s (s₁.setTop (mkF m 46 #[.val (.int p0), .val (.long q1), .second, .val (.long q2), .second, .val (.long q3), .second, .val (.int p4), .val (.long nW), .second, .val (.long nA), .second, .val (.int (0 : Int32)), .unset, .unset, .unset, .unset] [(.int (8 : Int32)), (.int p4)])) _ _ _
      refine own_go (fun t k => XS.iand X0.here hx rfl (hb hby at_46) rfl k) ?_
      show own_End p e below s (s₁.setTop (mkF m 47 #[.val (.int p0), .val (.long q1), .second, .val (.long q2), .second, .val (.long q3), .second, .val (.int p4), .val (.long nW), .second, .val (.long nA), .second, .val (.int (0 : Int32)), .unset, .unset, .unset, .unset] [(.int (p4 &&& (8 : Int32)))])) _ _ _
      by_cases c47_2 : (p4 &&& (8 : Int32)).toInt = 0
      · skip
        refine own_go (fun t k => XS.ifYes X0.here hx rfl (pc0 := 47) (pc' := 56) rfl (hb hby at_47) rfl ((if0 _ _).trans (own_eq (x := (p4 &&& (8 : Int32))) (y := (0 : Int32)) (i := (p4 &&& (8 : Int32)).toInt) (j := 0) rfl rfl c47_2).1) (by decide) (by decide) k) ?_
        show own_End p e below s (s₁.setTop (mkF m 56 #[.val (.int p0), .val (.long q1), .second, .val (.long q2), .second, .val (.long q3), .second, .val (.int p4), .val (.long nW), .second, .val (.long nA), .second, .val (.int (0 : Int32)), .unset, .unset, .unset, .unset] [])) _ _ _
        obtain ⟨T3, X3, e3, st3⟩ := getS2 X0 hx hZ hown (host := "") (Or.inl (hw _ (List.mem_of_getElem? (i := 0) rfl))) Via.refl e0 S_SERIALIZABLE (g := (mkF m 56 #[.val (.int p0), .val (.long q1), .second, .val (.long q2), .second, .val (.long q3), .second, .val (.int p4), .val (.long nW), .second, .val (.long nA), .second, .val (.int (0 : Int32)), .unset, .unset, .unset, .unset] [])) rfl (hb hby at_56)
        refine own_go st3 ?_
        show own_End p e below s (T3.setTop (mkF m 59 #[.val (.int p0), .val (.long q1), .second, .val (.long q2), .second, .val (.long q3), .second, .val (.int p4), .val (.long nW), .second, .val (.long nA), .second, .val (.int (0 : Int32)), .unset, .unset, .unset, .unset] [(.ref aI)])) _ _ _
        refine own_go (fun t k => XS.astore X3.here hx rfl (hb hby at_59) rfl rfl (l' := #[.val (.int p0), .val (.long q1), .second, .val (.long q2), .second, .val (.long q3), .second, .val (.int p4), .val (.long nW), .second, .val (.long nA), .second, .val (.int (0 : Int32)), .val (.ref aI), .unset, .unset, .unset]) rfl k) ?_
        show own_End p e below s (T3.setTop (mkF m 61 #[.val (.int p0), .val (.long q1), .second, .val (.long q2), .second, .val (.long q3), .second, .val (.int p4), .val (.long nW), .second, .val (.long nA), .second, .val (.int (0 : Int32)), .val (.ref aI), .unset, .unset, .unset] [])) _ _ _
        refine own_go (fun t k => XS.iload X3.here hx rfl (hb hby at_61) rfl k) ?_
        show own_End p e below s (T3.setTop (mkF m 63 #[.val (.int p0), .val (.long q1), .second, .val (.long q2), .second, .val (.long q3), .second, .val (.int p4), .val (.long nW), .second, .val (.long nA), .second, .val (.int (0 : Int32)), .val (.ref aI), .unset, .unset, .unset] [(.int (0 : Int32))])) _ _ _
        refine own_go (fun t k => XS.ifYes X3.here hx rfl (pc0 := 63) (pc' := 72) rfl (hb hby at_63) rfl ((if0 _ _).trans (own_eq (x := (0 : Int32)) (y := (0 : Int32)) (i := 0) (j := 0) rfl rfl (by decide)).1) (by decide) (by decide) k) ?_
        show own_End p e below s (T3.setTop (mkF m 72 #[.val (.int p0), .val (.long q1), .second, .val (.long q2), .second, .val (.long q3), .second, .val (.int p4), .val (.long nW), .second, .val (.long nA), .second, .val (.int (0 : Int32)), .val (.ref aI), .unset, .unset, .unset] [])) _ _ _
        obtain ⟨T4, h4, X4, e4, E4, A4, D4, -, st4⟩ := newO X3 hx hZ hown (hw _ (List.mem_of_getElem? (i := 3) rfl)) (hw _ (List.mem_of_getElem? (i := 4) rfl)) (hw _ (List.mem_of_getElem? (i := 5) rfl)) e3 (g := (mkF m 72 #[.val (.int p0), .val (.long q1), .second, .val (.long q2), .second, .val (.long q3), .second, .val (.int p4), .val (.long nW), .second, .val (.long nA), .second, .val (.int (0 : Int32)), .val (.ref aI), .unset, .unset, .unset] [])) rfl (hb hby at_72) (by decide) (by decide)
        obtain ⟨b4, g4⟩ : ∃ z, z = h0.size := ⟨_, rfl⟩
        rw [← g4] at A4 D4 st4
        have g_b4 : n0 ≤ b4 := Nat.le_trans Z0 (Nat.le_of_eq g4.symm)
        have ne_aN_b4 : aN ≠ b4 := Nat.ne_of_lt (Nat.lt_of_lt_of_le E_aN.lt (Nat.le_of_eq g4.symm))
        have Z4 : n0 ≤ h4.size := Nat.le_trans Z0 E4.1
        have F_nReaders_b4 : Fld Z h4 b4 "com/example/interweave/interweave/cli/BenchRun$Readings" "nReaders" "I" (.int (0 : Int32)) := D4 (Or.inr (hw _ (List.mem_of_getElem? (i := 18) rfl))) (ty := .int) (by decide)
        have F_nReads_b4 : Fld Z h4 b4 "com/example/interweave/interweave/cli/BenchRun$Readings" "nReads" "J" (.long (0 : Int64)) := D4 (Or.inr (hw _ (List.mem_of_getElem? (i := 20) rfl))) (ty := .long) (by decide)
        have F_nWrong_b4 : Fld Z h4 b4 "com/example/interweave/interweave/cli/BenchRun$Readings" "nWrong" "J" (.long (0 : Int64)) := D4 (Or.inr (hw _ (List.mem_of_getElem? (i := 22) rfl))) (ty := .long) (by decide)
        have F_nAborts_b4 : Fld Z h4 b4 "com/example/interweave/interweave/cli/BenchRun$Readings" "nAborts" "J" (.long (0 : Int64)) := D4 (Or.inr (hw _ (List.mem_of_getElem? (i := 24) rfl))) (ty := .long) (by decide)
        have F_nVersions_b4 : Fld Z h4 b4 "com/example/interweave/interweave/cli/BenchRun$Readings" "nVersions" "J" (.long (0 : Int64)) := D4 (Or.inr (hw _ (List.mem_of_getElem? (i := 26) rfl))) (ty := .long) (by decide)
        refine own_go st4 ?_
        show own_End p e below s (T4.setTop (mkF m 75 #[.val (.int p0), .val (.long q1), .second, .val (.long q2), .second, .val (.long q3), .second, .val (.int p4), .val (.long nW), .second, .val (.long nA), .second, .val (.int (0 : Int32)), .val (.ref aI), .unset, .unset, .unset] [(.ref b4)])) _ _ _
        refine own_go (fun t k => XS.dup X4.here hx rfl (hb hby at_75) rfl rfl k) ?_
        show own_End p e below s (T4.setTop (mkF m 76 #[.val (.int p0), .val (.long q1), .second, .val (.long q2), .second, .val (.long q3), .second, .val (.int p4), .val (.long nW), .second, .val (.long nA), .second, .val (.int (0 : Int32)), .val (.ref aI), .unset, .unset, .unset] [(.ref b4), (.ref b4)])) _ _ _
        refine own_go (fun t k => XS.iloadN X4.here hx rfl (hb hby at_76) rfl k) ?_
        show own_End p e below s (T4.setTop (mkF m 77 #[.val (.int p0), .val (.long q1), .second, .val (.long q2), .second, .val (.long q3), .second, .val (.int p4), .val (.long nW), .second, .val (.long nA), .second, .val (.int (0 : Int32)), .val (.ref aI), .unset, .unset, .unset] [(.int p0), (.ref b4), (.ref b4)])) _ _ _
        refine own_go (fun t k => XS.lload X4.here hx rfl (hb hby at_77) rfl k) ?_
        show own_End p e below s (T4.setTop (mkF m 79 #[.val (.int p0), .val (.long q1), .second, .val (.long q2), .second, .val (.long q3), .second, .val (.int p4), .val (.long nW), .second, .val (.long nA), .second, .val (.int (0 : Int32)), .val (.ref aI), .unset, .unset, .unset] [(.long q3), (.int p0), (.ref b4), (.ref b4)])) _ _ _
        refine own_go (fun t k => XS.lload X4.here hx rfl (hb hby at_79) rfl k) ?_
        show own_End p e below s (T4.setTop (mkF m 81 #[.val (.int p0), .val (.long q1), .second, .val (.long q2), .second, .val (.long q3), .second, .val (.int p4), .val (.long nW), .second, .val (.long nA), .second, .val (.int (0 : Int32)), .val (.ref aI), .unset, .unset, .unset] [(.long nW), (.long q3), (.int p0), (.ref b4), (.ref b4)])) _ _ _
        refine own_go (fun t k => XS.lload X4.here hx rfl (hb hby at_81) rfl k) ?_
        show own_End p e below s (T4.setTop (mkF m 83 #[.val (.int p0), .val (.long q1), .second, .val (.long q2), .second, .val (.long q3), .second, .val (.int p4), .val (.long nW), .second, .val (.long nA), .second, .val (.int (0 : Int32)), .val (.ref aI), .unset, .unset, .unset] [(.long nA), (.long nW), (.long q3), (.int p0), (.ref b4), (.ref b4)])) _ _ _
        refine own_go (fun t k => XS.lload X4.here hx rfl (hb hby at_83) rfl k) ?_
        show own_End p e below s (T4.setTop (mkF m 85 #[.val (.int p0), .val (.long q1), .second, .val (.long q2), .second, .val (.long q3), .second, .val (.int p4), .val (.long nW), .second, .val (.long nA), .second, .val (.int (0 : Int32)), .val (.ref aI), .unset, .unset, .unset] [(.long q3), (.long nA), (.long nW), (.long q3), (.int p0), (.ref b4), (.ref b4)])) _ _ _
        obtain ⟨_, _, ⟨T5, L5, k5, n5⟩, -, X5, ⟨Lc5, hQ5, l5, y5, z5⟩, st5⟩ := X4.specialBack hx (y := (⟨"com/example/interweave/interweave/cli/BenchRun$Readings", "<init>", "(IJJJJ)V"⟩ : MethodName)) rfl hown (mvT hZ (hw _ (List.mem_of_getElem? (i := 6) rfl))) (mvT hZ (hw _ (List.mem_of_getElem? (i := 7) rfl))) (mvT hZ (hw _ (List.mem_of_getElem? (i := 8) rfl))) (by decide) (backOf (W := 1) (rm2 l Z a0 hw [] b4 p0 q3 nW nA q3 h4 n0 Z4 g_b4 A4 F_nReaders_b4 F_nReads_b4 F_nWrong_b4 F_nAborts_b4 F_nVersions_b4) hZ (hw _ (List.mem_of_getElem? (i := 8) rfl)) (hw _ (List.mem_of_getElem? (i := 5) rfl)) (by decide) (by decide)) (g := (mkF m 85 #[.val (.int p0), .val (.long q1), .second, .val (.long q2), .second, .val (.long q3), .second, .val (.int p4), .val (.long nW), .second, .val (.long nA), .second, .val (.int (0 : Int32)), .val (.ref aI), .unset, .unset, .unset] [(.long q3), (.long nA), (.long nW), (.long q3), (.int p0), (.ref b4), (.ref b4)])) rfl (by rw [hml]; rfl) (Steps.refl _) (a := b4) (argsL := [(.int p0), (.long q3), (.long nW), (.long nA), (.long q3)]) (rest := [(.ref b4)]) (lenOf own_pd2 rfl) rfl (by show 2 * 0 + _ ≤ _; exact Nat.le_of_eq rfl) (hb hby at_85) (fun _ _ => ⟨rfl, e4, (by decide : 1 + 0 ≤ _), (by decide : 5 + 0 ≤ _)⟩)
        dsimp only [Pt.U, Pt.locs, Pt.cells, Pt.slots] at X5 l5 y5 z5 st5 hQ5
        subst l5 y5 z5
        obtain ⟨rfl, N5q, K5, Ex5, Fa5, Fb5⟩ := hQ5
        have N5 := Fr.app N0 N5q
        have Z5 : n0 ≤ T5.heap.size := Nat.le_trans Z4 K5.1
        refine own_go (fun t k => st5.trans k) ?_
        show own_End p e below s (T5.setTop (mkF m 88 #[.val (.int p0), .val (.long q1), .second, .val (.long q2), .second, .val (.long q3), .second, .val (.int p4), .val (.long nW), .second, .val (.long nA), .second, .val (.int (0 : Int32)), .val (.ref aI), .unset, .unset, .unset] [(.ref b4)])) _ _ _
        refine own_go (fun t k => XS.astore X5.here hx rfl (hb hby at_88) rfl rfl (l' := #[.val (.int p0), .val (.long q1), .second, .val (.long q2), .second, .val (.long q3), .second, .val (.int p4), .val (.long nW), .second, .val (.long nA), .second, .val (.int (0 : Int32)), .val (.ref aI), .val (.ref b4), .unset, .unset]) rfl k) ?_
        show own_End p e below s (T5.setTop (mkF m 90 #[.val (.int p0), .val (.long q1), .second, .val (.long q2), .second, .val (.long q3), .second, .val (.int p4), .val (.long nW), .second, .val (.long nA), .second, .val (.int (0 : Int32)), .val (.ref aI), .val (.ref b4), .unset, .unset] [])) _ _ _
        obtain ⟨T6, h6, X6, e6, E6, A6, D6, -, st6⟩ := newO X5 hx hZ hown (hw _ (List.mem_of_getElem? (i := 27) rfl)) (hw _ (List.mem_of_getElem? (i := 28) rfl)) (hw _ (List.mem_of_getElem? (i := 29) rfl)) rfl (g := (mkF m 90 #[.val (.int p0), .val (.long q1), .second, .val (.long q2), .second, .val (.long q3), .second, .val (.int p4), .val (.long nW), .second, .val (.long nA), .second, .val (.int (0 : Int32)), .val (.ref aI), .val (.ref b4), .unset, .unset] [])) rfl (hb hby at_90) (by decide) (by decide)
        obtain ⟨b6, g6⟩ : ∃ z, z = T5.heap.size := ⟨_, rfl⟩
        rw [← g6] at A6 D6 st6
        have g_b6 : n0 ≤ b6 := Nat.le_trans Z5 (Nat.le_of_eq g6.symm)
        have U7 := ((E_aN.ext E4).keep K5)
        have ne_aN_b6 : aN ≠ b6 := Nat.ne_of_lt (Nat.lt_of_lt_of_le U7.lt (Nat.le_of_eq g6.symm))
        have ne_b4_b6 : b4 ≠ b6 := Nat.ne_of_lt (Nat.lt_of_lt_of_le Ex5.lt (Nat.le_of_eq g6.symm))
        have Z6 : n0 ≤ h6.size := Nat.le_trans Z5 E6.1
        have F_m_nThreads_b6 : Fld Z h6 b6 "com/example/interweave/interweave/cli/BenchRun" "m_nThreads" "I" (.int (0 : Int32)) := D6 (Or.inr (hw _ (List.mem_of_getElem? (i := 35) rfl))) (ty := .int) (by decide)
        have F_m_nCommitted_b6 : Fld Z h6 b6 "com/example/interweave/interweave/cli/BenchRun" "m_nCommitted" "J" (.long (0 : Int64)) := D6 (Or.inr (hw _ (List.mem_of_getElem? (i := 37) rfl))) (ty := .long) (by decide)
        have F_m_nAborted_b6 : Fld Z h6 b6 "com/example/interweave/interweave/cli/BenchRun" "m_nAborted" "J" (.long (0 : Int64)) := D6 (Or.inr (hw _ (List.mem_of_getElem? (i := 39) rfl))) (ty := .long) (by decide)
        have F_m_nNanos_b6 : Fld Z h6 b6 "com/example/interweave/interweave/cli/BenchRun" "m_nNanos" "J" (.long (0 : Int64)) := D6 (Or.inr (hw _ (List.mem_of_getElem? (i := 41) rfl))) (ty := .long) (by decide)
        have F_m_nSyncs_b6 : Fld Z h6 b6 "com/example/interweave/interweave/cli/BenchRun" "m_nSyncs" "J" (.long (0 : Int64)) := D6 (Or.inr (hw _ (List.mem_of_getElem? (i := 43) rfl))) (ty := .long) (by decide)
        have F_m_aReadings_b6 : Fld Z h6 b6 "com/example/interweave/interweave/cli/BenchRun" "m_aReadings" "Lcom/example/interweave/interweave/cli/BenchRun$Readings;" .null := D6 (Or.inr (hw _ (List.mem_of_getElem? (i := 45) rfl))) (ty := (.object "com/example/interweave/interweave/cli/BenchRun$Readings")) (by decide)
        have F_m_eIsolation_b6 : Fld Z h6 b6 "com/example/interweave/interweave/cli/BenchRun" "m_eIsolation" "Lcom/example/interweave/interweave/Isolation;" .null := D6 (Or.inr (hw _ (List.mem_of_getElem? (i := 47) rfl))) (ty := (.object "com/example/interweave/interweave/Isolation")) (by decide)
        refine own_go st6 ?_
        show own_End p e below s (T6.setTop (mkF m 93 #[.val (.int p0), .val (.long q1), .second, .val (.long q2), .second, .val (.long q3), .second, .val (.int p4), .val (.long nW), .second, .val (.long nA), .second, .val (.int (0 : Int32)), .val (.ref aI), .val (.ref b4), .unset, .unset] [(.ref b6)])) _ _ _
        refine own_go (fun t k => XS.dup X6.here hx rfl (hb hby at_93) rfl rfl k) ?_
        show own_End p e below s (T6.setTop (mkF m 94 #[.val (.int p0), .val (.long q1), .second, .val (.long q2), .second, .val (.long q3), .second, .val (.int p4), .val (.long nW), .second, .val (.long nA), .second, .val (.int (0 : Int32)), .val (.ref aI), .val (.ref b4), .unset, .unset] [(.ref b6), (.ref b6)])) _ _ _
        refine own_go (fun t k => XS.iloadN X6.here hx rfl (hb hby at_94) rfl k) ?_
        show own_End p e below s (T6.setTop (mkF m 95 #[.val (.int p0), .val (.long q1), .second, .val (.long q2), .second, .val (.long q3), .second, .val (.int p4), .val (.long nW), .second, .val (.long nA), .second, .val (.int (0 : Int32)), .val (.ref aI), .val (.ref b4), .unset, .unset] [(.int p0), (.ref b6), (.ref b6)])) _ _ _
        refine own_go (fun t k => XS.lload X6.here hx rfl (hb hby at_95) rfl k) ?_
        show own_End p e below s (T6.setTop (mkF m 97 #[.val (.int p0), .val (.long q1), .second, .val (.long q2), .second, .val (.long q3), .second, .val (.int p4), .val (.long nW), .second, .val (.long nA), .second, .val (.int (0 : Int32)), .val (.ref aI), .val (.ref b4), .unset, .unset] [(.long q3), (.int p0), (.ref b6), (.ref b6)])) _ _ _
        refine own_go (fun t k => XS.lload X6.here hx rfl (hb hby at_97) rfl k) ?_
        show own_End p e below s (T6.setTop (mkF m 99 #[.val (.int p0), .val (.long q1), .second, .val (.long q2), .second, .val (.long q3), .second, .val (.int p4), .val (.long nW), .second, .val (.long nA), .second, .val (.int (0 : Int32)), .val (.ref aI), .val (.ref b4), .unset, .unset] [(.long nW), (.long q3), (.int p0), (.ref b6), (.ref b6)])) _ _ _
        refine own_go (fun t k => XS.lload X6.here hx rfl (hb hby at_99) rfl k) ?_
        show own_End p e below s (T6.setTop (mkF m 101 #[.val (.int p0), .val (.long q1), .second, .val (.long q2), .second, .val (.long q3), .second, .val (.int p4), .val (.long nW), .second, .val (.long nA), .second, .val (.int (0 : Int32)), .val (.ref aI), .val (.ref b4), .unset, .unset] [(.long q3), (.long nW), (.long q3), (.int p0), (.ref b6), (.ref b6)])) _ _ _
        refine own_go (fun t k => XS.lload X6.here hx rfl (hb hby at_101) rfl k) ?_
        show own_End p e below s (T6.setTop (mkF m 103 #[.val (.int p0), .val (.long q1), .second, .val (.long q2), .second, .val (.long q3), .second, .val (.int p4), .val (.long nW), .second, .val (.long nA), .second, .val (.int (0 : Int32)), .val (.ref aI), .val (.ref b4), .unset, .unset] [(.long nA), (.long q3), (.long nW), (.long q3), (.int p0), (.ref b6), (.ref b6)])) _ _ _
        refine own_go (fun t k => XS.aload X6.here hx rfl (hb hby at_103) rfl rfl k) ?_
        show own_End p e below s (T6.setTop (mkF m 105 #[.val (.int p0), .val (.long q1), .second, .val (.long q2), .second, .val (.long q3), .second, .val (.int p4), .val (.long nW), .second, .val (.long nA), .second, .val (.int (0 : Int32)), .val (.ref aI), .val (.ref b4), .unset, .unset] [(.ref b4), (.long nA), (.long q3), (.long nW), (.long q3), (.int p0), (.ref b6), (.ref b6)])) _ _ _
        refine own_go (fun t k => XS.aload X6.here hx rfl (hb hby at_105) rfl rfl k) ?_
        show own_End p e below s (T6.setTop (mkF m 107 #[.val (.int p0), .val (.long q1), .second, .val (.long q2), .second, .val (.long q3), .second, .val (.int p4), .val (.long nW), .second, .val (.long nA), .second, .val (.int (0 : Int32)), .val (.ref aI), .val (.ref b4), .unset, .unset] [(.ref aI), (.ref b4), (.long nA), (.long q3), (.long nW), (.long q3), (.int p0), (.ref b6), (.ref b6)])) _ _ _
        obtain ⟨_, _, ⟨T8, L8, k8, n8⟩, -, X8, ⟨Lc8, hQ8, l8, y8, z8⟩, st8⟩ := X6.specialBack hx (y := (⟨"com/example/interweave/interweave/cli/BenchRun", "<init>", "(IJJJJLcom/example/interweave/interweave/cli/BenchRun$Readings;Lcom/example/interweave/interweave/Isolation;)V"⟩ : MethodName)) rfl hown (mvT hZ (hw _ (List.mem_of_getElem? (i := 30) rfl))) (mvT hZ (hw _ (List.mem_of_getElem? (i := 31) rfl))) (mvT hZ (hw _ (List.mem_of_getElem? (i := 32) rfl))) (by decide) (backOf (W := 1) (rm3 l Z a0 hw [] b6 p0 q3 nW q3 nA b4 aI h6 n0 Z6 g_b6 A6 F_m_nThreads_b6 F_m_nCommitted_b6 F_m_nAborted_b6 F_m_nNanos_b6 F_m_nSyncs_b6 F_m_aReadings_b6 F_m_eIsolation_b6) hZ (hw _ (List.mem_of_getElem? (i := 32) rfl)) (hw _ (List.mem_of_getElem? (i := 29) rfl)) (by decide) (by decide)) (g := (mkF m 107 #[.val (.int p0), .val (.long q1), .second, .val (.long q2), .second, .val (.long q3), .second, .val (.int p4), .val (.long nW), .second, .val (.long nA), .second, .val (.int (0 : Int32)), .val (.ref aI), .val (.ref b4), .unset, .unset] [(.ref aI), (.ref b4), (.long nA), (.long q3), (.long nW), (.long q3), (.int p0), (.ref b6), (.ref b6)])) rfl (by rw [hml]; rfl) (Steps.refl _) (a := b6) (argsL := [(.int p0), (.long q3), (.long nW), (.long q3), (.long nA), (.ref b4), (.ref aI)]) (rest := [(.ref b6)]) (lenOf own_pd3 rfl) rfl (by show 2 * 0 + _ ≤ _; exact Nat.le_of_eq rfl) (hb hby at_107) (fun _ _ => ⟨rfl, e6, (by decide : 2 + 0 ≤ _), (by decide : 12 + 0 ≤ _)⟩)
        dsimp only [Pt.U, Pt.locs, Pt.cells, Pt.slots] at X8 l8 y8 z8 st8 hQ8
        subst l8 y8 z8
        obtain ⟨rfl, N8q, K8, Ex8, Fa8⟩ := hQ8
        have N8 := Fr.app N5 N8q
        have Z8 : n0 ≤ T8.heap.size := Nat.le_trans Z6 K8.1
        refine own_go (fun t k => st8.trans k) ?_
        show own_End p e below s (T8.setTop (mkF m 110 #[.val (.int p0), .val (.long q1), .second, .val (.long q2), .second, .val (.long q3), .second, .val (.int p4), .val (.long nW), .second, .val (.long nA), .second, .val (.int (0 : Int32)), .val (.ref aI), .val (.ref b4), .unset, .unset] [(.ref b6)])) _ _ _
        refine own_go (fun t k => XS.astore X8.here hx rfl (hb hby at_110) rfl rfl (l' := #[.val (.int p0), .val (.long q1), .second, .val (.long q2), .second, .val (.long q3), .second, .val (.int p4), .val (.long nW), .second, .val (.long nA), .second, .val (.int (0 : Int32)), .val (.ref aI), .val (.ref b4), .val (.ref b6), .unset]) rfl k) ?_
        show own_End p e below s (T8.setTop (mkF m 112 #[.val (.int p0), .val (.long q1), .second, .val (.long q2), .second, .val (.long q3), .second, .val (.int p4), .val (.long nW), .second, .val (.long nA), .second, .val (.int (0 : Int32)), .val (.ref aI), .val (.ref b4), .val (.ref b6), .unset] [])) _ _ _
        refine own_go (fun t k => XS.iload X8.here hx rfl (hb hby at_112) rfl k) ?_
        show own_End p e below s (T8.setTop (mkF m 114 #[.val (.int p0), .val (.long q1), .second, .val (.long q2), .second, .val (.long q3), .second, .val (.int p4), .val (.long nW), .second, .val (.long nA), .second, .val (.int (0 : Int32)), .val (.ref aI), .val (.ref b4), .val (.ref b6), .unset] [(.int (0 : Int32))])) _ _ _
        refine own_go (fun t k => XS.ifNo X8.here hx rfl (hb hby at_114) rfl ((if0 _ _).trans (own_eq (x := (0 : Int32)) (y := (0 : Int32)) (i := 0) (j := 0) rfl rfl (by decide)).2) k) ?_
        show own_End p e below s (T8.setTop (mkF m 117 #[.val (.int p0), .val (.long q1), .second, .val (.long q2), .second, .val (.long q3), .second, .val (.int p4), .val (.long nW), .second, .val (.long nA), .second, .val (.int (0 : Int32)), .val (.ref aI), .val (.ref b4), .val (.ref b6), .unset] [])) _ _ _
        refine own_go (fun t k => XS.lload X8.here hx rfl (hb hby at_117) rfl k) ?_
        show own_End p e below s (T8.setTop (mkF m 119 #[.val (.int p0), .val (.long q1), .second, .val (.long q2), .second, .val (.long q3), .second, .val (.int p4), .val (.long nW), .second, .val (.long nA), .second, .val (.int (0 : Int32)), .val (.ref aI), .val (.ref b4), .val (.ref b6), .unset] [(.long nW)])) _ _ _
        refine own_go (fun t k => XS.lload X8.here hx rfl (hb hby at_119) rfl k) ?_
        show own_End p e below s (T8.setTop (mkF m 121 #[.val (.int p0), .val (.long q1), .second, .val (.long q2), .second, .val (.long q3), .second, .val (.int p4), .val (.long nW), .second, .val (.long nA), .second, .val (.int (0 : Int32)), .val (.ref aI), .val (.ref b4), .val (.ref b6), .unset] [(.long nA), (.long nW)])) _ _ _
        refine own_go (fun t k => XS.lor X8.here hx rfl (hb hby at_121) rfl k) ?_
        show own_End p e below s (T8.setTop (mkF m 122 #[.val (.int p0), .val (.long q1), .second, .val (.long q2), .second, .val (.long q3), .second, .val (.int p4), .val (.long nW), .second, .val (.long nA), .second, .val (.int (0 : Int32)), .val (.ref aI), .val (.ref b4), .val (.ref b6), .unset] [(.long (nW ||| nA))])) _ _ _
        refine own_go (fun t k => XS.lconst X8.here hx rfl (hb hby at_122) k) ?_
        show own_End p e below s (T8.setTop (mkF m 123 #[.val (.int p0), .val (.long q1), .second, .val (.long q2), .second, .val (.long q3), .second, .val (.int p4), .val (.long nW), .second, .val (.long nA), .second, .val (.int (0 : Int32)), .val (.ref aI), .val (.ref b4), .val (.ref b6), .unset] [(.long (0 : Int64)), (.long (nW ||| nA))])) _ _ _
        refine own_go (fun t k => XS.lcmp X8.here hx rfl (hb hby at_123) rfl k) ?_
        show own_End p e below s (T8.setTop (mkF m 124 #[.val (.int p0), .val (.long q1), .second, .val (.long q2), .second, .val (.long q3), .second, .val (.int p4), .val (.long nW), .second, .val (.long nA), .second, .val (.int (0 : Int32)), .val (.ref aI), .val (.ref b4), .val (.ref b6), .unset] [(.int (lcmpW (nW ||| nA) (0 : Int64)))])) _ _ _
        by_cases c124_9 : (nW ||| nA).toInt = 0
        · skip
          refine own_go (fun t k => XS.ifNo X8.here hx rfl (hb hby at_124) rfl ((if0 _ _).trans (own_Let (x := (nW ||| nA)) (y := (0 : Int64)) (i := (nW ||| nA).toInt) (j := 0) rfl rfl c124_9).2) k) ?_
          show own_End p e below s (T8.setTop (mkF m 127 #[.val (.int p0), .val (.long q1), .second, .val (.long q2), .second, .val (.long q3), .second, .val (.int p4), .val (.long nW), .second, .val (.long nA), .second, .val (.int (0 : Int32)), .val (.ref aI), .val (.ref b4), .val (.ref b6), .unset] [])) _ _ _
          refine own_go (fun t k => XS.iconst X8.here hx rfl (hb hby at_127) k) ?_
          show own_End p e below s (T8.setTop (mkF m 128 #[.val (.int p0), .val (.long q1), .second, .val (.long q2), .second, .val (.long q3), .second, .val (.int p4), .val (.long nW), .second, .val (.long nA), .second, .val (.int (0 : Int32)), .val (.ref aI), .val (.ref b4), .val (.ref b6), .unset] [(.int (1 : Int32))])) _ _ _
          refine own_go (fun t k => XS.goto X8.here hx rfl (pc0 := 128) (pc' := 132) rfl (hb hby at_128) (by decide) (by decide) k) ?_
          show own_End p e below s (T8.setTop (mkF m 132 #[.val (.int p0), .val (.long q1), .second, .val (.long q2), .second, .val (.long q3), .second, .val (.int p4), .val (.long nW), .second, .val (.long nA), .second, .val (.int (0 : Int32)), .val (.ref aI), .val (.ref b4), .val (.ref b6), .unset] [(.int (1 : Int32))])) _ _ _
          refine own_go (fun t k => XS.istore X8.here hx rfl (hb hby at_132) rfl (l' := #[.val (.int p0), .val (.long q1), .second, .val (.long q2), .second, .val (.long q3), .second, .val (.int p4), .val (.long nW), .second, .val (.long nA), .second, .val (.int (0 : Int32)), .val (.ref aI), .val (.ref b4), .val (.ref b6), .val (.int (1 : Int32))]) rfl k) ?_
          show own_End p e below s (T8.setTop (mkF m 134 #[.val (.int p0), .val (.long q1), .second, .val (.long q2), .second, .val (.long q3), .second, .val (.int p4), .val (.long nW), .second, .val (.long nA), .second, .val (.int (0 : Int32)), .val (.ref aI), .val (.ref b4), .val (.ref b6), .val (.int (1 : Int32))] [])) _ _ _
          refine own_go (fun t k => XS.aload X8.here hx rfl (hb hby at_134) rfl rfl k) ?_
          show own_End p e below s (T8.setTop (mkF m 136 #[.val (.int p0), .val (.long q1), .second, .val (.long q2), .second, .val (.long q3), .second, .val (.int p4), .val (.long nW), .second, .val (.long nA), .second, .val (.int (0 : Int32)), .val (.ref aI), .val (.ref b4), .val (.ref b6), .val (.int (1 : Int32))] [(.ref b6)])) _ _ _
          have U10 := ((Ex5.ext E6).keep K8)
          have U11 := ((Fa5.ext E6).keep K8 (ninS ne_b4_b6 nin0))
          have U12 := ((Fb5.ext E6).keep K8 (ninS ne_b4_b6 nin0))
          obtain ⟨cq13, kq13, q13a, q13b, q13c⟩ := isOf hZ rfl Ex8
          obtain ⟨_, _, ⟨T13, L13, k13, n13⟩, -, X13, ⟨Lc13, hQ13, l13, y13, z13⟩, st13⟩ := X8.virtualBack hx (y := (⟨"com/example/interweave/interweave/cli/BenchRun", "areReadingsRight", "()Z"⟩ : MethodName)) (z := (⟨"com/example/interweave/interweave/cli/BenchRun", "areReadingsRight", "()Z"⟩ : MethodName)) hown (mvT hZ (hw _ (List.mem_of_getElem? (i := 48) rfl))) (mvT hZ (hw _ (List.mem_of_getElem? (i := 49) rfl))) (notFace_of_selects (args := #[]) (mvT hZ (hw _ (List.mem_of_getElem? (i := 51) rfl)))) (mvT hZ (hw _ (List.mem_of_getElem? (i := 51) rfl))) (mvT hZ (hw _ (List.mem_of_getElem? (i := 50) rfl))) (by decide) (backOf (W := 0) (rm6 l Z a0 hw [] b6 b4 nW nA T8.heap n0 Z8 Fa8 U10 U11 U12) hZ (hw _ (List.mem_of_getElem? (i := 52) rfl)) (hw _ (List.mem_of_getElem? (i := 29) rfl)) (by decide) (by decide)) q13a q13c (g := (mkF m 136 #[.val (.int p0), .val (.long q1), .second, .val (.long q2), .second, .val (.long q3), .second, .val (.int p4), .val (.long nW), .second, .val (.long nA), .second, .val (.int (0 : Int32)), .val (.ref aI), .val (.ref b4), .val (.ref b6), .val (.int (1 : Int32))] [(.ref b6)])) rfl (by rw [hml]; rfl) (Steps.refl _) (argsL := []) (rest := []) (lenOf own_pd4 rfl) rfl (by show 2 * 0 + _ ≤ _; exact Nat.le_of_eq rfl) (hb hby at_136) (fun _ _ => ⟨rfl, rfl, (by decide : 2 + 0 ≤ _), (by decide : 12 + 0 ≤ _)⟩)
          dsimp only [Pt.U, Pt.locs, Pt.cells, Pt.slots] at X13 l13 y13 z13 st13 hQ13
          subst l13 y13 z13
          obtain ⟨⟨r13, rfl, hr13⟩, N13q, e13⟩ := hQ13
          have N13 := Fr.app N8 N13q
          refine own_go (fun t k => st13.trans k) ?_
          show own_End p e below s (T13.setTop (mkF m 139 #[.val (.int p0), .val (.long q1), .second, .val (.long q2), .second, .val (.long q3), .second, .val (.int p4), .val (.long nW), .second, .val (.long nA), .second, .val (.int (0 : Int32)), .val (.ref aI), .val (.ref b4), .val (.ref b6), .val (.int (1 : Int32))] [(.int r13)])) _ _ _
          refine own_go (fun t k => XS.iload X13.here hx rfl (hb hby at_139) rfl k) ?_
          show own_End p e below s (T13.setTop (mkF m 141 #[.val (.int p0), .val (.long q1), .second, .val (.long q2), .second, .val (.long q3), .second, .val (.int p4), .val (.long nW), .second, .val (.long nA), .second, .val (.int (0 : Int32)), .val (.ref aI), .val (.ref b4), .val (.ref b6), .val (.int (1 : Int32))] [(.int (1 : Int32)), (.int r13)])) _ _ _
          refine own_go (fun t k => XS.icmpNo X13.here hx rfl (hb hby at_141) rfl (own_eq (x := r13) (y := (1 : Int32)) (i := r13.toInt) (j := 1) rfl rfl (by omega)).2 k) ?_
          show own_End p e below s (T13.setTop (mkF m 144 #[.val (.int p0), .val (.long q1), .second, .val (.long q2), .second, .val (.long q3), .second, .val (.int p4), .val (.long nW), .second, .val (.long nA), .second, .val (.int (0 : Int32)), .val (.ref aI), .val (.ref b4), .val (.ref b6), .val (.int (1 : Int32))] [])) _ _ _
          refine own_go (fun t k => XS.iconst X13.here hx rfl (hb hby at_144) k) ?_
          show own_End p e below s (T13.setTop (mkF m 145 #[.val (.int p0), .val (.long q1), .second, .val (.long q2), .second, .val (.long q3), .second, .val (.int p4), .val (.long nW), .second, .val (.long nA), .second, .val (.int (0 : Int32)), .val (.ref aI), .val (.ref b4), .val (.ref b6), .val (.int (1 : Int32))] [(.int (1 : Int32))])) _ _ _
          refine own_go (fun t k => XS.goto X13.here hx rfl (pc0 := 145) (pc' := 149) rfl (hb hby at_145) (by decide) (by decide) k) ?_
          show own_End p e below s (T13.setTop (mkF m 149 #[.val (.int p0), .val (.long q1), .second, .val (.long q2), .second, .val (.long q3), .second, .val (.int p4), .val (.long nW), .second, .val (.long nA), .second, .val (.int (0 : Int32)), .val (.ref aI), .val (.ref b4), .val (.ref b6), .val (.int (1 : Int32))] [(.int (1 : Int32))])) _ _ _
          refine own_ret X13 (v := some (.int (1 : Int32))) (fun h => by rw [Bd.returns] at h; cases h) Bd.notSynchronized (fun fs hr => retN X13 hx (t := .boolean) Bd.returns (by simp) (hb hby at_149) hr) ?_ (by decide) (by decide)
          · exact ⟨rfl, N13⟩
        · skip
          refine own_go (fun t k => XS.ifYes X8.here hx rfl (pc0 := 124) (pc' := 131) rfl (hb hby at_124) rfl ((if0 _ _).trans (own_Lef (x := (nW ||| nA)) (y := (0 : Int64)) (i := (nW ||| nA).toInt) (j := 0) rfl rfl c124_9).2) (by decide) (by decide) k) ?_
          show own_End p e below s (T8.setTop (mkF m 131 #[.val (.int p0), .val (.long q1), .second, .val (.long q2), .second, .val (.long q3), .second, .val (.int p4), .val (.long nW), .second, .val (.long nA), .second, .val (.int (0 : Int32)), .val (.ref aI), .val (.ref b4), .val (.ref b6), .unset] [])) _ _ _
          refine own_go (fun t k => XS.iconst X8.here hx rfl (hb hby at_131) k) ?_
          show own_End p e below s (T8.setTop (mkF m 132 #[.val (.int p0), .val (.long q1), .second, .val (.long q2), .second, .val (.long q3), .second, .val (.int p4), .val (.long nW), .second, .val (.long nA), .second, .val (.int (0 : Int32)), .val (.ref aI), .val (.ref b4), .val (.ref b6), .unset] [(.int (0 : Int32))])) _ _ _
          refine own_go (fun t k => XS.istore X8.here hx rfl (hb hby at_132) rfl (l' := #[.val (.int p0), .val (.long q1), .second, .val (.long q2), .second, .val (.long q3), .second, .val (.int p4), .val (.long nW), .second, .val (.long nA), .second, .val (.int (0 : Int32)), .val (.ref aI), .val (.ref b4), .val (.ref b6), .val (.int (0 : Int32))]) rfl k) ?_
          show own_End p e below s (T8.setTop (mkF m 134 #[.val (.int p0), .val (.long q1), .second, .val (.long q2), .second, .val (.long q3), .second, .val (.int p4), .val (.long nW), .second, .val (.long nA), .second, .val (.int (0 : Int32)), .val (.ref aI), .val (.ref b4), .val (.ref b6), .val (.int (0 : Int32))] [])) _ _ _
          refine own_go (fun t k => XS.aload X8.here hx rfl (hb hby at_134) rfl rfl k) ?_
          show own_End p e below s (T8.setTop (mkF m 136 #[.val (.int p0), .val (.long q1), .second, .val (.long q2), .second, .val (.long q3), .second, .val (.int p4), .val (.long nW), .second, .val (.long nA), .second, .val (.int (0 : Int32)), .val (.ref aI), .val (.ref b4), .val (.ref b6), .val (.int (0 : Int32))] [(.ref b6)])) _ _ _
          have U14 := ((Ex5.ext E6).keep K8)
          have U15 := ((Fa5.ext E6).keep K8 (ninS ne_b4_b6 nin0))
          have U16 := ((Fb5.ext E6).keep K8 (ninS ne_b4_b6 nin0))
          obtain ⟨cq17, kq17, q17a, q17b, q17c⟩ := isOf hZ rfl Ex8
          obtain ⟨_, _, ⟨T17, L17, k17, n17⟩, -, X17, ⟨Lc17, hQ17, l17, y17, z17⟩, st17⟩ := X8.virtualBack hx (y := (⟨"com/example/interweave/interweave/cli/BenchRun", "areReadingsRight", "()Z"⟩ : MethodName)) (z := (⟨"com/example/interweave/interweave/cli/BenchRun", "areReadingsRight", "()Z"⟩ : MethodName)) hown (mvT hZ (hw _ (List.mem_of_getElem? (i := 48) rfl))) (mvT hZ (hw _ (List.mem_of_getElem? (i := 49) rfl))) (notFace_of_selects (args := #[]) (mvT hZ (hw _ (List.mem_of_getElem? (i := 51) rfl)))) (mvT hZ (hw _ (List.mem_of_getElem? (i := 51) rfl))) (mvT hZ (hw _ (List.mem_of_getElem? (i := 50) rfl))) (by decide) (backOf (W := 0) (rm6 l Z a0 hw [] b6 b4 nW nA T8.heap n0 Z8 Fa8 U14 U15 U16) hZ (hw _ (List.mem_of_getElem? (i := 52) rfl)) (hw _ (List.mem_of_getElem? (i := 29) rfl)) (by decide) (by decide)) q17a q17c (g := (mkF m 136 #[.val (.int p0), .val (.long q1), .second, .val (.long q2), .second, .val (.long q3), .second, .val (.int p4), .val (.long nW), .second, .val (.long nA), .second, .val (.int (0 : Int32)), .val (.ref aI), .val (.ref b4), .val (.ref b6), .val (.int (0 : Int32))] [(.ref b6)])) rfl (by rw [hml]; rfl) (Steps.refl _) (argsL := []) (rest := []) (lenOf own_pd4 rfl) rfl (by show 2 * 0 + _ ≤ _; exact Nat.le_of_eq rfl) (hb hby at_136) (fun _ _ => ⟨rfl, rfl, (by decide : 2 + 0 ≤ _), (by decide : 12 + 0 ≤ _)⟩)
          dsimp only [Pt.U, Pt.locs, Pt.cells, Pt.slots] at X17 l17 y17 z17 st17 hQ17
          subst l17 y17 z17
          obtain ⟨⟨r17, rfl, hr17⟩, N17q, e17⟩ := hQ17
          have N17 := Fr.app N8 N17q
          refine own_go (fun t k => st17.trans k) ?_
          show own_End p e below s (T17.setTop (mkF m 139 #[.val (.int p0), .val (.long q1), .second, .val (.long q2), .second, .val (.long q3), .second, .val (.int p4), .val (.long nW), .second, .val (.long nA), .second, .val (.int (0 : Int32)), .val (.ref aI), .val (.ref b4), .val (.ref b6), .val (.int (0 : Int32))] [(.int r17)])) _ _ _
          refine own_go (fun t k => XS.iload X17.here hx rfl (hb hby at_139) rfl k) ?_
          show own_End p e below s (T17.setTop (mkF m 141 #[.val (.int p0), .val (.long q1), .second, .val (.long q2), .second, .val (.long q3), .second, .val (.int p4), .val (.long nW), .second, .val (.long nA), .second, .val (.int (0 : Int32)), .val (.ref aI), .val (.ref b4), .val (.ref b6), .val (.int (0 : Int32))] [(.int (0 : Int32)), (.int r17)])) _ _ _
          refine own_go (fun t k => XS.icmpNo X17.here hx rfl (hb hby at_141) rfl (own_eq (x := r17) (y := (0 : Int32)) (i := r17.toInt) (j := 0) rfl rfl (by omega)).2 k) ?_
          show own_End p e below s (T17.setTop (mkF m 144 #[.val (.int p0), .val (.long q1), .second, .val (.long q2), .second, .val (.long q3), .second, .val (.int p4), .val (.long nW), .second, .val (.long nA), .second, .val (.int (0 : Int32)), .val (.ref aI), .val (.ref b4), .val (.ref b6), .val (.int (0 : Int32))] [])) _ _ _
          refine own_go (fun t k => XS.iconst X17.here hx rfl (hb hby at_144) k) ?_
          show own_End p e below s (T17.setTop (mkF m 145 #[.val (.int p0), .val (.long q1), .second, .val (.long q2), .second, .val (.long q3), .second, .val (.int p4), .val (.long nW), .second, .val (.long nA), .second, .val (.int (0 : Int32)), .val (.ref aI), .val (.ref b4), .val (.ref b6), .val (.int (0 : Int32))] [(.int (1 : Int32))])) _ _ _
          refine own_go (fun t k => XS.goto X17.here hx rfl (pc0 := 145) (pc' := 149) rfl (hb hby at_145) (by decide) (by decide) k) ?_
          show own_End p e below s (T17.setTop (mkF m 149 #[.val (.int p0), .val (.long q1), .second, .val (.long q2), .second, .val (.long q3), .second, .val (.int p4), .val (.long nW), .second, .val (.long nA), .second, .val (.int (0 : Int32)), .val (.ref aI), .val (.ref b4), .val (.ref b6), .val (.int (0 : Int32))] [(.int (1 : Int32))])) _ _ _
          refine own_ret X17 (v := some (.int (1 : Int32))) (fun h => by rw [Bd.returns] at h; cases h) Bd.notSynchronized (fun fs hr => retN X17 hx (t := .boolean) Bd.returns (by simp) (hb hby at_149) hr) ?_ (by decide) (by decide)
          · exact ⟨rfl, N17⟩
      · skip
        refine own_go (fun t k => XS.ifNo X0.here hx rfl (hb hby at_47) rfl ((if0 _ _).trans (own_ne (x := (p4 &&& (8 : Int32))) (y := (0 : Int32)) (i := (p4 &&& (8 : Int32)).toInt) (j := 0) rfl rfl c47_2).1) k) ?_
        show own_End p e below s (s₁.setTop (mkF m 50 #[.val (.int p0), .val (.long q1), .second, .val (.long q2), .second, .val (.long q3), .second, .val (.int p4), .val (.long nW), .second, .val (.long nA), .second, .val (.int (0 : Int32)), .unset, .unset, .unset, .unset] [])) _ _ _
        obtain ⟨T18, X18, e18, st18⟩ := getS2 X0 hx hZ hown (host := "") (Or.inl (hw _ (List.mem_of_getElem? (i := 63) rfl))) Via.refl e0 S_SNAPSHOT (g := (mkF m 50 #[.val (.int p0), .val (.long q1), .second, .val (.long q2), .second, .val (.long q3), .second, .val (.int p4), .val (.long nW), .second, .val (.long nA), .second, .val (.int (0 : Int32)), .unset, .unset, .unset, .unset] [])) rfl (hb hby at_50)
        refine own_go st18 ?_
        show own_End p e below s (T18.setTop (mkF m 53 #[.val (.int p0), .val (.long q1), .second, .val (.long q2), .second, .val (.long q3), .second, .val (.int p4), .val (.long nW), .second, .val (.long nA), .second, .val (.int (0 : Int32)), .unset, .unset, .unset, .unset] [(.ref aS)])) _ _ _
        refine own_go (fun t k => XS.goto X18.here hx rfl (pc0 := 53) (pc' := 59) rfl (hb hby at_53) (by decide) (by decide) k) ?_
        show own_End p e below s (T18.setTop (mkF m 59 #[.val (.int p0), .val (.long q1), .second, .val (.long q2), .second, .val (.long q3), .second, .val (.int p4), .val (.long nW), .second, .val (.long nA), .second, .val (.int (0 : Int32)), .unset, .unset, .unset, .unset] [(.ref aS)])) _ _ _
        refine own_go (fun t k => XS.astore X18.here hx rfl (hb hby at_59) rfl rfl (l' := #[.val (.int p0), .val (.long q1), .second, .val (.long q2), .second, .val (.long q3), .second, .val (.int p4), .val (.long nW), .second, .val (.long nA), .second, .val (.int (0 : Int32)), .val (.ref aS), .unset, .unset, .unset]) rfl k) ?_
        show own_End p e below s (T18.setTop (mkF m 61 #[.val (.int p0), .val (.long q1), .second, .val (.long q2), .second, .val (.long q3), .second, .val (.int p4), .val (.long nW), .second, .val (.long nA), .second, .val (.int (0 : Int32)), .val (.ref aS), .unset, .unset, .unset] [])) _ _ _
        refine own_go (fun t k => XS.iload X18.here hx rfl (hb hby at_61) rfl k) ?_
        show own_End p e below s (T18.setTop (mkF m 63 #[.val (.int p0), .val (.long q1), .second, .val (.long q2), .second, .val (.long q3), .second, .val (.int p4), .val (.long nW), .second, .val (.long nA), .second, .val (.int (0 : Int32)), .val (.ref aS), .unset, .unset, .unset] [(.int (0 : Int32))])) _ _ _
        refine own_go (fun t k => XS.ifYes X18.here hx rfl (pc0 := 63) (pc' := 72) rfl (hb hby at_63) rfl ((if0 _ _).trans (own_eq (x := (0 : Int32)) (y := (0 : Int32)) (i := 0) (j := 0) rfl rfl (by decide)).1) (by decide) (by decide) k) ?_
        show own_End p e below s (T18.setTop (mkF m 72 #[.val (.int p0), .val (.long q1), .second, .val (.long q2), .second, .val (.long q3), .second, .val (.int p4), .val (.long nW), .second, .val (.long nA), .second, .val (.int (0 : Int32)), .val (.ref aS), .unset, .unset, .unset] [])) _ _ _
        obtain ⟨T19, h19, X19, e19, E19, A19, D19, -, st19⟩ := newO X18 hx hZ hown (hw _ (List.mem_of_getElem? (i := 3) rfl)) (hw _ (List.mem_of_getElem? (i := 4) rfl)) (hw _ (List.mem_of_getElem? (i := 5) rfl)) e18 (g := (mkF m 72 #[.val (.int p0), .val (.long q1), .second, .val (.long q2), .second, .val (.long q3), .second, .val (.int p4), .val (.long nW), .second, .val (.long nA), .second, .val (.int (0 : Int32)), .val (.ref aS), .unset, .unset, .unset] [])) rfl (hb hby at_72) (by decide) (by decide)
        obtain ⟨b19, g19⟩ : ∃ z, z = h0.size := ⟨_, rfl⟩
        rw [← g19] at A19 D19 st19
        have g_b19 : n0 ≤ b19 := Nat.le_trans Z0 (Nat.le_of_eq g19.symm)
        have ne_aN_b19 : aN ≠ b19 := Nat.ne_of_lt (Nat.lt_of_lt_of_le E_aN.lt (Nat.le_of_eq g19.symm))
        have Z19 : n0 ≤ h19.size := Nat.le_trans Z0 E19.1
        have F_nReaders_b19 : Fld Z h19 b19 "com/example/interweave/interweave/cli/BenchRun$Readings" "nReaders" "I" (.int (0 : Int32)) := D19 (Or.inr (hw _ (List.mem_of_getElem? (i := 18) rfl))) (ty := .int) (by decide)
        have F_nReads_b19 : Fld Z h19 b19 "com/example/interweave/interweave/cli/BenchRun$Readings" "nReads" "J" (.long (0 : Int64)) := D19 (Or.inr (hw _ (List.mem_of_getElem? (i := 20) rfl))) (ty := .long) (by decide)
        have F_nWrong_b19 : Fld Z h19 b19 "com/example/interweave/interweave/cli/BenchRun$Readings" "nWrong" "J" (.long (0 : Int64)) := D19 (Or.inr (hw _ (List.mem_of_getElem? (i := 22) rfl))) (ty := .long) (by decide)
        have F_nAborts_b19 : Fld Z h19 b19 "com/example/interweave/interweave/cli/BenchRun$Readings" "nAborts" "J" (.long (0 : Int64)) := D19 (Or.inr (hw _ (List.mem_of_getElem? (i := 24) rfl))) (ty := .long) (by decide)
        have F_nVersions_b19 : Fld Z h19 b19 "com/example/interweave/interweave/cli/BenchRun$Readings" "nVersions" "J" (.long (0 : Int64)) := D19 (Or.inr (hw _ (List.mem_of_getElem? (i := 26) rfl))) (ty := .long) (by decide)
        refine own_go st19 ?_
        show own_End p e below s (T19.setTop (mkF m 75 #[.val (.int p0), .val (.long q1), .second, .val (.long q2), .second, .val (.long q3), .second, .val (.int p4), .val (.long nW), .second, .val (.long nA), .second, .val (.int (0 : Int32)), .val (.ref aS), .unset, .unset, .unset] [(.ref b19)])) _ _ _
        refine own_go (fun t k => XS.dup X19.here hx rfl (hb hby at_75) rfl rfl k) ?_
        show own_End p e below s (T19.setTop (mkF m 76 #[.val (.int p0), .val (.long q1), .second, .val (.long q2), .second, .val (.long q3), .second, .val (.int p4), .val (.long nW), .second, .val (.long nA), .second, .val (.int (0 : Int32)), .val (.ref aS), .unset, .unset, .unset] [(.ref b19), (.ref b19)])) _ _ _
        refine own_go (fun t k => XS.iloadN X19.here hx rfl (hb hby at_76) rfl k) ?_
        show own_End p e below s (T19.setTop (mkF m 77 #[.val (.int p0), .val (.long q1), .second, .val (.long q2), .second, .val (.long q3), .second, .val (.int p4), .val (.long nW), .second, .val (.long nA), .second, .val (.int (0 : Int32)), .val (.ref aS), .unset, .unset, .unset] [(.int p0), (.ref b19), (.ref b19)])) _ _ _
        refine own_go (fun t k => XS.lload X19.here hx rfl (hb hby at_77) rfl k) ?_
        show own_End p e below s (T19.setTop (mkF m 79 #[.val (.int p0), .val (.long q1), .second, .val (.long q2), .second, .val (.long q3), .second, .val (.int p4), .val (.long nW), .second, .val (.long nA), .second, .val (.int (0 : Int32)), .val (.ref aS), .unset, .unset, .unset] [(.long q3), (.int p0), (.ref b19), (.ref b19)])) _ _ _
        refine own_go (fun t k => XS.lload X19.here hx rfl (hb hby at_79) rfl k) ?_
        show own_End p e below s (T19.setTop (mkF m 81 #[.val (.int p0), .val (.long q1), .second, .val (.long q2), .second, .val (.long q3), .second, .val (.int p4), .val (.long nW), .second, .val (.long nA), .second, .val (.int (0 : Int32)), .val (.ref aS), .unset, .unset, .unset] [(.long nW), (.long q3), (.int p0), (.ref b19), (.ref b19)])) _ _ _
        refine own_go (fun t k => XS.lload X19.here hx rfl (hb hby at_81) rfl k) ?_
        show own_End p e below s (T19.setTop (mkF m 83 #[.val (.int p0), .val (.long q1), .second, .val (.long q2), .second, .val (.long q3), .second, .val (.int p4), .val (.long nW), .second, .val (.long nA), .second, .val (.int (0 : Int32)), .val (.ref aS), .unset, .unset, .unset] [(.long nA), (.long nW), (.long q3), (.int p0), (.ref b19), (.ref b19)])) _ _ _
        refine own_go (fun t k => XS.lload X19.here hx rfl (hb hby at_83) rfl k) ?_
        show own_End p e below s (T19.setTop (mkF m 85 #[.val (.int p0), .val (.long q1), .second, .val (.long q2), .second, .val (.long q3), .second, .val (.int p4), .val (.long nW), .second, .val (.long nA), .second, .val (.int (0 : Int32)), .val (.ref aS), .unset, .unset, .unset] [(.long q3), (.long nA), (.long nW), (.long q3), (.int p0), (.ref b19), (.ref b19)])) _ _ _
        obtain ⟨_, _, ⟨T20, L20, k20, n20⟩, -, X20, ⟨Lc20, hQ20, l20, y20, z20⟩, st20⟩ := X19.specialBack hx (y := (⟨"com/example/interweave/interweave/cli/BenchRun$Readings", "<init>", "(IJJJJ)V"⟩ : MethodName)) rfl hown (mvT hZ (hw _ (List.mem_of_getElem? (i := 6) rfl))) (mvT hZ (hw _ (List.mem_of_getElem? (i := 7) rfl))) (mvT hZ (hw _ (List.mem_of_getElem? (i := 8) rfl))) (by decide) (backOf (W := 1) (rm2 l Z a0 hw [] b19 p0 q3 nW nA q3 h19 n0 Z19 g_b19 A19 F_nReaders_b19 F_nReads_b19 F_nWrong_b19 F_nAborts_b19 F_nVersions_b19) hZ (hw _ (List.mem_of_getElem? (i := 8) rfl)) (hw _ (List.mem_of_getElem? (i := 5) rfl)) (by decide) (by decide)) (g := (mkF m 85 #[.val (.int p0), .val (.long q1), .second, .val (.long q2), .second, .val (.long q3), .second, .val (.int p4), .val (.long nW), .second, .val (.long nA), .second, .val (.int (0 : Int32)), .val (.ref aS), .unset, .unset, .unset] [(.long q3), (.long nA), (.long nW), (.long q3), (.int p0), (.ref b19), (.ref b19)])) rfl (by rw [hml]; rfl) (Steps.refl _) (a := b19) (argsL := [(.int p0), (.long q3), (.long nW), (.long nA), (.long q3)]) (rest := [(.ref b19)]) (lenOf own_pd2 rfl) rfl (by show 2 * 0 + _ ≤ _; exact Nat.le_of_eq rfl) (hb hby at_85) (fun _ _ => ⟨rfl, e19, (by decide : 1 + 0 ≤ _), (by decide : 5 + 0 ≤ _)⟩)
        dsimp only [Pt.U, Pt.locs, Pt.cells, Pt.slots] at X20 l20 y20 z20 st20 hQ20
        subst l20 y20 z20
        obtain ⟨rfl, N20q, K20, Ex20, Fa20, Fb20⟩ := hQ20
        have N20 := Fr.app N0 N20q
        have Z20 : n0 ≤ T20.heap.size := Nat.le_trans Z19 K20.1
        refine own_go (fun t k => st20.trans k) ?_
        show own_End p e below s (T20.setTop (mkF m 88 #[.val (.int p0), .val (.long q1), .second, .val (.long q2), .second, .val (.long q3), .second, .val (.int p4), .val (.long nW), .second, .val (.long nA), .second, .val (.int (0 : Int32)), .val (.ref aS), .unset, .unset, .unset] [(.ref b19)])) _ _ _
        refine own_go (fun t k => XS.astore X20.here hx rfl (hb hby at_88) rfl rfl (l' := #[.val (.int p0), .val (.long q1), .second, .val (.long q2), .second, .val (.long q3), .second, .val (.int p4), .val (.long nW), .second, .val (.long nA), .second, .val (.int (0 : Int32)), .val (.ref aS), .val (.ref b19), .unset, .unset]) rfl k) ?_
        show own_End p e below s (T20.setTop (mkF m 90 #[.val (.int p0), .val (.long q1), .second, .val (.long q2), .second, .val (.long q3), .second, .val (.int p4), .val (.long nW), .second, .val (.long nA), .second, .val (.int (0 : Int32)), .val (.ref aS), .val (.ref b19), .unset, .unset] [])) _ _ _
        obtain ⟨T21, h21, X21, e21, E21, A21, D21, -, st21⟩ := newO X20 hx hZ hown (hw _ (List.mem_of_getElem? (i := 27) rfl)) (hw _ (List.mem_of_getElem? (i := 28) rfl)) (hw _ (List.mem_of_getElem? (i := 29) rfl)) rfl (g := (mkF m 90 #[.val (.int p0), .val (.long q1), .second, .val (.long q2), .second, .val (.long q3), .second, .val (.int p4), .val (.long nW), .second, .val (.long nA), .second, .val (.int (0 : Int32)), .val (.ref aS), .val (.ref b19), .unset, .unset] [])) rfl (hb hby at_90) (by decide) (by decide)
        obtain ⟨b21, g21⟩ : ∃ z, z = T20.heap.size := ⟨_, rfl⟩
        rw [← g21] at A21 D21 st21
        have g_b21 : n0 ≤ b21 := Nat.le_trans Z20 (Nat.le_of_eq g21.symm)
        have U22 := ((E_aN.ext E19).keep K20)
        have ne_aN_b21 : aN ≠ b21 := Nat.ne_of_lt (Nat.lt_of_lt_of_le U22.lt (Nat.le_of_eq g21.symm))
        have ne_b19_b21 : b19 ≠ b21 := Nat.ne_of_lt (Nat.lt_of_lt_of_le Ex20.lt (Nat.le_of_eq g21.symm))
        have Z21 : n0 ≤ h21.size := Nat.le_trans Z20 E21.1
        have F_m_nThreads_b21 : Fld Z h21 b21 "com/example/interweave/interweave/cli/BenchRun" "m_nThreads" "I" (.int (0 : Int32)) := D21 (Or.inr (hw _ (List.mem_of_getElem? (i := 35) rfl))) (ty := .int) (by decide)
        have F_m_nCommitted_b21 : Fld Z h21 b21 "com/example/interweave/interweave/cli/BenchRun" "m_nCommitted" "J" (.long (0 : Int64)) := D21 (Or.inr (hw _ (List.mem_of_getElem? (i := 37) rfl))) (ty := .long) (by decide)
        have F_m_nAborted_b21 : Fld Z h21 b21 "com/example/interweave/interweave/cli/BenchRun" "m_nAborted" "J" (.long (0 : Int64)) := D21 (Or.inr (hw _ (List.mem_of_getElem? (i := 39) rfl))) (ty := .long) (by decide)
        have F_m_nNanos_b21 : Fld Z h21 b21 "com/example/interweave/interweave/cli/BenchRun" "m_nNanos" "J" (.long (0 : Int64)) := D21 (Or.inr (hw _ (List.mem_of_getElem? (i := 41) rfl))) (ty := .long) (by decide)
        have F_m_nSyncs_b21 : Fld Z h21 b21 "com/example/interweave/interweave/cli/BenchRun" "m_nSyncs" "J" (.long (0 : Int64)) := D21 (Or.inr (hw _ (List.mem_of_getElem? (i := 43) rfl))) (ty := .long) (by decide)
        have F_m_aReadings_b21 : Fld Z h21 b21 "com/example/interweave/interweave/cli/BenchRun" "m_aReadings" "Lcom/example/interweave/interweave/cli/BenchRun$Readings;" .null := D21 (Or.inr (hw _ (List.mem_of_getElem? (i := 45) rfl))) (ty := (.object "com/example/interweave/interweave/cli/BenchRun$Readings")) (by decide)
        have F_m_eIsolation_b21 : Fld Z h21 b21 "com/example/interweave/interweave/cli/BenchRun" "m_eIsolation" "Lcom/example/interweave/interweave/Isolation;" .null := D21 (Or.inr (hw _ (List.mem_of_getElem? (i := 47) rfl))) (ty := (.object "com/example/interweave/interweave/Isolation")) (by decide)
        refine own_go st21 ?_
        show own_End p e below s (T21.setTop (mkF m 93 #[.val (.int p0), .val (.long q1), .second, .val (.long q2), .second, .val (.long q3), .second, .val (.int p4), .val (.long nW), .second, .val (.long nA), .second, .val (.int (0 : Int32)), .val (.ref aS), .val (.ref b19), .unset, .unset] [(.ref b21)])) _ _ _
        refine own_go (fun t k => XS.dup X21.here hx rfl (hb hby at_93) rfl rfl k) ?_
        show own_End p e below s (T21.setTop (mkF m 94 #[.val (.int p0), .val (.long q1), .second, .val (.long q2), .second, .val (.long q3), .second, .val (.int p4), .val (.long nW), .second, .val (.long nA), .second, .val (.int (0 : Int32)), .val (.ref aS), .val (.ref b19), .unset, .unset] [(.ref b21), (.ref b21)])) _ _ _
        refine own_go (fun t k => XS.iloadN X21.here hx rfl (hb hby at_94) rfl k) ?_
        show own_End p e below s (T21.setTop (mkF m 95 #[.val (.int p0), .val (.long q1), .second, .val (.long q2), .second, .val (.long q3), .second, .val (.int p4), .val (.long nW), .second, .val (.long nA), .second, .val (.int (0 : Int32)), .val (.ref aS), .val (.ref b19), .unset, .unset] [(.int p0), (.ref b21), (.ref b21)])) _ _ _
        refine own_go (fun t k => XS.lload X21.here hx rfl (hb hby at_95) rfl k) ?_
        show own_End p e below s (T21.setTop (mkF m 97 #[.val (.int p0), .val (.long q1), .second, .val (.long q2), .second, .val (.long q3), .second, .val (.int p4), .val (.long nW), .second, .val (.long nA), .second, .val (.int (0 : Int32)), .val (.ref aS), .val (.ref b19), .unset, .unset] [(.long q3), (.int p0), (.ref b21), (.ref b21)])) _ _ _
        refine own_go (fun t k => XS.lload X21.here hx rfl (hb hby at_97) rfl k) ?_
        show own_End p e below s (T21.setTop (mkF m 99 #[.val (.int p0), .val (.long q1), .second, .val (.long q2), .second, .val (.long q3), .second, .val (.int p4), .val (.long nW), .second, .val (.long nA), .second, .val (.int (0 : Int32)), .val (.ref aS), .val (.ref b19), .unset, .unset] [(.long nW), (.long q3), (.int p0), (.ref b21), (.ref b21)])) _ _ _
        refine own_go (fun t k => XS.lload X21.here hx rfl (hb hby at_99) rfl k) ?_
        show own_End p e below s (T21.setTop (mkF m 101 #[.val (.int p0), .val (.long q1), .second, .val (.long q2), .second, .val (.long q3), .second, .val (.int p4), .val (.long nW), .second, .val (.long nA), .second, .val (.int (0 : Int32)), .val (.ref aS), .val (.ref b19), .unset, .unset] [(.long q3), (.long nW), (.long q3), (.int p0), (.ref b21), (.ref b21)])) _ _ _
        refine own_go (fun t k => XS.lload X21.here hx rfl (hb hby at_101) rfl k) ?_
        show own_End p e below s (T21.setTop (mkF m 103 #[.val (.int p0), .val (.long q1), .second, .val (.long q2), .second, .val (.long q3), .second, .val (.int p4), .val (.long nW), .second, .val (.long nA), .second, .val (.int (0 : Int32)), .val (.ref aS), .val (.ref b19), .unset, .unset] [(.long nA), (.long q3), (.long nW), (.long q3), (.int p0), (.ref b21), (.ref b21)])) _ _ _
        refine own_go (fun t k => XS.aload X21.here hx rfl (hb hby at_103) rfl rfl k) ?_
        show own_End p e below s (T21.setTop (mkF m 105 #[.val (.int p0), .val (.long q1), .second, .val (.long q2), .second, .val (.long q3), .second, .val (.int p4), .val (.long nW), .second, .val (.long nA), .second, .val (.int (0 : Int32)), .val (.ref aS), .val (.ref b19), .unset, .unset] [(.ref b19), (.long nA), (.long q3), (.long nW), (.long q3), (.int p0), (.ref b21), (.ref b21)])) _ _ _
        refine own_go (fun t k => XS.aload X21.here hx rfl (hb hby at_105) rfl rfl k) ?_
        show own_End p e below s (T21.setTop (mkF m 107 #[.val (.int p0), .val (.long q1), .second, .val (.long q2), .second, .val (.long q3), .second, .val (.int p4), .val (.long nW), .second, .val (.long nA), .second, .val (.int (0 : Int32)), .val (.ref aS), .val (.ref b19), .unset, .unset] [(.ref aS), (.ref b19), (.long nA), (.long q3), (.long nW), (.long q3), (.int p0), (.ref b21), (.ref b21)])) _ _ _
        obtain ⟨_, _, ⟨T23, L23, k23, n23⟩, -, X23, ⟨Lc23, hQ23, l23, y23, z23⟩, st23⟩ := X21.specialBack hx (y := (⟨"com/example/interweave/interweave/cli/BenchRun", "<init>", "(IJJJJLcom/example/interweave/interweave/cli/BenchRun$Readings;Lcom/example/interweave/interweave/Isolation;)V"⟩ : MethodName)) rfl hown (mvT hZ (hw _ (List.mem_of_getElem? (i := 30) rfl))) (mvT hZ (hw _ (List.mem_of_getElem? (i := 31) rfl))) (mvT hZ (hw _ (List.mem_of_getElem? (i := 32) rfl))) (by decide) (backOf (W := 1) (rm3 l Z a0 hw [] b21 p0 q3 nW q3 nA b19 aS h21 n0 Z21 g_b21 A21 F_m_nThreads_b21 F_m_nCommitted_b21 F_m_nAborted_b21 F_m_nNanos_b21 F_m_nSyncs_b21 F_m_aReadings_b21 F_m_eIsolation_b21) hZ (hw _ (List.mem_of_getElem? (i := 32) rfl)) (hw _ (List.mem_of_getElem? (i := 29) rfl)) (by decide) (by decide)) (g := (mkF m 107 #[.val (.int p0), .val (.long q1), .second, .val (.long q2), .second, .val (.long q3), .second, .val (.int p4), .val (.long nW), .second, .val (.long nA), .second, .val (.int (0 : Int32)), .val (.ref aS), .val (.ref b19), .unset, .unset] [(.ref aS), (.ref b19), (.long nA), (.long q3), (.long nW), (.long q3), (.int p0), (.ref b21), (.ref b21)])) rfl (by rw [hml]; rfl) (Steps.refl _) (a := b21) (argsL := [(.int p0), (.long q3), (.long nW), (.long q3), (.long nA), (.ref b19), (.ref aS)]) (rest := [(.ref b21)]) (lenOf own_pd3 rfl) rfl (by show 2 * 0 + _ ≤ _; exact Nat.le_of_eq rfl) (hb hby at_107) (fun _ _ => ⟨rfl, e21, (by decide : 2 + 0 ≤ _), (by decide : 12 + 0 ≤ _)⟩)
        dsimp only [Pt.U, Pt.locs, Pt.cells, Pt.slots] at X23 l23 y23 z23 st23 hQ23
        subst l23 y23 z23
        obtain ⟨rfl, N23q, K23, Ex23, Fa23⟩ := hQ23
        have N23 := Fr.app N20 N23q
        have Z23 : n0 ≤ T23.heap.size := Nat.le_trans Z21 K23.1
        refine own_go (fun t k => st23.trans k) ?_
        show own_End p e below s (T23.setTop (mkF m 110 #[.val (.int p0), .val (.long q1), .second, .val (.long q2), .second, .val (.long q3), .second, .val (.int p4), .val (.long nW), .second, .val (.long nA), .second, .val (.int (0 : Int32)), .val (.ref aS), .val (.ref b19), .unset, .unset] [(.ref b21)])) _ _ _
        refine own_go (fun t k => XS.astore X23.here hx rfl (hb hby at_110) rfl rfl (l' := #[.val (.int p0), .val (.long q1), .second, .val (.long q2), .second, .val (.long q3), .second, .val (.int p4), .val (.long nW), .second, .val (.long nA), .second, .val (.int (0 : Int32)), .val (.ref aS), .val (.ref b19), .val (.ref b21), .unset]) rfl k) ?_
        show own_End p e below s (T23.setTop (mkF m 112 #[.val (.int p0), .val (.long q1), .second, .val (.long q2), .second, .val (.long q3), .second, .val (.int p4), .val (.long nW), .second, .val (.long nA), .second, .val (.int (0 : Int32)), .val (.ref aS), .val (.ref b19), .val (.ref b21), .unset] [])) _ _ _
        refine own_go (fun t k => XS.iload X23.here hx rfl (hb hby at_112) rfl k) ?_
        show own_End p e below s (T23.setTop (mkF m 114 #[.val (.int p0), .val (.long q1), .second, .val (.long q2), .second, .val (.long q3), .second, .val (.int p4), .val (.long nW), .second, .val (.long nA), .second, .val (.int (0 : Int32)), .val (.ref aS), .val (.ref b19), .val (.ref b21), .unset] [(.int (0 : Int32))])) _ _ _
        refine own_go (fun t k => XS.ifNo X23.here hx rfl (hb hby at_114) rfl ((if0 _ _).trans (own_eq (x := (0 : Int32)) (y := (0 : Int32)) (i := 0) (j := 0) rfl rfl (by decide)).2) k) ?_
        show own_End p e below s (T23.setTop (mkF m 117 #[.val (.int p0), .val (.long q1), .second, .val (.long q2), .second, .val (.long q3), .second, .val (.int p4), .val (.long nW), .second, .val (.long nA), .second, .val (.int (0 : Int32)), .val (.ref aS), .val (.ref b19), .val (.ref b21), .unset] [])) _ _ _
        refine own_go (fun t k => XS.lload X23.here hx rfl (hb hby at_117) rfl k) ?_
        show own_End p e below s (T23.setTop (mkF m 119 #[.val (.int p0), .val (.long q1), .second, .val (.long q2), .second, .val (.long q3), .second, .val (.int p4), .val (.long nW), .second, .val (.long nA), .second, .val (.int (0 : Int32)), .val (.ref aS), .val (.ref b19), .val (.ref b21), .unset] [(.long nW)])) _ _ _
        refine own_go (fun t k => XS.lload X23.here hx rfl (hb hby at_119) rfl k) ?_
        show own_End p e below s (T23.setTop (mkF m 121 #[.val (.int p0), .val (.long q1), .second, .val (.long q2), .second, .val (.long q3), .second, .val (.int p4), .val (.long nW), .second, .val (.long nA), .second, .val (.int (0 : Int32)), .val (.ref aS), .val (.ref b19), .val (.ref b21), .unset] [(.long nA), (.long nW)])) _ _ _
        refine own_go (fun t k => XS.lor X23.here hx rfl (hb hby at_121) rfl k) ?_
        show own_End p e below s (T23.setTop (mkF m 122 #[.val (.int p0), .val (.long q1), .second, .val (.long q2), .second, .val (.long q3), .second, .val (.int p4), .val (.long nW), .second, .val (.long nA), .second, .val (.int (0 : Int32)), .val (.ref aS), .val (.ref b19), .val (.ref b21), .unset] [(.long (nW ||| nA))])) _ _ _
        refine own_go (fun t k => XS.lconst X23.here hx rfl (hb hby at_122) k) ?_
        show own_End p e below s (T23.setTop (mkF m 123 #[.val (.int p0), .val (.long q1), .second, .val (.long q2), .second, .val (.long q3), .second, .val (.int p4), .val (.long nW), .second, .val (.long nA), .second, .val (.int (0 : Int32)), .val (.ref aS), .val (.ref b19), .val (.ref b21), .unset] [(.long (0 : Int64)), (.long (nW ||| nA))])) _ _ _
        refine own_go (fun t k => XS.lcmp X23.here hx rfl (hb hby at_123) rfl k) ?_
        show own_End p e below s (T23.setTop (mkF m 124 #[.val (.int p0), .val (.long q1), .second, .val (.long q2), .second, .val (.long q3), .second, .val (.int p4), .val (.long nW), .second, .val (.long nA), .second, .val (.int (0 : Int32)), .val (.ref aS), .val (.ref b19), .val (.ref b21), .unset] [(.int (lcmpW (nW ||| nA) (0 : Int64)))])) _ _ _
        by_cases c124_24 : (nW ||| nA).toInt = 0
        · skip
          refine own_go (fun t k => XS.ifNo X23.here hx rfl (hb hby at_124) rfl ((if0 _ _).trans (own_Let (x := (nW ||| nA)) (y := (0 : Int64)) (i := (nW ||| nA).toInt) (j := 0) rfl rfl c124_24).2) k) ?_
          show own_End p e below s (T23.setTop (mkF m 127 #[.val (.int p0), .val (.long q1), .second, .val (.long q2), .second, .val (.long q3), .second, .val (.int p4), .val (.long nW), .second, .val (.long nA), .second, .val (.int (0 : Int32)), .val (.ref aS), .val (.ref b19), .val (.ref b21), .unset] [])) _ _ _
          refine own_go (fun t k => XS.iconst X23.here hx rfl (hb hby at_127) k) ?_
          show own_End p e below s (T23.setTop (mkF m 128 #[.val (.int p0), .val (.long q1), .second, .val (.long q2), .second, .val (.long q3), .second, .val (.int p4), .val (.long nW), .second, .val (.long nA), .second, .val (.int (0 : Int32)), .val (.ref aS), .val (.ref b19), .val (.ref b21), .unset] [(.int (1 : Int32))])) _ _ _
          refine own_go (fun t k => XS.goto X23.here hx rfl (pc0 := 128) (pc' := 132) rfl (hb hby at_128) (by decide) (by decide) k) ?_
          show own_End p e below s (T23.setTop (mkF m 132 #[.val (.int p0), .val (.long q1), .second, .val (.long q2), .second, .val (.long q3), .second, .val (.int p4), .val (.long nW), .second, .val (.long nA), .second, .val (.int (0 : Int32)), .val (.ref aS), .val (.ref b19), .val (.ref b21), .unset] [(.int (1 : Int32))])) _ _ _
          refine own_go (fun t k => XS.istore X23.here hx rfl (hb hby at_132) rfl (l' := #[.val (.int p0), .val (.long q1), .second, .val (.long q2), .second, .val (.long q3), .second, .val (.int p4), .val (.long nW), .second, .val (.long nA), .second, .val (.int (0 : Int32)), .val (.ref aS), .val (.ref b19), .val (.ref b21), .val (.int (1 : Int32))]) rfl k) ?_
          show own_End p e below s (T23.setTop (mkF m 134 #[.val (.int p0), .val (.long q1), .second, .val (.long q2), .second, .val (.long q3), .second, .val (.int p4), .val (.long nW), .second, .val (.long nA), .second, .val (.int (0 : Int32)), .val (.ref aS), .val (.ref b19), .val (.ref b21), .val (.int (1 : Int32))] [])) _ _ _
          refine own_go (fun t k => XS.aload X23.here hx rfl (hb hby at_134) rfl rfl k) ?_
          show own_End p e below s (T23.setTop (mkF m 136 #[.val (.int p0), .val (.long q1), .second, .val (.long q2), .second, .val (.long q3), .second, .val (.int p4), .val (.long nW), .second, .val (.long nA), .second, .val (.int (0 : Int32)), .val (.ref aS), .val (.ref b19), .val (.ref b21), .val (.int (1 : Int32))] [(.ref b21)])) _ _ _
          have U25 := ((Ex20.ext E21).keep K23)
          have U26 := ((Fa20.ext E21).keep K23 (ninS ne_b19_b21 nin0))
          have U27 := ((Fb20.ext E21).keep K23 (ninS ne_b19_b21 nin0))
          obtain ⟨cq28, kq28, q28a, q28b, q28c⟩ := isOf hZ rfl Ex23
          obtain ⟨_, _, ⟨T28, L28, k28, n28⟩, -, X28, ⟨Lc28, hQ28, l28, y28, z28⟩, st28⟩ := X23.virtualBack hx (y := (⟨"com/example/interweave/interweave/cli/BenchRun", "areReadingsRight", "()Z"⟩ : MethodName)) (z := (⟨"com/example/interweave/interweave/cli/BenchRun", "areReadingsRight", "()Z"⟩ : MethodName)) hown (mvT hZ (hw _ (List.mem_of_getElem? (i := 48) rfl))) (mvT hZ (hw _ (List.mem_of_getElem? (i := 49) rfl))) (notFace_of_selects (args := #[]) (mvT hZ (hw _ (List.mem_of_getElem? (i := 51) rfl)))) (mvT hZ (hw _ (List.mem_of_getElem? (i := 51) rfl))) (mvT hZ (hw _ (List.mem_of_getElem? (i := 50) rfl))) (by decide) (backOf (W := 0) (rm6 l Z a0 hw [] b21 b19 nW nA T23.heap n0 Z23 Fa23 U25 U26 U27) hZ (hw _ (List.mem_of_getElem? (i := 52) rfl)) (hw _ (List.mem_of_getElem? (i := 29) rfl)) (by decide) (by decide)) q28a q28c (g := (mkF m 136 #[.val (.int p0), .val (.long q1), .second, .val (.long q2), .second, .val (.long q3), .second, .val (.int p4), .val (.long nW), .second, .val (.long nA), .second, .val (.int (0 : Int32)), .val (.ref aS), .val (.ref b19), .val (.ref b21), .val (.int (1 : Int32))] [(.ref b21)])) rfl (by rw [hml]; rfl) (Steps.refl _) (argsL := []) (rest := []) (lenOf own_pd4 rfl) rfl (by show 2 * 0 + _ ≤ _; exact Nat.le_of_eq rfl) (hb hby at_136) (fun _ _ => ⟨rfl, rfl, (by decide : 2 + 0 ≤ _), (by decide : 12 + 0 ≤ _)⟩)
          dsimp only [Pt.U, Pt.locs, Pt.cells, Pt.slots] at X28 l28 y28 z28 st28 hQ28
          subst l28 y28 z28
          obtain ⟨⟨r28, rfl, hr28⟩, N28q, e28⟩ := hQ28
          have N28 := Fr.app N23 N28q
          refine own_go (fun t k => st28.trans k) ?_
          show own_End p e below s (T28.setTop (mkF m 139 #[.val (.int p0), .val (.long q1), .second, .val (.long q2), .second, .val (.long q3), .second, .val (.int p4), .val (.long nW), .second, .val (.long nA), .second, .val (.int (0 : Int32)), .val (.ref aS), .val (.ref b19), .val (.ref b21), .val (.int (1 : Int32))] [(.int r28)])) _ _ _
          refine own_go (fun t k => XS.iload X28.here hx rfl (hb hby at_139) rfl k) ?_
          show own_End p e below s (T28.setTop (mkF m 141 #[.val (.int p0), .val (.long q1), .second, .val (.long q2), .second, .val (.long q3), .second, .val (.int p4), .val (.long nW), .second, .val (.long nA), .second, .val (.int (0 : Int32)), .val (.ref aS), .val (.ref b19), .val (.ref b21), .val (.int (1 : Int32))] [(.int (1 : Int32)), (.int r28)])) _ _ _
          refine own_go (fun t k => XS.icmpNo X28.here hx rfl (hb hby at_141) rfl (own_eq (x := r28) (y := (1 : Int32)) (i := r28.toInt) (j := 1) rfl rfl (by omega)).2 k) ?_
          show own_End p e below s (T28.setTop (mkF m 144 #[.val (.int p0), .val (.long q1), .second, .val (.long q2), .second, .val (.long q3), .second, .val (.int p4), .val (.long nW), .second, .val (.long nA), .second, .val (.int (0 : Int32)), .val (.ref aS), .val (.ref b19), .val (.ref b21), .val (.int (1 : Int32))] [])) _ _ _
          refine own_go (fun t k => XS.iconst X28.here hx rfl (hb hby at_144) k) ?_
          show own_End p e below s (T28.setTop (mkF m 145 #[.val (.int p0), .val (.long q1), .second, .val (.long q2), .second, .val (.long q3), .second, .val (.int p4), .val (.long nW), .second, .val (.long nA), .second, .val (.int (0 : Int32)), .val (.ref aS), .val (.ref b19), .val (.ref b21), .val (.int (1 : Int32))] [(.int (1 : Int32))])) _ _ _
          refine own_go (fun t k => XS.goto X28.here hx rfl (pc0 := 145) (pc' := 149) rfl (hb hby at_145) (by decide) (by decide) k) ?_
          show own_End p e below s (T28.setTop (mkF m 149 #[.val (.int p0), .val (.long q1), .second, .val (.long q2), .second, .val (.long q3), .second, .val (.int p4), .val (.long nW), .second, .val (.long nA), .second, .val (.int (0 : Int32)), .val (.ref aS), .val (.ref b19), .val (.ref b21), .val (.int (1 : Int32))] [(.int (1 : Int32))])) _ _ _
          refine own_ret X28 (v := some (.int (1 : Int32))) (fun h => by rw [Bd.returns] at h; cases h) Bd.notSynchronized (fun fs hr => retN X28 hx (t := .boolean) Bd.returns (by simp) (hb hby at_149) hr) ?_ (by decide) (by decide)
          · exact ⟨rfl, N28⟩
        · skip
          refine own_go (fun t k => XS.ifYes X23.here hx rfl (pc0 := 124) (pc' := 131) rfl (hb hby at_124) rfl ((if0 _ _).trans (own_Lef (x := (nW ||| nA)) (y := (0 : Int64)) (i := (nW ||| nA).toInt) (j := 0) rfl rfl c124_24).2) (by decide) (by decide) k) ?_
          show own_End p e below s (T23.setTop (mkF m 131 #[.val (.int p0), .val (.long q1), .second, .val (.long q2), .second, .val (.long q3), .second, .val (.int p4), .val (.long nW), .second, .val (.long nA), .second, .val (.int (0 : Int32)), .val (.ref aS), .val (.ref b19), .val (.ref b21), .unset] [])) _ _ _
          refine own_go (fun t k => XS.iconst X23.here hx rfl (hb hby at_131) k) ?_
          show own_End p e below s (T23.setTop (mkF m 132 #[.val (.int p0), .val (.long q1), .second, .val (.long q2), .second, .val (.long q3), .second, .val (.int p4), .val (.long nW), .second, .val (.long nA), .second, .val (.int (0 : Int32)), .val (.ref aS), .val (.ref b19), .val (.ref b21), .unset] [(.int (0 : Int32))])) _ _ _
          refine own_go (fun t k => XS.istore X23.here hx rfl (hb hby at_132) rfl (l' := #[.val (.int p0), .val (.long q1), .second, .val (.long q2), .second, .val (.long q3), .second, .val (.int p4), .val (.long nW), .second, .val (.long nA), .second, .val (.int (0 : Int32)), .val (.ref aS), .val (.ref b19), .val (.ref b21), .val (.int (0 : Int32))]) rfl k) ?_
          show own_End p e below s (T23.setTop (mkF m 134 #[.val (.int p0), .val (.long q1), .second, .val (.long q2), .second, .val (.long q3), .second, .val (.int p4), .val (.long nW), .second, .val (.long nA), .second, .val (.int (0 : Int32)), .val (.ref aS), .val (.ref b19), .val (.ref b21), .val (.int (0 : Int32))] [])) _ _ _
          refine own_go (fun t k => XS.aload X23.here hx rfl (hb hby at_134) rfl rfl k) ?_
          show own_End p e below s (T23.setTop (mkF m 136 #[.val (.int p0), .val (.long q1), .second, .val (.long q2), .second, .val (.long q3), .second, .val (.int p4), .val (.long nW), .second, .val (.long nA), .second, .val (.int (0 : Int32)), .val (.ref aS), .val (.ref b19), .val (.ref b21), .val (.int (0 : Int32))] [(.ref b21)])) _ _ _
          have U29 := ((Ex20.ext E21).keep K23)
          have U30 := ((Fa20.ext E21).keep K23 (ninS ne_b19_b21 nin0))
          have U31 := ((Fb20.ext E21).keep K23 (ninS ne_b19_b21 nin0))
          obtain ⟨cq32, kq32, q32a, q32b, q32c⟩ := isOf hZ rfl Ex23
          obtain ⟨_, _, ⟨T32, L32, k32, n32⟩, -, X32, ⟨Lc32, hQ32, l32, y32, z32⟩, st32⟩ := X23.virtualBack hx (y := (⟨"com/example/interweave/interweave/cli/BenchRun", "areReadingsRight", "()Z"⟩ : MethodName)) (z := (⟨"com/example/interweave/interweave/cli/BenchRun", "areReadingsRight", "()Z"⟩ : MethodName)) hown (mvT hZ (hw _ (List.mem_of_getElem? (i := 48) rfl))) (mvT hZ (hw _ (List.mem_of_getElem? (i := 49) rfl))) (notFace_of_selects (args := #[]) (mvT hZ (hw _ (List.mem_of_getElem? (i := 51) rfl)))) (mvT hZ (hw _ (List.mem_of_getElem? (i := 51) rfl))) (mvT hZ (hw _ (List.mem_of_getElem? (i := 50) rfl))) (by decide) (backOf (W := 0) (rm6 l Z a0 hw [] b21 b19 nW nA T23.heap n0 Z23 Fa23 U29 U30 U31) hZ (hw _ (List.mem_of_getElem? (i := 52) rfl)) (hw _ (List.mem_of_getElem? (i := 29) rfl)) (by decide) (by decide)) q32a q32c (g := (mkF m 136 #[.val (.int p0), .val (.long q1), .second, .val (.long q2), .second, .val (.long q3), .second, .val (.int p4), .val (.long nW), .second, .val (.long nA), .second, .val (.int (0 : Int32)), .val (.ref aS), .val (.ref b19), .val (.ref b21), .val (.int (0 : Int32))] [(.ref b21)])) rfl (by rw [hml]; rfl) (Steps.refl _) (argsL := []) (rest := []) (lenOf own_pd4 rfl) rfl (by show 2 * 0 + _ ≤ _; exact Nat.le_of_eq rfl) (hb hby at_136) (fun _ _ => ⟨rfl, rfl, (by decide : 2 + 0 ≤ _), (by decide : 12 + 0 ≤ _)⟩)
          dsimp only [Pt.U, Pt.locs, Pt.cells, Pt.slots] at X32 l32 y32 z32 st32 hQ32
          subst l32 y32 z32
          obtain ⟨⟨r32, rfl, hr32⟩, N32q, e32⟩ := hQ32
          have N32 := Fr.app N23 N32q
          refine own_go (fun t k => st32.trans k) ?_
          show own_End p e below s (T32.setTop (mkF m 139 #[.val (.int p0), .val (.long q1), .second, .val (.long q2), .second, .val (.long q3), .second, .val (.int p4), .val (.long nW), .second, .val (.long nA), .second, .val (.int (0 : Int32)), .val (.ref aS), .val (.ref b19), .val (.ref b21), .val (.int (0 : Int32))] [(.int r32)])) _ _ _
          refine own_go (fun t k => XS.iload X32.here hx rfl (hb hby at_139) rfl k) ?_
          show own_End p e below s (T32.setTop (mkF m 141 #[.val (.int p0), .val (.long q1), .second, .val (.long q2), .second, .val (.long q3), .second, .val (.int p4), .val (.long nW), .second, .val (.long nA), .second, .val (.int (0 : Int32)), .val (.ref aS), .val (.ref b19), .val (.ref b21), .val (.int (0 : Int32))] [(.int (0 : Int32)), (.int r32)])) _ _ _
          refine own_go (fun t k => XS.icmpNo X32.here hx rfl (hb hby at_141) rfl (own_eq (x := r32) (y := (0 : Int32)) (i := r32.toInt) (j := 0) rfl rfl (by omega)).2 k) ?_
          show own_End p e below s (T32.setTop (mkF m 144 #[.val (.int p0), .val (.long q1), .second, .val (.long q2), .second, .val (.long q3), .second, .val (.int p4), .val (.long nW), .second, .val (.long nA), .second, .val (.int (0 : Int32)), .val (.ref aS), .val (.ref b19), .val (.ref b21), .val (.int (0 : Int32))] [])) _ _ _
          refine own_go (fun t k => XS.iconst X32.here hx rfl (hb hby at_144) k) ?_
          show own_End p e below s (T32.setTop (mkF m 145 #[.val (.int p0), .val (.long q1), .second, .val (.long q2), .second, .val (.long q3), .second, .val (.int p4), .val (.long nW), .second, .val (.long nA), .second, .val (.int (0 : Int32)), .val (.ref aS), .val (.ref b19), .val (.ref b21), .val (.int (0 : Int32))] [(.int (1 : Int32))])) _ _ _
          refine own_go (fun t k => XS.goto X32.here hx rfl (pc0 := 145) (pc' := 149) rfl (hb hby at_145) (by decide) (by decide) k) ?_
          show own_End p e below s (T32.setTop (mkF m 149 #[.val (.int p0), .val (.long q1), .second, .val (.long q2), .second, .val (.long q3), .second, .val (.int p4), .val (.long nW), .second, .val (.long nA), .second, .val (.int (0 : Int32)), .val (.ref aS), .val (.ref b19), .val (.ref b21), .val (.int (0 : Int32))] [(.int (1 : Int32))])) _ _ _
          refine own_ret X32 (v := some (.int (1 : Int32))) (fun h => by rw [Bd.returns] at h; cases h) Bd.notSynchronized (fun fs hr => retN X32 hx (t := .boolean) Bd.returns (by simp) (hb hby at_149) hr) ?_ (by decide) (by decide)
          · exact ⟨rfl, N32⟩
    · skip
      refine own_go (fun t k => XS.ifNo X0.here hx rfl (hb hby at_32) rfl ((if0 _ _).trans (own_ne (x := (p4 &&& (4 : Int32))) (y := (0 : Int32)) (i := (p4 &&& (4 : Int32)).toInt) (j := 0) rfl rfl c32_1).1) k) ?_
      show own_End p e below s (s₁.setTop (mkF m 35 #[.val (.int p0), .val (.long q1), .second, .val (.long q2), .second, .val (.long q3), .second, .val (.int p4), .val (.long nW), .second, .val (.long nA), .second, .unset, .unset, .unset, .unset, .unset] [])) _ _ _
      refine own_go (fun t k => XS.iconst X0.here hx rfl (hb hby at_35) k) ?_
      show own_End p e below s (s₁.setTop (mkF m 36 #[.val (.int p0), .val (.long q1), .second, .val (.long q2), .second, .val (.long q3), .second, .val (.int p4), .val (.long nW), .second, .val (.long nA), .second, .unset, .unset, .unset, .unset, .unset] [(.int (1 : Int32))])) _ _ _
      refine own_go (fun t k => XS.goto X0.here hx rfl (pc0 := 36) (pc' := 40) rfl (hb hby at_36) (by decide) (by decide) k) ?_
      show own_End p e below s (s₁.setTop (mkF m 40 #[.val (.int p0), .val (.long q1), .second, .val (.long q2), .second, .val (.long q3), .second, .val (.int p4), .val (.long nW), .second, .val (.long nA), .second, .unset, .unset, .unset, .unset, .unset] [(.int (1 : Int32))])) _ _ _
      refine own_go (fun t k => XS.istore X0.here hx rfl (hb hby at_40) rfl (l' := #[.val (.int p0), .val (.long q1), .second, .val (.long q2), .second, .val (.long q3), .second, .val (.int p4), .val (.long nW), .second, .val (.long nA), .second, .val (.int (1 : Int32)), .unset, .unset, .unset, .unset]) rfl k) ?_
      show own_End p e below s (s₁.setTop (mkF m 42 #[.val (.int p0), .val (.long q1), .second, .val (.long q2), .second, .val (.long q3), .second, .val (.int p4), .val (.long nW), .second, .val (.long nA), .second, .val (.int (1 : Int32)), .unset, .unset, .unset, .unset] [])) _ _ _
      refine own_go (fun t k => XS.iload X0.here hx rfl (hb hby at_42) rfl k) ?_
      show own_End p e below s (s₁.setTop (mkF m 44 #[.val (.int p0), .val (.long q1), .second, .val (.long q2), .second, .val (.long q3), .second, .val (.int p4), .val (.long nW), .second, .val (.long nA), .second, .val (.int (1 : Int32)), .unset, .unset, .unset, .unset] [(.int p4)])) _ _ _
      refine own_go (fun t k => XS.bipush X0.here hx rfl (hb hby at_44) k) ?_
      show own_End p e below s (s₁.setTop (mkF m 46 #[.val (.int p0), .val (.long q1), .second, .val (.long q2), .second, .val (.long q3), .second, .val (.int p4), .val (.long nW), .second, .val (.long nA), .second, .val (.int (1 : Int32)), .unset, .unset, .unset, .unset] [(.int (8 : Int32)), (.int p4)])) _ _ _
      refine own_go (fun t k => XS.iand X0.here hx rfl (hb hby at_46) rfl k) ?_
      show own_End p e below s (s₁.setTop (mkF m 47 #[.val (.int p0), .val (.long q1), .second, .val (.long q2), .second, .val (.long q3), .second, .val (.int p4), .val (.long nW), .second, .val (.long nA), .second, .val (.int (1 : Int32)), .unset, .unset, .unset, .unset] [(.int (p4 &&& (8 : Int32)))])) _ _ _
      by_cases c47_33 : (p4 &&& (8 : Int32)).toInt = 0
      · skip
        refine own_go (fun t k => XS.ifYes X0.here hx rfl (pc0 := 47) (pc' := 56) rfl (hb hby at_47) rfl ((if0 _ _).trans (own_eq (x := (p4 &&& (8 : Int32))) (y := (0 : Int32)) (i := (p4 &&& (8 : Int32)).toInt) (j := 0) rfl rfl c47_33).1) (by decide) (by decide) k) ?_
        show own_End p e below s (s₁.setTop (mkF m 56 #[.val (.int p0), .val (.long q1), .second, .val (.long q2), .second, .val (.long q3), .second, .val (.int p4), .val (.long nW), .second, .val (.long nA), .second, .val (.int (1 : Int32)), .unset, .unset, .unset, .unset] [])) _ _ _
        obtain ⟨T34, X34, e34, st34⟩ := getS2 X0 hx hZ hown (host := "") (Or.inl (hw _ (List.mem_of_getElem? (i := 0) rfl))) Via.refl e0 S_SERIALIZABLE (g := (mkF m 56 #[.val (.int p0), .val (.long q1), .second, .val (.long q2), .second, .val (.long q3), .second, .val (.int p4), .val (.long nW), .second, .val (.long nA), .second, .val (.int (1 : Int32)), .unset, .unset, .unset, .unset] [])) rfl (hb hby at_56)
        refine own_go st34 ?_
        show own_End p e below s (T34.setTop (mkF m 59 #[.val (.int p0), .val (.long q1), .second, .val (.long q2), .second, .val (.long q3), .second, .val (.int p4), .val (.long nW), .second, .val (.long nA), .second, .val (.int (1 : Int32)), .unset, .unset, .unset, .unset] [(.ref aI)])) _ _ _
        refine own_go (fun t k => XS.astore X34.here hx rfl (hb hby at_59) rfl rfl (l' := #[.val (.int p0), .val (.long q1), .second, .val (.long q2), .second, .val (.long q3), .second, .val (.int p4), .val (.long nW), .second, .val (.long nA), .second, .val (.int (1 : Int32)), .val (.ref aI), .unset, .unset, .unset]) rfl k) ?_
        show own_End p e below s (T34.setTop (mkF m 61 #[.val (.int p0), .val (.long q1), .second, .val (.long q2), .second, .val (.long q3), .second, .val (.int p4), .val (.long nW), .second, .val (.long nA), .second, .val (.int (1 : Int32)), .val (.ref aI), .unset, .unset, .unset] [])) _ _ _
        refine own_go (fun t k => XS.iload X34.here hx rfl (hb hby at_61) rfl k) ?_
        show own_End p e below s (T34.setTop (mkF m 63 #[.val (.int p0), .val (.long q1), .second, .val (.long q2), .second, .val (.long q3), .second, .val (.int p4), .val (.long nW), .second, .val (.long nA), .second, .val (.int (1 : Int32)), .val (.ref aI), .unset, .unset, .unset] [(.int (1 : Int32))])) _ _ _
        refine own_go (fun t k => XS.ifNo X34.here hx rfl (hb hby at_63) rfl ((if0 _ _).trans (own_ne (x := (1 : Int32)) (y := (0 : Int32)) (i := 1) (j := 0) rfl rfl (by decide)).1) k) ?_
        show own_End p e below s (T34.setTop (mkF m 66 #[.val (.int p0), .val (.long q1), .second, .val (.long q2), .second, .val (.long q3), .second, .val (.int p4), .val (.long nW), .second, .val (.long nA), .second, .val (.int (1 : Int32)), .val (.ref aI), .unset, .unset, .unset] [])) _ _ _
        obtain ⟨T35, X35, e35, st35⟩ := getS2 X34 hx hZ hown (host := "") (Or.inl (hw _ (List.mem_of_getElem? (i := 65) rfl))) Via.refl e34 S_NONE (g := (mkF m 66 #[.val (.int p0), .val (.long q1), .second, .val (.long q2), .second, .val (.long q3), .second, .val (.int p4), .val (.long nW), .second, .val (.long nA), .second, .val (.int (1 : Int32)), .val (.ref aI), .unset, .unset, .unset] [])) rfl (hb hby at_66)
        refine own_go st35 ?_
        show own_End p e below s (T35.setTop (mkF m 69 #[.val (.int p0), .val (.long q1), .second, .val (.long q2), .second, .val (.long q3), .second, .val (.int p4), .val (.long nW), .second, .val (.long nA), .second, .val (.int (1 : Int32)), .val (.ref aI), .unset, .unset, .unset] [(.ref aN)])) _ _ _
        refine own_go (fun t k => XS.goto X35.here hx rfl (pc0 := 69) (pc' := 88) rfl (hb hby at_69) (by decide) (by decide) k) ?_
        show own_End p e below s (T35.setTop (mkF m 88 #[.val (.int p0), .val (.long q1), .second, .val (.long q2), .second, .val (.long q3), .second, .val (.int p4), .val (.long nW), .second, .val (.long nA), .second, .val (.int (1 : Int32)), .val (.ref aI), .unset, .unset, .unset] [(.ref aN)])) _ _ _
        refine own_go (fun t k => XS.astore X35.here hx rfl (hb hby at_88) rfl rfl (l' := #[.val (.int p0), .val (.long q1), .second, .val (.long q2), .second, .val (.long q3), .second, .val (.int p4), .val (.long nW), .second, .val (.long nA), .second, .val (.int (1 : Int32)), .val (.ref aI), .val (.ref aN), .unset, .unset]) rfl k) ?_
        show own_End p e below s (T35.setTop (mkF m 90 #[.val (.int p0), .val (.long q1), .second, .val (.long q2), .second, .val (.long q3), .second, .val (.int p4), .val (.long nW), .second, .val (.long nA), .second, .val (.int (1 : Int32)), .val (.ref aI), .val (.ref aN), .unset, .unset] [])) _ _ _
        obtain ⟨T36, h36, X36, e36, E36, A36, D36, -, st36⟩ := newO X35 hx hZ hown (hw _ (List.mem_of_getElem? (i := 27) rfl)) (hw _ (List.mem_of_getElem? (i := 28) rfl)) (hw _ (List.mem_of_getElem? (i := 29) rfl)) e35 (g := (mkF m 90 #[.val (.int p0), .val (.long q1), .second, .val (.long q2), .second, .val (.long q3), .second, .val (.int p4), .val (.long nW), .second, .val (.long nA), .second, .val (.int (1 : Int32)), .val (.ref aI), .val (.ref aN), .unset, .unset] [])) rfl (hb hby at_90) (by decide) (by decide)
        obtain ⟨b36, g36⟩ : ∃ z, z = h0.size := ⟨_, rfl⟩
        rw [← g36] at A36 D36 st36
        have g_b36 : n0 ≤ b36 := Nat.le_trans Z0 (Nat.le_of_eq g36.symm)
        have ne_aN_b36 : aN ≠ b36 := Nat.ne_of_lt (Nat.lt_of_lt_of_le E_aN.lt (Nat.le_of_eq g36.symm))
        have Z36 : n0 ≤ h36.size := Nat.le_trans Z0 E36.1
        have F_m_nThreads_b36 : Fld Z h36 b36 "com/example/interweave/interweave/cli/BenchRun" "m_nThreads" "I" (.int (0 : Int32)) := D36 (Or.inr (hw _ (List.mem_of_getElem? (i := 35) rfl))) (ty := .int) (by decide)
        have F_m_nCommitted_b36 : Fld Z h36 b36 "com/example/interweave/interweave/cli/BenchRun" "m_nCommitted" "J" (.long (0 : Int64)) := D36 (Or.inr (hw _ (List.mem_of_getElem? (i := 37) rfl))) (ty := .long) (by decide)
        have F_m_nAborted_b36 : Fld Z h36 b36 "com/example/interweave/interweave/cli/BenchRun" "m_nAborted" "J" (.long (0 : Int64)) := D36 (Or.inr (hw _ (List.mem_of_getElem? (i := 39) rfl))) (ty := .long) (by decide)
        have F_m_nNanos_b36 : Fld Z h36 b36 "com/example/interweave/interweave/cli/BenchRun" "m_nNanos" "J" (.long (0 : Int64)) := D36 (Or.inr (hw _ (List.mem_of_getElem? (i := 41) rfl))) (ty := .long) (by decide)
        have F_m_nSyncs_b36 : Fld Z h36 b36 "com/example/interweave/interweave/cli/BenchRun" "m_nSyncs" "J" (.long (0 : Int64)) := D36 (Or.inr (hw _ (List.mem_of_getElem? (i := 43) rfl))) (ty := .long) (by decide)
        have F_m_aReadings_b36 : Fld Z h36 b36 "com/example/interweave/interweave/cli/BenchRun" "m_aReadings" "Lcom/example/interweave/interweave/cli/BenchRun$Readings;" .null := D36 (Or.inr (hw _ (List.mem_of_getElem? (i := 45) rfl))) (ty := (.object "com/example/interweave/interweave/cli/BenchRun$Readings")) (by decide)
        have F_m_eIsolation_b36 : Fld Z h36 b36 "com/example/interweave/interweave/cli/BenchRun" "m_eIsolation" "Lcom/example/interweave/interweave/Isolation;" .null := D36 (Or.inr (hw _ (List.mem_of_getElem? (i := 47) rfl))) (ty := (.object "com/example/interweave/interweave/Isolation")) (by decide)
        refine own_go st36 ?_
        show own_End p e below s (T36.setTop (mkF m 93 #[.val (.int p0), .val (.long q1), .second, .val (.long q2), .second, .val (.long q3), .second, .val (.int p4), .val (.long nW), .second, .val (.long nA), .second, .val (.int (1 : Int32)), .val (.ref aI), .val (.ref aN), .unset, .unset] [(.ref b36)])) _ _ _
        refine own_go (fun t k => XS.dup X36.here hx rfl (hb hby at_93) rfl rfl k) ?_
        show own_End p e below s (T36.setTop (mkF m 94 #[.val (.int p0), .val (.long q1), .second, .val (.long q2), .second, .val (.long q3), .second, .val (.int p4), .val (.long nW), .second, .val (.long nA), .second, .val (.int (1 : Int32)), .val (.ref aI), .val (.ref aN), .unset, .unset] [(.ref b36), (.ref b36)])) _ _ _
        refine own_go (fun t k => XS.iloadN X36.here hx rfl (hb hby at_94) rfl k) ?_
        show own_End p e below s (T36.setTop (mkF m 95 #[.val (.int p0), .val (.long q1), .second, .val (.long q2), .second, .val (.long q3), .second, .val (.int p4), .val (.long nW), .second, .val (.long nA), .second, .val (.int (1 : Int32)), .val (.ref aI), .val (.ref aN), .unset, .unset] [(.int p0), (.ref b36), (.ref b36)])) _ _ _
        refine own_go (fun t k => XS.lload X36.here hx rfl (hb hby at_95) rfl k) ?_
        show own_End p e below s (T36.setTop (mkF m 97 #[.val (.int p0), .val (.long q1), .second, .val (.long q2), .second, .val (.long q3), .second, .val (.int p4), .val (.long nW), .second, .val (.long nA), .second, .val (.int (1 : Int32)), .val (.ref aI), .val (.ref aN), .unset, .unset] [(.long q3), (.int p0), (.ref b36), (.ref b36)])) _ _ _
        refine own_go (fun t k => XS.lload X36.here hx rfl (hb hby at_97) rfl k) ?_
        show own_End p e below s (T36.setTop (mkF m 99 #[.val (.int p0), .val (.long q1), .second, .val (.long q2), .second, .val (.long q3), .second, .val (.int p4), .val (.long nW), .second, .val (.long nA), .second, .val (.int (1 : Int32)), .val (.ref aI), .val (.ref aN), .unset, .unset] [(.long nW), (.long q3), (.int p0), (.ref b36), (.ref b36)])) _ _ _
        refine own_go (fun t k => XS.lload X36.here hx rfl (hb hby at_99) rfl k) ?_
        show own_End p e below s (T36.setTop (mkF m 101 #[.val (.int p0), .val (.long q1), .second, .val (.long q2), .second, .val (.long q3), .second, .val (.int p4), .val (.long nW), .second, .val (.long nA), .second, .val (.int (1 : Int32)), .val (.ref aI), .val (.ref aN), .unset, .unset] [(.long q3), (.long nW), (.long q3), (.int p0), (.ref b36), (.ref b36)])) _ _ _
        refine own_go (fun t k => XS.lload X36.here hx rfl (hb hby at_101) rfl k) ?_
        show own_End p e below s (T36.setTop (mkF m 103 #[.val (.int p0), .val (.long q1), .second, .val (.long q2), .second, .val (.long q3), .second, .val (.int p4), .val (.long nW), .second, .val (.long nA), .second, .val (.int (1 : Int32)), .val (.ref aI), .val (.ref aN), .unset, .unset] [(.long nA), (.long q3), (.long nW), (.long q3), (.int p0), (.ref b36), (.ref b36)])) _ _ _
        refine own_go (fun t k => XS.aload X36.here hx rfl (hb hby at_103) rfl rfl k) ?_
        show own_End p e below s (T36.setTop (mkF m 105 #[.val (.int p0), .val (.long q1), .second, .val (.long q2), .second, .val (.long q3), .second, .val (.int p4), .val (.long nW), .second, .val (.long nA), .second, .val (.int (1 : Int32)), .val (.ref aI), .val (.ref aN), .unset, .unset] [(.ref aN), (.long nA), (.long q3), (.long nW), (.long q3), (.int p0), (.ref b36), (.ref b36)])) _ _ _
        refine own_go (fun t k => XS.aload X36.here hx rfl (hb hby at_105) rfl rfl k) ?_
        show own_End p e below s (T36.setTop (mkF m 107 #[.val (.int p0), .val (.long q1), .second, .val (.long q2), .second, .val (.long q3), .second, .val (.int p4), .val (.long nW), .second, .val (.long nA), .second, .val (.int (1 : Int32)), .val (.ref aI), .val (.ref aN), .unset, .unset] [(.ref aI), (.ref aN), (.long nA), (.long q3), (.long nW), (.long q3), (.int p0), (.ref b36), (.ref b36)])) _ _ _
        obtain ⟨_, _, ⟨T37, L37, k37, n37⟩, -, X37, ⟨Lc37, hQ37, l37, y37, z37⟩, st37⟩ := X36.specialBack hx (y := (⟨"com/example/interweave/interweave/cli/BenchRun", "<init>", "(IJJJJLcom/example/interweave/interweave/cli/BenchRun$Readings;Lcom/example/interweave/interweave/Isolation;)V"⟩ : MethodName)) rfl hown (mvT hZ (hw _ (List.mem_of_getElem? (i := 30) rfl))) (mvT hZ (hw _ (List.mem_of_getElem? (i := 31) rfl))) (mvT hZ (hw _ (List.mem_of_getElem? (i := 32) rfl))) (by decide) (backOf (W := 1) (rm3 l Z a0 hw [] b36 p0 q3 nW q3 nA aN aI h36 n0 Z36 g_b36 A36 F_m_nThreads_b36 F_m_nCommitted_b36 F_m_nAborted_b36 F_m_nNanos_b36 F_m_nSyncs_b36 F_m_aReadings_b36 F_m_eIsolation_b36) hZ (hw _ (List.mem_of_getElem? (i := 32) rfl)) (hw _ (List.mem_of_getElem? (i := 29) rfl)) (by decide) (by decide)) (g := (mkF m 107 #[.val (.int p0), .val (.long q1), .second, .val (.long q2), .second, .val (.long q3), .second, .val (.int p4), .val (.long nW), .second, .val (.long nA), .second, .val (.int (1 : Int32)), .val (.ref aI), .val (.ref aN), .unset, .unset] [(.ref aI), (.ref aN), (.long nA), (.long q3), (.long nW), (.long q3), (.int p0), (.ref b36), (.ref b36)])) rfl (by rw [hml]; rfl) (Steps.refl _) (a := b36) (argsL := [(.int p0), (.long q3), (.long nW), (.long q3), (.long nA), (.ref aN), (.ref aI)]) (rest := [(.ref b36)]) (lenOf own_pd3 rfl) rfl (by show 2 * 0 + _ ≤ _; exact Nat.le_of_eq rfl) (hb hby at_107) (fun _ _ => ⟨rfl, e36, (by decide : 1 + 0 ≤ _), (by decide : 7 + 0 ≤ _)⟩)
        dsimp only [Pt.U, Pt.locs, Pt.cells, Pt.slots] at X37 l37 y37 z37 st37 hQ37
        subst l37 y37 z37
        obtain ⟨rfl, N37q, K37, Ex37, Fa37⟩ := hQ37
        have N37 := Fr.app N0 N37q
        have Z37 : n0 ≤ T37.heap.size := Nat.le_trans Z36 K37.1
        refine own_go (fun t k => st37.trans k) ?_
        show own_End p e below s (T37.setTop (mkF m 110 #[.val (.int p0), .val (.long q1), .second, .val (.long q2), .second, .val (.long q3), .second, .val (.int p4), .val (.long nW), .second, .val (.long nA), .second, .val (.int (1 : Int32)), .val (.ref aI), .val (.ref aN), .unset, .unset] [(.ref b36)])) _ _ _
        refine own_go (fun t k => XS.astore X37.here hx rfl (hb hby at_110) rfl rfl (l' := #[.val (.int p0), .val (.long q1), .second, .val (.long q2), .second, .val (.long q3), .second, .val (.int p4), .val (.long nW), .second, .val (.long nA), .second, .val (.int (1 : Int32)), .val (.ref aI), .val (.ref aN), .val (.ref b36), .unset]) rfl k) ?_
        show own_End p e below s (T37.setTop (mkF m 112 #[.val (.int p0), .val (.long q1), .second, .val (.long q2), .second, .val (.long q3), .second, .val (.int p4), .val (.long nW), .second, .val (.long nA), .second, .val (.int (1 : Int32)), .val (.ref aI), .val (.ref aN), .val (.ref b36), .unset] [])) _ _ _
        refine own_go (fun t k => XS.iload X37.here hx rfl (hb hby at_112) rfl k) ?_
        show own_End p e below s (T37.setTop (mkF m 114 #[.val (.int p0), .val (.long q1), .second, .val (.long q2), .second, .val (.long q3), .second, .val (.int p4), .val (.long nW), .second, .val (.long nA), .second, .val (.int (1 : Int32)), .val (.ref aI), .val (.ref aN), .val (.ref b36), .unset] [(.int (1 : Int32))])) _ _ _
        refine own_go (fun t k => XS.ifYes X37.here hx rfl (pc0 := 114) (pc' := 127) rfl (hb hby at_114) rfl ((if0 _ _).trans (own_ne (x := (1 : Int32)) (y := (0 : Int32)) (i := 1) (j := 0) rfl rfl (by decide)).2) (by decide) (by decide) k) ?_
        show own_End p e below s (T37.setTop (mkF m 127 #[.val (.int p0), .val (.long q1), .second, .val (.long q2), .second, .val (.long q3), .second, .val (.int p4), .val (.long nW), .second, .val (.long nA), .second, .val (.int (1 : Int32)), .val (.ref aI), .val (.ref aN), .val (.ref b36), .unset] [])) _ _ _
        refine own_go (fun t k => XS.iconst X37.here hx rfl (hb hby at_127) k) ?_
        show own_End p e below s (T37.setTop (mkF m 128 #[.val (.int p0), .val (.long q1), .second, .val (.long q2), .second, .val (.long q3), .second, .val (.int p4), .val (.long nW), .second, .val (.long nA), .second, .val (.int (1 : Int32)), .val (.ref aI), .val (.ref aN), .val (.ref b36), .unset] [(.int (1 : Int32))])) _ _ _
        refine own_go (fun t k => XS.goto X37.here hx rfl (pc0 := 128) (pc' := 132) rfl (hb hby at_128) (by decide) (by decide) k) ?_
        show own_End p e below s (T37.setTop (mkF m 132 #[.val (.int p0), .val (.long q1), .second, .val (.long q2), .second, .val (.long q3), .second, .val (.int p4), .val (.long nW), .second, .val (.long nA), .second, .val (.int (1 : Int32)), .val (.ref aI), .val (.ref aN), .val (.ref b36), .unset] [(.int (1 : Int32))])) _ _ _
        refine own_go (fun t k => XS.istore X37.here hx rfl (hb hby at_132) rfl (l' := #[.val (.int p0), .val (.long q1), .second, .val (.long q2), .second, .val (.long q3), .second, .val (.int p4), .val (.long nW), .second, .val (.long nA), .second, .val (.int (1 : Int32)), .val (.ref aI), .val (.ref aN), .val (.ref b36), .val (.int (1 : Int32))]) rfl k) ?_
        show own_End p e below s (T37.setTop (mkF m 134 #[.val (.int p0), .val (.long q1), .second, .val (.long q2), .second, .val (.long q3), .second, .val (.int p4), .val (.long nW), .second, .val (.long nA), .second, .val (.int (1 : Int32)), .val (.ref aI), .val (.ref aN), .val (.ref b36), .val (.int (1 : Int32))] [])) _ _ _
        refine own_go (fun t k => XS.aload X37.here hx rfl (hb hby at_134) rfl rfl k) ?_
        show own_End p e below s (T37.setTop (mkF m 136 #[.val (.int p0), .val (.long q1), .second, .val (.long q2), .second, .val (.long q3), .second, .val (.int p4), .val (.long nW), .second, .val (.long nA), .second, .val (.int (1 : Int32)), .val (.ref aI), .val (.ref aN), .val (.ref b36), .val (.int (1 : Int32))] [(.ref b36)])) _ _ _
        have U38 := ((E_aN.ext E36).keep K37)
        have U39 := ((FN_nWrong.ext E36).keep K37 (ninS ne_aN_b36 nin0))
        have U40 := ((FN_nAborts.ext E36).keep K37 (ninS ne_aN_b36 nin0))
        obtain ⟨cq41, kq41, q41a, q41b, q41c⟩ := isOf hZ rfl Ex37
        obtain ⟨_, _, ⟨T41, L41, k41, n41⟩, -, X41, ⟨Lc41, hQ41, l41, y41, z41⟩, st41⟩ := X37.virtualBack hx (y := (⟨"com/example/interweave/interweave/cli/BenchRun", "areReadingsRight", "()Z"⟩ : MethodName)) (z := (⟨"com/example/interweave/interweave/cli/BenchRun", "areReadingsRight", "()Z"⟩ : MethodName)) hown (mvT hZ (hw _ (List.mem_of_getElem? (i := 48) rfl))) (mvT hZ (hw _ (List.mem_of_getElem? (i := 49) rfl))) (notFace_of_selects (args := #[]) (mvT hZ (hw _ (List.mem_of_getElem? (i := 51) rfl)))) (mvT hZ (hw _ (List.mem_of_getElem? (i := 51) rfl))) (mvT hZ (hw _ (List.mem_of_getElem? (i := 50) rfl))) (by decide) (backOf (W := 0) (rm6 l Z a0 hw [] b36 aN (0 : Int64) (0 : Int64) T37.heap n0 Z37 Fa37 U38 U39 U40) hZ (hw _ (List.mem_of_getElem? (i := 52) rfl)) (hw _ (List.mem_of_getElem? (i := 29) rfl)) (by decide) (by decide)) q41a q41c (g := (mkF m 136 #[.val (.int p0), .val (.long q1), .second, .val (.long q2), .second, .val (.long q3), .second, .val (.int p4), .val (.long nW), .second, .val (.long nA), .second, .val (.int (1 : Int32)), .val (.ref aI), .val (.ref aN), .val (.ref b36), .val (.int (1 : Int32))] [(.ref b36)])) rfl (by rw [hml]; rfl) (Steps.refl _) (argsL := []) (rest := []) (lenOf own_pd4 rfl) rfl (by show 2 * 0 + _ ≤ _; exact Nat.le_of_eq rfl) (hb hby at_136) (fun _ _ => ⟨rfl, rfl, (by decide : 1 + 0 ≤ _), (by decide : 7 + 0 ≤ _)⟩)
        dsimp only [Pt.U, Pt.locs, Pt.cells, Pt.slots] at X41 l41 y41 z41 st41 hQ41
        subst l41 y41 z41
        obtain ⟨⟨r41, rfl, hr41⟩, N41q, e41⟩ := hQ41
        have N41 := Fr.app N37 N41q
        refine own_go (fun t k => st41.trans k) ?_
        show own_End p e below s (T41.setTop (mkF m 139 #[.val (.int p0), .val (.long q1), .second, .val (.long q2), .second, .val (.long q3), .second, .val (.int p4), .val (.long nW), .second, .val (.long nA), .second, .val (.int (1 : Int32)), .val (.ref aI), .val (.ref aN), .val (.ref b36), .val (.int (1 : Int32))] [(.int r41)])) _ _ _
        refine own_go (fun t k => XS.iload X41.here hx rfl (hb hby at_139) rfl k) ?_
        show own_End p e below s (T41.setTop (mkF m 141 #[.val (.int p0), .val (.long q1), .second, .val (.long q2), .second, .val (.long q3), .second, .val (.int p4), .val (.long nW), .second, .val (.long nA), .second, .val (.int (1 : Int32)), .val (.ref aI), .val (.ref aN), .val (.ref b36), .val (.int (1 : Int32))] [(.int (1 : Int32)), (.int r41)])) _ _ _
        refine own_go (fun t k => XS.icmpNo X41.here hx rfl (hb hby at_141) rfl (own_eq (x := r41) (y := (1 : Int32)) (i := r41.toInt) (j := 1) rfl rfl (by omega)).2 k) ?_
        show own_End p e below s (T41.setTop (mkF m 144 #[.val (.int p0), .val (.long q1), .second, .val (.long q2), .second, .val (.long q3), .second, .val (.int p4), .val (.long nW), .second, .val (.long nA), .second, .val (.int (1 : Int32)), .val (.ref aI), .val (.ref aN), .val (.ref b36), .val (.int (1 : Int32))] [])) _ _ _
        refine own_go (fun t k => XS.iconst X41.here hx rfl (hb hby at_144) k) ?_
        show own_End p e below s (T41.setTop (mkF m 145 #[.val (.int p0), .val (.long q1), .second, .val (.long q2), .second, .val (.long q3), .second, .val (.int p4), .val (.long nW), .second, .val (.long nA), .second, .val (.int (1 : Int32)), .val (.ref aI), .val (.ref aN), .val (.ref b36), .val (.int (1 : Int32))] [(.int (1 : Int32))])) _ _ _
        refine own_go (fun t k => XS.goto X41.here hx rfl (pc0 := 145) (pc' := 149) rfl (hb hby at_145) (by decide) (by decide) k) ?_
        show own_End p e below s (T41.setTop (mkF m 149 #[.val (.int p0), .val (.long q1), .second, .val (.long q2), .second, .val (.long q3), .second, .val (.int p4), .val (.long nW), .second, .val (.long nA), .second, .val (.int (1 : Int32)), .val (.ref aI), .val (.ref aN), .val (.ref b36), .val (.int (1 : Int32))] [(.int (1 : Int32))])) _ _ _
        refine own_ret X41 (v := some (.int (1 : Int32))) (fun h => by rw [Bd.returns] at h; cases h) Bd.notSynchronized (fun fs hr => retN X41 hx (t := .boolean) Bd.returns (by simp) (hb hby at_149) hr) ?_ (by decide) (by decide)
        · exact ⟨rfl, N41⟩
      · skip
        refine own_go (fun t k => XS.ifNo X0.here hx rfl (hb hby at_47) rfl ((if0 _ _).trans (own_ne (x := (p4 &&& (8 : Int32))) (y := (0 : Int32)) (i := (p4 &&& (8 : Int32)).toInt) (j := 0) rfl rfl c47_33).1) k) ?_
        show own_End p e below s (s₁.setTop (mkF m 50 #[.val (.int p0), .val (.long q1), .second, .val (.long q2), .second, .val (.long q3), .second, .val (.int p4), .val (.long nW), .second, .val (.long nA), .second, .val (.int (1 : Int32)), .unset, .unset, .unset, .unset] [])) _ _ _
        obtain ⟨T42, X42, e42, st42⟩ := getS2 X0 hx hZ hown (host := "") (Or.inl (hw _ (List.mem_of_getElem? (i := 63) rfl))) Via.refl e0 S_SNAPSHOT (g := (mkF m 50 #[.val (.int p0), .val (.long q1), .second, .val (.long q2), .second, .val (.long q3), .second, .val (.int p4), .val (.long nW), .second, .val (.long nA), .second, .val (.int (1 : Int32)), .unset, .unset, .unset, .unset] [])) rfl (hb hby at_50)
        refine own_go st42 ?_
        show own_End p e below s (T42.setTop (mkF m 53 #[.val (.int p0), .val (.long q1), .second, .val (.long q2), .second, .val (.long q3), .second, .val (.int p4), .val (.long nW), .second, .val (.long nA), .second, .val (.int (1 : Int32)), .unset, .unset, .unset, .unset] [(.ref aS)])) _ _ _
        refine own_go (fun t k => XS.goto X42.here hx rfl (pc0 := 53) (pc' := 59) rfl (hb hby at_53) (by decide) (by decide) k) ?_
        show own_End p e below s (T42.setTop (mkF m 59 #[.val (.int p0), .val (.long q1), .second, .val (.long q2), .second, .val (.long q3), .second, .val (.int p4), .val (.long nW), .second, .val (.long nA), .second, .val (.int (1 : Int32)), .unset, .unset, .unset, .unset] [(.ref aS)])) _ _ _
        refine own_go (fun t k => XS.astore X42.here hx rfl (hb hby at_59) rfl rfl (l' := #[.val (.int p0), .val (.long q1), .second, .val (.long q2), .second, .val (.long q3), .second, .val (.int p4), .val (.long nW), .second, .val (.long nA), .second, .val (.int (1 : Int32)), .val (.ref aS), .unset, .unset, .unset]) rfl k) ?_
        show own_End p e below s (T42.setTop (mkF m 61 #[.val (.int p0), .val (.long q1), .second, .val (.long q2), .second, .val (.long q3), .second, .val (.int p4), .val (.long nW), .second, .val (.long nA), .second, .val (.int (1 : Int32)), .val (.ref aS), .unset, .unset, .unset] [])) _ _ _
        refine own_go (fun t k => XS.iload X42.here hx rfl (hb hby at_61) rfl k) ?_
        show own_End p e below s (T42.setTop (mkF m 63 #[.val (.int p0), .val (.long q1), .second, .val (.long q2), .second, .val (.long q3), .second, .val (.int p4), .val (.long nW), .second, .val (.long nA), .second, .val (.int (1 : Int32)), .val (.ref aS), .unset, .unset, .unset] [(.int (1 : Int32))])) _ _ _
        refine own_go (fun t k => XS.ifNo X42.here hx rfl (hb hby at_63) rfl ((if0 _ _).trans (own_ne (x := (1 : Int32)) (y := (0 : Int32)) (i := 1) (j := 0) rfl rfl (by decide)).1) k) ?_
        show own_End p e below s (T42.setTop (mkF m 66 #[.val (.int p0), .val (.long q1), .second, .val (.long q2), .second, .val (.long q3), .second, .val (.int p4), .val (.long nW), .second, .val (.long nA), .second, .val (.int (1 : Int32)), .val (.ref aS), .unset, .unset, .unset] [])) _ _ _
        obtain ⟨T43, X43, e43, st43⟩ := getS2 X42 hx hZ hown (host := "") (Or.inl (hw _ (List.mem_of_getElem? (i := 65) rfl))) Via.refl e42 S_NONE (g := (mkF m 66 #[.val (.int p0), .val (.long q1), .second, .val (.long q2), .second, .val (.long q3), .second, .val (.int p4), .val (.long nW), .second, .val (.long nA), .second, .val (.int (1 : Int32)), .val (.ref aS), .unset, .unset, .unset] [])) rfl (hb hby at_66)
        refine own_go st43 ?_
        show own_End p e below s (T43.setTop (mkF m 69 #[.val (.int p0), .val (.long q1), .second, .val (.long q2), .second, .val (.long q3), .second, .val (.int p4), .val (.long nW), .second, .val (.long nA), .second, .val (.int (1 : Int32)), .val (.ref aS), .unset, .unset, .unset] [(.ref aN)])) _ _ _
        refine own_go (fun t k => XS.goto X43.here hx rfl (pc0 := 69) (pc' := 88) rfl (hb hby at_69) (by decide) (by decide) k) ?_
        show own_End p e below s (T43.setTop (mkF m 88 #[.val (.int p0), .val (.long q1), .second, .val (.long q2), .second, .val (.long q3), .second, .val (.int p4), .val (.long nW), .second, .val (.long nA), .second, .val (.int (1 : Int32)), .val (.ref aS), .unset, .unset, .unset] [(.ref aN)])) _ _ _
        refine own_go (fun t k => XS.astore X43.here hx rfl (hb hby at_88) rfl rfl (l' := #[.val (.int p0), .val (.long q1), .second, .val (.long q2), .second, .val (.long q3), .second, .val (.int p4), .val (.long nW), .second, .val (.long nA), .second, .val (.int (1 : Int32)), .val (.ref aS), .val (.ref aN), .unset, .unset]) rfl k) ?_
        show own_End p e below s (T43.setTop (mkF m 90 #[.val (.int p0), .val (.long q1), .second, .val (.long q2), .second, .val (.long q3), .second, .val (.int p4), .val (.long nW), .second, .val (.long nA), .second, .val (.int (1 : Int32)), .val (.ref aS), .val (.ref aN), .unset, .unset] [])) _ _ _
        obtain ⟨T44, h44, X44, e44, E44, A44, D44, -, st44⟩ := newO X43 hx hZ hown (hw _ (List.mem_of_getElem? (i := 27) rfl)) (hw _ (List.mem_of_getElem? (i := 28) rfl)) (hw _ (List.mem_of_getElem? (i := 29) rfl)) e43 (g := (mkF m 90 #[.val (.int p0), .val (.long q1), .second, .val (.long q2), .second, .val (.long q3), .second, .val (.int p4), .val (.long nW), .second, .val (.long nA), .second, .val (.int (1 : Int32)), .val (.ref aS), .val (.ref aN), .unset, .unset] [])) rfl (hb hby at_90) (by decide) (by decide)
        obtain ⟨b44, g44⟩ : ∃ z, z = h0.size := ⟨_, rfl⟩
        rw [← g44] at A44 D44 st44
        have g_b44 : n0 ≤ b44 := Nat.le_trans Z0 (Nat.le_of_eq g44.symm)
        have ne_aN_b44 : aN ≠ b44 := Nat.ne_of_lt (Nat.lt_of_lt_of_le E_aN.lt (Nat.le_of_eq g44.symm))
        have Z44 : n0 ≤ h44.size := Nat.le_trans Z0 E44.1
        have F_m_nThreads_b44 : Fld Z h44 b44 "com/example/interweave/interweave/cli/BenchRun" "m_nThreads" "I" (.int (0 : Int32)) := D44 (Or.inr (hw _ (List.mem_of_getElem? (i := 35) rfl))) (ty := .int) (by decide)
        have F_m_nCommitted_b44 : Fld Z h44 b44 "com/example/interweave/interweave/cli/BenchRun" "m_nCommitted" "J" (.long (0 : Int64)) := D44 (Or.inr (hw _ (List.mem_of_getElem? (i := 37) rfl))) (ty := .long) (by decide)
        have F_m_nAborted_b44 : Fld Z h44 b44 "com/example/interweave/interweave/cli/BenchRun" "m_nAborted" "J" (.long (0 : Int64)) := D44 (Or.inr (hw _ (List.mem_of_getElem? (i := 39) rfl))) (ty := .long) (by decide)
        have F_m_nNanos_b44 : Fld Z h44 b44 "com/example/interweave/interweave/cli/BenchRun" "m_nNanos" "J" (.long (0 : Int64)) := D44 (Or.inr (hw _ (List.mem_of_getElem? (i := 41) rfl))) (ty := .long) (by decide)
        have F_m_nSyncs_b44 : Fld Z h44 b44 "com/example/interweave/interweave/cli/BenchRun" "m_nSyncs" "J" (.long (0 : Int64)) := D44 (Or.inr (hw _ (List.mem_of_getElem? (i := 43) rfl))) (ty := .long) (by decide)
        have F_m_aReadings_b44 : Fld Z h44 b44 "com/example/interweave/interweave/cli/BenchRun" "m_aReadings" "Lcom/example/interweave/interweave/cli/BenchRun$Readings;" .null := D44 (Or.inr (hw _ (List.mem_of_getElem? (i := 45) rfl))) (ty := (.object "com/example/interweave/interweave/cli/BenchRun$Readings")) (by decide)
        have F_m_eIsolation_b44 : Fld Z h44 b44 "com/example/interweave/interweave/cli/BenchRun" "m_eIsolation" "Lcom/example/interweave/interweave/Isolation;" .null := D44 (Or.inr (hw _ (List.mem_of_getElem? (i := 47) rfl))) (ty := (.object "com/example/interweave/interweave/Isolation")) (by decide)
        refine own_go st44 ?_
        show own_End p e below s (T44.setTop (mkF m 93 #[.val (.int p0), .val (.long q1), .second, .val (.long q2), .second, .val (.long q3), .second, .val (.int p4), .val (.long nW), .second, .val (.long nA), .second, .val (.int (1 : Int32)), .val (.ref aS), .val (.ref aN), .unset, .unset] [(.ref b44)])) _ _ _
        refine own_go (fun t k => XS.dup X44.here hx rfl (hb hby at_93) rfl rfl k) ?_
        show own_End p e below s (T44.setTop (mkF m 94 #[.val (.int p0), .val (.long q1), .second, .val (.long q2), .second, .val (.long q3), .second, .val (.int p4), .val (.long nW), .second, .val (.long nA), .second, .val (.int (1 : Int32)), .val (.ref aS), .val (.ref aN), .unset, .unset] [(.ref b44), (.ref b44)])) _ _ _
        refine own_go (fun t k => XS.iloadN X44.here hx rfl (hb hby at_94) rfl k) ?_
        show own_End p e below s (T44.setTop (mkF m 95 #[.val (.int p0), .val (.long q1), .second, .val (.long q2), .second, .val (.long q3), .second, .val (.int p4), .val (.long nW), .second, .val (.long nA), .second, .val (.int (1 : Int32)), .val (.ref aS), .val (.ref aN), .unset, .unset] [(.int p0), (.ref b44), (.ref b44)])) _ _ _
        refine own_go (fun t k => XS.lload X44.here hx rfl (hb hby at_95) rfl k) ?_
        show own_End p e below s (T44.setTop (mkF m 97 #[.val (.int p0), .val (.long q1), .second, .val (.long q2), .second, .val (.long q3), .second, .val (.int p4), .val (.long nW), .second, .val (.long nA), .second, .val (.int (1 : Int32)), .val (.ref aS), .val (.ref aN), .unset, .unset] [(.long q3), (.int p0), (.ref b44), (.ref b44)])) _ _ _
        refine own_go (fun t k => XS.lload X44.here hx rfl (hb hby at_97) rfl k) ?_
        show own_End p e below s (T44.setTop (mkF m 99 #[.val (.int p0), .val (.long q1), .second, .val (.long q2), .second, .val (.long q3), .second, .val (.int p4), .val (.long nW), .second, .val (.long nA), .second, .val (.int (1 : Int32)), .val (.ref aS), .val (.ref aN), .unset, .unset] [(.long nW), (.long q3), (.int p0), (.ref b44), (.ref b44)])) _ _ _
        refine own_go (fun t k => XS.lload X44.here hx rfl (hb hby at_99) rfl k) ?_
        show own_End p e below s (T44.setTop (mkF m 101 #[.val (.int p0), .val (.long q1), .second, .val (.long q2), .second, .val (.long q3), .second, .val (.int p4), .val (.long nW), .second, .val (.long nA), .second, .val (.int (1 : Int32)), .val (.ref aS), .val (.ref aN), .unset, .unset] [(.long q3), (.long nW), (.long q3), (.int p0), (.ref b44), (.ref b44)])) _ _ _
        refine own_go (fun t k => XS.lload X44.here hx rfl (hb hby at_101) rfl k) ?_
        show own_End p e below s (T44.setTop (mkF m 103 #[.val (.int p0), .val (.long q1), .second, .val (.long q2), .second, .val (.long q3), .second, .val (.int p4), .val (.long nW), .second, .val (.long nA), .second, .val (.int (1 : Int32)), .val (.ref aS), .val (.ref aN), .unset, .unset] [(.long nA), (.long q3), (.long nW), (.long q3), (.int p0), (.ref b44), (.ref b44)])) _ _ _
        refine own_go (fun t k => XS.aload X44.here hx rfl (hb hby at_103) rfl rfl k) ?_
        show own_End p e below s (T44.setTop (mkF m 105 #[.val (.int p0), .val (.long q1), .second, .val (.long q2), .second, .val (.long q3), .second, .val (.int p4), .val (.long nW), .second, .val (.long nA), .second, .val (.int (1 : Int32)), .val (.ref aS), .val (.ref aN), .unset, .unset] [(.ref aN), (.long nA), (.long q3), (.long nW), (.long q3), (.int p0), (.ref b44), (.ref b44)])) _ _ _
        refine own_go (fun t k => XS.aload X44.here hx rfl (hb hby at_105) rfl rfl k) ?_
        show own_End p e below s (T44.setTop (mkF m 107 #[.val (.int p0), .val (.long q1), .second, .val (.long q2), .second, .val (.long q3), .second, .val (.int p4), .val (.long nW), .second, .val (.long nA), .second, .val (.int (1 : Int32)), .val (.ref aS), .val (.ref aN), .unset, .unset] [(.ref aS), (.ref aN), (.long nA), (.long q3), (.long nW), (.long q3), (.int p0), (.ref b44), (.ref b44)])) _ _ _
        obtain ⟨_, _, ⟨T45, L45, k45, n45⟩, -, X45, ⟨Lc45, hQ45, l45, y45, z45⟩, st45⟩ := X44.specialBack hx (y := (⟨"com/example/interweave/interweave/cli/BenchRun", "<init>", "(IJJJJLcom/example/interweave/interweave/cli/BenchRun$Readings;Lcom/example/interweave/interweave/Isolation;)V"⟩ : MethodName)) rfl hown (mvT hZ (hw _ (List.mem_of_getElem? (i := 30) rfl))) (mvT hZ (hw _ (List.mem_of_getElem? (i := 31) rfl))) (mvT hZ (hw _ (List.mem_of_getElem? (i := 32) rfl))) (by decide) (backOf (W := 1) (rm3 l Z a0 hw [] b44 p0 q3 nW q3 nA aN aS h44 n0 Z44 g_b44 A44 F_m_nThreads_b44 F_m_nCommitted_b44 F_m_nAborted_b44 F_m_nNanos_b44 F_m_nSyncs_b44 F_m_aReadings_b44 F_m_eIsolation_b44) hZ (hw _ (List.mem_of_getElem? (i := 32) rfl)) (hw _ (List.mem_of_getElem? (i := 29) rfl)) (by decide) (by decide)) (g := (mkF m 107 #[.val (.int p0), .val (.long q1), .second, .val (.long q2), .second, .val (.long q3), .second, .val (.int p4), .val (.long nW), .second, .val (.long nA), .second, .val (.int (1 : Int32)), .val (.ref aS), .val (.ref aN), .unset, .unset] [(.ref aS), (.ref aN), (.long nA), (.long q3), (.long nW), (.long q3), (.int p0), (.ref b44), (.ref b44)])) rfl (by rw [hml]; rfl) (Steps.refl _) (a := b44) (argsL := [(.int p0), (.long q3), (.long nW), (.long q3), (.long nA), (.ref aN), (.ref aS)]) (rest := [(.ref b44)]) (lenOf own_pd3 rfl) rfl (by show 2 * 0 + _ ≤ _; exact Nat.le_of_eq rfl) (hb hby at_107) (fun _ _ => ⟨rfl, e44, (by decide : 1 + 0 ≤ _), (by decide : 7 + 0 ≤ _)⟩)
        dsimp only [Pt.U, Pt.locs, Pt.cells, Pt.slots] at X45 l45 y45 z45 st45 hQ45
        subst l45 y45 z45
        obtain ⟨rfl, N45q, K45, Ex45, Fa45⟩ := hQ45
        have N45 := Fr.app N0 N45q
        have Z45 : n0 ≤ T45.heap.size := Nat.le_trans Z44 K45.1
        refine own_go (fun t k => st45.trans k) ?_
        show own_End p e below s (T45.setTop (mkF m 110 #[.val (.int p0), .val (.long q1), .second, .val (.long q2), .second, .val (.long q3), .second, .val (.int p4), .val (.long nW), .second, .val (.long nA), .second, .val (.int (1 : Int32)), .val (.ref aS), .val (.ref aN), .unset, .unset] [(.ref b44)])) _ _ _
        refine own_go (fun t k => XS.astore X45.here hx rfl (hb hby at_110) rfl rfl (l' := #[.val (.int p0), .val (.long q1), .second, .val (.long q2), .second, .val (.long q3), .second, .val (.int p4), .val (.long nW), .second, .val (.long nA), .second, .val (.int (1 : Int32)), .val (.ref aS), .val (.ref aN), .val (.ref b44), .unset]) rfl k) ?_
        show own_End p e below s (T45.setTop (mkF m 112 #[.val (.int p0), .val (.long q1), .second, .val (.long q2), .second, .val (.long q3), .second, .val (.int p4), .val (.long nW), .second, .val (.long nA), .second, .val (.int (1 : Int32)), .val (.ref aS), .val (.ref aN), .val (.ref b44), .unset] [])) _ _ _
        refine own_go (fun t k => XS.iload X45.here hx rfl (hb hby at_112) rfl k) ?_
        show own_End p e below s (T45.setTop (mkF m 114 #[.val (.int p0), .val (.long q1), .second, .val (.long q2), .second, .val (.long q3), .second, .val (.int p4), .val (.long nW), .second, .val (.long nA), .second, .val (.int (1 : Int32)), .val (.ref aS), .val (.ref aN), .val (.ref b44), .unset] [(.int (1 : Int32))])) _ _ _
        refine own_go (fun t k => XS.ifYes X45.here hx rfl (pc0 := 114) (pc' := 127) rfl (hb hby at_114) rfl ((if0 _ _).trans (own_ne (x := (1 : Int32)) (y := (0 : Int32)) (i := 1) (j := 0) rfl rfl (by decide)).2) (by decide) (by decide) k) ?_
        show own_End p e below s (T45.setTop (mkF m 127 #[.val (.int p0), .val (.long q1), .second, .val (.long q2), .second, .val (.long q3), .second, .val (.int p4), .val (.long nW), .second, .val (.long nA), .second, .val (.int (1 : Int32)), .val (.ref aS), .val (.ref aN), .val (.ref b44), .unset] [])) _ _ _
        refine own_go (fun t k => XS.iconst X45.here hx rfl (hb hby at_127) k) ?_
        show own_End p e below s (T45.setTop (mkF m 128 #[.val (.int p0), .val (.long q1), .second, .val (.long q2), .second, .val (.long q3), .second, .val (.int p4), .val (.long nW), .second, .val (.long nA), .second, .val (.int (1 : Int32)), .val (.ref aS), .val (.ref aN), .val (.ref b44), .unset] [(.int (1 : Int32))])) _ _ _
        refine own_go (fun t k => XS.goto X45.here hx rfl (pc0 := 128) (pc' := 132) rfl (hb hby at_128) (by decide) (by decide) k) ?_
        show own_End p e below s (T45.setTop (mkF m 132 #[.val (.int p0), .val (.long q1), .second, .val (.long q2), .second, .val (.long q3), .second, .val (.int p4), .val (.long nW), .second, .val (.long nA), .second, .val (.int (1 : Int32)), .val (.ref aS), .val (.ref aN), .val (.ref b44), .unset] [(.int (1 : Int32))])) _ _ _
        refine own_go (fun t k => XS.istore X45.here hx rfl (hb hby at_132) rfl (l' := #[.val (.int p0), .val (.long q1), .second, .val (.long q2), .second, .val (.long q3), .second, .val (.int p4), .val (.long nW), .second, .val (.long nA), .second, .val (.int (1 : Int32)), .val (.ref aS), .val (.ref aN), .val (.ref b44), .val (.int (1 : Int32))]) rfl k) ?_
        show own_End p e below s (T45.setTop (mkF m 134 #[.val (.int p0), .val (.long q1), .second, .val (.long q2), .second, .val (.long q3), .second, .val (.int p4), .val (.long nW), .second, .val (.long nA), .second, .val (.int (1 : Int32)), .val (.ref aS), .val (.ref aN), .val (.ref b44), .val (.int (1 : Int32))] [])) _ _ _
        refine own_go (fun t k => XS.aload X45.here hx rfl (hb hby at_134) rfl rfl k) ?_
        show own_End p e below s (T45.setTop (mkF m 136 #[.val (.int p0), .val (.long q1), .second, .val (.long q2), .second, .val (.long q3), .second, .val (.int p4), .val (.long nW), .second, .val (.long nA), .second, .val (.int (1 : Int32)), .val (.ref aS), .val (.ref aN), .val (.ref b44), .val (.int (1 : Int32))] [(.ref b44)])) _ _ _
        have U46 := ((E_aN.ext E44).keep K45)
        have U47 := ((FN_nWrong.ext E44).keep K45 (ninS ne_aN_b44 nin0))
        have U48 := ((FN_nAborts.ext E44).keep K45 (ninS ne_aN_b44 nin0))
        obtain ⟨cq49, kq49, q49a, q49b, q49c⟩ := isOf hZ rfl Ex45
        obtain ⟨_, _, ⟨T49, L49, k49, n49⟩, -, X49, ⟨Lc49, hQ49, l49, y49, z49⟩, st49⟩ := X45.virtualBack hx (y := (⟨"com/example/interweave/interweave/cli/BenchRun", "areReadingsRight", "()Z"⟩ : MethodName)) (z := (⟨"com/example/interweave/interweave/cli/BenchRun", "areReadingsRight", "()Z"⟩ : MethodName)) hown (mvT hZ (hw _ (List.mem_of_getElem? (i := 48) rfl))) (mvT hZ (hw _ (List.mem_of_getElem? (i := 49) rfl))) (notFace_of_selects (args := #[]) (mvT hZ (hw _ (List.mem_of_getElem? (i := 51) rfl)))) (mvT hZ (hw _ (List.mem_of_getElem? (i := 51) rfl))) (mvT hZ (hw _ (List.mem_of_getElem? (i := 50) rfl))) (by decide) (backOf (W := 0) (rm6 l Z a0 hw [] b44 aN (0 : Int64) (0 : Int64) T45.heap n0 Z45 Fa45 U46 U47 U48) hZ (hw _ (List.mem_of_getElem? (i := 52) rfl)) (hw _ (List.mem_of_getElem? (i := 29) rfl)) (by decide) (by decide)) q49a q49c (g := (mkF m 136 #[.val (.int p0), .val (.long q1), .second, .val (.long q2), .second, .val (.long q3), .second, .val (.int p4), .val (.long nW), .second, .val (.long nA), .second, .val (.int (1 : Int32)), .val (.ref aS), .val (.ref aN), .val (.ref b44), .val (.int (1 : Int32))] [(.ref b44)])) rfl (by rw [hml]; rfl) (Steps.refl _) (argsL := []) (rest := []) (lenOf own_pd4 rfl) rfl (by show 2 * 0 + _ ≤ _; exact Nat.le_of_eq rfl) (hb hby at_136) (fun _ _ => ⟨rfl, rfl, (by decide : 1 + 0 ≤ _), (by decide : 7 + 0 ≤ _)⟩)
        dsimp only [Pt.U, Pt.locs, Pt.cells, Pt.slots] at X49 l49 y49 z49 st49 hQ49
        subst l49 y49 z49
        obtain ⟨⟨r49, rfl, hr49⟩, N49q, e49⟩ := hQ49
        have N49 := Fr.app N45 N49q
        refine own_go (fun t k => st49.trans k) ?_
        show own_End p e below s (T49.setTop (mkF m 139 #[.val (.int p0), .val (.long q1), .second, .val (.long q2), .second, .val (.long q3), .second, .val (.int p4), .val (.long nW), .second, .val (.long nA), .second, .val (.int (1 : Int32)), .val (.ref aS), .val (.ref aN), .val (.ref b44), .val (.int (1 : Int32))] [(.int r49)])) _ _ _
        refine own_go (fun t k => XS.iload X49.here hx rfl (hb hby at_139) rfl k) ?_
        show own_End p e below s (T49.setTop (mkF m 141 #[.val (.int p0), .val (.long q1), .second, .val (.long q2), .second, .val (.long q3), .second, .val (.int p4), .val (.long nW), .second, .val (.long nA), .second, .val (.int (1 : Int32)), .val (.ref aS), .val (.ref aN), .val (.ref b44), .val (.int (1 : Int32))] [(.int (1 : Int32)), (.int r49)])) _ _ _
        refine own_go (fun t k => XS.icmpNo X49.here hx rfl (hb hby at_141) rfl (own_eq (x := r49) (y := (1 : Int32)) (i := r49.toInt) (j := 1) rfl rfl (by omega)).2 k) ?_
        show own_End p e below s (T49.setTop (mkF m 144 #[.val (.int p0), .val (.long q1), .second, .val (.long q2), .second, .val (.long q3), .second, .val (.int p4), .val (.long nW), .second, .val (.long nA), .second, .val (.int (1 : Int32)), .val (.ref aS), .val (.ref aN), .val (.ref b44), .val (.int (1 : Int32))] [])) _ _ _
        refine own_go (fun t k => XS.iconst X49.here hx rfl (hb hby at_144) k) ?_
        show own_End p e below s (T49.setTop (mkF m 145 #[.val (.int p0), .val (.long q1), .second, .val (.long q2), .second, .val (.long q3), .second, .val (.int p4), .val (.long nW), .second, .val (.long nA), .second, .val (.int (1 : Int32)), .val (.ref aS), .val (.ref aN), .val (.ref b44), .val (.int (1 : Int32))] [(.int (1 : Int32))])) _ _ _
        refine own_go (fun t k => XS.goto X49.here hx rfl (pc0 := 145) (pc' := 149) rfl (hb hby at_145) (by decide) (by decide) k) ?_
        show own_End p e below s (T49.setTop (mkF m 149 #[.val (.int p0), .val (.long q1), .second, .val (.long q2), .second, .val (.long q3), .second, .val (.int p4), .val (.long nW), .second, .val (.long nA), .second, .val (.int (1 : Int32)), .val (.ref aS), .val (.ref aN), .val (.ref b44), .val (.int (1 : Int32))] [(.int (1 : Int32))])) _ _ _
        refine own_ret X49 (v := some (.int (1 : Int32))) (fun h => by rw [Bd.returns] at h; cases h) Bd.notSynchronized (fun fs hr => retN X49 hx (t := .boolean) Bd.returns (by simp) (hb hby at_149) hr) ?_ (by decide) (by decide)
        · exact ⟨rfl, N49⟩
  have J12 : ∀ (nW : Int64), own_End p e below s (s₁.setTop (mkF m 12 #[.val (.int p0), .val (.long q1), .second, .val (.long q2), .second, .val (.long q3), .second, .val (.int p4), .unset, .unset, .unset, .unset, .unset, .unset, .unset, .unset, .unset] [(.long nW)])) (Q_rm0 Z p0 q1 q2 q3 p4 aS aI aN h0 n0) room_1.cells room_1.slots := by
    intro nW
    show own_End p e below s (s₁.setTop (mkF m 12 #[.val (.int p0), .val (.long q1), .second, .val (.long q2), .second, .val (.long q3), .second, .val (.int p4), .unset, .unset, .unset, .unset, .unset, .unset, .unset, .unset, .unset] [(.long nW)])) _ _ _
    refine own_go (fun t k => XS.lstore X0.here hx rfl (hb hby at_12) rfl (l' := #[.val (.int p0), .val (.long q1), .second, .val (.long q2), .second, .val (.long q3), .second, .val (.int p4), .val (.long nW), .second, .unset, .unset, .unset, .unset, .unset, .unset, .unset]) rfl k) ?_
    show own_End p e below s (s₁.setTop (mkF m 14 #[.val (.int p0), .val (.long q1), .second, .val (.long q2), .second, .val (.long q3), .second, .val (.int p4), .val (.long nW), .second, .unset, .unset, .unset, .unset, .unset, .unset, .unset] [])) _ _ _
    refine own_go (fun t k => XS.iload X0.here hx rfl (hb hby at_14) rfl k) ?_
    show own_End p e below s (s₁.setTop (mkF m 16 #[.val (.int p0), .val (.long q1), .second, .val (.long q2), .second, .val (.long q3), .second, .val (.int p4), .val (.long nW), .second, .unset, .unset, .unset, .unset, .unset, .unset, .unset] [(.int p4)])) _ _ _
    refine own_go (fun t k => XS.iconst X0.here hx rfl (hb hby at_16) k) ?_
    show own_End p e below s (s₁.setTop (mkF m 17 #[.val (.int p0), .val (.long q1), .second, .val (.long q2), .second, .val (.long q3), .second, .val (.int p4), .val (.long nW), .second, .unset, .unset, .unset, .unset, .unset, .unset, .unset] [(.int (2 : Int32)), (.int p4)])) _ _ _
    refine own_go (fun t k => XS.iand X0.here hx rfl (hb hby at_17) rfl k) ?_
    show own_End p e below s (s₁.setTop (mkF m 18 #[.val (.int p0), .val (.long q1), .second, .val (.long q2), .second, .val (.long q3), .second, .val (.int p4), .val (.long nW), .second, .unset, .unset, .unset, .unset, .unset, .unset, .unset] [(.int (p4 &&& (2 : Int32)))])) _ _ _
    by_cases c18_50 : (p4 &&& (2 : Int32)).toInt = 0
    · skip
      refine own_go (fun t k => XS.ifYes X0.here hx rfl (pc0 := 18) (pc' := 25) rfl (hb hby at_18) rfl ((if0 _ _).trans (own_eq (x := (p4 &&& (2 : Int32))) (y := (0 : Int32)) (i := (p4 &&& (2 : Int32)).toInt) (j := 0) rfl rfl c18_50).1) (by decide) (by decide) k) ?_
      show own_End p e below s (s₁.setTop (mkF m 25 #[.val (.int p0), .val (.long q1), .second, .val (.long q2), .second, .val (.long q3), .second, .val (.int p4), .val (.long nW), .second, .unset, .unset, .unset, .unset, .unset, .unset, .unset] [])) _ _ _
      refine own_go (fun t k => XS.lloadN X0.here hx rfl (hb hby at_25) rfl k) ?_
      show own_End p e below s (s₁.setTop (mkF m 26 #[.val (.int p0), .val (.long q1), .second, .val (.long q2), .second, .val (.long q3), .second, .val (.int p4), .val (.long nW), .second, .unset, .unset, .unset, .unset, .unset, .unset, .unset] [(.long q2)])) _ _ _
      exact J26 _ _
    · skip
      refine own_go (fun t k => XS.ifNo X0.here hx rfl (hb hby at_18) rfl ((if0 _ _).trans (own_ne (x := (p4 &&& (2 : Int32))) (y := (0 : Int32)) (i := (p4 &&& (2 : Int32)).toInt) (j := 0) rfl rfl c18_50).1) k) ?_
      show own_End p e below s (s₁.setTop (mkF m 21 #[.val (.int p0), .val (.long q1), .second, .val (.long q2), .second, .val (.long q3), .second, .val (.int p4), .val (.long nW), .second, .unset, .unset, .unset, .unset, .unset, .unset, .unset] [])) _ _ _
      refine own_go (fun t k => XS.lconst X0.here hx rfl (hb hby at_21) k) ?_
      show own_End p e below s (s₁.setTop (mkF m 22 #[.val (.int p0), .val (.long q1), .second, .val (.long q2), .second, .val (.long q3), .second, .val (.int p4), .val (.long nW), .second, .unset, .unset, .unset, .unset, .unset, .unset, .unset] [(.long (0 : Int64))])) _ _ _
      refine own_go (fun t k => XS.goto X0.here hx rfl (pc0 := 22) (pc' := 26) rfl (hb hby at_22) (by decide) (by decide) k) ?_
      show own_End p e below s (s₁.setTop (mkF m 26 #[.val (.int p0), .val (.long q1), .second, .val (.long q2), .second, .val (.long q3), .second, .val (.int p4), .val (.long nW), .second, .unset, .unset, .unset, .unset, .unset, .unset, .unset] [(.long (0 : Int64))])) _ _ _
      exact J26 _ _
  refine own_go (fun t k => XS.iload X0.here hx rfl (hb hby at_0) rfl k) ?_
  show own_End p e below s (s₁.setTop (mkF m 2 #[.val (.int p0), .val (.long q1), .second, .val (.long q2), .second, .val (.long q3), .second, .val (.int p4), .unset, .unset, .unset, .unset, .unset, .unset, .unset, .unset, .unset] [(.int p4)])) _ _ _
  refine own_go (fun t k => XS.iconst X0.here hx rfl (hb hby at_2) k) ?_
  show own_End p e below s (s₁.setTop (mkF m 3 #[.val (.int p0), .val (.long q1), .second, .val (.long q2), .second, .val (.long q3), .second, .val (.int p4), .unset, .unset, .unset, .unset, .unset, .unset, .unset, .unset, .unset] [(.int (1 : Int32)), (.int p4)])) _ _ _
  refine own_go (fun t k => XS.iand X0.here hx rfl (hb hby at_3) rfl k) ?_
  show own_End p e below s (s₁.setTop (mkF m 4 #[.val (.int p0), .val (.long q1), .second, .val (.long q2), .second, .val (.long q3), .second, .val (.int p4), .unset, .unset, .unset, .unset, .unset, .unset, .unset, .unset, .unset] [(.int (p4 &&& (1 : Int32)))])) _ _ _
  by_cases c4_51 : (p4 &&& (1 : Int32)).toInt = 0
  · skip
    refine own_go (fun t k => XS.ifYes X0.here hx rfl (pc0 := 4) (pc' := 11) rfl (hb hby at_4) rfl ((if0 _ _).trans (own_eq (x := (p4 &&& (1 : Int32))) (y := (0 : Int32)) (i := (p4 &&& (1 : Int32)).toInt) (j := 0) rfl rfl c4_51).1) (by decide) (by decide) k) ?_
    show own_End p e below s (s₁.setTop (mkF m 11 #[.val (.int p0), .val (.long q1), .second, .val (.long q2), .second, .val (.long q3), .second, .val (.int p4), .unset, .unset, .unset, .unset, .unset, .unset, .unset, .unset, .unset] [])) _ _ _
    refine own_go (fun t k => XS.lloadN X0.here hx rfl (hb hby at_11) rfl k) ?_
    show own_End p e below s (s₁.setTop (mkF m 12 #[.val (.int p0), .val (.long q1), .second, .val (.long q2), .second, .val (.long q3), .second, .val (.int p4), .unset, .unset, .unset, .unset, .unset, .unset, .unset, .unset, .unset] [(.long q1)])) _ _ _
    exact J12 _
  · skip
    refine own_go (fun t k => XS.ifNo X0.here hx rfl (hb hby at_4) rfl ((if0 _ _).trans (own_ne (x := (p4 &&& (1 : Int32))) (y := (0 : Int32)) (i := (p4 &&& (1 : Int32)).toInt) (j := 0) rfl rfl c4_51).1) k) ?_
    show own_End p e below s (s₁.setTop (mkF m 7 #[.val (.int p0), .val (.long q1), .second, .val (.long q2), .second, .val (.long q3), .second, .val (.int p4), .unset, .unset, .unset, .unset, .unset, .unset, .unset, .unset, .unset] [])) _ _ _
    refine own_go (fun t k => XS.lconst X0.here hx rfl (hb hby at_7) k) ?_
    show own_End p e below s (s₁.setTop (mkF m 8 #[.val (.int p0), .val (.long q1), .second, .val (.long q2), .second, .val (.long q3), .second, .val (.int p4), .unset, .unset, .unset, .unset, .unset, .unset, .unset, .unset, .unset] [(.long (0 : Int64))])) _ _ _
    refine own_go (fun t k => XS.goto X0.here hx rfl (pc0 := 8) (pc' := 12) rfl (hb hby at_8) (by decide) (by decide) k) ?_
    show own_End p e below s (s₁.setTop (mkF m 12 #[.val (.int p0), .val (.long q1), .second, .val (.long q2), .second, .val (.long q3), .second, .val (.int p4), .unset, .unset, .unset, .unset, .unset, .unset, .unset, .unset, .unset] [(.long (0 : Int64))])) _ _ _
    exact J12 _
set_option maxRecDepth 65536 in
set_option maxHeartbeats 40000000 in
theorem comes_1 {Post : Tables → Env → Array Value → State → Outcome → State → Prop} (hpost : ∀ tb e args s v u, (limb_1_1.after args s (.returned v) u = true ∧ limb_1_2.after args s (.returned v) u = true ∧ True) → FrameEnd s (.returned v) u (Jvm.fieldLocs frame_1_writes args s ++ Jvm.arrayLocs frame_1_arrays args s ++ Jvm.staticLocs frame_1_statics s) 16 128 → Post tb e args s (.returned v) u) :
    ArmFor flags0 classFile x code maxLocals ret World_1 tables_1 room_1 Calls_1 rest_1 Pre_1 Post := by
  intro l hfl _ _ p e ha hc hk s m args below hf hA hF happ hP
  obtain ⟨hcalls, hrest, hpre⟩ := hP
  obtain ⟨-, -, -, hnamed, -, -, -, hat⟩ := (Spec.applies_iff hf).mp happ
  obtain ⟨hg, hn⟩ := and_e (Cond.before_iff.mp (show (Jvm.Cond.and given_1 narrow_1).before args s = true from hpre))
  obtain ⟨gc, gr0⟩ := and_e hg
  obtain ⟨ga0, gr1⟩ := and_e gr0
  obtain ⟨ga1, gr2⟩ := and_e gr1
  obtain ⟨ga2, gr3⟩ := and_e gr2
  obtain ⟨ga3, gr4⟩ := and_e gr3
  have ga4 := gr4
  obtain ⟨w0, w1, w2, w3, w4, rfl⟩ : ∃ w0 w1 w2 w3 w4 : Value, args = #[w0, w1, w2, w3, w4] := by
    have hs : args.size = 5 := by simpa [Cond.value, given_1] using gc
    obtain ⟨L⟩ := args
    match L, hs with
    | [w0, w1, w2, w3, w4], _ => exact ⟨w0, w1, w2, w3, w4, rfl⟩
  have hw := fun d (hd : d ∈ tables_1) => atoms_spec (ws := Jvm.Cond.code x code maxLocals ret :: tables_1) hat d (List.mem_cons_of_mem _ hd)
  obtain ⟨i0, ei0⟩ := is_v ga0
  obtain rfl : w0 = (.int i0) := Option.some.inj ei0
  obtain ⟨i1, ei1⟩ := isL_v ga1
  obtain rfl : w1 = (.long i1) := Option.some.inj ei1
  obtain ⟨i2, ei2⟩ := isL_v ga2
  obtain rfl : w2 = (.long i2) := Option.some.inj ei2
  obtain ⟨i3, ei3⟩ := isL_v ga3
  obtain rfl : w3 = (.long i3) := Option.some.inj ei3
  obtain ⟨i4, ei4⟩ := is_v ga4
  obtain rfl : w4 = (.int i4) := Option.some.inj ei4
  obtain ⟨x1, hn⟩ := and_e hn
  obtain ⟨x2, hn⟩ := and_e hn
  obtain ⟨x3, hn⟩ := and_e hn
  obtain ⟨x4, x5⟩ := and_e hn
  obtain ⟨aI, v1⟩ := exa_v x1
  obtain ⟨aS, v2⟩ := exa_v x2
  obtain ⟨aN, v3⟩ := exa_v x3
  have SI := Sta.start v1 (Or.inr ⟨(hw _ (List.mem_of_getElem? (i := 1) rfl)), (hw _ (List.mem_of_getElem? (i := 2) rfl))⟩)
  have SS := Sta.start v2 (Or.inr ⟨(hw _ (List.mem_of_getElem? (i := 1) rfl)), (hw _ (List.mem_of_getElem? (i := 64) rfl))⟩)
  have SN := Sta.start v3 (Or.inr ⟨(hw _ (List.mem_of_getElem? (i := 5) rfl)), (hw _ (List.mem_of_getElem? (i := 66) rfl))⟩)
  have EN := Exa.start v3 x3
  have f1 := Fld.start ((fld_at v3).symm.trans (eqv_l (y := 0) rfl x4))
  have f2 := Fld.start ((fld_at v3).symm.trans (eqv_l (y := 0) rfl x5))
  obtain ⟨n, o, h1, h2, h3, _, L, rfl, ⟨rfl, N⟩, hq⟩ := rm0 l s _ hw tables_1 i0 i1 i2 i3 i4 aS aI aN s.heap s.heap.size (Nat.le_refl _) SS SI SN EN f1 f2 p e ha hc hk s m _ below hf ((Spec.applies_iff_loose hf).mp happ).1 ⟨rfl, State.Warmed39.refl s, rfl⟩ trivial
  refine ⟨n, _, h1, h2, h3, hpost _ _ _ _ _ _ ⟨Cond.after_iff.mpr rfl, Cond.after_iff.mpr (eq_i res_at (Term.int_eval (1)) rfl), trivial⟩ ⟨hq.1, hq.2.1, (hq.2.2.sift fun y hy => Or.inr (N y hy)).mono (by decide) (by decide)⟩⟩
theorem main_1_1 : Claimed_1_1 := comes_1 fun _ _ _ _ _ _ h hF => ⟨h.1, hF⟩
theorem main_1_2 : Claimed_1_2 := comes_1 fun _ _ _ _ _ _ h hF => ⟨h.2.1, hF⟩
end Jvm.Pilot.@@N@@
namespace Jvm.Pilot.@@N@@
open Jvm Jvm.ClassFile Sem Op Lib Jvm.Free Jvm.Stand Jvm.Pilot.@@N@@.Jvm.D
/-! MADE BY PROGRAM (witnessworld.py) out of the Statement's table words and the real class files: 15 classes; the members and pool entries that the words name. The judged class is class 1, her method 1. -/
namespace start1
open Jvm.ClassFile
def u (s : String) : CpInfo := .utf8 (stringToUtf16 s)
/-- a pool by its gaps: so many unusable entries, then the entry; so many at the end -/
def gap : Nat → List CpInfo → List CpInfo
  | 0, r => r
  | n + 1, r => .unusable :: gap n r
def poolList (es : List (Nat × CpInfo)) (last : Nat) : List CpInfo := es.foldr (fun e r => gap e.1 (e.2 :: r)) (gap last [])
def pool (es : List (Nat × CpInfo)) (last : Nat) : Array CpInfo := ⟨poolList es last⟩
def fileOf (pool : Array CpInfo) (this : Nat) (attrs : Array Attribute := #[]) (ms : Array MethodInfo := #[]) (fl : Nat := 33) (sup : Nat := 0) (ifs : Array Nat := #[]) (fds : Array FieldInfo := #[]) : ClassFile where
  minorVersion := 0
  majorVersion := 65
  constantPool := pool
  accessFlags := fl
  thisClass := this
  superClass := sup
  interfaces := ifs
  fields := fds
  methods := ms
  attributes := attrs
def plain (name : String) (sup : Option ClassId) : Class where
  name := name
  kind := .ordinary
  loader := none
  accessFlags := 33
  super := sup
  interfaces := #[]
  cf := none
  fields := #[]
  methods := #[]
  instanceTypes := #[]
  staticTypes := #[]
  resolved := #[]
  callSites := []
  init := .initialized
  statics := none
  mirror := none

def pool0 : Array CpInfo := pool [(5, u "<init>"), (0, u "()V"), (1, .class_ 10), (1, u "java/lang/Object")] 113

def k0c0 : Code := { maxStack := 0, maxLocals := 1, code := object_method_1_code, exceptionTable := #[], attributes := #[] }
def k0m0 : Method := { name := "<init>", desc := "()V", sig := { parameters := [], returnType := none }, accessFlags := 1, code := some k0c0 }
/-- java/lang/Object -/
def k0 : Class := { plain "java/lang/Object" none with
  accessFlags := 33
  interfaces := #[]
  cf := some (fileOf pool0 8 #[] #[{ accessFlags := 1, nameIndex := 5, descriptorIndex := 6, attributes := #[] }] 33 0 #[] #[])
  fields := #[]
  methods := #[k0m0]
  instanceTypes := #[]
  staticTypes := #[]
  resolved := Array.replicate 124 none
  statics := none }

def pool1 : Array CpInfo := pool [(2, .class_ 4), (1, u "java/lang/Object"), (0, u "<init>"), (0, u "()V"), (0, .fieldref 8 9), (0, .class_ 10), (0, .nameAndType 11 12), (0, u "com/example/interweave/interweave/Isolation"), (0, u "SNAPSHOT"), (0, u "Lcom/example/interweave/interweave/Isolation;"), (0, .fieldref 8 14), (0, .nameAndType 15 12), (0, u "SERIALIZABLE"), (0, .fieldref 17 18), (0, .class_ 19), (0, .nameAndType 20 21), (0, u "com/example/interweave/interweave/cli/BenchRun$Readings"), (0, u "NONE"), (0, u "Lcom/example/interweave/interweave/cli/BenchRun$Readings;"), (0, .methodref 17 23), (0, .nameAndType 5 24), (0, u "(IJJJJ)V"), (0, .class_ 26), (0, u "com/example/interweave/interweave/cli/BenchRun"), (0, .methodref 25 28), (0, .nameAndType 5 29), (0, u "(IJJJJLcom/example/interweave/interweave/cli/BenchRun$Readings;Lcom/example/interweave/interweave/Isolation;)V"), (0, .methodref 25 31), (0, .nameAndType 32 33), (0, u "areReadingsRight"), (0, u "()Z"), (0, .class_ 35), (0, u "com/example/interweave/interweave/cli/BenchRunAreReadingsRightPinLaw"), (2, u "law"), (0, u "(IJJJI)Z")] 5

def k1m0 : Method := { name := "<init>", desc := "()V", sig := { parameters := [], returnType := none }, accessFlags := 1, code := none }
def k1c1 : Code := { maxStack := 13, maxLocals := 17, code := code, exceptionTable := #[], attributes := #[] }
def k1m1 : Method := { name := "law", desc := "(IJJJI)Z", sig := { parameters := [.int, .long, .long, .long, .int], returnType := some .boolean }, accessFlags := 9, code := some k1c1 }
/-- com/example/interweave/interweave/cli/BenchRunAreReadingsRightPinLaw -/
def k1 : Class := { plain "com/example/interweave/interweave/cli/BenchRunAreReadingsRightPinLaw" (some 0) with
  accessFlags := 49
  interfaces := #[]
  cf := some (fileOf pool1 34 #[] #[{ accessFlags := 1, nameIndex := 5, descriptorIndex := 6, attributes := #[] }, { accessFlags := 9, nameIndex := 38, descriptorIndex := 39, attributes := #[] }] 49 2 #[] #[])
  fields := #[]
  methods := #[k1m0, k1m1]
  instanceTypes := #[]
  staticTypes := #[]
  resolved := Array.replicate 45 none
  statics := none }

def pool2 : Array CpInfo := pool [(1, .class_ 2), (0, u "java/lang/constant/Constable"), (0, .class_ 4), (0, u "java/lang/Object")] 6

/-- java/lang/constant/Constable -/
def k2 : Class := { plain "java/lang/constant/Constable" (some 0) with
  accessFlags := 1537
  interfaces := #[]
  cf := some (fileOf pool2 1 #[] #[] 1537 3 #[] #[])
  fields := #[]
  methods := #[]
  instanceTypes := #[]
  staticTypes := #[]
  resolved := Array.replicate 11 none
  statics := none }

def pool3 : Array CpInfo := pool [(1, .class_ 2), (0, u "java/lang/Comparable"), (0, .class_ 4), (0, u "java/lang/Object")] 7

/-- java/lang/Comparable -/
def k3 : Class := { plain "java/lang/Comparable" (some 0) with
  accessFlags := 1537
  interfaces := #[]
  cf := some (fileOf pool3 1 #[] #[] 1537 3 #[] #[])
  fields := #[]
  methods := #[]
  instanceTypes := #[]
  staticTypes := #[]
  resolved := Array.replicate 12 none
  statics := none }

def pool4 : Array CpInfo := pool [(1, .class_ 2), (0, u "java/io/Serializable"), (0, .class_ 4), (0, u "java/lang/Object")] 2

/-- java/io/Serializable -/
def k4 : Class := { plain "java/io/Serializable" (some 0) with
  accessFlags := 1537
  interfaces := #[]
  cf := some (fileOf pool4 1 #[] #[] 1537 3 #[] #[])
  fields := #[]
  methods := #[]
  instanceTypes := #[]
  staticTypes := #[]
  resolved := Array.replicate 7 none
  statics := none }

def pool5 : Array CpInfo := pool [(2, .class_ 4), (1, u "java/lang/Enum"), (0, u "name"), (0, u "Ljava/lang/String;"), (2, u "ordinal"), (0, u "I"), (1, .class_ 14), (1, u "java/lang/Object"), (4, u "hash"), (86, .class_ 108), (1, u "java/lang/Enum$EnumDesc"), (2, .class_ 112), (0, u "java/lang/constant/Constable"), (0, .class_ 114), (0, u "java/lang/Comparable"), (0, .class_ 116), (0, u "java/io/Serializable")] 87

/-- java/lang/Enum -/
def k5 : Class := { plain "java/lang/Enum" (some 0) with
  accessFlags := 1057
  interfaces := #[2, 3, 4]
  cf := some (fileOf pool5 2 #[.nestMembers #[106]] #[] 1057 12 #[111, 113, 115] #[{ accessFlags := 18, nameIndex := 5, descriptorIndex := 6, attributes := #[] }, { accessFlags := 18, nameIndex := 9, descriptorIndex := 10, attributes := #[] }, { accessFlags := 2, nameIndex := 19, descriptorIndex := 10, attributes := #[] }])
  fields := #[{ name := "name", type := (.object "java/lang/String"), accessFlags := 18, slot := 0, constantValue := 0 }, { name := "ordinal", type := .int, accessFlags := 18, slot := 1, constantValue := 0 }, { name := "hash", type := .int, accessFlags := 2, slot := 2, constantValue := 0 }]
  methods := #[]
  instanceTypes := #[(.object "java/lang/String"), .int, .int]
  staticTypes := #[]
  resolved := Array.replicate 204 none
  statics := none }

def pool6 : Array CpInfo := pool [(1, .class_ 2), (0, u "com/example/interweave/interweave/Isolation"), (2, u "SERIALIZABLE"), (0, u "Lcom/example/interweave/interweave/Isolation;"), (2, u "SNAPSHOT"), (2, u "$VALUES"), (0, u "[Lcom/example/interweave/interweave/Isolation;"), (6, .class_ 22), (1, u "java/lang/Enum")] 24

/-- com/example/interweave/interweave/Isolation -/
def k6 : Class := { plain "com/example/interweave/interweave/Isolation" (some 5) with
  accessFlags := 16433
  interfaces := #[]
  cf := some (fileOf pool6 1 #[] #[] 16433 20 #[] #[{ accessFlags := 16409, nameIndex := 5, descriptorIndex := 6, attributes := #[] }, { accessFlags := 16409, nameIndex := 9, descriptorIndex := 6, attributes := #[] }, { accessFlags := 4122, nameIndex := 12, descriptorIndex := 13, attributes := #[] }])
  fields := #[{ name := "SERIALIZABLE", type := (.object "com/example/interweave/interweave/Isolation"), accessFlags := 16409, slot := 0, constantValue := 0 }, { name := "SNAPSHOT", type := (.object "com/example/interweave/interweave/Isolation"), accessFlags := 16409, slot := 1, constantValue := 0 }, { name := "$VALUES", type := (.array (.object "com/example/interweave/interweave/Isolation")), accessFlags := 4122, slot := 2, constantValue := 0 }]
  methods := #[]
  instanceTypes := #[(.object "java/lang/String"), .int, .int]
  staticTypes := #[(.object "com/example/interweave/interweave/Isolation"), (.object "com/example/interweave/interweave/Isolation"), (.array (.object "com/example/interweave/interweave/Isolation"))]
  resolved := Array.replicate 47 none
  statics := some 0 }

def pool7 : Array CpInfo := pool [(1, .methodref 2 3), (0, .class_ 4), (0, .nameAndType 5 6), (0, u "java/lang/Object"), (0, u "<init>"), (0, u "()V"), (0, .class_ 8), (0, u "java/lang/Record")] 13

def k7c0 : Code := { maxStack := 1, maxLocals := 1, code := jdk_30_method_1_code, exceptionTable := #[], attributes := #[] }
def k7m0 : Method := { name := "<init>", desc := "()V", sig := { parameters := [], returnType := none }, accessFlags := 4, code := some k7c0 }
/-- java/lang/Record -/
def k7 : Class := { plain "java/lang/Record" (some 0) with
  accessFlags := 1057
  interfaces := #[]
  cf := some (fileOf pool7 7 #[] #[{ accessFlags := 4, nameIndex := 5, descriptorIndex := 6, attributes := #[] }] 1057 2 #[] #[])
  fields := #[]
  methods := #[k7m0]
  instanceTypes := #[]
  staticTypes := #[]
  resolved := Array.replicate 22 none
  statics := none }

def pool8 : Array CpInfo := pool [(1, .methodref 2 3), (0, .class_ 4), (0, .nameAndType 5 6), (0, u "java/lang/Record"), (0, u "<init>"), (0, u "()V"), (0, .fieldref 8 9), (0, .class_ 10), (0, .nameAndType 11 12), (0, u "com/example/interweave/interweave/cli/BenchRun$Readings"), (0, u "nReaders"), (0, u "I"), (0, .fieldref 8 14), (0, .nameAndType 15 16), (0, u "nReads"), (0, u "J"), (0, .fieldref 8 18), (0, .nameAndType 19 16), (0, u "nWrong"), (0, .fieldref 8 21), (0, .nameAndType 22 16), (0, u "nAborts"), (0, .fieldref 8 24), (0, .nameAndType 25 16), (0, u "nVersions"), (14, u "(IJJJJ)V"), (2, u "NONE"), (0, u "Lcom/example/interweave/interweave/cli/BenchRun$Readings;"), (6, u "()J"), (4, .class_ 57), (0, u "com/example/interweave/interweave/cli/BenchRun")] 23

def k8c0 : Code := { maxStack := 3, maxLocals := 10, code := prog_10_method_1_code, exceptionTable := #[], attributes := #[] }
def k8m0 : Method := { name := "<init>", desc := "(IJJJJ)V", sig := { parameters := [.int, .long, .long, .long, .long], returnType := none }, accessFlags := 0, code := some k8c0 }
def k8c1 : Code := { maxStack := 2, maxLocals := 1, code := prog_10_method_7_code, exceptionTable := #[], attributes := #[] }
def k8m1 : Method := { name := "nWrong", desc := "()J", sig := { parameters := [], returnType := some .long }, accessFlags := 1, code := some k8c1 }
def k8c2 : Code := { maxStack := 2, maxLocals := 1, code := prog_10_method_8_code, exceptionTable := #[], attributes := #[] }
def k8m2 : Method := { name := "nAborts", desc := "()J", sig := { parameters := [], returnType := some .long }, accessFlags := 1, code := some k8c2 }
/-- com/example/interweave/interweave/cli/BenchRun$Readings -/
def k8 : Class := { plain "com/example/interweave/interweave/cli/BenchRun$Readings" (some 7) with
  accessFlags := 48
  interfaces := #[]
  cf := some (fileOf pool8 8 #[.nestHost 56] #[{ accessFlags := 0, nameIndex := 5, descriptorIndex := 40, attributes := #[] }, { accessFlags := 1, nameIndex := 19, descriptorIndex := 51, attributes := #[] }, { accessFlags := 1, nameIndex := 22, descriptorIndex := 51, attributes := #[] }] 48 2 #[] #[{ accessFlags := 18, nameIndex := 11, descriptorIndex := 12, attributes := #[] }, { accessFlags := 18, nameIndex := 15, descriptorIndex := 16, attributes := #[] }, { accessFlags := 18, nameIndex := 19, descriptorIndex := 16, attributes := #[] }, { accessFlags := 18, nameIndex := 22, descriptorIndex := 16, attributes := #[] }, { accessFlags := 18, nameIndex := 25, descriptorIndex := 16, attributes := #[] }, { accessFlags := 24, nameIndex := 43, descriptorIndex := 44, attributes := #[] }])
  fields := #[{ name := "nReaders", type := .int, accessFlags := 18, slot := 0, constantValue := 0 }, { name := "nReads", type := .long, accessFlags := 18, slot := 1, constantValue := 0 }, { name := "nWrong", type := .long, accessFlags := 18, slot := 2, constantValue := 0 }, { name := "nAborts", type := .long, accessFlags := 18, slot := 3, constantValue := 0 }, { name := "nVersions", type := .long, accessFlags := 18, slot := 4, constantValue := 0 }, { name := "NONE", type := (.object "com/example/interweave/interweave/cli/BenchRun$Readings"), accessFlags := 24, slot := 0, constantValue := 0 }]
  methods := #[k8m0, k8m1, k8m2]
  instanceTypes := #[.int, .long, .long, .long, .long]
  staticTypes := #[(.object "com/example/interweave/interweave/cli/BenchRun$Readings")]
  resolved := Array.replicate 81 none
  statics := some 1 }

def pool9 : Array CpInfo := pool [(3, .methodref 4 5), (0, .class_ 6), (0, .nameAndType 7 8), (0, u "java/lang/Object"), (0, u "<init>"), (0, u "()V"), (0, .fieldref 10 11), (0, .class_ 12), (0, .nameAndType 13 14), (0, u "com/example/interweave/interweave/cli/BenchRun"), (0, u "m_nThreads"), (0, u "I"), (0, .fieldref 10 16), (0, .nameAndType 17 18), (0, u "m_nCommitted"), (0, u "J"), (0, .fieldref 10 20), (0, .nameAndType 21 18), (0, u "m_nAborted"), (0, .fieldref 10 23), (0, .nameAndType 24 18), (0, u "m_nNanos"), (0, .fieldref 10 26), (0, .nameAndType 27 18), (0, u "m_nSyncs"), (0, .fieldref 10 29), (0, .nameAndType 30 31), (0, u "m_aReadings"), (0, u "Lcom/example/interweave/interweave/cli/BenchRun$Readings;"), (0, .fieldref 10 33), (0, .nameAndType 34 35), (0, u "m_eIsolation"), (0, u "Lcom/example/interweave/interweave/Isolation;"), (0, .class_ 37), (0, u "com/example/interweave/interweave/cli/BenchRun$Clock"), (11, u "()Z"), (20, .class_ 71), (0, u "com/example/interweave/interweave/cli/BenchRun$Reader"), (14, u "()J"), (37, .class_ 126), (1, u "com/example/interweave/interweave/cli/BenchRun$Readings"), (40, .class_ 168), (0, u "com/example/interweave/interweave/cli/BenchRun$Share"), (60, u "(IJJJJLcom/example/interweave/interweave/cli/BenchRun$Readings;Lcom/example/interweave/interweave/Isolation;)V"), (54, .methodref 124 285), (0, .nameAndType 286 86), (0, u "nWrong"), (0, .methodref 124 288), (0, .nameAndType 289 86), (0, u "nAborts"), (64, .class_ 355), (0, u "com/example/interweave/interweave/cli/BenchRun$InterweaveCommitter"), (7, u "UNTIL_COMMITTED"), (2, u "PROGRESS_PERIOD_MS"), (18, u "areReadingsRight"), (7, .class_ 394), (0, u "com/example/interweave/interweave/cli/BenchRun$Committer")] 51

def k9c0 : Code := { maxStack := 3, maxLocals := 12, code := prog_5_method_1_code, exceptionTable := #[], attributes := #[] }
def k9m0 : Method := { name := "<init>", desc := "(IJJJJLcom/example/interweave/interweave/cli/BenchRun$Readings;Lcom/example/interweave/interweave/Isolation;)V", sig := { parameters := [.int, .long, .long, .long, .long, (.object "com/example/interweave/interweave/cli/BenchRun$Readings"), (.object "com/example/interweave/interweave/Isolation")], returnType := none }, accessFlags := 0, code := some k9c0 }
def k9c1 : Code := { maxStack := 4, maxLocals := 1, code := prog_5_method_13_code, exceptionTable := #[], attributes := #[] }
def k9m1 : Method := { name := "areReadingsRight", desc := "()Z", sig := { parameters := [], returnType := some .boolean }, accessFlags := 0, code := some k9c1 }
/-- com/example/interweave/interweave/cli/BenchRun -/
def k9 : Class := { plain "com/example/interweave/interweave/cli/BenchRun" (some 0) with
  accessFlags := 48
  interfaces := #[]
  cf := some (fileOf pool9 10 #[.nestMembers #[70, 167, 354, 393, 36, 124]] #[{ accessFlags := 0, nameIndex := 7, descriptorIndex := 229, attributes := #[] }, { accessFlags := 0, nameIndex := 385, descriptorIndex := 49, attributes := #[] }] 48 4 #[] #[{ accessFlags := 26, nameIndex := 363, descriptorIndex := 14, attributes := #[] }, { accessFlags := 24, nameIndex := 366, descriptorIndex := 18, attributes := #[] }, { accessFlags := 18, nameIndex := 13, descriptorIndex := 14, attributes := #[] }, { accessFlags := 18, nameIndex := 17, descriptorIndex := 18, attributes := #[] }, { accessFlags := 18, nameIndex := 21, descriptorIndex := 18, attributes := #[] }, { accessFlags := 18, nameIndex := 24, descriptorIndex := 18, attributes := #[] }, { accessFlags := 18, nameIndex := 27, descriptorIndex := 18, attributes := #[] }, { accessFlags := 18, nameIndex := 30, descriptorIndex := 31, attributes := #[] }, { accessFlags := 18, nameIndex := 34, descriptorIndex := 35, attributes := #[] }])
  fields := #[{ name := "UNTIL_COMMITTED", type := .int, accessFlags := 26, slot := 0, constantValue := 0 }, { name := "PROGRESS_PERIOD_MS", type := .long, accessFlags := 24, slot := 1, constantValue := 0 }, { name := "m_nThreads", type := .int, accessFlags := 18, slot := 0, constantValue := 0 }, { name := "m_nCommitted", type := .long, accessFlags := 18, slot := 1, constantValue := 0 }, { name := "m_nAborted", type := .long, accessFlags := 18, slot := 2, constantValue := 0 }, { name := "m_nNanos", type := .long, accessFlags := 18, slot := 3, constantValue := 0 }, { name := "m_nSyncs", type := .long, accessFlags := 18, slot := 4, constantValue := 0 }, { name := "m_aReadings", type := (.object "com/example/interweave/interweave/cli/BenchRun$Readings"), accessFlags := 18, slot := 5, constantValue := 0 }, { name := "m_eIsolation", type := (.object "com/example/interweave/interweave/Isolation"), accessFlags := 18, slot := 6, constantValue := 0 }]
  methods := #[k9m0, k9m1]
  instanceTypes := #[.int, .long, .long, .long, .long, (.object "com/example/interweave/interweave/cli/BenchRun$Readings"), (.object "com/example/interweave/interweave/Isolation")]
  staticTypes := #[.int, .long]
  resolved := Array.replicate 446 none
  statics := none }

def pool10 : Array CpInfo := pool [(1, u "java/lang/Cloneable"), (0, .class_ 1), (0, u "java/lang/Object"), (0, .class_ 3)] 3

/-- java/lang/Cloneable -/
def k10 : Class := { plain "java/lang/Cloneable" (some 0) with
  accessFlags := 1537
  interfaces := #[]
  cf := some (fileOf pool10 2 #[] #[] 1537 4 #[] #[])
  fields := #[]
  methods := #[]
  instanceTypes := #[]
  staticTypes := #[]
  resolved := Array.replicate 8 none
  statics := none }

/-- the primitive byte -/
def k11 : Class := { plain "byte" none with kind := .primitive 'B', accessFlags := 0x411 }
/-- [B -/
def k12 : Class := { plain "[B" (some 0) with kind := .array 11 .byte, interfaces := #[10, 4], accessFlags := 1041 }

/-- the primitive int -/
def k13 : Class := { plain "int" none with kind := .primitive 'I', accessFlags := 0x411 }
/-- [I -/
def k14 : Class := { plain "[I" (some 0) with kind := .array 13 .int, interfaces := #[10, 4], accessFlags := 1041 }

def heap : Heap := #[{ cls := 6, slots := #[.ref 2, .ref 3, .null], vm := .statics 6 },
  { cls := 8, slots := #[.ref 4], vm := .statics 8 },
  { cls := 6, slots := #[.null, .int 0, .int 0], vm := .none },
  { cls := 6, slots := #[.null, .int 1, .int 0], vm := .none },
  { cls := 8, slots := #[.int 0, .long 0, .long 0, .long 0, .long 0], vm := .none }]
def classes : Array Class := #[k0, k1, k2, k3, k4, k5, k6, k7, k8, k9, k10, k11, k12, k13, k14]
def interned : List (Array UInt16 × Addr) := []
def slotsUsed : Nat := 15
def theMethod : MethodId := ⟨1, 1⟩
def args0 : Array Value := #[.int 5, .long 7, .long 1, .long 1, .int 1]
def aboutOver (below : List Frame) : State where
  vm := { classes := classes, interned := interned.toArray }
  heap := heap
  slotsUsed := slotsUsed
  threads := #[{ frames := .invoking theMethod args0 :: below }]
def below0 : List Frame := [.native { method := ⟨0, 0⟩, args := #[] }]
def about1 : State := aboutOver below0
def p0 : Program := .bare "" "" ""
def e0 : Env := launch0.env 0 0 0
theorem w_frames : about1.frames = Frame.invoking theMethod args0 :: below0 := rfl
set_option maxRecDepth 65536 in
theorem w_args : argsFit about1.vm theMethod args0 = true := by decide +kernel
set_option maxRecDepth 65536 in
theorem w_heap : heapFits about1 = true := by decide +kernel
set_option maxRecDepth 65536 in
theorem w_runnable : about1.curStatus? = some .runnable := by decide +kernel
set_option maxRecDepth 65536 in
theorem w_alone : about1.alone = true := by decide +kernel
set_option maxRecDepth 65536 in
theorem w_named : about1.methodNamed? x = some theMethod := by decide +kernel
set_option maxRecDepth 65536 in
theorem w_hears : about1.hears theMethod below0 = true := by decide +kernel
set_option maxRecDepth 65536 in
theorem w_ripe : about1.ripe theMethod args0 below0 = true := by decide +kernel
theorem w_running : about1.status = .running := rfl
set_option maxRecDepth 65536 in
theorem w_room : about1.hasRoom e0.platform room_1 = true :=
  launch0.hasRoom_least _ room_1 (by decide +kernel) (by decide +kernel) (by decide +kernel) (by decide +kernel) (by decide +kernel) (by decide +kernel)
theorem allAtoms_all (ts : List Jvm.Cond) (a : Array Jvm.Value) (st : Jvm.State) : (allAtoms ts).before a st = ts.all (fun c => c.before a st) := by
  induction ts with
  | nil => rfl
  | cons c t ih =>
    show (Jvm.Cond.and c (allAtoms t)).before a st = _
    rw [Jvm.Cond.before_and, ih, List.all_cons]
def words1 : List Jvm.Cond := Jvm.Cond.code x code maxLocals ret :: tables_1
/-- a 'code' word, met by the world's own term for the bytes: nothing is compared byte by byte -/
theorem code_word {y : MethodName} {bytes : ByteArray} {mx : Nat} {rt : Option FieldType} {a : Array Value} {s : State} {m : MethodId} {meth : Method} {c : Code} (h1 : s.methodNamed? y = some m) (h2 : s.vm.method? m = some meth) (h3 : meth.code = some c) (h4 : c.code = bytes)
    (h5 : (c.maxLocals == mx && c.exceptionTable.isEmpty && decide (c.maxStack ≤ mostOperands) && decide (meth.sig.returnType = rt) && !meth.locks && decide (parseMethodDescriptor y.desc = some meth.sig)) = true) : (Jvm.Cond.code y bytes mx rt).before a s = true := by
  simp only [Bool.and_eq_true, beq_iff_eq, Bool.not_eq_true', decide_eq_true_eq] at h5
  obtain ⟨⟨⟨⟨⟨g1, g2⟩, g3⟩, g4⟩, g5⟩, g6⟩ := h5
  simp [Cond.before, Cond.holds, Cond.value, h1, h2, h3, h4, g1, g2, g3, g4, g5, g6]
def isCode : Jvm.Cond → Bool
  | .code _ _ _ _ => true
  | _ => false
theorem all_split {L : List Jvm.Cond} {P : Jvm.Cond → Bool} (h1 : L.all (fun c => isCode c || P c) = true) (h2 : ∀ c ∈ L.filter isCode, P c = true) : L.all P = true := by
  refine List.all_eq_true.mpr fun c hc => ?_
  have h := List.all_eq_true.mp h1 c hc
  rcases Bool.eq_false_or_eq_true (isCode c) with hi | hi
  · exact h2 c (List.mem_filter.mpr ⟨hc, hi⟩)
  · simpa [hi] using h
set_option maxRecDepth 65536 in
theorem w_c0 : (Jvm.Cond.code x code maxLocals ret).before args0 about1 = true := code_word (m := ⟨1, 1⟩) (meth := k1m1) (c := k1c1) (by decide +kernel) rfl rfl rfl (by decide +kernel)
set_option maxRecDepth 65536 in
theorem w_c1 : (Jvm.Cond.code ({ cls := "com/example/interweave/interweave/cli/BenchRun$Readings", name := "<init>", desc := "(IJJJJ)V" } : Jvm.MethodName) prog_10_method_1_code (10 : Nat) (Option.none : Option Jvm.ClassFile.FieldType)).before args0 about1 = true := code_word (m := ⟨8, 0⟩) (meth := k8m0) (c := k8c0) (by decide +kernel) rfl rfl rfl (by decide +kernel)
set_option maxRecDepth 65536 in
theorem w_c2 : (Jvm.Cond.code ({ cls := "java/lang/Record", name := "<init>", desc := "()V" } : Jvm.MethodName) jdk_30_method_1_code (1 : Nat) (Option.none : Option Jvm.ClassFile.FieldType)).before args0 about1 = true := code_word (m := ⟨7, 0⟩) (meth := k7m0) (c := k7c0) (by decide +kernel) rfl rfl rfl (by decide +kernel)
set_option maxRecDepth 65536 in
theorem w_c3 : (Jvm.Cond.code ({ cls := "java/lang/Object", name := "<init>", desc := "()V" } : Jvm.MethodName) object_method_1_code (1 : Nat) (Option.none : Option Jvm.ClassFile.FieldType)).before args0 about1 = true := code_word (m := ⟨0, 0⟩) (meth := k0m0) (c := k0c0) (by decide +kernel) rfl rfl rfl (by decide +kernel)
set_option maxRecDepth 65536 in
theorem w_c4 : (Jvm.Cond.code ({ cls := "com/example/interweave/interweave/cli/BenchRun", name := "<init>", desc := "(IJJJJLcom/example/interweave/interweave/cli/BenchRun$Readings;Lcom/example/interweave/interweave/Isolation;)V" } : Jvm.MethodName) prog_5_method_1_code (12 : Nat) (Option.none : Option Jvm.ClassFile.FieldType)).before args0 about1 = true := code_word (m := ⟨9, 0⟩) (meth := k9m0) (c := k9c0) (by decide +kernel) rfl rfl rfl (by decide +kernel)
set_option maxRecDepth 65536 in
theorem w_c5 : (Jvm.Cond.code ({ cls := "com/example/interweave/interweave/cli/BenchRun", name := "areReadingsRight", desc := "()Z" } : Jvm.MethodName) prog_5_method_13_code (1 : Nat) (Option.some Jvm.ClassFile.FieldType.boolean)).before args0 about1 = true := code_word (m := ⟨9, 1⟩) (meth := k9m1) (c := k9c1) (by decide +kernel) rfl rfl rfl (by decide +kernel)
set_option maxRecDepth 65536 in
theorem w_c6 : (Jvm.Cond.code ({ cls := "com/example/interweave/interweave/cli/BenchRun$Readings", name := "nWrong", desc := "()J" } : Jvm.MethodName) prog_10_method_7_code (1 : Nat) (Option.some Jvm.ClassFile.FieldType.long)).before args0 about1 = true := code_word (m := ⟨8, 1⟩) (meth := k8m1) (c := k8c1) (by decide +kernel) rfl rfl rfl (by decide +kernel)
set_option maxRecDepth 65536 in
theorem w_c7 : (Jvm.Cond.code ({ cls := "com/example/interweave/interweave/cli/BenchRun$Readings", name := "nAborts", desc := "()J" } : Jvm.MethodName) prog_10_method_8_code (1 : Nat) (Option.some Jvm.ClassFile.FieldType.long)).before args0 about1 = true := code_word (m := ⟨8, 2⟩) (meth := k8m2) (c := k8c2) (by decide +kernel) rfl rfl rfl (by decide +kernel)
def codes1 : List Jvm.Cond := [Jvm.Cond.code x code maxLocals ret, Jvm.Cond.code ({ cls := "com/example/interweave/interweave/cli/BenchRun$Readings", name := "<init>", desc := "(IJJJJ)V" } : Jvm.MethodName) prog_10_method_1_code (10 : Nat) (Option.none : Option Jvm.ClassFile.FieldType), Jvm.Cond.code ({ cls := "java/lang/Record", name := "<init>", desc := "()V" } : Jvm.MethodName) jdk_30_method_1_code (1 : Nat) (Option.none : Option Jvm.ClassFile.FieldType), Jvm.Cond.code ({ cls := "java/lang/Object", name := "<init>", desc := "()V" } : Jvm.MethodName) object_method_1_code (1 : Nat) (Option.none : Option Jvm.ClassFile.FieldType), Jvm.Cond.code ({ cls := "com/example/interweave/interweave/cli/BenchRun", name := "<init>", desc := "(IJJJJLcom/example/interweave/interweave/cli/BenchRun$Readings;Lcom/example/interweave/interweave/Isolation;)V" } : Jvm.MethodName) prog_5_method_1_code (12 : Nat) (Option.none : Option Jvm.ClassFile.FieldType), Jvm.Cond.code ({ cls := "com/example/interweave/interweave/cli/BenchRun", name := "areReadingsRight", desc := "()Z" } : Jvm.MethodName) prog_5_method_13_code (1 : Nat) (Option.some Jvm.ClassFile.FieldType.boolean), Jvm.Cond.code ({ cls := "com/example/interweave/interweave/cli/BenchRun$Readings", name := "nWrong", desc := "()J" } : Jvm.MethodName) prog_10_method_7_code (1 : Nat) (Option.some Jvm.ClassFile.FieldType.long), Jvm.Cond.code ({ cls := "com/example/interweave/interweave/cli/BenchRun$Readings", name := "nAborts", desc := "()J" } : Jvm.MethodName) prog_10_method_8_code (1 : Nat) (Option.some Jvm.ClassFile.FieldType.long)]
set_option maxRecDepth 65536 in
theorem codes_eq : words1.filter isCode = codes1 := rfl
theorem w_codes : ∀ c ∈ words1.filter isCode, c.before args0 about1 = true := by
  rw [codes_eq]
  intro c hc
  simp only [codes1, List.mem_cons, List.not_mem_nil, or_false] at hc
  rcases hc with rfl | rfl | rfl | rfl | rfl | rfl | rfl | rfl
  · exact w_c0
  · exact w_c1
  · exact w_c2
  · exact w_c3
  · exact w_c4
  · exact w_c5
  · exact w_c6
  · exact w_c7
set_option maxRecDepth 65536 in
theorem w_t1 : (words1.take 24).all (fun c => isCode c || c.before args0 about1) = true := by decide +kernel
set_option maxRecDepth 65536 in
theorem w_t2 : ((words1.drop 24).take 24).all (fun c => isCode c || c.before args0 about1) = true := by decide +kernel
set_option maxRecDepth 65536 in
theorem w_t3 : ((words1.drop 24).drop 24).all (fun c => isCode c || c.before args0 about1) = true := by decide +kernel
theorem w_tables : (allAtoms (Jvm.Cond.code x code maxLocals ret :: tables_1)).before args0 about1 = true := by
  rw [allAtoms_all]
  show words1.all (fun c => c.before args0 about1) = true
  refine all_split ?_ w_codes
  rw [← List.take_append_drop 24 words1, List.all_append, w_t1, ← List.take_append_drop 24 (words1.drop 24), List.all_append, w_t2, w_t3]
  rfl
set_option maxRecDepth 65536 in
theorem w_case : (Jvm.Cond.and given_1 narrow_1).before args0 about1 = true := by decide +kernel
theorem w_applies : (headSpec (Jvm.Cond.code x code maxLocals ret :: tables_1) room_1).applies x e0.platform about1 = true :=
  (Spec.applies_iff w_frames).mpr ⟨w_running, w_runnable, w_alone, w_named, w_hears, w_ripe, w_room, w_tables⟩
theorem atStart : AtStart classFile x code maxLocals ret World_1 tables_1 room_1 Calls_1 rest_1 Pre_1 launch0 p0 e0 about1 theMethod args0 below0 :=
  ⟨lists_1, trivial, launch0.admits_env _ _ _, launch0.least_env, fairChoices_fair.cas, fairChoices_fair.clock, w_frames, w_args, w_heap, w_applies, trivial, trivial, w_case⟩
end start1
theorem witness_1 : WitnessClaimed_1 := ⟨start1.p0, start1.e0, start1.about1, start1.theMethod, start1.args0, start1.below0, start1.atStart⟩
end Jvm.Pilot.@@N@@
