import JvmDerived
import JvmDerived.Pilot.@@N@@Statement
import JvmDerived.Pilot.@@N@@Code
set_option linter.unusedVariables false
set_option linter.unusedSimpArgs false
namespace Jvm.RoadKit
open Sem ClassFile Op Lib Jvm.Stand Jvm.Free Jvm.LawKit
section New
variable {p : Program} {l : Launch} {e : Env} {R : Room} {s : State} {m : MethodId} {args : Array Value} {below : List Frame} {meth : Method} {c : Code} {T : State} {locs : List Loc} {cells slots : Nat}
theorem retI (X : Stand p l e R s m args below meth c T locs cells slots) (hx : p.tables.exec = Jvm.exec) {pc : Nat} {Ls : Array Slot} {z : Int32} {rest : List Value} (hret : meth.sig.returnType = some .int) (hd : decode c.code pc = .ok (.ireturn, 1)) {fs : List Frame}
    (hl : ∀ (f : JFrame) (acts : List Action), f.method = m → f.locked = none → f.entered = [] → (doReturn e (T.setTop f) acts (some (.int z))).1 = T.setFrames fs) : Steps p.tables e below (T.setTop (mkF m pc Ls (.int z :: rest))) (T.setFrames fs) := by
  have hm' : T.vm.method? m = some meth := X.method'
  have hn : narrow .int (.int z) = .int z := rfl
  show Steps p.tables e below (T.setTop { method := m, pc := pc, locals := Ls, stack := _ :: rest, locked := none }) _
  jvm_step X.here [X.here.top, hx, hd, hm', hret, hn]
  first | (intro acts; rw [hl _ acts rfl rfl rfl]) | rw [hl _ _ rfl rfl rfl]
  exact Steps.refl _
end New
end Jvm.RoadKit
namespace Jvm.Pilot.@@N@@
open Jvm Jvm.ClassFile Sem Op Lib Jvm.Free Jvm.Stand Jvm.LawKit Jvm.RoadKit Bundle Jvm.Pilot.@@N@@.Jvm.D
/-! OWN KIT: a walk's goal that can be forked and joined -/
section OwnKit
variable {p : Program} {l : Launch} {e : Env} {R : Room} {s : State} {m : MethodId} {args : Array Value} {below : List Frame} {meth : Method} {c : Code} {T : State} {locs : List Loc} {cells slots : Nat}
/-- from the state st the run comes to its end, having returned v over the heap and the places of which F speaks -/
def own_End (p : Program) (e : Env) (below : List Frame) (s st : State) (F : Option Value → Heap → List Loc → Prop) (k n : Nat) : Prop :=
  ∃ s₂ o, Steps p.tables e below st s₂ ∧ s₂.status = .running ∧ Ended s₂ below o ∧ ∃ v L, o = .returned v ∧ F v s₂.heap L ∧ FrameEnd s o s₂ L k n
theorem own_go {st st' : State} {F : Option Value → Heap → List Loc → Prop} {k n : Nat} (h : ∀ t, Steps p.tables e below st' t → Steps p.tables e below st t) (q : own_End p e below s st' F k n) : own_End p e below s st F k n := by
  obtain ⟨s₂, o, h1, h2⟩ := q
  exact ⟨s₂, o, h _ h1, h2⟩
theorem own_ret (X : Stand p l e R s m args below meth c T locs cells slots) {v : Option Value} {g : JFrame} {F : Option Value → Heap → List Loc → Prop} {k n : Nat} (hv : meth.sig.returnType = none → v = none) (hlocks : meth.locks = false)
    (hst : ∀ fs, (∀ (f : JFrame) (acts : List Action), f.method = m → f.locked = none → f.entered = [] → (doReturn e (T.setTop f) acts v).1 = T.setFrames fs) → Steps p.tables e below (T.setTop g) (T.setFrames fs))
    (hF : F v T.heap locs) (hc : cells ≤ k) (hs : slots ≤ n) : own_End p e below s (T.setTop g) F k n := by
  obtain ⟨fs, hr, hrun, hended, hW, hsame⟩ := X.leave (v := v) hv hlocks
  exact ⟨_, _, hst fs hr, hrun, hended, _, _, rfl, hF, ⟨_, rfl⟩, hW, hsame.mono hc hs⟩
theorem own_retJ (X : Stand p l e R s m args below meth c T locs cells slots) (hx : p.tables.exec = Jvm.exec) {pc : Nat} {Ls : Array Slot} {z : Int64} {rest : List Value} (hret : meth.sig.returnType = some .long) (hd : decode c.code pc = .ok (.lreturn, 1)) {fs : List Frame}
    (hl : ∀ (f : JFrame) (acts : List Action), f.method = m → f.locked = none → f.entered = [] → (doReturn e (T.setTop f) acts (some (.long z))).1 = T.setFrames fs) : Steps p.tables e below (T.setTop (mkF m pc Ls (.long z :: rest))) (T.setFrames fs) := by
  have hm' : T.vm.method? m = some meth := X.method'
  have hn : narrow .long (.long z) = .long z := rfl
  show Steps p.tables e below (T.setTop { method := m, pc := pc, locals := Ls, stack := _ :: rest, locked := none }) _
  jvm_step X.here [X.here.top, hx, hd, hm', hret, hn]
  first | (intro acts; rw [hl _ acts rfl rfl rfl]) | rw [hl _ _ rfl rfl rfl]
  exact Steps.refl _
theorem own_retD (X : Stand p l e R s m args below meth c T locs cells slots) (hx : p.tables.exec = Jvm.exec) {pc : Nat} {Ls : Array Slot} {z : UInt64} {rest : List Value} (hret : meth.sig.returnType = some .double) (hd : decode c.code pc = .ok (.dreturn, 1)) {fs : List Frame}
    (hl : ∀ (f : JFrame) (acts : List Action), f.method = m → f.locked = none → f.entered = [] → (doReturn e (T.setTop f) acts (some (.double z))).1 = T.setFrames fs) : Steps p.tables e below (T.setTop (mkF m pc Ls (.double z :: rest))) (T.setFrames fs) := by
  have hm' : T.vm.method? m = some meth := X.method'
  have hn : narrow .double (.double z) = .double z := rfl
  show Steps p.tables e below (T.setTop { method := m, pc := pc, locals := Ls, stack := _ :: rest, locked := none }) _
  jvm_step X.here [X.here.top, hx, hd, hm', hret, hn]
  first | (intro acts; rw [hl _ acts rfl rfl rfl]) | rw [hl _ _ rfl rfl rfl]
  exact Steps.refl _
theorem own_tlt {x y : Int32} {i j : Int} (hx : x.toInt = i) (hy : y.toInt = j) (h : i < j) : if_icmp.holds .lt x y = true ∧ if_icmp.holds .ge x y = false ∧ if_icmp.holds .gt y x = true ∧ if_icmp.holds .le y x = false :=
  tlt (by rw [Int32.lt_iff_toInt_lt, hx, hy]; exact h)
theorem own_flt {x y : Int32} {i j : Int} (hx : x.toInt = i) (hy : y.toInt = j) (h : ¬ i < j) : if_icmp.holds .lt x y = false ∧ if_icmp.holds .ge x y = true ∧ if_icmp.holds .gt y x = false ∧ if_icmp.holds .le y x = true :=
  flt (by rw [Int32.lt_iff_toInt_lt, hx, hy]; exact h)
theorem own_eq {x y : Int32} {i j : Int} (hx : x.toInt = i) (hy : y.toInt = j) (h : i = j) : if_icmp.holds .eq x y = true ∧ if_icmp.holds .ne x y = false :=
  teq (Int32.toInt_inj.mp (by rw [hx, hy]; exact h))
theorem own_ne {x y : Int32} {i j : Int} (hx : x.toInt = i) (hy : y.toInt = j) (h : ¬ i = j) : if_icmp.holds .eq x y = false ∧ if_icmp.holds .ne x y = true :=
  feq (fun q => h (by rw [← hx, ← hy, q]))
theorem own_Llt {x y : Int64} {i j : Int} (hx : x.toInt = i) (hy : y.toInt = j) (h : i < j) : if_icmp.holds .lt (lcmpW x y) 0 = true ∧ if_icmp.holds .ge (lcmpW x y) 0 = false ∧ if_icmp.holds .gt 0 (lcmpW x y) = true ∧ if_icmp.holds .le 0 (lcmpW x y) = false :=
  tlt ((lw_lt x y).mpr (by rw [Int64.lt_iff_toInt_lt, hx, hy]; exact h))
theorem own_Llf {x y : Int64} {i j : Int} (hx : x.toInt = i) (hy : y.toInt = j) (h : ¬ i < j) : if_icmp.holds .lt (lcmpW x y) 0 = false ∧ if_icmp.holds .ge (lcmpW x y) 0 = true ∧ if_icmp.holds .gt 0 (lcmpW x y) = false ∧ if_icmp.holds .le 0 (lcmpW x y) = true :=
  flt (fun q => h (by have := (lw_lt x y).mp q; rw [Int64.lt_iff_toInt_lt, hx, hy] at this; exact this))
theorem own_Lgt {x y : Int64} {i j : Int} (hy : y.toInt = j) (hx : x.toInt = i) (h : j < i) : if_icmp.holds .lt 0 (lcmpW x y) = true ∧ if_icmp.holds .ge 0 (lcmpW x y) = false ∧ if_icmp.holds .gt (lcmpW x y) 0 = true ∧ if_icmp.holds .le (lcmpW x y) 0 = false :=
  tlt ((lw_gt x y).mpr (by rw [Int64.lt_iff_toInt_lt, hx, hy]; exact h))
theorem own_Lgf {x y : Int64} {i j : Int} (hy : y.toInt = j) (hx : x.toInt = i) (h : ¬ j < i) : if_icmp.holds .lt 0 (lcmpW x y) = false ∧ if_icmp.holds .ge 0 (lcmpW x y) = true ∧ if_icmp.holds .gt (lcmpW x y) 0 = false ∧ if_icmp.holds .le (lcmpW x y) 0 = true :=
  flt (fun q => h (by have := (lw_gt x y).mp q; rw [Int64.lt_iff_toInt_lt, hx, hy] at this; exact this))
theorem own_Let {x y : Int64} {i j : Int} (hx : x.toInt = i) (hy : y.toInt = j) (h : i = j) : if_icmp.holds .eq (lcmpW x y) 0 = true ∧ if_icmp.holds .ne (lcmpW x y) 0 = false :=
  teq ((lw_eq x y).mpr (Int64.toInt_inj.mp (by rw [hx, hy]; exact h)))
theorem own_Lef {x y : Int64} {i j : Int} (hx : x.toInt = i) (hy : y.toInt = j) (h : ¬ i = j) : if_icmp.holds .eq (lcmpW x y) 0 = false ∧ if_icmp.holds .ne (lcmpW x y) 0 = true :=
  feq (fun q => h (by rw [← hx, ← hy, (lw_eq x y).mp q]))
/-- (turned from the worked claim gauge-weight) the model's own selection picks a private method itself -/
theorem own_selP {y : MethodName} {s : State} {args : Array Value} {n : Nat} (hy : y.cls ≠ "java/lang/invoke/MethodHandle" ∧ y.cls ≠ "java/lang/invoke/VarHandle") (hins : (Cond.instantiable y.cls n).before args s = true) (hpriv : (Cond.privateMethod y).before args s = true) (hinst : (Cond.instanceMethod y).before args s = true) :
    (Cond.selects y.cls y y).before args s = true := by
  obtain ⟨c, k, hc, hk, -, hniab, -, -⟩ := Cond.instantiable_spec hins
  have hni : k.isInterface = false := (Bool.or_eq_false_iff.mp hniab).1
  obtain ⟨mk, methM, hnamed, hmethM, -, -⟩ := Cond.instanceMethod_spec hinst
  have hfound : s.methodFound? y.cls y.name y.desc = some mk := State.methodFound?_of_named hnamed hy
  have hcls : mk.cls = c := Option.some.inj ((findClass_of_methodNamed hnamed).symm.trans hc)
  have hsel : selectMethod {} s.vm c mk = .method mk := selectMethod_private hmethM (Cond.privateMethod_at hpriv mk methM hnamed hmethM)
  simp only [Cond.before, Cond.holds, Cond.value, hc, hfound, hnamed, hsel, hcls, hk]
  simp; exact hni
end OwnKit
theorem own_pn0 : plainName "com/example/interweave/interweave/cli/CounterWorkload" = true := by first | (simp [plainName, overriddenIn]; done) | decide +kernel
theorem own_ef1_rm1 (m : MethodId) (o0 : Addr) : entryFrame m #[(.ref o0)] 1 = mkF m 0 #[.val (.ref o0)] [] := by first | (simp [entryFrame, mkF, argsToLocals, Value.category]; done) | rfl
def Q_rm1 (Z : State) (o0 : Addr)  (h0 : Heap) (n0 : Nat) (v : Option Value) (h : Heap) (L : List Loc) : Prop := v = none ∧ Fr n0 L ∧ h = h0
theorem d1_0 : decode prog_12_method_1_code 0 = .ok (.aload_n 0, 1) := by decide +kernel
theorem d1_1 : decode prog_12_method_1_code 1 = .ok (.invokespecial 1, 3) := by decide +kernel
theorem d1_4 : decode prog_12_method_1_code 4 = .ok (.return_, 1) := by decide +kernel
set_option maxRecDepth 65536 in
set_option maxHeartbeats 40000000 in
theorem rm1 (l : Launch) (Z : State) (a0 : Array Value) (hw : ∀ d ∈ tables_1, d.before a0 Z = true) (ws : List Jvm.Cond) (o0 : Addr)  (h0 : Heap) (n0 : Nat) (Z0 : n0 ≤ h0.size)  :
    MetFree l (⟨"com/example/interweave/interweave/cli/CounterWorkload", "<init>", "()V"⟩ : MethodName) (head1 (Jvm.Cond.code (⟨"com/example/interweave/interweave/cli/CounterWorkload", "<init>", "()V"⟩ : MethodName) prog_12_method_1_code 1 none :: ws) ({ frames := 1, cells := 0, slots := 0, locals := 12 } : Room)) (fun a U => a = #[(.ref o0)] ∧ Z.Warmed39 U.vm ∧ U.heap = h0) (fun _ _ _ _ _ => True) (fun _ U o U' => ∃ v L, o = .returned v ∧ Q_rm1 Z o0  h0 n0 v U'.heap L ∧ FrameEnd U o U' L ({ frames := 1, cells := 0, slots := 0, locals := 12 } : Room).cells ({ frames := 1, cells := 0, slots := 0, locals := 12 } : Room).slots) := by
  refine MetFree.of_bodySF (plainFor_of_name own_pn0) hisR ?_
  intro p e s m args below meth c s₁ Bd hml0 hP hK
  obtain ⟨rfl, hZ, hh⟩ := hP
  have hx := Bd.exec
  have hby := Bd.bytes
  have hml : c.maxLocals = 1 := hml0
  have hown : s.vm.findClass "com/example/interweave/interweave/cli/CounterWorkload" = some m.cls := findClass_of_methodNamed Bd.named
  have hnm := (name_of_methodNamed Bd.named Bd.method).1
  have X0 : Stand p l e ({ frames := 1, cells := 0, slots := 0, locals := 12 } : Room) s m #[(.ref o0)] below meth c s₁ [] 0 0 := Stand.of_body Bd
  have e0 : s₁.heap = h0 := by rw [← hh, Bd.state]; rfl
  have N0 := Fr.nil n0
  refine (show own_End p e below s (s₁.setTop (entryFrame m #[(.ref o0)] 1)) (Q_rm1 Z o0  h0 n0) ({ frames := 1, cells := 0, slots := 0, locals := 12 } : Room).cells ({ frames := 1, cells := 0, slots := 0, locals := 12 } : Room).slots from ?_)
  refine own_go (fun t k => castTop (own_ef1_rm1 m o0) k) ?_
  have li0 : (0 : Int32).toInt = 0 := rfl
  have li1 : (1 : Int32).toInt = 1 := rfl
  show own_End p e below s (s₁.setTop (mkF m 0 #[.val (.ref o0)] [])) _ _ _
  refine own_go (fun t k => XS.aloadN X0.here hx rfl (hb hby d1_0) rfl rfl k) ?_
  show own_End p e below s (s₁.setTop (mkF m 1 #[.val (.ref o0)] [(.ref o0)])) _ _ _
  obtain ⟨T1, X1, e1, st1⟩ := initO X0 hx hZ hown (hw _ (List.mem_of_getElem? (i := 6) rfl)) (hw _ (List.mem_of_getElem? (i := 7) rfl)) (hw _ (List.mem_of_getElem? (i := 8) rfl)) e0 (g := (mkF m 1 #[.val (.ref o0)] [(.ref o0)])) rfl (by rw [hml]; rfl) rfl (hb hby d1_1) (by decide) (W := 0) (by show 2 * 0 + _ ≤ _; exact Nat.le_of_eq rfl) (by decide)
  refine own_go st1 ?_
  show own_End p e below s (T1.setTop (mkF m 4 #[.val (.ref o0)] [])) _ _ _
  refine own_ret X1 (v := none) (fun _ => rfl) Bd.notSynchronized (fun fs hr => X1.returnOut hx Bd.returns (hb hby d1_4) hr) ?_ (by decide) (by decide)
  · rw [e1]; exact ⟨rfl, N0, rfl⟩
theorem own_ef3_rm2 (m : MethodId) (o0 : Addr) (q1 : Int64) (q2 : Int64) : entryFrame m #[(.ref o0), (.long q1), (.long q2)] 5 = mkF m 0 #[.val (.ref o0), .val (.long q1), .second, .val (.long q2), .second] [] := by first | (simp [entryFrame, mkF, argsToLocals, Value.category]; done) | rfl
def Q_rm2 (Z : State) (o0 : Addr) (q1 : Int64) (q2 : Int64)  (h0 : Heap) (n0 : Nat) (v : Option Value) (h : Heap) (L : List Loc) : Prop := (∃ z, v = some (.int z) ∧ (z.toInt = 1 ∧ q2.toInt < q1.toInt ∨ z.toInt = 0 ∧ ¬ q2.toInt < q1.toInt)) ∧ Fr n0 L ∧ h = h0
theorem d3_0 : decode prog_12_method_5_code 0 = .ok (.lload_n 3, 1) := by decide +kernel
theorem d3_1 : decode prog_12_method_5_code 1 = .ok (.lload_n 1, 1) := by decide +kernel
theorem d3_2 : decode prog_12_method_5_code 2 = .ok (.lcmp, 1) := by decide +kernel
theorem d3_3 : decode prog_12_method_5_code 3 = .ok (.ifCond .ge 7, 3) := by decide +kernel
theorem d3_6 : decode prog_12_method_5_code 6 = .ok (.iconst 1, 1) := by decide +kernel
theorem d3_7 : decode prog_12_method_5_code 7 = .ok (.goto 4, 3) := by decide +kernel
theorem d3_11 : decode prog_12_method_5_code 11 = .ok (.ireturn, 1) := by decide +kernel
theorem d3_10 : decode prog_12_method_5_code 10 = .ok (.iconst 0, 1) := by decide +kernel
set_option maxRecDepth 65536 in
set_option maxHeartbeats 40000000 in
theorem rm2 (l : Launch) (Z : State) (a0 : Array Value) (hw : ∀ d ∈ tables_1, d.before a0 Z = true) (ws : List Jvm.Cond) (o0 : Addr) (q1 : Int64) (q2 : Int64)  (h0 : Heap) (n0 : Nat) (Z0 : n0 ≤ h0.size)  :
    MetFree l (⟨"com/example/interweave/interweave/cli/CounterWorkload", "isSnapshotWrong", "(JJ)Z"⟩ : MethodName) (head1 (Jvm.Cond.code (⟨"com/example/interweave/interweave/cli/CounterWorkload", "isSnapshotWrong", "(JJ)Z"⟩ : MethodName) prog_12_method_5_code 5 (some .boolean) :: ws) ({ frames := 0, cells := 0, slots := 0, locals := 0 } : Room)) (fun a U => a = #[(.ref o0), (.long q1), (.long q2)] ∧ Z.Warmed39 U.vm ∧ U.heap = h0) (fun _ _ _ _ _ => True) (fun _ U o U' => ∃ v L, o = .returned v ∧ Q_rm2 Z o0 q1 q2  h0 n0 v U'.heap L ∧ FrameEnd U o U' L ({ frames := 0, cells := 0, slots := 0, locals := 0 } : Room).cells ({ frames := 0, cells := 0, slots := 0, locals := 0 } : Room).slots) := by
  refine MetFree.of_bodySF (plainFor_of_name own_pn0) hisR ?_
  intro p e s m args below meth c s₁ Bd hml0 hP hK
  obtain ⟨rfl, hZ, hh⟩ := hP
  have hx := Bd.exec
  have hby := Bd.bytes
  have hml : c.maxLocals = 5 := hml0
  have hown : s.vm.findClass "com/example/interweave/interweave/cli/CounterWorkload" = some m.cls := findClass_of_methodNamed Bd.named
  have hnm := (name_of_methodNamed Bd.named Bd.method).1
  have X0 : Stand p l e ({ frames := 0, cells := 0, slots := 0, locals := 0 } : Room) s m #[(.ref o0), (.long q1), (.long q2)] below meth c s₁ [] 0 0 := Stand.of_body Bd
  have e0 : s₁.heap = h0 := by rw [← hh, Bd.state]; rfl
  have N0 := Fr.nil n0
  refine (show own_End p e below s (s₁.setTop (entryFrame m #[(.ref o0), (.long q1), (.long q2)] 5)) (Q_rm2 Z o0 q1 q2  h0 n0) ({ frames := 0, cells := 0, slots := 0, locals := 0 } : Room).cells ({ frames := 0, cells := 0, slots := 0, locals := 0 } : Room).slots from ?_)
  refine own_go (fun t k => castTop (own_ef3_rm2 m o0 q1 q2) k) ?_
  have li0 : (0 : Int32).toInt = 0 := rfl
  have li1 : (1 : Int32).toInt = 1 := rfl
  show own_End p e below s (s₁.setTop (mkF m 0 #[.val (.ref o0), .val (.long q1), .second, .val (.long q2), .second] [])) _ _ _
  refine own_go (fun t k => XS.lloadN X0.here hx rfl (hb hby d3_0) rfl k) ?_
  show own_End p e below s (s₁.setTop (mkF m 1 #[.val (.ref o0), .val (.long q1), .second, .val (.long q2), .second] [(.long q2)])) _ _ _
  refine own_go (fun t k => XS.lloadN X0.here hx rfl (hb hby d3_1) rfl k) ?_
  show own_End p e below s (s₁.setTop (mkF m 2 #[.val (.ref o0), .val (.long q1), .second, .val (.long q2), .second] [(.long q1), (.long q2)])) _ _ _
  refine own_go (fun t k => XS.lcmp X0.here hx rfl (hb hby d3_2) rfl k) ?_
  show own_End p e below s (s₁.setTop (mkF m 3 #[.val (.ref o0), .val (.long q1), .second, .val (.long q2), .second] [(.int (lcmpW q2 q1))])) _ _ _
  by_cases c3_1 : q2.toInt < q1.toInt
  · skip
    refine own_go (fun t k => XS.ifNo X0.here hx rfl (hb hby d3_3) rfl ((if0 _ _).trans (own_Llt rfl rfl c3_1).2.1) k) ?_
    show own_End p e below s (s₁.setTop (mkF m 6 #[.val (.ref o0), .val (.long q1), .second, .val (.long q2), .second] [])) _ _ _
    refine own_go (fun t k => XS.iconst X0.here hx rfl (hb hby d3_6) k) ?_
    show own_End p e below s (s₁.setTop (mkF m 7 #[.val (.ref o0), .val (.long q1), .second, .val (.long q2), .second] [(.int (1 : Int32))])) _ _ _
    refine own_go (fun t k => XS.goto X0.here hx rfl (pc0 := 7) (pc' := 11) rfl (hb hby d3_7) (by decide) (by decide) k) ?_
    show own_End p e below s (s₁.setTop (mkF m 11 #[.val (.ref o0), .val (.long q1), .second, .val (.long q2), .second] [(.int (1 : Int32))])) _ _ _
    refine own_ret X0 (v := some (.int (1 : Int32))) (fun h => by rw [Bd.returns] at h; cases h) Bd.notSynchronized (fun fs hr => retN X0 hx (t := .boolean) Bd.returns (by simp) (hb hby d3_11) hr) ?_ (by decide) (by decide)
    · rw [e0]; exact ⟨⟨_, rfl, by omega⟩, N0, rfl⟩
  · skip
    refine own_go (fun t k => XS.ifYes X0.here hx rfl (pc0 := 3) (pc' := 10) rfl (hb hby d3_3) rfl ((if0 _ _).trans (own_Llf rfl rfl c3_1).2.1) (by decide) (by decide) k) ?_
    show own_End p e below s (s₁.setTop (mkF m 10 #[.val (.ref o0), .val (.long q1), .second, .val (.long q2), .second] [])) _ _ _
    refine own_go (fun t k => XS.iconst X0.here hx rfl (hb hby d3_10) k) ?_
    show own_End p e below s (s₁.setTop (mkF m 11 #[.val (.ref o0), .val (.long q1), .second, .val (.long q2), .second] [(.int (0 : Int32))])) _ _ _
    refine own_ret X0 (v := some (.int (0 : Int32))) (fun h => by rw [Bd.returns] at h; cases h) Bd.notSynchronized (fun fs hr => retN X0 hx (t := .boolean) Bd.returns (by simp) (hb hby d3_11) hr) ?_ (by decide) (by decide)
    · rw [e0]; exact ⟨⟨_, rfl, by omega⟩, N0, rfl⟩
theorem own_pn1 : plainName "com/example/interweave/interweave/cli/CounterWorkloadIsSnapshotWrongPinLaw" = true := by first | (simp [plainName, overriddenIn]; done) | decide +kernel
theorem own_ef0_rm0 (m : MethodId) (q0 : Int64) (q1 : Int64) (q2 : Int64) : entryFrame m #[(.long q0), (.long q1), (.long q2)] maxLocals = mkF m 0 #[.val (.long q0), .second, .val (.long q1), .second, .val (.long q2), .second, .unset, .unset, .unset, .unset, .unset, .unset, .unset, .unset, .unset, .unset, .unset] [] := by first | (simp [entryFrame, mkF, argsToLocals, Value.category, maxLocals]; done) | rfl
def Q_rm0 (Z : State) (q0 : Int64) (q1 : Int64) (q2 : Int64)  (h0 : Heap) (n0 : Nat) (v : Option Value) (h : Heap) (L : List Loc) : Prop := v = some (.int 1) ∧ Fr n0 L
theorem own_pd0 : parseMethodDescriptor "()V" = some ⟨[], none⟩ := by decide +kernel
theorem own_pd1 : parseMethodDescriptor "(JJ)Z" = some ⟨[.long, .long], some .boolean⟩ := by decide +kernel
set_option maxRecDepth 65536 in
set_option maxHeartbeats 40000000 in
theorem rm0 (l : Launch) (Z : State) (a0 : Array Value) (hw : ∀ d ∈ tables_1, d.before a0 Z = true) (ws : List Jvm.Cond) (q0 : Int64) (q1 : Int64) (q2 : Int64)  (h0 : Heap) (n0 : Nat) (Z0 : n0 ≤ h0.size)  :
    MetFree l x (head1 (Jvm.Cond.code x code maxLocals ret :: ws) room_1) (fun a U => a = #[(.long q0), (.long q1), (.long q2)] ∧ Z.Warmed39 U.vm ∧ U.heap = h0) (fun _ _ _ _ _ => True) (fun _ U o U' => ∃ v L, o = .returned v ∧ Q_rm0 Z q0 q1 q2  h0 n0 v U'.heap L ∧ FrameEnd U o U' L room_1.cells room_1.slots) := by
  refine MetFree.of_bodySF (plainFor_of_name own_pn1) hisR ?_
  intro p e s m args below meth c s₁ Bd hml0 hP hK
  obtain ⟨rfl, hZ, hh⟩ := hP
  have hx := Bd.exec
  have hby := Bd.bytes
  have hml : c.maxLocals = 17 := hml0
  have hown : s.vm.findClass "com/example/interweave/interweave/cli/CounterWorkloadIsSnapshotWrongPinLaw" = some m.cls := findClass_of_methodNamed Bd.named
  have hnm := (name_of_methodNamed Bd.named Bd.method).1
  have X0 : Stand p l e room_1 s m #[(.long q0), (.long q1), (.long q2)] below meth c s₁ [] 0 0 := Stand.of_body Bd
  have e0 : s₁.heap = h0 := by rw [← hh, Bd.state]; rfl
  have N0 := Fr.nil n0
  refine (show own_End p e below s (s₁.setTop (entryFrame m #[(.long q0), (.long q1), (.long q2)] maxLocals)) (Q_rm0 Z q0 q1 q2  h0 n0) room_1.cells room_1.slots from ?_)
  refine own_go (fun t k => castTop (own_ef0_rm0 m q0 q1 q2) k) ?_
  have li0 : (0 : Int32).toInt = 0 := rfl
  have li1 : (1 : Int32).toInt = 1 := rfl
  show own_End p e below s (s₁.setTop (mkF m 0 #[.val (.long q0), .second, .val (.long q1), .second, .val (.long q2), .second, .unset, .unset, .unset, .unset, .unset, .unset, .unset, .unset, .unset, .unset, .unset] [])) _ _ _
  obtain ⟨T1, h1, X1, e1, E1, A1, D1, -, st1⟩ := newO X0 hx hZ hown (hw _ (List.mem_of_getElem? (i := 0) rfl)) (hw _ (List.mem_of_getElem? (i := 1) rfl)) (hw _ (List.mem_of_getElem? (i := 2) rfl)) e0 (g := (mkF m 0 #[.val (.long q0), .second, .val (.long q1), .second, .val (.long q2), .second, .unset, .unset, .unset, .unset, .unset, .unset, .unset, .unset, .unset, .unset, .unset] [])) rfl (hb hby at_0) (by decide) (by decide)
  obtain ⟨b1, g1⟩ : ∃ z, z = h0.size := ⟨_, rfl⟩
  rw [← g1] at A1 D1 st1
  have g_b1 : n0 ≤ b1 := Nat.le_trans Z0 (Nat.le_of_eq g1.symm)
  have Z1 : n0 ≤ h1.size := Nat.le_trans Z0 E1.1
  refine own_go st1 ?_
  show own_End p e below s (T1.setTop (mkF m 3 #[.val (.long q0), .second, .val (.long q1), .second, .val (.long q2), .second, .unset, .unset, .unset, .unset, .unset, .unset, .unset, .unset, .unset, .unset, .unset] [(.ref b1)])) _ _ _
  refine own_go (fun t k => XS.dup X1.here hx rfl (hb hby at_3) rfl rfl k) ?_
  show own_End p e below s (T1.setTop (mkF m 4 #[.val (.long q0), .second, .val (.long q1), .second, .val (.long q2), .second, .unset, .unset, .unset, .unset, .unset, .unset, .unset, .unset, .unset, .unset, .unset] [(.ref b1), (.ref b1)])) _ _ _
  obtain ⟨_, _, ⟨T2, L2, k2, n2⟩, -, X2, ⟨Lc2, hQ2, l2, y2, z2⟩, st2⟩ := X1.specialBack hx (y := (⟨"com/example/interweave/interweave/cli/CounterWorkload", "<init>", "()V"⟩ : MethodName)) rfl hown (mvT hZ (hw _ (List.mem_of_getElem? (i := 3) rfl))) (mvT hZ (hw _ (List.mem_of_getElem? (i := 4) rfl))) (mvT hZ (hw _ (List.mem_of_getElem? (i := 5) rfl))) (by decide) (backOf (W := 1) (rm1 l Z a0 hw [] b1 h1 n0 Z1) hZ (hw _ (List.mem_of_getElem? (i := 5) rfl)) (hw _ (List.mem_of_getElem? (i := 2) rfl)) (by decide) (by decide)) (g := (mkF m 4 #[.val (.long q0), .second, .val (.long q1), .second, .val (.long q2), .second, .unset, .unset, .unset, .unset, .unset, .unset, .unset, .unset, .unset, .unset, .unset] [(.ref b1), (.ref b1)])) rfl (by rw [hml]; rfl) (Steps.refl _) (a := b1) (argsL := []) (rest := [(.ref b1)]) (lenOf own_pd0 rfl) rfl (by show 2 * 0 + _ ≤ _; exact Nat.le_of_eq rfl) (hb hby at_4) (fun _ _ => ⟨rfl, e1, (by decide : 1 + 0 ≤ _), (by decide : 1 + 0 ≤ _)⟩)
  dsimp only [Pt.U, Pt.locs, Pt.cells, Pt.slots] at X2 l2 y2 z2 st2 hQ2
  subst l2 y2 z2
  obtain ⟨rfl, N2q, e2⟩ := hQ2
  have N2 := Fr.app N0 N2q
  refine own_go (fun t k => st2.trans k) ?_
  show own_End p e below s (T2.setTop (mkF m 7 #[.val (.long q0), .second, .val (.long q1), .second, .val (.long q2), .second, .unset, .unset, .unset, .unset, .unset, .unset, .unset, .unset, .unset, .unset, .unset] [(.ref b1)])) _ _ _
  refine own_go (fun t k => XS.astore X2.here hx rfl (hb hby at_7) rfl rfl (l' := #[.val (.long q0), .second, .val (.long q1), .second, .val (.long q2), .second, .val (.ref b1), .unset, .unset, .unset, .unset, .unset, .unset, .unset, .unset, .unset, .unset]) rfl k) ?_
  show own_End p e below s (T2.setTop (mkF m 9 #[.val (.long q0), .second, .val (.long q1), .second, .val (.long q2), .second, .val (.ref b1), .unset, .unset, .unset, .unset, .unset, .unset, .unset, .unset, .unset, .unset] [])) _ _ _
  refine own_go (fun t k => XS.aload X2.here hx rfl (hb hby at_9) rfl rfl k) ?_
  show own_End p e below s (T2.setTop (mkF m 11 #[.val (.long q0), .second, .val (.long q1), .second, .val (.long q2), .second, .val (.ref b1), .unset, .unset, .unset, .unset, .unset, .unset, .unset, .unset, .unset, .unset] [(.ref b1)])) _ _ _
  refine own_go (fun t k => XS.lloadN X2.here hx rfl (hb hby at_11) rfl k) ?_
  show own_End p e below s (T2.setTop (mkF m 12 #[.val (.long q0), .second, .val (.long q1), .second, .val (.long q2), .second, .val (.ref b1), .unset, .unset, .unset, .unset, .unset, .unset, .unset, .unset, .unset, .unset] [(.long q0), (.ref b1)])) _ _ _
  refine own_go (fun t k => XS.lloadN X2.here hx rfl (hb hby at_12) rfl k) ?_
  show own_End p e below s (T2.setTop (mkF m 13 #[.val (.long q0), .second, .val (.long q1), .second, .val (.long q2), .second, .val (.ref b1), .unset, .unset, .unset, .unset, .unset, .unset, .unset, .unset, .unset, .unset] [(.long q0), (.long q0), (.ref b1)])) _ _ _
  obtain ⟨cq3, kq3, q3a, q3b, q3c⟩ := isOf hZ e2 A1
  obtain ⟨_, _, ⟨T3, L3, k3, n3⟩, -, X3, ⟨Lc3, hQ3, l3, y3, z3⟩, st3⟩ := X2.virtualBack hx (y := (⟨"com/example/interweave/interweave/cli/CounterWorkload", "isSnapshotWrong", "(JJ)Z"⟩ : MethodName)) (z := (⟨"com/example/interweave/interweave/cli/CounterWorkload", "isSnapshotWrong", "(JJ)Z"⟩ : MethodName)) hown (mvT hZ (hw _ (List.mem_of_getElem? (i := 9) rfl))) (mvT hZ (hw _ (List.mem_of_getElem? (i := 10) rfl))) (notFace_of_selects (args := #[]) (mvT hZ (hw _ (List.mem_of_getElem? (i := 12) rfl)))) (mvT hZ (hw _ (List.mem_of_getElem? (i := 12) rfl))) (mvT hZ (hw _ (List.mem_of_getElem? (i := 11) rfl))) (by decide) (backOf (W := 0) (rm2 l Z a0 hw [] b1 q0 q0 h1 n0 Z1) hZ (hw _ (List.mem_of_getElem? (i := 13) rfl)) (hw _ (List.mem_of_getElem? (i := 2) rfl)) (by decide) (by decide)) q3a q3c (g := (mkF m 13 #[.val (.long q0), .second, .val (.long q1), .second, .val (.long q2), .second, .val (.ref b1), .unset, .unset, .unset, .unset, .unset, .unset, .unset, .unset, .unset, .unset] [(.long q0), (.long q0), (.ref b1)])) rfl (by rw [hml]; rfl) (Steps.refl _) (argsL := [(.long q0), (.long q0)]) (rest := []) (lenOf own_pd1 rfl) rfl (by show 2 * 0 + _ ≤ _; exact Nat.le_of_eq rfl) (hb hby at_13) (fun _ _ => ⟨rfl, e2, (by decide : 1 + 0 ≤ _), (by decide : 1 + 0 ≤ _)⟩)
  dsimp only [Pt.U, Pt.locs, Pt.cells, Pt.slots] at X3 l3 y3 z3 st3 hQ3
  subst l3 y3 z3
  obtain ⟨⟨r3, rfl, hr3⟩, N3q, e3⟩ := hQ3
  have N3 := Fr.app N2 N3q
  refine own_go (fun t k => st3.trans k) ?_
  show own_End p e below s (T3.setTop (mkF m 16 #[.val (.long q0), .second, .val (.long q1), .second, .val (.long q2), .second, .val (.ref b1), .unset, .unset, .unset, .unset, .unset, .unset, .unset, .unset, .unset, .unset] [(.int r3)])) _ _ _
  refine own_go (fun t k => XS.istore X3.here hx rfl (hb hby at_16) rfl (l' := #[.val (.long q0), .second, .val (.long q1), .second, .val (.long q2), .second, .val (.ref b1), .val (.int r3), .unset, .unset, .unset, .unset, .unset, .unset, .unset, .unset, .unset]) rfl k) ?_
  show own_End p e below s (T3.setTop (mkF m 18 #[.val (.long q0), .second, .val (.long q1), .second, .val (.long q2), .second, .val (.ref b1), .val (.int r3), .unset, .unset, .unset, .unset, .unset, .unset, .unset, .unset, .unset] [])) _ _ _
  refine own_go (fun t k => XS.aload X3.here hx rfl (hb hby at_18) rfl rfl k) ?_
  show own_End p e below s (T3.setTop (mkF m 20 #[.val (.long q0), .second, .val (.long q1), .second, .val (.long q2), .second, .val (.ref b1), .val (.int r3), .unset, .unset, .unset, .unset, .unset, .unset, .unset, .unset, .unset] [(.ref b1)])) _ _ _
  refine own_go (fun t k => X3.ldc2Long hx hown (mvT hZ (hw _ (List.mem_of_getElem? (i := 14) rfl))) (g := (mkF m 20 #[.val (.long q0), .second, .val (.long q1), .second, .val (.long q2), .second, .val (.ref b1), .val (.int r3), .unset, .unset, .unset, .unset, .unset, .unset, .unset, .unset, .unset] [(.ref b1)])) rfl (hb hby at_20) _ k) ?_
  show own_End p e below s (T3.setTop (mkF m 23 #[.val (.long q0), .second, .val (.long q1), .second, .val (.long q2), .second, .val (.ref b1), .val (.int r3), .unset, .unset, .unset, .unset, .unset, .unset, .unset, .unset, .unset] [(.long (-9223372036854775808 : Int64)), (.ref b1)])) _ _ _
  refine own_go (fun t k => XS.lloadN X3.here hx rfl (hb hby at_23) rfl k) ?_
  show own_End p e below s (T3.setTop (mkF m 24 #[.val (.long q0), .second, .val (.long q1), .second, .val (.long q2), .second, .val (.ref b1), .val (.int r3), .unset, .unset, .unset, .unset, .unset, .unset, .unset, .unset, .unset] [(.long q1), (.long (-9223372036854775808 : Int64)), (.ref b1)])) _ _ _
  obtain ⟨cq4, kq4, q4a, q4b, q4c⟩ := isOf hZ e3 A1
  obtain ⟨_, _, ⟨T4, L4, k4, n4⟩, -, X4, ⟨Lc4, hQ4, l4, y4, z4⟩, st4⟩ := X3.virtualBack hx (y := (⟨"com/example/interweave/interweave/cli/CounterWorkload", "isSnapshotWrong", "(JJ)Z"⟩ : MethodName)) (z := (⟨"com/example/interweave/interweave/cli/CounterWorkload", "isSnapshotWrong", "(JJ)Z"⟩ : MethodName)) hown (mvT hZ (hw _ (List.mem_of_getElem? (i := 9) rfl))) (mvT hZ (hw _ (List.mem_of_getElem? (i := 10) rfl))) (notFace_of_selects (args := #[]) (mvT hZ (hw _ (List.mem_of_getElem? (i := 12) rfl)))) (mvT hZ (hw _ (List.mem_of_getElem? (i := 12) rfl))) (mvT hZ (hw _ (List.mem_of_getElem? (i := 11) rfl))) (by decide) (backOf (W := 0) (rm2 l Z a0 hw [] b1 (-9223372036854775808 : Int64) q1 h1 n0 Z1) hZ (hw _ (List.mem_of_getElem? (i := 13) rfl)) (hw _ (List.mem_of_getElem? (i := 2) rfl)) (by decide) (by decide)) q4a q4c (g := (mkF m 24 #[.val (.long q0), .second, .val (.long q1), .second, .val (.long q2), .second, .val (.ref b1), .val (.int r3), .unset, .unset, .unset, .unset, .unset, .unset, .unset, .unset, .unset] [(.long q1), (.long (-9223372036854775808 : Int64)), (.ref b1)])) rfl (by rw [hml]; rfl) (Steps.refl _) (argsL := [(.long (-9223372036854775808 : Int64)), (.long q1)]) (rest := []) (lenOf own_pd1 rfl) rfl (by show 2 * 0 + _ ≤ _; exact Nat.le_of_eq rfl) (hb hby at_24) (fun _ _ => ⟨rfl, e3, (by decide : 1 + 0 ≤ _), (by decide : 1 + 0 ≤ _)⟩)
  dsimp only [Pt.U, Pt.locs, Pt.cells, Pt.slots] at X4 l4 y4 z4 st4 hQ4
  subst l4 y4 z4
  obtain ⟨⟨r4, rfl, hr4⟩, N4q, e4⟩ := hQ4
  have N4 := Fr.app N3 N4q
  refine own_go (fun t k => st4.trans k) ?_
  show own_End p e below s (T4.setTop (mkF m 27 #[.val (.long q0), .second, .val (.long q1), .second, .val (.long q2), .second, .val (.ref b1), .val (.int r3), .unset, .unset, .unset, .unset, .unset, .unset, .unset, .unset, .unset] [(.int r4)])) _ _ _
  refine own_go (fun t k => XS.istore X4.here hx rfl (hb hby at_27) rfl (l' := #[.val (.long q0), .second, .val (.long q1), .second, .val (.long q2), .second, .val (.ref b1), .val (.int r3), .val (.int r4), .unset, .unset, .unset, .unset, .unset, .unset, .unset, .unset]) rfl k) ?_
  show own_End p e below s (T4.setTop (mkF m 29 #[.val (.long q0), .second, .val (.long q1), .second, .val (.long q2), .second, .val (.ref b1), .val (.int r3), .val (.int r4), .unset, .unset, .unset, .unset, .unset, .unset, .unset, .unset] [])) _ _ _
  refine own_go (fun t k => XS.aload X4.here hx rfl (hb hby at_29) rfl rfl k) ?_
  show own_End p e below s (T4.setTop (mkF m 31 #[.val (.long q0), .second, .val (.long q1), .second, .val (.long q2), .second, .val (.ref b1), .val (.int r3), .val (.int r4), .unset, .unset, .unset, .unset, .unset, .unset, .unset, .unset] [(.ref b1)])) _ _ _
  refine own_go (fun t k => XS.lloadN X4.here hx rfl (hb hby at_31) rfl k) ?_
  show own_End p e below s (T4.setTop (mkF m 32 #[.val (.long q0), .second, .val (.long q1), .second, .val (.long q2), .second, .val (.ref b1), .val (.int r3), .val (.int r4), .unset, .unset, .unset, .unset, .unset, .unset, .unset, .unset] [(.long q0), (.ref b1)])) _ _ _
  refine own_go (fun t k => XS.lloadN X4.here hx rfl (hb hby at_32) rfl k) ?_
  show own_End p e below s (T4.setTop (mkF m 33 #[.val (.long q0), .second, .val (.long q1), .second, .val (.long q2), .second, .val (.ref b1), .val (.int r3), .val (.int r4), .unset, .unset, .unset, .unset, .unset, .unset, .unset, .unset] [(.long q1), (.long q0), (.ref b1)])) _ _ _
  obtain ⟨cq5, kq5, q5a, q5b, q5c⟩ := isOf hZ e4 A1
  obtain ⟨_, _, ⟨T5, L5, k5, n5⟩, -, X5, ⟨Lc5, hQ5, l5, y5, z5⟩, st5⟩ := X4.virtualBack hx (y := (⟨"com/example/interweave/interweave/cli/CounterWorkload", "isSnapshotWrong", "(JJ)Z"⟩ : MethodName)) (z := (⟨"com/example/interweave/interweave/cli/CounterWorkload", "isSnapshotWrong", "(JJ)Z"⟩ : MethodName)) hown (mvT hZ (hw _ (List.mem_of_getElem? (i := 9) rfl))) (mvT hZ (hw _ (List.mem_of_getElem? (i := 10) rfl))) (notFace_of_selects (args := #[]) (mvT hZ (hw _ (List.mem_of_getElem? (i := 12) rfl)))) (mvT hZ (hw _ (List.mem_of_getElem? (i := 12) rfl))) (mvT hZ (hw _ (List.mem_of_getElem? (i := 11) rfl))) (by decide) (backOf (W := 0) (rm2 l Z a0 hw [] b1 q0 q1 h1 n0 Z1) hZ (hw _ (List.mem_of_getElem? (i := 13) rfl)) (hw _ (List.mem_of_getElem? (i := 2) rfl)) (by decide) (by decide)) q5a q5c (g := (mkF m 33 #[.val (.long q0), .second, .val (.long q1), .second, .val (.long q2), .second, .val (.ref b1), .val (.int r3), .val (.int r4), .unset, .unset, .unset, .unset, .unset, .unset, .unset, .unset] [(.long q1), (.long q0), (.ref b1)])) rfl (by rw [hml]; rfl) (Steps.refl _) (argsL := [(.long q0), (.long q1)]) (rest := []) (lenOf own_pd1 rfl) rfl (by show 2 * 0 + _ ≤ _; exact Nat.le_of_eq rfl) (hb hby at_33) (fun _ _ => ⟨rfl, e4, (by decide : 1 + 0 ≤ _), (by decide : 1 + 0 ≤ _)⟩)
  dsimp only [Pt.U, Pt.locs, Pt.cells, Pt.slots] at X5 l5 y5 z5 st5 hQ5
  subst l5 y5 z5
  obtain ⟨⟨r5, rfl, hr5⟩, N5q, e5⟩ := hQ5
  have N5 := Fr.app N4 N5q
  refine own_go (fun t k => st5.trans k) ?_
  show own_End p e below s (T5.setTop (mkF m 36 #[.val (.long q0), .second, .val (.long q1), .second, .val (.long q2), .second, .val (.ref b1), .val (.int r3), .val (.int r4), .unset, .unset, .unset, .unset, .unset, .unset, .unset, .unset] [(.int r5)])) _ _ _
  refine own_go (fun t k => XS.istore X5.here hx rfl (hb hby at_36) rfl (l' := #[.val (.long q0), .second, .val (.long q1), .second, .val (.long q2), .second, .val (.ref b1), .val (.int r3), .val (.int r4), .val (.int r5), .unset, .unset, .unset, .unset, .unset, .unset, .unset]) rfl k) ?_
  show own_End p e below s (T5.setTop (mkF m 38 #[.val (.long q0), .second, .val (.long q1), .second, .val (.long q2), .second, .val (.ref b1), .val (.int r3), .val (.int r4), .val (.int r5), .unset, .unset, .unset, .unset, .unset, .unset, .unset] [])) _ _ _
  refine own_go (fun t k => XS.aload X5.here hx rfl (hb hby at_38) rfl rfl k) ?_
  show own_End p e below s (T5.setTop (mkF m 40 #[.val (.long q0), .second, .val (.long q1), .second, .val (.long q2), .second, .val (.ref b1), .val (.int r3), .val (.int r4), .val (.int r5), .unset, .unset, .unset, .unset, .unset, .unset, .unset] [(.ref b1)])) _ _ _
  refine own_go (fun t k => XS.lloadN X5.here hx rfl (hb hby at_40) rfl k) ?_
  show own_End p e below s (T5.setTop (mkF m 41 #[.val (.long q0), .second, .val (.long q1), .second, .val (.long q2), .second, .val (.ref b1), .val (.int r3), .val (.int r4), .val (.int r5), .unset, .unset, .unset, .unset, .unset, .unset, .unset] [(.long q1), (.ref b1)])) _ _ _
  refine own_go (fun t k => XS.lloadN X5.here hx rfl (hb hby at_41) rfl k) ?_
  show own_End p e below s (T5.setTop (mkF m 42 #[.val (.long q0), .second, .val (.long q1), .second, .val (.long q2), .second, .val (.ref b1), .val (.int r3), .val (.int r4), .val (.int r5), .unset, .unset, .unset, .unset, .unset, .unset, .unset] [(.long q0), (.long q1), (.ref b1)])) _ _ _
  obtain ⟨cq6, kq6, q6a, q6b, q6c⟩ := isOf hZ e5 A1
  obtain ⟨_, _, ⟨T6, L6, k6, n6⟩, -, X6, ⟨Lc6, hQ6, l6, y6, z6⟩, st6⟩ := X5.virtualBack hx (y := (⟨"com/example/interweave/interweave/cli/CounterWorkload", "isSnapshotWrong", "(JJ)Z"⟩ : MethodName)) (z := (⟨"com/example/interweave/interweave/cli/CounterWorkload", "isSnapshotWrong", "(JJ)Z"⟩ : MethodName)) hown (mvT hZ (hw _ (List.mem_of_getElem? (i := 9) rfl))) (mvT hZ (hw _ (List.mem_of_getElem? (i := 10) rfl))) (notFace_of_selects (args := #[]) (mvT hZ (hw _ (List.mem_of_getElem? (i := 12) rfl)))) (mvT hZ (hw _ (List.mem_of_getElem? (i := 12) rfl))) (mvT hZ (hw _ (List.mem_of_getElem? (i := 11) rfl))) (by decide) (backOf (W := 0) (rm2 l Z a0 hw [] b1 q1 q0 h1 n0 Z1) hZ (hw _ (List.mem_of_getElem? (i := 13) rfl)) (hw _ (List.mem_of_getElem? (i := 2) rfl)) (by decide) (by decide)) q6a q6c (g := (mkF m 42 #[.val (.long q0), .second, .val (.long q1), .second, .val (.long q2), .second, .val (.ref b1), .val (.int r3), .val (.int r4), .val (.int r5), .unset, .unset, .unset, .unset, .unset, .unset, .unset] [(.long q0), (.long q1), (.ref b1)])) rfl (by rw [hml]; rfl) (Steps.refl _) (argsL := [(.long q1), (.long q0)]) (rest := []) (lenOf own_pd1 rfl) rfl (by show 2 * 0 + _ ≤ _; exact Nat.le_of_eq rfl) (hb hby at_42) (fun _ _ => ⟨rfl, e5, (by decide : 1 + 0 ≤ _), (by decide : 1 + 0 ≤ _)⟩)
  dsimp only [Pt.U, Pt.locs, Pt.cells, Pt.slots] at X6 l6 y6 z6 st6 hQ6
  subst l6 y6 z6
  obtain ⟨⟨r6, rfl, hr6⟩, N6q, e6⟩ := hQ6
  have N6 := Fr.app N5 N6q
  refine own_go (fun t k => st6.trans k) ?_
  show own_End p e below s (T6.setTop (mkF m 45 #[.val (.long q0), .second, .val (.long q1), .second, .val (.long q2), .second, .val (.ref b1), .val (.int r3), .val (.int r4), .val (.int r5), .unset, .unset, .unset, .unset, .unset, .unset, .unset] [(.int r6)])) _ _ _
  refine own_go (fun t k => XS.istore X6.here hx rfl (hb hby at_45) rfl (l' := #[.val (.long q0), .second, .val (.long q1), .second, .val (.long q2), .second, .val (.ref b1), .val (.int r3), .val (.int r4), .val (.int r5), .val (.int r6), .unset, .unset, .unset, .unset, .unset, .unset]) rfl k) ?_
  show own_End p e below s (T6.setTop (mkF m 47 #[.val (.long q0), .second, .val (.long q1), .second, .val (.long q2), .second, .val (.ref b1), .val (.int r3), .val (.int r4), .val (.int r5), .val (.int r6), .unset, .unset, .unset, .unset, .unset, .unset] [])) _ _ _
  refine own_go (fun t k => XS.aload X6.here hx rfl (hb hby at_47) rfl rfl k) ?_
  show own_End p e below s (T6.setTop (mkF m 49 #[.val (.long q0), .second, .val (.long q1), .second, .val (.long q2), .second, .val (.ref b1), .val (.int r3), .val (.int r4), .val (.int r5), .val (.int r6), .unset, .unset, .unset, .unset, .unset, .unset] [(.ref b1)])) _ _ _
  refine own_go (fun t k => XS.lloadN X6.here hx rfl (hb hby at_49) rfl k) ?_
  show own_End p e below s (T6.setTop (mkF m 50 #[.val (.long q0), .second, .val (.long q1), .second, .val (.long q2), .second, .val (.ref b1), .val (.int r3), .val (.int r4), .val (.int r5), .val (.int r6), .unset, .unset, .unset, .unset, .unset, .unset] [(.long q1), (.ref b1)])) _ _ _
  refine own_go (fun t k => XS.lload X6.here hx rfl (hb hby at_50) rfl k) ?_
  show own_End p e below s (T6.setTop (mkF m 52 #[.val (.long q0), .second, .val (.long q1), .second, .val (.long q2), .second, .val (.ref b1), .val (.int r3), .val (.int r4), .val (.int r5), .val (.int r6), .unset, .unset, .unset, .unset, .unset, .unset] [(.long q2), (.long q1), (.ref b1)])) _ _ _
  obtain ⟨cq7, kq7, q7a, q7b, q7c⟩ := isOf hZ e6 A1
  obtain ⟨_, _, ⟨T7, L7, k7, n7⟩, -, X7, ⟨Lc7, hQ7, l7, y7, z7⟩, st7⟩ := X6.virtualBack hx (y := (⟨"com/example/interweave/interweave/cli/CounterWorkload", "isSnapshotWrong", "(JJ)Z"⟩ : MethodName)) (z := (⟨"com/example/interweave/interweave/cli/CounterWorkload", "isSnapshotWrong", "(JJ)Z"⟩ : MethodName)) hown (mvT hZ (hw _ (List.mem_of_getElem? (i := 9) rfl))) (mvT hZ (hw _ (List.mem_of_getElem? (i := 10) rfl))) (notFace_of_selects (args := #[]) (mvT hZ (hw _ (List.mem_of_getElem? (i := 12) rfl)))) (mvT hZ (hw _ (List.mem_of_getElem? (i := 12) rfl))) (mvT hZ (hw _ (List.mem_of_getElem? (i := 11) rfl))) (by decide) (backOf (W := 0) (rm2 l Z a0 hw [] b1 q1 q2 h1 n0 Z1) hZ (hw _ (List.mem_of_getElem? (i := 13) rfl)) (hw _ (List.mem_of_getElem? (i := 2) rfl)) (by decide) (by decide)) q7a q7c (g := (mkF m 52 #[.val (.long q0), .second, .val (.long q1), .second, .val (.long q2), .second, .val (.ref b1), .val (.int r3), .val (.int r4), .val (.int r5), .val (.int r6), .unset, .unset, .unset, .unset, .unset, .unset] [(.long q2), (.long q1), (.ref b1)])) rfl (by rw [hml]; rfl) (Steps.refl _) (argsL := [(.long q1), (.long q2)]) (rest := []) (lenOf own_pd1 rfl) rfl (by show 2 * 0 + _ ≤ _; exact Nat.le_of_eq rfl) (hb hby at_52) (fun _ _ => ⟨rfl, e6, (by decide : 1 + 0 ≤ _), (by decide : 1 + 0 ≤ _)⟩)
  dsimp only [Pt.U, Pt.locs, Pt.cells, Pt.slots] at X7 l7 y7 z7 st7 hQ7
  subst l7 y7 z7
  obtain ⟨⟨r7, rfl, hr7⟩, N7q, e7⟩ := hQ7
  have N7 := Fr.app N6 N7q
  refine own_go (fun t k => st7.trans k) ?_
  show own_End p e below s (T7.setTop (mkF m 55 #[.val (.long q0), .second, .val (.long q1), .second, .val (.long q2), .second, .val (.ref b1), .val (.int r3), .val (.int r4), .val (.int r5), .val (.int r6), .unset, .unset, .unset, .unset, .unset, .unset] [(.int r7)])) _ _ _
  refine own_go (fun t k => XS.istore X7.here hx rfl (hb hby at_55) rfl (l' := #[.val (.long q0), .second, .val (.long q1), .second, .val (.long q2), .second, .val (.ref b1), .val (.int r3), .val (.int r4), .val (.int r5), .val (.int r6), .val (.int r7), .unset, .unset, .unset, .unset, .unset]) rfl k) ?_
  show own_End p e below s (T7.setTop (mkF m 57 #[.val (.long q0), .second, .val (.long q1), .second, .val (.long q2), .second, .val (.ref b1), .val (.int r3), .val (.int r4), .val (.int r5), .val (.int r6), .val (.int r7), .unset, .unset, .unset, .unset, .unset] [])) _ _ _
  refine own_go (fun t k => XS.aload X7.here hx rfl (hb hby at_57) rfl rfl k) ?_
  show own_End p e below s (T7.setTop (mkF m 59 #[.val (.long q0), .second, .val (.long q1), .second, .val (.long q2), .second, .val (.ref b1), .val (.int r3), .val (.int r4), .val (.int r5), .val (.int r6), .val (.int r7), .unset, .unset, .unset, .unset, .unset] [(.ref b1)])) _ _ _
  refine own_go (fun t k => XS.lloadN X7.here hx rfl (hb hby at_59) rfl k) ?_
  show own_End p e below s (T7.setTop (mkF m 60 #[.val (.long q0), .second, .val (.long q1), .second, .val (.long q2), .second, .val (.ref b1), .val (.int r3), .val (.int r4), .val (.int r5), .val (.int r6), .val (.int r7), .unset, .unset, .unset, .unset, .unset] [(.long q0), (.ref b1)])) _ _ _
  refine own_go (fun t k => XS.lload X7.here hx rfl (hb hby at_60) rfl k) ?_
  show own_End p e below s (T7.setTop (mkF m 62 #[.val (.long q0), .second, .val (.long q1), .second, .val (.long q2), .second, .val (.ref b1), .val (.int r3), .val (.int r4), .val (.int r5), .val (.int r6), .val (.int r7), .unset, .unset, .unset, .unset, .unset] [(.long q2), (.long q0), (.ref b1)])) _ _ _
  obtain ⟨cq8, kq8, q8a, q8b, q8c⟩ := isOf hZ e7 A1
  obtain ⟨_, _, ⟨T8, L8, k8, n8⟩, -, X8, ⟨Lc8, hQ8, l8, y8, z8⟩, st8⟩ := X7.virtualBack hx (y := (⟨"com/example/interweave/interweave/cli/CounterWorkload", "isSnapshotWrong", "(JJ)Z"⟩ : MethodName)) (z := (⟨"com/example/interweave/interweave/cli/CounterWorkload", "isSnapshotWrong", "(JJ)Z"⟩ : MethodName)) hown (mvT hZ (hw _ (List.mem_of_getElem? (i := 9) rfl))) (mvT hZ (hw _ (List.mem_of_getElem? (i := 10) rfl))) (notFace_of_selects (args := #[]) (mvT hZ (hw _ (List.mem_of_getElem? (i := 12) rfl)))) (mvT hZ (hw _ (List.mem_of_getElem? (i := 12) rfl))) (mvT hZ (hw _ (List.mem_of_getElem? (i := 11) rfl))) (by decide) (backOf (W := 0) (rm2 l Z a0 hw [] b1 q0 q2 h1 n0 Z1) hZ (hw _ (List.mem_of_getElem? (i := 13) rfl)) (hw _ (List.mem_of_getElem? (i := 2) rfl)) (by decide) (by decide)) q8a q8c (g := (mkF m 62 #[.val (.long q0), .second, .val (.long q1), .second, .val (.long q2), .second, .val (.ref b1), .val (.int r3), .val (.int r4), .val (.int r5), .val (.int r6), .val (.int r7), .unset, .unset, .unset, .unset, .unset] [(.long q2), (.long q0), (.ref b1)])) rfl (by rw [hml]; rfl) (Steps.refl _) (argsL := [(.long q0), (.long q2)]) (rest := []) (lenOf own_pd1 rfl) rfl (by show 2 * 0 + _ ≤ _; exact Nat.le_of_eq rfl) (hb hby at_62) (fun _ _ => ⟨rfl, e7, (by decide : 1 + 0 ≤ _), (by decide : 1 + 0 ≤ _)⟩)
  dsimp only [Pt.U, Pt.locs, Pt.cells, Pt.slots] at X8 l8 y8 z8 st8 hQ8
  subst l8 y8 z8
  obtain ⟨⟨r8, rfl, hr8⟩, N8q, e8⟩ := hQ8
  have N8 := Fr.app N7 N8q
  refine own_go (fun t k => st8.trans k) ?_
  show own_End p e below s (T8.setTop (mkF m 65 #[.val (.long q0), .second, .val (.long q1), .second, .val (.long q2), .second, .val (.ref b1), .val (.int r3), .val (.int r4), .val (.int r5), .val (.int r6), .val (.int r7), .unset, .unset, .unset, .unset, .unset] [(.int r8)])) _ _ _
  refine own_go (fun t k => XS.istore X8.here hx rfl (hb hby at_65) rfl (l' := #[.val (.long q0), .second, .val (.long q1), .second, .val (.long q2), .second, .val (.ref b1), .val (.int r3), .val (.int r4), .val (.int r5), .val (.int r6), .val (.int r7), .val (.int r8), .unset, .unset, .unset, .unset]) rfl k) ?_
  show own_End p e below s (T8.setTop (mkF m 67 #[.val (.long q0), .second, .val (.long q1), .second, .val (.long q2), .second, .val (.ref b1), .val (.int r3), .val (.int r4), .val (.int r5), .val (.int r6), .val (.int r7), .val (.int r8), .unset, .unset, .unset, .unset] [])) _ _ _
  refine own_go (fun t k => XS.lloadN X8.here hx rfl (hb hby at_67) rfl k) ?_
  show own_End p e below s (T8.setTop (mkF m 68 #[.val (.long q0), .second, .val (.long q1), .second, .val (.long q2), .second, .val (.ref b1), .val (.int r3), .val (.int r4), .val (.int r5), .val (.int r6), .val (.int r7), .val (.int r8), .unset, .unset, .unset, .unset] [(.long q1)])) _ _ _
  refine own_go (fun t k => X8.ldc2Long hx hown (mvT hZ (hw _ (List.mem_of_getElem? (i := 15) rfl))) (g := (mkF m 68 #[.val (.long q0), .second, .val (.long q1), .second, .val (.long q2), .second, .val (.ref b1), .val (.int r3), .val (.int r4), .val (.int r5), .val (.int r6), .val (.int r7), .val (.int r8), .unset, .unset, .unset, .unset] [(.long q1)])) rfl (hb hby at_68) _ k) ?_
  show own_End p e below s (T8.setTop (mkF m 71 #[.val (.long q0), .second, .val (.long q1), .second, .val (.long q2), .second, .val (.ref b1), .val (.int r3), .val (.int r4), .val (.int r5), .val (.int r6), .val (.int r7), .val (.int r8), .unset, .unset, .unset, .unset] [(.long (9223372036854775807 : Int64)), (.long q1)])) _ _ _
  refine own_go (fun t k => XS.lcmp X8.here hx rfl (hb hby at_71) rfl k) ?_
  show own_End p e below s (T8.setTop (mkF m 72 #[.val (.long q0), .second, .val (.long q1), .second, .val (.long q2), .second, .val (.ref b1), .val (.int r3), .val (.int r4), .val (.int r5), .val (.int r6), .val (.int r7), .val (.int r8), .unset, .unset, .unset, .unset] [(.int (lcmpW q1 (9223372036854775807 : Int64)))])) _ _ _
  have kx : (9223372036854775807 : Int64).toInt = 9223372036854775807 := rfl
  have kn : (-9223372036854775808 : Int64).toInt = -9223372036854775808 := rfl
  have k1 : (1 : Int64).toInt = 1 := rfl
  have kq := rng64 q0
  have kq1 := rng64 q1
  have kq2 := rng64 q2
  have J82 : ∀ (low : Int64) (hlow : low.toInt < 9223372036854775807), own_End p e below s (T8.setTop (mkF m 82 #[.val (.long q0), .second, .val (.long q1), .second, .val (.long q2), .second, .val (.ref b1), .val (.int r3), .val (.int r4), .val (.int r5), .val (.int r6), .val (.int r7), .val (.int r8), .unset, .unset, .unset, .unset] [(.long low)])) (Q_rm0 Z q0 q1 q2  h0 n0) room_1.cells room_1.slots := by
    intro low hlow
    have ka := c_ladd low (1 : Int64)
    have kr := rng64 (low + (1 : Int64))
    show own_End p e below s (T8.setTop (mkF m 82 #[.val (.long q0), .second, .val (.long q1), .second, .val (.long q2), .second, .val (.ref b1), .val (.int r3), .val (.int r4), .val (.int r5), .val (.int r6), .val (.int r7), .val (.int r8), .unset, .unset, .unset, .unset] [(.long low)])) _ _ _
    refine own_go (fun t k => XS.lstore X8.here hx rfl (hb hby at_82) rfl (l' := #[.val (.long q0), .second, .val (.long q1), .second, .val (.long q2), .second, .val (.ref b1), .val (.int r3), .val (.int r4), .val (.int r5), .val (.int r6), .val (.int r7), .val (.int r8), .val (.long low), .second, .unset, .unset]) rfl k) ?_
    show own_End p e below s (T8.setTop (mkF m 84 #[.val (.long q0), .second, .val (.long q1), .second, .val (.long q2), .second, .val (.ref b1), .val (.int r3), .val (.int r4), .val (.int r5), .val (.int r6), .val (.int r7), .val (.int r8), .val (.long low), .second, .unset, .unset] [])) _ _ _
    refine own_go (fun t k => XS.aload X8.here hx rfl (hb hby at_84) rfl rfl k) ?_
    show own_End p e below s (T8.setTop (mkF m 86 #[.val (.long q0), .second, .val (.long q1), .second, .val (.long q2), .second, .val (.ref b1), .val (.int r3), .val (.int r4), .val (.int r5), .val (.int r6), .val (.int r7), .val (.int r8), .val (.long low), .second, .unset, .unset] [(.ref b1)])) _ _ _
    refine own_go (fun t k => XS.lload X8.here hx rfl (hb hby at_86) rfl k) ?_
    show own_End p e below s (T8.setTop (mkF m 88 #[.val (.long q0), .second, .val (.long q1), .second, .val (.long q2), .second, .val (.ref b1), .val (.int r3), .val (.int r4), .val (.int r5), .val (.int r6), .val (.int r7), .val (.int r8), .val (.long low), .second, .unset, .unset] [(.long low), (.ref b1)])) _ _ _
    refine own_go (fun t k => XS.lconst X8.here hx rfl (hb hby at_88) k) ?_
    show own_End p e below s (T8.setTop (mkF m 89 #[.val (.long q0), .second, .val (.long q1), .second, .val (.long q2), .second, .val (.ref b1), .val (.int r3), .val (.int r4), .val (.int r5), .val (.int r6), .val (.int r7), .val (.int r8), .val (.long low), .second, .unset, .unset] [(.long (1 : Int64)), (.long low), (.ref b1)])) _ _ _
    refine own_go (fun t k => XS.ladd X8.here hx rfl (hb hby at_89) rfl k) ?_
    show own_End p e below s (T8.setTop (mkF m 90 #[.val (.long q0), .second, .val (.long q1), .second, .val (.long q2), .second, .val (.ref b1), .val (.int r3), .val (.int r4), .val (.int r5), .val (.int r6), .val (.int r7), .val (.int r8), .val (.long low), .second, .unset, .unset] [(.long (low + (1 : Int64))), (.ref b1)])) _ _ _
    refine own_go (fun t k => XS.lload X8.here hx rfl (hb hby at_90) rfl k) ?_
    show own_End p e below s (T8.setTop (mkF m 92 #[.val (.long q0), .second, .val (.long q1), .second, .val (.long q2), .second, .val (.ref b1), .val (.int r3), .val (.int r4), .val (.int r5), .val (.int r6), .val (.int r7), .val (.int r8), .val (.long low), .second, .unset, .unset] [(.long low), (.long (low + (1 : Int64))), (.ref b1)])) _ _ _
    obtain ⟨cq9, kq9, q9a, q9b, q9c⟩ := isOf hZ e8 A1
    obtain ⟨_, _, ⟨T9, L9, k9, n9⟩, -, X9, ⟨Lc9, hQ9, l9, y9, z9⟩, st9⟩ := X8.virtualBack hx (y := (⟨"com/example/interweave/interweave/cli/CounterWorkload", "isSnapshotWrong", "(JJ)Z"⟩ : MethodName)) (z := (⟨"com/example/interweave/interweave/cli/CounterWorkload", "isSnapshotWrong", "(JJ)Z"⟩ : MethodName)) hown (mvT hZ (hw _ (List.mem_of_getElem? (i := 9) rfl))) (mvT hZ (hw _ (List.mem_of_getElem? (i := 10) rfl))) (notFace_of_selects (args := #[]) (mvT hZ (hw _ (List.mem_of_getElem? (i := 12) rfl)))) (mvT hZ (hw _ (List.mem_of_getElem? (i := 12) rfl))) (mvT hZ (hw _ (List.mem_of_getElem? (i := 11) rfl))) (by decide) (backOf (W := 0) (rm2 l Z a0 hw [] b1 (low + (1 : Int64)) low h1 n0 Z1) hZ (hw _ (List.mem_of_getElem? (i := 13) rfl)) (hw _ (List.mem_of_getElem? (i := 2) rfl)) (by decide) (by decide)) q9a q9c (g := (mkF m 92 #[.val (.long q0), .second, .val (.long q1), .second, .val (.long q2), .second, .val (.ref b1), .val (.int r3), .val (.int r4), .val (.int r5), .val (.int r6), .val (.int r7), .val (.int r8), .val (.long low), .second, .unset, .unset] [(.long low), (.long (low + (1 : Int64))), (.ref b1)])) rfl (by rw [hml]; rfl) (Steps.refl _) (argsL := [(.long (low + (1 : Int64))), (.long low)]) (rest := []) (lenOf own_pd1 rfl) rfl (by show 2 * 0 + _ ≤ _; exact Nat.le_of_eq rfl) (hb hby at_92) (fun _ _ => ⟨rfl, e8, (by decide : 1 + 0 ≤ _), (by decide : 1 + 0 ≤ _)⟩)
    dsimp only [Pt.U, Pt.locs, Pt.cells, Pt.slots] at X9 l9 y9 z9 st9 hQ9
    subst l9 y9 z9
    obtain ⟨⟨r9, rfl, hr9⟩, N9q, e9⟩ := hQ9
    have N9 := Fr.app N8 N9q
    refine own_go (fun t k => st9.trans k) ?_
    show own_End p e below s (T9.setTop (mkF m 95 #[.val (.long q0), .second, .val (.long q1), .second, .val (.long q2), .second, .val (.ref b1), .val (.int r3), .val (.int r4), .val (.int r5), .val (.int r6), .val (.int r7), .val (.int r8), .val (.long low), .second, .unset, .unset] [(.int r9)])) _ _ _
    refine own_go (fun t k => XS.istore X9.here hx rfl (hb hby at_95) rfl (l' := #[.val (.long q0), .second, .val (.long q1), .second, .val (.long q2), .second, .val (.ref b1), .val (.int r3), .val (.int r4), .val (.int r5), .val (.int r6), .val (.int r7), .val (.int r8), .val (.long low), .second, .val (.int r9), .unset]) rfl k) ?_
    show own_End p e below s (T9.setTop (mkF m 97 #[.val (.long q0), .second, .val (.long q1), .second, .val (.long q2), .second, .val (.ref b1), .val (.int r3), .val (.int r4), .val (.int r5), .val (.int r6), .val (.int r7), .val (.int r8), .val (.long low), .second, .val (.int r9), .unset] [])) _ _ _
    refine own_go (fun t k => XS.aload X9.here hx rfl (hb hby at_97) rfl rfl k) ?_
    show own_End p e below s (T9.setTop (mkF m 99 #[.val (.long q0), .second, .val (.long q1), .second, .val (.long q2), .second, .val (.ref b1), .val (.int r3), .val (.int r4), .val (.int r5), .val (.int r6), .val (.int r7), .val (.int r8), .val (.long low), .second, .val (.int r9), .unset] [(.ref b1)])) _ _ _
    refine own_go (fun t k => XS.lload X9.here hx rfl (hb hby at_99) rfl k) ?_
    show own_End p e below s (T9.setTop (mkF m 101 #[.val (.long q0), .second, .val (.long q1), .second, .val (.long q2), .second, .val (.ref b1), .val (.int r3), .val (.int r4), .val (.int r5), .val (.int r6), .val (.int r7), .val (.int r8), .val (.long low), .second, .val (.int r9), .unset] [(.long low), (.ref b1)])) _ _ _
    refine own_go (fun t k => XS.lload X9.here hx rfl (hb hby at_101) rfl k) ?_
    show own_End p e below s (T9.setTop (mkF m 103 #[.val (.long q0), .second, .val (.long q1), .second, .val (.long q2), .second, .val (.ref b1), .val (.int r3), .val (.int r4), .val (.int r5), .val (.int r6), .val (.int r7), .val (.int r8), .val (.long low), .second, .val (.int r9), .unset] [(.long low), (.long low), (.ref b1)])) _ _ _
    refine own_go (fun t k => XS.lconst X9.here hx rfl (hb hby at_103) k) ?_
    show own_End p e below s (T9.setTop (mkF m 104 #[.val (.long q0), .second, .val (.long q1), .second, .val (.long q2), .second, .val (.ref b1), .val (.int r3), .val (.int r4), .val (.int r5), .val (.int r6), .val (.int r7), .val (.int r8), .val (.long low), .second, .val (.int r9), .unset] [(.long (1 : Int64)), (.long low), (.long low), (.ref b1)])) _ _ _
    refine own_go (fun t k => XS.ladd X9.here hx rfl (hb hby at_104) rfl k) ?_
    show own_End p e below s (T9.setTop (mkF m 105 #[.val (.long q0), .second, .val (.long q1), .second, .val (.long q2), .second, .val (.ref b1), .val (.int r3), .val (.int r4), .val (.int r5), .val (.int r6), .val (.int r7), .val (.int r8), .val (.long low), .second, .val (.int r9), .unset] [(.long (low + (1 : Int64))), (.long low), (.ref b1)])) _ _ _
    obtain ⟨cq10, kq10, q10a, q10b, q10c⟩ := isOf hZ e9 A1
    obtain ⟨_, _, ⟨T10, L10, k10, n10⟩, -, X10, ⟨Lc10, hQ10, l10, y10, z10⟩, st10⟩ := X9.virtualBack hx (y := (⟨"com/example/interweave/interweave/cli/CounterWorkload", "isSnapshotWrong", "(JJ)Z"⟩ : MethodName)) (z := (⟨"com/example/interweave/interweave/cli/CounterWorkload", "isSnapshotWrong", "(JJ)Z"⟩ : MethodName)) hown (mvT hZ (hw _ (List.mem_of_getElem? (i := 9) rfl))) (mvT hZ (hw _ (List.mem_of_getElem? (i := 10) rfl))) (notFace_of_selects (args := #[]) (mvT hZ (hw _ (List.mem_of_getElem? (i := 12) rfl)))) (mvT hZ (hw _ (List.mem_of_getElem? (i := 12) rfl))) (mvT hZ (hw _ (List.mem_of_getElem? (i := 11) rfl))) (by decide) (backOf (W := 0) (rm2 l Z a0 hw [] b1 low (low + (1 : Int64)) h1 n0 Z1) hZ (hw _ (List.mem_of_getElem? (i := 13) rfl)) (hw _ (List.mem_of_getElem? (i := 2) rfl)) (by decide) (by decide)) q10a q10c (g := (mkF m 105 #[.val (.long q0), .second, .val (.long q1), .second, .val (.long q2), .second, .val (.ref b1), .val (.int r3), .val (.int r4), .val (.int r5), .val (.int r6), .val (.int r7), .val (.int r8), .val (.long low), .second, .val (.int r9), .unset] [(.long (low + (1 : Int64))), (.long low), (.ref b1)])) rfl (by rw [hml]; rfl) (Steps.refl _) (argsL := [(.long low), (.long (low + (1 : Int64)))]) (rest := []) (lenOf own_pd1 rfl) rfl (by show 2 * 0 + _ ≤ _; exact Nat.le_of_eq rfl) (hb hby at_105) (fun _ _ => ⟨rfl, e9, (by decide : 1 + 0 ≤ _), (by decide : 1 + 0 ≤ _)⟩)
    dsimp only [Pt.U, Pt.locs, Pt.cells, Pt.slots] at X10 l10 y10 z10 st10 hQ10
    subst l10 y10 z10
    obtain ⟨⟨r10, rfl, hr10⟩, N10q, e10⟩ := hQ10
    have N10 := Fr.app N9 N10q
    refine own_go (fun t k => st10.trans k) ?_
    show own_End p e below s (T10.setTop (mkF m 108 #[.val (.long q0), .second, .val (.long q1), .second, .val (.long q2), .second, .val (.ref b1), .val (.int r3), .val (.int r4), .val (.int r5), .val (.int r6), .val (.int r7), .val (.int r8), .val (.long low), .second, .val (.int r9), .unset] [(.int r10)])) _ _ _
    refine own_go (fun t k => XS.istore X10.here hx rfl (hb hby at_108) rfl (l' := #[.val (.long q0), .second, .val (.long q1), .second, .val (.long q2), .second, .val (.ref b1), .val (.int r3), .val (.int r4), .val (.int r5), .val (.int r6), .val (.int r7), .val (.int r8), .val (.long low), .second, .val (.int r9), .val (.int r10)]) rfl k) ?_
    show own_End p e below s (T10.setTop (mkF m 110 #[.val (.long q0), .second, .val (.long q1), .second, .val (.long q2), .second, .val (.ref b1), .val (.int r3), .val (.int r4), .val (.int r5), .val (.int r6), .val (.int r7), .val (.int r8), .val (.long low), .second, .val (.int r9), .val (.int r10)] [])) _ _ _
    refine own_go (fun t k => XS.iload X10.here hx rfl (hb hby at_110) rfl k) ?_
    show own_End p e below s (T10.setTop (mkF m 112 #[.val (.long q0), .second, .val (.long q1), .second, .val (.long q2), .second, .val (.ref b1), .val (.int r3), .val (.int r4), .val (.int r5), .val (.int r6), .val (.int r7), .val (.int r8), .val (.long low), .second, .val (.int r9), .val (.int r10)] [(.int r3)])) _ _ _
    refine own_go (fun t k => XS.ifNo X10.here hx rfl (hb hby at_112) rfl ((if0 _ _).trans (own_eq rfl rfl (by omega)).2) k) ?_
    show own_End p e below s (T10.setTop (mkF m 115 #[.val (.long q0), .second, .val (.long q1), .second, .val (.long q2), .second, .val (.ref b1), .val (.int r3), .val (.int r4), .val (.int r5), .val (.int r6), .val (.int r7), .val (.int r8), .val (.long low), .second, .val (.int r9), .val (.int r10)] [])) _ _ _
    refine own_go (fun t k => XS.iload X10.here hx rfl (hb hby at_115) rfl k) ?_
    show own_End p e below s (T10.setTop (mkF m 117 #[.val (.long q0), .second, .val (.long q1), .second, .val (.long q2), .second, .val (.ref b1), .val (.int r3), .val (.int r4), .val (.int r5), .val (.int r6), .val (.int r7), .val (.int r8), .val (.long low), .second, .val (.int r9), .val (.int r10)] [(.int r4)])) _ _ _
    refine own_go (fun t k => XS.ifYes X10.here hx rfl (pc0 := 117) (pc' := 122) rfl (hb hby at_117) rfl ((if0 _ _).trans (own_eq rfl rfl (by omega)).1) (by decide) (by decide) k) ?_
    show own_End p e below s (T10.setTop (mkF m 122 #[.val (.long q0), .second, .val (.long q1), .second, .val (.long q2), .second, .val (.ref b1), .val (.int r3), .val (.int r4), .val (.int r5), .val (.int r6), .val (.int r7), .val (.int r8), .val (.long low), .second, .val (.int r9), .val (.int r10)] [])) _ _ _
    refine own_go (fun t k => XS.lloadN X10.here hx rfl (hb hby at_122) rfl k) ?_
    show own_End p e below s (T10.setTop (mkF m 123 #[.val (.long q0), .second, .val (.long q1), .second, .val (.long q2), .second, .val (.ref b1), .val (.int r3), .val (.int r4), .val (.int r5), .val (.int r6), .val (.int r7), .val (.int r8), .val (.long low), .second, .val (.int r9), .val (.int r10)] [(.long q0)])) _ _ _
    refine own_go (fun t k => XS.lloadN X10.here hx rfl (hb hby at_123) rfl k) ?_
    show own_End p e below s (T10.setTop (mkF m 124 #[.val (.long q0), .second, .val (.long q1), .second, .val (.long q2), .second, .val (.ref b1), .val (.int r3), .val (.int r4), .val (.int r5), .val (.int r6), .val (.int r7), .val (.int r8), .val (.long low), .second, .val (.int r9), .val (.int r10)] [(.long q1), (.long q0)])) _ _ _
    refine own_go (fun t k => XS.lcmp X10.here hx rfl (hb hby at_124) rfl k) ?_
    show own_End p e below s (T10.setTop (mkF m 125 #[.val (.long q0), .second, .val (.long q1), .second, .val (.long q2), .second, .val (.ref b1), .val (.int r3), .val (.int r4), .val (.int r5), .val (.int r6), .val (.int r7), .val (.int r8), .val (.long low), .second, .val (.int r9), .val (.int r10)] [(.int (lcmpW q0 q1))])) _ _ _
    by_cases c125_11 : q0.toInt = q1.toInt
    · skip
      refine own_go (fun t k => XS.ifYes X10.here hx rfl (pc0 := 125) (pc' := 137) rfl (hb hby at_125) rfl ((if0 _ _).trans (own_Let rfl rfl c125_11).1) (by decide) (by decide) k) ?_
      show own_End p e below s (T10.setTop (mkF m 137 #[.val (.long q0), .second, .val (.long q1), .second, .val (.long q2), .second, .val (.ref b1), .val (.int r3), .val (.int r4), .val (.int r5), .val (.int r6), .val (.int r7), .val (.int r8), .val (.long low), .second, .val (.int r9), .val (.int r10)] [])) _ _ _
      refine own_go (fun t k => XS.iload X10.here hx rfl (hb hby at_137) rfl k) ?_
      show own_End p e below s (T10.setTop (mkF m 139 #[.val (.long q0), .second, .val (.long q1), .second, .val (.long q2), .second, .val (.ref b1), .val (.int r3), .val (.int r4), .val (.int r5), .val (.int r6), .val (.int r7), .val (.int r8), .val (.long low), .second, .val (.int r9), .val (.int r10)] [(.int r5)])) _ _ _
      by_cases c139_12 : r5.toInt = 0
      · skip
        refine own_go (fun t k => XS.ifYes X10.here hx rfl (pc0 := 139) (pc' := 154) rfl (hb hby at_139) rfl ((if0 _ _).trans (own_eq rfl rfl c139_12).1) (by decide) (by decide) k) ?_
        show own_End p e below s (T10.setTop (mkF m 154 #[.val (.long q0), .second, .val (.long q1), .second, .val (.long q2), .second, .val (.ref b1), .val (.int r3), .val (.int r4), .val (.int r5), .val (.int r6), .val (.int r7), .val (.int r8), .val (.long low), .second, .val (.int r9), .val (.int r10)] [])) _ _ _
        refine own_go (fun t k => XS.iload X10.here hx rfl (hb hby at_154) rfl k) ?_
        show own_End p e below s (T10.setTop (mkF m 156 #[.val (.long q0), .second, .val (.long q1), .second, .val (.long q2), .second, .val (.ref b1), .val (.int r3), .val (.int r4), .val (.int r5), .val (.int r6), .val (.int r7), .val (.int r8), .val (.long low), .second, .val (.int r9), .val (.int r10)] [(.int r9)])) _ _ _
        refine own_go (fun t k => XS.ifNo X10.here hx rfl (hb hby at_156) rfl ((if0 _ _).trans (own_ne rfl rfl (by omega)).1) k) ?_
        show own_End p e below s (T10.setTop (mkF m 159 #[.val (.long q0), .second, .val (.long q1), .second, .val (.long q2), .second, .val (.ref b1), .val (.int r3), .val (.int r4), .val (.int r5), .val (.int r6), .val (.int r7), .val (.int r8), .val (.long low), .second, .val (.int r9), .val (.int r10)] [])) _ _ _
        refine own_go (fun t k => XS.iload X10.here hx rfl (hb hby at_159) rfl k) ?_
        show own_End p e below s (T10.setTop (mkF m 161 #[.val (.long q0), .second, .val (.long q1), .second, .val (.long q2), .second, .val (.ref b1), .val (.int r3), .val (.int r4), .val (.int r5), .val (.int r6), .val (.int r7), .val (.int r8), .val (.long low), .second, .val (.int r9), .val (.int r10)] [(.int r10)])) _ _ _
        refine own_go (fun t k => XS.ifNo X10.here hx rfl (hb hby at_161) rfl ((if0 _ _).trans (own_eq rfl rfl (by omega)).2) k) ?_
        show own_End p e below s (T10.setTop (mkF m 164 #[.val (.long q0), .second, .val (.long q1), .second, .val (.long q2), .second, .val (.ref b1), .val (.int r3), .val (.int r4), .val (.int r5), .val (.int r6), .val (.int r7), .val (.int r8), .val (.long low), .second, .val (.int r9), .val (.int r10)] [])) _ _ _
        refine own_go (fun t k => XS.iconst X10.here hx rfl (hb hby at_164) k) ?_
        show own_End p e below s (T10.setTop (mkF m 165 #[.val (.long q0), .second, .val (.long q1), .second, .val (.long q2), .second, .val (.ref b1), .val (.int r3), .val (.int r4), .val (.int r5), .val (.int r6), .val (.int r7), .val (.int r8), .val (.long low), .second, .val (.int r9), .val (.int r10)] [(.int (1 : Int32))])) _ _ _
        refine own_go (fun t k => XS.goto X10.here hx rfl (pc0 := 165) (pc' := 169) rfl (hb hby at_165) (by decide) (by decide) k) ?_
        show own_End p e below s (T10.setTop (mkF m 169 #[.val (.long q0), .second, .val (.long q1), .second, .val (.long q2), .second, .val (.ref b1), .val (.int r3), .val (.int r4), .val (.int r5), .val (.int r6), .val (.int r7), .val (.int r8), .val (.long low), .second, .val (.int r9), .val (.int r10)] [(.int (1 : Int32))])) _ _ _
        refine own_ret X10 (v := some (.int (1 : Int32))) (fun h => by rw [Bd.returns] at h; cases h) Bd.notSynchronized (fun fs hr => retN X10 hx (t := .boolean) Bd.returns (by simp) (hb hby at_169) hr) ?_ (by decide) (by decide)
        · exact ⟨rfl, N10⟩
      · skip
        refine own_go (fun t k => XS.ifNo X10.here hx rfl (hb hby at_139) rfl ((if0 _ _).trans (own_ne rfl rfl c139_12).1) k) ?_
        show own_End p e below s (T10.setTop (mkF m 142 #[.val (.long q0), .second, .val (.long q1), .second, .val (.long q2), .second, .val (.ref b1), .val (.int r3), .val (.int r4), .val (.int r5), .val (.int r6), .val (.int r7), .val (.int r8), .val (.long low), .second, .val (.int r9), .val (.int r10)] [])) _ _ _
        refine own_go (fun t k => XS.iload X10.here hx rfl (hb hby at_142) rfl k) ?_
        show own_End p e below s (T10.setTop (mkF m 144 #[.val (.long q0), .second, .val (.long q1), .second, .val (.long q2), .second, .val (.ref b1), .val (.int r3), .val (.int r4), .val (.int r5), .val (.int r6), .val (.int r7), .val (.int r8), .val (.long low), .second, .val (.int r9), .val (.int r10)] [(.int r7)])) _ _ _
        by_cases c144_13 : r7.toInt = 0
        · skip
          refine own_go (fun t k => XS.ifYes X10.here hx rfl (pc0 := 144) (pc' := 154) rfl (hb hby at_144) rfl ((if0 _ _).trans (own_eq rfl rfl c144_13).1) (by decide) (by decide) k) ?_
          show own_End p e below s (T10.setTop (mkF m 154 #[.val (.long q0), .second, .val (.long q1), .second, .val (.long q2), .second, .val (.ref b1), .val (.int r3), .val (.int r4), .val (.int r5), .val (.int r6), .val (.int r7), .val (.int r8), .val (.long low), .second, .val (.int r9), .val (.int r10)] [])) _ _ _
          refine own_go (fun t k => XS.iload X10.here hx rfl (hb hby at_154) rfl k) ?_
          show own_End p e below s (T10.setTop (mkF m 156 #[.val (.long q0), .second, .val (.long q1), .second, .val (.long q2), .second, .val (.ref b1), .val (.int r3), .val (.int r4), .val (.int r5), .val (.int r6), .val (.int r7), .val (.int r8), .val (.long low), .second, .val (.int r9), .val (.int r10)] [(.int r9)])) _ _ _
          refine own_go (fun t k => XS.ifNo X10.here hx rfl (hb hby at_156) rfl ((if0 _ _).trans (own_ne rfl rfl (by omega)).1) k) ?_
          show own_End p e below s (T10.setTop (mkF m 159 #[.val (.long q0), .second, .val (.long q1), .second, .val (.long q2), .second, .val (.ref b1), .val (.int r3), .val (.int r4), .val (.int r5), .val (.int r6), .val (.int r7), .val (.int r8), .val (.long low), .second, .val (.int r9), .val (.int r10)] [])) _ _ _
          refine own_go (fun t k => XS.iload X10.here hx rfl (hb hby at_159) rfl k) ?_
          show own_End p e below s (T10.setTop (mkF m 161 #[.val (.long q0), .second, .val (.long q1), .second, .val (.long q2), .second, .val (.ref b1), .val (.int r3), .val (.int r4), .val (.int r5), .val (.int r6), .val (.int r7), .val (.int r8), .val (.long low), .second, .val (.int r9), .val (.int r10)] [(.int r10)])) _ _ _
          refine own_go (fun t k => XS.ifNo X10.here hx rfl (hb hby at_161) rfl ((if0 _ _).trans (own_eq rfl rfl (by omega)).2) k) ?_
          show own_End p e below s (T10.setTop (mkF m 164 #[.val (.long q0), .second, .val (.long q1), .second, .val (.long q2), .second, .val (.ref b1), .val (.int r3), .val (.int r4), .val (.int r5), .val (.int r6), .val (.int r7), .val (.int r8), .val (.long low), .second, .val (.int r9), .val (.int r10)] [])) _ _ _
          refine own_go (fun t k => XS.iconst X10.here hx rfl (hb hby at_164) k) ?_
          show own_End p e below s (T10.setTop (mkF m 165 #[.val (.long q0), .second, .val (.long q1), .second, .val (.long q2), .second, .val (.ref b1), .val (.int r3), .val (.int r4), .val (.int r5), .val (.int r6), .val (.int r7), .val (.int r8), .val (.long low), .second, .val (.int r9), .val (.int r10)] [(.int (1 : Int32))])) _ _ _
          refine own_go (fun t k => XS.goto X10.here hx rfl (pc0 := 165) (pc' := 169) rfl (hb hby at_165) (by decide) (by decide) k) ?_
          show own_End p e below s (T10.setTop (mkF m 169 #[.val (.long q0), .second, .val (.long q1), .second, .val (.long q2), .second, .val (.ref b1), .val (.int r3), .val (.int r4), .val (.int r5), .val (.int r6), .val (.int r7), .val (.int r8), .val (.long low), .second, .val (.int r9), .val (.int r10)] [(.int (1 : Int32))])) _ _ _
          refine own_ret X10 (v := some (.int (1 : Int32))) (fun h => by rw [Bd.returns] at h; cases h) Bd.notSynchronized (fun fs hr => retN X10 hx (t := .boolean) Bd.returns (by simp) (hb hby at_169) hr) ?_ (by decide) (by decide)
          · exact ⟨rfl, N10⟩
        · skip
          refine own_go (fun t k => XS.ifNo X10.here hx rfl (hb hby at_144) rfl ((if0 _ _).trans (own_ne rfl rfl c144_13).1) k) ?_
          show own_End p e below s (T10.setTop (mkF m 147 #[.val (.long q0), .second, .val (.long q1), .second, .val (.long q2), .second, .val (.ref b1), .val (.int r3), .val (.int r4), .val (.int r5), .val (.int r6), .val (.int r7), .val (.int r8), .val (.long low), .second, .val (.int r9), .val (.int r10)] [])) _ _ _
          refine own_go (fun t k => XS.iload X10.here hx rfl (hb hby at_147) rfl k) ?_
          show own_End p e below s (T10.setTop (mkF m 149 #[.val (.long q0), .second, .val (.long q1), .second, .val (.long q2), .second, .val (.ref b1), .val (.int r3), .val (.int r4), .val (.int r5), .val (.int r6), .val (.int r7), .val (.int r8), .val (.long low), .second, .val (.int r9), .val (.int r10)] [(.int r8)])) _ _ _
          refine own_go (fun t k => XS.ifYes X10.here hx rfl (pc0 := 149) (pc' := 154) rfl (hb hby at_149) rfl ((if0 _ _).trans (own_ne rfl rfl (by omega)).2) (by decide) (by decide) k) ?_
          show own_End p e below s (T10.setTop (mkF m 154 #[.val (.long q0), .second, .val (.long q1), .second, .val (.long q2), .second, .val (.ref b1), .val (.int r3), .val (.int r4), .val (.int r5), .val (.int r6), .val (.int r7), .val (.int r8), .val (.long low), .second, .val (.int r9), .val (.int r10)] [])) _ _ _
          refine own_go (fun t k => XS.iload X10.here hx rfl (hb hby at_154) rfl k) ?_
          show own_End p e below s (T10.setTop (mkF m 156 #[.val (.long q0), .second, .val (.long q1), .second, .val (.long q2), .second, .val (.ref b1), .val (.int r3), .val (.int r4), .val (.int r5), .val (.int r6), .val (.int r7), .val (.int r8), .val (.long low), .second, .val (.int r9), .val (.int r10)] [(.int r9)])) _ _ _
          refine own_go (fun t k => XS.ifNo X10.here hx rfl (hb hby at_156) rfl ((if0 _ _).trans (own_ne rfl rfl (by omega)).1) k) ?_
          show own_End p e below s (T10.setTop (mkF m 159 #[.val (.long q0), .second, .val (.long q1), .second, .val (.long q2), .second, .val (.ref b1), .val (.int r3), .val (.int r4), .val (.int r5), .val (.int r6), .val (.int r7), .val (.int r8), .val (.long low), .second, .val (.int r9), .val (.int r10)] [])) _ _ _
          refine own_go (fun t k => XS.iload X10.here hx rfl (hb hby at_159) rfl k) ?_
          show own_End p e below s (T10.setTop (mkF m 161 #[.val (.long q0), .second, .val (.long q1), .second, .val (.long q2), .second, .val (.ref b1), .val (.int r3), .val (.int r4), .val (.int r5), .val (.int r6), .val (.int r7), .val (.int r8), .val (.long low), .second, .val (.int r9), .val (.int r10)] [(.int r10)])) _ _ _
          refine own_go (fun t k => XS.ifNo X10.here hx rfl (hb hby at_161) rfl ((if0 _ _).trans (own_eq rfl rfl (by omega)).2) k) ?_
          show own_End p e below s (T10.setTop (mkF m 164 #[.val (.long q0), .second, .val (.long q1), .second, .val (.long q2), .second, .val (.ref b1), .val (.int r3), .val (.int r4), .val (.int r5), .val (.int r6), .val (.int r7), .val (.int r8), .val (.long low), .second, .val (.int r9), .val (.int r10)] [])) _ _ _
          refine own_go (fun t k => XS.iconst X10.here hx rfl (hb hby at_164) k) ?_
          show own_End p e below s (T10.setTop (mkF m 165 #[.val (.long q0), .second, .val (.long q1), .second, .val (.long q2), .second, .val (.ref b1), .val (.int r3), .val (.int r4), .val (.int r5), .val (.int r6), .val (.int r7), .val (.int r8), .val (.long low), .second, .val (.int r9), .val (.int r10)] [(.int (1 : Int32))])) _ _ _
          refine own_go (fun t k => XS.goto X10.here hx rfl (pc0 := 165) (pc' := 169) rfl (hb hby at_165) (by decide) (by decide) k) ?_
          show own_End p e below s (T10.setTop (mkF m 169 #[.val (.long q0), .second, .val (.long q1), .second, .val (.long q2), .second, .val (.ref b1), .val (.int r3), .val (.int r4), .val (.int r5), .val (.int r6), .val (.int r7), .val (.int r8), .val (.long low), .second, .val (.int r9), .val (.int r10)] [(.int (1 : Int32))])) _ _ _
          refine own_ret X10 (v := some (.int (1 : Int32))) (fun h => by rw [Bd.returns] at h; cases h) Bd.notSynchronized (fun fs hr => retN X10 hx (t := .boolean) Bd.returns (by simp) (hb hby at_169) hr) ?_ (by decide) (by decide)
          · exact ⟨rfl, N10⟩
    · skip
      refine own_go (fun t k => XS.ifNo X10.here hx rfl (hb hby at_125) rfl ((if0 _ _).trans (own_Lef rfl rfl c125_11).1) k) ?_
      show own_End p e below s (T10.setTop (mkF m 128 #[.val (.long q0), .second, .val (.long q1), .second, .val (.long q2), .second, .val (.ref b1), .val (.int r3), .val (.int r4), .val (.int r5), .val (.int r6), .val (.int r7), .val (.int r8), .val (.long low), .second, .val (.int r9), .val (.int r10)] [])) _ _ _
      refine own_go (fun t k => XS.iload X10.here hx rfl (hb hby at_128) rfl k) ?_
      show own_End p e below s (T10.setTop (mkF m 130 #[.val (.long q0), .second, .val (.long q1), .second, .val (.long q2), .second, .val (.ref b1), .val (.int r3), .val (.int r4), .val (.int r5), .val (.int r6), .val (.int r7), .val (.int r8), .val (.long low), .second, .val (.int r9), .val (.int r10)] [(.int r5)])) _ _ _
      refine own_go (fun t k => XS.iload X10.here hx rfl (hb hby at_130) rfl k) ?_
      show own_End p e below s (T10.setTop (mkF m 132 #[.val (.long q0), .second, .val (.long q1), .second, .val (.long q2), .second, .val (.ref b1), .val (.int r3), .val (.int r4), .val (.int r5), .val (.int r6), .val (.int r7), .val (.int r8), .val (.long low), .second, .val (.int r9), .val (.int r10)] [(.int r6), (.int r5)])) _ _ _
      refine own_go (fun t k => XS.icmpYes X10.here hx rfl (pc0 := 132) (pc' := 137) rfl (hb hby at_132) rfl (own_ne rfl rfl (by omega)).2 (by decide) (by decide) k) ?_
      show own_End p e below s (T10.setTop (mkF m 137 #[.val (.long q0), .second, .val (.long q1), .second, .val (.long q2), .second, .val (.ref b1), .val (.int r3), .val (.int r4), .val (.int r5), .val (.int r6), .val (.int r7), .val (.int r8), .val (.long low), .second, .val (.int r9), .val (.int r10)] [])) _ _ _
      refine own_go (fun t k => XS.iload X10.here hx rfl (hb hby at_137) rfl k) ?_
      show own_End p e below s (T10.setTop (mkF m 139 #[.val (.long q0), .second, .val (.long q1), .second, .val (.long q2), .second, .val (.ref b1), .val (.int r3), .val (.int r4), .val (.int r5), .val (.int r6), .val (.int r7), .val (.int r8), .val (.long low), .second, .val (.int r9), .val (.int r10)] [(.int r5)])) _ _ _
      by_cases c139_14 : r5.toInt = 0
      · skip
        refine own_go (fun t k => XS.ifYes X10.here hx rfl (pc0 := 139) (pc' := 154) rfl (hb hby at_139) rfl ((if0 _ _).trans (own_eq rfl rfl c139_14).1) (by decide) (by decide) k) ?_
        show own_End p e below s (T10.setTop (mkF m 154 #[.val (.long q0), .second, .val (.long q1), .second, .val (.long q2), .second, .val (.ref b1), .val (.int r3), .val (.int r4), .val (.int r5), .val (.int r6), .val (.int r7), .val (.int r8), .val (.long low), .second, .val (.int r9), .val (.int r10)] [])) _ _ _
        refine own_go (fun t k => XS.iload X10.here hx rfl (hb hby at_154) rfl k) ?_
        show own_End p e below s (T10.setTop (mkF m 156 #[.val (.long q0), .second, .val (.long q1), .second, .val (.long q2), .second, .val (.ref b1), .val (.int r3), .val (.int r4), .val (.int r5), .val (.int r6), .val (.int r7), .val (.int r8), .val (.long low), .second, .val (.int r9), .val (.int r10)] [(.int r9)])) _ _ _
        refine own_go (fun t k => XS.ifNo X10.here hx rfl (hb hby at_156) rfl ((if0 _ _).trans (own_ne rfl rfl (by omega)).1) k) ?_
        show own_End p e below s (T10.setTop (mkF m 159 #[.val (.long q0), .second, .val (.long q1), .second, .val (.long q2), .second, .val (.ref b1), .val (.int r3), .val (.int r4), .val (.int r5), .val (.int r6), .val (.int r7), .val (.int r8), .val (.long low), .second, .val (.int r9), .val (.int r10)] [])) _ _ _
        refine own_go (fun t k => XS.iload X10.here hx rfl (hb hby at_159) rfl k) ?_
        show own_End p e below s (T10.setTop (mkF m 161 #[.val (.long q0), .second, .val (.long q1), .second, .val (.long q2), .second, .val (.ref b1), .val (.int r3), .val (.int r4), .val (.int r5), .val (.int r6), .val (.int r7), .val (.int r8), .val (.long low), .second, .val (.int r9), .val (.int r10)] [(.int r10)])) _ _ _
        refine own_go (fun t k => XS.ifNo X10.here hx rfl (hb hby at_161) rfl ((if0 _ _).trans (own_eq rfl rfl (by omega)).2) k) ?_
        show own_End p e below s (T10.setTop (mkF m 164 #[.val (.long q0), .second, .val (.long q1), .second, .val (.long q2), .second, .val (.ref b1), .val (.int r3), .val (.int r4), .val (.int r5), .val (.int r6), .val (.int r7), .val (.int r8), .val (.long low), .second, .val (.int r9), .val (.int r10)] [])) _ _ _
        refine own_go (fun t k => XS.iconst X10.here hx rfl (hb hby at_164) k) ?_
        show own_End p e below s (T10.setTop (mkF m 165 #[.val (.long q0), .second, .val (.long q1), .second, .val (.long q2), .second, .val (.ref b1), .val (.int r3), .val (.int r4), .val (.int r5), .val (.int r6), .val (.int r7), .val (.int r8), .val (.long low), .second, .val (.int r9), .val (.int r10)] [(.int (1 : Int32))])) _ _ _
        refine own_go (fun t k => XS.goto X10.here hx rfl (pc0 := 165) (pc' := 169) rfl (hb hby at_165) (by decide) (by decide) k) ?_
        show own_End p e below s (T10.setTop (mkF m 169 #[.val (.long q0), .second, .val (.long q1), .second, .val (.long q2), .second, .val (.ref b1), .val (.int r3), .val (.int r4), .val (.int r5), .val (.int r6), .val (.int r7), .val (.int r8), .val (.long low), .second, .val (.int r9), .val (.int r10)] [(.int (1 : Int32))])) _ _ _
        refine own_ret X10 (v := some (.int (1 : Int32))) (fun h => by rw [Bd.returns] at h; cases h) Bd.notSynchronized (fun fs hr => retN X10 hx (t := .boolean) Bd.returns (by simp) (hb hby at_169) hr) ?_ (by decide) (by decide)
        · exact ⟨rfl, N10⟩
      · skip
        refine own_go (fun t k => XS.ifNo X10.here hx rfl (hb hby at_139) rfl ((if0 _ _).trans (own_ne rfl rfl c139_14).1) k) ?_
        show own_End p e below s (T10.setTop (mkF m 142 #[.val (.long q0), .second, .val (.long q1), .second, .val (.long q2), .second, .val (.ref b1), .val (.int r3), .val (.int r4), .val (.int r5), .val (.int r6), .val (.int r7), .val (.int r8), .val (.long low), .second, .val (.int r9), .val (.int r10)] [])) _ _ _
        refine own_go (fun t k => XS.iload X10.here hx rfl (hb hby at_142) rfl k) ?_
        show own_End p e below s (T10.setTop (mkF m 144 #[.val (.long q0), .second, .val (.long q1), .second, .val (.long q2), .second, .val (.ref b1), .val (.int r3), .val (.int r4), .val (.int r5), .val (.int r6), .val (.int r7), .val (.int r8), .val (.long low), .second, .val (.int r9), .val (.int r10)] [(.int r7)])) _ _ _
        by_cases c144_15 : r7.toInt = 0
        · skip
          refine own_go (fun t k => XS.ifYes X10.here hx rfl (pc0 := 144) (pc' := 154) rfl (hb hby at_144) rfl ((if0 _ _).trans (own_eq rfl rfl c144_15).1) (by decide) (by decide) k) ?_
          show own_End p e below s (T10.setTop (mkF m 154 #[.val (.long q0), .second, .val (.long q1), .second, .val (.long q2), .second, .val (.ref b1), .val (.int r3), .val (.int r4), .val (.int r5), .val (.int r6), .val (.int r7), .val (.int r8), .val (.long low), .second, .val (.int r9), .val (.int r10)] [])) _ _ _
          refine own_go (fun t k => XS.iload X10.here hx rfl (hb hby at_154) rfl k) ?_
          show own_End p e below s (T10.setTop (mkF m 156 #[.val (.long q0), .second, .val (.long q1), .second, .val (.long q2), .second, .val (.ref b1), .val (.int r3), .val (.int r4), .val (.int r5), .val (.int r6), .val (.int r7), .val (.int r8), .val (.long low), .second, .val (.int r9), .val (.int r10)] [(.int r9)])) _ _ _
          refine own_go (fun t k => XS.ifNo X10.here hx rfl (hb hby at_156) rfl ((if0 _ _).trans (own_ne rfl rfl (by omega)).1) k) ?_
          show own_End p e below s (T10.setTop (mkF m 159 #[.val (.long q0), .second, .val (.long q1), .second, .val (.long q2), .second, .val (.ref b1), .val (.int r3), .val (.int r4), .val (.int r5), .val (.int r6), .val (.int r7), .val (.int r8), .val (.long low), .second, .val (.int r9), .val (.int r10)] [])) _ _ _
          refine own_go (fun t k => XS.iload X10.here hx rfl (hb hby at_159) rfl k) ?_
          show own_End p e below s (T10.setTop (mkF m 161 #[.val (.long q0), .second, .val (.long q1), .second, .val (.long q2), .second, .val (.ref b1), .val (.int r3), .val (.int r4), .val (.int r5), .val (.int r6), .val (.int r7), .val (.int r8), .val (.long low), .second, .val (.int r9), .val (.int r10)] [(.int r10)])) _ _ _
          refine own_go (fun t k => XS.ifNo X10.here hx rfl (hb hby at_161) rfl ((if0 _ _).trans (own_eq rfl rfl (by omega)).2) k) ?_
          show own_End p e below s (T10.setTop (mkF m 164 #[.val (.long q0), .second, .val (.long q1), .second, .val (.long q2), .second, .val (.ref b1), .val (.int r3), .val (.int r4), .val (.int r5), .val (.int r6), .val (.int r7), .val (.int r8), .val (.long low), .second, .val (.int r9), .val (.int r10)] [])) _ _ _
          refine own_go (fun t k => XS.iconst X10.here hx rfl (hb hby at_164) k) ?_
          show own_End p e below s (T10.setTop (mkF m 165 #[.val (.long q0), .second, .val (.long q1), .second, .val (.long q2), .second, .val (.ref b1), .val (.int r3), .val (.int r4), .val (.int r5), .val (.int r6), .val (.int r7), .val (.int r8), .val (.long low), .second, .val (.int r9), .val (.int r10)] [(.int (1 : Int32))])) _ _ _
          refine own_go (fun t k => XS.goto X10.here hx rfl (pc0 := 165) (pc' := 169) rfl (hb hby at_165) (by decide) (by decide) k) ?_
          show own_End p e below s (T10.setTop (mkF m 169 #[.val (.long q0), .second, .val (.long q1), .second, .val (.long q2), .second, .val (.ref b1), .val (.int r3), .val (.int r4), .val (.int r5), .val (.int r6), .val (.int r7), .val (.int r8), .val (.long low), .second, .val (.int r9), .val (.int r10)] [(.int (1 : Int32))])) _ _ _
          refine own_ret X10 (v := some (.int (1 : Int32))) (fun h => by rw [Bd.returns] at h; cases h) Bd.notSynchronized (fun fs hr => retN X10 hx (t := .boolean) Bd.returns (by simp) (hb hby at_169) hr) ?_ (by decide) (by decide)
          · exact ⟨rfl, N10⟩
        · skip
          refine own_go (fun t k => XS.ifNo X10.here hx rfl (hb hby at_144) rfl ((if0 _ _).trans (own_ne rfl rfl c144_15).1) k) ?_
          show own_End p e below s (T10.setTop (mkF m 147 #[.val (.long q0), .second, .val (.long q1), .second, .val (.long q2), .second, .val (.ref b1), .val (.int r3), .val (.int r4), .val (.int r5), .val (.int r6), .val (.int r7), .val (.int r8), .val (.long low), .second, .val (.int r9), .val (.int r10)] [])) _ _ _
          refine own_go (fun t k => XS.iload X10.here hx rfl (hb hby at_147) rfl k) ?_
          show own_End p e below s (T10.setTop (mkF m 149 #[.val (.long q0), .second, .val (.long q1), .second, .val (.long q2), .second, .val (.ref b1), .val (.int r3), .val (.int r4), .val (.int r5), .val (.int r6), .val (.int r7), .val (.int r8), .val (.long low), .second, .val (.int r9), .val (.int r10)] [(.int r8)])) _ _ _
          refine own_go (fun t k => XS.ifYes X10.here hx rfl (pc0 := 149) (pc' := 154) rfl (hb hby at_149) rfl ((if0 _ _).trans (own_ne rfl rfl (by omega)).2) (by decide) (by decide) k) ?_
          show own_End p e below s (T10.setTop (mkF m 154 #[.val (.long q0), .second, .val (.long q1), .second, .val (.long q2), .second, .val (.ref b1), .val (.int r3), .val (.int r4), .val (.int r5), .val (.int r6), .val (.int r7), .val (.int r8), .val (.long low), .second, .val (.int r9), .val (.int r10)] [])) _ _ _
          refine own_go (fun t k => XS.iload X10.here hx rfl (hb hby at_154) rfl k) ?_
          show own_End p e below s (T10.setTop (mkF m 156 #[.val (.long q0), .second, .val (.long q1), .second, .val (.long q2), .second, .val (.ref b1), .val (.int r3), .val (.int r4), .val (.int r5), .val (.int r6), .val (.int r7), .val (.int r8), .val (.long low), .second, .val (.int r9), .val (.int r10)] [(.int r9)])) _ _ _
          refine own_go (fun t k => XS.ifNo X10.here hx rfl (hb hby at_156) rfl ((if0 _ _).trans (own_ne rfl rfl (by omega)).1) k) ?_
          show own_End p e below s (T10.setTop (mkF m 159 #[.val (.long q0), .second, .val (.long q1), .second, .val (.long q2), .second, .val (.ref b1), .val (.int r3), .val (.int r4), .val (.int r5), .val (.int r6), .val (.int r7), .val (.int r8), .val (.long low), .second, .val (.int r9), .val (.int r10)] [])) _ _ _
          refine own_go (fun t k => XS.iload X10.here hx rfl (hb hby at_159) rfl k) ?_
          show own_End p e below s (T10.setTop (mkF m 161 #[.val (.long q0), .second, .val (.long q1), .second, .val (.long q2), .second, .val (.ref b1), .val (.int r3), .val (.int r4), .val (.int r5), .val (.int r6), .val (.int r7), .val (.int r8), .val (.long low), .second, .val (.int r9), .val (.int r10)] [(.int r10)])) _ _ _
          refine own_go (fun t k => XS.ifNo X10.here hx rfl (hb hby at_161) rfl ((if0 _ _).trans (own_eq rfl rfl (by omega)).2) k) ?_
          show own_End p e below s (T10.setTop (mkF m 164 #[.val (.long q0), .second, .val (.long q1), .second, .val (.long q2), .second, .val (.ref b1), .val (.int r3), .val (.int r4), .val (.int r5), .val (.int r6), .val (.int r7), .val (.int r8), .val (.long low), .second, .val (.int r9), .val (.int r10)] [])) _ _ _
          refine own_go (fun t k => XS.iconst X10.here hx rfl (hb hby at_164) k) ?_
          show own_End p e below s (T10.setTop (mkF m 165 #[.val (.long q0), .second, .val (.long q1), .second, .val (.long q2), .second, .val (.ref b1), .val (.int r3), .val (.int r4), .val (.int r5), .val (.int r6), .val (.int r7), .val (.int r8), .val (.long low), .second, .val (.int r9), .val (.int r10)] [(.int (1 : Int32))])) _ _ _
          refine own_go (fun t k => XS.goto X10.here hx rfl (pc0 := 165) (pc' := 169) rfl (hb hby at_165) (by decide) (by decide) k) ?_
          show own_End p e below s (T10.setTop (mkF m 169 #[.val (.long q0), .second, .val (.long q1), .second, .val (.long q2), .second, .val (.ref b1), .val (.int r3), .val (.int r4), .val (.int r5), .val (.int r6), .val (.int r7), .val (.int r8), .val (.long low), .second, .val (.int r9), .val (.int r10)] [(.int (1 : Int32))])) _ _ _
          refine own_ret X10 (v := some (.int (1 : Int32))) (fun h => by rw [Bd.returns] at h; cases h) Bd.notSynchronized (fun fs hr => retN X10 hx (t := .boolean) Bd.returns (by simp) (hb hby at_169) hr) ?_ (by decide) (by decide)
          · exact ⟨rfl, N10⟩
  by_cases c72_16 : q1.toInt = 9223372036854775807
  · skip
    refine own_go (fun t k => XS.ifNo X8.here hx rfl (hb hby at_72) rfl ((if0 _ _).trans (own_Let rfl rfl c72_16).2) k) ?_
    show own_End p e below s (T8.setTop (mkF m 75 #[.val (.long q0), .second, .val (.long q1), .second, .val (.long q2), .second, .val (.ref b1), .val (.int r3), .val (.int r4), .val (.int r5), .val (.int r6), .val (.int r7), .val (.int r8), .unset, .unset, .unset, .unset] [])) _ _ _
    refine own_go (fun t k => XS.lloadN X8.here hx rfl (hb hby at_75) rfl k) ?_
    show own_End p e below s (T8.setTop (mkF m 76 #[.val (.long q0), .second, .val (.long q1), .second, .val (.long q2), .second, .val (.ref b1), .val (.int r3), .val (.int r4), .val (.int r5), .val (.int r6), .val (.int r7), .val (.int r8), .unset, .unset, .unset, .unset] [(.long q1)])) _ _ _
    refine own_go (fun t k => XS.lconst X8.here hx rfl (hb hby at_76) k) ?_
    show own_End p e below s (T8.setTop (mkF m 77 #[.val (.long q0), .second, .val (.long q1), .second, .val (.long q2), .second, .val (.ref b1), .val (.int r3), .val (.int r4), .val (.int r5), .val (.int r6), .val (.int r7), .val (.int r8), .unset, .unset, .unset, .unset] [(.long (1 : Int64)), (.long q1)])) _ _ _
    refine own_go (fun t k => XS.lsub X8.here hx rfl (hb hby at_77) rfl k) ?_
    show own_End p e below s (T8.setTop (mkF m 78 #[.val (.long q0), .second, .val (.long q1), .second, .val (.long q2), .second, .val (.ref b1), .val (.int r3), .val (.int r4), .val (.int r5), .val (.int r6), .val (.int r7), .val (.int r8), .unset, .unset, .unset, .unset] [(.long (q1 - (1 : Int64)))])) _ _ _
    refine own_go (fun t k => XS.goto X8.here hx rfl (pc0 := 78) (pc' := 82) rfl (hb hby at_78) (by decide) (by decide) k) ?_
    show own_End p e below s (T8.setTop (mkF m 82 #[.val (.long q0), .second, .val (.long q1), .second, .val (.long q2), .second, .val (.ref b1), .val (.int r3), .val (.int r4), .val (.int r5), .val (.int r6), .val (.int r7), .val (.int r8), .unset, .unset, .unset, .unset] [(.long (q1 - (1 : Int64)))])) _ _ _
    exact J82 _ (by have := c_lsub q1 (1 : Int64); have := rng64 (q1 - (1 : Int64)); omega)
  · skip
    refine own_go (fun t k => XS.ifYes X8.here hx rfl (pc0 := 72) (pc' := 81) rfl (hb hby at_72) rfl ((if0 _ _).trans (own_Lef rfl rfl c72_16).2) (by decide) (by decide) k) ?_
    show own_End p e below s (T8.setTop (mkF m 81 #[.val (.long q0), .second, .val (.long q1), .second, .val (.long q2), .second, .val (.ref b1), .val (.int r3), .val (.int r4), .val (.int r5), .val (.int r6), .val (.int r7), .val (.int r8), .unset, .unset, .unset, .unset] [])) _ _ _
    refine own_go (fun t k => XS.lloadN X8.here hx rfl (hb hby at_81) rfl k) ?_
    show own_End p e below s (T8.setTop (mkF m 82 #[.val (.long q0), .second, .val (.long q1), .second, .val (.long q2), .second, .val (.ref b1), .val (.int r3), .val (.int r4), .val (.int r5), .val (.int r6), .val (.int r7), .val (.int r8), .unset, .unset, .unset, .unset] [(.long q1)])) _ _ _
    exact J82 _ (by omega)
set_option maxRecDepth 65536 in
set_option maxHeartbeats 40000000 in
theorem comes_1 {Post : Tables → Env → Array Value → State → Outcome → State → Prop} (hpost : ∀ tb e args s v u, (limb_1_1.after args s (.returned v) u = true ∧ limb_1_2.after args s (.returned v) u = true ∧ True) → FrameEnd s (.returned v) u (Jvm.fieldLocs frame_1_writes args s ++ Jvm.arrayLocs frame_1_arrays args s ++ Jvm.staticLocs frame_1_statics s) 16 128 → Post tb e args s (.returned v) u) :
    ArmFor flags0 classFile x code maxLocals ret World_1 tables_1 room_1 Calls_1 rest_1 Pre_1 Post := by
  intro l hfl _ _ p e ha hc hk s m args below hf hA hF happ hP
  obtain ⟨hcalls, hrest, hpre⟩ := hP
  obtain ⟨-, -, -, hnamed, -, -, -, hat⟩ := (Spec.applies_iff hf).mp happ
  obtain ⟨hg, hn⟩ := and_e (Cond.before_iff.mp (show (Jvm.Cond.and given_1 narrow_1).before args s = true from hpre))
  obtain ⟨gc, gr0⟩ := and_e hg
  obtain ⟨ga0, gr1⟩ := and_e gr0
  obtain ⟨ga1, gr2⟩ := and_e gr1
  have ga2 := gr2
  obtain ⟨w0, w1, w2, rfl⟩ : ∃ w0 w1 w2 : Value, args = #[w0, w1, w2] := by
    have hs : args.size = 3 := by simpa [Cond.value, given_1] using gc
    obtain ⟨L⟩ := args
    match L, hs with
    | [w0, w1, w2], _ => exact ⟨w0, w1, w2, rfl⟩
  have hw := fun d (hd : d ∈ tables_1) => atoms_spec (ws := Jvm.Cond.code x code maxLocals ret :: tables_1) hat d (List.mem_cons_of_mem _ hd)
  obtain ⟨i0, ei0⟩ := isL_v ga0
  obtain rfl : w0 = (.long i0) := Option.some.inj ei0
  obtain ⟨i1, ei1⟩ := isL_v ga1
  obtain rfl : w1 = (.long i1) := Option.some.inj ei1
  obtain ⟨i2, ei2⟩ := isL_v ga2
  obtain rfl : w2 = (.long i2) := Option.some.inj ei2
  obtain ⟨n, o, h1, h2, h3, _, L, rfl, ⟨rfl, N⟩, hq⟩ := rm0 l s _ hw tables_1 i0 i1 i2  s.heap s.heap.size (Nat.le_refl _)  p e ha hc hk s m _ below hf ((Spec.applies_iff_loose hf).mp happ).1 ⟨rfl, State.Warmed39.refl s, rfl⟩ trivial
  refine ⟨n, _, h1, h2, h3, hpost _ _ _ _ _ _ ⟨Cond.after_iff.mpr rfl, Cond.after_iff.mpr (eq_i res_at (Term.int_eval (1)) rfl), trivial⟩ ⟨hq.1, hq.2.1, (hq.2.2.sift fun y hy => Or.inr (N y hy)).mono (by decide) (by decide)⟩⟩
theorem main_1_1 : Claimed_1_1 := comes_1 fun _ _ _ _ _ _ h hF => ⟨h.1, hF⟩
theorem main_1_2 : Claimed_1_2 := comes_1 fun _ _ _ _ _ _ h hF => ⟨h.2.1, hF⟩
end Jvm.Pilot.@@N@@
namespace Jvm.Pilot.@@N@@
open Jvm Jvm.ClassFile Sem Op Lib Jvm.Free Jvm.Stand Jvm.Pilot.@@N@@.Jvm.D
/-! MADE BY PROGRAM (witnessworld.py) out of the Statement's table words and the real class files: 8 classes; the members and pool entries that the words name. The judged class is class 1, her method 1. -/
namespace start1
open Jvm.ClassFile
def u (s : String) : CpInfo := .utf8 (stringToUtf16 s)
/-- a pool by its gaps: so many unusable entries, then the entry; so many at the end -/
def gap : Nat → List CpInfo → List CpInfo
  | 0, r => r
  | n + 1, r => .unusable :: gap n r
def poolList (es : List (Nat × CpInfo)) (last : Nat) : List CpInfo := es.foldr (fun e r => gap e.1 (e.2 :: r)) (gap last [])
def pool (es : List (Nat × CpInfo)) (last : Nat) : Array CpInfo := ⟨poolList es last⟩
def fileOf (pool : Array CpInfo) (this : Nat) (attrs : Array Attribute := #[]) (ms : Array MethodInfo := #[]) (fl : Nat := 33) (sup : Nat := 0) (ifs : Array Nat := #[]) (fds : Array FieldInfo := #[]) : ClassFile where
  minorVersion := 0
  majorVersion := 65
  constantPool := pool
  accessFlags := fl
  thisClass := this
  superClass := sup
  interfaces := ifs
  fields := fds
  methods := ms
  attributes := attrs
def plain (name : String) (sup : Option ClassId) : Class where
  name := name
  kind := .ordinary
  loader := none
  accessFlags := 33
  super := sup
  interfaces := #[]
  cf := none
  fields := #[]
  methods := #[]
  instanceTypes := #[]
  staticTypes := #[]
  resolved := #[]
  callSites := []
  init := .initialized
  statics := none
  mirror := none

def pool0 : Array CpInfo := pool [(5, u "<init>"), (0, u "()V"), (1, .class_ 10), (1, u "java/lang/Object")] 113

def k0c0 : Code := { maxStack := 0, maxLocals := 1, code := object_method_1_code, exceptionTable := #[], attributes := #[] }
def k0m0 : Method := { name := "<init>", desc := "()V", sig := { parameters := [], returnType := none }, accessFlags := 1, code := some k0c0 }
/-- java/lang/Object -/
def k0 : Class := { plain "java/lang/Object" none with
  accessFlags := 33
  interfaces := #[]
  cf := some (fileOf pool0 8 #[] #[{ accessFlags := 1, nameIndex := 5, descriptorIndex := 6, attributes := #[] }] 33 0 #[] #[])
  fields := #[]
  methods := #[k0m0]
  instanceTypes := #[]
  staticTypes := #[]
  resolved := Array.replicate 124 none
  statics := none }

def pool1 : Array CpInfo := pool [(2, .class_ 4), (0, .nameAndType 5 6), (0, u "java/lang/Object"), (0, u "<init>"), (0, u "()V"), (0, .class_ 8), (0, u "com/example/interweave/interweave/cli/CounterWorkload"), (0, .methodref 7 3), (0, .methodref 7 11), (0, .nameAndType 12 13), (0, u "isSnapshotWrong"), (0, u "(JJ)Z"), (2, .long 9223372036854775808), (1, .long 9223372036854775807), (1, .class_ 21), (0, u "com/example/interweave/interweave/cli/CounterWorkloadIsSnapshotWrongPinLaw"), (2, u "law"), (0, u "(JJJ)Z")] 3

def k1m0 : Method := { name := "<init>", desc := "()V", sig := { parameters := [], returnType := none }, accessFlags := 1, code := none }
def k1c1 : Code := { maxStack := 7, maxLocals := 17, code := code, exceptionTable := #[], attributes := #[] }
def k1m1 : Method := { name := "law", desc := "(JJJ)Z", sig := { parameters := [.long, .long, .long], returnType := some .boolean }, accessFlags := 9, code := some k1c1 }
/-- com/example/interweave/interweave/cli/CounterWorkloadIsSnapshotWrongPinLaw -/
def k1 : Class := { plain "com/example/interweave/interweave/cli/CounterWorkloadIsSnapshotWrongPinLaw" (some 0) with
  accessFlags := 49
  interfaces := #[]
  cf := some (fileOf pool1 20 #[] #[{ accessFlags := 1, nameIndex := 5, descriptorIndex := 6, attributes := #[] }, { accessFlags := 9, nameIndex := 24, descriptorIndex := 25, attributes := #[] }] 49 2 #[] #[])
  fields := #[]
  methods := #[k1m0, k1m1]
  instanceTypes := #[]
  staticTypes := #[]
  resolved := Array.replicate 29 none
  statics := none }

def pool2 : Array CpInfo := pool [(1, .class_ 2), (0, u "com/example/interweave/interweave/cli/Workload"), (0, .class_ 4), (0, u "java/lang/Object"), (19, .class_ 25), (0, u "com/example/interweave/interweave/cli/Workload$Result")] 2

/-- com/example/interweave/interweave/cli/Workload -/
def k2 : Class := { plain "com/example/interweave/interweave/cli/Workload" (some 0) with
  accessFlags := 1536
  interfaces := #[]
  cf := some (fileOf pool2 1 #[.nestMembers #[24]] #[] 1536 3 #[] #[])
  fields := #[]
  methods := #[]
  instanceTypes := #[]
  staticTypes := #[]
  resolved := Array.replicate 28 none
  statics := none }

def pool3 : Array CpInfo := pool [(1, .methodref 2 3), (0, .class_ 4), (0, .nameAndType 5 6), (0, u "java/lang/Object"), (0, u "<init>"), (0, u "()V"), (17, .class_ 26), (1, u "com/example/interweave/interweave/cli/CounterWorkload"), (0, u "m_nBefore"), (0, u "J"), (8, .class_ 38), (0, u "com/example/interweave/interweave/cli/CounterWorkload$Result"), (6, u "KEY"), (0, u "[B"), (48, .class_ 96), (0, u "com/example/interweave/interweave/cli/Workload"), (9, u "isSnapshotWrong"), (0, u "(JJ)Z")] 51

def k3c0 : Code := { maxStack := 1, maxLocals := 1, code := prog_12_method_1_code, exceptionTable := #[], attributes := #[] }
def k3m0 : Method := { name := "<init>", desc := "()V", sig := { parameters := [], returnType := none }, accessFlags := 0, code := some k3c0 }
def k3c1 : Code := { maxStack := 4, maxLocals := 5, code := prog_12_method_5_code, exceptionTable := #[], attributes := #[] }
def k3m1 : Method := { name := "isSnapshotWrong", desc := "(JJ)Z", sig := { parameters := [.long, .long], returnType := some .boolean }, accessFlags := 1, code := some k3c1 }
/-- com/example/interweave/interweave/cli/CounterWorkload -/
def k3 : Class := { plain "com/example/interweave/interweave/cli/CounterWorkload" (some 0) with
  accessFlags := 48
  interfaces := #[2]
  cf := some (fileOf pool3 24 #[.nestMembers #[37]] #[{ accessFlags := 0, nameIndex := 5, descriptorIndex := 6, attributes := #[] }, { accessFlags := 1, nameIndex := 106, descriptorIndex := 107, attributes := #[] }] 48 2 #[95] #[{ accessFlags := 26, nameIndex := 45, descriptorIndex := 46, attributes := #[] }, { accessFlags := 2, nameIndex := 27, descriptorIndex := 28, attributes := #[] }])
  fields := #[{ name := "KEY", type := (.array .byte), accessFlags := 26, slot := 0, constantValue := 0 }, { name := "m_nBefore", type := .long, accessFlags := 2, slot := 0, constantValue := 0 }]
  methods := #[k3m0, k3m1]
  instanceTypes := #[.long]
  staticTypes := #[(.array .byte)]
  resolved := Array.replicate 159 none
  statics := none }

def pool4 : Array CpInfo := pool [(1, u "java/lang/Cloneable"), (0, .class_ 1), (0, u "java/lang/Object"), (0, .class_ 3)] 3

/-- java/lang/Cloneable -/
def k4 : Class := { plain "java/lang/Cloneable" (some 0) with
  accessFlags := 1537
  interfaces := #[]
  cf := some (fileOf pool4 2 #[] #[] 1537 4 #[] #[])
  fields := #[]
  methods := #[]
  instanceTypes := #[]
  staticTypes := #[]
  resolved := Array.replicate 8 none
  statics := none }

def pool5 : Array CpInfo := pool [(1, u "java/io/Serializable"), (0, .class_ 1), (0, u "java/lang/Object"), (0, .class_ 3)] 3

/-- java/io/Serializable -/
def k5 : Class := { plain "java/io/Serializable" (some 0) with
  accessFlags := 1537
  interfaces := #[]
  cf := some (fileOf pool5 2 #[] #[] 1537 4 #[] #[])
  fields := #[]
  methods := #[]
  instanceTypes := #[]
  staticTypes := #[]
  resolved := Array.replicate 8 none
  statics := none }

/-- the primitive byte -/
def k6 : Class := { plain "byte" none with kind := .primitive 'B', accessFlags := 0x411 }
/-- [B -/
def k7 : Class := { plain "[B" (some 0) with kind := .array 6 .byte, interfaces := #[4, 5], accessFlags := 1041 }

def heap : Heap := #[]
def classes : Array Class := #[k0, k1, k2, k3, k4, k5, k6, k7]
def interned : List (Array UInt16 × Addr) := []
def slotsUsed : Nat := 0
def theMethod : MethodId := ⟨1, 1⟩
def args0 : Array Value := #[.long 5, .long 7, .long 9]
def aboutOver (below : List Frame) : State where
  vm := { classes := classes, interned := interned.toArray }
  heap := heap
  slotsUsed := slotsUsed
  threads := #[{ frames := .invoking theMethod args0 :: below }]
def below0 : List Frame := [.native { method := ⟨0, 0⟩, args := #[] }]
def about1 : State := aboutOver below0
def p0 : Program := .bare "" "" ""
def e0 : Env := launch0.env 0 0 0
theorem w_frames : about1.frames = Frame.invoking theMethod args0 :: below0 := rfl
set_option maxRecDepth 65536 in
theorem w_args : argsFit about1.vm theMethod args0 = true := by decide +kernel
set_option maxRecDepth 65536 in
theorem w_heap : heapFits about1 = true := by decide +kernel
set_option maxRecDepth 65536 in
theorem w_runnable : about1.curStatus? = some .runnable := by decide +kernel
set_option maxRecDepth 65536 in
theorem w_alone : about1.alone = true := by decide +kernel
set_option maxRecDepth 65536 in
theorem w_named : about1.methodNamed? x = some theMethod := by decide +kernel
set_option maxRecDepth 65536 in
theorem w_hears : about1.hears theMethod below0 = true := by decide +kernel
set_option maxRecDepth 65536 in
theorem w_ripe : about1.ripe theMethod args0 below0 = true := by decide +kernel
theorem w_running : about1.status = .running := rfl
set_option maxRecDepth 65536 in
theorem w_room : about1.hasRoom e0.platform room_1 = true :=
  launch0.hasRoom_least _ room_1 (by decide +kernel) (by decide +kernel) (by decide +kernel) (by decide +kernel) (by decide +kernel) (by decide +kernel)
theorem allAtoms_all (ts : List Jvm.Cond) (a : Array Jvm.Value) (st : Jvm.State) : (allAtoms ts).before a st = ts.all (fun c => c.before a st) := by
  induction ts with
  | nil => rfl
  | cons c t ih =>
    show (Jvm.Cond.and c (allAtoms t)).before a st = _
    rw [Jvm.Cond.before_and, ih, List.all_cons]
def words1 : List Jvm.Cond := Jvm.Cond.code x code maxLocals ret :: tables_1
/-- a 'code' word, met by the world's own term for the bytes: nothing is compared byte by byte -/
theorem code_word {y : MethodName} {bytes : ByteArray} {mx : Nat} {rt : Option FieldType} {a : Array Value} {s : State} {m : MethodId} {meth : Method} {c : Code} (h1 : s.methodNamed? y = some m) (h2 : s.vm.method? m = some meth) (h3 : meth.code = some c) (h4 : c.code = bytes)
    (h5 : (c.maxLocals == mx && c.exceptionTable.isEmpty && decide (c.maxStack ≤ mostOperands) && decide (meth.sig.returnType = rt) && !meth.locks && decide (parseMethodDescriptor y.desc = some meth.sig)) = true) : (Jvm.Cond.code y bytes mx rt).before a s = true := by
  simp only [Bool.and_eq_true, beq_iff_eq, Bool.not_eq_true', decide_eq_true_eq] at h5
  obtain ⟨⟨⟨⟨⟨g1, g2⟩, g3⟩, g4⟩, g5⟩, g6⟩ := h5
  simp [Cond.before, Cond.holds, Cond.value, h1, h2, h3, h4, g1, g2, g3, g4, g5, g6]
def isCode : Jvm.Cond → Bool
  | .code _ _ _ _ => true
  | _ => false
theorem all_split {L : List Jvm.Cond} {P : Jvm.Cond → Bool} (h1 : L.all (fun c => isCode c || P c) = true) (h2 : ∀ c ∈ L.filter isCode, P c = true) : L.all P = true := by
  refine List.all_eq_true.mpr fun c hc => ?_
  have h := List.all_eq_true.mp h1 c hc
  rcases Bool.eq_false_or_eq_true (isCode c) with hi | hi
  · exact h2 c (List.mem_filter.mpr ⟨hc, hi⟩)
  · simpa [hi] using h
set_option maxRecDepth 65536 in
theorem w_c0 : (Jvm.Cond.code x code maxLocals ret).before args0 about1 = true := code_word (m := ⟨1, 1⟩) (meth := k1m1) (c := k1c1) (by decide +kernel) rfl rfl rfl (by decide +kernel)
set_option maxRecDepth 65536 in
theorem w_c1 : (Jvm.Cond.code ({ cls := "com/example/interweave/interweave/cli/CounterWorkload", name := "<init>", desc := "()V" } : Jvm.MethodName) prog_12_method_1_code (1 : Nat) (Option.none : Option Jvm.ClassFile.FieldType)).before args0 about1 = true := code_word (m := ⟨3, 0⟩) (meth := k3m0) (c := k3c0) (by decide +kernel) rfl rfl rfl (by decide +kernel)
set_option maxRecDepth 65536 in
theorem w_c2 : (Jvm.Cond.code ({ cls := "java/lang/Object", name := "<init>", desc := "()V" } : Jvm.MethodName) object_method_1_code (1 : Nat) (Option.none : Option Jvm.ClassFile.FieldType)).before args0 about1 = true := code_word (m := ⟨0, 0⟩) (meth := k0m0) (c := k0c0) (by decide +kernel) rfl rfl rfl (by decide +kernel)
set_option maxRecDepth 65536 in
theorem w_c3 : (Jvm.Cond.code ({ cls := "com/example/interweave/interweave/cli/CounterWorkload", name := "isSnapshotWrong", desc := "(JJ)Z" } : Jvm.MethodName) prog_12_method_5_code (5 : Nat) (Option.some Jvm.ClassFile.FieldType.boolean)).before args0 about1 = true := code_word (m := ⟨3, 1⟩) (meth := k3m1) (c := k3c1) (by decide +kernel) rfl rfl rfl (by decide +kernel)
def codes1 : List Jvm.Cond := [Jvm.Cond.code x code maxLocals ret, Jvm.Cond.code ({ cls := "com/example/interweave/interweave/cli/CounterWorkload", name := "<init>", desc := "()V" } : Jvm.MethodName) prog_12_method_1_code (1 : Nat) (Option.none : Option Jvm.ClassFile.FieldType), Jvm.Cond.code ({ cls := "java/lang/Object", name := "<init>", desc := "()V" } : Jvm.MethodName) object_method_1_code (1 : Nat) (Option.none : Option Jvm.ClassFile.FieldType), Jvm.Cond.code ({ cls := "com/example/interweave/interweave/cli/CounterWorkload", name := "isSnapshotWrong", desc := "(JJ)Z" } : Jvm.MethodName) prog_12_method_5_code (5 : Nat) (Option.some Jvm.ClassFile.FieldType.boolean)]
set_option maxRecDepth 65536 in
theorem codes_eq : words1.filter isCode = codes1 := rfl
theorem w_codes : ∀ c ∈ words1.filter isCode, c.before args0 about1 = true := by
  rw [codes_eq]
  intro c hc
  simp only [codes1, List.mem_cons, List.not_mem_nil, or_false] at hc
  rcases hc with rfl | rfl | rfl | rfl
  · exact w_c0
  · exact w_c1
  · exact w_c2
  · exact w_c3
set_option maxRecDepth 65536 in
theorem w_t1 : words1.all (fun c => isCode c || c.before args0 about1) = true := by decide +kernel
theorem w_tables : (allAtoms (Jvm.Cond.code x code maxLocals ret :: tables_1)).before args0 about1 = true := by
  rw [allAtoms_all]
  show words1.all (fun c => c.before args0 about1) = true
  refine all_split ?_ w_codes
  rw [w_t1]
set_option maxRecDepth 65536 in
theorem w_case : (Jvm.Cond.and given_1 narrow_1).before args0 about1 = true := by decide +kernel
theorem w_applies : (headSpec (Jvm.Cond.code x code maxLocals ret :: tables_1) room_1).applies x e0.platform about1 = true :=
  (Spec.applies_iff w_frames).mpr ⟨w_running, w_runnable, w_alone, w_named, w_hears, w_ripe, w_room, w_tables⟩
theorem atStart : AtStart classFile x code maxLocals ret World_1 tables_1 room_1 Calls_1 rest_1 Pre_1 launch0 p0 e0 about1 theMethod args0 below0 :=
  ⟨lists_1, trivial, launch0.admits_env _ _ _, launch0.least_env, fairChoices_fair.cas, fairChoices_fair.clock, w_frames, w_args, w_heap, w_applies, trivial, trivial, w_case⟩
end start1
theorem witness_1 : WitnessClaimed_1 := ⟨start1.p0, start1.e0, start1.about1, start1.theMethod, start1.args0, start1.below0, start1.atStart⟩
end Jvm.Pilot.@@N@@
