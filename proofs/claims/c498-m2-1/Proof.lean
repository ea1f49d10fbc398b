import JvmDerived
import JvmDerived.Pilot.@@N@@Statement
import JvmDerived.Pilot.@@N@@Code
set_option linter.unusedVariables false
set_option linter.unusedSimpArgs false
namespace Jvm.RoadKit
open Sem ClassFile Op Lib Jvm.Stand Jvm.Free Jvm.LawKit
section New
variable {p : Program} {l : Launch} {e : Env} {R : Room} {s : State} {m : MethodId} {args : Array Value} {below : List Frame} {meth : Method} {c : Code} {T : State} {locs : List Loc} {cells slots : Nat}
theorem retI (X : Stand p l e R s m args below meth c T locs cells slots) (hx : p.tables.exec = Jvm.exec) {pc : Nat} {Ls : Array Slot} {z : Int32} {rest : List Value} (hret : meth.sig.returnType = some .int) (hd : decode c.code pc = .ok (.ireturn, 1)) {fs : List Frame}
    (hl : ∀ (f : JFrame) (acts : List Action), f.method = m → f.locked = none → f.entered = [] → (doReturn e (T.setTop f) acts (some (.int z))).1 = T.setFrames fs) : Steps p.tables e below (T.setTop (mkF m pc Ls (.int z :: rest))) (T.setFrames fs) := by
  have hm' : T.vm.method? m = some meth := X.method'
  have hn : narrow .int (.int z) = .int z := rfl
  show Steps p.tables e below (T.setTop { method := m, pc := pc, locals := Ls, stack := _ :: rest, locked := none }) _
  jvm_step X.here [X.here.top, hx, hd, hm', hret, hn]
  first | (intro acts; rw [hl _ acts rfl rfl rfl]) | rw [hl _ _ rfl rfl rfl]
  exact Steps.refl _
end New
end Jvm.RoadKit
namespace Jvm.Pilot.@@N@@
open Jvm Jvm.ClassFile Sem Op Lib Jvm.Free Jvm.Stand Jvm.LawKit Jvm.RoadKit Bundle Jvm.Pilot.@@N@@.Jvm.D
/-! OWN KIT: a walk's goal that can be forked and joined -/
section OwnKit
variable {p : Program} {l : Launch} {e : Env} {R : Room} {s : State} {m : MethodId} {args : Array Value} {below : List Frame} {meth : Method} {c : Code} {T : State} {locs : List Loc} {cells slots : Nat}
/-- from the state st the run comes to its end, having returned v over the heap and the places of which F speaks -/
def own_End (p : Program) (e : Env) (below : List Frame) (s st : State) (F : Option Value → Heap → List Loc → Prop) (k n : Nat) : Prop :=
  ∃ s₂ o, Steps p.tables e below st s₂ ∧ s₂.status = .running ∧ Ended s₂ below o ∧ ∃ v L, o = .returned v ∧ F v s₂.heap L ∧ FrameEnd s o s₂ L k n
theorem own_go {st st' : State} {F : Option Value → Heap → List Loc → Prop} {k n : Nat} (h : ∀ t, Steps p.tables e below st' t → Steps p.tables e below st t) (q : own_End p e below s st' F k n) : own_End p e below s st F k n := by
  obtain ⟨s₂, o, h1, h2⟩ := q
  exact ⟨s₂, o, h _ h1, h2⟩
theorem own_ret (X : Stand p l e R s m args below meth c T locs cells slots) {v : Option Value} {g : JFrame} {F : Option Value → Heap → List Loc → Prop} {k n : Nat} (hv : meth.sig.returnType = none → v = none) (hlocks : meth.locks = false)
    (hst : ∀ fs, (∀ (f : JFrame) (acts : List Action), f.method = m → f.locked = none → f.entered = [] → (doReturn e (T.setTop f) acts v).1 = T.setFrames fs) → Steps p.tables e below (T.setTop g) (T.setFrames fs))
    (hF : F v T.heap locs) (hc : cells ≤ k) (hs : slots ≤ n) : own_End p e below s (T.setTop g) F k n := by
  obtain ⟨fs, hr, hrun, hended, hW, hsame⟩ := X.leave (v := v) hv hlocks
  exact ⟨_, _, hst fs hr, hrun, hended, _, _, rfl, hF, ⟨_, rfl⟩, hW, hsame.mono hc hs⟩
theorem own_retJ (X : Stand p l e R s m args below meth c T locs cells slots) (hx : p.tables.exec = Jvm.exec) {pc : Nat} {Ls : Array Slot} {z : Int64} {rest : List Value} (hret : meth.sig.returnType = some .long) (hd : decode c.code pc = .ok (.lreturn, 1)) {fs : List Frame}
    (hl : ∀ (f : JFrame) (acts : List Action), f.method = m → f.locked = none → f.entered = [] → (doReturn e (T.setTop f) acts (some (.long z))).1 = T.setFrames fs) : Steps p.tables e below (T.setTop (mkF m pc Ls (.long z :: rest))) (T.setFrames fs) := by
  have hm' : T.vm.method? m = some meth := X.method'
  have hn : narrow .long (.long z) = .long z := rfl
  show Steps p.tables e below (T.setTop { method := m, pc := pc, locals := Ls, stack := _ :: rest, locked := none }) _
  jvm_step X.here [X.here.top, hx, hd, hm', hret, hn]
  first | (intro acts; rw [hl _ acts rfl rfl rfl]) | rw [hl _ _ rfl rfl rfl]
  exact Steps.refl _
theorem own_retD (X : Stand p l e R s m args below meth c T locs cells slots) (hx : p.tables.exec = Jvm.exec) {pc : Nat} {Ls : Array Slot} {z : UInt64} {rest : List Value} (hret : meth.sig.returnType = some .double) (hd : decode c.code pc = .ok (.dreturn, 1)) {fs : List Frame}
    (hl : ∀ (f : JFrame) (acts : List Action), f.method = m → f.locked = none → f.entered = [] → (doReturn e (T.setTop f) acts (some (.double z))).1 = T.setFrames fs) : Steps p.tables e below (T.setTop (mkF m pc Ls (.double z :: rest))) (T.setFrames fs) := by
  have hm' : T.vm.method? m = some meth := X.method'
  have hn : narrow .double (.double z) = .double z := rfl
  show Steps p.tables e below (T.setTop { method := m, pc := pc, locals := Ls, stack := _ :: rest, locked := none }) _
  jvm_step X.here [X.here.top, hx, hd, hm', hret, hn]
  first | (intro acts; rw [hl _ acts rfl rfl rfl]) | rw [hl _ _ rfl rfl rfl]
  exact Steps.refl _
theorem own_tlt {x y : Int32} {i j : Int} (hx : x.toInt = i) (hy : y.toInt = j) (h : i < j) : if_icmp.holds .lt x y = true ∧ if_icmp.holds .ge x y = false ∧ if_icmp.holds .gt y x = true ∧ if_icmp.holds .le y x = false :=
  tlt (by rw [Int32.lt_iff_toInt_lt, hx, hy]; exact h)
theorem own_flt {x y : Int32} {i j : Int} (hx : x.toInt = i) (hy : y.toInt = j) (h : ¬ i < j) : if_icmp.holds .lt x y = false ∧ if_icmp.holds .ge x y = true ∧ if_icmp.holds .gt y x = false ∧ if_icmp.holds .le y x = true :=
  flt (by rw [Int32.lt_iff_toInt_lt, hx, hy]; exact h)
theorem own_eq {x y : Int32} {i j : Int} (hx : x.toInt = i) (hy : y.toInt = j) (h : i = j) : if_icmp.holds .eq x y = true ∧ if_icmp.holds .ne x y = false :=
  teq (Int32.toInt_inj.mp (by rw [hx, hy]; exact h))
theorem own_ne {x y : Int32} {i j : Int} (hx : x.toInt = i) (hy : y.toInt = j) (h : ¬ i = j) : if_icmp.holds .eq x y = false ∧ if_icmp.holds .ne x y = true :=
  feq (fun q => h (by rw [← hx, ← hy, q]))
theorem own_Llt {x y : Int64} {i j : Int} (hx : x.toInt = i) (hy : y.toInt = j) (h : i < j) : if_icmp.holds .lt (lcmpW x y) 0 = true ∧ if_icmp.holds .ge (lcmpW x y) 0 = false ∧ if_icmp.holds .gt 0 (lcmpW x y) = true ∧ if_icmp.holds .le 0 (lcmpW x y) = false :=
  tlt ((lw_lt x y).mpr (by rw [Int64.lt_iff_toInt_lt, hx, hy]; exact h))
theorem own_Llf {x y : Int64} {i j : Int} (hx : x.toInt = i) (hy : y.toInt = j) (h : ¬ i < j) : if_icmp.holds .lt (lcmpW x y) 0 = false ∧ if_icmp.holds .ge (lcmpW x y) 0 = true ∧ if_icmp.holds .gt 0 (lcmpW x y) = false ∧ if_icmp.holds .le 0 (lcmpW x y) = true :=
  flt (fun q => h (by have := (lw_lt x y).mp q; rw [Int64.lt_iff_toInt_lt, hx, hy] at this; exact this))
theorem own_Lgt {x y : Int64} {i j : Int} (hy : y.toInt = j) (hx : x.toInt = i) (h : j < i) : if_icmp.holds .lt 0 (lcmpW x y) = true ∧ if_icmp.holds .ge 0 (lcmpW x y) = false ∧ if_icmp.holds .gt (lcmpW x y) 0 = true ∧ if_icmp.holds .le (lcmpW x y) 0 = false :=
  tlt ((lw_gt x y).mpr (by rw [Int64.lt_iff_toInt_lt, hx, hy]; exact h))
theorem own_Lgf {x y : Int64} {i j : Int} (hy : y.toInt = j) (hx : x.toInt = i) (h : ¬ j < i) : if_icmp.holds .lt 0 (lcmpW x y) = false ∧ if_icmp.holds .ge 0 (lcmpW x y) = true ∧ if_icmp.holds .gt (lcmpW x y) 0 = false ∧ if_icmp.holds .le (lcmpW x y) 0 = true :=
  flt (fun q => h (by have := (lw_gt x y).mp q; rw [Int64.lt_iff_toInt_lt, hx, hy] at this; exact this))
theorem own_Let {x y : Int64} {i j : Int} (hx : x.toInt = i) (hy : y.toInt = j) (h : i = j) : if_icmp.holds .eq (lcmpW x y) 0 = true ∧ if_icmp.holds .ne (lcmpW x y) 0 = false :=
  teq ((lw_eq x y).mpr (Int64.toInt_inj.mp (by rw [hx, hy]; exact h)))
theorem own_Lef {x y : Int64} {i j : Int} (hx : x.toInt = i) (hy : y.toInt = j) (h : ¬ i = j) : if_icmp.holds .eq (lcmpW x y) 0 = false ∧ if_icmp.holds .ne (lcmpW x y) 0 = true :=
  feq (fun q => h (by rw [← hx, ← hy, (lw_eq x y).mp q]))
/-- (turned from the worked claim gauge-weight) the model's own selection picks a private method itself -/
theorem own_selP {y : MethodName} {s : State} {args : Array Value} {n : Nat} (hy : y.cls ≠ "java/lang/invoke/MethodHandle" ∧ y.cls ≠ "java/lang/invoke/VarHandle") (hins : (Cond.instantiable y.cls n).before args s = true) (hpriv : (Cond.privateMethod y).before args s = true) (hinst : (Cond.instanceMethod y).before args s = true) :
    (Cond.selects y.cls y y).before args s = true := by
  obtain ⟨c, k, hc, hk, -, hniab, -, -⟩ := Cond.instantiable_spec hins
  have hni : k.isInterface = false := (Bool.or_eq_false_iff.mp hniab).1
  obtain ⟨mk, methM, hnamed, hmethM, -, -⟩ := Cond.instanceMethod_spec hinst
  have hfound : s.methodFound? y.cls y.name y.desc = some mk := State.methodFound?_of_named hnamed hy
  have hcls : mk.cls = c := Option.some.inj ((findClass_of_methodNamed hnamed).symm.trans hc)
  have hsel : selectMethod {} s.vm c mk = .method mk := selectMethod_private hmethM (Cond.privateMethod_at hpriv mk methM hnamed hmethM)
  simp only [Cond.before, Cond.holds, Cond.value, hc, hfound, hnamed, hsel, hcls, hk]
  simp; exact hni
end OwnKit
theorem own_pn0 : plainName "com/example/appoint/appoint/queue/TaskWheel" = true := by first | (simp [plainName, overriddenIn]; done) | decide +kernel
theorem own_ef1_rm1 (m : MethodId) (o0 : Addr) : entryFrame m #[(.ref o0)] 1 = mkF m 0 #[.val (.ref o0)] [] := by first | (simp [entryFrame, mkF, argsToLocals, Value.category]; done) | rfl
def Q_rm1 (Z : State) (o0 : Addr)  (h0 : Heap) (n0 : Nat) (v : Option Value) (h : Heap) (L : List Loc) : Prop := v = none ∧ Fr n0 L ∧ Keep h0 h [o0] ∧ Exa Z h o0 "com/example/appoint/appoint/queue/TaskWheel" ∧ Fld Z h o0 "com/example/appoint/appoint/queue/TaskWheel" "front" "J" (.long (0 : Int64)) ∧ Fld Z h o0 "com/example/appoint/appoint/queue/TaskWheel" "size" "I" (.int (0 : Int32))
theorem d1_0 : decode prog_13_method_1_code 0 = .ok (.aload_n 0, 1) := by decide +kernel
theorem d1_1 : decode prog_13_method_1_code 1 = .ok (.invokespecial 7, 3) := by decide +kernel
theorem d1_4 : decode prog_13_method_1_code 4 = .ok (.aload_n 0, 1) := by decide +kernel
theorem d1_5 : decode prog_13_method_1_code 5 = .ok (.sipush 1024, 3) := by decide +kernel
theorem d1_8 : decode prog_13_method_1_code 8 = .ok (.anewarray 13, 3) := by decide +kernel
theorem d1_11 : decode prog_13_method_1_code 11 = .ok (.putfield 15, 3) := by decide +kernel
theorem d1_14 : decode prog_13_method_1_code 14 = .ok (.aload_n 0, 1) := by decide +kernel
theorem d1_15 : decode prog_13_method_1_code 15 = .ok (.sipush 1024, 3) := by decide +kernel
theorem d1_18 : decode prog_13_method_1_code 18 = .ok (.newarray .int, 2) := by decide +kernel
theorem d1_20 : decode prog_13_method_1_code 20 = .ok (.putfield 19, 3) := by decide +kernel
theorem d1_23 : decode prog_13_method_1_code 23 = .ok (.aload_n 0, 1) := by decide +kernel
theorem d1_24 : decode prog_13_method_1_code 24 = .ok (.ldc2_w 23, 3) := by decide +kernel
theorem d1_27 : decode prog_13_method_1_code 27 = .ok (.putfield 25, 3) := by decide +kernel
theorem d1_30 : decode prog_13_method_1_code 30 = .ok (.return_, 1) := by decide +kernel
set_option maxRecDepth 65536 in
set_option maxHeartbeats 40000000 in
theorem rm1 (l : Launch) (Z : State) (a0 : Array Value) (hw : ∀ d ∈ tables_1, d.before a0 Z = true) (ws : List Jvm.Cond) (o0 : Addr)  (h0 : Heap) (n0 : Nat) (Z0 : n0 ≤ h0.size) (g_o0 : n0 ≤ o0) (E_o0 : Exa Z h0 o0 "com/example/appoint/appoint/queue/TaskWheel") (F_buckets : Fld Z h0 o0 "com/example/appoint/appoint/queue/TaskWheel" "buckets" "[[Lcom/example/appoint/appoint/task/ScheduledTask;" .null) (F_sizes : Fld Z h0 o0 "com/example/appoint/appoint/queue/TaskWheel" "sizes" "[I" .null) (F_floor : Fld Z h0 o0 "com/example/appoint/appoint/queue/TaskWheel" "floor" "J" (.long (0 : Int64))) (F_front : Fld Z h0 o0 "com/example/appoint/appoint/queue/TaskWheel" "front" "J" (.long (0 : Int64))) (F_size : Fld Z h0 o0 "com/example/appoint/appoint/queue/TaskWheel" "size" "I" (.int (0 : Int32))) :
    MetFree l (⟨"com/example/appoint/appoint/queue/TaskWheel", "<init>", "()V"⟩ : MethodName) (head1 (Jvm.Cond.code (⟨"com/example/appoint/appoint/queue/TaskWheel", "<init>", "()V"⟩ : MethodName) prog_13_method_1_code 1 none :: ws) ({ frames := 1, cells := 2, slots := 2048, locals := 12 } : Room)) (fun a U => a = #[(.ref o0)] ∧ Z.Warmed39 U.vm ∧ U.heap = h0) (fun _ _ _ _ _ => True) (fun _ U o U' => ∃ v L, o = .returned v ∧ Q_rm1 Z o0  h0 n0 v U'.heap L ∧ FrameEnd U o U' L ({ frames := 1, cells := 2, slots := 2048, locals := 12 } : Room).cells ({ frames := 1, cells := 2, slots := 2048, locals := 12 } : Room).slots) := by
  refine MetFree.of_bodySF (plainFor_of_name own_pn0) hisR ?_
  intro p e s m args below meth c s₁ Bd hml0 hP hK
  obtain ⟨rfl, hZ, hh⟩ := hP
  have hx := Bd.exec
  have hby := Bd.bytes
  have hml : c.maxLocals = 1 := hml0
  have hown : s.vm.findClass "com/example/appoint/appoint/queue/TaskWheel" = some m.cls := findClass_of_methodNamed Bd.named
  have hnm := (name_of_methodNamed Bd.named Bd.method).1
  have X0 : Stand p l e ({ frames := 1, cells := 2, slots := 2048, locals := 12 } : Room) s m #[(.ref o0)] below meth c s₁ [] 0 0 := Stand.of_body Bd
  have e0 : s₁.heap = h0 := by rw [← hh, Bd.state]; rfl
  have N0 := Fr.nil n0
  refine (show own_End p e below s (s₁.setTop (entryFrame m #[(.ref o0)] 1)) (Q_rm1 Z o0  h0 n0) ({ frames := 1, cells := 2, slots := 2048, locals := 12 } : Room).cells ({ frames := 1, cells := 2, slots := 2048, locals := 12 } : Room).slots from ?_)
  refine own_go (fun t k => castTop (own_ef1_rm1 m o0) k) ?_
  have li0 : (0 : Int32).toInt = 0 := rfl
  have li1 : (1 : Int32).toInt = 1 := rfl
  show own_End p e below s (s₁.setTop (mkF m 0 #[.val (.ref o0)] [])) _ _ _
  refine own_go (fun t k => XS.aloadN X0.here hx rfl (hb hby d1_0) rfl rfl k) ?_
  show own_End p e below s (s₁.setTop (mkF m 1 #[.val (.ref o0)] [(.ref o0)])) _ _ _
  obtain ⟨T1, X1, e1, st1⟩ := initO X0 hx hZ hown (hw _ (List.mem_of_getElem? (i := 6) rfl)) (hw _ (List.mem_of_getElem? (i := 7) rfl)) (hw _ (List.mem_of_getElem? (i := 8) rfl)) e0 (g := (mkF m 1 #[.val (.ref o0)] [(.ref o0)])) rfl (by rw [hml]; rfl) rfl (hb hby d1_1) (by decide) (W := 0) (by show 2 * 0 + _ ≤ _; exact Nat.le_of_eq rfl) (by decide)
  refine own_go st1 ?_
  show own_End p e below s (T1.setTop (mkF m 4 #[.val (.ref o0)] [])) _ _ _
  refine own_go (fun t k => XS.aloadN X1.here hx rfl (hb hby d1_4) rfl rfl k) ?_
  show own_End p e below s (T1.setTop (mkF m 5 #[.val (.ref o0)] [(.ref o0)])) _ _ _
  refine own_go (fun t k => XS.sipush X1.here hx rfl (hb hby d1_5) k) ?_
  show own_End p e below s (T1.setTop (mkF m 8 #[.val (.ref o0)] [(.int (1024 : Int32)), (.ref o0)])) _ _ _
  obtain ⟨T2, h2, k2, X2, e2, E2, A2, Ex2, O2, st2⟩ := newRA X1 hx hZ (ty := (.object "com/example/appoint/appoint/task/ScheduledTask")) hown (by decide +kernel) (hw _ (List.mem_of_getElem? (i := 9) rfl)) (hw _ (List.mem_of_getElem? (i := 10) rfl)) e1 (g := (mkF m 8 #[.val (.ref o0)] [(.int (1024 : Int32)), (.ref o0)])) rfl (hb hby d1_8) rfl (by decide) (cap := 1024) (by decide) (by decide) (by decide) (by decide) rfl
  obtain ⟨b2, g2⟩ : ∃ z, z = h0.size := ⟨_, rfl⟩
  rw [← g2] at A2 st2
  have g_b2 : n0 ≤ b2 := Nat.le_trans Z0 (Nat.le_of_eq g2.symm)
  have ne_o0_b2 : o0 ≠ b2 := Nat.ne_of_lt (Nat.lt_of_lt_of_le E_o0.lt (Nat.le_of_eq g2.symm))
  have Z2 : n0 ≤ h2.size := Nat.le_trans Z0 E2.1
  have KP2 := (Keep.refl h0 [o0]).ext E2
  have sz_b2 : h0.size ≤ b2 := Nat.le_trans (Keep.refl h0 [o0]).1 (Nat.le_of_eq g2.symm)
  have V_b2 := Arv.new A2 (by decide)
  refine own_go st2 ?_
  show own_End p e below s (T2.setTop (mkF m 11 #[.val (.ref o0)] [(.ref b2), (.ref o0)])) _ _ _
  have U3 := (E_o0.ext E2)
  have U4 := (F_buckets.ext E2)
  obtain ⟨T5, h5, X5, e5, W5, st5⟩ := putF X2 hx hZ hown (host := "") (Or.inl (hw _ (List.mem_of_getElem? (i := 11) rfl))) Via.refl e2 U4 U3 (Or.inr ⟨(hw _ (List.mem_of_getElem? (i := 12) rfl)), rfl, hnm⟩) (hw _ (List.mem_of_getElem? (i := 1) rfl)) (ty := (.array (.array (.object "com/example/appoint/appoint/task/ScheduledTask")))) (by decide) rfl rfl (g := (mkF m 11 #[.val (.ref o0)] [(.ref b2), (.ref o0)])) rfl rfl (hb hby d1_11)
  have Fw5 := U4.same W5
  have N5 := Fr.snoc X5 N0 g_o0
  have Z5 : n0 ≤ h5.size := Nat.le_trans Z2 (Keep.of_wr W5).1
  have KP5 := KP2.wr W5 (Or.inl (List.mem_of_getElem? (i := 0) rfl))
  refine own_go st5 ?_
  show own_End p e below s (T5.setTop (mkF m 14 #[.val (.ref o0)] [])) _ _ _
  refine own_go (fun t k => XS.aloadN X5.here hx rfl (hb hby d1_14) rfl rfl k) ?_
  show own_End p e below s (T5.setTop (mkF m 15 #[.val (.ref o0)] [(.ref o0)])) _ _ _
  refine own_go (fun t k => XS.sipush X5.here hx rfl (hb hby d1_15) k) ?_
  show own_End p e below s (T5.setTop (mkF m 18 #[.val (.ref o0)] [(.int (1024 : Int32)), (.ref o0)])) _ _ _
  obtain ⟨T6, h6, k6, X6, e6, E6, A6, st6⟩ := newP X5 hx hZ (hw _ (List.mem_of_getElem? (i := 13) rfl)) e5 (g := (mkF m 18 #[.val (.ref o0)] [(.int (1024 : Int32)), (.ref o0)])) rfl (hb hby d1_18) rfl (by decide) (cap := 1024) (by decide) (by decide) (by decide) (by decide)
  obtain ⟨b6, g6⟩ : ∃ z, z = h5.size := ⟨_, rfl⟩
  rw [← g6] at A6 st6
  have g_b6 : n0 ≤ b6 := Nat.le_trans Z5 (Nat.le_of_eq g6.symm)
  have U7 := (U3.wr W5)
  have ne_o0_b6 : o0 ≠ b6 := Nat.ne_of_lt (Nat.lt_of_lt_of_le U7.lt (Nat.le_of_eq g6.symm))
  have U8 := (V_b2.other W5 (Ne.symm ne_o0_b2))
  have ne_b2_b6 : b2 ≠ b6 := Nat.ne_of_lt (Nat.lt_of_lt_of_le U8.lt (Nat.le_of_eq g6.symm))
  have Z6 : n0 ≤ h6.size := Nat.le_trans Z5 E6.1
  have KP6 := KP5.ext E6
  have sz_b6 : h0.size ≤ b6 := Nat.le_trans KP5.1 (Nat.le_of_eq g6.symm)
  have V_b6 : Arv Z h6 b6 k6 .int (1024 : Int32) [(.int (0 : Int32)), (.int (0 : Int32)), (.int (0 : Int32)), (.int (0 : Int32)), (.int (0 : Int32)), (.int (0 : Int32)), (.int (0 : Int32)), (.int (0 : Int32)), (.int (0 : Int32)), (.int (0 : Int32)), (.int (0 : Int32)), (.int (0 : Int32)), (.int (0 : Int32)), (.int (0 : Int32)), (.int (0 : Int32)), (.int (0 : Int32)), (.int (0 : Int32)), (.int (0 : Int32)), (.int (0 : Int32)), (.int (0 : Int32)), (.int (0 : Int32)), (.int (0 : Int32)), (.int (0 : Int32)), (.int (0 : Int32)), (.int (0 : Int32)), (.int (0 : Int32)), (.int (0 : Int32)), (.int (0 : Int32)), (.int (0 : Int32)), (.int (0 : Int32)), (.int (0 : Int32)), (.int (0 : Int32)), (.int (0 : Int32)), (.int (0 : Int32)), (.int (0 : Int32)), (.int (0 : Int32)), (.int (0 : Int32)), (.int (0 : Int32)), (.int (0 : Int32)), (.int (0 : Int32)), (.int (0 : Int32)), (.int (0 : Int32)), (.int (0 : Int32)), (.int (0 : Int32)), (.int (0 : Int32)), (.int (0 : Int32)), (.int (0 : Int32)), (.int (0 : Int32)), (.int (0 : Int32)), (.int (0 : Int32)), (.int (0 : Int32)), (.int (0 : Int32)), (.int (0 : Int32)), (.int (0 : Int32)), (.int (0 : Int32)), (.int (0 : Int32)), (.int (0 : Int32)), (.int (0 : Int32)), (.int (0 : Int32)), (.int (0 : Int32)), (.int (0 : Int32)), (.int (0 : Int32)), (.int (0 : Int32)), (.int (0 : Int32)), (.int (0 : Int32)), (.int (0 : Int32)), (.int (0 : Int32)), (.int (0 : Int32)), (.int (0 : Int32)), (.int (0 : Int32)), (.int (0 : Int32)), (.int (0 : Int32)), (.int (0 : Int32)), (.int (0 : Int32)), (.int (0 : Int32)), (.int (0 : Int32)), (.int (0 : Int32)), (.int (0 : Int32)), (.int (0 : Int32)), (.int (0 : Int32)), (.int (0 : Int32)), (.int (0 : Int32)), (.int (0 : Int32)), (.int (0 : Int32)), (.int (0 : Int32)), (.int (0 : Int32)), (.int (0 : Int32)), (.int (0 : Int32)), (.int (0 : Int32)), (.int (0 : Int32)), (.int (0 : Int32)), (.int (0 : Int32)), (.int (0 : Int32)), (.int (0 : Int32)), (.int (0 : Int32)), (.int (0 : Int32)), (.int (0 : Int32)), (.int (0 : Int32)), (.int (0 : Int32)), (.int (0 : Int32)), (.int (0 : Int32)), (.int (0 : Int32)), (.int (0 : Int32)), (.int (0 : Int32)), (.int (0 : Int32)), (.int (0 : Int32)), (.int (0 : Int32)), (.int (0 : Int32)), (.int (0 : Int32)), (.int (0 : Int32)), (.int (0 : Int32)), (.int (0 : Int32)), (.int (0 : Int32)), (.int (0 : Int32)), (.int (0 : Int32)), (.int (0 : Int32)), (.int (0 : Int32)), (.int (0 : Int32)), (.int (0 : Int32)), (.int (0 : Int32)), (.int (0 : Int32)), (.int (0 : Int32)), (.int (0 : Int32)), (.int (0 : Int32)), (.int (0 : Int32)), (.int (0 : Int32)), (.int (0 : Int32)), (.int (0 : Int32)), (.int (0 : Int32)), (.int (0 : Int32)), (.int (0 : Int32)), (.int (0 : Int32)), (.int (0 : Int32)), (.int (0 : Int32)), (.int (0 : Int32)), (.int (0 : Int32)), (.int (0 : Int32)), (.int (0 : Int32)), (.int (0 : Int32)), (.int (0 : Int32)), (.int (0 : Int32)), (.int (0 : Int32)), (.int (0 : Int32)), (.int (0 : Int32)), (.int (0 : Int32)), (.int (0 : Int32)), (.int (0 : Int32)), (.int (0 : Int32)), (.int (0 : Int32)), (.int (0 : Int32)), (.int (0 : Int32)), (.int (0 : Int32)), (.int (0 : Int32)), (.int (0 : Int32)), (.int (0 : Int32)), (.int (0 : Int32)), (.int (0 : Int32)), (.int (0 : Int32)), (.int (0 : Int32)), (.int (0 : Int32)), (.int (0 : Int32)), (.int (0 : Int32)), (.int (0 : Int32)), (.int (0 : Int32)), (.int (0 : Int32)), (.int (0 : Int32)), (.int (0 : Int32)), (.int (0 : Int32)), (.int (0 : Int32)), (.int (0 : Int32)), (.int (0 : Int32)), (.int (0 : Int32)), (.int (0 : Int32)), (.int (0 : Int32)), (.int (0 : Int32)), (.int (0 : Int32)), (.int (0 : Int32)), (.int (0 : Int32)), (.int (0 : Int32)), (.int (0 : Int32)), (.int (0 : Int32)), (.int (0 : Int32)), (.int (0 : Int32)), (.int (0 : Int32)), (.int (0 : Int32)), (.int (0 : Int32)), (.int (0 : Int32)), (.int (0 : Int32)), (.int (0 : Int32)), (.int (0 : Int32)), (.int (0 : Int32)), (.int (0 : Int32)), (.int (0 : Int32)), (.int (0 : Int32)), (.int (0 : Int32)), (.int (0 : Int32)), (.int (0 : Int32)), (.int (0 : Int32)), (.int (0 : Int32)), (.int (0 : Int32)), (.int (0 : Int32)), (.int (0 : Int32)), (.int (0 : Int32)), (.int (0 : Int32)), (.int (0 : Int32)), (.int (0 : Int32)), (.int (0 : Int32)), (.int (0 : Int32)), (.int (0 : Int32)), (.int (0 : Int32)), (.int (0 : Int32)), (.int (0 : Int32)), (.int (0 : Int32)), (.int (0 : Int32)), (.int (0 : Int32)), (.int (0 : Int32)), (.int (0 : Int32)), (.int (0 : Int32)), (.int (0 : Int32)), (.int (0 : Int32)), (.int (0 : Int32)), (.int (0 : Int32)), (.int (0 : Int32)), (.int (0 : Int32)), (.int (0 : Int32)), (.int (0 : Int32)), (.int (0 : Int32)), (.int (0 : Int32)), (.int (0 : Int32)), (.int (0 : Int32)), (.int (0 : Int32)), (.int (0 : Int32)), (.int (0 : Int32)), (.int (0 : Int32)), (.int (0 : Int32)), (.int (0 : Int32)), (.int (0 : Int32)), (.int (0 : Int32)), (.int (0 : Int32)), (.int (0 : Int32)), (.int (0 : Int32)), (.int (0 : Int32)), (.int (0 : Int32)), (.int (0 : Int32)), (.int (0 : Int32)), (.int (0 : Int32)), (.int (0 : Int32)), (.int (0 : Int32)), (.int (0 : Int32)), (.int (0 : Int32)), (.int (0 : Int32)), (.int (0 : Int32)), (.int (0 : Int32)), (.int (0 : Int32)), (.int (0 : Int32)), (.int (0 : Int32)), (.int (0 : Int32)), (.int (0 : Int32)), (.int (0 : Int32)), (.int (0 : Int32)), (.int (0 : Int32)), (.int (0 : Int32)), (.int (0 : Int32)), (.int (0 : Int32)), (.int (0 : Int32)), (.int (0 : Int32)), (.int (0 : Int32)), (.int (0 : Int32)), (.int (0 : Int32)), (.int (0 : Int32)), (.int (0 : Int32)), (.int (0 : Int32)), (.int (0 : Int32)), (.int (0 : Int32)), (.int (0 : Int32)), (.int (0 : Int32)), (.int (0 : Int32)), (.int (0 : Int32)), (.int (0 : Int32)), (.int (0 : Int32)), (.int (0 : Int32)), (.int (0 : Int32)), (.int (0 : Int32)), (.int (0 : Int32)), (.int (0 : Int32)), (.int (0 : Int32)), (.int (0 : Int32)), (.int (0 : Int32)), (.int (0 : Int32)), (.int (0 : Int32)), (.int (0 : Int32)), (.int (0 : Int32)), (.int (0 : Int32)), (.int (0 : Int32)), (.int (0 : Int32)), (.int (0 : Int32)), (.int (0 : Int32)), (.int (0 : Int32)), (.int (0 : Int32)), (.int (0 : Int32)), (.int (0 : Int32)), (.int (0 : Int32)), (.int (0 : Int32)), (.int (0 : Int32)), (.int (0 : Int32)), (.int (0 : Int32)), (.int (0 : Int32)), (.int (0 : Int32)), (.int (0 : Int32)), (.int (0 : Int32)), (.int (0 : Int32)), (.int (0 : Int32)), (.int (0 : Int32)), (.int (0 : Int32)), (.int (0 : Int32)), (.int (0 : Int32)), (.int (0 : Int32)), (.int (0 : Int32)), (.int (0 : Int32)), (.int (0 : Int32)), (.int (0 : Int32)), (.int (0 : Int32)), (.int (0 : Int32)), (.int (0 : Int32)), (.int (0 : Int32)), (.int (0 : Int32)), (.int (0 : Int32)), (.int (0 : Int32)), (.int (0 : Int32)), (.int (0 : Int32)), (.int (0 : Int32)), (.int (0 : Int32)), (.int (0 : Int32)), (.int (0 : Int32)), (.int (0 : Int32)), (.int (0 : Int32)), (.int (0 : Int32)), (.int (0 : Int32)), (.int (0 : Int32)), (.int (0 : Int32)), (.int (0 : Int32)), (.int (0 : Int32)), (.int (0 : Int32)), (.int (0 : Int32)), (.int (0 : Int32)), (.int (0 : Int32)), (.int (0 : Int32)), (.int (0 : Int32)), (.int (0 : Int32)), (.int (0 : Int32)), (.int (0 : Int32)), (.int (0 : Int32)), (.int (0 : Int32)), (.int (0 : Int32)), (.int (0 : Int32)), (.int (0 : Int32)), (.int (0 : Int32)), (.int (0 : Int32)), (.int (0 : Int32)), (.int (0 : Int32)), (.int (0 : Int32)), (.int (0 : Int32)), (.int (0 : Int32)), (.int (0 : Int32)), (.int (0 : Int32)), (.int (0 : Int32)), (.int (0 : Int32)), (.int (0 : Int32)), (.int (0 : Int32)), (.int (0 : Int32)), (.int (0 : Int32)), (.int (0 : Int32)), (.int (0 : Int32)), (.int (0 : Int32)), (.int (0 : Int32)), (.int (0 : Int32)), (.int (0 : Int32)), (.int (0 : Int32)), (.int (0 : Int32)), (.int (0 : Int32)), (.int (0 : Int32)), (.int (0 : Int32)), (.int (0 : Int32)), (.int (0 : Int32)), (.int (0 : Int32)), (.int (0 : Int32)), (.int (0 : Int32)), (.int (0 : Int32)), (.int (0 : Int32)), (.int (0 : Int32)), (.int (0 : Int32)), (.int (0 : Int32)), (.int (0 : Int32)), (.int (0 : Int32)), (.int (0 : Int32)), (.int (0 : Int32)), (.int (0 : Int32)), (.int (0 : Int32)), (.int (0 : Int32)), (.int (0 : Int32)), (.int (0 : Int32)), (.int (0 : Int32)), (.int (0 : Int32)), (.int (0 : Int32)), (.int (0 : Int32)), (.int (0 : Int32)), (.int (0 : Int32)), (.int (0 : Int32)), (.int (0 : Int32)), (.int (0 : Int32)), (.int (0 : Int32)), (.int (0 : Int32)), (.int (0 : Int32)), (.int (0 : Int32)), (.int (0 : Int32)), (.int (0 : Int32)), (.int (0 : Int32)), (.int (0 : Int32)), (.int (0 : Int32)), (.int (0 : Int32)), (.int (0 : Int32)), (.int (0 : Int32)), (.int (0 : Int32)), (.int (0 : Int32)), (.int (0 : Int32)), (.int (0 : Int32)), (.int (0 : Int32)), (.int (0 : Int32)), (.int (0 : Int32)), (.int (0 : Int32)), (.int (0 : Int32)), (.int (0 : Int32)), (.int (0 : Int32)), (.int (0 : Int32)), (.int (0 : Int32)), (.int (0 : Int32)), (.int (0 : Int32)), (.int (0 : Int32)), (.int (0 : Int32)), (.int (0 : Int32)), (.int (0 : Int32)), (.int (0 : Int32)), (.int (0 : Int32)), (.int (0 : Int32)), (.int (0 : Int32)), (.int (0 : Int32)), (.int (0 : Int32)), (.int (0 : Int32)), (.int (0 : Int32)), (.int (0 : Int32)), (.int (0 : Int32)), (.int (0 : Int32)), (.int (0 : Int32)), (.int (0 : Int32)), (.int (0 : Int32)), (.int (0 : Int32)), (.int (0 : Int32)), (.int (0 : Int32)), (.int (0 : Int32)), (.int (0 : Int32)), (.int (0 : Int32)), (.int (0 : Int32)), (.int (0 : Int32)), (.int (0 : Int32)), (.int (0 : Int32)), (.int (0 : Int32)), (.int (0 : Int32)), (.int (0 : Int32)), (.int (0 : Int32)), (.int (0 : Int32)), (.int (0 : Int32)), (.int (0 : Int32)), (.int (0 : Int32)), (.int (0 : Int32)), (.int (0 : Int32)), (.int (0 : Int32)), (.int (0 : Int32)), (.int (0 : Int32)), (.int (0 : Int32)), (.int (0 : Int32)), (.int (0 : Int32)), (.int (0 : Int32)), (.int (0 : Int32)), (.int (0 : Int32)), (.int (0 : Int32)), (.int (0 : Int32)), (.int (0 : Int32)), (.int (0 : Int32)), (.int (0 : Int32)), (.int (0 : Int32)), (.int (0 : Int32)), (.int (0 : Int32)), (.int (0 : Int32)), (.int (0 : Int32)), (.int (0 : Int32)), (.int (0 : Int32)), (.int (0 : Int32)), (.int (0 : Int32)), (.int (0 : Int32)), (.int (0 : Int32)), (.int (0 : Int32)), (.int (0 : Int32)), (.int (0 : Int32)), (.int (0 : Int32)), (.int (0 : Int32)), (.int (0 : Int32)), (.int (0 : Int32)), (.int (0 : Int32)), (.int (0 : Int32)), (.int (0 : Int32)), (.int (0 : Int32)), (.int (0 : Int32)), (.int (0 : Int32)), (.int (0 : Int32)), (.int (0 : Int32)), (.int (0 : Int32)), (.int (0 : Int32)), (.int (0 : Int32)), (.int (0 : Int32)), (.int (0 : Int32)), (.int (0 : Int32)), (.int (0 : Int32)), (.int (0 : Int32)), (.int (0 : Int32)), (.int (0 : Int32)), (.int (0 : Int32)), (.int (0 : Int32)), (.int (0 : Int32)), (.int (0 : Int32)), (.int (0 : Int32)), (.int (0 : Int32)), (.int (0 : Int32)), (.int (0 : Int32)), (.int (0 : Int32)), (.int (0 : Int32)), (.int (0 : Int32)), (.int (0 : Int32)), (.int (0 : Int32)), (.int (0 : Int32)), (.int (0 : Int32)), (.int (0 : Int32)), (.int (0 : Int32)), (.int (0 : Int32)), (.int (0 : Int32)), (.int (0 : Int32)), (.int (0 : Int32)), (.int (0 : Int32)), (.int (0 : Int32)), (.int (0 : Int32)), (.int (0 : Int32)), (.int (0 : Int32)), (.int (0 : Int32)), (.int (0 : Int32)), (.int (0 : Int32)), (.int (0 : Int32)), (.int (0 : Int32)), (.int (0 : Int32)), (.int (0 : Int32)), (.int (0 : Int32)), (.int (0 : Int32)), (.int (0 : Int32)), (.int (0 : Int32)), (.int (0 : Int32)), (.int (0 : Int32)), (.int (0 : Int32)), (.int (0 : Int32)), (.int (0 : Int32)), (.int (0 : Int32)), (.int (0 : Int32)), (.int (0 : Int32)), (.int (0 : Int32)), (.int (0 : Int32)), (.int (0 : Int32)), (.int (0 : Int32)), (.int (0 : Int32)), (.int (0 : Int32)), (.int (0 : Int32)), (.int (0 : Int32)), (.int (0 : Int32)), (.int (0 : Int32)), (.int (0 : Int32)), (.int (0 : Int32)), (.int (0 : Int32)), (.int (0 : Int32)), (.int (0 : Int32)), (.int (0 : Int32)), (.int (0 : Int32)), (.int (0 : Int32)), (.int (0 : Int32)), (.int (0 : Int32)), (.int (0 : Int32)), (.int (0 : Int32)), (.int (0 : Int32)), (.int (0 : Int32)), (.int (0 : Int32)), (.int (0 : Int32)), (.int (0 : Int32)), (.int (0 : Int32)), (.int (0 : Int32)), (.int (0 : Int32)), (.int (0 : Int32)), (.int (0 : Int32)), (.int (0 : Int32)), (.int (0 : Int32)), (.int (0 : Int32)), (.int (0 : Int32)), (.int (0 : Int32)), (.int (0 : Int32)), (.int (0 : Int32)), (.int (0 : Int32)), (.int (0 : Int32)), (.int (0 : Int32)), (.int (0 : Int32)), (.int (0 : Int32)), (.int (0 : Int32)), (.int (0 : Int32)), (.int (0 : Int32)), (.int (0 : Int32)), (.int (0 : Int32)), (.int (0 : Int32)), (.int (0 : Int32)), (.int (0 : Int32)), (.int (0 : Int32)), (.int (0 : Int32)), (.int (0 : Int32)), (.int (0 : Int32)), (.int (0 : Int32)), (.int (0 : Int32)), (.int (0 : Int32)), (.int (0 : Int32)), (.int (0 : Int32)), (.int (0 : Int32)), (.int (0 : Int32)), (.int (0 : Int32)), (.int (0 : Int32)), (.int (0 : Int32)), (.int (0 : Int32)), (.int (0 : Int32)), (.int (0 : Int32)), (.int (0 : Int32)), (.int (0 : Int32)), (.int (0 : Int32)), (.int (0 : Int32)), (.int (0 : Int32)), (.int (0 : Int32)), (.int (0 : Int32)), (.int (0 : Int32)), (.int (0 : Int32)), (.int (0 : Int32)), (.int (0 : Int32)), (.int (0 : Int32)), (.int (0 : Int32)), (.int (0 : Int32)), (.int (0 : Int32)), (.int (0 : Int32)), (.int (0 : Int32)), (.int (0 : Int32)), (.int (0 : Int32)), (.int (0 : Int32)), (.int (0 : Int32)), (.int (0 : Int32)), (.int (0 : Int32)), (.int (0 : Int32)), (.int (0 : Int32)), (.int (0 : Int32)), (.int (0 : Int32)), (.int (0 : Int32)), (.int (0 : Int32)), (.int (0 : Int32)), (.int (0 : Int32)), (.int (0 : Int32)), (.int (0 : Int32)), (.int (0 : Int32)), (.int (0 : Int32)), (.int (0 : Int32)), (.int (0 : Int32)), (.int (0 : Int32)), (.int (0 : Int32)), (.int (0 : Int32)), (.int (0 : Int32)), (.int (0 : Int32)), (.int (0 : Int32)), (.int (0 : Int32)), (.int (0 : Int32)), (.int (0 : Int32)), (.int (0 : Int32)), (.int (0 : Int32)), (.int (0 : Int32)), (.int (0 : Int32)), (.int (0 : Int32)), (.int (0 : Int32)), (.int (0 : Int32)), (.int (0 : Int32)), (.int (0 : Int32)), (.int (0 : Int32)), (.int (0 : Int32)), (.int (0 : Int32)), (.int (0 : Int32)), (.int (0 : Int32)), (.int (0 : Int32)), (.int (0 : Int32)), (.int (0 : Int32)), (.int (0 : Int32)), (.int (0 : Int32)), (.int (0 : Int32)), (.int (0 : Int32)), (.int (0 : Int32)), (.int (0 : Int32)), (.int (0 : Int32)), (.int (0 : Int32)), (.int (0 : Int32)), (.int (0 : Int32)), (.int (0 : Int32)), (.int (0 : Int32)), (.int (0 : Int32)), (.int (0 : Int32)), (.int (0 : Int32)), (.int (0 : Int32)), (.int (0 : Int32)), (.int (0 : Int32)), (.int (0 : Int32)), (.int (0 : Int32)), (.int (0 : Int32)), (.int (0 : Int32)), (.int (0 : Int32)), (.int (0 : Int32)), (.int (0 : Int32)), (.int (0 : Int32)), (.int (0 : Int32)), (.int (0 : Int32)), (.int (0 : Int32)), (.int (0 : Int32)), (.int (0 : Int32)), (.int (0 : Int32)), (.int (0 : Int32)), (.int (0 : Int32)), (.int (0 : Int32)), (.int (0 : Int32)), (.int (0 : Int32)), (.int (0 : Int32)), (.int (0 : Int32)), (.int (0 : Int32)), (.int (0 : Int32)), (.int (0 : Int32)), (.int (0 : Int32)), (.int (0 : Int32)), (.int (0 : Int32)), (.int (0 : Int32)), (.int (0 : Int32)), (.int (0 : Int32)), (.int (0 : Int32)), (.int (0 : Int32)), (.int (0 : Int32)), (.int (0 : Int32)), (.int (0 : Int32)), (.int (0 : Int32)), (.int (0 : Int32)), (.int (0 : Int32)), (.int (0 : Int32)), (.int (0 : Int32)), (.int (0 : Int32)), (.int (0 : Int32)), (.int (0 : Int32)), (.int (0 : Int32)), (.int (0 : Int32)), (.int (0 : Int32)), (.int (0 : Int32)), (.int (0 : Int32)), (.int (0 : Int32)), (.int (0 : Int32)), (.int (0 : Int32)), (.int (0 : Int32)), (.int (0 : Int32)), (.int (0 : Int32)), (.int (0 : Int32)), (.int (0 : Int32)), (.int (0 : Int32)), (.int (0 : Int32)), (.int (0 : Int32)), (.int (0 : Int32)), (.int (0 : Int32)), (.int (0 : Int32)), (.int (0 : Int32)), (.int (0 : Int32)), (.int (0 : Int32)), (.int (0 : Int32)), (.int (0 : Int32)), (.int (0 : Int32)), (.int (0 : Int32)), (.int (0 : Int32)), (.int (0 : Int32)), (.int (0 : Int32)), (.int (0 : Int32)), (.int (0 : Int32)), (.int (0 : Int32)), (.int (0 : Int32)), (.int (0 : Int32)), (.int (0 : Int32)), (.int (0 : Int32)), (.int (0 : Int32)), (.int (0 : Int32)), (.int (0 : Int32)), (.int (0 : Int32)), (.int (0 : Int32)), (.int (0 : Int32)), (.int (0 : Int32)), (.int (0 : Int32)), (.int (0 : Int32)), (.int (0 : Int32)), (.int (0 : Int32)), (.int (0 : Int32)), (.int (0 : Int32)), (.int (0 : Int32)), (.int (0 : Int32)), (.int (0 : Int32)), (.int (0 : Int32)), (.int (0 : Int32)), (.int (0 : Int32)), (.int (0 : Int32)), (.int (0 : Int32)), (.int (0 : Int32)), (.int (0 : Int32)), (.int (0 : Int32)), (.int (0 : Int32)), (.int (0 : Int32)), (.int (0 : Int32)), (.int (0 : Int32)), (.int (0 : Int32)), (.int (0 : Int32)), (.int (0 : Int32)), (.int (0 : Int32)), (.int (0 : Int32)), (.int (0 : Int32)), (.int (0 : Int32)), (.int (0 : Int32)), (.int (0 : Int32)), (.int (0 : Int32)), (.int (0 : Int32)), (.int (0 : Int32)), (.int (0 : Int32)), (.int (0 : Int32)), (.int (0 : Int32)), (.int (0 : Int32)), (.int (0 : Int32)), (.int (0 : Int32)), (.int (0 : Int32)), (.int (0 : Int32)), (.int (0 : Int32)), (.int (0 : Int32)), (.int (0 : Int32)), (.int (0 : Int32)), (.int (0 : Int32)), (.int (0 : Int32)), (.int (0 : Int32)), (.int (0 : Int32)), (.int (0 : Int32)), (.int (0 : Int32)), (.int (0 : Int32)), (.int (0 : Int32)), (.int (0 : Int32)), (.int (0 : Int32)), (.int (0 : Int32)), (.int (0 : Int32)), (.int (0 : Int32)), (.int (0 : Int32)), (.int (0 : Int32)), (.int (0 : Int32)), (.int (0 : Int32)), (.int (0 : Int32)), (.int (0 : Int32)), (.int (0 : Int32)), (.int (0 : Int32)), (.int (0 : Int32)), (.int (0 : Int32)), (.int (0 : Int32)), (.int (0 : Int32)), (.int (0 : Int32)), (.int (0 : Int32)), (.int (0 : Int32)), (.int (0 : Int32)), (.int (0 : Int32)), (.int (0 : Int32)), (.int (0 : Int32)), (.int (0 : Int32)), (.int (0 : Int32)), (.int (0 : Int32)), (.int (0 : Int32)), (.int (0 : Int32)), (.int (0 : Int32)), (.int (0 : Int32)), (.int (0 : Int32)), (.int (0 : Int32)), (.int (0 : Int32)), (.int (0 : Int32)), (.int (0 : Int32)), (.int (0 : Int32)), (.int (0 : Int32)), (.int (0 : Int32)), (.int (0 : Int32)), (.int (0 : Int32)), (.int (0 : Int32)), (.int (0 : Int32)), (.int (0 : Int32)), (.int (0 : Int32)), (.int (0 : Int32)), (.int (0 : Int32)), (.int (0 : Int32)), (.int (0 : Int32)), (.int (0 : Int32)), (.int (0 : Int32)), (.int (0 : Int32)), (.int (0 : Int32)), (.int (0 : Int32)), (.int (0 : Int32)), (.int (0 : Int32)), (.int (0 : Int32)), (.int (0 : Int32)), (.int (0 : Int32)), (.int (0 : Int32)), (.int (0 : Int32)), (.int (0 : Int32)), (.int (0 : Int32)), (.int (0 : Int32)), (.int (0 : Int32)), (.int (0 : Int32)), (.int (0 : Int32)), (.int (0 : Int32)), (.int (0 : Int32)), (.int (0 : Int32)), (.int (0 : Int32)), (.int (0 : Int32)), (.int (0 : Int32)), (.int (0 : Int32)), (.int (0 : Int32)), (.int (0 : Int32)), (.int (0 : Int32)), (.int (0 : Int32)), (.int (0 : Int32)), (.int (0 : Int32)), (.int (0 : Int32)), (.int (0 : Int32)), (.int (0 : Int32)), (.int (0 : Int32)), (.int (0 : Int32)), (.int (0 : Int32)), (.int (0 : Int32)), (.int (0 : Int32)), (.int (0 : Int32)), (.int (0 : Int32)), (.int (0 : Int32)), (.int (0 : Int32)), (.int (0 : Int32)), (.int (0 : Int32)), (.int (0 : Int32)), (.int (0 : Int32)), (.int (0 : Int32)), (.int (0 : Int32)), (.int (0 : Int32)), (.int (0 : Int32)), (.int (0 : Int32)), (.int (0 : Int32)), (.int (0 : Int32)), (.int (0 : Int32)), (.int (0 : Int32)), (.int (0 : Int32)), (.int (0 : Int32)), (.int (0 : Int32)), (.int (0 : Int32)), (.int (0 : Int32)), (.int (0 : Int32)), (.int (0 : Int32)), (.int (0 : Int32)), (.int (0 : Int32)), (.int (0 : Int32)), (.int (0 : Int32)), (.int (0 : Int32)), (.int (0 : Int32)), (.int (0 : Int32)), (.int (0 : Int32)), (.int (0 : Int32)), (.int (0 : Int32)), (.int (0 : Int32)), (.int (0 : Int32)), (.int (0 : Int32)), (.int (0 : Int32)), (.int (0 : Int32)), (.int (0 : Int32)), (.int (0 : Int32)), (.int (0 : Int32)), (.int (0 : Int32)), (.int (0 : Int32)), (.int (0 : Int32)), (.int (0 : Int32)), (.int (0 : Int32)), (.int (0 : Int32)), (.int (0 : Int32)), (.int (0 : Int32)), (.int (0 : Int32)), (.int (0 : Int32)), (.int (0 : Int32)), (.int (0 : Int32)), (.int (0 : Int32)), (.int (0 : Int32)), (.int (0 : Int32)), (.int (0 : Int32)), (.int (0 : Int32)), (.int (0 : Int32)), (.int (0 : Int32)), (.int (0 : Int32)), (.int (0 : Int32)), (.int (0 : Int32)), (.int (0 : Int32)), (.int (0 : Int32)), (.int (0 : Int32)), (.int (0 : Int32)), (.int (0 : Int32)), (.int (0 : Int32)), (.int (0 : Int32)), (.int (0 : Int32)), (.int (0 : Int32)), (.int (0 : Int32)), (.int (0 : Int32)), (.int (0 : Int32)), (.int (0 : Int32))] (.int (0 : Int32)) := (Arv.new A6 (by decide)).pad (pad_rep [] (.int (0 : Int32)) 1024)
  refine own_go st6 ?_
  show own_End p e below s (T6.setTop (mkF m 20 #[.val (.ref o0)] [(.ref b6), (.ref o0)])) _ _ _
  have U9 := (U7.ext E6)
  have U10 := (((F_sizes.ext E2).other W5 (Or.inr (slot_ne (Or.inr (hw _ (List.mem_of_getElem? (i := 15) rfl))) (Or.inr (hw _ (List.mem_of_getElem? (i := 12) rfl))) (by decide) (t := (.array .int)) (t' := (.array (.array (.object "com/example/appoint/appoint/task/ScheduledTask")))) (by decide) (by decide)))).ext E6)
  obtain ⟨T11, h11, X11, e11, W11, st11⟩ := putF X6 hx hZ hown (host := "") (Or.inl (hw _ (List.mem_of_getElem? (i := 14) rfl))) Via.refl e6 U10 U9 (Or.inr ⟨(hw _ (List.mem_of_getElem? (i := 15) rfl)), rfl, hnm⟩) (hw _ (List.mem_of_getElem? (i := 1) rfl)) (ty := (.array .int)) (by decide) rfl rfl (g := (mkF m 20 #[.val (.ref o0)] [(.ref b6), (.ref o0)])) rfl rfl (hb hby d1_20)
  have Fw11 := U10.same W11
  have N11 := Fr.snoc X11 N5 g_o0
  have Z11 : n0 ≤ h11.size := Nat.le_trans Z6 (Keep.of_wr W11).1
  have KP11 := KP6.wr W11 (Or.inl (List.mem_of_getElem? (i := 0) rfl))
  refine own_go st11 ?_
  show own_End p e below s (T11.setTop (mkF m 23 #[.val (.ref o0)] [])) _ _ _
  refine own_go (fun t k => XS.aloadN X11.here hx rfl (hb hby d1_23) rfl rfl k) ?_
  show own_End p e below s (T11.setTop (mkF m 24 #[.val (.ref o0)] [(.ref o0)])) _ _ _
  refine own_go (fun t k => X11.ldc2Long hx hown (mvT hZ (hw _ (List.mem_of_getElem? (i := 16) rfl))) (g := (mkF m 24 #[.val (.ref o0)] [(.ref o0)])) rfl (hb hby d1_24) _ k) ?_
  show own_End p e below s (T11.setTop (mkF m 27 #[.val (.ref o0)] [(.long (9223372036854775807 : Int64)), (.ref o0)])) _ _ _
  have U12 := (U9.wr W11)
  have U13 := ((((F_floor.ext E2).other W5 (Or.inr (slot_ne (Or.inl (hw _ (List.mem_of_getElem? (i := 18) rfl))) (Or.inr (hw _ (List.mem_of_getElem? (i := 12) rfl))) (by decide) (t := .long) (t' := (.array (.array (.object "com/example/appoint/appoint/task/ScheduledTask")))) (by decide) (by decide)))).ext E6).other W11 (Or.inr (slot_ne (Or.inl (hw _ (List.mem_of_getElem? (i := 18) rfl))) (Or.inr (hw _ (List.mem_of_getElem? (i := 15) rfl))) (by decide) (t := .long) (t' := (.array .int)) (by decide) (by decide))))
  obtain ⟨T14, h14, X14, e14, W14, st14⟩ := putF X11 hx hZ hown (host := "") (Or.inl (hw _ (List.mem_of_getElem? (i := 17) rfl))) Via.refl e11 U13 U12 (Or.inl (hw _ (List.mem_of_getElem? (i := 18) rfl))) (hw _ (List.mem_of_getElem? (i := 1) rfl)) (ty := .long) (by decide) rfl rfl (g := (mkF m 27 #[.val (.ref o0)] [(.long (9223372036854775807 : Int64)), (.ref o0)])) rfl rfl (hb hby d1_27)
  have Fw14 := U13.same W14
  have N14 := Fr.snoc X14 N11 g_o0
  have Z14 : n0 ≤ h14.size := Nat.le_trans Z11 (Keep.of_wr W14).1
  have KP14 := KP11.wr W14 (Or.inl (List.mem_of_getElem? (i := 0) rfl))
  refine own_go st14 ?_
  show own_End p e below s (T14.setTop (mkF m 30 #[.val (.ref o0)] [])) _ _ _
  have U15 := (U12.wr W14)
  have U16 := (((((F_front.ext E2).other W5 (Or.inr (slot_ne (Or.inl (hw _ (List.mem_of_getElem? (i := 40) rfl))) (Or.inr (hw _ (List.mem_of_getElem? (i := 12) rfl))) (by decide) (t := .long) (t' := (.array (.array (.object "com/example/appoint/appoint/task/ScheduledTask")))) (by decide) (by decide)))).ext E6).other W11 (Or.inr (slot_ne (Or.inl (hw _ (List.mem_of_getElem? (i := 40) rfl))) (Or.inr (hw _ (List.mem_of_getElem? (i := 15) rfl))) (by decide) (t := .long) (t' := (.array .int)) (by decide) (by decide)))).other W14 (Or.inr (slot_ne (Or.inl (hw _ (List.mem_of_getElem? (i := 40) rfl))) (Or.inl (hw _ (List.mem_of_getElem? (i := 18) rfl))) (by decide) (t := .long) (t' := .long) (by decide) (by decide))))
  have U17 := (((((F_size.ext E2).other W5 (Or.inr (slot_ne (Or.inl (hw _ (List.mem_of_getElem? (i := 47) rfl))) (Or.inr (hw _ (List.mem_of_getElem? (i := 12) rfl))) (by decide) (t := .int) (t' := (.array (.array (.object "com/example/appoint/appoint/task/ScheduledTask")))) (by decide) (by decide)))).ext E6).other W11 (Or.inr (slot_ne (Or.inl (hw _ (List.mem_of_getElem? (i := 47) rfl))) (Or.inr (hw _ (List.mem_of_getElem? (i := 15) rfl))) (by decide) (t := .int) (t' := (.array .int)) (by decide) (by decide)))).other W14 (Or.inr (slot_ne (Or.inl (hw _ (List.mem_of_getElem? (i := 47) rfl))) (Or.inl (hw _ (List.mem_of_getElem? (i := 18) rfl))) (by decide) (t := .int) (t' := .long) (by decide) (by decide))))
  refine own_ret X14 (v := none) (fun _ => rfl) Bd.notSynchronized (fun fs hr => X14.returnOut hx Bd.returns (hb hby d1_30) hr) ?_ (by decide) (by decide)
  · rw [e14]; exact ⟨rfl, N14, KP14, U15, U16, U17⟩
theorem own_pn1 : plainName "com/example/appoint/appoint/queue/TaskHeap" = true := by first | (simp [plainName, overriddenIn]; done) | decide +kernel
theorem own_ef3_rm2 (m : MethodId) (o0 : Addr) : entryFrame m #[(.ref o0)] 1 = mkF m 0 #[.val (.ref o0)] [] := by first | (simp [entryFrame, mkF, argsToLocals, Value.category]; done) | rfl
def Q_rm2 (Z : State) (o0 : Addr)  (h0 : Heap) (n0 : Nat) (v : Option Value) (h : Heap) (L : List Loc) : Prop := v = none ∧ Fr n0 L ∧ Keep h0 h [o0]
theorem d3_0 : decode prog_10_method_1_code 0 = .ok (.aload_n 0, 1) := by decide +kernel
theorem d3_1 : decode prog_10_method_1_code 1 = .ok (.invokespecial 3, 3) := by decide +kernel
theorem d3_4 : decode prog_10_method_1_code 4 = .ok (.aload_n 0, 1) := by decide +kernel
theorem d3_5 : decode prog_10_method_1_code 5 = .ok (.bipush 16, 2) := by decide +kernel
theorem d3_7 : decode prog_10_method_1_code 7 = .ok (.anewarray 11, 3) := by decide +kernel
theorem d3_10 : decode prog_10_method_1_code 10 = .ok (.putfield 13, 3) := by decide +kernel
theorem d3_13 : decode prog_10_method_1_code 13 = .ok (.return_, 1) := by decide +kernel
set_option maxRecDepth 65536 in
set_option maxHeartbeats 40000000 in
theorem rm2 (l : Launch) (Z : State) (a0 : Array Value) (hw : ∀ d ∈ tables_1, d.before a0 Z = true) (ws : List Jvm.Cond) (o0 : Addr)  (h0 : Heap) (n0 : Nat) (Z0 : n0 ≤ h0.size) (g_o0 : n0 ≤ o0) (E_o0 : Exa Z h0 o0 "com/example/appoint/appoint/queue/TaskHeap") (F_tasks : Fld Z h0 o0 "com/example/appoint/appoint/queue/TaskHeap" "tasks" "[Lcom/example/appoint/appoint/task/ScheduledTask;" .null) :
    MetFree l (⟨"com/example/appoint/appoint/queue/TaskHeap", "<init>", "()V"⟩ : MethodName) (head1 (Jvm.Cond.code (⟨"com/example/appoint/appoint/queue/TaskHeap", "<init>", "()V"⟩ : MethodName) prog_10_method_1_code 1 none :: ws) ({ frames := 1, cells := 1, slots := 16, locals := 12 } : Room)) (fun a U => a = #[(.ref o0)] ∧ Z.Warmed39 U.vm ∧ U.heap = h0) (fun _ _ _ _ _ => True) (fun _ U o U' => ∃ v L, o = .returned v ∧ Q_rm2 Z o0  h0 n0 v U'.heap L ∧ FrameEnd U o U' L ({ frames := 1, cells := 1, slots := 16, locals := 12 } : Room).cells ({ frames := 1, cells := 1, slots := 16, locals := 12 } : Room).slots) := by
  refine MetFree.of_bodySF (plainFor_of_name own_pn1) hisR ?_
  intro p e s m args below meth c s₁ Bd hml0 hP hK
  obtain ⟨rfl, hZ, hh⟩ := hP
  have hx := Bd.exec
  have hby := Bd.bytes
  have hml : c.maxLocals = 1 := hml0
  have hown : s.vm.findClass "com/example/appoint/appoint/queue/TaskHeap" = some m.cls := findClass_of_methodNamed Bd.named
  have hnm := (name_of_methodNamed Bd.named Bd.method).1
  have X0 : Stand p l e ({ frames := 1, cells := 1, slots := 16, locals := 12 } : Room) s m #[(.ref o0)] below meth c s₁ [] 0 0 := Stand.of_body Bd
  have e0 : s₁.heap = h0 := by rw [← hh, Bd.state]; rfl
  have N0 := Fr.nil n0
  refine (show own_End p e below s (s₁.setTop (entryFrame m #[(.ref o0)] 1)) (Q_rm2 Z o0  h0 n0) ({ frames := 1, cells := 1, slots := 16, locals := 12 } : Room).cells ({ frames := 1, cells := 1, slots := 16, locals := 12 } : Room).slots from ?_)
  refine own_go (fun t k => castTop (own_ef3_rm2 m o0) k) ?_
  have li0 : (0 : Int32).toInt = 0 := rfl
  have li1 : (1 : Int32).toInt = 1 := rfl
  show own_End p e below s (s₁.setTop (mkF m 0 #[.val (.ref o0)] [])) _ _ _
  refine own_go (fun t k => XS.aloadN X0.here hx rfl (hb hby d3_0) rfl rfl k) ?_
  show own_End p e below s (s₁.setTop (mkF m 1 #[.val (.ref o0)] [(.ref o0)])) _ _ _
  obtain ⟨T1, X1, e1, st1⟩ := initO X0 hx hZ hown (hw _ (List.mem_of_getElem? (i := 25) rfl)) (hw _ (List.mem_of_getElem? (i := 7) rfl)) (hw _ (List.mem_of_getElem? (i := 8) rfl)) e0 (g := (mkF m 1 #[.val (.ref o0)] [(.ref o0)])) rfl (by rw [hml]; rfl) rfl (hb hby d3_1) (by decide) (W := 0) (by show 2 * 0 + _ ≤ _; exact Nat.le_of_eq rfl) (by decide)
  refine own_go st1 ?_
  show own_End p e below s (T1.setTop (mkF m 4 #[.val (.ref o0)] [])) _ _ _
  refine own_go (fun t k => XS.aloadN X1.here hx rfl (hb hby d3_4) rfl rfl k) ?_
  show own_End p e below s (T1.setTop (mkF m 5 #[.val (.ref o0)] [(.ref o0)])) _ _ _
  refine own_go (fun t k => XS.bipush X1.here hx rfl (hb hby d3_5) k) ?_
  show own_End p e below s (T1.setTop (mkF m 7 #[.val (.ref o0)] [(.int (16 : Int32)), (.ref o0)])) _ _ _
  obtain ⟨T2, h2, k2, X2, e2, E2, A2, O2, st2⟩ := newR X1 hx hZ hown (hw _ (List.mem_of_getElem? (i := 26) rfl)) (hw _ (List.mem_of_getElem? (i := 27) rfl)) e1 (g := (mkF m 7 #[.val (.ref o0)] [(.int (16 : Int32)), (.ref o0)])) rfl (hb hby d3_7) rfl (by decide) (cap := 16) (by decide) (by decide) (by decide) (by decide)
  obtain ⟨b2, g2⟩ : ∃ z, z = h0.size := ⟨_, rfl⟩
  rw [← g2] at A2 st2
  have g_b2 : n0 ≤ b2 := Nat.le_trans Z0 (Nat.le_of_eq g2.symm)
  have ne_o0_b2 : o0 ≠ b2 := Nat.ne_of_lt (Nat.lt_of_lt_of_le E_o0.lt (Nat.le_of_eq g2.symm))
  have Z2 : n0 ≤ h2.size := Nat.le_trans Z0 E2.1
  have KP2 := (Keep.refl h0 [o0]).ext E2
  have sz_b2 : h0.size ≤ b2 := Nat.le_trans (Keep.refl h0 [o0]).1 (Nat.le_of_eq g2.symm)
  have V_b2 : Arv Z h2 b2 k2 (.object "com/example/appoint/appoint/task/ScheduledTask") (16 : Int32) [.null, .null, .null, .null, .null, .null, .null, .null, .null, .null, .null, .null, .null, .null, .null, .null] .null := (Arv.new A2 (by decide)).pad (pad_rep [] .null 16)
  refine own_go st2 ?_
  show own_End p e below s (T2.setTop (mkF m 10 #[.val (.ref o0)] [(.ref b2), (.ref o0)])) _ _ _
  have U3 := (E_o0.ext E2)
  have U4 := (F_tasks.ext E2)
  obtain ⟨T5, h5, X5, e5, W5, st5⟩ := putF X2 hx hZ hown (host := "") (Or.inl (hw _ (List.mem_of_getElem? (i := 28) rfl))) Via.refl e2 U4 U3 (Or.inl (hw _ (List.mem_of_getElem? (i := 29) rfl))) (hw _ (List.mem_of_getElem? (i := 20) rfl)) (ty := (.array (.object "com/example/appoint/appoint/task/ScheduledTask"))) (by decide) rfl rfl (g := (mkF m 10 #[.val (.ref o0)] [(.ref b2), (.ref o0)])) rfl rfl (hb hby d3_10)
  have Fw5 := U4.same W5
  have N5 := Fr.snoc X5 N0 g_o0
  have Z5 : n0 ≤ h5.size := Nat.le_trans Z2 (Keep.of_wr W5).1
  have KP5 := KP2.wr W5 (Or.inl (List.mem_of_getElem? (i := 0) rfl))
  refine own_go st5 ?_
  show own_End p e below s (T5.setTop (mkF m 13 #[.val (.ref o0)] [])) _ _ _
  refine own_ret X5 (v := none) (fun _ => rfl) Bd.notSynchronized (fun fs hr => X5.returnOut hx Bd.returns (hb hby d3_13) hr) ?_ (by decide) (by decide)
  · rw [e5]; exact ⟨rfl, N5, KP5⟩
theorem own_ef5_rm3 (m : MethodId) (q0 : Int64) : entryFrame m #[(.long q0)] 2 = mkF m 0 #[.val (.long q0), .second] [] := by first | (simp [entryFrame, mkF, argsToLocals, Value.category]; done) | rfl
def Q_rm3 (Z : State) (q0 : Int64)  (h0 : Heap) (n0 : Nat) (v : Option Value) (h : Heap) (L : List Loc) : Prop := (∃ z, v = some (.long z) ∧ 0 ≤ z.toInt) ∧ Fr n0 L ∧ h = h0
theorem d5_0 : decode prog_13_method_10_code 0 = .ok (.lload_n 0, 1) := by decide +kernel
theorem d5_1 : decode prog_13_method_10_code 1 = .ok (.bipush 22, 2) := by decide +kernel
theorem d5_3 : decode prog_13_method_10_code 3 = .ok (.lushr, 1) := by decide +kernel
theorem d5_4 : decode prog_13_method_10_code 4 = .ok (.lreturn, 1) := by decide +kernel
set_option maxRecDepth 65536 in
set_option maxHeartbeats 40000000 in
theorem rm3 (l : Launch) (Z : State) (a0 : Array Value) (hw : ∀ d ∈ tables_1, d.before a0 Z = true) (ws : List Jvm.Cond) (q0 : Int64)  (h0 : Heap) (n0 : Nat) (Z0 : n0 ≤ h0.size)  :
    MetFree l (⟨"com/example/appoint/appoint/queue/TaskWheel", "spanOf", "(J)J"⟩ : MethodName) (head1 (Jvm.Cond.code (⟨"com/example/appoint/appoint/queue/TaskWheel", "spanOf", "(J)J"⟩ : MethodName) prog_13_method_10_code 2 (some .long) :: ws) ({ frames := 0, cells := 0, slots := 0, locals := 0 } : Room)) (fun a U => a = #[(.long q0)] ∧ Z.Warmed39 U.vm ∧ U.heap = h0) (fun _ _ _ _ _ => True) (fun _ U o U' => ∃ v L, o = .returned v ∧ Q_rm3 Z q0  h0 n0 v U'.heap L ∧ FrameEnd U o U' L ({ frames := 0, cells := 0, slots := 0, locals := 0 } : Room).cells ({ frames := 0, cells := 0, slots := 0, locals := 0 } : Room).slots) := by
  refine MetFree.of_bodySF (plainFor_of_name own_pn0) hisR ?_
  intro p e s m args below meth c s₁ Bd hml0 hP hK
  obtain ⟨rfl, hZ, hh⟩ := hP
  have hx := Bd.exec
  have hby := Bd.bytes
  have hml : c.maxLocals = 2 := hml0
  have hown : s.vm.findClass "com/example/appoint/appoint/queue/TaskWheel" = some m.cls := findClass_of_methodNamed Bd.named
  have hnm := (name_of_methodNamed Bd.named Bd.method).1
  have X0 : Stand p l e ({ frames := 0, cells := 0, slots := 0, locals := 0 } : Room) s m #[(.long q0)] below meth c s₁ [] 0 0 := Stand.of_body Bd
  have e0 : s₁.heap = h0 := by rw [← hh, Bd.state]; rfl
  have N0 := Fr.nil n0
  refine (show own_End p e below s (s₁.setTop (entryFrame m #[(.long q0)] 2)) (Q_rm3 Z q0  h0 n0) ({ frames := 0, cells := 0, slots := 0, locals := 0 } : Room).cells ({ frames := 0, cells := 0, slots := 0, locals := 0 } : Room).slots from ?_)
  refine own_go (fun t k => castTop (own_ef5_rm3 m q0) k) ?_
  have li0 : (0 : Int32).toInt = 0 := rfl
  have li1 : (1 : Int32).toInt = 1 := rfl
  show own_End p e below s (s₁.setTop (mkF m 0 #[.val (.long q0), .second] [])) _ _ _
  refine own_go (fun t k => XS.lloadN X0.here hx rfl (hb hby d5_0) rfl k) ?_
  show own_End p e below s (s₁.setTop (mkF m 1 #[.val (.long q0), .second] [(.long q0)])) _ _ _
  refine own_go (fun t k => XS.bipush X0.here hx rfl (hb hby d5_1) k) ?_
  show own_End p e below s (s₁.setTop (mkF m 3 #[.val (.long q0), .second] [(.int (22 : Int32)), (.long q0)])) _ _ _
  refine own_go (fun t k => XS.lushr X0.here hx rfl (hb hby d5_3) rfl k) ?_
  show own_End p e below s (s₁.setTop (mkF m 4 #[.val (.long q0), .second] [(.long ((q0.toUInt64 >>> ((22 : Int32) &&& 0x3f).toInt64.toUInt64).toInt64))])) _ _ _
  refine own_ret X0 (v := some (.long ((q0.toUInt64 >>> ((22 : Int32) &&& 0x3f).toInt64.toUInt64).toInt64))) (fun h => by rw [Bd.returns] at h; cases h) Bd.notSynchronized (fun fs hr => own_retJ X0 hx Bd.returns (hb hby d5_4) hr) ?_ (by decide) (by decide)
  · have hy := c_lushr q0 (22 : Int32) 22 (by decide) (by decide)
    rw [e0]; exact ⟨⟨_, rfl, by omega⟩, N0, rfl⟩
theorem own_ef4_rm4 (m : MethodId) (o0 : Addr) (q1 : Int64) : entryFrame m #[(.ref o0), (.long q1)] 3 = mkF m 0 #[.val (.ref o0), .val (.long q1), .second] [] := by first | (simp [entryFrame, mkF, argsToLocals, Value.category]; done) | rfl
def Q_rm4 (Z : State) (o0 : Addr) (q1 : Int64)  (h0 : Heap) (n0 : Nat) (v : Option Value) (h : Heap) (L : List Loc) : Prop := v = some (.int 1) ∧ Fr n0 L ∧ h = h0
theorem d4_0 : decode prog_13_method_3_code 0 = .ok (.lload_n 1, 1) := by decide +kernel
theorem d4_1 : decode prog_13_method_3_code 1 = .ok (.invokestatic 33, 3) := by decide +kernel
theorem own_pd0 : parseMethodDescriptor "(J)J" = some ⟨[.long], some .long⟩ := by decide +kernel
theorem d4_4 : decode prog_13_method_3_code 4 = .ok (.aload_n 0, 1) := by decide +kernel
theorem d4_5 : decode prog_13_method_3_code 5 = .ok (.getfield 37, 3) := by decide +kernel
theorem d4_8 : decode prog_13_method_3_code 8 = .ok (.lcmp, 1) := by decide +kernel
theorem d4_9 : decode prog_13_method_3_code 9 = .ok (.ifCond .lt 7, 3) := by decide +kernel
theorem d4_12 : decode prog_13_method_3_code 12 = .ok (.iconst 1, 1) := by decide +kernel
theorem d4_13 : decode prog_13_method_3_code 13 = .ok (.goto 4, 3) := by decide +kernel
theorem d4_17 : decode prog_13_method_3_code 17 = .ok (.ireturn, 1) := by decide +kernel
set_option maxRecDepth 65536 in
set_option maxHeartbeats 40000000 in
theorem rm4 (l : Launch) (Z : State) (a0 : Array Value) (hw : ∀ d ∈ tables_1, d.before a0 Z = true) (ws : List Jvm.Cond) (o0 : Addr) (q1 : Int64)  (h0 : Heap) (n0 : Nat) (Z0 : n0 ≤ h0.size) (F_front : Fld Z h0 o0 "com/example/appoint/appoint/queue/TaskWheel" "front" "J" (.long (0 : Int64))) :
    MetFree l (⟨"com/example/appoint/appoint/queue/TaskWheel", "covers", "(J)Z"⟩ : MethodName) (head1 (Jvm.Cond.code (⟨"com/example/appoint/appoint/queue/TaskWheel", "covers", "(J)Z"⟩ : MethodName) prog_13_method_3_code 3 (some .boolean) :: ws) ({ frames := 1, cells := 0, slots := 0, locals := 13 } : Room)) (fun a U => a = #[(.ref o0), (.long q1)] ∧ Z.Warmed39 U.vm ∧ U.heap = h0) (fun _ _ _ _ _ => True) (fun _ U o U' => ∃ v L, o = .returned v ∧ Q_rm4 Z o0 q1  h0 n0 v U'.heap L ∧ FrameEnd U o U' L ({ frames := 1, cells := 0, slots := 0, locals := 13 } : Room).cells ({ frames := 1, cells := 0, slots := 0, locals := 13 } : Room).slots) := by
  refine MetFree.of_bodySF (plainFor_of_name own_pn0) hisR ?_
  intro p e s m args below meth c s₁ Bd hml0 hP hK
  obtain ⟨rfl, hZ, hh⟩ := hP
  have hx := Bd.exec
  have hby := Bd.bytes
  have hml : c.maxLocals = 3 := hml0
  have hown : s.vm.findClass "com/example/appoint/appoint/queue/TaskWheel" = some m.cls := findClass_of_methodNamed Bd.named
  have hnm := (name_of_methodNamed Bd.named Bd.method).1
  have X0 : Stand p l e ({ frames := 1, cells := 0, slots := 0, locals := 13 } : Room) s m #[(.ref o0), (.long q1)] below meth c s₁ [] 0 0 := Stand.of_body Bd
  have e0 : s₁.heap = h0 := by rw [← hh, Bd.state]; rfl
  have N0 := Fr.nil n0
  refine (show own_End p e below s (s₁.setTop (entryFrame m #[(.ref o0), (.long q1)] 3)) (Q_rm4 Z o0 q1  h0 n0) ({ frames := 1, cells := 0, slots := 0, locals := 13 } : Room).cells ({ frames := 1, cells := 0, slots := 0, locals := 13 } : Room).slots from ?_)
  refine own_go (fun t k => castTop (own_ef4_rm4 m o0 q1) k) ?_
  have li0 : (0 : Int32).toInt = 0 := rfl
  have li1 : (1 : Int32).toInt = 1 := rfl
  show own_End p e below s (s₁.setTop (mkF m 0 #[.val (.ref o0), .val (.long q1), .second] [])) _ _ _
  refine own_go (fun t k => XS.lloadN X0.here hx rfl (hb hby d4_0) rfl k) ?_
  show own_End p e below s (s₁.setTop (mkF m 1 #[.val (.ref o0), .val (.long q1), .second] [(.long q1)])) _ _ _
  obtain ⟨_, _, ⟨T1, L1, k1, n1⟩, -, X1, ⟨Lc1, hQ1, l1, y1, z1⟩, st1⟩ := Jvm.LawKit.callS X0 hx (y := (⟨"com/example/appoint/appoint/queue/TaskWheel", "spanOf", "(J)J"⟩ : MethodName)) hown (mvT hZ (hw _ (List.mem_of_getElem? (i := 36) rfl))) (mvT hZ (hw _ (List.mem_of_getElem? (i := 37) rfl))) (mvT hZ (hw _ (List.mem_of_getElem? (i := 2) rfl))) (mvT hZ (hw _ (List.mem_of_getElem? (i := 38) rfl))) (by decide) (backOf (W := 0) (rm3 l Z a0 hw [] q1 h0 n0 Z0) hZ (hw _ (List.mem_of_getElem? (i := 38) rfl)) (hw _ (List.mem_of_getElem? (i := 2) rfl)) (by decide) (by decide)) (g := (mkF m 1 #[.val (.ref o0), .val (.long q1), .second] [(.long q1)])) rfl (by rw [hml]; rfl) (argsL := [(.long q1)]) (rest := []) (lenOf own_pd0 rfl) rfl (by show 2 * 0 + _ ≤ _; exact Nat.le_of_eq rfl) (hb hby d4_1) (fun _ _ => ⟨rfl, e0, (by decide : 0 + 0 ≤ _), (by decide : 0 + 0 ≤ _)⟩)
  dsimp only [Pt.U, Pt.locs, Pt.cells, Pt.slots] at X1 l1 y1 z1 st1 hQ1
  subst l1 y1 z1
  obtain ⟨⟨r1, rfl, hr1⟩, N1q, e1⟩ := hQ1
  have N1 := Fr.app N0 N1q
  refine own_go st1 ?_
  show own_End p e below s (T1.setTop (mkF m 4 #[.val (.ref o0), .val (.long q1), .second] [(.long r1)])) _ _ _
  refine own_go (fun t k => XS.aloadN X1.here hx rfl (hb hby d4_4) rfl rfl k) ?_
  show own_End p e below s (T1.setTop (mkF m 5 #[.val (.ref o0), .val (.long q1), .second] [(.ref o0), (.long r1)])) _ _ _
  obtain ⟨T2, X2, e2, st2⟩ := getF X1 hx hZ hown (host := "") (Or.inl (hw _ (List.mem_of_getElem? (i := 39) rfl))) Via.refl e1 F_front (g := (mkF m 5 #[.val (.ref o0), .val (.long q1), .second] [(.ref o0), (.long r1)])) rfl rfl (hb hby d4_5)
  refine own_go st2 ?_
  show own_End p e below s (T2.setTop (mkF m 8 #[.val (.ref o0), .val (.long q1), .second] [(.long (0 : Int64)), (.long r1)])) _ _ _
  refine own_go (fun t k => XS.lcmp X2.here hx rfl (hb hby d4_8) rfl k) ?_
  show own_End p e below s (T2.setTop (mkF m 9 #[.val (.ref o0), .val (.long q1), .second] [(.int (lcmpW r1 (0 : Int64)))])) _ _ _
  refine own_go (fun t k => XS.ifNo X2.here hx rfl (hb hby d4_9) rfl ((if0 _ _).trans (own_Llf (x := r1) (y := (0 : Int64)) (i := r1.toInt) (j := 0) rfl rfl (by omega)).1) k) ?_
  show own_End p e below s (T2.setTop (mkF m 12 #[.val (.ref o0), .val (.long q1), .second] [])) _ _ _
  refine own_go (fun t k => XS.iconst X2.here hx rfl (hb hby d4_12) k) ?_
  show own_End p e below s (T2.setTop (mkF m 13 #[.val (.ref o0), .val (.long q1), .second] [(.int (1 : Int32))])) _ _ _
  refine own_go (fun t k => XS.goto X2.here hx rfl (pc0 := 13) (pc' := 17) rfl (hb hby d4_13) (by decide) (by decide) k) ?_
  show own_End p e below s (T2.setTop (mkF m 17 #[.val (.ref o0), .val (.long q1), .second] [(.int (1 : Int32))])) _ _ _
  refine own_ret X2 (v := some (.int (1 : Int32))) (fun h => by rw [Bd.returns] at h; cases h) Bd.notSynchronized (fun fs hr => retN X2 hx (t := .boolean) Bd.returns (by simp) (hb hby d4_17) hr) ?_ (by decide) (by decide)
  · rw [e2]; exact ⟨rfl, N1, rfl⟩
theorem own_ef6_rm5 (m : MethodId) (o0 : Addr) : entryFrame m #[(.ref o0)] 1 = mkF m 0 #[.val (.ref o0)] [] := by first | (simp [entryFrame, mkF, argsToLocals, Value.category]; done) | rfl
def Q_rm5 (Z : State) (o0 : Addr)  (h0 : Heap) (n0 : Nat) (v : Option Value) (h : Heap) (L : List Loc) : Prop := v = some (.int 0) ∧ Fr n0 L ∧ h = h0
theorem d6_0 : decode prog_13_method_2_code 0 = .ok (.aload_n 0, 1) := by decide +kernel
theorem d6_1 : decode prog_13_method_2_code 1 = .ok (.getfield 29, 3) := by decide +kernel
theorem d6_4 : decode prog_13_method_2_code 4 = .ok (.ireturn, 1) := by decide +kernel
set_option maxRecDepth 65536 in
set_option maxHeartbeats 40000000 in
theorem rm5 (l : Launch) (Z : State) (a0 : Array Value) (hw : ∀ d ∈ tables_1, d.before a0 Z = true) (ws : List Jvm.Cond) (o0 : Addr)  (h0 : Heap) (n0 : Nat) (Z0 : n0 ≤ h0.size) (F_size : Fld Z h0 o0 "com/example/appoint/appoint/queue/TaskWheel" "size" "I" (.int (0 : Int32))) :
    MetFree l (⟨"com/example/appoint/appoint/queue/TaskWheel", "size", "()I"⟩ : MethodName) (head1 (Jvm.Cond.code (⟨"com/example/appoint/appoint/queue/TaskWheel", "size", "()I"⟩ : MethodName) prog_13_method_2_code 1 (some .int) :: ws) ({ frames := 0, cells := 0, slots := 0, locals := 0 } : Room)) (fun a U => a = #[(.ref o0)] ∧ Z.Warmed39 U.vm ∧ U.heap = h0) (fun _ _ _ _ _ => True) (fun _ U o U' => ∃ v L, o = .returned v ∧ Q_rm5 Z o0  h0 n0 v U'.heap L ∧ FrameEnd U o U' L ({ frames := 0, cells := 0, slots := 0, locals := 0 } : Room).cells ({ frames := 0, cells := 0, slots := 0, locals := 0 } : Room).slots) := by
  refine MetFree.of_bodySF (plainFor_of_name own_pn0) hisR ?_
  intro p e s m args below meth c s₁ Bd hml0 hP hK
  obtain ⟨rfl, hZ, hh⟩ := hP
  have hx := Bd.exec
  have hby := Bd.bytes
  have hml : c.maxLocals = 1 := hml0
  have hown : s.vm.findClass "com/example/appoint/appoint/queue/TaskWheel" = some m.cls := findClass_of_methodNamed Bd.named
  have hnm := (name_of_methodNamed Bd.named Bd.method).1
  have X0 : Stand p l e ({ frames := 0, cells := 0, slots := 0, locals := 0 } : Room) s m #[(.ref o0)] below meth c s₁ [] 0 0 := Stand.of_body Bd
  have e0 : s₁.heap = h0 := by rw [← hh, Bd.state]; rfl
  have N0 := Fr.nil n0
  refine (show own_End p e below s (s₁.setTop (entryFrame m #[(.ref o0)] 1)) (Q_rm5 Z o0  h0 n0) ({ frames := 0, cells := 0, slots := 0, locals := 0 } : Room).cells ({ frames := 0, cells := 0, slots := 0, locals := 0 } : Room).slots from ?_)
  refine own_go (fun t k => castTop (own_ef6_rm5 m o0) k) ?_
  have li0 : (0 : Int32).toInt = 0 := rfl
  have li1 : (1 : Int32).toInt = 1 := rfl
  show own_End p e below s (s₁.setTop (mkF m 0 #[.val (.ref o0)] [])) _ _ _
  refine own_go (fun t k => XS.aloadN X0.here hx rfl (hb hby d6_0) rfl rfl k) ?_
  show own_End p e below s (s₁.setTop (mkF m 1 #[.val (.ref o0)] [(.ref o0)])) _ _ _
  obtain ⟨T1, X1, e1, st1⟩ := getF X0 hx hZ hown (host := "") (Or.inl (hw _ (List.mem_of_getElem? (i := 46) rfl))) Via.refl e0 F_size (g := (mkF m 1 #[.val (.ref o0)] [(.ref o0)])) rfl rfl (hb hby d6_1)
  refine own_go st1 ?_
  show own_End p e below s (T1.setTop (mkF m 4 #[.val (.ref o0)] [(.int (0 : Int32))])) _ _ _
  refine own_ret X1 (v := some (.int (0 : Int32))) (fun h => by rw [Bd.returns] at h; cases h) Bd.notSynchronized (fun fs hr => retI X1 hx Bd.returns (hb hby d6_4) hr) ?_ (by decide) (by decide)
  · rw [e1]; exact ⟨rfl, N0, rfl⟩
theorem own_ef8_rm6 (m : MethodId) (o0 : Addr) (o1 : Addr) (q2 : Int64) : entryFrame m #[(.ref o0), (.ref o1), (.long q2)] 9 = mkF m 0 #[.val (.ref o0), .val (.ref o1), .val (.long q2), .second, .unset, .unset, .unset, .unset, .unset] [] := by first | (simp [entryFrame, mkF, argsToLocals, Value.category]; done) | rfl
def Q_rm6 (Z : State) (o0 : Addr) (o1 : Addr) (q2 : Int64)  (h0 : Heap) (n0 : Nat) (v : Option Value) (h : Heap) (L : List Loc) : Prop := v = some (.int 0) ∧ Fr n0 L ∧ h = h0
theorem d8_0 : decode prog_13_method_12_code 0 = .ok (.aload_n 0, 1) := by decide +kernel
theorem d8_1 : decode prog_13_method_12_code 1 = .ok (.getfield 29, 3) := by decide +kernel
theorem d8_4 : decode prog_13_method_12_code 4 = .ok (.ifCond .ne 5, 3) := by decide +kernel
theorem d8_7 : decode prog_13_method_12_code 7 = .ok (.iconst 0, 1) := by decide +kernel
theorem d8_8 : decode prog_13_method_12_code 8 = .ok (.ireturn, 1) := by decide +kernel
set_option maxRecDepth 65536 in
set_option maxHeartbeats 40000000 in
theorem rm6 (l : Launch) (Z : State) (a0 : Array Value) (hw : ∀ d ∈ tables_1, d.before a0 Z = true) (ws : List Jvm.Cond) (o0 : Addr) (o1 : Addr) (q2 : Int64)  (h0 : Heap) (n0 : Nat) (Z0 : n0 ≤ h0.size) (F_size : Fld Z h0 o0 "com/example/appoint/appoint/queue/TaskWheel" "size" "I" (.int (0 : Int32))) :
    MetFree l (⟨"com/example/appoint/appoint/queue/TaskWheel", "pull", "(Lcom/example/appoint/appoint/queue/TaskHeap;J)Z"⟩ : MethodName) (head1 (Jvm.Cond.code (⟨"com/example/appoint/appoint/queue/TaskWheel", "pull", "(Lcom/example/appoint/appoint/queue/TaskHeap;J)Z"⟩ : MethodName) prog_13_method_12_code 9 (some .boolean) :: ws) ({ frames := 0, cells := 0, slots := 0, locals := 0 } : Room)) (fun a U => a = #[(.ref o0), (.ref o1), (.long q2)] ∧ Z.Warmed39 U.vm ∧ U.heap = h0) (fun _ _ _ _ _ => True) (fun _ U o U' => ∃ v L, o = .returned v ∧ Q_rm6 Z o0 o1 q2  h0 n0 v U'.heap L ∧ FrameEnd U o U' L ({ frames := 0, cells := 0, slots := 0, locals := 0 } : Room).cells ({ frames := 0, cells := 0, slots := 0, locals := 0 } : Room).slots) := by
  refine MetFree.of_bodySF (plainFor_of_name own_pn0) hisR ?_
  intro p e s m args below meth c s₁ Bd hml0 hP hK
  obtain ⟨rfl, hZ, hh⟩ := hP
  have hx := Bd.exec
  have hby := Bd.bytes
  have hml : c.maxLocals = 9 := hml0
  have hown : s.vm.findClass "com/example/appoint/appoint/queue/TaskWheel" = some m.cls := findClass_of_methodNamed Bd.named
  have hnm := (name_of_methodNamed Bd.named Bd.method).1
  have X0 : Stand p l e ({ frames := 0, cells := 0, slots := 0, locals := 0 } : Room) s m #[(.ref o0), (.ref o1), (.long q2)] below meth c s₁ [] 0 0 := Stand.of_body Bd
  have e0 : s₁.heap = h0 := by rw [← hh, Bd.state]; rfl
  have N0 := Fr.nil n0
  refine (show own_End p e below s (s₁.setTop (entryFrame m #[(.ref o0), (.ref o1), (.long q2)] 9)) (Q_rm6 Z o0 o1 q2  h0 n0) ({ frames := 0, cells := 0, slots := 0, locals := 0 } : Room).cells ({ frames := 0, cells := 0, slots := 0, locals := 0 } : Room).slots from ?_)
  refine own_go (fun t k => castTop (own_ef8_rm6 m o0 o1 q2) k) ?_
  have li0 : (0 : Int32).toInt = 0 := rfl
  have li1 : (1 : Int32).toInt = 1 := rfl
  show own_End p e below s (s₁.setTop (mkF m 0 #[.val (.ref o0), .val (.ref o1), .val (.long q2), .second, .unset, .unset, .unset, .unset, .unset] [])) _ _ _
  refine own_go (fun t k => XS.aloadN X0.here hx rfl (hb hby d8_0) rfl rfl k) ?_
  show own_End p e below s (s₁.setTop (mkF m 1 #[.val (.ref o0), .val (.ref o1), .val (.long q2), .second, .unset, .unset, .unset, .unset, .unset] [(.ref o0)])) _ _ _
  obtain ⟨T1, X1, e1, st1⟩ := getF X0 hx hZ hown (host := "") (Or.inl (hw _ (List.mem_of_getElem? (i := 46) rfl))) Via.refl e0 F_size (g := (mkF m 1 #[.val (.ref o0), .val (.ref o1), .val (.long q2), .second, .unset, .unset, .unset, .unset, .unset] [(.ref o0)])) rfl rfl (hb hby d8_1)
  refine own_go st1 ?_
  show own_End p e below s (T1.setTop (mkF m 4 #[.val (.ref o0), .val (.ref o1), .val (.long q2), .second, .unset, .unset, .unset, .unset, .unset] [(.int (0 : Int32))])) _ _ _
  refine own_go (fun t k => XS.ifNo X1.here hx rfl (hb hby d8_4) rfl ((if0 _ _).trans (own_eq (x := (0 : Int32)) (y := (0 : Int32)) (i := 0) (j := 0) rfl rfl (by decide)).2) k) ?_
  show own_End p e below s (T1.setTop (mkF m 7 #[.val (.ref o0), .val (.ref o1), .val (.long q2), .second, .unset, .unset, .unset, .unset, .unset] [])) _ _ _
  refine own_go (fun t k => XS.iconst X1.here hx rfl (hb hby d8_7) k) ?_
  show own_End p e below s (T1.setTop (mkF m 8 #[.val (.ref o0), .val (.ref o1), .val (.long q2), .second, .unset, .unset, .unset, .unset, .unset] [(.int (0 : Int32))])) _ _ _
  refine own_ret X1 (v := some (.int (0 : Int32))) (fun h => by rw [Bd.returns] at h; cases h) Bd.notSynchronized (fun fs hr => retN X1 hx (t := .boolean) Bd.returns (by simp) (hb hby d8_8) hr) ?_ (by decide) (by decide)
  · rw [e1]; exact ⟨rfl, N0, rfl⟩
theorem own_ef9_rm7 (m : MethodId) (q0 : Int64) (q1 : Int64) : entryFrame m #[(.long q0), (.long q1)] 4 = mkF m 0 #[.val (.long q0), .second, .val (.long q1), .second] [] := by first | (simp [entryFrame, mkF, argsToLocals, Value.category]; done) | rfl
def Q_rm7 (Z : State) (q0 : Int64) (q1 : Int64)  (h0 : Heap) (n0 : Nat) (v : Option Value) (h : Heap) (L : List Loc) : Prop := v = some (.long q0) ∧ Fr n0 L ∧ h = h0
theorem d9_0 : decode jdk_29_method_70_code 0 = .ok (.lload_n 0, 1) := by decide +kernel
theorem d9_1 : decode jdk_29_method_70_code 1 = .ok (.lload_n 2, 1) := by decide +kernel
theorem d9_2 : decode jdk_29_method_70_code 2 = .ok (.lcmp, 1) := by decide +kernel
theorem d9_3 : decode jdk_29_method_70_code 3 = .ok (.ifCond .gt 7, 3) := by decide +kernel
theorem d9_6 : decode jdk_29_method_70_code 6 = .ok (.lload_n 0, 1) := by decide +kernel
theorem d9_7 : decode jdk_29_method_70_code 7 = .ok (.goto 4, 3) := by decide +kernel
theorem d9_11 : decode jdk_29_method_70_code 11 = .ok (.lreturn, 1) := by decide +kernel
set_option maxRecDepth 65536 in
set_option maxHeartbeats 40000000 in
theorem rm7 (l : Launch) (Z : State) (a0 : Array Value) (hw : ∀ d ∈ tables_1, d.before a0 Z = true) (ws : List Jvm.Cond) (q0 : Int64) (q1 : Int64)  (h0 : Heap) (n0 : Nat) (Z0 : n0 ≤ h0.size) (hle : ¬ q1.toInt < q0.toInt) :
    MetFree l (⟨"java/lang/Math", "min", "(JJ)J"⟩ : MethodName) (head1 (Jvm.Cond.code (⟨"java/lang/Math", "min", "(JJ)J"⟩ : MethodName) jdk_29_method_70_code 4 (some .long) :: ws) ({ frames := 0, cells := 0, slots := 0, locals := 0 } : Room)) (fun a U => a = #[(.long q0), (.long q1)] ∧ Z.Warmed39 U.vm ∧ U.heap = h0) (fun _ _ _ _ _ => True) (fun _ U o U' => ∃ v L, o = .returned v ∧ Q_rm7 Z q0 q1  h0 n0 v U'.heap L ∧ FrameEnd U o U' L ({ frames := 0, cells := 0, slots := 0, locals := 0 } : Room).cells ({ frames := 0, cells := 0, slots := 0, locals := 0 } : Room).slots) := by
  refine MetFree.of_bodySF (Jvm.Free.JP.mathPlain rfl (by decide +kernel)) hisR ?_
  intro p e s m args below meth c s₁ Bd hml0 hP hK
  obtain ⟨rfl, hZ, hh⟩ := hP
  have hx := Bd.exec
  have hby := Bd.bytes
  have hml : c.maxLocals = 4 := hml0
  have hown : s.vm.findClass "java/lang/Math" = some m.cls := findClass_of_methodNamed Bd.named
  have hnm := (name_of_methodNamed Bd.named Bd.method).1
  have X0 : Stand p l e ({ frames := 0, cells := 0, slots := 0, locals := 0 } : Room) s m #[(.long q0), (.long q1)] below meth c s₁ [] 0 0 := Stand.of_body Bd
  have e0 : s₁.heap = h0 := by rw [← hh, Bd.state]; rfl
  have N0 := Fr.nil n0
  refine (show own_End p e below s (s₁.setTop (entryFrame m #[(.long q0), (.long q1)] 4)) (Q_rm7 Z q0 q1  h0 n0) ({ frames := 0, cells := 0, slots := 0, locals := 0 } : Room).cells ({ frames := 0, cells := 0, slots := 0, locals := 0 } : Room).slots from ?_)
  refine own_go (fun t k => castTop (own_ef9_rm7 m q0 q1) k) ?_
  have li0 : (0 : Int32).toInt = 0 := rfl
  have li1 : (1 : Int32).toInt = 1 := rfl
  show own_End p e below s (s₁.setTop (mkF m 0 #[.val (.long q0), .second, .val (.long q1), .second] [])) _ _ _
  refine own_go (fun t k => XS.lloadN X0.here hx rfl (hb hby d9_0) rfl k) ?_
  show own_End p e below s (s₁.setTop (mkF m 1 #[.val (.long q0), .second, .val (.long q1), .second] [(.long q0)])) _ _ _
  refine own_go (fun t k => XS.lloadN X0.here hx rfl (hb hby d9_1) rfl k) ?_
  show own_End p e below s (s₁.setTop (mkF m 2 #[.val (.long q0), .second, .val (.long q1), .second] [(.long q1), (.long q0)])) _ _ _
  refine own_go (fun t k => XS.lcmp X0.here hx rfl (hb hby d9_2) rfl k) ?_
  show own_End p e below s (s₁.setTop (mkF m 3 #[.val (.long q0), .second, .val (.long q1), .second] [(.int (lcmpW q0 q1))])) _ _ _
  refine own_go (fun t k => XS.ifNo X0.here hx rfl (hb hby d9_3) rfl ((if0 _ _).trans (own_Lgf (x := q0) (y := q1) (i := q0.toInt) (j := q1.toInt) rfl rfl hle).2.2.1) k) ?_
  show own_End p e below s (s₁.setTop (mkF m 6 #[.val (.long q0), .second, .val (.long q1), .second] [])) _ _ _
  refine own_go (fun t k => XS.lloadN X0.here hx rfl (hb hby d9_6) rfl k) ?_
  show own_End p e below s (s₁.setTop (mkF m 7 #[.val (.long q0), .second, .val (.long q1), .second] [(.long q0)])) _ _ _
  refine own_go (fun t k => XS.goto X0.here hx rfl (pc0 := 7) (pc' := 11) rfl (hb hby d9_7) (by decide) (by decide) k) ?_
  show own_End p e below s (s₁.setTop (mkF m 11 #[.val (.long q0), .second, .val (.long q1), .second] [(.long q0)])) _ _ _
  refine own_ret X0 (v := some (.long q0)) (fun h => by rw [Bd.returns] at h; cases h) Bd.notSynchronized (fun fs hr => own_retJ X0 hx Bd.returns (hb hby d9_11) hr) ?_ (by decide) (by decide)
  · rw [e0]; exact ⟨rfl, N0, rfl⟩
theorem own_ef7_rm8 (m : MethodId) (o0 : Addr) (o1 : Addr) (q2 : Int64) : entryFrame m #[(.ref o0), (.ref o1), (.long q2)] 6 = mkF m 0 #[.val (.ref o0), .val (.ref o1), .val (.long q2), .second, .unset, .unset] [] := by first | (simp [entryFrame, mkF, argsToLocals, Value.category]; done) | rfl
def Q_rm8 (Z : State) (o0 : Addr) (o1 : Addr) (q2 : Int64)  (h0 : Heap) (n0 : Nat) (v : Option Value) (h : Heap) (L : List Loc) : Prop := v = some (.int 0) ∧ Fr n0 L ∧ Keep h0 h [o0] ∧ Exa Z h o0 "com/example/appoint/appoint/queue/TaskWheel" ∧ Fld Z h o0 "com/example/appoint/appoint/queue/TaskWheel" "front" "J" (.long (0 : Int64)) ∧ Fld Z h o0 "com/example/appoint/appoint/queue/TaskWheel" "size" "I" (.int (0 : Int32))
theorem d7_0 : decode prog_13_method_6_code 0 = .ok (.lload_n 2, 1) := by decide +kernel
theorem d7_1 : decode prog_13_method_6_code 1 = .ok (.invokestatic 33, 3) := by decide +kernel
theorem d7_4 : decode prog_13_method_6_code 4 = .ok (.lstore 4, 2) := by decide +kernel
theorem d7_6 : decode prog_13_method_6_code 6 = .ok (.aload_n 0, 1) := by decide +kernel
theorem d7_7 : decode prog_13_method_6_code 7 = .ok (.aload_n 1, 1) := by decide +kernel
theorem d7_8 : decode prog_13_method_6_code 8 = .ok (.lload 4, 2) := by decide +kernel
theorem d7_10 : decode prog_13_method_6_code 10 = .ok (.ldc2_w 74, 3) := by decide +kernel
theorem d7_13 : decode prog_13_method_6_code 13 = .ok (.ladd, 1) := by decide +kernel
theorem d7_14 : decode prog_13_method_6_code 14 = .ok (.lconst 1, 1) := by decide +kernel
theorem d7_15 : decode prog_13_method_6_code 15 = .ok (.lsub, 1) := by decide +kernel
theorem d7_16 : decode prog_13_method_6_code 16 = .ok (.invokevirtual 76, 3) := by decide +kernel
theorem own_pd1 : parseMethodDescriptor "(Lcom/example/appoint/appoint/queue/TaskHeap;J)Z" = some ⟨[(.object "com/example/appoint/appoint/queue/TaskHeap"), .long], some .boolean⟩ := by decide +kernel
theorem d7_19 : decode prog_13_method_6_code 19 = .ok (.ifCond .eq 5, 3) := by decide +kernel
theorem d7_24 : decode prog_13_method_6_code 24 = .ok (.aload_n 0, 1) := by decide +kernel
theorem d7_25 : decode prog_13_method_6_code 25 = .ok (.aload_n 0, 1) := by decide +kernel
theorem d7_26 : decode prog_13_method_6_code 26 = .ok (.getfield 37, 3) := by decide +kernel
theorem d7_29 : decode prog_13_method_6_code 29 = .ok (.lload 4, 2) := by decide +kernel
theorem d7_31 : decode prog_13_method_6_code 31 = .ok (.invokestatic 58, 3) := by decide +kernel
theorem own_pd2 : parseMethodDescriptor "(JJ)J" = some ⟨[.long, .long], some .long⟩ := by decide +kernel
theorem d7_34 : decode prog_13_method_6_code 34 = .ok (.putfield 37, 3) := by decide +kernel
theorem d7_37 : decode prog_13_method_6_code 37 = .ok (.iconst 0, 1) := by decide +kernel
theorem d7_38 : decode prog_13_method_6_code 38 = .ok (.ireturn, 1) := by decide +kernel
set_option maxRecDepth 65536 in
set_option maxHeartbeats 40000000 in
theorem rm8 (l : Launch) (Z : State) (a0 : Array Value) (hw : ∀ d ∈ tables_1, d.before a0 Z = true) (ws : List Jvm.Cond) (o0 : Addr) (o1 : Addr) (q2 : Int64)  (h0 : Heap) (n0 : Nat) (Z0 : n0 ≤ h0.size) (g_o0 : n0 ≤ o0) (E_o0 : Exa Z h0 o0 "com/example/appoint/appoint/queue/TaskWheel") (F_front : Fld Z h0 o0 "com/example/appoint/appoint/queue/TaskWheel" "front" "J" (.long (0 : Int64))) (F_size : Fld Z h0 o0 "com/example/appoint/appoint/queue/TaskWheel" "size" "I" (.int (0 : Int32))) :
    MetFree l (⟨"com/example/appoint/appoint/queue/TaskWheel", "pullNear", "(Lcom/example/appoint/appoint/queue/TaskHeap;J)Z"⟩ : MethodName) (head1 (Jvm.Cond.code (⟨"com/example/appoint/appoint/queue/TaskWheel", "pullNear", "(Lcom/example/appoint/appoint/queue/TaskHeap;J)Z"⟩ : MethodName) prog_13_method_6_code 6 (some .boolean) :: ws) ({ frames := 1, cells := 0, slots := 0, locals := 20 } : Room)) (fun a U => a = #[(.ref o0), (.ref o1), (.long q2)] ∧ Z.Warmed39 U.vm ∧ U.heap = h0) (fun _ _ _ _ _ => True) (fun _ U o U' => ∃ v L, o = .returned v ∧ Q_rm8 Z o0 o1 q2  h0 n0 v U'.heap L ∧ FrameEnd U o U' L ({ frames := 1, cells := 0, slots := 0, locals := 20 } : Room).cells ({ frames := 1, cells := 0, slots := 0, locals := 20 } : Room).slots) := by
  refine MetFree.of_bodySF (plainFor_of_name own_pn0) hisR ?_
  intro p e s m args below meth c s₁ Bd hml0 hP hK
  obtain ⟨rfl, hZ, hh⟩ := hP
  have hx := Bd.exec
  have hby := Bd.bytes
  have hml : c.maxLocals = 6 := hml0
  have hown : s.vm.findClass "com/example/appoint/appoint/queue/TaskWheel" = some m.cls := findClass_of_methodNamed Bd.named
  have hnm := (name_of_methodNamed Bd.named Bd.method).1
  have X0 : Stand p l e ({ frames := 1, cells := 0, slots := 0, locals := 20 } : Room) s m #[(.ref o0), (.ref o1), (.long q2)] below meth c s₁ [] 0 0 := Stand.of_body Bd
  have e0 : s₁.heap = h0 := by rw [← hh, Bd.state]; rfl
  have N0 := Fr.nil n0
  refine (show own_End p e below s (s₁.setTop (entryFrame m #[(.ref o0), (.ref o1), (.long q2)] 6)) (Q_rm8 Z o0 o1 q2  h0 n0) ({ frames := 1, cells := 0, slots := 0, locals := 20 } : Room).cells ({ frames := 1, cells := 0, slots := 0, locals := 20 } : Room).slots from ?_)
  refine own_go (fun t k => castTop (own_ef7_rm8 m o0 o1 q2) k) ?_
  have li0 : (0 : Int32).toInt = 0 := rfl
  have li1 : (1 : Int32).toInt = 1 := rfl
  show own_End p e below s (s₁.setTop (mkF m 0 #[.val (.ref o0), .val (.ref o1), .val (.long q2), .second, .unset, .unset] [])) _ _ _
  refine own_go (fun t k => XS.lloadN X0.here hx rfl (hb hby d7_0) rfl k) ?_
  show own_End p e below s (s₁.setTop (mkF m 1 #[.val (.ref o0), .val (.ref o1), .val (.long q2), .second, .unset, .unset] [(.long q2)])) _ _ _
  obtain ⟨_, _, ⟨T1, L1, k1, n1⟩, -, X1, ⟨Lc1, hQ1, l1, y1, z1⟩, st1⟩ := Jvm.LawKit.callS X0 hx (y := (⟨"com/example/appoint/appoint/queue/TaskWheel", "spanOf", "(J)J"⟩ : MethodName)) hown (mvT hZ (hw _ (List.mem_of_getElem? (i := 36) rfl))) (mvT hZ (hw _ (List.mem_of_getElem? (i := 37) rfl))) (mvT hZ (hw _ (List.mem_of_getElem? (i := 2) rfl))) (mvT hZ (hw _ (List.mem_of_getElem? (i := 38) rfl))) (by decide) (backOf (W := 0) (rm3 l Z a0 hw [] q2 h0 n0 Z0) hZ (hw _ (List.mem_of_getElem? (i := 38) rfl)) (hw _ (List.mem_of_getElem? (i := 2) rfl)) (by decide) (by decide)) (g := (mkF m 1 #[.val (.ref o0), .val (.ref o1), .val (.long q2), .second, .unset, .unset] [(.long q2)])) rfl (by rw [hml]; rfl) (argsL := [(.long q2)]) (rest := []) (lenOf own_pd0 rfl) rfl (by show 2 * 0 + _ ≤ _; exact Nat.le_of_eq rfl) (hb hby d7_1) (fun _ _ => ⟨rfl, e0, (by decide : 0 + 0 ≤ _), (by decide : 0 + 0 ≤ _)⟩)
  dsimp only [Pt.U, Pt.locs, Pt.cells, Pt.slots] at X1 l1 y1 z1 st1 hQ1
  subst l1 y1 z1
  obtain ⟨⟨r1, rfl, hr1⟩, N1q, e1⟩ := hQ1
  have N1 := Fr.app N0 N1q
  refine own_go st1 ?_
  show own_End p e below s (T1.setTop (mkF m 4 #[.val (.ref o0), .val (.ref o1), .val (.long q2), .second, .unset, .unset] [(.long r1)])) _ _ _
  refine own_go (fun t k => XS.lstore X1.here hx rfl (hb hby d7_4) rfl (l' := #[.val (.ref o0), .val (.ref o1), .val (.long q2), .second, .val (.long r1), .second]) rfl k) ?_
  show own_End p e below s (T1.setTop (mkF m 6 #[.val (.ref o0), .val (.ref o1), .val (.long q2), .second, .val (.long r1), .second] [])) _ _ _
  refine own_go (fun t k => XS.aloadN X1.here hx rfl (hb hby d7_6) rfl rfl k) ?_
  show own_End p e below s (T1.setTop (mkF m 7 #[.val (.ref o0), .val (.ref o1), .val (.long q2), .second, .val (.long r1), .second] [(.ref o0)])) _ _ _
  refine own_go (fun t k => XS.aloadN X1.here hx rfl (hb hby d7_7) rfl rfl k) ?_
  show own_End p e below s (T1.setTop (mkF m 8 #[.val (.ref o0), .val (.ref o1), .val (.long q2), .second, .val (.long r1), .second] [(.ref o1), (.ref o0)])) _ _ _
  refine own_go (fun t k => XS.lload X1.here hx rfl (hb hby d7_8) rfl k) ?_
  show own_End p e below s (T1.setTop (mkF m 10 #[.val (.ref o0), .val (.ref o1), .val (.long q2), .second, .val (.long r1), .second] [(.long r1), (.ref o1), (.ref o0)])) _ _ _
  refine own_go (fun t k => X1.ldc2Long hx hown (mvT hZ (hw _ (List.mem_of_getElem? (i := 54) rfl))) (g := (mkF m 10 #[.val (.ref o0), .val (.ref o1), .val (.long q2), .second, .val (.long r1), .second] [(.long r1), (.ref o1), (.ref o0)])) rfl (hb hby d7_10) _ k) ?_
  show own_End p e below s (T1.setTop (mkF m 13 #[.val (.ref o0), .val (.ref o1), .val (.long q2), .second, .val (.long r1), .second] [(.long (1024 : Int64)), (.long r1), (.ref o1), (.ref o0)])) _ _ _
  refine own_go (fun t k => XS.ladd X1.here hx rfl (hb hby d7_13) rfl k) ?_
  show own_End p e below s (T1.setTop (mkF m 14 #[.val (.ref o0), .val (.ref o1), .val (.long q2), .second, .val (.long r1), .second] [(.long (r1 + (1024 : Int64))), (.ref o1), (.ref o0)])) _ _ _
  refine own_go (fun t k => XS.lconst X1.here hx rfl (hb hby d7_14) k) ?_
  show own_End p e below s (T1.setTop (mkF m 15 #[.val (.ref o0), .val (.ref o1), .val (.long q2), .second, .val (.long r1), .second] [(.long (1 : Int64)), (.long (r1 + (1024 : Int64))), (.ref o1), (.ref o0)])) _ _ _
  refine own_go (fun t k => XS.lsub X1.here hx rfl (hb hby d7_15) rfl k) ?_
  show own_End p e below s (T1.setTop (mkF m 16 #[.val (.ref o0), .val (.ref o1), .val (.long q2), .second, .val (.long r1), .second] [(.long ((r1 + (1024 : Int64)) - (1 : Int64))), (.ref o1), (.ref o0)])) _ _ _
  obtain ⟨cq2, qp2, qp2'⟩ := E_o0.cell
  obtain ⟨_, _, ⟨T2, L2, k2, n2⟩, -, X2, ⟨Lc2, hQ2, l2, y2, z2⟩, st2⟩ := X1.privateBack hx (y := (⟨"com/example/appoint/appoint/queue/TaskWheel", "pull", "(Lcom/example/appoint/appoint/queue/TaskHeap;J)Z"⟩ : MethodName)) hown (mvT hZ (hw _ (List.mem_of_getElem? (i := 55) rfl))) (mvT hZ (hw _ (List.mem_of_getElem? (i := 56) rfl))) (own_selP (y := (⟨"com/example/appoint/appoint/queue/TaskWheel", "pull", "(Lcom/example/appoint/appoint/queue/TaskHeap;J)Z"⟩ : MethodName)) (by decide) (mvT hZ (hw _ (List.mem_of_getElem? (i := 1) rfl))) (mvP hZ (hw _ (List.mem_of_getElem? (i := 57) rfl))) (mvT hZ (hw _ (List.mem_of_getElem? (i := 56) rfl)))) (Cond.privateMethod_at (mvP hZ (hw _ (List.mem_of_getElem? (i := 57) rfl)) (args := #[]))) (mvT hZ (hw _ (List.mem_of_getElem? (i := 58) rfl))) (by decide) (backOf (W := 0) (rm6 l Z a0 hw [] o0 o1 ((r1 + (1024 : Int64)) - (1 : Int64)) h0 n0 Z0 F_size) hZ (hw _ (List.mem_of_getElem? (i := 58) rfl)) (hw _ (List.mem_of_getElem? (i := 2) rfl)) (by decide) (by decide)) (g := (mkF m 16 #[.val (.ref o0), .val (.ref o1), .val (.long q2), .second, .val (.long r1), .second] [(.long ((r1 + (1024 : Int64)) - (1 : Int64))), (.ref o1), (.ref o0)])) rfl (by rw [hml]; rfl) (Steps.refl _) (a := o0) (by rw [e1]; exact qp2) qp2' (argsL := [(.ref o1), (.long ((r1 + (1024 : Int64)) - (1 : Int64)))]) (rest := []) (lenOf own_pd1 rfl) rfl (by show 2 * 0 + _ ≤ _; exact Nat.le_of_eq rfl) (hb hby d7_16) (fun _ _ => ⟨rfl, e1, (by decide : 0 + 0 ≤ _), (by decide : 0 + 0 ≤ _)⟩)
  dsimp only [Pt.U, Pt.locs, Pt.cells, Pt.slots] at X2 l2 y2 z2 st2 hQ2
  subst l2 y2 z2
  obtain ⟨rfl, N2q, e2⟩ := hQ2
  have N2 := Fr.app N1 N2q
  refine own_go (fun t k => st2.trans k) ?_
  show own_End p e below s (T2.setTop (mkF m 19 #[.val (.ref o0), .val (.ref o1), .val (.long q2), .second, .val (.long r1), .second] [(.int (0 : Int32))])) _ _ _
  refine own_go (fun t k => XS.ifYes X2.here hx rfl (pc0 := 19) (pc' := 24) rfl (hb hby d7_19) rfl ((if0 _ _).trans (own_eq (x := (0 : Int32)) (y := (0 : Int32)) (i := 0) (j := 0) rfl rfl (by decide)).1) (by decide) (by decide) k) ?_
  show own_End p e below s (T2.setTop (mkF m 24 #[.val (.ref o0), .val (.ref o1), .val (.long q2), .second, .val (.long r1), .second] [])) _ _ _
  refine own_go (fun t k => XS.aloadN X2.here hx rfl (hb hby d7_24) rfl rfl k) ?_
  show own_End p e below s (T2.setTop (mkF m 25 #[.val (.ref o0), .val (.ref o1), .val (.long q2), .second, .val (.long r1), .second] [(.ref o0)])) _ _ _
  refine own_go (fun t k => XS.aloadN X2.here hx rfl (hb hby d7_25) rfl rfl k) ?_
  show own_End p e below s (T2.setTop (mkF m 26 #[.val (.ref o0), .val (.ref o1), .val (.long q2), .second, .val (.long r1), .second] [(.ref o0), (.ref o0)])) _ _ _
  obtain ⟨T3, X3, e3, st3⟩ := getF X2 hx hZ hown (host := "") (Or.inl (hw _ (List.mem_of_getElem? (i := 39) rfl))) Via.refl e2 F_front (g := (mkF m 26 #[.val (.ref o0), .val (.ref o1), .val (.long q2), .second, .val (.long r1), .second] [(.ref o0), (.ref o0)])) rfl rfl (hb hby d7_26)
  refine own_go st3 ?_
  show own_End p e below s (T3.setTop (mkF m 29 #[.val (.ref o0), .val (.ref o1), .val (.long q2), .second, .val (.long r1), .second] [(.long (0 : Int64)), (.ref o0)])) _ _ _
  refine own_go (fun t k => XS.lload X3.here hx rfl (hb hby d7_29) rfl k) ?_
  show own_End p e below s (T3.setTop (mkF m 31 #[.val (.ref o0), .val (.ref o1), .val (.long q2), .second, .val (.long r1), .second] [(.long r1), (.long (0 : Int64)), (.ref o0)])) _ _ _
  obtain ⟨_, _, ⟨T4, L4, k4, n4⟩, -, X4, ⟨Lc4, hQ4, l4, y4, z4⟩, st4⟩ := Jvm.LawKit.callS X3 hx (y := (⟨"java/lang/Math", "min", "(JJ)J"⟩ : MethodName)) hown (mvT hZ (hw _ (List.mem_of_getElem? (i := 59) rfl))) (mvT hZ (hw _ (List.mem_of_getElem? (i := 60) rfl))) (mvT hZ (hw _ (List.mem_of_getElem? (i := 61) rfl))) (mvT hZ (hw _ (List.mem_of_getElem? (i := 62) rfl))) (by decide) (backOf (W := 1) (rm7 l Z a0 hw [] (0 : Int64) r1 h0 n0 Z0 (by show ¬ _ < (0 : Int); omega)) hZ (hw _ (List.mem_of_getElem? (i := 62) rfl)) (hw _ (List.mem_of_getElem? (i := 61) rfl)) (by decide) (by decide)) (g := (mkF m 31 #[.val (.ref o0), .val (.ref o1), .val (.long q2), .second, .val (.long r1), .second] [(.long r1), (.long (0 : Int64)), (.ref o0)])) rfl (by rw [hml]; rfl) (argsL := [(.long (0 : Int64)), (.long r1)]) (rest := [(.ref o0)]) (lenOf own_pd2 rfl) rfl (by show 2 * 0 + _ ≤ _; exact Nat.le_of_eq rfl) (hb hby d7_31) (fun _ _ => ⟨rfl, e3, (by decide : 0 + 0 ≤ _), (by decide : 0 + 0 ≤ _)⟩)
  dsimp only [Pt.U, Pt.locs, Pt.cells, Pt.slots] at X4 l4 y4 z4 st4 hQ4
  subst l4 y4 z4
  obtain ⟨rfl, N4q, e4⟩ := hQ4
  have N4 := Fr.app N2 N4q
  refine own_go st4 ?_
  show own_End p e below s (T4.setTop (mkF m 34 #[.val (.ref o0), .val (.ref o1), .val (.long q2), .second, .val (.long r1), .second] [(.long (0 : Int64)), (.ref o0)])) _ _ _
  obtain ⟨T5, h5, X5, e5, W5, st5⟩ := putF X4 hx hZ hown (host := "") (Or.inl (hw _ (List.mem_of_getElem? (i := 39) rfl))) Via.refl e4 F_front E_o0 (Or.inl (hw _ (List.mem_of_getElem? (i := 40) rfl))) (hw _ (List.mem_of_getElem? (i := 1) rfl)) (ty := .long) (by decide) rfl rfl (g := (mkF m 34 #[.val (.ref o0), .val (.ref o1), .val (.long q2), .second, .val (.long r1), .second] [(.long (0 : Int64)), (.ref o0)])) rfl rfl (hb hby d7_34)
  have Fw5 := F_front.same W5
  have N5 := Fr.snoc X5 N4 g_o0
  have Z5 : n0 ≤ h5.size := Nat.le_trans Z0 (Keep.of_wr W5).1
  have KP5 := (Keep.refl h0 [o0]).wr W5 (Or.inl (List.mem_of_getElem? (i := 0) rfl))
  refine own_go st5 ?_
  show own_End p e below s (T5.setTop (mkF m 37 #[.val (.ref o0), .val (.ref o1), .val (.long q2), .second, .val (.long r1), .second] [])) _ _ _
  refine own_go (fun t k => XS.iconst X5.here hx rfl (hb hby d7_37) k) ?_
  show own_End p e below s (T5.setTop (mkF m 38 #[.val (.ref o0), .val (.ref o1), .val (.long q2), .second, .val (.long r1), .second] [(.int (0 : Int32))])) _ _ _
  have U6 := (E_o0.wr W5)
  have U7 := (F_size.other W5 (Or.inr (slot_ne (Or.inl (hw _ (List.mem_of_getElem? (i := 47) rfl))) (Or.inl (hw _ (List.mem_of_getElem? (i := 40) rfl))) (by decide) (t := .int) (t' := .long) (by decide) (by decide))))
  refine own_ret X5 (v := some (.int (0 : Int32))) (fun h => by rw [Bd.returns] at h; cases h) Bd.notSynchronized (fun fs hr => retN X5 hx (t := .boolean) Bd.returns (by simp) (hb hby d7_38) hr) ?_ (by decide) (by decide)
  · rw [e5]; exact ⟨rfl, N5, KP5, U6, Fw5, U7⟩
theorem own_pn2 : plainName "com/example/appoint/appoint/queue/TaskWheelCoversPinLaw" = true := by first | (simp [plainName, overriddenIn]; done) | decide +kernel
theorem own_ef0_rm0 (m : MethodId) (q0 : Int64) (q1 : Int64) (p2 : Int32) : entryFrame m #[(.long q0), (.long q1), (.int p2)] maxLocals = mkF m 0 #[.val (.long q0), .second, .val (.long q1), .second, .val (.int p2), .unset, .unset, .unset, .unset, .unset, .unset, .unset, .unset] [] := by first | (simp [entryFrame, mkF, argsToLocals, Value.category, maxLocals]; done) | rfl
def Q_rm0 (Z : State) (q0 : Int64) (q1 : Int64) (p2 : Int32)  (h0 : Heap) (n0 : Nat) (v : Option Value) (h : Heap) (L : List Loc) : Prop := v = some (.int 1) ∧ Fr n0 L
theorem own_pd3 : parseMethodDescriptor "()V" = some ⟨[], none⟩ := by decide +kernel
theorem own_pd4 : parseMethodDescriptor "(J)Z" = some ⟨[.long], some .boolean⟩ := by decide +kernel
theorem own_pd5 : parseMethodDescriptor "()I" = some ⟨[], some .int⟩ := by decide +kernel
set_option maxRecDepth 65536 in
set_option maxHeartbeats 40000000 in
theorem rm0 (l : Launch) (Z : State) (a0 : Array Value) (hw : ∀ d ∈ tables_1, d.before a0 Z = true) (ws : List Jvm.Cond) (q0 : Int64) (q1 : Int64) (p2 : Int32)  (h0 : Heap) (n0 : Nat) (Z0 : n0 ≤ h0.size)  :
    MetFree l x (head1 (Jvm.Cond.code x code maxLocals ret :: ws) room_1) (fun a U => a = #[(.long q0), (.long q1), (.int p2)] ∧ Z.Warmed39 U.vm ∧ U.heap = h0) (fun _ _ _ _ _ => True) (fun _ U o U' => ∃ v L, o = .returned v ∧ Q_rm0 Z q0 q1 p2  h0 n0 v U'.heap L ∧ FrameEnd U o U' L room_1.cells room_1.slots) := by
  refine MetFree.of_bodySF (plainFor_of_name own_pn2) hisR ?_
  intro p e s m args below meth c s₁ Bd hml0 hP hK
  obtain ⟨rfl, hZ, hh⟩ := hP
  have hx := Bd.exec
  have hby := Bd.bytes
  have hml : c.maxLocals = 13 := hml0
  have hown : s.vm.findClass "com/example/appoint/appoint/queue/TaskWheelCoversPinLaw" = some m.cls := findClass_of_methodNamed Bd.named
  have hnm := (name_of_methodNamed Bd.named Bd.method).1
  have X0 : Stand p l e room_1 s m #[(.long q0), (.long q1), (.int p2)] below meth c s₁ [] 0 0 := Stand.of_body Bd
  have e0 : s₁.heap = h0 := by rw [← hh, Bd.state]; rfl
  have N0 := Fr.nil n0
  refine (show own_End p e below s (s₁.setTop (entryFrame m #[(.long q0), (.long q1), (.int p2)] maxLocals)) (Q_rm0 Z q0 q1 p2  h0 n0) room_1.cells room_1.slots from ?_)
  refine own_go (fun t k => castTop (own_ef0_rm0 m q0 q1 p2) k) ?_
  have li0 : (0 : Int32).toInt = 0 := rfl
  have li1 : (1 : Int32).toInt = 1 := rfl
  show own_End p e below s (s₁.setTop (mkF m 0 #[.val (.long q0), .second, .val (.long q1), .second, .val (.int p2), .unset, .unset, .unset, .unset, .unset, .unset, .unset, .unset] [])) _ _ _
  obtain ⟨T1, h1, X1, e1, E1, A1, D1, -, st1⟩ := newO X0 hx hZ hown (hw _ (List.mem_of_getElem? (i := 0) rfl)) (hw _ (List.mem_of_getElem? (i := 1) rfl)) (hw _ (List.mem_of_getElem? (i := 2) rfl)) e0 (g := (mkF m 0 #[.val (.long q0), .second, .val (.long q1), .second, .val (.int p2), .unset, .unset, .unset, .unset, .unset, .unset, .unset, .unset] [])) rfl (hb hby at_0) (by decide) (by decide)
  obtain ⟨b1, g1⟩ : ∃ z, z = h0.size := ⟨_, rfl⟩
  rw [← g1] at A1 D1 st1
  have g_b1 : n0 ≤ b1 := Nat.le_trans Z0 (Nat.le_of_eq g1.symm)
  have Z1 : n0 ≤ h1.size := Nat.le_trans Z0 E1.1
  have F_buckets_b1 : Fld Z h1 b1 "com/example/appoint/appoint/queue/TaskWheel" "buckets" "[[Lcom/example/appoint/appoint/task/ScheduledTask;" .null := D1 (Or.inr (hw _ (List.mem_of_getElem? (i := 12) rfl))) (ty := (.array (.array (.object "com/example/appoint/appoint/task/ScheduledTask")))) (by decide)
  have F_sizes_b1 : Fld Z h1 b1 "com/example/appoint/appoint/queue/TaskWheel" "sizes" "[I" .null := D1 (Or.inr (hw _ (List.mem_of_getElem? (i := 15) rfl))) (ty := (.array .int)) (by decide)
  have F_floor_b1 : Fld Z h1 b1 "com/example/appoint/appoint/queue/TaskWheel" "floor" "J" (.long (0 : Int64)) := D1 (Or.inl (hw _ (List.mem_of_getElem? (i := 18) rfl))) (ty := .long) (by decide)
  have F_front_b1 : Fld Z h1 b1 "com/example/appoint/appoint/queue/TaskWheel" "front" "J" (.long (0 : Int64)) := D1 (Or.inl (hw _ (List.mem_of_getElem? (i := 40) rfl))) (ty := .long) (by decide)
  have F_size_b1 : Fld Z h1 b1 "com/example/appoint/appoint/queue/TaskWheel" "size" "I" (.int (0 : Int32)) := D1 (Or.inl (hw _ (List.mem_of_getElem? (i := 47) rfl))) (ty := .int) (by decide)
  refine own_go st1 ?_
  show own_End p e below s (T1.setTop (mkF m 3 #[.val (.long q0), .second, .val (.long q1), .second, .val (.int p2), .unset, .unset, .unset, .unset, .unset, .unset, .unset, .unset] [(.ref b1)])) _ _ _
  refine own_go (fun t k => XS.dup X1.here hx rfl (hb hby at_3) rfl rfl k) ?_
  show own_End p e below s (T1.setTop (mkF m 4 #[.val (.long q0), .second, .val (.long q1), .second, .val (.int p2), .unset, .unset, .unset, .unset, .unset, .unset, .unset, .unset] [(.ref b1), (.ref b1)])) _ _ _
  obtain ⟨_, _, ⟨T2, L2, k2, n2⟩, -, X2, ⟨Lc2, hQ2, l2, y2, z2⟩, st2⟩ := X1.specialBack hx (y := (⟨"com/example/appoint/appoint/queue/TaskWheel", "<init>", "()V"⟩ : MethodName)) rfl hown (mvT hZ (hw _ (List.mem_of_getElem? (i := 3) rfl))) (mvT hZ (hw _ (List.mem_of_getElem? (i := 4) rfl))) (mvT hZ (hw _ (List.mem_of_getElem? (i := 5) rfl))) (by decide) (backOf (W := 1) (rm1 l Z a0 hw [] b1 h1 n0 Z1 g_b1 A1 F_buckets_b1 F_sizes_b1 F_floor_b1 F_front_b1 F_size_b1) hZ (hw _ (List.mem_of_getElem? (i := 5) rfl)) (hw _ (List.mem_of_getElem? (i := 2) rfl)) (by decide) (by decide)) (g := (mkF m 4 #[.val (.long q0), .second, .val (.long q1), .second, .val (.int p2), .unset, .unset, .unset, .unset, .unset, .unset, .unset, .unset] [(.ref b1), (.ref b1)])) rfl (by rw [hml]; rfl) (Steps.refl _) (a := b1) (argsL := []) (rest := [(.ref b1)]) (lenOf own_pd3 rfl) rfl (by show 2 * 0 + _ ≤ _; exact Nat.le_of_eq rfl) (hb hby at_4) (fun _ _ => ⟨rfl, e1, (by decide : 1 + 2 ≤ _), (by decide : 5 + 2048 ≤ _)⟩)
  dsimp only [Pt.U, Pt.locs, Pt.cells, Pt.slots] at X2 l2 y2 z2 st2 hQ2
  subst l2 y2 z2
  obtain ⟨rfl, N2q, K2, Ex2, Ff2, Fz2⟩ := hQ2
  have N2 := Fr.app N0 N2q
  have Z2 : n0 ≤ T2.heap.size := Nat.le_trans Z1 K2.1
  refine own_go (fun t k => st2.trans k) ?_
  show own_End p e below s (T2.setTop (mkF m 7 #[.val (.long q0), .second, .val (.long q1), .second, .val (.int p2), .unset, .unset, .unset, .unset, .unset, .unset, .unset, .unset] [(.ref b1)])) _ _ _
  refine own_go (fun t k => XS.astore X2.here hx rfl (hb hby at_7) rfl rfl (l' := #[.val (.long q0), .second, .val (.long q1), .second, .val (.int p2), .val (.ref b1), .unset, .unset, .unset, .unset, .unset, .unset, .unset]) rfl k) ?_
  show own_End p e below s (T2.setTop (mkF m 9 #[.val (.long q0), .second, .val (.long q1), .second, .val (.int p2), .val (.ref b1), .unset, .unset, .unset, .unset, .unset, .unset, .unset] [])) _ _ _
  obtain ⟨T3, h3, X3, e3, E3, A3, D3, -, st3⟩ := newO X2 hx hZ hown (hw _ (List.mem_of_getElem? (i := 19) rfl)) (hw _ (List.mem_of_getElem? (i := 20) rfl)) (hw _ (List.mem_of_getElem? (i := 21) rfl)) rfl (g := (mkF m 9 #[.val (.long q0), .second, .val (.long q1), .second, .val (.int p2), .val (.ref b1), .unset, .unset, .unset, .unset, .unset, .unset, .unset] [])) rfl (hb hby at_9) (by decide) (by decide)
  obtain ⟨b3, g3⟩ : ∃ z, z = T2.heap.size := ⟨_, rfl⟩
  rw [← g3] at A3 D3 st3
  have g_b3 : n0 ≤ b3 := Nat.le_trans Z2 (Nat.le_of_eq g3.symm)
  have ne_b1_b3 : b1 ≠ b3 := Nat.ne_of_lt (Nat.lt_of_lt_of_le Ex2.lt (Nat.le_of_eq g3.symm))
  have Z3 : n0 ≤ h3.size := Nat.le_trans Z2 E3.1
  have F_tasks_b3 : Fld Z h3 b3 "com/example/appoint/appoint/queue/TaskHeap" "tasks" "[Lcom/example/appoint/appoint/task/ScheduledTask;" .null := D3 (Or.inl (hw _ (List.mem_of_getElem? (i := 29) rfl))) (ty := (.array (.object "com/example/appoint/appoint/task/ScheduledTask"))) (by decide)
  refine own_go st3 ?_
  show own_End p e below s (T3.setTop (mkF m 12 #[.val (.long q0), .second, .val (.long q1), .second, .val (.int p2), .val (.ref b1), .unset, .unset, .unset, .unset, .unset, .unset, .unset] [(.ref b3)])) _ _ _
  refine own_go (fun t k => XS.dup X3.here hx rfl (hb hby at_12) rfl rfl k) ?_
  show own_End p e below s (T3.setTop (mkF m 13 #[.val (.long q0), .second, .val (.long q1), .second, .val (.int p2), .val (.ref b1), .unset, .unset, .unset, .unset, .unset, .unset, .unset] [(.ref b3), (.ref b3)])) _ _ _
  obtain ⟨_, _, ⟨T4, L4, k4, n4⟩, -, X4, ⟨Lc4, hQ4, l4, y4, z4⟩, st4⟩ := X3.specialBack hx (y := (⟨"com/example/appoint/appoint/queue/TaskHeap", "<init>", "()V"⟩ : MethodName)) rfl hown (mvT hZ (hw _ (List.mem_of_getElem? (i := 22) rfl))) (mvT hZ (hw _ (List.mem_of_getElem? (i := 23) rfl))) (mvT hZ (hw _ (List.mem_of_getElem? (i := 24) rfl))) (by decide) (backOf (W := 1) (rm2 l Z a0 hw [] b3 h3 n0 Z3 g_b3 A3 F_tasks_b3) hZ (hw _ (List.mem_of_getElem? (i := 24) rfl)) (hw _ (List.mem_of_getElem? (i := 21) rfl)) (by decide) (by decide)) (g := (mkF m 13 #[.val (.long q0), .second, .val (.long q1), .second, .val (.int p2), .val (.ref b1), .unset, .unset, .unset, .unset, .unset, .unset, .unset] [(.ref b3), (.ref b3)])) rfl (by rw [hml]; rfl) (Steps.refl _) (a := b3) (argsL := []) (rest := [(.ref b3)]) (lenOf own_pd3 rfl) rfl (by show 2 * 0 + _ ≤ _; exact Nat.le_of_eq rfl) (hb hby at_13) (fun _ _ => ⟨rfl, e3, (by decide : 4 + 1 ≤ _), (by decide : 2055 + 16 ≤ _)⟩)
  dsimp only [Pt.U, Pt.locs, Pt.cells, Pt.slots] at X4 l4 y4 z4 st4 hQ4
  subst l4 y4 z4
  obtain ⟨rfl, N4q, K4⟩ := hQ4
  have N4 := Fr.app N2 N4q
  have Z4 : n0 ≤ T4.heap.size := Nat.le_trans Z3 K4.1
  refine own_go (fun t k => st4.trans k) ?_
  show own_End p e below s (T4.setTop (mkF m 16 #[.val (.long q0), .second, .val (.long q1), .second, .val (.int p2), .val (.ref b1), .unset, .unset, .unset, .unset, .unset, .unset, .unset] [(.ref b3)])) _ _ _
  refine own_go (fun t k => XS.astore X4.here hx rfl (hb hby at_16) rfl rfl (l' := #[.val (.long q0), .second, .val (.long q1), .second, .val (.int p2), .val (.ref b1), .val (.ref b3), .unset, .unset, .unset, .unset, .unset, .unset]) rfl k) ?_
  show own_End p e below s (T4.setTop (mkF m 18 #[.val (.long q0), .second, .val (.long q1), .second, .val (.int p2), .val (.ref b1), .val (.ref b3), .unset, .unset, .unset, .unset, .unset, .unset] [])) _ _ _
  refine own_go (fun t k => XS.iconst X4.here hx rfl (hb hby at_18) k) ?_
  show own_End p e below s (T4.setTop (mkF m 19 #[.val (.long q0), .second, .val (.long q1), .second, .val (.int p2), .val (.ref b1), .val (.ref b3), .unset, .unset, .unset, .unset, .unset, .unset] [(.int (0 : Int32))])) _ _ _
  refine own_go (fun t k => XS.istore X4.here hx rfl (hb hby at_19) rfl (l' := #[.val (.long q0), .second, .val (.long q1), .second, .val (.int p2), .val (.ref b1), .val (.ref b3), .val (.int (0 : Int32)), .unset, .unset, .unset, .unset, .unset]) rfl k) ?_
  show own_End p e below s (T4.setTop (mkF m 21 #[.val (.long q0), .second, .val (.long q1), .second, .val (.int p2), .val (.ref b1), .val (.ref b3), .val (.int (0 : Int32)), .unset, .unset, .unset, .unset, .unset] [])) _ _ _
  refine own_go (fun t k => XS.iload X4.here hx rfl (hb hby at_21) rfl k) ?_
  show own_End p e below s (T4.setTop (mkF m 23 #[.val (.long q0), .second, .val (.long q1), .second, .val (.int p2), .val (.ref b1), .val (.ref b3), .val (.int (0 : Int32)), .unset, .unset, .unset, .unset, .unset] [(.int p2)])) _ _ _
  refine own_go (fun t k => XS.iconst X4.here hx rfl (hb hby at_23) k) ?_
  show own_End p e below s (T4.setTop (mkF m 24 #[.val (.long q0), .second, .val (.long q1), .second, .val (.int p2), .val (.ref b1), .val (.ref b3), .val (.int (0 : Int32)), .unset, .unset, .unset, .unset, .unset] [(.int (1 : Int32)), (.int p2)])) _ _ _
  refine own_go (fun t k => XS.iand X4.here hx rfl (hb hby at_24) rfl k) ?_
  show own_End p e below s (T4.setTop (mkF m 25 #[.val (.long q0), .second, .val (.long q1), .second, .val (.int p2), .val (.ref b1), .val (.ref b3), .val (.int (0 : Int32)), .unset, .unset, .unset, .unset, .unset] [(.int (p2 &&& (1 : Int32)))])) _ _ _
  by_cases c25_5 : (p2 &&& (1 : Int32)).toInt = 0
  · skip
    refine own_go (fun t k => XS.ifYes X4.here hx rfl (pc0 := 25) (pc' := 42) rfl (hb hby at_25) rfl ((if0 _ _).trans (own_eq (x := (p2 &&& (1 : Int32))) (y := (0 : Int32)) (i := (p2 &&& (1 : Int32)).toInt) (j := 0) rfl rfl c25_5).1) (by decide) (by decide) k) ?_
    show own_End p e below s (T4.setTop (mkF m 42 #[.val (.long q0), .second, .val (.long q1), .second, .val (.int p2), .val (.ref b1), .val (.ref b3), .val (.int (0 : Int32)), .unset, .unset, .unset, .unset, .unset] [])) _ _ _
    refine own_go (fun t k => XS.lloadN X4.here hx rfl (hb hby at_42) rfl k) ?_
    show own_End p e below s (T4.setTop (mkF m 43 #[.val (.long q0), .second, .val (.long q1), .second, .val (.int p2), .val (.ref b1), .val (.ref b3), .val (.int (0 : Int32)), .unset, .unset, .unset, .unset, .unset] [(.long q0)])) _ _ _
    refine own_go (fun t k => X4.ldc2Long hx hown (mvT hZ (hw _ (List.mem_of_getElem? (i := 30) rfl))) (g := (mkF m 43 #[.val (.long q0), .second, .val (.long q1), .second, .val (.int p2), .val (.ref b1), .val (.ref b3), .val (.int (0 : Int32)), .unset, .unset, .unset, .unset, .unset] [(.long q0)])) rfl (hb hby at_43) _ k) ?_
    show own_End p e below s (T4.setTop (mkF m 46 #[.val (.long q0), .second, .val (.long q1), .second, .val (.int p2), .val (.ref b1), .val (.ref b3), .val (.int (0 : Int32)), .unset, .unset, .unset, .unset, .unset] [(.long (4194303 : Int64)), (.long q0)])) _ _ _
    refine own_go (fun t k => XS.land X4.here hx rfl (hb hby at_46) rfl k) ?_
    show own_End p e below s (T4.setTop (mkF m 47 #[.val (.long q0), .second, .val (.long q1), .second, .val (.int p2), .val (.ref b1), .val (.ref b3), .val (.int (0 : Int32)), .unset, .unset, .unset, .unset, .unset] [(.long (q0 &&& (4194303 : Int64)))])) _ _ _
    refine own_go (fun t k => XS.lstore X4.here hx rfl (hb hby at_47) rfl (l' := #[.val (.long q0), .second, .val (.long q1), .second, .val (.int p2), .val (.ref b1), .val (.ref b3), .val (.int (0 : Int32)), .val (.long (q0 &&& (4194303 : Int64))), .second, .unset, .unset, .unset]) rfl k) ?_
    show own_End p e below s (T4.setTop (mkF m 49 #[.val (.long q0), .second, .val (.long q1), .second, .val (.int p2), .val (.ref b1), .val (.ref b3), .val (.int (0 : Int32)), .val (.long (q0 &&& (4194303 : Int64))), .second, .unset, .unset, .unset] [])) _ _ _
    refine own_go (fun t k => XS.aload X4.here hx rfl (hb hby at_49) rfl rfl k) ?_
    show own_End p e below s (T4.setTop (mkF m 51 #[.val (.long q0), .second, .val (.long q1), .second, .val (.int p2), .val (.ref b1), .val (.ref b3), .val (.int (0 : Int32)), .val (.long (q0 &&& (4194303 : Int64))), .second, .unset, .unset, .unset] [(.ref b1)])) _ _ _
    refine own_go (fun t k => XS.lloadN X4.here hx rfl (hb hby at_51) rfl k) ?_
    show own_End p e below s (T4.setTop (mkF m 52 #[.val (.long q0), .second, .val (.long q1), .second, .val (.int p2), .val (.ref b1), .val (.ref b3), .val (.int (0 : Int32)), .val (.long (q0 &&& (4194303 : Int64))), .second, .unset, .unset, .unset] [(.long q0), (.ref b1)])) _ _ _
    have U6 := ((Ff2.ext E3).keep K4 (ninS ne_b1_b3 nin0))
    have U8 := ((Ex2.ext E3).keep K4)
    obtain ⟨cq7, kq7, q7a, q7b, q7c⟩ := isOf hZ rfl U8
    obtain ⟨_, _, ⟨T7, L7, k7, n7⟩, -, X7, ⟨Lc7, hQ7, l7, y7, z7⟩, st7⟩ := X4.virtualBack hx (y := (⟨"com/example/appoint/appoint/queue/TaskWheel", "covers", "(J)Z"⟩ : MethodName)) (z := (⟨"com/example/appoint/appoint/queue/TaskWheel", "covers", "(J)Z"⟩ : MethodName)) hown (mvT hZ (hw _ (List.mem_of_getElem? (i := 31) rfl))) (mvT hZ (hw _ (List.mem_of_getElem? (i := 32) rfl))) (notFace_of_selects (args := #[]) (mvT hZ (hw _ (List.mem_of_getElem? (i := 34) rfl)))) (mvT hZ (hw _ (List.mem_of_getElem? (i := 34) rfl))) (mvT hZ (hw _ (List.mem_of_getElem? (i := 33) rfl))) (by decide) (backOf (W := 0) (rm4 l Z a0 hw [] b1 q0 T4.heap n0 Z4 U6) hZ (hw _ (List.mem_of_getElem? (i := 35) rfl)) (hw _ (List.mem_of_getElem? (i := 2) rfl)) (by decide) (by decide)) q7a q7c (g := (mkF m 52 #[.val (.long q0), .second, .val (.long q1), .second, .val (.int p2), .val (.ref b1), .val (.ref b3), .val (.int (0 : Int32)), .val (.long (q0 &&& (4194303 : Int64))), .second, .unset, .unset, .unset] [(.long q0), (.ref b1)])) rfl (by rw [hml]; rfl) (Steps.refl _) (argsL := [(.long q0)]) (rest := []) (lenOf own_pd4 rfl) rfl (by show 2 * 0 + _ ≤ _; exact Nat.le_of_eq rfl) (hb hby at_52) (fun _ _ => ⟨rfl, rfl, (by decide : 5 + 0 ≤ _), (by decide : 2071 + 0 ≤ _)⟩)
    dsimp only [Pt.U, Pt.locs, Pt.cells, Pt.slots] at X7 l7 y7 z7 st7 hQ7
    subst l7 y7 z7
    obtain ⟨rfl, N7q, e7⟩ := hQ7
    have N7 := Fr.app N4 N7q
    refine own_go (fun t k => st7.trans k) ?_
    show own_End p e below s (T7.setTop (mkF m 55 #[.val (.long q0), .second, .val (.long q1), .second, .val (.int p2), .val (.ref b1), .val (.ref b3), .val (.int (0 : Int32)), .val (.long (q0 &&& (4194303 : Int64))), .second, .unset, .unset, .unset] [(.int (1 : Int32))])) _ _ _
    refine own_go (fun t k => XS.istore X7.here hx rfl (hb hby at_55) rfl (l' := #[.val (.long q0), .second, .val (.long q1), .second, .val (.int p2), .val (.ref b1), .val (.ref b3), .val (.int (0 : Int32)), .val (.long (q0 &&& (4194303 : Int64))), .second, .val (.int (1 : Int32)), .unset, .unset]) rfl k) ?_
    show own_End p e below s (T7.setTop (mkF m 57 #[.val (.long q0), .second, .val (.long q1), .second, .val (.int p2), .val (.ref b1), .val (.ref b3), .val (.int (0 : Int32)), .val (.long (q0 &&& (4194303 : Int64))), .second, .val (.int (1 : Int32)), .unset, .unset] [])) _ _ _
    refine own_go (fun t k => XS.aload X7.here hx rfl (hb hby at_57) rfl rfl k) ?_
    show own_End p e below s (T7.setTop (mkF m 59 #[.val (.long q0), .second, .val (.long q1), .second, .val (.int p2), .val (.ref b1), .val (.ref b3), .val (.int (0 : Int32)), .val (.long (q0 &&& (4194303 : Int64))), .second, .val (.int (1 : Int32)), .unset, .unset] [(.ref b1)])) _ _ _
    refine own_go (fun t k => XS.lload X7.here hx rfl (hb hby at_59) rfl k) ?_
    show own_End p e below s (T7.setTop (mkF m 61 #[.val (.long q0), .second, .val (.long q1), .second, .val (.int p2), .val (.ref b1), .val (.ref b3), .val (.int (0 : Int32)), .val (.long (q0 &&& (4194303 : Int64))), .second, .val (.int (1 : Int32)), .unset, .unset] [(.long (q0 &&& (4194303 : Int64))), (.ref b1)])) _ _ _
    obtain ⟨cq9, kq9, q9a, q9b, q9c⟩ := isOf hZ e7 U8
    obtain ⟨_, _, ⟨T9, L9, k9, n9⟩, -, X9, ⟨Lc9, hQ9, l9, y9, z9⟩, st9⟩ := X7.virtualBack hx (y := (⟨"com/example/appoint/appoint/queue/TaskWheel", "covers", "(J)Z"⟩ : MethodName)) (z := (⟨"com/example/appoint/appoint/queue/TaskWheel", "covers", "(J)Z"⟩ : MethodName)) hown (mvT hZ (hw _ (List.mem_of_getElem? (i := 31) rfl))) (mvT hZ (hw _ (List.mem_of_getElem? (i := 32) rfl))) (notFace_of_selects (args := #[]) (mvT hZ (hw _ (List.mem_of_getElem? (i := 34) rfl)))) (mvT hZ (hw _ (List.mem_of_getElem? (i := 34) rfl))) (mvT hZ (hw _ (List.mem_of_getElem? (i := 33) rfl))) (by decide) (backOf (W := 0) (rm4 l Z a0 hw [] b1 (q0 &&& (4194303 : Int64)) T4.heap n0 Z4 U6) hZ (hw _ (List.mem_of_getElem? (i := 35) rfl)) (hw _ (List.mem_of_getElem? (i := 2) rfl)) (by decide) (by decide)) q9a q9c (g := (mkF m 61 #[.val (.long q0), .second, .val (.long q1), .second, .val (.int p2), .val (.ref b1), .val (.ref b3), .val (.int (0 : Int32)), .val (.long (q0 &&& (4194303 : Int64))), .second, .val (.int (1 : Int32)), .unset, .unset] [(.long (q0 &&& (4194303 : Int64))), (.ref b1)])) rfl (by rw [hml]; rfl) (Steps.refl _) (argsL := [(.long (q0 &&& (4194303 : Int64)))]) (rest := []) (lenOf own_pd4 rfl) rfl (by show 2 * 0 + _ ≤ _; exact Nat.le_of_eq rfl) (hb hby at_61) (fun _ _ => ⟨rfl, e7, (by decide : 5 + 0 ≤ _), (by decide : 2071 + 0 ≤ _)⟩)
    dsimp only [Pt.U, Pt.locs, Pt.cells, Pt.slots] at X9 l9 y9 z9 st9 hQ9
    subst l9 y9 z9
    obtain ⟨rfl, N9q, e9⟩ := hQ9
    have N9 := Fr.app N7 N9q
    refine own_go (fun t k => st9.trans k) ?_
    show own_End p e below s (T9.setTop (mkF m 64 #[.val (.long q0), .second, .val (.long q1), .second, .val (.int p2), .val (.ref b1), .val (.ref b3), .val (.int (0 : Int32)), .val (.long (q0 &&& (4194303 : Int64))), .second, .val (.int (1 : Int32)), .unset, .unset] [(.int (1 : Int32))])) _ _ _
    refine own_go (fun t k => XS.istore X9.here hx rfl (hb hby at_64) rfl (l' := #[.val (.long q0), .second, .val (.long q1), .second, .val (.int p2), .val (.ref b1), .val (.ref b3), .val (.int (0 : Int32)), .val (.long (q0 &&& (4194303 : Int64))), .second, .val (.int (1 : Int32)), .val (.int (1 : Int32)), .unset]) rfl k) ?_
    show own_End p e below s (T9.setTop (mkF m 66 #[.val (.long q0), .second, .val (.long q1), .second, .val (.int p2), .val (.ref b1), .val (.ref b3), .val (.int (0 : Int32)), .val (.long (q0 &&& (4194303 : Int64))), .second, .val (.int (1 : Int32)), .val (.int (1 : Int32)), .unset] [])) _ _ _
    refine own_go (fun t k => XS.aload X9.here hx rfl (hb hby at_66) rfl rfl k) ?_
    show own_End p e below s (T9.setTop (mkF m 68 #[.val (.long q0), .second, .val (.long q1), .second, .val (.int p2), .val (.ref b1), .val (.ref b3), .val (.int (0 : Int32)), .val (.long (q0 &&& (4194303 : Int64))), .second, .val (.int (1 : Int32)), .val (.int (1 : Int32)), .unset] [(.ref b1)])) _ _ _
    refine own_go (fun t k => XS.lconst X9.here hx rfl (hb hby at_68) k) ?_
    show own_End p e below s (T9.setTop (mkF m 69 #[.val (.long q0), .second, .val (.long q1), .second, .val (.int p2), .val (.ref b1), .val (.ref b3), .val (.int (0 : Int32)), .val (.long (q0 &&& (4194303 : Int64))), .second, .val (.int (1 : Int32)), .val (.int (1 : Int32)), .unset] [(.long (0 : Int64)), (.ref b1)])) _ _ _
    obtain ⟨cq10, kq10, q10a, q10b, q10c⟩ := isOf hZ e9 U8
    obtain ⟨_, _, ⟨T10, L10, k10, n10⟩, -, X10, ⟨Lc10, hQ10, l10, y10, z10⟩, st10⟩ := X9.virtualBack hx (y := (⟨"com/example/appoint/appoint/queue/TaskWheel", "covers", "(J)Z"⟩ : MethodName)) (z := (⟨"com/example/appoint/appoint/queue/TaskWheel", "covers", "(J)Z"⟩ : MethodName)) hown (mvT hZ (hw _ (List.mem_of_getElem? (i := 31) rfl))) (mvT hZ (hw _ (List.mem_of_getElem? (i := 32) rfl))) (notFace_of_selects (args := #[]) (mvT hZ (hw _ (List.mem_of_getElem? (i := 34) rfl)))) (mvT hZ (hw _ (List.mem_of_getElem? (i := 34) rfl))) (mvT hZ (hw _ (List.mem_of_getElem? (i := 33) rfl))) (by decide) (backOf (W := 0) (rm4 l Z a0 hw [] b1 (0 : Int64) T4.heap n0 Z4 U6) hZ (hw _ (List.mem_of_getElem? (i := 35) rfl)) (hw _ (List.mem_of_getElem? (i := 2) rfl)) (by decide) (by decide)) q10a q10c (g := (mkF m 69 #[.val (.long q0), .second, .val (.long q1), .second, .val (.int p2), .val (.ref b1), .val (.ref b3), .val (.int (0 : Int32)), .val (.long (q0 &&& (4194303 : Int64))), .second, .val (.int (1 : Int32)), .val (.int (1 : Int32)), .unset] [(.long (0 : Int64)), (.ref b1)])) rfl (by rw [hml]; rfl) (Steps.refl _) (argsL := [(.long (0 : Int64))]) (rest := []) (lenOf own_pd4 rfl) rfl (by show 2 * 0 + _ ≤ _; exact Nat.le_of_eq rfl) (hb hby at_69) (fun _ _ => ⟨rfl, e9, (by decide : 5 + 0 ≤ _), (by decide : 2071 + 0 ≤ _)⟩)
    dsimp only [Pt.U, Pt.locs, Pt.cells, Pt.slots] at X10 l10 y10 z10 st10 hQ10
    subst l10 y10 z10
    obtain ⟨rfl, N10q, e10⟩ := hQ10
    have N10 := Fr.app N9 N10q
    refine own_go (fun t k => st10.trans k) ?_
    show own_End p e below s (T10.setTop (mkF m 72 #[.val (.long q0), .second, .val (.long q1), .second, .val (.int p2), .val (.ref b1), .val (.ref b3), .val (.int (0 : Int32)), .val (.long (q0 &&& (4194303 : Int64))), .second, .val (.int (1 : Int32)), .val (.int (1 : Int32)), .unset] [(.int (1 : Int32))])) _ _ _
    refine own_go (fun t k => XS.istore X10.here hx rfl (hb hby at_72) rfl (l' := #[.val (.long q0), .second, .val (.long q1), .second, .val (.int p2), .val (.ref b1), .val (.ref b3), .val (.int (0 : Int32)), .val (.long (q0 &&& (4194303 : Int64))), .second, .val (.int (1 : Int32)), .val (.int (1 : Int32)), .val (.int (1 : Int32))]) rfl k) ?_
    show own_End p e below s (T10.setTop (mkF m 74 #[.val (.long q0), .second, .val (.long q1), .second, .val (.int p2), .val (.ref b1), .val (.ref b3), .val (.int (0 : Int32)), .val (.long (q0 &&& (4194303 : Int64))), .second, .val (.int (1 : Int32)), .val (.int (1 : Int32)), .val (.int (1 : Int32))] [])) _ _ _
    refine own_go (fun t k => XS.iload X10.here hx rfl (hb hby at_74) rfl k) ?_
    show own_End p e below s (T10.setTop (mkF m 76 #[.val (.long q0), .second, .val (.long q1), .second, .val (.int p2), .val (.ref b1), .val (.ref b3), .val (.int (0 : Int32)), .val (.long (q0 &&& (4194303 : Int64))), .second, .val (.int (1 : Int32)), .val (.int (1 : Int32)), .val (.int (1 : Int32))] [(.int (0 : Int32))])) _ _ _
    refine own_go (fun t k => XS.ifNo X10.here hx rfl (hb hby at_76) rfl ((if0 _ _).trans (own_eq (x := (0 : Int32)) (y := (0 : Int32)) (i := 0) (j := 0) rfl rfl (by decide)).2) k) ?_
    show own_End p e below s (T10.setTop (mkF m 79 #[.val (.long q0), .second, .val (.long q1), .second, .val (.int p2), .val (.ref b1), .val (.ref b3), .val (.int (0 : Int32)), .val (.long (q0 &&& (4194303 : Int64))), .second, .val (.int (1 : Int32)), .val (.int (1 : Int32)), .val (.int (1 : Int32))] [])) _ _ _
    refine own_go (fun t k => XS.iload X10.here hx rfl (hb hby at_79) rfl k) ?_
    show own_End p e below s (T10.setTop (mkF m 81 #[.val (.long q0), .second, .val (.long q1), .second, .val (.int p2), .val (.ref b1), .val (.ref b3), .val (.int (0 : Int32)), .val (.long (q0 &&& (4194303 : Int64))), .second, .val (.int (1 : Int32)), .val (.int (1 : Int32)), .val (.int (1 : Int32))] [(.int (1 : Int32))])) _ _ _
    refine own_go (fun t k => XS.ifNo X10.here hx rfl (hb hby at_81) rfl ((if0 _ _).trans (own_ne (x := (1 : Int32)) (y := (0 : Int32)) (i := 1) (j := 0) rfl rfl (by decide)).1) k) ?_
    show own_End p e below s (T10.setTop (mkF m 84 #[.val (.long q0), .second, .val (.long q1), .second, .val (.int p2), .val (.ref b1), .val (.ref b3), .val (.int (0 : Int32)), .val (.long (q0 &&& (4194303 : Int64))), .second, .val (.int (1 : Int32)), .val (.int (1 : Int32)), .val (.int (1 : Int32))] [])) _ _ _
    refine own_go (fun t k => XS.iload X10.here hx rfl (hb hby at_84) rfl k) ?_
    show own_End p e below s (T10.setTop (mkF m 86 #[.val (.long q0), .second, .val (.long q1), .second, .val (.int p2), .val (.ref b1), .val (.ref b3), .val (.int (0 : Int32)), .val (.long (q0 &&& (4194303 : Int64))), .second, .val (.int (1 : Int32)), .val (.int (1 : Int32)), .val (.int (1 : Int32))] [(.int (1 : Int32))])) _ _ _
    refine own_go (fun t k => XS.ifNo X10.here hx rfl (hb hby at_86) rfl ((if0 _ _).trans (own_ne (x := (1 : Int32)) (y := (0 : Int32)) (i := 1) (j := 0) rfl rfl (by decide)).1) k) ?_
    show own_End p e below s (T10.setTop (mkF m 89 #[.val (.long q0), .second, .val (.long q1), .second, .val (.int p2), .val (.ref b1), .val (.ref b3), .val (.int (0 : Int32)), .val (.long (q0 &&& (4194303 : Int64))), .second, .val (.int (1 : Int32)), .val (.int (1 : Int32)), .val (.int (1 : Int32))] [])) _ _ _
    refine own_go (fun t k => XS.iload X10.here hx rfl (hb hby at_89) rfl k) ?_
    show own_End p e below s (T10.setTop (mkF m 91 #[.val (.long q0), .second, .val (.long q1), .second, .val (.int p2), .val (.ref b1), .val (.ref b3), .val (.int (0 : Int32)), .val (.long (q0 &&& (4194303 : Int64))), .second, .val (.int (1 : Int32)), .val (.int (1 : Int32)), .val (.int (1 : Int32))] [(.int (1 : Int32))])) _ _ _
    refine own_go (fun t k => XS.ifNo X10.here hx rfl (hb hby at_91) rfl ((if0 _ _).trans (own_ne (x := (1 : Int32)) (y := (0 : Int32)) (i := 1) (j := 0) rfl rfl (by decide)).1) k) ?_
    show own_End p e below s (T10.setTop (mkF m 94 #[.val (.long q0), .second, .val (.long q1), .second, .val (.int p2), .val (.ref b1), .val (.ref b3), .val (.int (0 : Int32)), .val (.long (q0 &&& (4194303 : Int64))), .second, .val (.int (1 : Int32)), .val (.int (1 : Int32)), .val (.int (1 : Int32))] [])) _ _ _
    refine own_go (fun t k => XS.aload X10.here hx rfl (hb hby at_94) rfl rfl k) ?_
    show own_End p e below s (T10.setTop (mkF m 96 #[.val (.long q0), .second, .val (.long q1), .second, .val (.int p2), .val (.ref b1), .val (.ref b3), .val (.int (0 : Int32)), .val (.long (q0 &&& (4194303 : Int64))), .second, .val (.int (1 : Int32)), .val (.int (1 : Int32)), .val (.int (1 : Int32))] [(.ref b1)])) _ _ _
    have U11 := ((Fz2.ext E3).keep K4 (ninS ne_b1_b3 nin0))
    obtain ⟨cq12, kq12, q12a, q12b, q12c⟩ := isOf hZ e10 U8
    obtain ⟨_, _, ⟨T12, L12, k12, n12⟩, -, X12, ⟨Lc12, hQ12, l12, y12, z12⟩, st12⟩ := X10.virtualBack hx (y := (⟨"com/example/appoint/appoint/queue/TaskWheel", "size", "()I"⟩ : MethodName)) (z := (⟨"com/example/appoint/appoint/queue/TaskWheel", "size", "()I"⟩ : MethodName)) hown (mvT hZ (hw _ (List.mem_of_getElem? (i := 41) rfl))) (mvT hZ (hw _ (List.mem_of_getElem? (i := 42) rfl))) (notFace_of_selects (args := #[]) (mvT hZ (hw _ (List.mem_of_getElem? (i := 44) rfl)))) (mvT hZ (hw _ (List.mem_of_getElem? (i := 44) rfl))) (mvT hZ (hw _ (List.mem_of_getElem? (i := 43) rfl))) (by decide) (backOf (W := 0) (rm5 l Z a0 hw [] b1 T4.heap n0 Z4 U11) hZ (hw _ (List.mem_of_getElem? (i := 45) rfl)) (hw _ (List.mem_of_getElem? (i := 2) rfl)) (by decide) (by decide)) q12a q12c (g := (mkF m 96 #[.val (.long q0), .second, .val (.long q1), .second, .val (.int p2), .val (.ref b1), .val (.ref b3), .val (.int (0 : Int32)), .val (.long (q0 &&& (4194303 : Int64))), .second, .val (.int (1 : Int32)), .val (.int (1 : Int32)), .val (.int (1 : Int32))] [(.ref b1)])) rfl (by rw [hml]; rfl) (Steps.refl _) (argsL := []) (rest := []) (lenOf own_pd5 rfl) rfl (by show 2 * 0 + _ ≤ _; exact Nat.le_of_eq rfl) (hb hby at_96) (fun _ _ => ⟨rfl, e10, (by decide : 5 + 0 ≤ _), (by decide : 2071 + 0 ≤ _)⟩)
    dsimp only [Pt.U, Pt.locs, Pt.cells, Pt.slots] at X12 l12 y12 z12 st12 hQ12
    subst l12 y12 z12
    obtain ⟨rfl, N12q, e12⟩ := hQ12
    have N12 := Fr.app N10 N12q
    refine own_go (fun t k => st12.trans k) ?_
    show own_End p e below s (T12.setTop (mkF m 99 #[.val (.long q0), .second, .val (.long q1), .second, .val (.int p2), .val (.ref b1), .val (.ref b3), .val (.int (0 : Int32)), .val (.long (q0 &&& (4194303 : Int64))), .second, .val (.int (1 : Int32)), .val (.int (1 : Int32)), .val (.int (1 : Int32))] [(.int (0 : Int32))])) _ _ _
    refine own_go (fun t k => XS.ifNo X12.here hx rfl (hb hby at_99) rfl ((if0 _ _).trans (own_eq (x := (0 : Int32)) (y := (0 : Int32)) (i := 0) (j := 0) rfl rfl (by decide)).2) k) ?_
    show own_End p e below s (T12.setTop (mkF m 102 #[.val (.long q0), .second, .val (.long q1), .second, .val (.int p2), .val (.ref b1), .val (.ref b3), .val (.int (0 : Int32)), .val (.long (q0 &&& (4194303 : Int64))), .second, .val (.int (1 : Int32)), .val (.int (1 : Int32)), .val (.int (1 : Int32))] [])) _ _ _
    refine own_go (fun t k => XS.iconst X12.here hx rfl (hb hby at_102) k) ?_
    show own_End p e below s (T12.setTop (mkF m 103 #[.val (.long q0), .second, .val (.long q1), .second, .val (.int p2), .val (.ref b1), .val (.ref b3), .val (.int (0 : Int32)), .val (.long (q0 &&& (4194303 : Int64))), .second, .val (.int (1 : Int32)), .val (.int (1 : Int32)), .val (.int (1 : Int32))] [(.int (1 : Int32))])) _ _ _
    refine own_go (fun t k => XS.goto X12.here hx rfl (pc0 := 103) (pc' := 107) rfl (hb hby at_103) (by decide) (by decide) k) ?_
    show own_End p e below s (T12.setTop (mkF m 107 #[.val (.long q0), .second, .val (.long q1), .second, .val (.int p2), .val (.ref b1), .val (.ref b3), .val (.int (0 : Int32)), .val (.long (q0 &&& (4194303 : Int64))), .second, .val (.int (1 : Int32)), .val (.int (1 : Int32)), .val (.int (1 : Int32))] [(.int (1 : Int32))])) _ _ _
    refine own_ret X12 (v := some (.int (1 : Int32))) (fun h => by rw [Bd.returns] at h; cases h) Bd.notSynchronized (fun fs hr => retN X12 hx (t := .boolean) Bd.returns (by simp) (hb hby at_107) hr) ?_ (by decide) (by decide)
    · exact ⟨rfl, N12⟩
  · skip
    refine own_go (fun t k => XS.ifNo X4.here hx rfl (hb hby at_25) rfl ((if0 _ _).trans (own_ne (x := (p2 &&& (1 : Int32))) (y := (0 : Int32)) (i := (p2 &&& (1 : Int32)).toInt) (j := 0) rfl rfl c25_5).1) k) ?_
    show own_End p e below s (T4.setTop (mkF m 28 #[.val (.long q0), .second, .val (.long q1), .second, .val (.int p2), .val (.ref b1), .val (.ref b3), .val (.int (0 : Int32)), .unset, .unset, .unset, .unset, .unset] [])) _ _ _
    refine own_go (fun t k => XS.aload X4.here hx rfl (hb hby at_28) rfl rfl k) ?_
    show own_End p e below s (T4.setTop (mkF m 30 #[.val (.long q0), .second, .val (.long q1), .second, .val (.int p2), .val (.ref b1), .val (.ref b3), .val (.int (0 : Int32)), .unset, .unset, .unset, .unset, .unset] [(.ref b1)])) _ _ _
    refine own_go (fun t k => XS.aload X4.here hx rfl (hb hby at_30) rfl rfl k) ?_
    show own_End p e below s (T4.setTop (mkF m 32 #[.val (.long q0), .second, .val (.long q1), .second, .val (.int p2), .val (.ref b1), .val (.ref b3), .val (.int (0 : Int32)), .unset, .unset, .unset, .unset, .unset] [(.ref b3), (.ref b1)])) _ _ _
    refine own_go (fun t k => XS.lloadN X4.here hx rfl (hb hby at_32) rfl k) ?_
    show own_End p e below s (T4.setTop (mkF m 33 #[.val (.long q0), .second, .val (.long q1), .second, .val (.int p2), .val (.ref b1), .val (.ref b3), .val (.int (0 : Int32)), .unset, .unset, .unset, .unset, .unset] [(.long q1), (.ref b3), (.ref b1)])) _ _ _
    refine own_go (fun t k => X4.ldc2Long hx hown (mvT hZ (hw _ (List.mem_of_getElem? (i := 48) rfl))) (g := (mkF m 33 #[.val (.long q0), .second, .val (.long q1), .second, .val (.int p2), .val (.ref b1), .val (.ref b3), .val (.int (0 : Int32)), .unset, .unset, .unset, .unset, .unset] [(.long q1), (.ref b3), (.ref b1)])) rfl (hb hby at_33) _ k) ?_
    show own_End p e below s (T4.setTop (mkF m 36 #[.val (.long q0), .second, .val (.long q1), .second, .val (.int p2), .val (.ref b1), .val (.ref b3), .val (.int (0 : Int32)), .unset, .unset, .unset, .unset, .unset] [(.long (9223372036854775807 : Int64)), (.long q1), (.ref b3), (.ref b1)])) _ _ _
    refine own_go (fun t k => XS.land X4.here hx rfl (hb hby at_36) rfl k) ?_
    show own_End p e below s (T4.setTop (mkF m 37 #[.val (.long q0), .second, .val (.long q1), .second, .val (.int p2), .val (.ref b1), .val (.ref b3), .val (.int (0 : Int32)), .unset, .unset, .unset, .unset, .unset] [(.long (q1 &&& (9223372036854775807 : Int64))), (.ref b3), (.ref b1)])) _ _ _
    have U13 := ((Ex2.ext E3).keep K4)
    have U14 := ((Ff2.ext E3).keep K4 (ninS ne_b1_b3 nin0))
    have U15 := ((Fz2.ext E3).keep K4 (ninS ne_b1_b3 nin0))
    obtain ⟨cq16, kq16, q16a, q16b, q16c⟩ := isOf hZ rfl U13
    obtain ⟨_, _, ⟨T16, L16, k16, n16⟩, -, X16, ⟨Lc16, hQ16, l16, y16, z16⟩, st16⟩ := X4.virtualBack hx (y := (⟨"com/example/appoint/appoint/queue/TaskWheel", "pullNear", "(Lcom/example/appoint/appoint/queue/TaskHeap;J)Z"⟩ : MethodName)) (z := (⟨"com/example/appoint/appoint/queue/TaskWheel", "pullNear", "(Lcom/example/appoint/appoint/queue/TaskHeap;J)Z"⟩ : MethodName)) hown (mvT hZ (hw _ (List.mem_of_getElem? (i := 49) rfl))) (mvT hZ (hw _ (List.mem_of_getElem? (i := 50) rfl))) (notFace_of_selects (args := #[]) (mvT hZ (hw _ (List.mem_of_getElem? (i := 52) rfl)))) (mvT hZ (hw _ (List.mem_of_getElem? (i := 52) rfl))) (mvT hZ (hw _ (List.mem_of_getElem? (i := 51) rfl))) (by decide) (backOf (W := 0) (rm8 l Z a0 hw [] b1 b3 (q1 &&& (9223372036854775807 : Int64)) T4.heap n0 Z4 g_b1 U13 U14 U15) hZ (hw _ (List.mem_of_getElem? (i := 53) rfl)) (hw _ (List.mem_of_getElem? (i := 2) rfl)) (by decide) (by decide)) q16a q16c (g := (mkF m 37 #[.val (.long q0), .second, .val (.long q1), .second, .val (.int p2), .val (.ref b1), .val (.ref b3), .val (.int (0 : Int32)), .unset, .unset, .unset, .unset, .unset] [(.long (q1 &&& (9223372036854775807 : Int64))), (.ref b3), (.ref b1)])) rfl (by rw [hml]; rfl) (Steps.refl _) (argsL := [(.ref b3), (.long (q1 &&& (9223372036854775807 : Int64)))]) (rest := []) (lenOf own_pd1 rfl) rfl (by show 2 * 0 + _ ≤ _; exact Nat.le_of_eq rfl) (hb hby at_37) (fun _ _ => ⟨rfl, rfl, (by decide : 5 + 0 ≤ _), (by decide : 2071 + 0 ≤ _)⟩)
    dsimp only [Pt.U, Pt.locs, Pt.cells, Pt.slots] at X16 l16 y16 z16 st16 hQ16
    subst l16 y16 z16
    obtain ⟨rfl, N16q, K16, Ex16, Ff16, Fz16⟩ := hQ16
    have N16 := Fr.app N4 N16q
    have Z16 : n0 ≤ T16.heap.size := Nat.le_trans Z4 K16.1
    refine own_go (fun t k => st16.trans k) ?_
    show own_End p e below s (T16.setTop (mkF m 40 #[.val (.long q0), .second, .val (.long q1), .second, .val (.int p2), .val (.ref b1), .val (.ref b3), .val (.int (0 : Int32)), .unset, .unset, .unset, .unset, .unset] [(.int (0 : Int32))])) _ _ _
    refine own_go (fun t k => XS.istore X16.here hx rfl (hb hby at_40) rfl (l' := #[.val (.long q0), .second, .val (.long q1), .second, .val (.int p2), .val (.ref b1), .val (.ref b3), .val (.int (0 : Int32)), .unset, .unset, .unset, .unset, .unset]) rfl k) ?_
    show own_End p e below s (T16.setTop (mkF m 42 #[.val (.long q0), .second, .val (.long q1), .second, .val (.int p2), .val (.ref b1), .val (.ref b3), .val (.int (0 : Int32)), .unset, .unset, .unset, .unset, .unset] [])) _ _ _
    refine own_go (fun t k => XS.lloadN X16.here hx rfl (hb hby at_42) rfl k) ?_
    show own_End p e below s (T16.setTop (mkF m 43 #[.val (.long q0), .second, .val (.long q1), .second, .val (.int p2), .val (.ref b1), .val (.ref b3), .val (.int (0 : Int32)), .unset, .unset, .unset, .unset, .unset] [(.long q0)])) _ _ _
    refine own_go (fun t k => X16.ldc2Long hx hown (mvT hZ (hw _ (List.mem_of_getElem? (i := 30) rfl))) (g := (mkF m 43 #[.val (.long q0), .second, .val (.long q1), .second, .val (.int p2), .val (.ref b1), .val (.ref b3), .val (.int (0 : Int32)), .unset, .unset, .unset, .unset, .unset] [(.long q0)])) rfl (hb hby at_43) _ k) ?_
    show own_End p e below s (T16.setTop (mkF m 46 #[.val (.long q0), .second, .val (.long q1), .second, .val (.int p2), .val (.ref b1), .val (.ref b3), .val (.int (0 : Int32)), .unset, .unset, .unset, .unset, .unset] [(.long (4194303 : Int64)), (.long q0)])) _ _ _
    refine own_go (fun t k => XS.land X16.here hx rfl (hb hby at_46) rfl k) ?_
    show own_End p e below s (T16.setTop (mkF m 47 #[.val (.long q0), .second, .val (.long q1), .second, .val (.int p2), .val (.ref b1), .val (.ref b3), .val (.int (0 : Int32)), .unset, .unset, .unset, .unset, .unset] [(.long (q0 &&& (4194303 : Int64)))])) _ _ _
    refine own_go (fun t k => XS.lstore X16.here hx rfl (hb hby at_47) rfl (l' := #[.val (.long q0), .second, .val (.long q1), .second, .val (.int p2), .val (.ref b1), .val (.ref b3), .val (.int (0 : Int32)), .val (.long (q0 &&& (4194303 : Int64))), .second, .unset, .unset, .unset]) rfl k) ?_
    show own_End p e below s (T16.setTop (mkF m 49 #[.val (.long q0), .second, .val (.long q1), .second, .val (.int p2), .val (.ref b1), .val (.ref b3), .val (.int (0 : Int32)), .val (.long (q0 &&& (4194303 : Int64))), .second, .unset, .unset, .unset] [])) _ _ _
    refine own_go (fun t k => XS.aload X16.here hx rfl (hb hby at_49) rfl rfl k) ?_
    show own_End p e below s (T16.setTop (mkF m 51 #[.val (.long q0), .second, .val (.long q1), .second, .val (.int p2), .val (.ref b1), .val (.ref b3), .val (.int (0 : Int32)), .val (.long (q0 &&& (4194303 : Int64))), .second, .unset, .unset, .unset] [(.ref b1)])) _ _ _
    refine own_go (fun t k => XS.lloadN X16.here hx rfl (hb hby at_51) rfl k) ?_
    show own_End p e below s (T16.setTop (mkF m 52 #[.val (.long q0), .second, .val (.long q1), .second, .val (.int p2), .val (.ref b1), .val (.ref b3), .val (.int (0 : Int32)), .val (.long (q0 &&& (4194303 : Int64))), .second, .unset, .unset, .unset] [(.long q0), (.ref b1)])) _ _ _
    obtain ⟨cq17, kq17, q17a, q17b, q17c⟩ := isOf hZ rfl Ex16
    obtain ⟨_, _, ⟨T17, L17, k17, n17⟩, -, X17, ⟨Lc17, hQ17, l17, y17, z17⟩, st17⟩ := X16.virtualBack hx (y := (⟨"com/example/appoint/appoint/queue/TaskWheel", "covers", "(J)Z"⟩ : MethodName)) (z := (⟨"com/example/appoint/appoint/queue/TaskWheel", "covers", "(J)Z"⟩ : MethodName)) hown (mvT hZ (hw _ (List.mem_of_getElem? (i := 31) rfl))) (mvT hZ (hw _ (List.mem_of_getElem? (i := 32) rfl))) (notFace_of_selects (args := #[]) (mvT hZ (hw _ (List.mem_of_getElem? (i := 34) rfl)))) (mvT hZ (hw _ (List.mem_of_getElem? (i := 34) rfl))) (mvT hZ (hw _ (List.mem_of_getElem? (i := 33) rfl))) (by decide) (backOf (W := 0) (rm4 l Z a0 hw [] b1 q0 T16.heap n0 Z16 Ff16) hZ (hw _ (List.mem_of_getElem? (i := 35) rfl)) (hw _ (List.mem_of_getElem? (i := 2) rfl)) (by decide) (by decide)) q17a q17c (g := (mkF m 52 #[.val (.long q0), .second, .val (.long q1), .second, .val (.int p2), .val (.ref b1), .val (.ref b3), .val (.int (0 : Int32)), .val (.long (q0 &&& (4194303 : Int64))), .second, .unset, .unset, .unset] [(.long q0), (.ref b1)])) rfl (by rw [hml]; rfl) (Steps.refl _) (argsL := [(.long q0)]) (rest := []) (lenOf own_pd4 rfl) rfl (by show 2 * 0 + _ ≤ _; exact Nat.le_of_eq rfl) (hb hby at_52) (fun _ _ => ⟨rfl, rfl, (by decide : 5 + 0 ≤ _), (by decide : 2071 + 0 ≤ _)⟩)
    dsimp only [Pt.U, Pt.locs, Pt.cells, Pt.slots] at X17 l17 y17 z17 st17 hQ17
    subst l17 y17 z17
    obtain ⟨rfl, N17q, e17⟩ := hQ17
    have N17 := Fr.app N16 N17q
    refine own_go (fun t k => st17.trans k) ?_
    show own_End p e below s (T17.setTop (mkF m 55 #[.val (.long q0), .second, .val (.long q1), .second, .val (.int p2), .val (.ref b1), .val (.ref b3), .val (.int (0 : Int32)), .val (.long (q0 &&& (4194303 : Int64))), .second, .unset, .unset, .unset] [(.int (1 : Int32))])) _ _ _
    refine own_go (fun t k => XS.istore X17.here hx rfl (hb hby at_55) rfl (l' := #[.val (.long q0), .second, .val (.long q1), .second, .val (.int p2), .val (.ref b1), .val (.ref b3), .val (.int (0 : Int32)), .val (.long (q0 &&& (4194303 : Int64))), .second, .val (.int (1 : Int32)), .unset, .unset]) rfl k) ?_
    show own_End p e below s (T17.setTop (mkF m 57 #[.val (.long q0), .second, .val (.long q1), .second, .val (.int p2), .val (.ref b1), .val (.ref b3), .val (.int (0 : Int32)), .val (.long (q0 &&& (4194303 : Int64))), .second, .val (.int (1 : Int32)), .unset, .unset] [])) _ _ _
    refine own_go (fun t k => XS.aload X17.here hx rfl (hb hby at_57) rfl rfl k) ?_
    show own_End p e below s (T17.setTop (mkF m 59 #[.val (.long q0), .second, .val (.long q1), .second, .val (.int p2), .val (.ref b1), .val (.ref b3), .val (.int (0 : Int32)), .val (.long (q0 &&& (4194303 : Int64))), .second, .val (.int (1 : Int32)), .unset, .unset] [(.ref b1)])) _ _ _
    refine own_go (fun t k => XS.lload X17.here hx rfl (hb hby at_59) rfl k) ?_
    show own_End p e below s (T17.setTop (mkF m 61 #[.val (.long q0), .second, .val (.long q1), .second, .val (.int p2), .val (.ref b1), .val (.ref b3), .val (.int (0 : Int32)), .val (.long (q0 &&& (4194303 : Int64))), .second, .val (.int (1 : Int32)), .unset, .unset] [(.long (q0 &&& (4194303 : Int64))), (.ref b1)])) _ _ _
    obtain ⟨cq18, kq18, q18a, q18b, q18c⟩ := isOf hZ e17 Ex16
    obtain ⟨_, _, ⟨T18, L18, k18, n18⟩, -, X18, ⟨Lc18, hQ18, l18, y18, z18⟩, st18⟩ := X17.virtualBack hx (y := (⟨"com/example/appoint/appoint/queue/TaskWheel", "covers", "(J)Z"⟩ : MethodName)) (z := (⟨"com/example/appoint/appoint/queue/TaskWheel", "covers", "(J)Z"⟩ : MethodName)) hown (mvT hZ (hw _ (List.mem_of_getElem? (i := 31) rfl))) (mvT hZ (hw _ (List.mem_of_getElem? (i := 32) rfl))) (notFace_of_selects (args := #[]) (mvT hZ (hw _ (List.mem_of_getElem? (i := 34) rfl)))) (mvT hZ (hw _ (List.mem_of_getElem? (i := 34) rfl))) (mvT hZ (hw _ (List.mem_of_getElem? (i := 33) rfl))) (by decide) (backOf (W := 0) (rm4 l Z a0 hw [] b1 (q0 &&& (4194303 : Int64)) T16.heap n0 Z16 Ff16) hZ (hw _ (List.mem_of_getElem? (i := 35) rfl)) (hw _ (List.mem_of_getElem? (i := 2) rfl)) (by decide) (by decide)) q18a q18c (g := (mkF m 61 #[.val (.long q0), .second, .val (.long q1), .second, .val (.int p2), .val (.ref b1), .val (.ref b3), .val (.int (0 : Int32)), .val (.long (q0 &&& (4194303 : Int64))), .second, .val (.int (1 : Int32)), .unset, .unset] [(.long (q0 &&& (4194303 : Int64))), (.ref b1)])) rfl (by rw [hml]; rfl) (Steps.refl _) (argsL := [(.long (q0 &&& (4194303 : Int64)))]) (rest := []) (lenOf own_pd4 rfl) rfl (by show 2 * 0 + _ ≤ _; exact Nat.le_of_eq rfl) (hb hby at_61) (fun _ _ => ⟨rfl, e17, (by decide : 5 + 0 ≤ _), (by decide : 2071 + 0 ≤ _)⟩)
    dsimp only [Pt.U, Pt.locs, Pt.cells, Pt.slots] at X18 l18 y18 z18 st18 hQ18
    subst l18 y18 z18
    obtain ⟨rfl, N18q, e18⟩ := hQ18
    have N18 := Fr.app N17 N18q
    refine own_go (fun t k => st18.trans k) ?_
    show own_End p e below s (T18.setTop (mkF m 64 #[.val (.long q0), .second, .val (.long q1), .second, .val (.int p2), .val (.ref b1), .val (.ref b3), .val (.int (0 : Int32)), .val (.long (q0 &&& (4194303 : Int64))), .second, .val (.int (1 : Int32)), .unset, .unset] [(.int (1 : Int32))])) _ _ _
    refine own_go (fun t k => XS.istore X18.here hx rfl (hb hby at_64) rfl (l' := #[.val (.long q0), .second, .val (.long q1), .second, .val (.int p2), .val (.ref b1), .val (.ref b3), .val (.int (0 : Int32)), .val (.long (q0 &&& (4194303 : Int64))), .second, .val (.int (1 : Int32)), .val (.int (1 : Int32)), .unset]) rfl k) ?_
    show own_End p e below s (T18.setTop (mkF m 66 #[.val (.long q0), .second, .val (.long q1), .second, .val (.int p2), .val (.ref b1), .val (.ref b3), .val (.int (0 : Int32)), .val (.long (q0 &&& (4194303 : Int64))), .second, .val (.int (1 : Int32)), .val (.int (1 : Int32)), .unset] [])) _ _ _
    refine own_go (fun t k => XS.aload X18.here hx rfl (hb hby at_66) rfl rfl k) ?_
    show own_End p e below s (T18.setTop (mkF m 68 #[.val (.long q0), .second, .val (.long q1), .second, .val (.int p2), .val (.ref b1), .val (.ref b3), .val (.int (0 : Int32)), .val (.long (q0 &&& (4194303 : Int64))), .second, .val (.int (1 : Int32)), .val (.int (1 : Int32)), .unset] [(.ref b1)])) _ _ _
    refine own_go (fun t k => XS.lconst X18.here hx rfl (hb hby at_68) k) ?_
    show own_End p e below s (T18.setTop (mkF m 69 #[.val (.long q0), .second, .val (.long q1), .second, .val (.int p2), .val (.ref b1), .val (.ref b3), .val (.int (0 : Int32)), .val (.long (q0 &&& (4194303 : Int64))), .second, .val (.int (1 : Int32)), .val (.int (1 : Int32)), .unset] [(.long (0 : Int64)), (.ref b1)])) _ _ _
    obtain ⟨cq19, kq19, q19a, q19b, q19c⟩ := isOf hZ e18 Ex16
    obtain ⟨_, _, ⟨T19, L19, k19, n19⟩, -, X19, ⟨Lc19, hQ19, l19, y19, z19⟩, st19⟩ := X18.virtualBack hx (y := (⟨"com/example/appoint/appoint/queue/TaskWheel", "covers", "(J)Z"⟩ : MethodName)) (z := (⟨"com/example/appoint/appoint/queue/TaskWheel", "covers", "(J)Z"⟩ : MethodName)) hown (mvT hZ (hw _ (List.mem_of_getElem? (i := 31) rfl))) (mvT hZ (hw _ (List.mem_of_getElem? (i := 32) rfl))) (notFace_of_selects (args := #[]) (mvT hZ (hw _ (List.mem_of_getElem? (i := 34) rfl)))) (mvT hZ (hw _ (List.mem_of_getElem? (i := 34) rfl))) (mvT hZ (hw _ (List.mem_of_getElem? (i := 33) rfl))) (by decide) (backOf (W := 0) (rm4 l Z a0 hw [] b1 (0 : Int64) T16.heap n0 Z16 Ff16) hZ (hw _ (List.mem_of_getElem? (i := 35) rfl)) (hw _ (List.mem_of_getElem? (i := 2) rfl)) (by decide) (by decide)) q19a q19c (g := (mkF m 69 #[.val (.long q0), .second, .val (.long q1), .second, .val (.int p2), .val (.ref b1), .val (.ref b3), .val (.int (0 : Int32)), .val (.long (q0 &&& (4194303 : Int64))), .second, .val (.int (1 : Int32)), .val (.int (1 : Int32)), .unset] [(.long (0 : Int64)), (.ref b1)])) rfl (by rw [hml]; rfl) (Steps.refl _) (argsL := [(.long (0 : Int64))]) (rest := []) (lenOf own_pd4 rfl) rfl (by show 2 * 0 + _ ≤ _; exact Nat.le_of_eq rfl) (hb hby at_69) (fun _ _ => ⟨rfl, e18, (by decide : 5 + 0 ≤ _), (by decide : 2071 + 0 ≤ _)⟩)
    dsimp only [Pt.U, Pt.locs, Pt.cells, Pt.slots] at X19 l19 y19 z19 st19 hQ19
    subst l19 y19 z19
    obtain ⟨rfl, N19q, e19⟩ := hQ19
    have N19 := Fr.app N18 N19q
    refine own_go (fun t k => st19.trans k) ?_
    show own_End p e below s (T19.setTop (mkF m 72 #[.val (.long q0), .second, .val (.long q1), .second, .val (.int p2), .val (.ref b1), .val (.ref b3), .val (.int (0 : Int32)), .val (.long (q0 &&& (4194303 : Int64))), .second, .val (.int (1 : Int32)), .val (.int (1 : Int32)), .unset] [(.int (1 : Int32))])) _ _ _
    refine own_go (fun t k => XS.istore X19.here hx rfl (hb hby at_72) rfl (l' := #[.val (.long q0), .second, .val (.long q1), .second, .val (.int p2), .val (.ref b1), .val (.ref b3), .val (.int (0 : Int32)), .val (.long (q0 &&& (4194303 : Int64))), .second, .val (.int (1 : Int32)), .val (.int (1 : Int32)), .val (.int (1 : Int32))]) rfl k) ?_
    show own_End p e below s (T19.setTop (mkF m 74 #[.val (.long q0), .second, .val (.long q1), .second, .val (.int p2), .val (.ref b1), .val (.ref b3), .val (.int (0 : Int32)), .val (.long (q0 &&& (4194303 : Int64))), .second, .val (.int (1 : Int32)), .val (.int (1 : Int32)), .val (.int (1 : Int32))] [])) _ _ _
    refine own_go (fun t k => XS.iload X19.here hx rfl (hb hby at_74) rfl k) ?_
    show own_End p e below s (T19.setTop (mkF m 76 #[.val (.long q0), .second, .val (.long q1), .second, .val (.int p2), .val (.ref b1), .val (.ref b3), .val (.int (0 : Int32)), .val (.long (q0 &&& (4194303 : Int64))), .second, .val (.int (1 : Int32)), .val (.int (1 : Int32)), .val (.int (1 : Int32))] [(.int (0 : Int32))])) _ _ _
    refine own_go (fun t k => XS.ifNo X19.here hx rfl (hb hby at_76) rfl ((if0 _ _).trans (own_eq (x := (0 : Int32)) (y := (0 : Int32)) (i := 0) (j := 0) rfl rfl (by decide)).2) k) ?_
    show own_End p e below s (T19.setTop (mkF m 79 #[.val (.long q0), .second, .val (.long q1), .second, .val (.int p2), .val (.ref b1), .val (.ref b3), .val (.int (0 : Int32)), .val (.long (q0 &&& (4194303 : Int64))), .second, .val (.int (1 : Int32)), .val (.int (1 : Int32)), .val (.int (1 : Int32))] [])) _ _ _
    refine own_go (fun t k => XS.iload X19.here hx rfl (hb hby at_79) rfl k) ?_
    show own_End p e below s (T19.setTop (mkF m 81 #[.val (.long q0), .second, .val (.long q1), .second, .val (.int p2), .val (.ref b1), .val (.ref b3), .val (.int (0 : Int32)), .val (.long (q0 &&& (4194303 : Int64))), .second, .val (.int (1 : Int32)), .val (.int (1 : Int32)), .val (.int (1 : Int32))] [(.int (1 : Int32))])) _ _ _
    refine own_go (fun t k => XS.ifNo X19.here hx rfl (hb hby at_81) rfl ((if0 _ _).trans (own_ne (x := (1 : Int32)) (y := (0 : Int32)) (i := 1) (j := 0) rfl rfl (by decide)).1) k) ?_
    show own_End p e below s (T19.setTop (mkF m 84 #[.val (.long q0), .second, .val (.long q1), .second, .val (.int p2), .val (.ref b1), .val (.ref b3), .val (.int (0 : Int32)), .val (.long (q0 &&& (4194303 : Int64))), .second, .val (.int (1 : Int32)), .val (.int (1 : Int32)), .val (.int (1 : Int32))] [])) _ _ _
    refine own_go (fun t k => XS.iload X19.here hx rfl (hb hby at_84) rfl k) ?_
    show own_End p e below s (T19.setTop (mkF m 86 #[.val (.long q0), .second, .val (.long q1), .second, .val (.int p2), .val (.ref b1), .val (.ref b3), .val (.int (0 : Int32)), .val (.long (q0 &&& (4194303 : Int64))), .second, .val (.int (1 : Int32)), .val (.int (1 : Int32)), .val (.int (1 : Int32))] [(.int (1 : Int32))])) _ _ _
    refine own_go (fun t k => XS.ifNo X19.here hx rfl (hb hby at_86) rfl ((if0 _ _).trans (own_ne (x := (1 : Int32)) (y := (0 : Int32)) (i := 1) (j := 0) rfl rfl (by decide)).1) k) ?_
    show own_End p e below s (T19.setTop (mkF m 89 #[.val (.long q0), .second, .val (.long q1), .second, .val (.int p2), .val (.ref b1), .val (.ref b3), .val (.int (0 : Int32)), .val (.long (q0 &&& (4194303 : Int64))), .second, .val (.int (1 : Int32)), .val (.int (1 : Int32)), .val (.int (1 : Int32))] [])) _ _ _
    refine own_go (fun t k => XS.iload X19.here hx rfl (hb hby at_89) rfl k) ?_
    show own_End p e below s (T19.setTop (mkF m 91 #[.val (.long q0), .second, .val (.long q1), .second, .val (.int p2), .val (.ref b1), .val (.ref b3), .val (.int (0 : Int32)), .val (.long (q0 &&& (4194303 : Int64))), .second, .val (.int (1 : Int32)), .val (.int (1 : Int32)), .val (.int (1 : Int32))] [(.int (1 : Int32))])) _ _ _
    refine own_go (fun t k => XS.ifNo X19.here hx rfl (hb hby at_91) rfl ((if0 _ _).trans (own_ne (x := (1 : Int32)) (y := (0 : Int32)) (i := 1) (j := 0) rfl rfl (by decide)).1) k) ?_
    show own_End p e below s (T19.setTop (mkF m 94 #[.val (.long q0), .second, .val (.long q1), .second, .val (.int p2), .val (.ref b1), .val (.ref b3), .val (.int (0 : Int32)), .val (.long (q0 &&& (4194303 : Int64))), .second, .val (.int (1 : Int32)), .val (.int (1 : Int32)), .val (.int (1 : Int32))] [])) _ _ _
    refine own_go (fun t k => XS.aload X19.here hx rfl (hb hby at_94) rfl rfl k) ?_
    show own_End p e below s (T19.setTop (mkF m 96 #[.val (.long q0), .second, .val (.long q1), .second, .val (.int p2), .val (.ref b1), .val (.ref b3), .val (.int (0 : Int32)), .val (.long (q0 &&& (4194303 : Int64))), .second, .val (.int (1 : Int32)), .val (.int (1 : Int32)), .val (.int (1 : Int32))] [(.ref b1)])) _ _ _
    obtain ⟨cq20, kq20, q20a, q20b, q20c⟩ := isOf hZ e19 Ex16
    obtain ⟨_, _, ⟨T20, L20, k20, n20⟩, -, X20, ⟨Lc20, hQ20, l20, y20, z20⟩, st20⟩ := X19.virtualBack hx (y := (⟨"com/example/appoint/appoint/queue/TaskWheel", "size", "()I"⟩ : MethodName)) (z := (⟨"com/example/appoint/appoint/queue/TaskWheel", "size", "()I"⟩ : MethodName)) hown (mvT hZ (hw _ (List.mem_of_getElem? (i := 41) rfl))) (mvT hZ (hw _ (List.mem_of_getElem? (i := 42) rfl))) (notFace_of_selects (args := #[]) (mvT hZ (hw _ (List.mem_of_getElem? (i := 44) rfl)))) (mvT hZ (hw _ (List.mem_of_getElem? (i := 44) rfl))) (mvT hZ (hw _ (List.mem_of_getElem? (i := 43) rfl))) (by decide) (backOf (W := 0) (rm5 l Z a0 hw [] b1 T16.heap n0 Z16 Fz16) hZ (hw _ (List.mem_of_getElem? (i := 45) rfl)) (hw _ (List.mem_of_getElem? (i := 2) rfl)) (by decide) (by decide)) q20a q20c (g := (mkF m 96 #[.val (.long q0), .second, .val (.long q1), .second, .val (.int p2), .val (.ref b1), .val (.ref b3), .val (.int (0 : Int32)), .val (.long (q0 &&& (4194303 : Int64))), .second, .val (.int (1 : Int32)), .val (.int (1 : Int32)), .val (.int (1 : Int32))] [(.ref b1)])) rfl (by rw [hml]; rfl) (Steps.refl _) (argsL := []) (rest := []) (lenOf own_pd5 rfl) rfl (by show 2 * 0 + _ ≤ _; exact Nat.le_of_eq rfl) (hb hby at_96) (fun _ _ => ⟨rfl, e19, (by decide : 5 + 0 ≤ _), (by decide : 2071 + 0 ≤ _)⟩)
    dsimp only [Pt.U, Pt.locs, Pt.cells, Pt.slots] at X20 l20 y20 z20 st20 hQ20
    subst l20 y20 z20
    obtain ⟨rfl, N20q, e20⟩ := hQ20
    have N20 := Fr.app N19 N20q
    refine own_go (fun t k => st20.trans k) ?_
    show own_End p e below s (T20.setTop (mkF m 99 #[.val (.long q0), .second, .val (.long q1), .second, .val (.int p2), .val (.ref b1), .val (.ref b3), .val (.int (0 : Int32)), .val (.long (q0 &&& (4194303 : Int64))), .second, .val (.int (1 : Int32)), .val (.int (1 : Int32)), .val (.int (1 : Int32))] [(.int (0 : Int32))])) _ _ _
    refine own_go (fun t k => XS.ifNo X20.here hx rfl (hb hby at_99) rfl ((if0 _ _).trans (own_eq (x := (0 : Int32)) (y := (0 : Int32)) (i := 0) (j := 0) rfl rfl (by decide)).2) k) ?_
    show own_End p e below s (T20.setTop (mkF m 102 #[.val (.long q0), .second, .val (.long q1), .second, .val (.int p2), .val (.ref b1), .val (.ref b3), .val (.int (0 : Int32)), .val (.long (q0 &&& (4194303 : Int64))), .second, .val (.int (1 : Int32)), .val (.int (1 : Int32)), .val (.int (1 : Int32))] [])) _ _ _
    refine own_go (fun t k => XS.iconst X20.here hx rfl (hb hby at_102) k) ?_
    show own_End p e below s (T20.setTop (mkF m 103 #[.val (.long q0), .second, .val (.long q1), .second, .val (.int p2), .val (.ref b1), .val (.ref b3), .val (.int (0 : Int32)), .val (.long (q0 &&& (4194303 : Int64))), .second, .val (.int (1 : Int32)), .val (.int (1 : Int32)), .val (.int (1 : Int32))] [(.int (1 : Int32))])) _ _ _
    refine own_go (fun t k => XS.goto X20.here hx rfl (pc0 := 103) (pc' := 107) rfl (hb hby at_103) (by decide) (by decide) k) ?_
    show own_End p e below s (T20.setTop (mkF m 107 #[.val (.long q0), .second, .val (.long q1), .second, .val (.int p2), .val (.ref b1), .val (.ref b3), .val (.int (0 : Int32)), .val (.long (q0 &&& (4194303 : Int64))), .second, .val (.int (1 : Int32)), .val (.int (1 : Int32)), .val (.int (1 : Int32))] [(.int (1 : Int32))])) _ _ _
    refine own_ret X20 (v := some (.int (1 : Int32))) (fun h => by rw [Bd.returns] at h; cases h) Bd.notSynchronized (fun fs hr => retN X20 hx (t := .boolean) Bd.returns (by simp) (hb hby at_107) hr) ?_ (by decide) (by decide)
    · exact ⟨rfl, N20⟩
set_option maxRecDepth 65536 in
set_option maxHeartbeats 40000000 in
theorem comes_1 {Post : Tables → Env → Array Value → State → Outcome → State → Prop} (hpost : ∀ tb e args s v u, (limb_1_1.after args s (.returned v) u = true ∧ limb_1_2.after args s (.returned v) u = true ∧ True) → FrameEnd s (.returned v) u (Jvm.fieldLocs frame_1_writes args s ++ Jvm.arrayLocs frame_1_arrays args s ++ Jvm.staticLocs frame_1_statics s) 24 4224 → Post tb e args s (.returned v) u) :
    ArmFor flags0 classFile x code maxLocals ret World_1 tables_1 room_1 Calls_1 rest_1 Pre_1 Post := by
  intro l hfl _ _ p e ha hc hk s m args below hf hA hF happ hP
  obtain ⟨hcalls, hrest, hpre⟩ := hP
  obtain ⟨-, -, -, hnamed, -, -, -, hat⟩ := (Spec.applies_iff hf).mp happ
  obtain ⟨hg, hn⟩ := and_e (Cond.before_iff.mp (show (Jvm.Cond.and given_1 narrow_1).before args s = true from hpre))
  obtain ⟨gc, gr0⟩ := and_e hg
  obtain ⟨ga0, gr1⟩ := and_e gr0
  obtain ⟨ga1, gr2⟩ := and_e gr1
  have ga2 := gr2
  obtain ⟨w0, w1, w2, rfl⟩ : ∃ w0 w1 w2 : Value, args = #[w0, w1, w2] := by
    have hs : args.size = 3 := by simpa [Cond.value, given_1] using gc
    obtain ⟨L⟩ := args
    match L, hs with
    | [w0, w1, w2], _ => exact ⟨w0, w1, w2, rfl⟩
  have hw := fun d (hd : d ∈ tables_1) => atoms_spec (ws := Jvm.Cond.code x code maxLocals ret :: tables_1) hat d (List.mem_cons_of_mem _ hd)
  obtain ⟨i0, ei0⟩ := isL_v ga0
  obtain rfl : w0 = (.long i0) := Option.some.inj ei0
  obtain ⟨i1, ei1⟩ := isL_v ga1
  obtain rfl : w1 = (.long i1) := Option.some.inj ei1
  obtain ⟨i2, ei2⟩ := is_v ga2
  obtain rfl : w2 = (.int i2) := Option.some.inj ei2
  obtain ⟨n, o, h1, h2, h3, _, L, rfl, ⟨rfl, N⟩, hq⟩ := rm0 l s _ hw tables_1 i0 i1 i2  s.heap s.heap.size (Nat.le_refl _)  p e ha hc hk s m _ below hf ((Spec.applies_iff_loose hf).mp happ).1 ⟨rfl, State.Warmed39.refl s, rfl⟩ trivial
  refine ⟨n, _, h1, h2, h3, hpost _ _ _ _ _ _ ⟨Cond.after_iff.mpr rfl, Cond.after_iff.mpr (eq_i res_at (Term.int_eval (1)) rfl), trivial⟩ ⟨hq.1, hq.2.1, (hq.2.2.sift fun y hy => Or.inr (N y hy)).mono (by decide) (by decide)⟩⟩
theorem main_1_1 : Claimed_1_1 := comes_1 fun _ _ _ _ _ _ h hF => ⟨h.1, hF⟩
theorem main_1_2 : Claimed_1_2 := comes_1 fun _ _ _ _ _ _ h hF => ⟨h.2.1, hF⟩
end Jvm.Pilot.@@N@@
namespace Jvm.Pilot.@@N@@
open Jvm Jvm.ClassFile Sem Op Lib Jvm.Free Jvm.Stand Jvm.Pilot.@@N@@.Jvm.D
/-! MADE BY PROGRAM (witnessworld.py) out of the Statement's table words and the real class files: 20 classes; the members and pool entries that the words name. The judged class is class 1, her method 1. -/
namespace start1
open Jvm.ClassFile
def u (s : String) : CpInfo := .utf8 (stringToUtf16 s)
/-- a pool by its gaps: so many unusable entries, then the entry; so many at the end -/
def gap : Nat → List CpInfo → List CpInfo
  | 0, r => r
  | n + 1, r => .unusable :: gap n r
def poolList (es : List (Nat × CpInfo)) (last : Nat) : List CpInfo := es.foldr (fun e r => gap e.1 (e.2 :: r)) (gap last [])
def pool (es : List (Nat × CpInfo)) (last : Nat) : Array CpInfo := ⟨poolList es last⟩
def fileOf (pool : Array CpInfo) (this : Nat) (attrs : Array Attribute := #[]) (ms : Array MethodInfo := #[]) (fl : Nat := 33) (sup : Nat := 0) (ifs : Array Nat := #[]) (fds : Array FieldInfo := #[]) : ClassFile where
  minorVersion := 0
  majorVersion := 65
  constantPool := pool
  accessFlags := fl
  thisClass := this
  superClass := sup
  interfaces := ifs
  fields := fds
  methods := ms
  attributes := attrs
def plain (name : String) (sup : Option ClassId) : Class where
  name := name
  kind := .ordinary
  loader := none
  accessFlags := 33
  super := sup
  interfaces := #[]
  cf := none
  fields := #[]
  methods := #[]
  instanceTypes := #[]
  staticTypes := #[]
  resolved := #[]
  callSites := []
  init := .initialized
  statics := none
  mirror := none

def pool0 : Array CpInfo := pool [(5, u "<init>"), (0, u "()V"), (1, .class_ 10), (1, u "java/lang/Object")] 113

def k0c0 : Code := { maxStack := 0, maxLocals := 1, code := object_method_1_code, exceptionTable := #[], attributes := #[] }
def k0m0 : Method := { name := "<init>", desc := "()V", sig := { parameters := [], returnType := none }, accessFlags := 1, code := some k0c0 }
/-- java/lang/Object -/
def k0 : Class := { plain "java/lang/Object" none with
  accessFlags := 33
  interfaces := #[]
  cf := some (fileOf pool0 8 #[] #[{ accessFlags := 1, nameIndex := 5, descriptorIndex := 6, attributes := #[] }] 33 0 #[] #[])
  fields := #[]
  methods := #[k0m0]
  instanceTypes := #[]
  staticTypes := #[]
  resolved := Array.replicate 124 none
  statics := none }

def pool1 : Array CpInfo := pool [(2, .class_ 4), (0, .nameAndType 5 6), (0, u "java/lang/Object"), (0, u "<init>"), (0, u "()V"), (0, .class_ 8), (0, u "com/example/appoint/appoint/queue/TaskWheel"), (0, .methodref 7 3), (0, .class_ 11), (0, u "com/example/appoint/appoint/queue/TaskHeap"), (0, .methodref 10 3), (2, .long 9223372036854775807), (1, .methodref 7 18), (0, .nameAndType 19 20), (0, u "pullNear"), (0, u "(Lcom/example/appoint/appoint/queue/TaskHeap;J)Z"), (0, .long 4194303), (1, .methodref 7 24), (0, .nameAndType 25 26), (0, u "covers"), (0, u "(J)Z"), (0, .methodref 7 28), (0, .nameAndType 29 30), (0, u "size"), (0, u "()I"), (0, .class_ 32), (0, u "com/example/appoint/appoint/queue/TaskWheelCoversPinLaw"), (2, u "law"), (0, u "(JJI)Z")] 3

def k1m0 : Method := { name := "<init>", desc := "()V", sig := { parameters := [], returnType := none }, accessFlags := 1, code := none }
def k1c1 : Code := { maxStack := 6, maxLocals := 13, code := code, exceptionTable := #[], attributes := #[] }
def k1m1 : Method := { name := "law", desc := "(JJI)Z", sig := { parameters := [.long, .long, .int], returnType := some .boolean }, accessFlags := 9, code := some k1c1 }
/-- com/example/appoint/appoint/queue/TaskWheelCoversPinLaw -/
def k1 : Class := { plain "com/example/appoint/appoint/queue/TaskWheelCoversPinLaw" (some 0) with
  accessFlags := 49
  interfaces := #[]
  cf := some (fileOf pool1 31 #[] #[{ accessFlags := 1, nameIndex := 5, descriptorIndex := 6, attributes := #[] }, { accessFlags := 9, nameIndex := 35, descriptorIndex := 36, attributes := #[] }] 49 2 #[] #[])
  fields := #[]
  methods := #[k1m0, k1m1]
  instanceTypes := #[]
  staticTypes := #[]
  resolved := Array.replicate 40 none
  statics := none }

def pool2 : Array CpInfo := pool [(3, .class_ 4), (0, u "com/example/appoint/appoint/queue/TaskWheel"), (2, .methodref 8 9), (0, .class_ 10), (0, .nameAndType 11 12), (0, u "java/lang/Object"), (0, u "<init>"), (0, u "()V"), (0, .class_ 14), (0, u "[Lcom/example/appoint/appoint/task/ScheduledTask;"), (0, .fieldref 3 16), (0, .nameAndType 17 18), (0, u "buckets"), (0, u "[[Lcom/example/appoint/appoint/task/ScheduledTask;"), (0, .fieldref 3 20), (0, .nameAndType 21 22), (0, u "sizes"), (0, u "[I"), (0, .long 9223372036854775807), (1, .fieldref 3 26), (0, .nameAndType 27 28), (0, u "floor"), (0, u "J"), (0, .fieldref 3 30), (0, .nameAndType 31 32), (0, u "size"), (0, u "I"), (0, .methodref 3 34), (0, .nameAndType 35 36), (0, u "spanOf"), (0, u "(J)J"), (0, .fieldref 3 38), (0, .nameAndType 39 28), (0, u "front"), (18, .methodref 59 60), (0, .class_ 61), (0, .nameAndType 62 63), (0, u "java/lang/Math"), (0, u "min"), (0, u "(JJ)J"), (2, u "()I"), (7, .long 1024), (1, .methodref 3 77), (0, .nameAndType 78 79), (0, u "pull"), (0, u "(Lcom/example/appoint/appoint/queue/TaskHeap;J)Z"), (23, .long 18446744073709551615), (27, u "SPAN_SHIFT"), (2, u "LAST_SPAN"), (0, u "TURN"), (1, u "MOVED"), (0, u "SMALLEST_BUCKET"), (1, u "LARGEST_BUCKET"), (4, u "covers"), (0, u "(J)Z"), (3, u "pullNear")] 24

def k2c0 : Code := { maxStack := 3, maxLocals := 1, code := prog_13_method_1_code, exceptionTable := #[], attributes := #[] }
def k2m0 : Method := { name := "<init>", desc := "()V", sig := { parameters := [], returnType := none }, accessFlags := 0, code := some k2c0 }
def k2c1 : Code := { maxStack := 1, maxLocals := 1, code := prog_13_method_2_code, exceptionTable := #[], attributes := #[] }
def k2m1 : Method := { name := "size", desc := "()I", sig := { parameters := [], returnType := some .int }, accessFlags := 0, code := some k2c1 }
def k2c2 : Code := { maxStack := 4, maxLocals := 3, code := prog_13_method_3_code, exceptionTable := #[], attributes := #[] }
def k2m2 : Method := { name := "covers", desc := "(J)Z", sig := { parameters := [.long], returnType := some .boolean }, accessFlags := 0, code := some k2c2 }
def k2c3 : Code := { maxStack := 6, maxLocals := 6, code := prog_13_method_6_code, exceptionTable := #[], attributes := #[] }
def k2m3 : Method := { name := "pullNear", desc := "(Lcom/example/appoint/appoint/queue/TaskHeap;J)Z", sig := { parameters := [(.object "com/example/appoint/appoint/queue/TaskHeap"), .long], returnType := some .boolean }, accessFlags := 0, code := some k2c3 }
def k2c4 : Code := { maxStack := 3, maxLocals := 2, code := prog_13_method_10_code, exceptionTable := #[], attributes := #[] }
def k2m4 : Method := { name := "spanOf", desc := "(J)J", sig := { parameters := [.long], returnType := some .long }, accessFlags := 10, code := some k2c4 }
def k2c5 : Code := { maxStack := 8, maxLocals := 9, code := prog_13_method_12_code, exceptionTable := #[], attributes := #[] }
def k2m5 : Method := { name := "pull", desc := "(Lcom/example/appoint/appoint/queue/TaskHeap;J)Z", sig := { parameters := [(.object "com/example/appoint/appoint/queue/TaskHeap"), .long], returnType := some .boolean }, accessFlags := 2, code := some k2c5 }
/-- com/example/appoint/appoint/queue/TaskWheel -/
def k2 : Class := { plain "com/example/appoint/appoint/queue/TaskWheel" (some 0) with
  accessFlags := 48
  interfaces := #[]
  cf := some (fileOf pool2 3 #[] #[{ accessFlags := 0, nameIndex := 11, descriptorIndex := 12, attributes := #[] }, { accessFlags := 0, nameIndex := 31, descriptorIndex := 66, attributes := #[] }, { accessFlags := 0, nameIndex := 145, descriptorIndex := 146, attributes := #[] }, { accessFlags := 0, nameIndex := 150, descriptorIndex := 79, attributes := #[] }, { accessFlags := 10, nameIndex := 35, descriptorIndex := 36, attributes := #[] }, { accessFlags := 2, nameIndex := 78, descriptorIndex := 79, attributes := #[] }] 48 8 #[] #[{ accessFlags := 26, nameIndex := 131, descriptorIndex := 32, attributes := #[] }, { accessFlags := 26, nameIndex := 134, descriptorIndex := 28, attributes := #[] }, { accessFlags := 26, nameIndex := 135, descriptorIndex := 32, attributes := #[] }, { accessFlags := 26, nameIndex := 137, descriptorIndex := 28, attributes := #[] }, { accessFlags := 26, nameIndex := 138, descriptorIndex := 32, attributes := #[] }, { accessFlags := 26, nameIndex := 140, descriptorIndex := 32, attributes := #[] }, { accessFlags := 18, nameIndex := 17, descriptorIndex := 18, attributes := #[] }, { accessFlags := 18, nameIndex := 21, descriptorIndex := 22, attributes := #[] }, { accessFlags := 2, nameIndex := 31, descriptorIndex := 32, attributes := #[] }, { accessFlags := 2, nameIndex := 39, descriptorIndex := 28, attributes := #[] }, { accessFlags := 2, nameIndex := 27, descriptorIndex := 28, attributes := #[] }])
  fields := #[{ name := "SPAN_SHIFT", type := .int, accessFlags := 26, slot := 0, constantValue := 0 }, { name := "LAST_SPAN", type := .long, accessFlags := 26, slot := 1, constantValue := 0 }, { name := "TURN", type := .int, accessFlags := 26, slot := 2, constantValue := 0 }, { name := "MOVED", type := .long, accessFlags := 26, slot := 3, constantValue := 0 }, { name := "SMALLEST_BUCKET", type := .int, accessFlags := 26, slot := 4, constantValue := 0 }, { name := "LARGEST_BUCKET", type := .int, accessFlags := 26, slot := 5, constantValue := 0 }, { name := "buckets", type := (.array (.array (.object "com/example/appoint/appoint/task/ScheduledTask"))), accessFlags := 18, slot := 0, constantValue := 0 }, { name := "sizes", type := (.array .int), accessFlags := 18, slot := 1, constantValue := 0 }, { name := "size", type := .int, accessFlags := 2, slot := 2, constantValue := 0 }, { name := "front", type := .long, accessFlags := 2, slot := 3, constantValue := 0 }, { name := "floor", type := .long, accessFlags := 2, slot := 4, constantValue := 0 }]
  methods := #[k2m0, k2m1, k2m2, k2m3, k2m4, k2m5]
  instanceTypes := #[(.array (.array (.object "com/example/appoint/appoint/task/ScheduledTask"))), (.array .int), .int, .long, .long]
  staticTypes := #[.int, .long, .int, .long, .int, .int]
  resolved := Array.replicate 175 none
  statics := none }

def pool3 : Array CpInfo := pool [(3, .methodref 4 5), (0, .class_ 6), (0, .nameAndType 7 8), (0, u "java/lang/Object"), (0, u "<init>"), (0, u "()V"), (0, .class_ 10), (0, u "com/example/appoint/appoint/queue/TaskHeap"), (0, .class_ 12), (0, u "com/example/appoint/appoint/task/ScheduledTask"), (0, .fieldref 9 14), (0, .nameAndType 15 16), (0, u "tasks"), (0, u "[Lcom/example/appoint/appoint/task/ScheduledTask;"), (2, u "size"), (0, u "I"), (70, u "INITIAL_CAPACITY"), (2, u "MAX_CAPACITY")] 35

def k3c0 : Code := { maxStack := 2, maxLocals := 1, code := prog_10_method_1_code, exceptionTable := #[], attributes := #[] }
def k3m0 : Method := { name := "<init>", desc := "()V", sig := { parameters := [], returnType := none }, accessFlags := 0, code := some k3c0 }
/-- com/example/appoint/appoint/queue/TaskHeap -/
def k3 : Class := { plain "com/example/appoint/appoint/queue/TaskHeap" (some 0) with
  accessFlags := 48
  interfaces := #[]
  cf := some (fileOf pool3 9 #[] #[{ accessFlags := 0, nameIndex := 7, descriptorIndex := 8, attributes := #[] }] 48 4 #[] #[{ accessFlags := 26, nameIndex := 91, descriptorIndex := 20, attributes := #[] }, { accessFlags := 26, nameIndex := 94, descriptorIndex := 20, attributes := #[] }, { accessFlags := 2, nameIndex := 15, descriptorIndex := 16, attributes := #[] }, { accessFlags := 2, nameIndex := 19, descriptorIndex := 20, attributes := #[] }])
  fields := #[{ name := "INITIAL_CAPACITY", type := .int, accessFlags := 26, slot := 0, constantValue := 0 }, { name := "MAX_CAPACITY", type := .int, accessFlags := 26, slot := 1, constantValue := 0 }, { name := "tasks", type := (.array (.object "com/example/appoint/appoint/task/ScheduledTask")), accessFlags := 2, slot := 0, constantValue := 0 }, { name := "size", type := .int, accessFlags := 2, slot := 1, constantValue := 0 }]
  methods := #[k3m0]
  instanceTypes := #[(.array (.object "com/example/appoint/appoint/task/ScheduledTask")), .int]
  staticTypes := #[.int, .int]
  resolved := Array.replicate 130 none
  statics := none }

def pool4 : Array CpInfo := pool [(1, .class_ 2), (0, u "java/lang/Runnable"), (0, .class_ 4), (0, u "java/lang/Object")] 6

/-- java/lang/Runnable -/
def k4 : Class := { plain "java/lang/Runnable" (some 0) with
  accessFlags := 1537
  interfaces := #[]
  cf := some (fileOf pool4 1 #[] #[] 1537 3 #[] #[])
  fields := #[]
  methods := #[]
  instanceTypes := #[]
  staticTypes := #[]
  resolved := Array.replicate 11 none
  statics := none }

def pool5 : Array CpInfo := pool [(2, .class_ 4), (1, u "java/util/concurrent/Future"), (44, .class_ 51), (1, u "java/util/concurrent/Future$State"), (11, .class_ 64), (0, u "java/lang/Object")] 35

/-- java/util/concurrent/Future -/
def k5 : Class := { plain "java/util/concurrent/Future" (some 0) with
  accessFlags := 1537
  interfaces := #[]
  cf := some (fileOf pool5 2 #[.nestMembers #[49]] #[] 1537 63 #[] #[])
  fields := #[]
  methods := #[]
  instanceTypes := #[]
  staticTypes := #[]
  resolved := Array.replicate 100 none
  statics := none }

def pool6 : Array CpInfo := pool [(1, .class_ 2), (0, u "java/util/concurrent/RunnableFuture"), (0, .class_ 4), (0, u "java/lang/Object"), (0, .class_ 6), (0, u "java/lang/Runnable"), (0, .class_ 8), (0, u "java/util/concurrent/Future")] 6

/-- java/util/concurrent/RunnableFuture -/
def k6 : Class := { plain "java/util/concurrent/RunnableFuture" (some 0) with
  accessFlags := 1537
  interfaces := #[4, 5]
  cf := some (fileOf pool6 1 #[] #[] 1537 3 #[5, 7] #[])
  fields := #[]
  methods := #[]
  instanceTypes := #[]
  staticTypes := #[]
  resolved := Array.replicate 15 none
  statics := none }

def pool7 : Array CpInfo := pool [(1, .class_ 2), (0, u "java/lang/Comparable"), (0, .class_ 4), (0, u "java/lang/Object")] 7

/-- java/lang/Comparable -/
def k7 : Class := { plain "java/lang/Comparable" (some 0) with
  accessFlags := 1537
  interfaces := #[]
  cf := some (fileOf pool7 1 #[] #[] 1537 3 #[] #[])
  fields := #[]
  methods := #[]
  instanceTypes := #[]
  staticTypes := #[]
  resolved := Array.replicate 12 none
  statics := none }

def pool8 : Array CpInfo := pool [(1, .class_ 2), (0, u "java/util/concurrent/Delayed"), (0, .class_ 4), (0, u "java/lang/Object"), (0, .class_ 6), (0, u "java/lang/Comparable")] 6

/-- java/util/concurrent/Delayed -/
def k8 : Class := { plain "java/util/concurrent/Delayed" (some 0) with
  accessFlags := 1537
  interfaces := #[7]
  cf := some (fileOf pool8 1 #[] #[] 1537 3 #[5] #[])
  fields := #[]
  methods := #[]
  instanceTypes := #[]
  staticTypes := #[]
  resolved := Array.replicate 13 none
  statics := none }

def pool9 : Array CpInfo := pool [(1, .class_ 2), (0, u "java/util/concurrent/ScheduledFuture"), (0, .class_ 4), (0, u "java/lang/Object"), (0, .class_ 6), (0, u "java/util/concurrent/Delayed"), (0, .class_ 8), (0, u "java/util/concurrent/Future")] 4

/-- java/util/concurrent/ScheduledFuture -/
def k9 : Class := { plain "java/util/concurrent/ScheduledFuture" (some 0) with
  accessFlags := 1537
  interfaces := #[8, 5]
  cf := some (fileOf pool9 1 #[] #[] 1537 3 #[5, 7] #[])
  fields := #[]
  methods := #[]
  instanceTypes := #[]
  staticTypes := #[]
  resolved := Array.replicate 13 none
  statics := none }

def pool10 : Array CpInfo := pool [(1, .class_ 2), (0, u "java/util/concurrent/RunnableScheduledFuture"), (0, .class_ 4), (0, u "java/lang/Object"), (0, .class_ 6), (0, u "java/util/concurrent/RunnableFuture"), (0, .class_ 8), (0, u "java/util/concurrent/ScheduledFuture")] 6

/-- java/util/concurrent/RunnableScheduledFuture -/
def k10 : Class := { plain "java/util/concurrent/RunnableScheduledFuture" (some 0) with
  accessFlags := 1537
  interfaces := #[6, 9]
  cf := some (fileOf pool10 1 #[] #[] 1537 3 #[5, 7] #[])
  fields := #[]
  methods := #[]
  instanceTypes := #[]
  staticTypes := #[]
  resolved := Array.replicate 15 none
  statics := none }

def pool11 : Array CpInfo := pool [(2, .class_ 4), (1, u "java/lang/Object"), (2, .class_ 8), (0, u "com/example/appoint/appoint/task/ScheduledTask"), (2, u "slot"), (0, u "I"), (2, u "dueTime"), (0, u "J"), (2, u "sequence"), (10, u "holderOrLock"), (0, u "Ljava/lang/Object;"), (17, u "UNREPORTED"), (0, u "Lcom/example/appoint/appoint/task/TaskFailures;"), (8, u "STATE"), (0, u "Ljava/lang/invoke/VarHandle;"), (8, u "RUNNER_OR_OUTCOME"), (12, u "state"), (111, u "runnerOrOutcome"), (38, .class_ 234), (0, u "com/example/appoint/appoint/task/ScheduledTask$WaitLock"), (5, u "HOLDER_OR_LOCK"), (13, .class_ 255), (0, u "com/example/appoint/appoint/task/ScheduledTask$1"), (27, .class_ 284), (0, u "java/util/concurrent/RunnableScheduledFuture"), (0, u "NO_SLOT"), (2, u "PENDING"), (1, u "RUNNING"), (1, u "ENDING"), (1, u "COMPLETED"), (1, u "FAILED"), (1, u "CANCELLED"), (1, u "INTERRUPTING")] 52

/-- com/example/appoint/appoint/task/ScheduledTask -/
def k11 : Class := { plain "com/example/appoint/appoint/task/ScheduledTask" (some 0) with
  accessFlags := 1057
  interfaces := #[10]
  cf := some (fileOf pool11 7 #[.nestMembers #[233, 254]] #[] 1057 2 #[283] #[{ accessFlags := 25, nameIndex := 285, descriptorIndex := 12, attributes := #[] }, { accessFlags := 26, nameIndex := 288, descriptorIndex := 12, attributes := #[] }, { accessFlags := 26, nameIndex := 290, descriptorIndex := 12, attributes := #[] }, { accessFlags := 26, nameIndex := 292, descriptorIndex := 12, attributes := #[] }, { accessFlags := 26, nameIndex := 294, descriptorIndex := 12, attributes := #[] }, { accessFlags := 26, nameIndex := 296, descriptorIndex := 12, attributes := #[] }, { accessFlags := 26, nameIndex := 298, descriptorIndex := 12, attributes := #[] }, { accessFlags := 26, nameIndex := 300, descriptorIndex := 12, attributes := #[] }, { accessFlags := 26, nameIndex := 49, descriptorIndex := 50, attributes := #[] }, { accessFlags := 26, nameIndex := 59, descriptorIndex := 60, attributes := #[] }, { accessFlags := 26, nameIndex := 69, descriptorIndex := 60, attributes := #[] }, { accessFlags := 26, nameIndex := 240, descriptorIndex := 60, attributes := #[] }, { accessFlags := 66, nameIndex := 15, descriptorIndex := 16, attributes := #[] }, { accessFlags := 2, nameIndex := 19, descriptorIndex := 16, attributes := #[] }, { accessFlags := 2, nameIndex := 11, descriptorIndex := 12, attributes := #[] }, { accessFlags := 66, nameIndex := 82, descriptorIndex := 12, attributes := #[] }, { accessFlags := 2, nameIndex := 194, descriptorIndex := 31, attributes := #[] }, { accessFlags := 66, nameIndex := 30, descriptorIndex := 31, attributes := #[] }])
  fields := #[{ name := "NO_SLOT", type := .int, accessFlags := 25, slot := 0, constantValue := 0 }, { name := "PENDING", type := .int, accessFlags := 26, slot := 1, constantValue := 0 }, { name := "RUNNING", type := .int, accessFlags := 26, slot := 2, constantValue := 0 }, { name := "ENDING", type := .int, accessFlags := 26, slot := 3, constantValue := 0 }, { name := "COMPLETED", type := .int, accessFlags := 26, slot := 4, constantValue := 0 }, { name := "FAILED", type := .int, accessFlags := 26, slot := 5, constantValue := 0 }, { name := "CANCELLED", type := .int, accessFlags := 26, slot := 6, constantValue := 0 }, { name := "INTERRUPTING", type := .int, accessFlags := 26, slot := 7, constantValue := 0 }, { name := "UNREPORTED", type := (.object "com/example/appoint/appoint/task/TaskFailures"), accessFlags := 26, slot := 8, constantValue := 0 }, { name := "STATE", type := (.object "java/lang/invoke/VarHandle"), accessFlags := 26, slot := 9, constantValue := 0 }, { name := "RUNNER_OR_OUTCOME", type := (.object "java/lang/invoke/VarHandle"), accessFlags := 26, slot := 10, constantValue := 0 }, { name := "HOLDER_OR_LOCK", type := (.object "java/lang/invoke/VarHandle"), accessFlags := 26, slot := 11, constantValue := 0 }, { name := "dueTime", type := .long, accessFlags := 66, slot := 0, constantValue := 0 }, { name := "sequence", type := .long, accessFlags := 2, slot := 1, constantValue := 0 }, { name := "slot", type := .int, accessFlags := 2, slot := 2, constantValue := 0 }, { name := "state", type := .int, accessFlags := 66, slot := 3, constantValue := 0 }, { name := "runnerOrOutcome", type := (.object "java/lang/Object"), accessFlags := 2, slot := 4, constantValue := 0 }, { name := "holderOrLock", type := (.object "java/lang/Object"), accessFlags := 66, slot := 5, constantValue := 0 }]
  methods := #[]
  instanceTypes := #[.long, .long, .int, .int, (.object "java/lang/Object"), (.object "java/lang/Object")]
  staticTypes := #[.int, .int, .int, .int, .int, .int, .int, .int, (.object "com/example/appoint/appoint/task/TaskFailures"), (.object "java/lang/invoke/VarHandle"), (.object "java/lang/invoke/VarHandle"), (.object "java/lang/invoke/VarHandle")]
  resolved := Array.replicate 353 none
  statics := none }

def pool12 : Array CpInfo := pool [(1, .class_ 2), (0, u "java/lang/Math"), (1, .class_ 6), (1, u "java/lang/Object"), (0, u "<init>"), (0, u "()V"), (89, .class_ 100), (1, u "java/lang/Math$RandomNumberGeneratorHolder"), (20, u "(JJ)J"), (50, u "negativeZeroFloatBits"), (0, u "J"), (2, u "negativeZeroDoubleBits"), (24, u "min"), (43, u "$assertionsDisabled"), (0, u "Z"), (91, u "twoToTheDoubleScaleDown"), (0, u "D"), (4, u "twoToTheDoubleScaleUp"), (9, u "E"), (3, u "PI"), (2, u "TAU"), (2, u "DEGREES_TO_RADIANS"), (0, u "RADIANS_TO_DEGREES")] 94

def k12m0 : Method := { name := "<init>", desc := "()V", sig := { parameters := [], returnType := none }, accessFlags := 2, code := none }
def k12c1 : Code := { maxStack := 4, maxLocals := 4, code := jdk_29_method_70_code, exceptionTable := #[], attributes := #[] }
def k12m1 : Method := { name := "min", desc := "(JJ)J", sig := { parameters := [.long, .long], returnType := some .long }, accessFlags := 9, code := some k12c1 }
/-- java/lang/Math -/
def k12 : Class := { plain "java/lang/Math" (some 0) with
  accessFlags := 49
  interfaces := #[]
  cf := some (fileOf pool12 1 #[.nestMembers #[98]] #[{ accessFlags := 2, nameIndex := 7, descriptorIndex := 8, attributes := #[] }, { accessFlags := 9, nameIndex := 201, descriptorIndex := 121, attributes := #[] }] 49 4 #[] #[{ accessFlags := 25, nameIndex := 354, descriptorIndex := 339, attributes := #[] }, { accessFlags := 25, nameIndex := 358, descriptorIndex := 339, attributes := #[] }, { accessFlags := 25, nameIndex := 361, descriptorIndex := 339, attributes := #[] }, { accessFlags := 26, nameIndex := 364, descriptorIndex := 339, attributes := #[] }, { accessFlags := 26, nameIndex := 365, descriptorIndex := 339, attributes := #[] }, { accessFlags := 26, nameIndex := 172, descriptorIndex := 173, attributes := #[] }, { accessFlags := 26, nameIndex := 176, descriptorIndex := 173, attributes := #[] }, { accessFlags := 8, nameIndex := 344, descriptorIndex := 339, attributes := #[] }, { accessFlags := 8, nameIndex := 338, descriptorIndex := 339, attributes := #[] }, { accessFlags := 4120, nameIndex := 245, descriptorIndex := 246, attributes := #[] }])
  fields := #[{ name := "E", type := .double, accessFlags := 25, slot := 0, constantValue := 0 }, { name := "PI", type := .double, accessFlags := 25, slot := 1, constantValue := 0 }, { name := "TAU", type := .double, accessFlags := 25, slot := 2, constantValue := 0 }, { name := "DEGREES_TO_RADIANS", type := .double, accessFlags := 26, slot := 3, constantValue := 0 }, { name := "RADIANS_TO_DEGREES", type := .double, accessFlags := 26, slot := 4, constantValue := 0 }, { name := "negativeZeroFloatBits", type := .long, accessFlags := 26, slot := 5, constantValue := 0 }, { name := "negativeZeroDoubleBits", type := .long, accessFlags := 26, slot := 6, constantValue := 0 }, { name := "twoToTheDoubleScaleUp", type := .double, accessFlags := 8, slot := 7, constantValue := 0 }, { name := "twoToTheDoubleScaleDown", type := .double, accessFlags := 8, slot := 8, constantValue := 0 }, { name := "$assertionsDisabled", type := .boolean, accessFlags := 4120, slot := 9, constantValue := 0 }]
  methods := #[k12m0, k12m1]
  instanceTypes := #[]
  staticTypes := #[.double, .double, .double, .double, .double, .long, .long, .double, .double, .boolean]
  resolved := Array.replicate 460 none
  statics := none }

def pool13 : Array CpInfo := pool [(1, u "java/lang/Cloneable"), (0, .class_ 1), (0, u "java/lang/Object"), (0, .class_ 3)] 3

/-- java/lang/Cloneable -/
def k13 : Class := { plain "java/lang/Cloneable" (some 0) with
  accessFlags := 1537
  interfaces := #[]
  cf := some (fileOf pool13 2 #[] #[] 1537 4 #[] #[])
  fields := #[]
  methods := #[]
  instanceTypes := #[]
  staticTypes := #[]
  resolved := Array.replicate 8 none
  statics := none }

def pool14 : Array CpInfo := pool [(1, u "java/io/Serializable"), (0, .class_ 1), (0, u "java/lang/Object"), (0, .class_ 3)] 3

/-- java/io/Serializable -/
def k14 : Class := { plain "java/io/Serializable" (some 0) with
  accessFlags := 1537
  interfaces := #[]
  cf := some (fileOf pool14 2 #[] #[] 1537 4 #[] #[])
  fields := #[]
  methods := #[]
  instanceTypes := #[]
  staticTypes := #[]
  resolved := Array.replicate 8 none
  statics := none }

/-- the primitive byte -/
def k15 : Class := { plain "byte" none with kind := .primitive 'B', accessFlags := 0x411 }
/-- [B -/
def k16 : Class := { plain "[B" (some 0) with kind := .array 15 .byte, interfaces := #[13, 14], accessFlags := 1041 }

/-- the primitive int -/
def k17 : Class := { plain "int" none with kind := .primitive 'I', accessFlags := 0x411 }
/-- [I -/
def k18 : Class := { plain "[I" (some 0) with kind := .array 17 .int, interfaces := #[13, 14], accessFlags := 1041 }

/-- [Lcom/example/appoint/appoint/task/ScheduledTask; -/
def k19 : Class := { plain "[Lcom/example/appoint/appoint/task/ScheduledTask;" (some 0) with kind := .array 11 (.object "com/example/appoint/appoint/task/ScheduledTask"), interfaces := #[13, 14], accessFlags := 1041 }

/-- [[Lcom/example/appoint/appoint/task/ScheduledTask; -/
def k20 : Class := { plain "[[Lcom/example/appoint/appoint/task/ScheduledTask;" (some 0) with kind := .array 19 (.array (.object "com/example/appoint/appoint/task/ScheduledTask")), interfaces := #[13, 14], accessFlags := 1041 }

def heap : Heap := #[]
def classes : Array Class := #[k0, k1, k2, k3, k4, k5, k6, k7, k8, k9, k10, k11, k12, k13, k14, k15, k16, k17, k18, k19, k20]
def interned : List (Array UInt16 × Addr) := []
def slotsUsed : Nat := 0
def theMethod : MethodId := ⟨1, 1⟩
def args0 : Array Value := #[.long 5, .long 7, .int 1]
def aboutOver (below : List Frame) : State where
  vm := { classes := classes, interned := interned.toArray }
  heap := heap
  slotsUsed := slotsUsed
  threads := #[{ frames := .invoking theMethod args0 :: below }]
def below0 : List Frame := [.native { method := ⟨0, 0⟩, args := #[] }]
def about1 : State := aboutOver below0
def p0 : Program := .bare "" "" ""
def e0 : Env := launch0.env 0 0 0
theorem w_frames : about1.frames = Frame.invoking theMethod args0 :: below0 := rfl
set_option maxRecDepth 65536 in
theorem w_args : argsFit about1.vm theMethod args0 = true := by decide +kernel
set_option maxRecDepth 65536 in
theorem w_heap : heapFits about1 = true := by decide +kernel
set_option maxRecDepth 65536 in
theorem w_runnable : about1.curStatus? = some .runnable := by decide +kernel
set_option maxRecDepth 65536 in
theorem w_alone : about1.alone = true := by decide +kernel
set_option maxRecDepth 65536 in
theorem w_named : about1.methodNamed? x = some theMethod := by decide +kernel
set_option maxRecDepth 65536 in
theorem w_hears : about1.hears theMethod below0 = true := by decide +kernel
set_option maxRecDepth 65536 in
theorem w_ripe : about1.ripe theMethod args0 below0 = true := by decide +kernel
theorem w_running : about1.status = .running := rfl
set_option maxRecDepth 65536 in
theorem w_room : about1.hasRoom e0.platform room_1 = true :=
  launch0.hasRoom_least _ room_1 (by decide +kernel) (by decide +kernel) (by decide +kernel) (by decide +kernel) (by decide +kernel) (by decide +kernel)
theorem allAtoms_all (ts : List Jvm.Cond) (a : Array Jvm.Value) (st : Jvm.State) : (allAtoms ts).before a st = ts.all (fun c => c.before a st) := by
  induction ts with
  | nil => rfl
  | cons c t ih =>
    show (Jvm.Cond.and c (allAtoms t)).before a st = _
    rw [Jvm.Cond.before_and, ih, List.all_cons]
def words1 : List Jvm.Cond := Jvm.Cond.code x code maxLocals ret :: tables_1
/-- a 'code' word, met by the world's own term for the bytes: nothing is compared byte by byte -/
theorem code_word {y : MethodName} {bytes : ByteArray} {mx : Nat} {rt : Option FieldType} {a : Array Value} {s : State} {m : MethodId} {meth : Method} {c : Code} (h1 : s.methodNamed? y = some m) (h2 : s.vm.method? m = some meth) (h3 : meth.code = some c) (h4 : c.code = bytes)
    (h5 : (c.maxLocals == mx && c.exceptionTable.isEmpty && decide (c.maxStack ≤ mostOperands) && decide (meth.sig.returnType = rt) && !meth.locks && decide (parseMethodDescriptor y.desc = some meth.sig)) = true) : (Jvm.Cond.code y bytes mx rt).before a s = true := by
  simp only [Bool.and_eq_true, beq_iff_eq, Bool.not_eq_true', decide_eq_true_eq] at h5
  obtain ⟨⟨⟨⟨⟨g1, g2⟩, g3⟩, g4⟩, g5⟩, g6⟩ := h5
  simp [Cond.before, Cond.holds, Cond.value, h1, h2, h3, h4, g1, g2, g3, g4, g5, g6]
def isCode : Jvm.Cond → Bool
  | .code _ _ _ _ => true
  | _ => false
theorem all_split {L : List Jvm.Cond} {P : Jvm.Cond → Bool} (h1 : L.all (fun c => isCode c || P c) = true) (h2 : ∀ c ∈ L.filter isCode, P c = true) : L.all P = true := by
  refine List.all_eq_true.mpr fun c hc => ?_
  have h := List.all_eq_true.mp h1 c hc
  rcases Bool.eq_false_or_eq_true (isCode c) with hi | hi
  · exact h2 c (List.mem_filter.mpr ⟨hc, hi⟩)
  · simpa [hi] using h
set_option maxRecDepth 65536 in
theorem w_c0 : (Jvm.Cond.code x code maxLocals ret).before args0 about1 = true := code_word (m := ⟨1, 1⟩) (meth := k1m1) (c := k1c1) (by decide +kernel) rfl rfl rfl (by decide +kernel)
set_option maxRecDepth 65536 in
theorem w_c1 : (Jvm.Cond.code ({ cls := "com/example/appoint/appoint/queue/TaskWheel", name := "<init>", desc := "()V" } : Jvm.MethodName) prog_13_method_1_code (1 : Nat) (Option.none : Option Jvm.ClassFile.FieldType)).before args0 about1 = true := code_word (m := ⟨2, 0⟩) (meth := k2m0) (c := k2c0) (by decide +kernel) rfl rfl rfl (by decide +kernel)
set_option maxRecDepth 65536 in
theorem w_c2 : (Jvm.Cond.code ({ cls := "java/lang/Object", name := "<init>", desc := "()V" } : Jvm.MethodName) object_method_1_code (1 : Nat) (Option.none : Option Jvm.ClassFile.FieldType)).before args0 about1 = true := code_word (m := ⟨0, 0⟩) (meth := k0m0) (c := k0c0) (by decide +kernel) rfl rfl rfl (by decide +kernel)
set_option maxRecDepth 65536 in
theorem w_c3 : (Jvm.Cond.code ({ cls := "com/example/appoint/appoint/queue/TaskHeap", name := "<init>", desc := "()V" } : Jvm.MethodName) prog_10_method_1_code (1 : Nat) (Option.none : Option Jvm.ClassFile.FieldType)).before args0 about1 = true := code_word (m := ⟨3, 0⟩) (meth := k3m0) (c := k3c0) (by decide +kernel) rfl rfl rfl (by decide +kernel)
set_option maxRecDepth 65536 in
theorem w_c4 : (Jvm.Cond.code ({ cls := "com/example/appoint/appoint/queue/TaskWheel", name := "covers", desc := "(J)Z" } : Jvm.MethodName) prog_13_method_3_code (3 : Nat) (Option.some Jvm.ClassFile.FieldType.boolean)).before args0 about1 = true := code_word (m := ⟨2, 2⟩) (meth := k2m2) (c := k2c2) (by decide +kernel) rfl rfl rfl (by decide +kernel)
set_option maxRecDepth 65536 in
theorem w_c5 : (Jvm.Cond.code ({ cls := "com/example/appoint/appoint/queue/TaskWheel", name := "spanOf", desc := "(J)J" } : Jvm.MethodName) prog_13_method_10_code (2 : Nat) (Option.some Jvm.ClassFile.FieldType.long)).before args0 about1 = true := code_word (m := ⟨2, 4⟩) (meth := k2m4) (c := k2c4) (by decide +kernel) rfl rfl rfl (by decide +kernel)
set_option maxRecDepth 65536 in
theorem w_c6 : (Jvm.Cond.code ({ cls := "com/example/appoint/appoint/queue/TaskWheel", name := "size", desc := "()I" } : Jvm.MethodName) prog_13_method_2_code (1 : Nat) (Option.some Jvm.ClassFile.FieldType.int)).before args0 about1 = true := code_word (m := ⟨2, 1⟩) (meth := k2m1) (c := k2c1) (by decide +kernel) rfl rfl rfl (by decide +kernel)
set_option maxRecDepth 65536 in
theorem w_c7 : (Jvm.Cond.code ({ cls := "com/example/appoint/appoint/queue/TaskWheel", name := "pullNear", desc := "(Lcom/example/appoint/appoint/queue/TaskHeap;J)Z" } : Jvm.MethodName) prog_13_method_6_code (6 : Nat) (Option.some Jvm.ClassFile.FieldType.boolean)).before args0 about1 = true := code_word (m := ⟨2, 3⟩) (meth := k2m3) (c := k2c3) (by decide +kernel) rfl rfl rfl (by decide +kernel)
set_option maxRecDepth 65536 in
theorem w_c8 : (Jvm.Cond.code ({ cls := "com/example/appoint/appoint/queue/TaskWheel", name := "pull", desc := "(Lcom/example/appoint/appoint/queue/TaskHeap;J)Z" } : Jvm.MethodName) prog_13_method_12_code (9 : Nat) (Option.some Jvm.ClassFile.FieldType.boolean)).before args0 about1 = true := code_word (m := ⟨2, 5⟩) (meth := k2m5) (c := k2c5) (by decide +kernel) rfl rfl rfl (by decide +kernel)
set_option maxRecDepth 65536 in
theorem w_c9 : (Jvm.Cond.code ({ cls := "java/lang/Math", name := "min", desc := "(JJ)J" } : Jvm.MethodName) jdk_29_method_70_code (4 : Nat) (Option.some Jvm.ClassFile.FieldType.long)).before args0 about1 = true := code_word (m := ⟨12, 1⟩) (meth := k12m1) (c := k12c1) (by decide +kernel) rfl rfl rfl (by decide +kernel)
def codes1 : List Jvm.Cond := [Jvm.Cond.code x code maxLocals ret, Jvm.Cond.code ({ cls := "com/example/appoint/appoint/queue/TaskWheel", name := "<init>", desc := "()V" } : Jvm.MethodName) prog_13_method_1_code (1 : Nat) (Option.none : Option Jvm.ClassFile.FieldType), Jvm.Cond.code ({ cls := "java/lang/Object", name := "<init>", desc := "()V" } : Jvm.MethodName) object_method_1_code (1 : Nat) (Option.none : Option Jvm.ClassFile.FieldType), Jvm.Cond.code ({ cls := "com/example/appoint/appoint/queue/TaskHeap", name := "<init>", desc := "()V" } : Jvm.MethodName) prog_10_method_1_code (1 : Nat) (Option.none : Option Jvm.ClassFile.FieldType), Jvm.Cond.code ({ cls := "com/example/appoint/appoint/queue/TaskWheel", name := "covers", desc := "(J)Z" } : Jvm.MethodName) prog_13_method_3_code (3 : Nat) (Option.some Jvm.ClassFile.FieldType.boolean), Jvm.Cond.code ({ cls := "com/example/appoint/appoint/queue/TaskWheel", name := "spanOf", desc := "(J)J" } : Jvm.MethodName) prog_13_method_10_code (2 : Nat) (Option.some Jvm.ClassFile.FieldType.long), Jvm.Cond.code ({ cls := "com/example/appoint/appoint/queue/TaskWheel", name := "size", desc := "()I" } : Jvm.MethodName) prog_13_method_2_code (1 : Nat) (Option.some Jvm.ClassFile.FieldType.int), Jvm.Cond.code ({ cls := "com/example/appoint/appoint/queue/TaskWheel", name := "pullNear", desc := "(Lcom/example/appoint/appoint/queue/TaskHeap;J)Z" } : Jvm.MethodName) prog_13_method_6_code (6 : Nat) (Option.some Jvm.ClassFile.FieldType.boolean), Jvm.Cond.code ({ cls := "com/example/appoint/appoint/queue/TaskWheel", name := "pull", desc := "(Lcom/example/appoint/appoint/queue/TaskHeap;J)Z" } : Jvm.MethodName) prog_13_method_12_code (9 : Nat) (Option.some Jvm.ClassFile.FieldType.boolean), Jvm.Cond.code ({ cls := "java/lang/Math", name := "min", desc := "(JJ)J" } : Jvm.MethodName) jdk_29_method_70_code (4 : Nat) (Option.some Jvm.ClassFile.FieldType.long)]
set_option maxRecDepth 65536 in
theorem codes_eq : words1.filter isCode = codes1 := rfl
theorem w_codes : ∀ c ∈ words1.filter isCode, c.before args0 about1 = true := by
  rw [codes_eq]
  intro c hc
  simp only [codes1, List.mem_cons, List.not_mem_nil, or_false] at hc
  rcases hc with rfl | rfl | rfl | rfl | rfl | rfl | rfl | rfl | rfl | rfl
  · exact w_c0
  · exact w_c1
  · exact w_c2
  · exact w_c3
  · exact w_c4
  · exact w_c5
  · exact w_c6
  · exact w_c7
  · exact w_c8
  · exact w_c9
set_option maxRecDepth 65536 in
theorem w_t1 : (words1.take 24).all (fun c => isCode c || c.before args0 about1) = true := by decide +kernel
set_option maxRecDepth 65536 in
theorem w_t2 : ((words1.drop 24).take 24).all (fun c => isCode c || c.before args0 about1) = true := by decide +kernel
set_option maxRecDepth 65536 in
theorem w_t3 : ((words1.drop 24).drop 24).all (fun c => isCode c || c.before args0 about1) = true := by decide +kernel
theorem w_tables : (allAtoms (Jvm.Cond.code x code maxLocals ret :: tables_1)).before args0 about1 = true := by
  rw [allAtoms_all]
  show words1.all (fun c => c.before args0 about1) = true
  refine all_split ?_ w_codes
  rw [← List.take_append_drop 24 words1, List.all_append, w_t1, ← List.take_append_drop 24 (words1.drop 24), List.all_append, w_t2, w_t3]
  rfl
set_option maxRecDepth 65536 in
theorem w_case : (Jvm.Cond.and given_1 narrow_1).before args0 about1 = true := by decide +kernel
theorem w_applies : (headSpec (Jvm.Cond.code x code maxLocals ret :: tables_1) room_1).applies x e0.platform about1 = true :=
  (Spec.applies_iff w_frames).mpr ⟨w_running, w_runnable, w_alone, w_named, w_hears, w_ripe, w_room, w_tables⟩
theorem atStart : AtStart classFile x code maxLocals ret World_1 tables_1 room_1 Calls_1 rest_1 Pre_1 launch0 p0 e0 about1 theMethod args0 below0 :=
  ⟨lists_1, trivial, launch0.admits_env _ _ _, launch0.least_env, fairChoices_fair.cas, fairChoices_fair.clock, w_frames, w_args, w_heap, w_applies, trivial, trivial, w_case⟩
end start1
theorem witness_1 : WitnessClaimed_1 := ⟨start1.p0, start1.e0, start1.about1, start1.theMethod, start1.args0, start1.below0, start1.atStart⟩
end Jvm.Pilot.@@N@@
