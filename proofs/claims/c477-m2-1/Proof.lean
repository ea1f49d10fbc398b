import JvmDerived
import JvmDerived.Pilot.@@N@@Statement
import JvmDerived.Pilot.@@N@@Code
set_option linter.unusedVariables false
set_option linter.unusedSimpArgs false
namespace Jvm.RoadKit
open Sem ClassFile Op Lib Jvm.Stand Jvm.Free Jvm.LawKit
section New
variable {p : Program} {l : Launch} {e : Env} {R : Room} {s : State} {m : MethodId} {args : Array Value} {below : List Frame} {meth : Method} {c : Code} {T : State} {locs : List Loc} {cells slots : Nat}
theorem retI (X : Stand p l e R s m args below meth c T locs cells slots) (hx : p.tables.exec = Jvm.exec) {pc : Nat} {Ls : Array Slot} {z : Int32} {rest : List Value} (hret : meth.sig.returnType = some .int) (hd : decode c.code pc = .ok (.ireturn, 1)) {fs : List Frame}
    (hl : ∀ (f : JFrame) (acts : List Action), f.method = m → f.locked = none → f.entered = [] → (doReturn e (T.setTop f) acts (some (.int z))).1 = T.setFrames fs) : Steps p.tables e below (T.setTop (mkF m pc Ls (.int z :: rest))) (T.setFrames fs) := by
  have hm' : T.vm.method? m = some meth := X.method'
  have hn : narrow .int (.int z) = .int z := rfl
  show Steps p.tables e below (T.setTop { method := m, pc := pc, locals := Ls, stack := _ :: rest, locked := none }) _
  jvm_step X.here [X.here.top, hx, hd, hm', hret, hn]
  first | (intro acts; rw [hl _ acts rfl rfl rfl]) | rw [hl _ _ rfl rfl rfl]
  exact Steps.refl _
end New
end Jvm.RoadKit
namespace Jvm.Pilot.@@N@@
open Jvm Jvm.ClassFile Sem Op Lib Jvm.Free Jvm.Stand Jvm.LawKit Jvm.RoadKit Bundle Jvm.Pilot.@@N@@.Jvm.D
/-! OWN KIT: a walk's goal that can be forked and joined -/
section OwnKit
variable {p : Program} {l : Launch} {e : Env} {R : Room} {s : State} {m : MethodId} {args : Array Value} {below : List Frame} {meth : Method} {c : Code} {T : State} {locs : List Loc} {cells slots : Nat}
/-- from the state st the run comes to its end, having returned v over the heap and the places of which F speaks -/
def own_End (p : Program) (e : Env) (below : List Frame) (s st : State) (F : Option Value → Heap → List Loc → Prop) (k n : Nat) : Prop :=
  ∃ s₂ o, Steps p.tables e below st s₂ ∧ s₂.status = .running ∧ Ended s₂ below o ∧ ∃ v L, o = .returned v ∧ F v s₂.heap L ∧ FrameEnd s o s₂ L k n
theorem own_go {st st' : State} {F : Option Value → Heap → List Loc → Prop} {k n : Nat} (h : ∀ t, Steps p.tables e below st' t → Steps p.tables e below st t) (q : own_End p e below s st' F k n) : own_End p e below s st F k n := by
  obtain ⟨s₂, o, h1, h2⟩ := q
  exact ⟨s₂, o, h _ h1, h2⟩
theorem own_ret (X : Stand p l e R s m args below meth c T locs cells slots) {v : Option Value} {g : JFrame} {F : Option Value → Heap → List Loc → Prop} {k n : Nat} (hv : meth.sig.returnType = none → v = none) (hlocks : meth.locks = false)
    (hst : ∀ fs, (∀ (f : JFrame) (acts : List Action), f.method = m → f.locked = none → f.entered = [] → (doReturn e (T.setTop f) acts v).1 = T.setFrames fs) → Steps p.tables e below (T.setTop g) (T.setFrames fs))
    (hF : F v T.heap locs) (hc : cells ≤ k) (hs : slots ≤ n) : own_End p e below s (T.setTop g) F k n := by
  obtain ⟨fs, hr, hrun, hended, hW, hsame⟩ := X.leave (v := v) hv hlocks
  exact ⟨_, _, hst fs hr, hrun, hended, _, _, rfl, hF, ⟨_, rfl⟩, hW, hsame.mono hc hs⟩
theorem own_retJ (X : Stand p l e R s m args below meth c T locs cells slots) (hx : p.tables.exec = Jvm.exec) {pc : Nat} {Ls : Array Slot} {z : Int64} {rest : List Value} (hret : meth.sig.returnType = some .long) (hd : decode c.code pc = .ok (.lreturn, 1)) {fs : List Frame}
    (hl : ∀ (f : JFrame) (acts : List Action), f.method = m → f.locked = none → f.entered = [] → (doReturn e (T.setTop f) acts (some (.long z))).1 = T.setFrames fs) : Steps p.tables e below (T.setTop (mkF m pc Ls (.long z :: rest))) (T.setFrames fs) := by
  have hm' : T.vm.method? m = some meth := X.method'
  have hn : narrow .long (.long z) = .long z := rfl
  show Steps p.tables e below (T.setTop { method := m, pc := pc, locals := Ls, stack := _ :: rest, locked := none }) _
  jvm_step X.here [X.here.top, hx, hd, hm', hret, hn]
  first | (intro acts; rw [hl _ acts rfl rfl rfl]) | rw [hl _ _ rfl rfl rfl]
  exact Steps.refl _
theorem own_retD (X : Stand p l e R s m args below meth c T locs cells slots) (hx : p.tables.exec = Jvm.exec) {pc : Nat} {Ls : Array Slot} {z : UInt64} {rest : List Value} (hret : meth.sig.returnType = some .double) (hd : decode c.code pc = .ok (.dreturn, 1)) {fs : List Frame}
    (hl : ∀ (f : JFrame) (acts : List Action), f.method = m → f.locked = none → f.entered = [] → (doReturn e (T.setTop f) acts (some (.double z))).1 = T.setFrames fs) : Steps p.tables e below (T.setTop (mkF m pc Ls (.double z :: rest))) (T.setFrames fs) := by
  have hm' : T.vm.method? m = some meth := X.method'
  have hn : narrow .double (.double z) = .double z := rfl
  show Steps p.tables e below (T.setTop { method := m, pc := pc, locals := Ls, stack := _ :: rest, locked := none }) _
  jvm_step X.here [X.here.top, hx, hd, hm', hret, hn]
  first | (intro acts; rw [hl _ acts rfl rfl rfl]) | rw [hl _ _ rfl rfl rfl]
  exact Steps.refl _
theorem own_tlt {x y : Int32} {i j : Int} (hx : x.toInt = i) (hy : y.toInt = j) (h : i < j) : if_icmp.holds .lt x y = true ∧ if_icmp.holds .ge x y = false ∧ if_icmp.holds .gt y x = true ∧ if_icmp.holds .le y x = false :=
  tlt (by rw [Int32.lt_iff_toInt_lt, hx, hy]; exact h)
theorem own_flt {x y : Int32} {i j : Int} (hx : x.toInt = i) (hy : y.toInt = j) (h : ¬ i < j) : if_icmp.holds .lt x y = false ∧ if_icmp.holds .ge x y = true ∧ if_icmp.holds .gt y x = false ∧ if_icmp.holds .le y x = true :=
  flt (by rw [Int32.lt_iff_toInt_lt, hx, hy]; exact h)
theorem own_eq {x y : Int32} {i j : Int} (hx : x.toInt = i) (hy : y.toInt = j) (h : i = j) : if_icmp.holds .eq x y = true ∧ if_icmp.holds .ne x y = false :=
  teq (Int32.toInt_inj.mp (by rw [hx, hy]; exact h))
theorem own_ne {x y : Int32} {i j : Int} (hx : x.toInt = i) (hy : y.toInt = j) (h : ¬ i = j) : if_icmp.holds .eq x y = false ∧ if_icmp.holds .ne x y = true :=
  feq (fun q => h (by rw [← hx, ← hy, q]))
theorem own_Llt {x y : Int64} {i j : Int} (hx : x.toInt = i) (hy : y.toInt = j) (h : i < j) : if_icmp.holds .lt (lcmpW x y) 0 = true ∧ if_icmp.holds .ge (lcmpW x y) 0 = false ∧ if_icmp.holds .gt 0 (lcmpW x y) = true ∧ if_icmp.holds .le 0 (lcmpW x y) = false :=
  tlt ((lw_lt x y).mpr (by rw [Int64.lt_iff_toInt_lt, hx, hy]; exact h))
theorem own_Llf {x y : Int64} {i j : Int} (hx : x.toInt = i) (hy : y.toInt = j) (h : ¬ i < j) : if_icmp.holds .lt (lcmpW x y) 0 = false ∧ if_icmp.holds .ge (lcmpW x y) 0 = true ∧ if_icmp.holds .gt 0 (lcmpW x y) = false ∧ if_icmp.holds .le 0 (lcmpW x y) = true :=
  flt (fun q => h (by have := (lw_lt x y).mp q; rw [Int64.lt_iff_toInt_lt, hx, hy] at this; exact this))
theorem own_Lgt {x y : Int64} {i j : Int} (hy : y.toInt = j) (hx : x.toInt = i) (h : j < i) : if_icmp.holds .lt 0 (lcmpW x y) = true ∧ if_icmp.holds .ge 0 (lcmpW x y) = false ∧ if_icmp.holds .gt (lcmpW x y) 0 = true ∧ if_icmp.holds .le (lcmpW x y) 0 = false :=
  tlt ((lw_gt x y).mpr (by rw [Int64.lt_iff_toInt_lt, hx, hy]; exact h))
theorem own_Lgf {x y : Int64} {i j : Int} (hy : y.toInt = j) (hx : x.toInt = i) (h : ¬ j < i) : if_icmp.holds .lt 0 (lcmpW x y) = false ∧ if_icmp.holds .ge 0 (lcmpW x y) = true ∧ if_icmp.holds .gt (lcmpW x y) 0 = false ∧ if_icmp.holds .le (lcmpW x y) 0 = true :=
  flt (fun q => h (by have := (lw_gt x y).mp q; rw [Int64.lt_iff_toInt_lt, hx, hy] at this; exact this))
theorem own_Let {x y : Int64} {i j : Int} (hx : x.toInt = i) (hy : y.toInt = j) (h : i = j) : if_icmp.holds .eq (lcmpW x y) 0 = true ∧ if_icmp.holds .ne (lcmpW x y) 0 = false :=
  teq ((lw_eq x y).mpr (Int64.toInt_inj.mp (by rw [hx, hy]; exact h)))
theorem own_Lef {x y : Int64} {i j : Int} (hx : x.toInt = i) (hy : y.toInt = j) (h : ¬ i = j) : if_icmp.holds .eq (lcmpW x y) 0 = false ∧ if_icmp.holds .ne (lcmpW x y) 0 = true :=
  feq (fun q => h (by rw [← hx, ← hy, (lw_eq x y).mp q]))
/-- (turned from the worked claim gauge-weight) the model's own selection picks a private method itself -/
theorem own_selP {y : MethodName} {s : State} {args : Array Value} {n : Nat} (hy : y.cls ≠ "java/lang/invoke/MethodHandle" ∧ y.cls ≠ "java/lang/invoke/VarHandle") (hins : (Cond.instantiable y.cls n).before args s = true) (hpriv : (Cond.privateMethod y).before args s = true) (hinst : (Cond.instanceMethod y).before args s = true) :
    (Cond.selects y.cls y y).before args s = true := by
  obtain ⟨c, k, hc, hk, -, hniab, -, -⟩ := Cond.instantiable_spec hins
  have hni : k.isInterface = false := (Bool.or_eq_false_iff.mp hniab).1
  obtain ⟨mk, methM, hnamed, hmethM, -, -⟩ := Cond.instanceMethod_spec hinst
  have hfound : s.methodFound? y.cls y.name y.desc = some mk := State.methodFound?_of_named hnamed hy
  have hcls : mk.cls = c := Option.some.inj ((findClass_of_methodNamed hnamed).symm.trans hc)
  have hsel : selectMethod {} s.vm c mk = .method mk := selectMethod_private hmethM (Cond.privateMethod_at hpriv mk methM hnamed hmethM)
  simp only [Cond.before, Cond.holds, Cond.value, hc, hfound, hnamed, hsel, hcls, hk]
  simp; exact hni
end OwnKit
theorem own_pn0 : plainName "com/example/portero/portero/matching/Ascii" = true := by first | (simp [plainName, overriddenIn]; done) | decide +kernel
theorem own_ef2_rm1 (m : MethodId) (p0 : Int32) : entryFrame m #[(.int p0)] 1 = mkF m 0 #[.val (.int p0)] [] := by first | (simp [entryFrame, mkF, argsToLocals, Value.category]; done) | rfl
def Q_rm1 (Z : State) (p0 : Int32)  (h0 : Heap) (n0 : Nat) (v : Option Value) (h : Heap) (L : List Loc) : Prop := (∃ z, v = some (.int z) ∧ (z.toInt = p0.toInt + 32 ∧ (65 ≤ p0.toInt ∧ p0.toInt ≤ 90) ∨ z.toInt = p0.toInt ∧ ¬ (65 ≤ p0.toInt ∧ p0.toInt ≤ 90))) ∧ Fr n0 L ∧ h = h0
theorem d2_0 : decode prog_15_method_4_code 0 = .ok (.iload_n 0, 1) := by decide +kernel
theorem d2_1 : decode prog_15_method_4_code 1 = .ok (.bipush 65, 2) := by decide +kernel
theorem d2_3 : decode prog_15_method_4_code 3 = .ok (.if_icmp .lt 17, 3) := by decide +kernel
theorem d2_20 : decode prog_15_method_4_code 20 = .ok (.iload_n 0, 1) := by decide +kernel
theorem d2_21 : decode prog_15_method_4_code 21 = .ok (.ireturn, 1) := by decide +kernel
theorem d2_6 : decode prog_15_method_4_code 6 = .ok (.iload_n 0, 1) := by decide +kernel
theorem d2_7 : decode prog_15_method_4_code 7 = .ok (.bipush 90, 2) := by decide +kernel
theorem d2_9 : decode prog_15_method_4_code 9 = .ok (.if_icmp .gt 11, 3) := by decide +kernel
theorem d2_12 : decode prog_15_method_4_code 12 = .ok (.iload_n 0, 1) := by decide +kernel
theorem d2_13 : decode prog_15_method_4_code 13 = .ok (.bipush 32, 2) := by decide +kernel
theorem d2_15 : decode prog_15_method_4_code 15 = .ok (.iadd, 1) := by decide +kernel
theorem d2_16 : decode prog_15_method_4_code 16 = .ok (.i2c, 1) := by decide +kernel
theorem d2_17 : decode prog_15_method_4_code 17 = .ok (.goto 4, 3) := by decide +kernel
set_option maxRecDepth 65536 in
set_option maxHeartbeats 40000000 in
theorem rm1 (l : Launch) (Z : State) (a0 : Array Value) (hw : ∀ d ∈ tables_1, d.before a0 Z = true) (ws : List Jvm.Cond) (p0 : Int32)  (h0 : Heap) (n0 : Nat) (Z0 : n0 ≤ h0.size) (hp : 0 ≤ p0.toInt) (hp' : p0.toInt < 65536) :
    MetFree l (⟨"com/example/portero/portero/matching/Ascii", "toLowerCase", "(C)C"⟩ : MethodName) (head1 (Jvm.Cond.code (⟨"com/example/portero/portero/matching/Ascii", "toLowerCase", "(C)C"⟩ : MethodName) prog_15_method_4_code 1 (some .char) :: ws) ({ frames := 0, cells := 0, slots := 0, locals := 0 } : Room)) (fun a U => a = #[(.int p0)] ∧ Z.Warmed39 U.vm ∧ U.heap = h0) (fun _ _ _ _ _ => True) (fun _ U o U' => ∃ v L, o = .returned v ∧ Q_rm1 Z p0  h0 n0 v U'.heap L ∧ FrameEnd U o U' L ({ frames := 0, cells := 0, slots := 0, locals := 0 } : Room).cells ({ frames := 0, cells := 0, slots := 0, locals := 0 } : Room).slots) := by
  refine MetFree.of_bodySF (plainFor_of_name own_pn0) hisR ?_
  intro p e s m args below meth c s₁ Bd hml0 hP hK
  obtain ⟨rfl, hZ, hh⟩ := hP
  have hx := Bd.exec
  have hby := Bd.bytes
  have hml : c.maxLocals = 1 := hml0
  have hown : s.vm.findClass "com/example/portero/portero/matching/Ascii" = some m.cls := findClass_of_methodNamed Bd.named
  have hnm := (name_of_methodNamed Bd.named Bd.method).1
  have X0 : Stand p l e ({ frames := 0, cells := 0, slots := 0, locals := 0 } : Room) s m #[(.int p0)] below meth c s₁ [] 0 0 := Stand.of_body Bd
  have e0 : s₁.heap = h0 := by rw [← hh, Bd.state]; rfl
  have N0 := Fr.nil n0
  refine (show own_End p e below s (s₁.setTop (entryFrame m #[(.int p0)] 1)) (Q_rm1 Z p0  h0 n0) ({ frames := 0, cells := 0, slots := 0, locals := 0 } : Room).cells ({ frames := 0, cells := 0, slots := 0, locals := 0 } : Room).slots from ?_)
  refine own_go (fun t k => castTop (own_ef2_rm1 m p0) k) ?_
  have li0 : (0 : Int32).toInt = 0 := rfl
  have li1 : (1 : Int32).toInt = 1 := rfl
  show own_End p e below s (s₁.setTop (mkF m 0 #[.val (.int p0)] [])) _ _ _
  refine own_go (fun t k => XS.iloadN X0.here hx rfl (hb hby d2_0) rfl k) ?_
  show own_End p e below s (s₁.setTop (mkF m 1 #[.val (.int p0)] [(.int p0)])) _ _ _
  refine own_go (fun t k => XS.bipush X0.here hx rfl (hb hby d2_1) k) ?_
  show own_End p e below s (s₁.setTop (mkF m 3 #[.val (.int p0)] [(.int (65 : Int32)), (.int p0)])) _ _ _
  by_cases c3_1 : p0.toInt < 65
  · skip
    refine own_go (fun t k => XS.icmpYes X0.here hx rfl (pc0 := 3) (pc' := 20) rfl (hb hby d2_3) rfl (own_tlt (x := p0) (y := (65 : Int32)) (i := p0.toInt) (j := 65) rfl rfl c3_1).1 (by decide) (by decide) k) ?_
    show own_End p e below s (s₁.setTop (mkF m 20 #[.val (.int p0)] [])) _ _ _
    refine own_go (fun t k => XS.iloadN X0.here hx rfl (hb hby d2_20) rfl k) ?_
    show own_End p e below s (s₁.setTop (mkF m 21 #[.val (.int p0)] [(.int p0)])) _ _ _
    refine own_ret X0 (v := some (.int (p0.toUInt32.toUInt16.toUInt32.toInt32))) (fun h => by rw [Bd.returns] at h; cases h) Bd.notSynchronized (fun fs hr => retN X0 hx (t := .char) Bd.returns (by simp) (hb hby d2_21) hr) ?_ (by decide) (by decide)
    · have hz := c_i2c p0
      rw [e0]; exact ⟨⟨_, rfl, (by omega)⟩, N0, rfl⟩
  · skip
    refine own_go (fun t k => XS.icmpNo X0.here hx rfl (hb hby d2_3) rfl (own_flt (x := p0) (y := (65 : Int32)) (i := p0.toInt) (j := 65) rfl rfl c3_1).1 k) ?_
    show own_End p e below s (s₁.setTop (mkF m 6 #[.val (.int p0)] [])) _ _ _
    refine own_go (fun t k => XS.iloadN X0.here hx rfl (hb hby d2_6) rfl k) ?_
    show own_End p e below s (s₁.setTop (mkF m 7 #[.val (.int p0)] [(.int p0)])) _ _ _
    refine own_go (fun t k => XS.bipush X0.here hx rfl (hb hby d2_7) k) ?_
    show own_End p e below s (s₁.setTop (mkF m 9 #[.val (.int p0)] [(.int (90 : Int32)), (.int p0)])) _ _ _
    by_cases c9_2 : 90 < p0.toInt
    · skip
      refine own_go (fun t k => XS.icmpYes X0.here hx rfl (pc0 := 9) (pc' := 20) rfl (hb hby d2_9) rfl (own_tlt (x := (90 : Int32)) (y := p0) (i := 90) (j := p0.toInt) rfl rfl c9_2).2.2.1 (by decide) (by decide) k) ?_
      show own_End p e below s (s₁.setTop (mkF m 20 #[.val (.int p0)] [])) _ _ _
      refine own_go (fun t k => XS.iloadN X0.here hx rfl (hb hby d2_20) rfl k) ?_
      show own_End p e below s (s₁.setTop (mkF m 21 #[.val (.int p0)] [(.int p0)])) _ _ _
      refine own_ret X0 (v := some (.int (p0.toUInt32.toUInt16.toUInt32.toInt32))) (fun h => by rw [Bd.returns] at h; cases h) Bd.notSynchronized (fun fs hr => retN X0 hx (t := .char) Bd.returns (by simp) (hb hby d2_21) hr) ?_ (by decide) (by decide)
      · have hz := c_i2c p0
        rw [e0]; exact ⟨⟨_, rfl, (by omega)⟩, N0, rfl⟩
    · skip
      refine own_go (fun t k => XS.icmpNo X0.here hx rfl (hb hby d2_9) rfl (own_flt (x := (90 : Int32)) (y := p0) (i := 90) (j := p0.toInt) rfl rfl c9_2).2.2.1 k) ?_
      show own_End p e below s (s₁.setTop (mkF m 12 #[.val (.int p0)] [])) _ _ _
      refine own_go (fun t k => XS.iloadN X0.here hx rfl (hb hby d2_12) rfl k) ?_
      show own_End p e below s (s₁.setTop (mkF m 13 #[.val (.int p0)] [(.int p0)])) _ _ _
      refine own_go (fun t k => XS.bipush X0.here hx rfl (hb hby d2_13) k) ?_
      show own_End p e below s (s₁.setTop (mkF m 15 #[.val (.int p0)] [(.int (32 : Int32)), (.int p0)])) _ _ _
      refine own_go (fun t k => XS.iadd X0.here hx rfl (hb hby d2_15) rfl k) ?_
      show own_End p e below s (s₁.setTop (mkF m 16 #[.val (.int p0)] [(.int (p0 + (32 : Int32)))])) _ _ _
      refine own_go (fun t k => XS.i2c X0.here hx rfl (hb hby d2_16) rfl k) ?_
      show own_End p e below s (s₁.setTop (mkF m 17 #[.val (.int p0)] [(.int ((p0 + (32 : Int32)).toUInt32.toUInt16.toUInt32.toInt32))])) _ _ _
      refine own_go (fun t k => XS.goto X0.here hx rfl (pc0 := 17) (pc' := 21) rfl (hb hby d2_17) (by decide) (by decide) k) ?_
      show own_End p e below s (s₁.setTop (mkF m 21 #[.val (.int p0)] [(.int ((p0 + (32 : Int32)).toUInt32.toUInt16.toUInt32.toInt32))])) _ _ _
      refine own_ret X0 (v := some (.int (((p0 + (32 : Int32)).toUInt32.toUInt16.toUInt32.toInt32).toUInt32.toUInt16.toUInt32.toInt32))) (fun h => by rw [Bd.returns] at h; cases h) Bd.notSynchronized (fun fs hr => retN X0 hx (t := .char) Bd.returns (by simp) (hb hby d2_21) hr) ?_ (by decide) (by decide)
      · have hz := c_i2c ((p0 + (32 : Int32)).toUInt32.toUInt16.toUInt32.toInt32)
        have hy := c_i2c (p0 + (32 : Int32))
        have hy2 := c_iadd p0 (32 : Int32)
        have hl32 : (32 : Int32).toInt = 32 := rfl
        have hy3 := rng32 (p0 + (32 : Int32))
        rw [e0]; exact ⟨⟨_, rfl, (by omega)⟩, N0, rfl⟩
theorem own_ef1_rm2 (m : MethodId) (p0 : Int32) : entryFrame m #[(.int p0)] 1 = mkF m 0 #[.val (.int p0)] [] := by first | (simp [entryFrame, mkF, argsToLocals, Value.category]; done) | rfl
def Q_rm2 (Z : State) (p0 : Int32)  (h0 : Heap) (n0 : Nat) (v : Option Value) (h : Heap) (L : List Loc) : Prop := (∃ z, v = some (.int z) ∧ (z.toInt = 1 ∧ (65 ≤ p0.toInt ∧ p0.toInt ≤ 90 ∨ 97 ≤ p0.toInt ∧ p0.toInt ≤ 122) ∨ z.toInt = 0 ∧ ¬ (65 ≤ p0.toInt ∧ p0.toInt ≤ 90 ∨ 97 ≤ p0.toInt ∧ p0.toInt ≤ 122))) ∧ Fr n0 L ∧ h = h0
theorem d1_0 : decode prog_15_method_3_code 0 = .ok (.iload_n 0, 1) := by decide +kernel
theorem d1_1 : decode prog_15_method_3_code 1 = .ok (.invokestatic 17, 3) := by decide +kernel
theorem own_pd0 : parseMethodDescriptor "(C)C" = some ⟨[.char], some .char⟩ := by decide +kernel
theorem d1_4 : decode prog_15_method_3_code 4 = .ok (.bipush 97, 2) := by decide +kernel
theorem d1_6 : decode prog_15_method_3_code 6 = .ok (.if_icmp .lt 16, 3) := by decide +kernel
theorem d1_22 : decode prog_15_method_3_code 22 = .ok (.iconst 0, 1) := by decide +kernel
theorem d1_23 : decode prog_15_method_3_code 23 = .ok (.ireturn, 1) := by decide +kernel
theorem d1_9 : decode prog_15_method_3_code 9 = .ok (.iload_n 0, 1) := by decide +kernel
theorem d1_10 : decode prog_15_method_3_code 10 = .ok (.invokestatic 17, 3) := by decide +kernel
theorem d1_13 : decode prog_15_method_3_code 13 = .ok (.bipush 122, 2) := by decide +kernel
theorem d1_15 : decode prog_15_method_3_code 15 = .ok (.if_icmp .gt 7, 3) := by decide +kernel
theorem d1_18 : decode prog_15_method_3_code 18 = .ok (.iconst 1, 1) := by decide +kernel
theorem d1_19 : decode prog_15_method_3_code 19 = .ok (.goto 4, 3) := by decide +kernel
set_option maxRecDepth 65536 in
set_option maxHeartbeats 40000000 in
theorem rm2 (l : Launch) (Z : State) (a0 : Array Value) (hw : ∀ d ∈ tables_1, d.before a0 Z = true) (ws : List Jvm.Cond) (p0 : Int32)  (h0 : Heap) (n0 : Nat) (Z0 : n0 ≤ h0.size) (hp : 0 ≤ p0.toInt) (hp' : p0.toInt < 65536) :
    MetFree l (⟨"com/example/portero/portero/matching/Ascii", "isLetter", "(C)Z"⟩ : MethodName) (head1 (Jvm.Cond.code (⟨"com/example/portero/portero/matching/Ascii", "isLetter", "(C)Z"⟩ : MethodName) prog_15_method_3_code 1 (some .boolean) :: ws) ({ frames := 1, cells := 0, slots := 0, locals := 12 } : Room)) (fun a U => a = #[(.int p0)] ∧ Z.Warmed39 U.vm ∧ U.heap = h0) (fun _ _ _ _ _ => True) (fun _ U o U' => ∃ v L, o = .returned v ∧ Q_rm2 Z p0  h0 n0 v U'.heap L ∧ FrameEnd U o U' L ({ frames := 1, cells := 0, slots := 0, locals := 12 } : Room).cells ({ frames := 1, cells := 0, slots := 0, locals := 12 } : Room).slots) := by
  refine MetFree.of_bodySF (plainFor_of_name own_pn0) hisR ?_
  intro p e s m args below meth c s₁ Bd hml0 hP hK
  obtain ⟨rfl, hZ, hh⟩ := hP
  have hx := Bd.exec
  have hby := Bd.bytes
  have hml : c.maxLocals = 1 := hml0
  have hown : s.vm.findClass "com/example/portero/portero/matching/Ascii" = some m.cls := findClass_of_methodNamed Bd.named
  have hnm := (name_of_methodNamed Bd.named Bd.method).1
  have X0 : Stand p l e ({ frames := 1, cells := 0, slots := 0, locals := 12 } : Room) s m #[(.int p0)] below meth c s₁ [] 0 0 := Stand.of_body Bd
  have e0 : s₁.heap = h0 := by rw [← hh, Bd.state]; rfl
  have N0 := Fr.nil n0
  refine (show own_End p e below s (s₁.setTop (entryFrame m #[(.int p0)] 1)) (Q_rm2 Z p0  h0 n0) ({ frames := 1, cells := 0, slots := 0, locals := 12 } : Room).cells ({ frames := 1, cells := 0, slots := 0, locals := 12 } : Room).slots from ?_)
  refine own_go (fun t k => castTop (own_ef1_rm2 m p0) k) ?_
  have li0 : (0 : Int32).toInt = 0 := rfl
  have li1 : (1 : Int32).toInt = 1 := rfl
  show own_End p e below s (s₁.setTop (mkF m 0 #[.val (.int p0)] [])) _ _ _
  refine own_go (fun t k => XS.iloadN X0.here hx rfl (hb hby d1_0) rfl k) ?_
  show own_End p e below s (s₁.setTop (mkF m 1 #[.val (.int p0)] [(.int p0)])) _ _ _
  obtain ⟨_, _, ⟨T1, L1, k1, n1⟩, -, X1, ⟨Lc1, hQ1, l1, y1, z1⟩, st1⟩ := Jvm.LawKit.callS X0 hx (y := (⟨"com/example/portero/portero/matching/Ascii", "toLowerCase", "(C)C"⟩ : MethodName)) hown (mvT hZ (hw _ (List.mem_of_getElem? (i := 5) rfl))) (mvT hZ (hw _ (List.mem_of_getElem? (i := 6) rfl))) (mvT hZ (hw _ (List.mem_of_getElem? (i := 3) rfl))) (mvT hZ (hw _ (List.mem_of_getElem? (i := 7) rfl))) (by decide) (backOf (W := 0) (rm1 l Z a0 hw [] p0 h0 n0 Z0 hp hp') hZ (hw _ (List.mem_of_getElem? (i := 7) rfl)) (hw _ (List.mem_of_getElem? (i := 3) rfl)) (by decide) (by decide)) (g := (mkF m 1 #[.val (.int p0)] [(.int p0)])) rfl (by rw [hml]; rfl) (argsL := [(.int p0)]) (rest := []) (lenOf own_pd0 rfl) rfl (by show 2 * 0 + _ ≤ _; exact Nat.le_of_eq rfl) (hb hby d1_1) (fun _ _ => ⟨rfl, e0, (by decide : 0 + 0 ≤ _), (by decide : 0 + 0 ≤ _)⟩)
  dsimp only [Pt.U, Pt.locs, Pt.cells, Pt.slots] at X1 l1 y1 z1 st1 hQ1
  subst l1 y1 z1
  obtain ⟨⟨r1, rfl, hr1⟩, N1q, e1⟩ := hQ1
  have N1 := Fr.app N0 N1q
  refine own_go st1 ?_
  show own_End p e below s (T1.setTop (mkF m 4 #[.val (.int p0)] [(.int r1)])) _ _ _
  refine own_go (fun t k => XS.bipush X1.here hx rfl (hb hby d1_4) k) ?_
  show own_End p e below s (T1.setTop (mkF m 6 #[.val (.int p0)] [(.int (97 : Int32)), (.int r1)])) _ _ _
  by_cases c6_2 : r1.toInt < 97
  · skip
    refine own_go (fun t k => XS.icmpYes X1.here hx rfl (pc0 := 6) (pc' := 22) rfl (hb hby d1_6) rfl (own_tlt (x := r1) (y := (97 : Int32)) (i := r1.toInt) (j := 97) rfl rfl c6_2).1 (by decide) (by decide) k) ?_
    show own_End p e below s (T1.setTop (mkF m 22 #[.val (.int p0)] [])) _ _ _
    refine own_go (fun t k => XS.iconst X1.here hx rfl (hb hby d1_22) k) ?_
    show own_End p e below s (T1.setTop (mkF m 23 #[.val (.int p0)] [(.int (0 : Int32))])) _ _ _
    refine own_ret X1 (v := some (.int (0 : Int32))) (fun h => by rw [Bd.returns] at h; cases h) Bd.notSynchronized (fun fs hr => retN X1 hx (t := .boolean) Bd.returns (by simp) (hb hby d1_23) hr) ?_ (by decide) (by decide)
    · rw [e1]; exact ⟨⟨_, rfl, by omega⟩, N1, rfl⟩
  · skip
    refine own_go (fun t k => XS.icmpNo X1.here hx rfl (hb hby d1_6) rfl (own_flt (x := r1) (y := (97 : Int32)) (i := r1.toInt) (j := 97) rfl rfl c6_2).1 k) ?_
    show own_End p e below s (T1.setTop (mkF m 9 #[.val (.int p0)] [])) _ _ _
    refine own_go (fun t k => XS.iloadN X1.here hx rfl (hb hby d1_9) rfl k) ?_
    show own_End p e below s (T1.setTop (mkF m 10 #[.val (.int p0)] [(.int p0)])) _ _ _
    obtain ⟨_, _, ⟨T3, L3, k3, n3⟩, -, X3, ⟨Lc3, hQ3, l3, y3, z3⟩, st3⟩ := Jvm.LawKit.callS X1 hx (y := (⟨"com/example/portero/portero/matching/Ascii", "toLowerCase", "(C)C"⟩ : MethodName)) hown (mvT hZ (hw _ (List.mem_of_getElem? (i := 5) rfl))) (mvT hZ (hw _ (List.mem_of_getElem? (i := 6) rfl))) (mvT hZ (hw _ (List.mem_of_getElem? (i := 3) rfl))) (mvT hZ (hw _ (List.mem_of_getElem? (i := 7) rfl))) (by decide) (backOf (W := 0) (rm1 l Z a0 hw [] p0 h0 n0 Z0 hp hp') hZ (hw _ (List.mem_of_getElem? (i := 7) rfl)) (hw _ (List.mem_of_getElem? (i := 3) rfl)) (by decide) (by decide)) (g := (mkF m 10 #[.val (.int p0)] [(.int p0)])) rfl (by rw [hml]; rfl) (argsL := [(.int p0)]) (rest := []) (lenOf own_pd0 rfl) rfl (by show 2 * 0 + _ ≤ _; exact Nat.le_of_eq rfl) (hb hby d1_10) (fun _ _ => ⟨rfl, e1, (by decide : 0 + 0 ≤ _), (by decide : 0 + 0 ≤ _)⟩)
    dsimp only [Pt.U, Pt.locs, Pt.cells, Pt.slots] at X3 l3 y3 z3 st3 hQ3
    subst l3 y3 z3
    obtain ⟨⟨r3, rfl, hr3⟩, N3q, e3⟩ := hQ3
    have N3 := Fr.app N1 N3q
    refine own_go st3 ?_
    show own_End p e below s (T3.setTop (mkF m 13 #[.val (.int p0)] [(.int r3)])) _ _ _
    refine own_go (fun t k => XS.bipush X3.here hx rfl (hb hby d1_13) k) ?_
    show own_End p e below s (T3.setTop (mkF m 15 #[.val (.int p0)] [(.int (122 : Int32)), (.int r3)])) _ _ _
    by_cases c15_4 : 122 < r3.toInt
    · skip
      refine own_go (fun t k => XS.icmpYes X3.here hx rfl (pc0 := 15) (pc' := 22) rfl (hb hby d1_15) rfl (own_tlt (x := (122 : Int32)) (y := r3) (i := 122) (j := r3.toInt) rfl rfl c15_4).2.2.1 (by decide) (by decide) k) ?_
      show own_End p e below s (T3.setTop (mkF m 22 #[.val (.int p0)] [])) _ _ _
      refine own_go (fun t k => XS.iconst X3.here hx rfl (hb hby d1_22) k) ?_
      show own_End p e below s (T3.setTop (mkF m 23 #[.val (.int p0)] [(.int (0 : Int32))])) _ _ _
      refine own_ret X3 (v := some (.int (0 : Int32))) (fun h => by rw [Bd.returns] at h; cases h) Bd.notSynchronized (fun fs hr => retN X3 hx (t := .boolean) Bd.returns (by simp) (hb hby d1_23) hr) ?_ (by decide) (by decide)
      · rw [e3]; exact ⟨⟨_, rfl, by omega⟩, N3, rfl⟩
    · skip
      refine own_go (fun t k => XS.icmpNo X3.here hx rfl (hb hby d1_15) rfl (own_flt (x := (122 : Int32)) (y := r3) (i := 122) (j := r3.toInt) rfl rfl c15_4).2.2.1 k) ?_
      show own_End p e below s (T3.setTop (mkF m 18 #[.val (.int p0)] [])) _ _ _
      refine own_go (fun t k => XS.iconst X3.here hx rfl (hb hby d1_18) k) ?_
      show own_End p e below s (T3.setTop (mkF m 19 #[.val (.int p0)] [(.int (1 : Int32))])) _ _ _
      refine own_go (fun t k => XS.goto X3.here hx rfl (pc0 := 19) (pc' := 23) rfl (hb hby d1_19) (by decide) (by decide) k) ?_
      show own_End p e below s (T3.setTop (mkF m 23 #[.val (.int p0)] [(.int (1 : Int32))])) _ _ _
      refine own_ret X3 (v := some (.int (1 : Int32))) (fun h => by rw [Bd.returns] at h; cases h) Bd.notSynchronized (fun fs hr => retN X3 hx (t := .boolean) Bd.returns (by simp) (hb hby d1_23) hr) ?_ (by decide) (by decide)
      · rw [e3]; exact ⟨⟨_, rfl, by omega⟩, N3, rfl⟩
theorem own_pn1 : plainName "com/example/portero/portero/matching/AsciiIsLetterPinLaw" = true := by first | (simp [plainName, overriddenIn]; done) | decide +kernel
theorem own_ef0_rm0 (m : MethodId) (p0 : Int32) : entryFrame m #[(.int p0)] maxLocals = mkF m 0 #[.val (.int p0), .unset, .unset, .unset, .unset] [] := by first | (simp [entryFrame, mkF, argsToLocals, Value.category, maxLocals]; done) | rfl
def Q_rm0 (Z : State) (p0 : Int32)  (h0 : Heap) (n0 : Nat) (v : Option Value) (h : Heap) (L : List Loc) : Prop := v = some (.int 1) ∧ Fr n0 L
theorem own_pd1 : parseMethodDescriptor "(C)Z" = some ⟨[.char], some .boolean⟩ := by decide +kernel
set_option maxRecDepth 65536 in
set_option maxHeartbeats 40000000 in
theorem rm0 (l : Launch) (Z : State) (a0 : Array Value) (hw : ∀ d ∈ tables_1, d.before a0 Z = true) (ws : List Jvm.Cond) (p0 : Int32)  (h0 : Heap) (n0 : Nat) (Z0 : n0 ≤ h0.size)  :
    MetFree l x (head1 (Jvm.Cond.code x code maxLocals ret :: ws) room_1) (fun a U => a = #[(.int p0)] ∧ Z.Warmed39 U.vm ∧ U.heap = h0) (fun _ _ _ _ _ => True) (fun _ U o U' => ∃ v L, o = .returned v ∧ Q_rm0 Z p0  h0 n0 v U'.heap L ∧ FrameEnd U o U' L room_1.cells room_1.slots) := by
  refine MetFree.of_bodySF (plainFor_of_name own_pn1) hisR ?_
  intro p e s m args below meth c s₁ Bd hml0 hP hK
  obtain ⟨rfl, hZ, hh⟩ := hP
  have hx := Bd.exec
  have hby := Bd.bytes
  have hml : c.maxLocals = 5 := hml0
  have hown : s.vm.findClass "com/example/portero/portero/matching/AsciiIsLetterPinLaw" = some m.cls := findClass_of_methodNamed Bd.named
  have hnm := (name_of_methodNamed Bd.named Bd.method).1
  have X0 : Stand p l e room_1 s m #[(.int p0)] below meth c s₁ [] 0 0 := Stand.of_body Bd
  have e0 : s₁.heap = h0 := by rw [← hh, Bd.state]; rfl
  have N0 := Fr.nil n0
  refine (show own_End p e below s (s₁.setTop (entryFrame m #[(.int p0)] maxLocals)) (Q_rm0 Z p0  h0 n0) room_1.cells room_1.slots from ?_)
  refine own_go (fun t k => castTop (own_ef0_rm0 m p0) k) ?_
  have li0 : (0 : Int32).toInt = 0 := rfl
  have li1 : (1 : Int32).toInt = 1 := rfl
  show own_End p e below s (s₁.setTop (mkF m 0 #[.val (.int p0), .unset, .unset, .unset, .unset] [])) _ _ _
  refine own_go (fun t k => XS.iloadN X0.here hx rfl (hb hby at_0) rfl k) ?_
  show own_End p e below s (s₁.setTop (mkF m 1 #[.val (.int p0), .unset, .unset, .unset, .unset] [(.int p0)])) _ _ _
  refine own_go (fun t k => X0.ldcInt hx hown (mvT hZ (hw _ (List.mem_of_getElem? (i := 0) rfl))) (g := (mkF m 1 #[.val (.int p0), .unset, .unset, .unset, .unset] [(.int p0)])) rfl (hb hby at_1) _ k) ?_
  show own_End p e below s (s₁.setTop (mkF m 3 #[.val (.int p0), .unset, .unset, .unset, .unset] [(.int (65535 : Int32)), (.int p0)])) _ _ _
  refine own_go (fun t k => XS.iand X0.here hx rfl (hb hby at_3) rfl k) ?_
  show own_End p e below s (s₁.setTop (mkF m 4 #[.val (.int p0), .unset, .unset, .unset, .unset] [(.int (p0 &&& (65535 : Int32)))])) _ _ _
  refine own_go (fun t k => XS.i2c X0.here hx rfl (hb hby at_4) rfl k) ?_
  show own_End p e below s (s₁.setTop (mkF m 5 #[.val (.int p0), .unset, .unset, .unset, .unset] [(.int ((p0 &&& (65535 : Int32)).toUInt32.toUInt16.toUInt32.toInt32))])) _ _ _
  have hcR := c_i2c (p0 &&& (65535 : Int32))
  generalize ((p0 &&& (65535 : Int32)).toUInt32.toUInt16.toUInt32.toInt32) = c0 at hcR ⊢
  show own_End p e below s (s₁.setTop (mkF m 5 #[.val (.int p0), .unset, .unset, .unset, .unset] [(.int c0)])) _ _ _
  have hp := hcR.2.1
  have hp' := hcR.2.2
  clear hcR
  refine own_go (fun t k => XS.istoreN X0.here hx rfl (hb hby at_5) rfl (l' := #[.val (.int p0), .val (.int c0), .unset, .unset, .unset]) rfl k) ?_
  show own_End p e below s (s₁.setTop (mkF m 6 #[.val (.int p0), .val (.int c0), .unset, .unset, .unset] [])) _ _ _
  have J55 : ∀ (l2 l3 u : Int32) (hu : u.toInt = 1 ∧ (65 ≤ c0.toInt ∧ c0.toInt ≤ 90 ∨ 97 ≤ c0.toInt ∧ c0.toInt ≤ 122) ∨ u.toInt = 0 ∧ ¬ (65 ≤ c0.toInt ∧ c0.toInt ≤ 90 ∨ 97 ≤ c0.toInt ∧ c0.toInt ≤ 122)), own_End p e below s (s₁.setTop (mkF m 55 #[.val (.int p0), .val (.int c0), .val (.int l2), .val (.int l3), .unset] [(.int u)])) (Q_rm0 Z p0  h0 n0) room_1.cells room_1.slots := by
    intro l2 l3 u hu
    show own_End p e below s (s₁.setTop (mkF m 55 #[.val (.int p0), .val (.int c0), .val (.int l2), .val (.int l3), .unset] [(.int u)])) _ _ _
    refine own_go (fun t k => XS.istore X0.here hx rfl (hb hby at_55) rfl (l' := #[.val (.int p0), .val (.int c0), .val (.int l2), .val (.int l3), .val (.int u)]) rfl k) ?_
    show own_End p e below s (s₁.setTop (mkF m 57 #[.val (.int p0), .val (.int c0), .val (.int l2), .val (.int l3), .val (.int u)] [])) _ _ _
    refine own_go (fun t k => XS.iloadN X0.here hx rfl (hb hby at_57) rfl k) ?_
    show own_End p e below s (s₁.setTop (mkF m 58 #[.val (.int p0), .val (.int c0), .val (.int l2), .val (.int l3), .val (.int u)] [(.int c0)])) _ _ _
    obtain ⟨_, _, ⟨T1, L1, k1, n1⟩, -, X1, ⟨Lc1, hQ1, l1, y1, z1⟩, st1⟩ := Jvm.LawKit.callS X0 hx (y := (⟨"com/example/portero/portero/matching/Ascii", "isLetter", "(C)Z"⟩ : MethodName)) hown (mvT hZ (hw _ (List.mem_of_getElem? (i := 1) rfl))) (mvT hZ (hw _ (List.mem_of_getElem? (i := 2) rfl))) (mvT hZ (hw _ (List.mem_of_getElem? (i := 3) rfl))) (mvT hZ (hw _ (List.mem_of_getElem? (i := 4) rfl))) (by decide) (backOf (W := 0) (rm2 l Z a0 hw [] c0 h0 n0 Z0 hp hp') hZ (hw _ (List.mem_of_getElem? (i := 4) rfl)) (hw _ (List.mem_of_getElem? (i := 3) rfl)) (by decide) (by decide)) (g := (mkF m 58 #[.val (.int p0), .val (.int c0), .val (.int l2), .val (.int l3), .val (.int u)] [(.int c0)])) rfl (by rw [hml]; rfl) (argsL := [(.int c0)]) (rest := []) (lenOf own_pd1 rfl) rfl (by show 2 * 0 + _ ≤ _; exact Nat.le_of_eq rfl) (hb hby at_58) (fun _ _ => ⟨rfl, e0, (by decide : 0 + 0 ≤ _), (by decide : 0 + 0 ≤ _)⟩)
    dsimp only [Pt.U, Pt.locs, Pt.cells, Pt.slots] at X1 l1 y1 z1 st1 hQ1
    subst l1 y1 z1
    obtain ⟨⟨r1, rfl, hr1⟩, N1q, e1⟩ := hQ1
    have N1 := Fr.app N0 N1q
    refine own_go st1 ?_
    show own_End p e below s (T1.setTop (mkF m 61 #[.val (.int p0), .val (.int c0), .val (.int l2), .val (.int l3), .val (.int u)] [(.int r1)])) _ _ _
    refine own_go (fun t k => XS.iload X1.here hx rfl (hb hby at_61) rfl k) ?_
    show own_End p e below s (T1.setTop (mkF m 63 #[.val (.int p0), .val (.int c0), .val (.int l2), .val (.int l3), .val (.int u)] [(.int u), (.int r1)])) _ _ _
    refine own_go (fun t k => XS.icmpNo X1.here hx rfl (hb hby at_63) rfl (own_eq (x := r1) (y := u) (i := r1.toInt) (j := u.toInt) rfl rfl (by omega)).2 k) ?_
    show own_End p e below s (T1.setTop (mkF m 66 #[.val (.int p0), .val (.int c0), .val (.int l2), .val (.int l3), .val (.int u)] [])) _ _ _
    refine own_go (fun t k => XS.iconst X1.here hx rfl (hb hby at_66) k) ?_
    show own_End p e below s (T1.setTop (mkF m 67 #[.val (.int p0), .val (.int c0), .val (.int l2), .val (.int l3), .val (.int u)] [(.int (1 : Int32))])) _ _ _
    refine own_go (fun t k => XS.goto X1.here hx rfl (pc0 := 67) (pc' := 71) rfl (hb hby at_67) (by decide) (by decide) k) ?_
    show own_End p e below s (T1.setTop (mkF m 71 #[.val (.int p0), .val (.int c0), .val (.int l2), .val (.int l3), .val (.int u)] [(.int (1 : Int32))])) _ _ _
    refine own_ret X1 (v := some (.int (1 : Int32))) (fun h => by rw [Bd.returns] at h; cases h) Bd.notSynchronized (fun fs hr => retN X1 hx (t := .boolean) Bd.returns (by simp) (hb hby at_71) hr) ?_ (by decide) (by decide)
    · exact ⟨rfl, N1⟩
  have J41 : ∀ (l2 u : Int32) (hl : l2.toInt = 1 ∧ (65 ≤ c0.toInt ∧ c0.toInt ≤ 90) ∨ l2.toInt = 0 ∧ ¬ (65 ≤ c0.toInt ∧ c0.toInt ≤ 90)) (hu : u.toInt = 1 ∧ (97 ≤ c0.toInt ∧ c0.toInt ≤ 122) ∨ u.toInt = 0 ∧ ¬ (97 ≤ c0.toInt ∧ c0.toInt ≤ 122)), own_End p e below s (s₁.setTop (mkF m 41 #[.val (.int p0), .val (.int c0), .val (.int l2), .unset, .unset] [(.int u)])) (Q_rm0 Z p0  h0 n0) room_1.cells room_1.slots := by
    intro l2 u hl hu
    show own_End p e below s (s₁.setTop (mkF m 41 #[.val (.int p0), .val (.int c0), .val (.int l2), .unset, .unset] [(.int u)])) _ _ _
    refine own_go (fun t k => XS.istoreN X0.here hx rfl (hb hby at_41) rfl (l' := #[.val (.int p0), .val (.int c0), .val (.int l2), .val (.int u), .unset]) rfl k) ?_
    show own_End p e below s (s₁.setTop (mkF m 42 #[.val (.int p0), .val (.int c0), .val (.int l2), .val (.int u), .unset] [])) _ _ _
    refine own_go (fun t k => XS.iloadN X0.here hx rfl (hb hby at_42) rfl k) ?_
    show own_End p e below s (s₁.setTop (mkF m 43 #[.val (.int p0), .val (.int c0), .val (.int l2), .val (.int u), .unset] [(.int l2)])) _ _ _
    by_cases c43_2 : l2.toInt = 0
    · skip
      refine own_go (fun t k => XS.ifNo X0.here hx rfl (hb hby at_43) rfl ((if0 _ _).trans (own_eq (x := l2) (y := (0 : Int32)) (i := l2.toInt) (j := 0) rfl rfl c43_2).2) k) ?_
      show own_End p e below s (s₁.setTop (mkF m 46 #[.val (.int p0), .val (.int c0), .val (.int l2), .val (.int u), .unset] [])) _ _ _
      refine own_go (fun t k => XS.iloadN X0.here hx rfl (hb hby at_46) rfl k) ?_
      show own_End p e below s (s₁.setTop (mkF m 47 #[.val (.int p0), .val (.int c0), .val (.int l2), .val (.int u), .unset] [(.int u)])) _ _ _
      by_cases c47_3 : u.toInt = 0
      · skip
        refine own_go (fun t k => XS.ifYes X0.here hx rfl (pc0 := 47) (pc' := 54) rfl (hb hby at_47) rfl ((if0 _ _).trans (own_eq (x := u) (y := (0 : Int32)) (i := u.toInt) (j := 0) rfl rfl c47_3).1) (by decide) (by decide) k) ?_
        show own_End p e below s (s₁.setTop (mkF m 54 #[.val (.int p0), .val (.int c0), .val (.int l2), .val (.int u), .unset] [])) _ _ _
        refine own_go (fun t k => XS.iconst X0.here hx rfl (hb hby at_54) k) ?_
        show own_End p e below s (s₁.setTop (mkF m 55 #[.val (.int p0), .val (.int c0), .val (.int l2), .val (.int u), .unset] [(.int (0 : Int32))])) _ _ _
        exact J55 _ _ _ (by omega)
      · skip
        refine own_go (fun t k => XS.ifNo X0.here hx rfl (hb hby at_47) rfl ((if0 _ _).trans (own_ne (x := u) (y := (0 : Int32)) (i := u.toInt) (j := 0) rfl rfl c47_3).1) k) ?_
        show own_End p e below s (s₁.setTop (mkF m 50 #[.val (.int p0), .val (.int c0), .val (.int l2), .val (.int u), .unset] [])) _ _ _
        refine own_go (fun t k => XS.iconst X0.here hx rfl (hb hby at_50) k) ?_
        show own_End p e below s (s₁.setTop (mkF m 51 #[.val (.int p0), .val (.int c0), .val (.int l2), .val (.int u), .unset] [(.int (1 : Int32))])) _ _ _
        refine own_go (fun t k => XS.goto X0.here hx rfl (pc0 := 51) (pc' := 55) rfl (hb hby at_51) (by decide) (by decide) k) ?_
        show own_End p e below s (s₁.setTop (mkF m 55 #[.val (.int p0), .val (.int c0), .val (.int l2), .val (.int u), .unset] [(.int (1 : Int32))])) _ _ _
        exact J55 _ _ _ (by omega)
    · skip
      refine own_go (fun t k => XS.ifYes X0.here hx rfl (pc0 := 43) (pc' := 50) rfl (hb hby at_43) rfl ((if0 _ _).trans (own_ne (x := l2) (y := (0 : Int32)) (i := l2.toInt) (j := 0) rfl rfl c43_2).2) (by decide) (by decide) k) ?_
      show own_End p e below s (s₁.setTop (mkF m 50 #[.val (.int p0), .val (.int c0), .val (.int l2), .val (.int u), .unset] [])) _ _ _
      refine own_go (fun t k => XS.iconst X0.here hx rfl (hb hby at_50) k) ?_
      show own_End p e below s (s₁.setTop (mkF m 51 #[.val (.int p0), .val (.int c0), .val (.int l2), .val (.int u), .unset] [(.int (1 : Int32))])) _ _ _
      refine own_go (fun t k => XS.goto X0.here hx rfl (pc0 := 51) (pc' := 55) rfl (hb hby at_51) (by decide) (by decide) k) ?_
      show own_End p e below s (s₁.setTop (mkF m 55 #[.val (.int p0), .val (.int c0), .val (.int l2), .val (.int u), .unset] [(.int (1 : Int32))])) _ _ _
      exact J55 _ _ _ (by omega)
  have J23 : ∀ (u : Int32) (hu : u.toInt = 1 ∧ (65 ≤ c0.toInt ∧ c0.toInt ≤ 90) ∨ u.toInt = 0 ∧ ¬ (65 ≤ c0.toInt ∧ c0.toInt ≤ 90)), own_End p e below s (s₁.setTop (mkF m 23 #[.val (.int p0), .val (.int c0), .unset, .unset, .unset] [(.int u)])) (Q_rm0 Z p0  h0 n0) room_1.cells room_1.slots := by
    intro u hu
    show own_End p e below s (s₁.setTop (mkF m 23 #[.val (.int p0), .val (.int c0), .unset, .unset, .unset] [(.int u)])) _ _ _
    refine own_go (fun t k => XS.istoreN X0.here hx rfl (hb hby at_23) rfl (l' := #[.val (.int p0), .val (.int c0), .val (.int u), .unset, .unset]) rfl k) ?_
    show own_End p e below s (s₁.setTop (mkF m 24 #[.val (.int p0), .val (.int c0), .val (.int u), .unset, .unset] [])) _ _ _
    refine own_go (fun t k => XS.iloadN X0.here hx rfl (hb hby at_24) rfl k) ?_
    show own_End p e below s (s₁.setTop (mkF m 25 #[.val (.int p0), .val (.int c0), .val (.int u), .unset, .unset] [(.int c0)])) _ _ _
    refine own_go (fun t k => XS.bipush X0.here hx rfl (hb hby at_25) k) ?_
    show own_End p e below s (s₁.setTop (mkF m 27 #[.val (.int p0), .val (.int c0), .val (.int u), .unset, .unset] [(.int (97 : Int32)), (.int c0)])) _ _ _
    by_cases c27_4 : c0.toInt < 97
    · skip
      refine own_go (fun t k => XS.icmpYes X0.here hx rfl (pc0 := 27) (pc' := 40) rfl (hb hby at_27) rfl (own_tlt (x := c0) (y := (97 : Int32)) (i := c0.toInt) (j := 97) rfl rfl c27_4).1 (by decide) (by decide) k) ?_
      show own_End p e below s (s₁.setTop (mkF m 40 #[.val (.int p0), .val (.int c0), .val (.int u), .unset, .unset] [])) _ _ _
      refine own_go (fun t k => XS.iconst X0.here hx rfl (hb hby at_40) k) ?_
      show own_End p e below s (s₁.setTop (mkF m 41 #[.val (.int p0), .val (.int c0), .val (.int u), .unset, .unset] [(.int (0 : Int32))])) _ _ _
      exact J41 _ _ (by omega) (by omega)
    · skip
      refine own_go (fun t k => XS.icmpNo X0.here hx rfl (hb hby at_27) rfl (own_flt (x := c0) (y := (97 : Int32)) (i := c0.toInt) (j := 97) rfl rfl c27_4).1 k) ?_
      show own_End p e below s (s₁.setTop (mkF m 30 #[.val (.int p0), .val (.int c0), .val (.int u), .unset, .unset] [])) _ _ _
      refine own_go (fun t k => XS.iloadN X0.here hx rfl (hb hby at_30) rfl k) ?_
      show own_End p e below s (s₁.setTop (mkF m 31 #[.val (.int p0), .val (.int c0), .val (.int u), .unset, .unset] [(.int c0)])) _ _ _
      refine own_go (fun t k => XS.bipush X0.here hx rfl (hb hby at_31) k) ?_
      show own_End p e below s (s₁.setTop (mkF m 33 #[.val (.int p0), .val (.int c0), .val (.int u), .unset, .unset] [(.int (122 : Int32)), (.int c0)])) _ _ _
      by_cases c33_5 : 122 < c0.toInt
      · skip
        refine own_go (fun t k => XS.icmpYes X0.here hx rfl (pc0 := 33) (pc' := 40) rfl (hb hby at_33) rfl (own_tlt (x := (122 : Int32)) (y := c0) (i := 122) (j := c0.toInt) rfl rfl c33_5).2.2.1 (by decide) (by decide) k) ?_
        show own_End p e below s (s₁.setTop (mkF m 40 #[.val (.int p0), .val (.int c0), .val (.int u), .unset, .unset] [])) _ _ _
        refine own_go (fun t k => XS.iconst X0.here hx rfl (hb hby at_40) k) ?_
        show own_End p e below s (s₁.setTop (mkF m 41 #[.val (.int p0), .val (.int c0), .val (.int u), .unset, .unset] [(.int (0 : Int32))])) _ _ _
        exact J41 _ _ (by omega) (by omega)
      · skip
        refine own_go (fun t k => XS.icmpNo X0.here hx rfl (hb hby at_33) rfl (own_flt (x := (122 : Int32)) (y := c0) (i := 122) (j := c0.toInt) rfl rfl c33_5).2.2.1 k) ?_
        show own_End p e below s (s₁.setTop (mkF m 36 #[.val (.int p0), .val (.int c0), .val (.int u), .unset, .unset] [])) _ _ _
        refine own_go (fun t k => XS.iconst X0.here hx rfl (hb hby at_36) k) ?_
        show own_End p e below s (s₁.setTop (mkF m 37 #[.val (.int p0), .val (.int c0), .val (.int u), .unset, .unset] [(.int (1 : Int32))])) _ _ _
        refine own_go (fun t k => XS.goto X0.here hx rfl (pc0 := 37) (pc' := 41) rfl (hb hby at_37) (by decide) (by decide) k) ?_
        show own_End p e below s (s₁.setTop (mkF m 41 #[.val (.int p0), .val (.int c0), .val (.int u), .unset, .unset] [(.int (1 : Int32))])) _ _ _
        exact J41 _ _ (by omega) (by omega)
  refine own_go (fun t k => XS.iloadN X0.here hx rfl (hb hby at_6) rfl k) ?_
  show own_End p e below s (s₁.setTop (mkF m 7 #[.val (.int p0), .val (.int c0), .unset, .unset, .unset] [(.int c0)])) _ _ _
  refine own_go (fun t k => XS.bipush X0.here hx rfl (hb hby at_7) k) ?_
  show own_End p e below s (s₁.setTop (mkF m 9 #[.val (.int p0), .val (.int c0), .unset, .unset, .unset] [(.int (65 : Int32)), (.int c0)])) _ _ _
  by_cases c9_6 : c0.toInt < 65
  · skip
    refine own_go (fun t k => XS.icmpYes X0.here hx rfl (pc0 := 9) (pc' := 22) rfl (hb hby at_9) rfl (own_tlt (x := c0) (y := (65 : Int32)) (i := c0.toInt) (j := 65) rfl rfl c9_6).1 (by decide) (by decide) k) ?_
    show own_End p e below s (s₁.setTop (mkF m 22 #[.val (.int p0), .val (.int c0), .unset, .unset, .unset] [])) _ _ _
    refine own_go (fun t k => XS.iconst X0.here hx rfl (hb hby at_22) k) ?_
    show own_End p e below s (s₁.setTop (mkF m 23 #[.val (.int p0), .val (.int c0), .unset, .unset, .unset] [(.int (0 : Int32))])) _ _ _
    exact J23 _ (by omega)
  · skip
    refine own_go (fun t k => XS.icmpNo X0.here hx rfl (hb hby at_9) rfl (own_flt (x := c0) (y := (65 : Int32)) (i := c0.toInt) (j := 65) rfl rfl c9_6).1 k) ?_
    show own_End p e below s (s₁.setTop (mkF m 12 #[.val (.int p0), .val (.int c0), .unset, .unset, .unset] [])) _ _ _
    refine own_go (fun t k => XS.iloadN X0.here hx rfl (hb hby at_12) rfl k) ?_
    show own_End p e below s (s₁.setTop (mkF m 13 #[.val (.int p0), .val (.int c0), .unset, .unset, .unset] [(.int c0)])) _ _ _
    refine own_go (fun t k => XS.bipush X0.here hx rfl (hb hby at_13) k) ?_
    show own_End p e below s (s₁.setTop (mkF m 15 #[.val (.int p0), .val (.int c0), .unset, .unset, .unset] [(.int (90 : Int32)), (.int c0)])) _ _ _
    by_cases c15_7 : 90 < c0.toInt
    · skip
      refine own_go (fun t k => XS.icmpYes X0.here hx rfl (pc0 := 15) (pc' := 22) rfl (hb hby at_15) rfl (own_tlt (x := (90 : Int32)) (y := c0) (i := 90) (j := c0.toInt) rfl rfl c15_7).2.2.1 (by decide) (by decide) k) ?_
      show own_End p e below s (s₁.setTop (mkF m 22 #[.val (.int p0), .val (.int c0), .unset, .unset, .unset] [])) _ _ _
      refine own_go (fun t k => XS.iconst X0.here hx rfl (hb hby at_22) k) ?_
      show own_End p e below s (s₁.setTop (mkF m 23 #[.val (.int p0), .val (.int c0), .unset, .unset, .unset] [(.int (0 : Int32))])) _ _ _
      exact J23 _ (by omega)
    · skip
      refine own_go (fun t k => XS.icmpNo X0.here hx rfl (hb hby at_15) rfl (own_flt (x := (90 : Int32)) (y := c0) (i := 90) (j := c0.toInt) rfl rfl c15_7).2.2.1 k) ?_
      show own_End p e below s (s₁.setTop (mkF m 18 #[.val (.int p0), .val (.int c0), .unset, .unset, .unset] [])) _ _ _
      refine own_go (fun t k => XS.iconst X0.here hx rfl (hb hby at_18) k) ?_
      show own_End p e below s (s₁.setTop (mkF m 19 #[.val (.int p0), .val (.int c0), .unset, .unset, .unset] [(.int (1 : Int32))])) _ _ _
      refine own_go (fun t k => XS.goto X0.here hx rfl (pc0 := 19) (pc' := 23) rfl (hb hby at_19) (by decide) (by decide) k) ?_
      show own_End p e below s (s₁.setTop (mkF m 23 #[.val (.int p0), .val (.int c0), .unset, .unset, .unset] [(.int (1 : Int32))])) _ _ _
      exact J23 _ (by omega)
set_option maxRecDepth 65536 in
set_option maxHeartbeats 40000000 in
theorem comes_1 {Post : Tables → Env → Array Value → State → Outcome → State → Prop} (hpost : ∀ tb e args s v u, (limb_1_1.after args s (.returned v) u = true ∧ limb_1_2.after args s (.returned v) u = true ∧ True) → FrameEnd s (.returned v) u (Jvm.fieldLocs frame_1_writes args s ++ Jvm.arrayLocs frame_1_arrays args s ++ Jvm.staticLocs frame_1_statics s) 0 0 → Post tb e args s (.returned v) u) :
    ArmFor flags0 classFile x code maxLocals ret World_1 tables_1 room_1 Calls_1 rest_1 Pre_1 Post := by
  intro l hfl _ _ p e ha hc hk s m args below hf hA hF happ hP
  obtain ⟨hcalls, hrest, hpre⟩ := hP
  obtain ⟨-, -, -, hnamed, -, -, -, hat⟩ := (Spec.applies_iff hf).mp happ
  obtain ⟨hg, hn⟩ := and_e (Cond.before_iff.mp (show (Jvm.Cond.and given_1 narrow_1).before args s = true from hpre))
  obtain ⟨gc, gr0⟩ := and_e hg
  have ga0 := gr0
  obtain ⟨w0, rfl⟩ : ∃ w0 : Value, args = #[w0] := by
    have hs : args.size = 1 := by simpa [Cond.value, given_1] using gc
    obtain ⟨L⟩ := args
    match L, hs with
    | [w0], _ => exact ⟨w0, rfl⟩
  have hw := fun d (hd : d ∈ tables_1) => atoms_spec (ws := Jvm.Cond.code x code maxLocals ret :: tables_1) hat d (List.mem_cons_of_mem _ hd)
  obtain ⟨i0, ei0⟩ := is_v ga0
  obtain rfl : w0 = (.int i0) := Option.some.inj ei0
  obtain ⟨n, o, h1, h2, h3, _, L, rfl, ⟨rfl, N⟩, hq⟩ := rm0 l s _ hw tables_1 i0  s.heap s.heap.size (Nat.le_refl _)  p e ha hc hk s m _ below hf ((Spec.applies_iff_loose hf).mp happ).1 ⟨rfl, State.Warmed39.refl s, rfl⟩ trivial
  refine ⟨n, _, h1, h2, h3, hpost _ _ _ _ _ _ ⟨Cond.after_iff.mpr rfl, Cond.after_iff.mpr (eq_i res_at (Term.int_eval (1)) rfl), trivial⟩ ⟨hq.1, hq.2.1, (hq.2.2.sift fun y hy => Or.inr (N y hy)).mono (by decide) (by decide)⟩⟩
theorem main_1_1 : Claimed_1_1 := comes_1 fun _ _ _ _ _ _ h hF => ⟨h.1, hF⟩
theorem main_1_2 : Claimed_1_2 := comes_1 fun _ _ _ _ _ _ h hF => ⟨h.2.1, hF⟩
end Jvm.Pilot.@@N@@
namespace Jvm.Pilot.@@N@@
open Jvm Jvm.ClassFile Sem Op Lib Jvm.Free Jvm.Stand Jvm.Pilot.@@N@@.Jvm.D
/-! MADE BY PROGRAM (witnessworld.py) out of the Statement's table words and the real class files: 9 classes; the members and pool entries that the words name. The judged class is class 1, her method 1. -/
namespace start1
open Jvm.ClassFile
def u (s : String) : CpInfo := .utf8 (stringToUtf16 s)
/-- a pool by its gaps: so many unusable entries, then the entry; so many at the end -/
def gap : Nat → List CpInfo → List CpInfo
  | 0, r => r
  | n + 1, r => .unusable :: gap n r
def poolList (es : List (Nat × CpInfo)) (last : Nat) : List CpInfo := es.foldr (fun e r => gap e.1 (e.2 :: r)) (gap last [])
def pool (es : List (Nat × CpInfo)) (last : Nat) : Array CpInfo := ⟨poolList es last⟩
def fileOf (pool : Array CpInfo) (this : Nat) (attrs : Array Attribute := #[]) (ms : Array MethodInfo := #[]) (fl : Nat := 33) (sup : Nat := 0) (ifs : Array Nat := #[]) (fds : Array FieldInfo := #[]) : ClassFile where
  minorVersion := 0
  majorVersion := 65
  constantPool := pool
  accessFlags := fl
  thisClass := this
  superClass := sup
  interfaces := ifs
  fields := fds
  methods := ms
  attributes := attrs
def plain (name : String) (sup : Option ClassId) : Class where
  name := name
  kind := .ordinary
  loader := none
  accessFlags := 33
  super := sup
  interfaces := #[]
  cf := none
  fields := #[]
  methods := #[]
  instanceTypes := #[]
  staticTypes := #[]
  resolved := #[]
  callSites := []
  init := .initialized
  statics := none
  mirror := none

def pool0 : Array CpInfo := pool [(5, u "<init>"), (0, u "()V"), (1, .class_ 10), (1, u "java/lang/Object")] 113

def k0m0 : Method := { name := "<init>", desc := "()V", sig := { parameters := [], returnType := none }, accessFlags := 1, code := none }
/-- java/lang/Object -/
def k0 : Class := { plain "java/lang/Object" none with
  accessFlags := 33
  interfaces := #[]
  cf := some (fileOf pool0 8 #[] #[{ accessFlags := 1, nameIndex := 5, descriptorIndex := 6, attributes := #[] }] 33 0 #[] #[])
  fields := #[]
  methods := #[k0m0]
  instanceTypes := #[]
  staticTypes := #[]
  resolved := Array.replicate 124 none
  statics := none }

def pool1 : Array CpInfo := pool [(2, .class_ 4), (1, u "java/lang/Object"), (0, u "<init>"), (0, u "()V"), (0, .integer 65535), (0, .methodref 9 10), (0, .class_ 11), (0, .nameAndType 12 13), (0, u "com/example/portero/portero/matching/Ascii"), (0, u "isLetter"), (0, u "(C)Z"), (0, .class_ 15), (0, u "com/example/portero/portero/matching/AsciiIsLetterPinLaw"), (2, u "law"), (0, u "(I)Z")] 3

def k1m0 : Method := { name := "<init>", desc := "()V", sig := { parameters := [], returnType := none }, accessFlags := 2, code := none }
def k1c1 : Code := { maxStack := 2, maxLocals := 5, code := code, exceptionTable := #[], attributes := #[] }
def k1m1 : Method := { name := "law", desc := "(I)Z", sig := { parameters := [.int], returnType := some .boolean }, accessFlags := 9, code := some k1c1 }
/-- com/example/portero/portero/matching/AsciiIsLetterPinLaw -/
def k1 : Class := { plain "com/example/portero/portero/matching/AsciiIsLetterPinLaw" (some 0) with
  accessFlags := 49
  interfaces := #[]
  cf := some (fileOf pool1 14 #[] #[{ accessFlags := 2, nameIndex := 5, descriptorIndex := 6, attributes := #[] }, { accessFlags := 9, nameIndex := 18, descriptorIndex := 19, attributes := #[] }] 49 2 #[] #[])
  fields := #[]
  methods := #[k1m0, k1m1]
  instanceTypes := #[]
  staticTypes := #[]
  resolved := Array.replicate 23 none
  statics := none }

def pool2 : Array CpInfo := pool [(2, .class_ 4), (1, u "java/lang/Object"), (0, u "<init>"), (0, u "()V"), (10, .methodref 18 19), (0, .class_ 20), (0, .nameAndType 21 22), (0, u "com/example/portero/portero/matching/Ascii"), (0, u "toLowerCase"), (0, u "(C)C"), (5, u "isLetter"), (0, u "(C)Z")] 2

def k2m0 : Method := { name := "<init>", desc := "()V", sig := { parameters := [], returnType := none }, accessFlags := 2, code := none }
def k2c1 : Code := { maxStack := 2, maxLocals := 1, code := prog_15_method_3_code, exceptionTable := #[], attributes := #[] }
def k2m1 : Method := { name := "isLetter", desc := "(C)Z", sig := { parameters := [.char], returnType := some .boolean }, accessFlags := 9, code := some k2c1 }
def k2c2 : Code := { maxStack := 2, maxLocals := 1, code := prog_15_method_4_code, exceptionTable := #[], attributes := #[] }
def k2m2 : Method := { name := "toLowerCase", desc := "(C)C", sig := { parameters := [.char], returnType := some .char }, accessFlags := 10, code := some k2c2 }
/-- com/example/portero/portero/matching/Ascii -/
def k2 : Class := { plain "com/example/portero/portero/matching/Ascii" (some 0) with
  accessFlags := 33
  interfaces := #[]
  cf := some (fileOf pool2 18 #[] #[{ accessFlags := 2, nameIndex := 5, descriptorIndex := 6, attributes := #[] }, { accessFlags := 9, nameIndex := 28, descriptorIndex := 29, attributes := #[] }, { accessFlags := 10, nameIndex := 21, descriptorIndex := 22, attributes := #[] }] 33 2 #[] #[])
  fields := #[]
  methods := #[k2m0, k2m1, k2m2]
  instanceTypes := #[]
  staticTypes := #[]
  resolved := Array.replicate 32 none
  statics := none }

def pool3 : Array CpInfo := pool [(1, u "java/lang/Cloneable"), (0, .class_ 1), (0, u "java/lang/Object"), (0, .class_ 3)] 3

/-- java/lang/Cloneable -/
def k3 : Class := { plain "java/lang/Cloneable" (some 0) with
  accessFlags := 1537
  interfaces := #[]
  cf := some (fileOf pool3 2 #[] #[] 1537 4 #[] #[])
  fields := #[]
  methods := #[]
  instanceTypes := #[]
  staticTypes := #[]
  resolved := Array.replicate 8 none
  statics := none }

def pool4 : Array CpInfo := pool [(1, u "java/io/Serializable"), (0, .class_ 1), (0, u "java/lang/Object"), (0, .class_ 3)] 3

/-- java/io/Serializable -/
def k4 : Class := { plain "java/io/Serializable" (some 0) with
  accessFlags := 1537
  interfaces := #[]
  cf := some (fileOf pool4 2 #[] #[] 1537 4 #[] #[])
  fields := #[]
  methods := #[]
  instanceTypes := #[]
  staticTypes := #[]
  resolved := Array.replicate 8 none
  statics := none }

/-- the primitive byte -/
def k5 : Class := { plain "byte" none with kind := .primitive 'B', accessFlags := 0x411 }
/-- [B -/
def k6 : Class := { plain "[B" (some 0) with kind := .array 5 .byte, interfaces := #[3, 4], accessFlags := 1041 }

/-- the primitive int -/
def k7 : Class := { plain "int" none with kind := .primitive 'I', accessFlags := 0x411 }
/-- [I -/
def k8 : Class := { plain "[I" (some 0) with kind := .array 7 .int, interfaces := #[3, 4], accessFlags := 1041 }

def heap : Heap := #[]
def classes : Array Class := #[k0, k1, k2, k3, k4, k5, k6, k7, k8]
def interned : List (Array UInt16 × Addr) := []
def slotsUsed : Nat := 0
def theMethod : MethodId := ⟨1, 1⟩
def args0 : Array Value := #[.int 65]
def aboutOver (below : List Frame) : State where
  vm := { classes := classes, interned := interned.toArray }
  heap := heap
  slotsUsed := slotsUsed
  threads := #[{ frames := .invoking theMethod args0 :: below }]
def below0 : List Frame := [.native { method := ⟨0, 0⟩, args := #[] }]
def about1 : State := aboutOver below0
def p0 : Program := .bare "" "" ""
def e0 : Env := launch0.env 0 0 0
theorem w_frames : about1.frames = Frame.invoking theMethod args0 :: below0 := rfl
set_option maxRecDepth 65536 in
theorem w_args : argsFit about1.vm theMethod args0 = true := by decide +kernel
set_option maxRecDepth 65536 in
theorem w_heap : heapFits about1 = true := by decide +kernel
set_option maxRecDepth 65536 in
theorem w_runnable : about1.curStatus? = some .runnable := by decide +kernel
set_option maxRecDepth 65536 in
theorem w_alone : about1.alone = true := by decide +kernel
set_option maxRecDepth 65536 in
theorem w_named : about1.methodNamed? x = some theMethod := by decide +kernel
set_option maxRecDepth 65536 in
theorem w_hears : about1.hears theMethod below0 = true := by decide +kernel
set_option maxRecDepth 65536 in
theorem w_ripe : about1.ripe theMethod args0 below0 = true := by decide +kernel
theorem w_running : about1.status = .running := rfl
set_option maxRecDepth 65536 in
theorem w_room : about1.hasRoom e0.platform room_1 = true :=
  launch0.hasRoom_least _ room_1 (by decide +kernel) (by decide +kernel) (by decide +kernel) (by decide +kernel) (by decide +kernel) (by decide +kernel)
theorem allAtoms_all (ts : List Jvm.Cond) (a : Array Jvm.Value) (st : Jvm.State) : (allAtoms ts).before a st = ts.all (fun c => c.before a st) := by
  induction ts with
  | nil => rfl
  | cons c t ih =>
    show (Jvm.Cond.and c (allAtoms t)).before a st = _
    rw [Jvm.Cond.before_and, ih, List.all_cons]
def words1 : List Jvm.Cond := Jvm.Cond.code x code maxLocals ret :: tables_1
/-- a 'code' word, met by the world's own term for the bytes: nothing is compared byte by byte -/
theorem code_word {y : MethodName} {bytes : ByteArray} {mx : Nat} {rt : Option FieldType} {a : Array Value} {s : State} {m : MethodId} {meth : Method} {c : Code} (h1 : s.methodNamed? y = some m) (h2 : s.vm.method? m = some meth) (h3 : meth.code = some c) (h4 : c.code = bytes)
    (h5 : (c.maxLocals == mx && c.exceptionTable.isEmpty && decide (c.maxStack ≤ mostOperands) && decide (meth.sig.returnType = rt) && !meth.locks && decide (parseMethodDescriptor y.desc = some meth.sig)) = true) : (Jvm.Cond.code y bytes mx rt).before a s = true := by
  simp only [Bool.and_eq_true, beq_iff_eq, Bool.not_eq_true', decide_eq_true_eq] at h5
  obtain ⟨⟨⟨⟨⟨g1, g2⟩, g3⟩, g4⟩, g5⟩, g6⟩ := h5
  simp [Cond.before, Cond.holds, Cond.value, h1, h2, h3, h4, g1, g2, g3, g4, g5, g6]
def isCode : Jvm.Cond → Bool
  | .code _ _ _ _ => true
  | _ => false
theorem all_split {L : List Jvm.Cond} {P : Jvm.Cond → Bool} (h1 : L.all (fun c => isCode c || P c) = true) (h2 : ∀ c ∈ L.filter isCode, P c = true) : L.all P = true := by
  refine List.all_eq_true.mpr fun c hc => ?_
  have h := List.all_eq_true.mp h1 c hc
  rcases Bool.eq_false_or_eq_true (isCode c) with hi | hi
  · exact h2 c (List.mem_filter.mpr ⟨hc, hi⟩)
  · simpa [hi] using h
set_option maxRecDepth 65536 in
theorem w_c0 : (Jvm.Cond.code x code maxLocals ret).before args0 about1 = true := code_word (m := ⟨1, 1⟩) (meth := k1m1) (c := k1c1) (by decide +kernel) rfl rfl rfl (by decide +kernel)
set_option maxRecDepth 65536 in
theorem w_c1 : (Jvm.Cond.code ({ cls := "com/example/portero/portero/matching/Ascii", name := "isLetter", desc := "(C)Z" } : Jvm.MethodName) prog_15_method_3_code (1 : Nat) (Option.some Jvm.ClassFile.FieldType.boolean)).before args0 about1 = true := code_word (m := ⟨2, 1⟩) (meth := k2m1) (c := k2c1) (by decide +kernel) rfl rfl rfl (by decide +kernel)
set_option maxRecDepth 65536 in
theorem w_c2 : (Jvm.Cond.code ({ cls := "com/example/portero/portero/matching/Ascii", name := "toLowerCase", desc := "(C)C" } : Jvm.MethodName) prog_15_method_4_code (1 : Nat) (Option.some Jvm.ClassFile.FieldType.char)).before args0 about1 = true := code_word (m := ⟨2, 2⟩) (meth := k2m2) (c := k2c2) (by decide +kernel) rfl rfl rfl (by decide +kernel)
def codes1 : List Jvm.Cond := [Jvm.Cond.code x code maxLocals ret, Jvm.Cond.code ({ cls := "com/example/portero/portero/matching/Ascii", name := "isLetter", desc := "(C)Z" } : Jvm.MethodName) prog_15_method_3_code (1 : Nat) (Option.some Jvm.ClassFile.FieldType.boolean), Jvm.Cond.code ({ cls := "com/example/portero/portero/matching/Ascii", name := "toLowerCase", desc := "(C)C" } : Jvm.MethodName) prog_15_method_4_code (1 : Nat) (Option.some Jvm.ClassFile.FieldType.char)]
set_option maxRecDepth 65536 in
theorem codes_eq : words1.filter isCode = codes1 := rfl
theorem w_codes : ∀ c ∈ words1.filter isCode, c.before args0 about1 = true := by
  rw [codes_eq]
  intro c hc
  simp only [codes1, List.mem_cons, List.not_mem_nil, or_false] at hc
  rcases hc with rfl | rfl | rfl
  · exact w_c0
  · exact w_c1
  · exact w_c2
set_option maxRecDepth 65536 in
theorem w_t1 : words1.all (fun c => isCode c || c.before args0 about1) = true := by decide +kernel
theorem w_tables : (allAtoms (Jvm.Cond.code x code maxLocals ret :: tables_1)).before args0 about1 = true := by
  rw [allAtoms_all]
  show words1.all (fun c => c.before args0 about1) = true
  refine all_split ?_ w_codes
  rw [w_t1]
set_option maxRecDepth 65536 in
theorem w_case : (Jvm.Cond.and given_1 narrow_1).before args0 about1 = true := by decide +kernel
theorem w_applies : (headSpec (Jvm.Cond.code x code maxLocals ret :: tables_1) room_1).applies x e0.platform about1 = true :=
  (Spec.applies_iff w_frames).mpr ⟨w_running, w_runnable, w_alone, w_named, w_hears, w_ripe, w_room, w_tables⟩
theorem atStart : AtStart classFile x code maxLocals ret World_1 tables_1 room_1 Calls_1 rest_1 Pre_1 launch0 p0 e0 about1 theMethod args0 below0 :=
  ⟨lists_1, trivial, launch0.admits_env _ _ _, launch0.least_env, fairChoices_fair.cas, fairChoices_fair.clock, w_frames, w_args, w_heap, w_applies, trivial, trivial, w_case⟩
end start1
theorem witness_1 : WitnessClaimed_1 := ⟨start1.p0, start1.e0, start1.about1, start1.theMethod, start1.args0, start1.below0, start1.atStart⟩
end Jvm.Pilot.@@N@@
