import JvmDerived
import JvmDerived.Pilot.@@N@@Statement
import JvmDerived.Pilot.@@N@@Code
set_option linter.unusedVariables false
set_option linter.unusedSimpArgs false
namespace Jvm.RoadKit
open Sem ClassFile Op Lib Jvm.Stand Jvm.Free Jvm.LawKit
section New
variable {p : Program} {l : Launch} {e : Env} {R : Room} {s : State} {m : MethodId} {args : Array Value} {below : List Frame} {meth : Method} {c : Code} {T : State} {locs : List Loc} {cells slots : Nat}
theorem retI (X : Stand p l e R s m args below meth c T locs cells slots) (hx : p.tables.exec = Jvm.exec) {pc : Nat} {Ls : Array Slot} {z : Int32} {rest : List Value} (hret : meth.sig.returnType = some .int) (hd : decode c.code pc = .ok (.ireturn, 1)) {fs : List Frame}
    (hl : ∀ (f : JFrame) (acts : List Action), f.method = m → f.locked = none → f.entered = [] → (doReturn e (T.setTop f) acts (some (.int z))).1 = T.setFrames fs) : Steps p.tables e below (T.setTop (mkF m pc Ls (.int z :: rest))) (T.setFrames fs) := by
  have hm' : T.vm.method? m = some meth := X.method'
  have hn : narrow .int (.int z) = .int z := rfl
  show Steps p.tables e below (T.setTop { method := m, pc := pc, locals := Ls, stack := _ :: rest, locked := none }) _
  jvm_step X.here [X.here.top, hx, hd, hm', hret, hn]
  first | (intro acts; rw [hl _ acts rfl rfl rfl]) | rw [hl _ _ rfl rfl rfl]
  exact Steps.refl _
end New
end Jvm.RoadKit
namespace Jvm.Pilot.@@N@@
open Jvm Jvm.ClassFile Sem Op Lib Jvm.Free Jvm.Stand Jvm.LawKit Jvm.RoadKit Bundle Jvm.Pilot.@@N@@.Jvm.D
/-! OWN KIT: a walk's goal that can be forked and joined -/
section OwnKit
variable {p : Program} {l : Launch} {e : Env} {R : Room} {s : State} {m : MethodId} {args : Array Value} {below : List Frame} {meth : Method} {c : Code} {T : State} {locs : List Loc} {cells slots : Nat}
/-- from the state st the run comes to its end, having returned v over the heap and the places of which F speaks -/
def own_End (p : Program) (e : Env) (below : List Frame) (s st : State) (F : Option Value → Heap → List Loc → Prop) (k n : Nat) : Prop :=
  ∃ s₂ o, Steps p.tables e below st s₂ ∧ s₂.status = .running ∧ Ended s₂ below o ∧ ∃ v L, o = .returned v ∧ F v s₂.heap L ∧ FrameEnd s o s₂ L k n
theorem own_go {st st' : State} {F : Option Value → Heap → List Loc → Prop} {k n : Nat} (h : ∀ t, Steps p.tables e below st' t → Steps p.tables e below st t) (q : own_End p e below s st' F k n) : own_End p e below s st F k n := by
  obtain ⟨s₂, o, h1, h2⟩ := q
  exact ⟨s₂, o, h _ h1, h2⟩
theorem own_ret (X : Stand p l e R s m args below meth c T locs cells slots) {v : Option Value} {g : JFrame} {F : Option Value → Heap → List Loc → Prop} {k n : Nat} (hv : meth.sig.returnType = none → v = none) (hlocks : meth.locks = false)
    (hst : ∀ fs, (∀ (f : JFrame) (acts : List Action), f.method = m → f.locked = none → f.entered = [] → (doReturn e (T.setTop f) acts v).1 = T.setFrames fs) → Steps p.tables e below (T.setTop g) (T.setFrames fs))
    (hF : F v T.heap locs) (hc : cells ≤ k) (hs : slots ≤ n) : own_End p e below s (T.setTop g) F k n := by
  obtain ⟨fs, hr, hrun, hended, hW, hsame⟩ := X.leave (v := v) hv hlocks
  exact ⟨_, _, hst fs hr, hrun, hended, _, _, rfl, hF, ⟨_, rfl⟩, hW, hsame.mono hc hs⟩
theorem own_retJ (X : Stand p l e R s m args below meth c T locs cells slots) (hx : p.tables.exec = Jvm.exec) {pc : Nat} {Ls : Array Slot} {z : Int64} {rest : List Value} (hret : meth.sig.returnType = some .long) (hd : decode c.code pc = .ok (.lreturn, 1)) {fs : List Frame}
    (hl : ∀ (f : JFrame) (acts : List Action), f.method = m → f.locked = none → f.entered = [] → (doReturn e (T.setTop f) acts (some (.long z))).1 = T.setFrames fs) : Steps p.tables e below (T.setTop (mkF m pc Ls (.long z :: rest))) (T.setFrames fs) := by
  have hm' : T.vm.method? m = some meth := X.method'
  have hn : narrow .long (.long z) = .long z := rfl
  show Steps p.tables e below (T.setTop { method := m, pc := pc, locals := Ls, stack := _ :: rest, locked := none }) _
  jvm_step X.here [X.here.top, hx, hd, hm', hret, hn]
  first | (intro acts; rw [hl _ acts rfl rfl rfl]) | rw [hl _ _ rfl rfl rfl]
  exact Steps.refl _
theorem own_retD (X : Stand p l e R s m args below meth c T locs cells slots) (hx : p.tables.exec = Jvm.exec) {pc : Nat} {Ls : Array Slot} {z : UInt64} {rest : List Value} (hret : meth.sig.returnType = some .double) (hd : decode c.code pc = .ok (.dreturn, 1)) {fs : List Frame}
    (hl : ∀ (f : JFrame) (acts : List Action), f.method = m → f.locked = none → f.entered = [] → (doReturn e (T.setTop f) acts (some (.double z))).1 = T.setFrames fs) : Steps p.tables e below (T.setTop (mkF m pc Ls (.double z :: rest))) (T.setFrames fs) := by
  have hm' : T.vm.method? m = some meth := X.method'
  have hn : narrow .double (.double z) = .double z := rfl
  show Steps p.tables e below (T.setTop { method := m, pc := pc, locals := Ls, stack := _ :: rest, locked := none }) _
  jvm_step X.here [X.here.top, hx, hd, hm', hret, hn]
  first | (intro acts; rw [hl _ acts rfl rfl rfl]) | rw [hl _ _ rfl rfl rfl]
  exact Steps.refl _
theorem own_tlt {x y : Int32} {i j : Int} (hx : x.toInt = i) (hy : y.toInt = j) (h : i < j) : if_icmp.holds .lt x y = true ∧ if_icmp.holds .ge x y = false ∧ if_icmp.holds .gt y x = true ∧ if_icmp.holds .le y x = false :=
  tlt (by rw [Int32.lt_iff_toInt_lt, hx, hy]; exact h)
theorem own_flt {x y : Int32} {i j : Int} (hx : x.toInt = i) (hy : y.toInt = j) (h : ¬ i < j) : if_icmp.holds .lt x y = false ∧ if_icmp.holds .ge x y = true ∧ if_icmp.holds .gt y x = false ∧ if_icmp.holds .le y x = true :=
  flt (by rw [Int32.lt_iff_toInt_lt, hx, hy]; exact h)
theorem own_eq {x y : Int32} {i j : Int} (hx : x.toInt = i) (hy : y.toInt = j) (h : i = j) : if_icmp.holds .eq x y = true ∧ if_icmp.holds .ne x y = false :=
  teq (Int32.toInt_inj.mp (by rw [hx, hy]; exact h))
theorem own_ne {x y : Int32} {i j : Int} (hx : x.toInt = i) (hy : y.toInt = j) (h : ¬ i = j) : if_icmp.holds .eq x y = false ∧ if_icmp.holds .ne x y = true :=
  feq (fun q => h (by rw [← hx, ← hy, q]))
theorem own_Llt {x y : Int64} {i j : Int} (hx : x.toInt = i) (hy : y.toInt = j) (h : i < j) : if_icmp.holds .lt (lcmpW x y) 0 = true ∧ if_icmp.holds .ge (lcmpW x y) 0 = false ∧ if_icmp.holds .gt 0 (lcmpW x y) = true ∧ if_icmp.holds .le 0 (lcmpW x y) = false :=
  tlt ((lw_lt x y).mpr (by rw [Int64.lt_iff_toInt_lt, hx, hy]; exact h))
theorem own_Llf {x y : Int64} {i j : Int} (hx : x.toInt = i) (hy : y.toInt = j) (h : ¬ i < j) : if_icmp.holds .lt (lcmpW x y) 0 = false ∧ if_icmp.holds .ge (lcmpW x y) 0 = true ∧ if_icmp.holds .gt 0 (lcmpW x y) = false ∧ if_icmp.holds .le 0 (lcmpW x y) = true :=
  flt (fun q => h (by have := (lw_lt x y).mp q; rw [Int64.lt_iff_toInt_lt, hx, hy] at this; exact this))
theorem own_Lgt {x y : Int64} {i j : Int} (hy : y.toInt = j) (hx : x.toInt = i) (h : j < i) : if_icmp.holds .lt 0 (lcmpW x y) = true ∧ if_icmp.holds .ge 0 (lcmpW x y) = false ∧ if_icmp.holds .gt (lcmpW x y) 0 = true ∧ if_icmp.holds .le (lcmpW x y) 0 = false :=
  tlt ((lw_gt x y).mpr (by rw [Int64.lt_iff_toInt_lt, hx, hy]; exact h))
theorem own_Lgf {x y : Int64} {i j : Int} (hy : y.toInt = j) (hx : x.toInt = i) (h : ¬ j < i) : if_icmp.holds .lt 0 (lcmpW x y) = false ∧ if_icmp.holds .ge 0 (lcmpW x y) = true ∧ if_icmp.holds .gt (lcmpW x y) 0 = false ∧ if_icmp.holds .le (lcmpW x y) 0 = true :=
  flt (fun q => h (by have := (lw_gt x y).mp q; rw [Int64.lt_iff_toInt_lt, hx, hy] at this; exact this))
theorem own_Let {x y : Int64} {i j : Int} (hx : x.toInt = i) (hy : y.toInt = j) (h : i = j) : if_icmp.holds .eq (lcmpW x y) 0 = true ∧ if_icmp.holds .ne (lcmpW x y) 0 = false :=
  teq ((lw_eq x y).mpr (Int64.toInt_inj.mp (by rw [hx, hy]; exact h)))
theorem own_Lef {x y : Int64} {i j : Int} (hx : x.toInt = i) (hy : y.toInt = j) (h : ¬ i = j) : if_icmp.holds .eq (lcmpW x y) 0 = false ∧ if_icmp.holds .ne (lcmpW x y) 0 = true :=
  feq (fun q => h (by rw [← hx, ← hy, (lw_eq x y).mp q]))
/-- (turned from the worked claim gauge-weight) the model's own selection picks a private method itself -/
theorem own_selP {y : MethodName} {s : State} {args : Array Value} {n : Nat} (hy : y.cls ≠ "java/lang/invoke/MethodHandle" ∧ y.cls ≠ "java/lang/invoke/VarHandle") (hins : (Cond.instantiable y.cls n).before args s = true) (hpriv : (Cond.privateMethod y).before args s = true) (hinst : (Cond.instanceMethod y).before args s = true) :
    (Cond.selects y.cls y y).before args s = true := by
  obtain ⟨c, k, hc, hk, -, hniab, -, -⟩ := Cond.instantiable_spec hins
  have hni : k.isInterface = false := (Bool.or_eq_false_iff.mp hniab).1
  obtain ⟨mk, methM, hnamed, hmethM, -, -⟩ := Cond.instanceMethod_spec hinst
  have hfound : s.methodFound? y.cls y.name y.desc = some mk := State.methodFound?_of_named hnamed hy
  have hcls : mk.cls = c := Option.some.inj ((findClass_of_methodNamed hnamed).symm.trans hc)
  have hsel : selectMethod {} s.vm c mk = .method mk := selectMethod_private hmethM (Cond.privateMethod_at hpriv mk methM hnamed hmethM)
  simp only [Cond.before, Cond.holds, Cond.value, hc, hfound, hnamed, hsel, hcls, hk]
  simp; exact hni
end OwnKit
theorem own_mask3 (x : Int32) : x &&& (3 : Int32) = (0 : Int32) ∨ x &&& (3 : Int32) = (1 : Int32) ∨ x &&& (3 : Int32) = (2 : Int32) ∨ x &&& (3 : Int32) = (3 : Int32) := by
  have h := c_mask x (3 : Int32) 2 (by decide) (by decide)
  have h0 : (0 : Int32).toInt = 0 := rfl
  have h1 : (1 : Int32).toInt = 1 := rfl
  have h2 : (2 : Int32).toInt = 2 := rfl
  have h3 : (3 : Int32).toInt = 3 := rfl
  rw [← Int32.toInt_inj, ← Int32.toInt_inj, ← Int32.toInt_inj, ← Int32.toInt_inj]
  omega
def own_At (vs : List Value) (n at' : Int32) (z : Int32) : Prop := (¬ at' < 0 ∧ at' < n → vs.getD at'.toNatClampNeg (.int (0 : Int32)) = .int z) ∧ (¬ (¬ at' < 0 ∧ at' < n) → z = (-1 : Int32))
theorem own_uniq {vs : List Value} {n a y z : Int32} (h : own_At vs n a y) (q : own_At vs n a z) : y.toInt = z.toInt := by
  by_cases c : ¬ a < 0 ∧ a < n
  · have := (h.1 c).symm.trans (q.1 c)
    injection this with t
    rw [t]
  · rw [h.2 c, q.2 c]
theorem own_lt0 {x y : Int32} {j : Int} (hy : y.toInt = j) : x < y ↔ x.toInt < j := by rw [Int32.lt_iff_toInt_lt, hy]
theorem own_pn0 : plainName "com/example/wayfold/wayfold/search/TripProblem" = true := by first | (simp [plainName, overriddenIn]; done) | decide +kernel
theorem own_ef1_rm1 (m : MethodId) (o0 : Addr) (p1 : Int32) : entryFrame m #[(.ref o0), (.int p1)] 2 = mkF m 0 #[.val (.ref o0), .val (.int p1)] [] := by first | (simp [entryFrame, mkF, argsToLocals, Value.category]; done) | rfl
def Q_rm1 (Z : State) (o0 : Addr) (p1 : Int32) (ka : ClassId) (N : Int32) (vs : List Value) (h0 : Heap) (n0 : Nat) (v : Option Value) (h : Heap) (L : List Loc) : Prop := (∃ z, v = some (.int z) ∧ own_At vs N p1 z) ∧ Fr n0 L ∧ h = h0
theorem d1_0 : decode prog_74_method_16_code 0 = .ok (.iload_n 1, 1) := by decide +kernel
theorem d1_1 : decode prog_74_method_16_code 1 = .ok (.ifCond .lt 9, 3) := by decide +kernel
theorem d1_10 : decode prog_74_method_16_code 10 = .ok (.iconst (-1), 1) := by decide +kernel
theorem d1_11 : decode prog_74_method_16_code 11 = .ok (.goto 6, 3) := by decide +kernel
theorem d1_17 : decode prog_74_method_16_code 17 = .ok (.ireturn, 1) := by decide +kernel
theorem d1_4 : decode prog_74_method_16_code 4 = .ok (.iload_n 1, 1) := by decide +kernel
theorem d1_5 : decode prog_74_method_16_code 5 = .ok (.aload_n 0, 1) := by decide +kernel
theorem d1_6 : decode prog_74_method_16_code 6 = .ok (.arraylength, 1) := by decide +kernel
theorem d1_7 : decode prog_74_method_16_code 7 = .ok (.if_icmp .lt 7, 3) := by decide +kernel
theorem d1_14 : decode prog_74_method_16_code 14 = .ok (.aload_n 0, 1) := by decide +kernel
theorem d1_15 : decode prog_74_method_16_code 15 = .ok (.iload_n 1, 1) := by decide +kernel
theorem d1_16 : decode prog_74_method_16_code 16 = .ok (.iaload, 1) := by decide +kernel
set_option maxRecDepth 65536 in
set_option maxHeartbeats 40000000 in
theorem rm1 (l : Launch) (Z : State) (a0 : Array Value) (hw : ∀ d ∈ tables_1, d.before a0 Z = true) (ws : List Jvm.Cond) (o0 : Addr) (p1 : Int32) (ka : ClassId) (N : Int32) (vs : List Value) (h0 : Heap) (n0 : Nat) (Z0 : n0 ≤ h0.size) (V0 : Arv Z h0 o0 ka .int N vs (.int (0 : Int32))) (hv : ∀ k, ∃ w, vs.getD k (.int (0 : Int32)) = .int w) :
    MetFree l (⟨"com/example/wayfold/wayfold/search/TripProblem", "stopAt", "([II)I"⟩ : MethodName) (head1 (Jvm.Cond.code (⟨"com/example/wayfold/wayfold/search/TripProblem", "stopAt", "([II)I"⟩ : MethodName) prog_74_method_16_code 2 (some .int) :: ws) ({ frames := 0, cells := 0, slots := 0, locals := 0 } : Room)) (fun a U => a = #[(.ref o0), (.int p1)] ∧ Z.Warmed39 U.vm ∧ U.heap = h0) (fun _ _ _ _ _ => True) (fun _ U o U' => ∃ v L, o = .returned v ∧ Q_rm1 Z o0 p1 ka N vs h0 n0 v U'.heap L ∧ FrameEnd U o U' L ({ frames := 0, cells := 0, slots := 0, locals := 0 } : Room).cells ({ frames := 0, cells := 0, slots := 0, locals := 0 } : Room).slots) := by
  refine MetFree.of_bodySF (plainFor_of_name own_pn0) hisR ?_
  intro p e s m args below meth c s₁ Bd hml0 hP hK
  obtain ⟨rfl, hZ, hh⟩ := hP
  have hx := Bd.exec
  have hby := Bd.bytes
  have hml : c.maxLocals = 2 := hml0
  have hown : s.vm.findClass "com/example/wayfold/wayfold/search/TripProblem" = some m.cls := findClass_of_methodNamed Bd.named
  have hnm := (name_of_methodNamed Bd.named Bd.method).1
  have X0 : Stand p l e ({ frames := 0, cells := 0, slots := 0, locals := 0 } : Room) s m #[(.ref o0), (.int p1)] below meth c s₁ [] 0 0 := Stand.of_body Bd
  have e0 : s₁.heap = h0 := by rw [← hh, Bd.state]; rfl
  have N0 := Fr.nil n0
  refine (show own_End p e below s (s₁.setTop (entryFrame m #[(.ref o0), (.int p1)] 2)) (Q_rm1 Z o0 p1 ka N vs h0 n0) ({ frames := 0, cells := 0, slots := 0, locals := 0 } : Room).cells ({ frames := 0, cells := 0, slots := 0, locals := 0 } : Room).slots from ?_)
  refine own_go (fun t k => castTop (own_ef1_rm1 m o0 p1) k) ?_
  have li0 : (0 : Int32).toInt = 0 := rfl
  have li1 : (1 : Int32).toInt = 1 := rfl
  show own_End p e below s (s₁.setTop (mkF m 0 #[.val (.ref o0), .val (.int p1)] [])) _ _ _
  refine own_go (fun t k => XS.iloadN X0.here hx rfl (hb hby d1_0) rfl k) ?_
  show own_End p e below s (s₁.setTop (mkF m 1 #[.val (.ref o0), .val (.int p1)] [(.int p1)])) _ _ _
  by_cases c1_1 : p1.toInt < 0
  · skip
    refine own_go (fun t k => XS.ifYes X0.here hx rfl (pc0 := 1) (pc' := 10) rfl (hb hby d1_1) rfl ((if0 _ _).trans (own_tlt (x := p1) (y := (0 : Int32)) (i := p1.toInt) (j := 0) rfl rfl c1_1).1) (by decide) (by decide) k) ?_
    show own_End p e below s (s₁.setTop (mkF m 10 #[.val (.ref o0), .val (.int p1)] [])) _ _ _
    refine own_go (fun t k => XS.iconst X0.here hx rfl (hb hby d1_10) k) ?_
    show own_End p e below s (s₁.setTop (mkF m 11 #[.val (.ref o0), .val (.int p1)] [(.int (-1 : Int32))])) _ _ _
    refine own_go (fun t k => XS.goto X0.here hx rfl (pc0 := 11) (pc' := 17) rfl (hb hby d1_11) (by decide) (by decide) k) ?_
    show own_End p e below s (s₁.setTop (mkF m 17 #[.val (.ref o0), .val (.int p1)] [(.int (-1 : Int32))])) _ _ _
    refine own_ret X0 (v := some (.int (-1 : Int32))) (fun h => by rw [Bd.returns] at h; cases h) Bd.notSynchronized (fun fs hr => retI X0 hx Bd.returns (hb hby d1_17) hr) ?_ (by decide) (by decide)
    · rw [e0]; exact ⟨⟨_, rfl, ⟨fun q => absurd q (by rw [Int32.lt_iff_toInt_lt, Int32.lt_iff_toInt_lt, li0]; omega), fun _ => rfl⟩⟩, N0, rfl⟩
  · skip
    refine own_go (fun t k => XS.ifNo X0.here hx rfl (hb hby d1_1) rfl ((if0 _ _).trans (own_flt (x := p1) (y := (0 : Int32)) (i := p1.toInt) (j := 0) rfl rfl c1_1).1) k) ?_
    show own_End p e below s (s₁.setTop (mkF m 4 #[.val (.ref o0), .val (.int p1)] [])) _ _ _
    refine own_go (fun t k => XS.iloadN X0.here hx rfl (hb hby d1_4) rfl k) ?_
    show own_End p e below s (s₁.setTop (mkF m 5 #[.val (.ref o0), .val (.int p1)] [(.int p1)])) _ _ _
    refine own_go (fun t k => XS.aloadN X0.here hx rfl (hb hby d1_5) rfl rfl k) ?_
    show own_End p e below s (s₁.setTop (mkF m 6 #[.val (.ref o0), .val (.int p1)] [(.ref o0), (.int p1)])) _ _ _
    obtain ⟨cl2, Ar2, q2, S2, M2, Hh2, G2⟩ := id V0
    refine own_go (fun t k => X0.arraylength hx (by rw [e0]; exact Ar2.1) (State.isArrayOf_alike hZ.alike Ar2.2.1) (g := (mkF m 6 #[.val (.ref o0), .val (.int p1)] [(.ref o0), (.int p1)])) rfl rfl (hb hby d1_6) _ (by rw [len_of S2 M2]; exact k)) ?_
    show own_End p e below s (s₁.setTop (mkF m 7 #[.val (.ref o0), .val (.int p1)] [(.int N), (.int p1)])) _ _ _
    by_cases c7_3 : p1.toInt < N.toInt
    · skip
      refine own_go (fun t k => XS.icmpYes X0.here hx rfl (pc0 := 7) (pc' := 14) rfl (hb hby d1_7) rfl (own_tlt (x := p1) (y := N) (i := p1.toInt) (j := N.toInt) rfl rfl c7_3).1 (by decide) (by decide) k) ?_
      show own_End p e below s (s₁.setTop (mkF m 14 #[.val (.ref o0), .val (.int p1)] [])) _ _ _
      refine own_go (fun t k => XS.aloadN X0.here hx rfl (hb hby d1_14) rfl rfl k) ?_
      show own_End p e below s (s₁.setTop (mkF m 15 #[.val (.ref o0), .val (.int p1)] [(.ref o0)])) _ _ _
      refine own_go (fun t k => XS.iloadN X0.here hx rfl (hb hby d1_15) rfl k) ?_
      show own_End p e below s (s₁.setTop (mkF m 16 #[.val (.ref o0), .val (.int p1)] [(.int p1), (.ref o0)])) _ _ _
      have i1 : ¬ p1 < 0 := fun q => by rw [Int32.lt_iff_toInt_lt] at q; omega
      have i2 : p1 < N := by rw [Int32.lt_iff_toInt_lt]; omega
      obtain ⟨clA, ArA, qA, SA, MA, HA, GA⟩ := id V0
      have hinA := inb_of SA ⟨i1, i2⟩
      obtain ⟨z0, hz⟩ := hv p1.toNatClampNeg
      refine own_go (fun t k => X0.iaload hx (j := p1) (v := (.int z0)) (by rw [e0]; exact ArA.1) (State.isArrayOf_alike hZ.alike ArA.2.1) ArA.2.2 hinA (HA.at hinA hz) (g := (mkF m 16 #[.val (.ref o0), .val (.int p1)] [(.int p1), (.ref o0)])) rfl rfl (hb hby d1_16) _ k) ?_
      show own_End p e below s (s₁.setTop (mkF m 17 #[.val (.ref o0), .val (.int p1)] [(.int z0)])) _ _ _
      refine own_ret X0 (v := some (.int z0)) (fun h => by rw [Bd.returns] at h; cases h) Bd.notSynchronized (fun fs hr => retI X0 hx Bd.returns (hb hby d1_17) hr) ?_ (by decide) (by decide)
      · rw [e0]; exact ⟨⟨_, rfl, ⟨fun _ => hz, fun q => absurd ⟨i1, i2⟩ q⟩⟩, N0, rfl⟩
    · skip
      refine own_go (fun t k => XS.icmpNo X0.here hx rfl (hb hby d1_7) rfl (own_flt (x := p1) (y := N) (i := p1.toInt) (j := N.toInt) rfl rfl c7_3).1 k) ?_
      show own_End p e below s (s₁.setTop (mkF m 10 #[.val (.ref o0), .val (.int p1)] [])) _ _ _
      refine own_go (fun t k => XS.iconst X0.here hx rfl (hb hby d1_10) k) ?_
      show own_End p e below s (s₁.setTop (mkF m 11 #[.val (.ref o0), .val (.int p1)] [(.int (-1 : Int32))])) _ _ _
      refine own_go (fun t k => XS.goto X0.here hx rfl (pc0 := 11) (pc' := 17) rfl (hb hby d1_11) (by decide) (by decide) k) ?_
      show own_End p e below s (s₁.setTop (mkF m 17 #[.val (.ref o0), .val (.int p1)] [(.int (-1 : Int32))])) _ _ _
      refine own_ret X0 (v := some (.int (-1 : Int32))) (fun h => by rw [Bd.returns] at h; cases h) Bd.notSynchronized (fun fs hr => retI X0 hx Bd.returns (hb hby d1_17) hr) ?_ (by decide) (by decide)
      · rw [e0]; exact ⟨⟨_, rfl, ⟨fun q => absurd q (by rw [Int32.lt_iff_toInt_lt, Int32.lt_iff_toInt_lt, li0]; omega), fun _ => rfl⟩⟩, N0, rfl⟩
theorem own_getD (vs : List Int32) (k : Nat) : ∃ w, (vs.map Value.int).getD k (.int (0 : Int32)) = .int w := by
  induction vs generalizing k with
  | nil => exact ⟨0, rfl⟩
  | cons a t ih =>
    cases k with
    | zero => exact ⟨a, rfl⟩
    | succ k => exact ih k
theorem own_pn1 : plainName "com/example/wayfold/wayfold/search/TripProblemStopAtPinLaw" = true := by first | (simp [plainName, overriddenIn]; done) | decide +kernel
theorem own_ef0_rm0 (m : MethodId) (p0 : Int32) (p1 : Int32) (p2 : Int32) (p3 : Int32) (p4 : Int32) : entryFrame m #[(.int p0), (.int p1), (.int p2), (.int p3), (.int p4)] maxLocals = mkF m 0 #[.val (.int p0), .val (.int p1), .val (.int p2), .val (.int p3), .val (.int p4), .unset, .unset, .unset, .unset, .unset] [] := by first | (simp [entryFrame, mkF, argsToLocals, Value.category, maxLocals]; done) | rfl
def Q_rm0 (Z : State) (p0 : Int32) (p1 : Int32) (p2 : Int32) (p3 : Int32) (p4 : Int32)  (h0 : Heap) (n0 : Nat) (v : Option Value) (h : Heap) (L : List Loc) : Prop := v = some (.int 1) ∧ Fr n0 L
theorem own_pd0 : parseMethodDescriptor "([II)I" = some ⟨[(.array .int), .int], some .int⟩ := by decide +kernel
set_option maxRecDepth 65536 in
set_option maxHeartbeats 40000000 in
theorem rm0 (l : Launch) (Z : State) (a0 : Array Value) (hw : ∀ d ∈ tables_1, d.before a0 Z = true) (ws : List Jvm.Cond) (p0 : Int32) (p1 : Int32) (p2 : Int32) (p3 : Int32) (p4 : Int32)  (h0 : Heap) (n0 : Nat) (Z0 : n0 ≤ h0.size)  :
    MetFree l x (head1 (Jvm.Cond.code x code maxLocals ret :: ws) room_1) (fun a U => a = #[(.int p0), (.int p1), (.int p2), (.int p3), (.int p4)] ∧ Z.Warmed39 U.vm ∧ U.heap = h0) (fun _ _ _ _ _ => True) (fun _ U o U' => ∃ v L, o = .returned v ∧ Q_rm0 Z p0 p1 p2 p3 p4  h0 n0 v U'.heap L ∧ FrameEnd U o U' L room_1.cells room_1.slots) := by
  refine MetFree.of_bodySF (plainFor_of_name own_pn1) hisR ?_
  intro p e s m args below meth c s₁ Bd hml0 hP hK
  obtain ⟨rfl, hZ, hh⟩ := hP
  have hx := Bd.exec
  have hby := Bd.bytes
  have hml : c.maxLocals = 10 := hml0
  have hown : s.vm.findClass "com/example/wayfold/wayfold/search/TripProblemStopAtPinLaw" = some m.cls := findClass_of_methodNamed Bd.named
  have hnm := (name_of_methodNamed Bd.named Bd.method).1
  have X0 : Stand p l e room_1 s m #[(.int p0), (.int p1), (.int p2), (.int p3), (.int p4)] below meth c s₁ [] 0 0 := Stand.of_body Bd
  have e0 : s₁.heap = h0 := by rw [← hh, Bd.state]; rfl
  have N0 := Fr.nil n0
  refine (show own_End p e below s (s₁.setTop (entryFrame m #[(.int p0), (.int p1), (.int p2), (.int p3), (.int p4)] maxLocals)) (Q_rm0 Z p0 p1 p2 p3 p4  h0 n0) room_1.cells room_1.slots from ?_)
  refine own_go (fun t k => castTop (own_ef0_rm0 m p0 p1 p2 p3 p4) k) ?_
  have li0 : (0 : Int32).toInt = 0 := rfl
  have li1 : (1 : Int32).toInt = 1 := rfl
  show own_End p e below s (s₁.setTop (mkF m 0 #[.val (.int p0), .val (.int p1), .val (.int p2), .val (.int p3), .val (.int p4), .unset, .unset, .unset, .unset, .unset] [])) _ _ _
  refine own_go (fun t k => XS.iloadN X0.here hx rfl (hb hby at_0) rfl k) ?_
  show own_End p e below s (s₁.setTop (mkF m 1 #[.val (.int p0), .val (.int p1), .val (.int p2), .val (.int p3), .val (.int p4), .unset, .unset, .unset, .unset, .unset] [(.int p0)])) _ _ _
  refine own_go (fun t k => XS.iconst X0.here hx rfl (hb hby at_1) k) ?_
  show own_End p e below s (s₁.setTop (mkF m 2 #[.val (.int p0), .val (.int p1), .val (.int p2), .val (.int p3), .val (.int p4), .unset, .unset, .unset, .unset, .unset] [(.int (3 : Int32)), (.int p0)])) _ _ _
  refine own_go (fun t k => XS.iand X0.here hx rfl (hb hby at_2) rfl k) ?_
  show own_End p e below s (s₁.setTop (mkF m 3 #[.val (.int p0), .val (.int p1), .val (.int p2), .val (.int p3), .val (.int p4), .unset, .unset, .unset, .unset, .unset] [(.int (p0 &&& (3 : Int32)))])) _ _ _
  refine own_go (fun t k => XS.istore X0.here hx rfl (hb hby at_3) rfl (l' := #[.val (.int p0), .val (.int p1), .val (.int p2), .val (.int p3), .val (.int p4), .val (.int (p0 &&& (3 : Int32))), .unset, .unset, .unset, .unset]) rfl k) ?_
  show own_End p e below s (s₁.setTop (mkF m 5 #[.val (.int p0), .val (.int p1), .val (.int p2), .val (.int p3), .val (.int p4), .val (.int (p0 &&& (3 : Int32))), .unset, .unset, .unset, .unset] [])) _ _ _
  rcases own_mask3 p0 with hm | hm | hm | hm
  · skip
    rw [hm]
    show own_End p e below s (s₁.setTop (mkF m 5 #[.val (.int p0), .val (.int p1), .val (.int p2), .val (.int p3), .val (.int p4), .val (.int (0 : Int32)), .unset, .unset, .unset, .unset] [])) _ _ _
    refine own_go (fun t k => XS.iload X0.here hx rfl (hb hby at_5) rfl k) ?_
    show own_End p e below s (s₁.setTop (mkF m 7 #[.val (.int p0), .val (.int p1), .val (.int p2), .val (.int p3), .val (.int p4), .val (.int (0 : Int32)), .unset, .unset, .unset, .unset] [(.int (0 : Int32))])) _ _ _
    obtain ⟨T1, h1, k1, X1, e1, E1, A1, st1⟩ := newP X0 hx hZ (hw _ (List.mem_of_getElem? (i := 0) rfl)) e0 (g := (mkF m 7 #[.val (.int p0), .val (.int p1), .val (.int p2), .val (.int p3), .val (.int p4), .val (.int (0 : Int32)), .unset, .unset, .unset, .unset] [(.int (0 : Int32))])) rfl (hb hby at_7) rfl (by decide) (cap := 0) (by decide) (by decide) (by decide) (by decide)
    obtain ⟨b1, g1⟩ : ∃ z, z = h0.size := ⟨_, rfl⟩
    rw [← g1] at A1 st1
    have g_b1 : n0 ≤ b1 := Nat.le_trans Z0 (Nat.le_of_eq g1.symm)
    have Z1 : n0 ≤ h1.size := Nat.le_trans Z0 E1.1
    have V_b1 : Arv Z h1 b1 k1 .int (0 : Int32) [] (.int (0 : Int32)) := (Arv.new A1 (by decide)).pad (pad_rep [] (.int (0 : Int32)) 0)
    refine own_go st1 ?_
    show own_End p e below s (T1.setTop (mkF m 9 #[.val (.int p0), .val (.int p1), .val (.int p2), .val (.int p3), .val (.int p4), .val (.int (0 : Int32)), .unset, .unset, .unset, .unset] [(.ref b1)])) _ _ _
    refine own_go (fun t k => XS.astore X1.here hx rfl (hb hby at_9) rfl rfl (l' := #[.val (.int p0), .val (.int p1), .val (.int p2), .val (.int p3), .val (.int p4), .val (.int (0 : Int32)), .val (.ref b1), .unset, .unset, .unset]) rfl k) ?_
    show own_End p e below s (T1.setTop (mkF m 11 #[.val (.int p0), .val (.int p1), .val (.int p2), .val (.int p3), .val (.int p4), .val (.int (0 : Int32)), .val (.ref b1), .unset, .unset, .unset] [])) _ _ _
    refine own_go (fun t k => XS.iload X1.here hx rfl (hb hby at_11) rfl k) ?_
    show own_End p e below s (T1.setTop (mkF m 13 #[.val (.int p0), .val (.int p1), .val (.int p2), .val (.int p3), .val (.int p4), .val (.int (0 : Int32)), .val (.ref b1), .unset, .unset, .unset] [(.int (0 : Int32))])) _ _ _
    refine own_go (fun t k => XS.ifYes X1.here hx rfl (pc0 := 13) (pc' := 21) rfl (hb hby at_13) rfl ((if0 _ _).trans (own_flt (x := (0 : Int32)) (y := (0 : Int32)) (i := 0) (j := 0) rfl rfl (by decide)).2.2.2) (by decide) (by decide) k) ?_
    show own_End p e below s (T1.setTop (mkF m 21 #[.val (.int p0), .val (.int p1), .val (.int p2), .val (.int p3), .val (.int p4), .val (.int (0 : Int32)), .val (.ref b1), .unset, .unset, .unset] [])) _ _ _
    refine own_go (fun t k => XS.iload X1.here hx rfl (hb hby at_21) rfl k) ?_
    show own_End p e below s (T1.setTop (mkF m 23 #[.val (.int p0), .val (.int p1), .val (.int p2), .val (.int p3), .val (.int p4), .val (.int (0 : Int32)), .val (.ref b1), .unset, .unset, .unset] [(.int (0 : Int32))])) _ _ _
    refine own_go (fun t k => XS.iconst X1.here hx rfl (hb hby at_23) k) ?_
    show own_End p e below s (T1.setTop (mkF m 24 #[.val (.int p0), .val (.int p1), .val (.int p2), .val (.int p3), .val (.int p4), .val (.int (0 : Int32)), .val (.ref b1), .unset, .unset, .unset] [(.int (1 : Int32)), (.int (0 : Int32))])) _ _ _
    refine own_go (fun t k => XS.icmpYes X1.here hx rfl (pc0 := 24) (pc' := 32) rfl (hb hby at_24) rfl (own_flt (x := (1 : Int32)) (y := (0 : Int32)) (i := 1) (j := 0) rfl rfl (by decide)).2.2.2 (by decide) (by decide) k) ?_
    show own_End p e below s (T1.setTop (mkF m 32 #[.val (.int p0), .val (.int p1), .val (.int p2), .val (.int p3), .val (.int p4), .val (.int (0 : Int32)), .val (.ref b1), .unset, .unset, .unset] [])) _ _ _
    refine own_go (fun t k => XS.iload X1.here hx rfl (hb hby at_32) rfl k) ?_
    show own_End p e below s (T1.setTop (mkF m 34 #[.val (.int p0), .val (.int p1), .val (.int p2), .val (.int p3), .val (.int p4), .val (.int (0 : Int32)), .val (.ref b1), .unset, .unset, .unset] [(.int (0 : Int32))])) _ _ _
    refine own_go (fun t k => XS.iconst X1.here hx rfl (hb hby at_34) k) ?_
    show own_End p e below s (T1.setTop (mkF m 35 #[.val (.int p0), .val (.int p1), .val (.int p2), .val (.int p3), .val (.int p4), .val (.int (0 : Int32)), .val (.ref b1), .unset, .unset, .unset] [(.int (2 : Int32)), (.int (0 : Int32))])) _ _ _
    refine own_go (fun t k => XS.icmpYes X1.here hx rfl (pc0 := 35) (pc' := 44) rfl (hb hby at_35) rfl (own_flt (x := (2 : Int32)) (y := (0 : Int32)) (i := 2) (j := 0) rfl rfl (by decide)).2.2.2 (by decide) (by decide) k) ?_
    show own_End p e below s (T1.setTop (mkF m 44 #[.val (.int p0), .val (.int p1), .val (.int p2), .val (.int p3), .val (.int p4), .val (.int (0 : Int32)), .val (.ref b1), .unset, .unset, .unset] [])) _ _ _
    have J97_0 : ∀ (ex : Int32) (hex : own_At [] (0 : Int32) p1 ex), own_End p e below s (T1.setTop (mkF m 97 #[.val (.int p0), .val (.int p1), .val (.int p2), .val (.int p3), .val (.int p4), .val (.int (0 : Int32)), .val (.ref b1), .val (.int ex), .unset, .unset] [])) (Q_rm0 Z p0 p1 p2 p3 p4  h0 n0) room_1.cells room_1.slots := by
      intro ex hex
      show own_End p e below s (T1.setTop (mkF m 97 #[.val (.int p0), .val (.int p1), .val (.int p2), .val (.int p3), .val (.int p4), .val (.int (0 : Int32)), .val (.ref b1), .val (.int ex), .unset, .unset] [])) _ _ _
      refine own_go (fun t k => XS.aload X1.here hx rfl (hb hby at_97) rfl rfl k) ?_
      show own_End p e below s (T1.setTop (mkF m 99 #[.val (.int p0), .val (.int p1), .val (.int p2), .val (.int p3), .val (.int p4), .val (.int (0 : Int32)), .val (.ref b1), .val (.int ex), .unset, .unset] [(.ref b1)])) _ _ _
      refine own_go (fun t k => XS.iloadN X1.here hx rfl (hb hby at_99) rfl k) ?_
      show own_End p e below s (T1.setTop (mkF m 100 #[.val (.int p0), .val (.int p1), .val (.int p2), .val (.int p3), .val (.int p4), .val (.int (0 : Int32)), .val (.ref b1), .val (.int ex), .unset, .unset] [(.int p1), (.ref b1)])) _ _ _
      obtain ⟨_, _, ⟨T2, L2, k2, n2⟩, -, X2, ⟨Lc2, hQ2, l2, y2, z2⟩, st2⟩ := Jvm.LawKit.callS X1 hx (y := (⟨"com/example/wayfold/wayfold/search/TripProblem", "stopAt", "([II)I"⟩ : MethodName)) hown (mvT hZ (hw _ (List.mem_of_getElem? (i := 1) rfl))) (mvT hZ (hw _ (List.mem_of_getElem? (i := 2) rfl))) (mvT hZ (hw _ (List.mem_of_getElem? (i := 3) rfl))) (mvT hZ (hw _ (List.mem_of_getElem? (i := 4) rfl))) (by decide) (backOf (W := 0) (rm1 l Z a0 hw [] b1 p1 k1 (0 : Int32) [] h1 n0 Z1 V_b1 (own_getD [])) hZ (hw _ (List.mem_of_getElem? (i := 4) rfl)) (hw _ (List.mem_of_getElem? (i := 3) rfl)) (by decide) (by decide)) (g := (mkF m 100 #[.val (.int p0), .val (.int p1), .val (.int p2), .val (.int p3), .val (.int p4), .val (.int (0 : Int32)), .val (.ref b1), .val (.int ex), .unset, .unset] [(.int p1), (.ref b1)])) rfl (by rw [hml]; rfl) (argsL := [(.ref b1), (.int p1)]) (rest := []) (lenOf own_pd0 rfl) rfl (by show 2 * 0 + _ ≤ _; exact Nat.le_of_eq rfl) (hb hby at_100) (fun _ _ => ⟨rfl, e1, (by decide : 1 + 0 ≤ _), (by decide : 0 + 0 ≤ _)⟩)
      dsimp only [Pt.U, Pt.locs, Pt.cells, Pt.slots] at X2 l2 y2 z2 st2 hQ2
      subst l2 y2 z2
      obtain ⟨⟨r2, rfl, hr2⟩, N2q, e2⟩ := hQ2
      have N2 := Fr.app N0 N2q
      refine own_go st2 ?_
      show own_End p e below s (T2.setTop (mkF m 103 #[.val (.int p0), .val (.int p1), .val (.int p2), .val (.int p3), .val (.int p4), .val (.int (0 : Int32)), .val (.ref b1), .val (.int ex), .unset, .unset] [(.int r2)])) _ _ _
      refine own_go (fun t k => XS.istore X2.here hx rfl (hb hby at_103) rfl (l' := #[.val (.int p0), .val (.int p1), .val (.int p2), .val (.int p3), .val (.int p4), .val (.int (0 : Int32)), .val (.ref b1), .val (.int ex), .val (.int r2), .unset]) rfl k) ?_
      show own_End p e below s (T2.setTop (mkF m 105 #[.val (.int p0), .val (.int p1), .val (.int p2), .val (.int p3), .val (.int p4), .val (.int (0 : Int32)), .val (.ref b1), .val (.int ex), .val (.int r2), .unset] [])) _ _ _
      refine own_go (fun t k => XS.iload X2.here hx rfl (hb hby at_105) rfl k) ?_
      show own_End p e below s (T2.setTop (mkF m 107 #[.val (.int p0), .val (.int p1), .val (.int p2), .val (.int p3), .val (.int p4), .val (.int (0 : Int32)), .val (.ref b1), .val (.int ex), .val (.int r2), .unset] [(.int (0 : Int32))])) _ _ _
      refine own_go (fun t k => XS.iconst X2.here hx rfl (hb hby at_107) k) ?_
      show own_End p e below s (T2.setTop (mkF m 108 #[.val (.int p0), .val (.int p1), .val (.int p2), .val (.int p3), .val (.int p4), .val (.int (0 : Int32)), .val (.ref b1), .val (.int ex), .val (.int r2), .unset] [(.int (1 : Int32)), (.int (0 : Int32))])) _ _ _
      refine own_go (fun t k => XS.icmpYes X2.here hx rfl (pc0 := 108) (pc' := 119) rfl (hb hby at_108) rfl (own_tlt (x := (0 : Int32)) (y := (1 : Int32)) (i := 0) (j := 1) rfl rfl (by decide)).1 (by decide) (by decide) k) ?_
      show own_End p e below s (T2.setTop (mkF m 119 #[.val (.int p0), .val (.int p1), .val (.int p2), .val (.int p3), .val (.int p4), .val (.int (0 : Int32)), .val (.ref b1), .val (.int ex), .val (.int r2), .unset] [])) _ _ _
      refine own_go (fun t k => XS.iload X2.here hx rfl (hb hby at_119) rfl k) ?_
      show own_End p e below s (T2.setTop (mkF m 121 #[.val (.int p0), .val (.int p1), .val (.int p2), .val (.int p3), .val (.int p4), .val (.int (0 : Int32)), .val (.ref b1), .val (.int ex), .val (.int r2), .unset] [(.int (0 : Int32))])) _ _ _
      refine own_go (fun t k => XS.iconst X2.here hx rfl (hb hby at_121) k) ?_
      show own_End p e below s (T2.setTop (mkF m 122 #[.val (.int p0), .val (.int p1), .val (.int p2), .val (.int p3), .val (.int p4), .val (.int (0 : Int32)), .val (.ref b1), .val (.int ex), .val (.int r2), .unset] [(.int (2 : Int32)), (.int (0 : Int32))])) _ _ _
      refine own_go (fun t k => XS.icmpYes X2.here hx rfl (pc0 := 122) (pc' := 133) rfl (hb hby at_122) rfl (own_tlt (x := (0 : Int32)) (y := (2 : Int32)) (i := 0) (j := 2) rfl rfl (by decide)).1 (by decide) (by decide) k) ?_
      show own_End p e below s (T2.setTop (mkF m 133 #[.val (.int p0), .val (.int p1), .val (.int p2), .val (.int p3), .val (.int p4), .val (.int (0 : Int32)), .val (.ref b1), .val (.int ex), .val (.int r2), .unset] [])) _ _ _
      refine own_go (fun t k => XS.iload X2.here hx rfl (hb hby at_133) rfl k) ?_
      show own_End p e below s (T2.setTop (mkF m 135 #[.val (.int p0), .val (.int p1), .val (.int p2), .val (.int p3), .val (.int p4), .val (.int (0 : Int32)), .val (.ref b1), .val (.int ex), .val (.int r2), .unset] [(.int (0 : Int32))])) _ _ _
      refine own_go (fun t k => XS.iconst X2.here hx rfl (hb hby at_135) k) ?_
      show own_End p e below s (T2.setTop (mkF m 136 #[.val (.int p0), .val (.int p1), .val (.int p2), .val (.int p3), .val (.int p4), .val (.int (0 : Int32)), .val (.ref b1), .val (.int ex), .val (.int r2), .unset] [(.int (3 : Int32)), (.int (0 : Int32))])) _ _ _
      refine own_go (fun t k => XS.icmpYes X2.here hx rfl (pc0 := 136) (pc' := 148) rfl (hb hby at_136) rfl (own_tlt (x := (0 : Int32)) (y := (3 : Int32)) (i := 0) (j := 3) rfl rfl (by decide)).1 (by decide) (by decide) k) ?_
      show own_End p e below s (T2.setTop (mkF m 148 #[.val (.int p0), .val (.int p1), .val (.int p2), .val (.int p3), .val (.int p4), .val (.int (0 : Int32)), .val (.ref b1), .val (.int ex), .val (.int r2), .unset] [])) _ _ _
      refine own_go (fun t k => XS.iconst X2.here hx rfl (hb hby at_148) k) ?_
      show own_End p e below s (T2.setTop (mkF m 149 #[.val (.int p0), .val (.int p1), .val (.int p2), .val (.int p3), .val (.int p4), .val (.int (0 : Int32)), .val (.ref b1), .val (.int ex), .val (.int r2), .unset] [(.int (1 : Int32))])) _ _ _
      refine own_go (fun t k => XS.goto X2.here hx rfl (pc0 := 149) (pc' := 153) rfl (hb hby at_149) (by decide) (by decide) k) ?_
      show own_End p e below s (T2.setTop (mkF m 153 #[.val (.int p0), .val (.int p1), .val (.int p2), .val (.int p3), .val (.int p4), .val (.int (0 : Int32)), .val (.ref b1), .val (.int ex), .val (.int r2), .unset] [(.int (1 : Int32))])) _ _ _
      refine own_go (fun t k => XS.istore X2.here hx rfl (hb hby at_153) rfl (l' := #[.val (.int p0), .val (.int p1), .val (.int p2), .val (.int p3), .val (.int p4), .val (.int (0 : Int32)), .val (.ref b1), .val (.int ex), .val (.int r2), .val (.int (1 : Int32))]) rfl k) ?_
      show own_End p e below s (T2.setTop (mkF m 155 #[.val (.int p0), .val (.int p1), .val (.int p2), .val (.int p3), .val (.int p4), .val (.int (0 : Int32)), .val (.ref b1), .val (.int ex), .val (.int r2), .val (.int (1 : Int32))] [])) _ _ _
      refine own_go (fun t k => XS.iload X2.here hx rfl (hb hby at_155) rfl k) ?_
      show own_End p e below s (T2.setTop (mkF m 157 #[.val (.int p0), .val (.int p1), .val (.int p2), .val (.int p3), .val (.int p4), .val (.int (0 : Int32)), .val (.ref b1), .val (.int ex), .val (.int r2), .val (.int (1 : Int32))] [(.int r2)])) _ _ _
      refine own_go (fun t k => XS.iload X2.here hx rfl (hb hby at_157) rfl k) ?_
      show own_End p e below s (T2.setTop (mkF m 159 #[.val (.int p0), .val (.int p1), .val (.int p2), .val (.int p3), .val (.int p4), .val (.int (0 : Int32)), .val (.ref b1), .val (.int ex), .val (.int r2), .val (.int (1 : Int32))] [(.int ex), (.int r2)])) _ _ _
      refine own_go (fun t k => XS.icmpNo X2.here hx rfl (hb hby at_159) rfl (own_eq (x := r2) (y := ex) (i := r2.toInt) (j := ex.toInt) rfl rfl (own_uniq hr2 hex)).2 k) ?_
      show own_End p e below s (T2.setTop (mkF m 162 #[.val (.int p0), .val (.int p1), .val (.int p2), .val (.int p3), .val (.int p4), .val (.int (0 : Int32)), .val (.ref b1), .val (.int ex), .val (.int r2), .val (.int (1 : Int32))] [])) _ _ _
      refine own_go (fun t k => XS.iload X2.here hx rfl (hb hby at_162) rfl k) ?_
      show own_End p e below s (T2.setTop (mkF m 164 #[.val (.int p0), .val (.int p1), .val (.int p2), .val (.int p3), .val (.int p4), .val (.int (0 : Int32)), .val (.ref b1), .val (.int ex), .val (.int r2), .val (.int (1 : Int32))] [(.int (1 : Int32))])) _ _ _
      refine own_go (fun t k => XS.ifNo X2.here hx rfl (hb hby at_164) rfl ((if0 _ _).trans (own_ne (x := (1 : Int32)) (y := (0 : Int32)) (i := 1) (j := 0) rfl rfl (by decide)).1) k) ?_
      show own_End p e below s (T2.setTop (mkF m 167 #[.val (.int p0), .val (.int p1), .val (.int p2), .val (.int p3), .val (.int p4), .val (.int (0 : Int32)), .val (.ref b1), .val (.int ex), .val (.int r2), .val (.int (1 : Int32))] [])) _ _ _
      refine own_go (fun t k => XS.iconst X2.here hx rfl (hb hby at_167) k) ?_
      show own_End p e below s (T2.setTop (mkF m 168 #[.val (.int p0), .val (.int p1), .val (.int p2), .val (.int p3), .val (.int p4), .val (.int (0 : Int32)), .val (.ref b1), .val (.int ex), .val (.int r2), .val (.int (1 : Int32))] [(.int (1 : Int32))])) _ _ _
      refine own_go (fun t k => XS.goto X2.here hx rfl (pc0 := 168) (pc' := 172) rfl (hb hby at_168) (by decide) (by decide) k) ?_
      show own_End p e below s (T2.setTop (mkF m 172 #[.val (.int p0), .val (.int p1), .val (.int p2), .val (.int p3), .val (.int p4), .val (.int (0 : Int32)), .val (.ref b1), .val (.int ex), .val (.int r2), .val (.int (1 : Int32))] [(.int (1 : Int32))])) _ _ _
      refine own_ret X2 (v := some (.int (1 : Int32))) (fun h => by rw [Bd.returns] at h; cases h) Bd.notSynchronized (fun fs hr => retN X2 hx (t := .boolean) Bd.returns (by simp) (hb hby at_172) hr) ?_ (by decide) (by decide)
      · exact ⟨rfl, N2⟩
    refine own_go (fun t k => XS.iloadN X1.here hx rfl (hb hby at_44) rfl k) ?_
    show own_End p e below s (T1.setTop (mkF m 45 #[.val (.int p0), .val (.int p1), .val (.int p2), .val (.int p3), .val (.int p4), .val (.int (0 : Int32)), .val (.ref b1), .unset, .unset, .unset] [(.int p1)])) _ _ _
    by_cases c45_0 : p1.toInt = 0
    · skip
      refine own_go (fun t k => XS.ifNo X1.here hx rfl (hb hby at_45) rfl ((if0 _ _).trans (own_eq (x := p1) (y := (0 : Int32)) (i := p1.toInt) (j := 0) rfl rfl c45_0).2) k) ?_
      show own_End p e below s (T1.setTop (mkF m 48 #[.val (.int p0), .val (.int p1), .val (.int p2), .val (.int p3), .val (.int p4), .val (.int (0 : Int32)), .val (.ref b1), .unset, .unset, .unset] [])) _ _ _
      refine own_go (fun t k => XS.iload X1.here hx rfl (hb hby at_48) rfl k) ?_
      show own_End p e below s (T1.setTop (mkF m 50 #[.val (.int p0), .val (.int p1), .val (.int p2), .val (.int p3), .val (.int p4), .val (.int (0 : Int32)), .val (.ref b1), .unset, .unset, .unset] [(.int (0 : Int32))])) _ _ _
      refine own_go (fun t k => XS.ifYes X1.here hx rfl (pc0 := 50) (pc' := 59) rfl (hb hby at_50) rfl ((if0 _ _).trans (own_flt (x := (0 : Int32)) (y := (0 : Int32)) (i := 0) (j := 0) rfl rfl (by decide)).2.2.2) (by decide) (by decide) k) ?_
      show own_End p e below s (T1.setTop (mkF m 59 #[.val (.int p0), .val (.int p1), .val (.int p2), .val (.int p3), .val (.int p4), .val (.int (0 : Int32)), .val (.ref b1), .unset, .unset, .unset] [])) _ _ _
      refine own_go (fun t k => XS.iloadN X1.here hx rfl (hb hby at_59) rfl k) ?_
      show own_End p e below s (T1.setTop (mkF m 60 #[.val (.int p0), .val (.int p1), .val (.int p2), .val (.int p3), .val (.int p4), .val (.int (0 : Int32)), .val (.ref b1), .unset, .unset, .unset] [(.int p1)])) _ _ _
      refine own_go (fun t k => XS.iconst X1.here hx rfl (hb hby at_60) k) ?_
      show own_End p e below s (T1.setTop (mkF m 61 #[.val (.int p0), .val (.int p1), .val (.int p2), .val (.int p3), .val (.int p4), .val (.int (0 : Int32)), .val (.ref b1), .unset, .unset, .unset] [(.int (1 : Int32)), (.int p1)])) _ _ _
      by_cases c61_0 : p1.toInt = 1
      · skip
        refine own_go (fun t k => XS.icmpNo X1.here hx rfl (hb hby at_61) rfl (own_eq (x := p1) (y := (1 : Int32)) (i := p1.toInt) (j := 1) rfl rfl c61_0).2 k) ?_
        show own_End p e below s (T1.setTop (mkF m 64 #[.val (.int p0), .val (.int p1), .val (.int p2), .val (.int p3), .val (.int p4), .val (.int (0 : Int32)), .val (.ref b1), .unset, .unset, .unset] [])) _ _ _
        refine own_go (fun t k => XS.iload X1.here hx rfl (hb hby at_64) rfl k) ?_
        show own_End p e below s (T1.setTop (mkF m 66 #[.val (.int p0), .val (.int p1), .val (.int p2), .val (.int p3), .val (.int p4), .val (.int (0 : Int32)), .val (.ref b1), .unset, .unset, .unset] [(.int (0 : Int32))])) _ _ _
        refine own_go (fun t k => XS.iconst X1.here hx rfl (hb hby at_66) k) ?_
        show own_End p e below s (T1.setTop (mkF m 67 #[.val (.int p0), .val (.int p1), .val (.int p2), .val (.int p3), .val (.int p4), .val (.int (0 : Int32)), .val (.ref b1), .unset, .unset, .unset] [(.int (1 : Int32)), (.int (0 : Int32))])) _ _ _
        refine own_go (fun t k => XS.icmpYes X1.here hx rfl (pc0 := 67) (pc' := 76) rfl (hb hby at_67) rfl (own_flt (x := (1 : Int32)) (y := (0 : Int32)) (i := 1) (j := 0) rfl rfl (by decide)).2.2.2 (by decide) (by decide) k) ?_
        show own_End p e below s (T1.setTop (mkF m 76 #[.val (.int p0), .val (.int p1), .val (.int p2), .val (.int p3), .val (.int p4), .val (.int (0 : Int32)), .val (.ref b1), .unset, .unset, .unset] [])) _ _ _
        refine own_go (fun t k => XS.iloadN X1.here hx rfl (hb hby at_76) rfl k) ?_
        show own_End p e below s (T1.setTop (mkF m 77 #[.val (.int p0), .val (.int p1), .val (.int p2), .val (.int p3), .val (.int p4), .val (.int (0 : Int32)), .val (.ref b1), .unset, .unset, .unset] [(.int p1)])) _ _ _
        refine own_go (fun t k => XS.iconst X1.here hx rfl (hb hby at_77) k) ?_
        show own_End p e below s (T1.setTop (mkF m 78 #[.val (.int p0), .val (.int p1), .val (.int p2), .val (.int p3), .val (.int p4), .val (.int (0 : Int32)), .val (.ref b1), .unset, .unset, .unset] [(.int (2 : Int32)), (.int p1)])) _ _ _
        by_cases c78_0 : p1.toInt = 2
        · skip
          refine own_go (fun t k => XS.icmpNo X1.here hx rfl (hb hby at_78) rfl (own_eq (x := p1) (y := (2 : Int32)) (i := p1.toInt) (j := 2) rfl rfl c78_0).2 k) ?_
          show own_End p e below s (T1.setTop (mkF m 81 #[.val (.int p0), .val (.int p1), .val (.int p2), .val (.int p3), .val (.int p4), .val (.int (0 : Int32)), .val (.ref b1), .unset, .unset, .unset] [])) _ _ _
          refine own_go (fun t k => XS.iload X1.here hx rfl (hb hby at_81) rfl k) ?_
          show own_End p e below s (T1.setTop (mkF m 83 #[.val (.int p0), .val (.int p1), .val (.int p2), .val (.int p3), .val (.int p4), .val (.int (0 : Int32)), .val (.ref b1), .unset, .unset, .unset] [(.int (0 : Int32))])) _ _ _
          refine own_go (fun t k => XS.iconst X1.here hx rfl (hb hby at_83) k) ?_
          show own_End p e below s (T1.setTop (mkF m 84 #[.val (.int p0), .val (.int p1), .val (.int p2), .val (.int p3), .val (.int p4), .val (.int (0 : Int32)), .val (.ref b1), .unset, .unset, .unset] [(.int (2 : Int32)), (.int (0 : Int32))])) _ _ _
          refine own_go (fun t k => XS.icmpYes X1.here hx rfl (pc0 := 84) (pc' := 94) rfl (hb hby at_84) rfl (own_flt (x := (2 : Int32)) (y := (0 : Int32)) (i := 2) (j := 0) rfl rfl (by decide)).2.2.2 (by decide) (by decide) k) ?_
          show own_End p e below s (T1.setTop (mkF m 94 #[.val (.int p0), .val (.int p1), .val (.int p2), .val (.int p3), .val (.int p4), .val (.int (0 : Int32)), .val (.ref b1), .unset, .unset, .unset] [])) _ _ _
          refine own_go (fun t k => XS.iconst X1.here hx rfl (hb hby at_94) k) ?_
          show own_End p e below s (T1.setTop (mkF m 95 #[.val (.int p0), .val (.int p1), .val (.int p2), .val (.int p3), .val (.int p4), .val (.int (0 : Int32)), .val (.ref b1), .unset, .unset, .unset] [(.int (-1 : Int32))])) _ _ _
          refine own_go (fun t k => XS.istore X1.here hx rfl (hb hby at_95) rfl (l' := #[.val (.int p0), .val (.int p1), .val (.int p2), .val (.int p3), .val (.int p4), .val (.int (0 : Int32)), .val (.ref b1), .val (.int (-1 : Int32)), .unset, .unset]) rfl k) ?_
          show own_End p e below s (T1.setTop (mkF m 97 #[.val (.int p0), .val (.int p1), .val (.int p2), .val (.int p3), .val (.int p4), .val (.int (0 : Int32)), .val (.ref b1), .val (.int (-1 : Int32)), .unset, .unset] [])) _ _ _
          exact J97_0 _ ⟨fun q => absurd q (by intro q; have q1 := q.1; have q2 := q.2; rw [Int32.lt_iff_toInt_lt] at q1 q2; have := show (0 : Int32).toInt = 0 from rfl; omega), fun _ => rfl⟩
        · skip
          refine own_go (fun t k => XS.icmpYes X1.here hx rfl (pc0 := 78) (pc' := 94) rfl (hb hby at_78) rfl (own_ne (x := p1) (y := (2 : Int32)) (i := p1.toInt) (j := 2) rfl rfl c78_0).2 (by decide) (by decide) k) ?_
          show own_End p e below s (T1.setTop (mkF m 94 #[.val (.int p0), .val (.int p1), .val (.int p2), .val (.int p3), .val (.int p4), .val (.int (0 : Int32)), .val (.ref b1), .unset, .unset, .unset] [])) _ _ _
          refine own_go (fun t k => XS.iconst X1.here hx rfl (hb hby at_94) k) ?_
          show own_End p e below s (T1.setTop (mkF m 95 #[.val (.int p0), .val (.int p1), .val (.int p2), .val (.int p3), .val (.int p4), .val (.int (0 : Int32)), .val (.ref b1), .unset, .unset, .unset] [(.int (-1 : Int32))])) _ _ _
          refine own_go (fun t k => XS.istore X1.here hx rfl (hb hby at_95) rfl (l' := #[.val (.int p0), .val (.int p1), .val (.int p2), .val (.int p3), .val (.int p4), .val (.int (0 : Int32)), .val (.ref b1), .val (.int (-1 : Int32)), .unset, .unset]) rfl k) ?_
          show own_End p e below s (T1.setTop (mkF m 97 #[.val (.int p0), .val (.int p1), .val (.int p2), .val (.int p3), .val (.int p4), .val (.int (0 : Int32)), .val (.ref b1), .val (.int (-1 : Int32)), .unset, .unset] [])) _ _ _
          exact J97_0 _ ⟨fun q => absurd q (by intro q; have q1 := q.1; have q2 := q.2; rw [Int32.lt_iff_toInt_lt] at q1 q2; have := show (0 : Int32).toInt = 0 from rfl; omega), fun _ => rfl⟩
      · skip
        refine own_go (fun t k => XS.icmpYes X1.here hx rfl (pc0 := 61) (pc' := 76) rfl (hb hby at_61) rfl (own_ne (x := p1) (y := (1 : Int32)) (i := p1.toInt) (j := 1) rfl rfl c61_0).2 (by decide) (by decide) k) ?_
        show own_End p e below s (T1.setTop (mkF m 76 #[.val (.int p0), .val (.int p1), .val (.int p2), .val (.int p3), .val (.int p4), .val (.int (0 : Int32)), .val (.ref b1), .unset, .unset, .unset] [])) _ _ _
        refine own_go (fun t k => XS.iloadN X1.here hx rfl (hb hby at_76) rfl k) ?_
        show own_End p e below s (T1.setTop (mkF m 77 #[.val (.int p0), .val (.int p1), .val (.int p2), .val (.int p3), .val (.int p4), .val (.int (0 : Int32)), .val (.ref b1), .unset, .unset, .unset] [(.int p1)])) _ _ _
        refine own_go (fun t k => XS.iconst X1.here hx rfl (hb hby at_77) k) ?_
        show own_End p e below s (T1.setTop (mkF m 78 #[.val (.int p0), .val (.int p1), .val (.int p2), .val (.int p3), .val (.int p4), .val (.int (0 : Int32)), .val (.ref b1), .unset, .unset, .unset] [(.int (2 : Int32)), (.int p1)])) _ _ _
        by_cases c78_0 : p1.toInt = 2
        · skip
          refine own_go (fun t k => XS.icmpNo X1.here hx rfl (hb hby at_78) rfl (own_eq (x := p1) (y := (2 : Int32)) (i := p1.toInt) (j := 2) rfl rfl c78_0).2 k) ?_
          show own_End p e below s (T1.setTop (mkF m 81 #[.val (.int p0), .val (.int p1), .val (.int p2), .val (.int p3), .val (.int p4), .val (.int (0 : Int32)), .val (.ref b1), .unset, .unset, .unset] [])) _ _ _
          refine own_go (fun t k => XS.iload X1.here hx rfl (hb hby at_81) rfl k) ?_
          show own_End p e below s (T1.setTop (mkF m 83 #[.val (.int p0), .val (.int p1), .val (.int p2), .val (.int p3), .val (.int p4), .val (.int (0 : Int32)), .val (.ref b1), .unset, .unset, .unset] [(.int (0 : Int32))])) _ _ _
          refine own_go (fun t k => XS.iconst X1.here hx rfl (hb hby at_83) k) ?_
          show own_End p e below s (T1.setTop (mkF m 84 #[.val (.int p0), .val (.int p1), .val (.int p2), .val (.int p3), .val (.int p4), .val (.int (0 : Int32)), .val (.ref b1), .unset, .unset, .unset] [(.int (2 : Int32)), (.int (0 : Int32))])) _ _ _
          refine own_go (fun t k => XS.icmpYes X1.here hx rfl (pc0 := 84) (pc' := 94) rfl (hb hby at_84) rfl (own_flt (x := (2 : Int32)) (y := (0 : Int32)) (i := 2) (j := 0) rfl rfl (by decide)).2.2.2 (by decide) (by decide) k) ?_
          show own_End p e below s (T1.setTop (mkF m 94 #[.val (.int p0), .val (.int p1), .val (.int p2), .val (.int p3), .val (.int p4), .val (.int (0 : Int32)), .val (.ref b1), .unset, .unset, .unset] [])) _ _ _
          refine own_go (fun t k => XS.iconst X1.here hx rfl (hb hby at_94) k) ?_
          show own_End p e below s (T1.setTop (mkF m 95 #[.val (.int p0), .val (.int p1), .val (.int p2), .val (.int p3), .val (.int p4), .val (.int (0 : Int32)), .val (.ref b1), .unset, .unset, .unset] [(.int (-1 : Int32))])) _ _ _
          refine own_go (fun t k => XS.istore X1.here hx rfl (hb hby at_95) rfl (l' := #[.val (.int p0), .val (.int p1), .val (.int p2), .val (.int p3), .val (.int p4), .val (.int (0 : Int32)), .val (.ref b1), .val (.int (-1 : Int32)), .unset, .unset]) rfl k) ?_
          show own_End p e below s (T1.setTop (mkF m 97 #[.val (.int p0), .val (.int p1), .val (.int p2), .val (.int p3), .val (.int p4), .val (.int (0 : Int32)), .val (.ref b1), .val (.int (-1 : Int32)), .unset, .unset] [])) _ _ _
          exact J97_0 _ ⟨fun q => absurd q (by intro q; have q1 := q.1; have q2 := q.2; rw [Int32.lt_iff_toInt_lt] at q1 q2; have := show (0 : Int32).toInt = 0 from rfl; omega), fun _ => rfl⟩
        · skip
          refine own_go (fun t k => XS.icmpYes X1.here hx rfl (pc0 := 78) (pc' := 94) rfl (hb hby at_78) rfl (own_ne (x := p1) (y := (2 : Int32)) (i := p1.toInt) (j := 2) rfl rfl c78_0).2 (by decide) (by decide) k) ?_
          show own_End p e below s (T1.setTop (mkF m 94 #[.val (.int p0), .val (.int p1), .val (.int p2), .val (.int p3), .val (.int p4), .val (.int (0 : Int32)), .val (.ref b1), .unset, .unset, .unset] [])) _ _ _
          refine own_go (fun t k => XS.iconst X1.here hx rfl (hb hby at_94) k) ?_
          show own_End p e below s (T1.setTop (mkF m 95 #[.val (.int p0), .val (.int p1), .val (.int p2), .val (.int p3), .val (.int p4), .val (.int (0 : Int32)), .val (.ref b1), .unset, .unset, .unset] [(.int (-1 : Int32))])) _ _ _
          refine own_go (fun t k => XS.istore X1.here hx rfl (hb hby at_95) rfl (l' := #[.val (.int p0), .val (.int p1), .val (.int p2), .val (.int p3), .val (.int p4), .val (.int (0 : Int32)), .val (.ref b1), .val (.int (-1 : Int32)), .unset, .unset]) rfl k) ?_
          show own_End p e below s (T1.setTop (mkF m 97 #[.val (.int p0), .val (.int p1), .val (.int p2), .val (.int p3), .val (.int p4), .val (.int (0 : Int32)), .val (.ref b1), .val (.int (-1 : Int32)), .unset, .unset] [])) _ _ _
          exact J97_0 _ ⟨fun q => absurd q (by intro q; have q1 := q.1; have q2 := q.2; rw [Int32.lt_iff_toInt_lt] at q1 q2; have := show (0 : Int32).toInt = 0 from rfl; omega), fun _ => rfl⟩
    · skip
      refine own_go (fun t k => XS.ifYes X1.here hx rfl (pc0 := 45) (pc' := 59) rfl (hb hby at_45) rfl ((if0 _ _).trans (own_ne (x := p1) (y := (0 : Int32)) (i := p1.toInt) (j := 0) rfl rfl c45_0).2) (by decide) (by decide) k) ?_
      show own_End p e below s (T1.setTop (mkF m 59 #[.val (.int p0), .val (.int p1), .val (.int p2), .val (.int p3), .val (.int p4), .val (.int (0 : Int32)), .val (.ref b1), .unset, .unset, .unset] [])) _ _ _
      refine own_go (fun t k => XS.iloadN X1.here hx rfl (hb hby at_59) rfl k) ?_
      show own_End p e below s (T1.setTop (mkF m 60 #[.val (.int p0), .val (.int p1), .val (.int p2), .val (.int p3), .val (.int p4), .val (.int (0 : Int32)), .val (.ref b1), .unset, .unset, .unset] [(.int p1)])) _ _ _
      refine own_go (fun t k => XS.iconst X1.here hx rfl (hb hby at_60) k) ?_
      show own_End p e below s (T1.setTop (mkF m 61 #[.val (.int p0), .val (.int p1), .val (.int p2), .val (.int p3), .val (.int p4), .val (.int (0 : Int32)), .val (.ref b1), .unset, .unset, .unset] [(.int (1 : Int32)), (.int p1)])) _ _ _
      by_cases c61_0 : p1.toInt = 1
      · skip
        refine own_go (fun t k => XS.icmpNo X1.here hx rfl (hb hby at_61) rfl (own_eq (x := p1) (y := (1 : Int32)) (i := p1.toInt) (j := 1) rfl rfl c61_0).2 k) ?_
        show own_End p e below s (T1.setTop (mkF m 64 #[.val (.int p0), .val (.int p1), .val (.int p2), .val (.int p3), .val (.int p4), .val (.int (0 : Int32)), .val (.ref b1), .unset, .unset, .unset] [])) _ _ _
        refine own_go (fun t k => XS.iload X1.here hx rfl (hb hby at_64) rfl k) ?_
        show own_End p e below s (T1.setTop (mkF m 66 #[.val (.int p0), .val (.int p1), .val (.int p2), .val (.int p3), .val (.int p4), .val (.int (0 : Int32)), .val (.ref b1), .unset, .unset, .unset] [(.int (0 : Int32))])) _ _ _
        refine own_go (fun t k => XS.iconst X1.here hx rfl (hb hby at_66) k) ?_
        show own_End p e below s (T1.setTop (mkF m 67 #[.val (.int p0), .val (.int p1), .val (.int p2), .val (.int p3), .val (.int p4), .val (.int (0 : Int32)), .val (.ref b1), .unset, .unset, .unset] [(.int (1 : Int32)), (.int (0 : Int32))])) _ _ _
        refine own_go (fun t k => XS.icmpYes X1.here hx rfl (pc0 := 67) (pc' := 76) rfl (hb hby at_67) rfl (own_flt (x := (1 : Int32)) (y := (0 : Int32)) (i := 1) (j := 0) rfl rfl (by decide)).2.2.2 (by decide) (by decide) k) ?_
        show own_End p e below s (T1.setTop (mkF m 76 #[.val (.int p0), .val (.int p1), .val (.int p2), .val (.int p3), .val (.int p4), .val (.int (0 : Int32)), .val (.ref b1), .unset, .unset, .unset] [])) _ _ _
        refine own_go (fun t k => XS.iloadN X1.here hx rfl (hb hby at_76) rfl k) ?_
        show own_End p e below s (T1.setTop (mkF m 77 #[.val (.int p0), .val (.int p1), .val (.int p2), .val (.int p3), .val (.int p4), .val (.int (0 : Int32)), .val (.ref b1), .unset, .unset, .unset] [(.int p1)])) _ _ _
        refine own_go (fun t k => XS.iconst X1.here hx rfl (hb hby at_77) k) ?_
        show own_End p e below s (T1.setTop (mkF m 78 #[.val (.int p0), .val (.int p1), .val (.int p2), .val (.int p3), .val (.int p4), .val (.int (0 : Int32)), .val (.ref b1), .unset, .unset, .unset] [(.int (2 : Int32)), (.int p1)])) _ _ _
        by_cases c78_0 : p1.toInt = 2
        · skip
          refine own_go (fun t k => XS.icmpNo X1.here hx rfl (hb hby at_78) rfl (own_eq (x := p1) (y := (2 : Int32)) (i := p1.toInt) (j := 2) rfl rfl c78_0).2 k) ?_
          show own_End p e below s (T1.setTop (mkF m 81 #[.val (.int p0), .val (.int p1), .val (.int p2), .val (.int p3), .val (.int p4), .val (.int (0 : Int32)), .val (.ref b1), .unset, .unset, .unset] [])) _ _ _
          refine own_go (fun t k => XS.iload X1.here hx rfl (hb hby at_81) rfl k) ?_
          show own_End p e below s (T1.setTop (mkF m 83 #[.val (.int p0), .val (.int p1), .val (.int p2), .val (.int p3), .val (.int p4), .val (.int (0 : Int32)), .val (.ref b1), .unset, .unset, .unset] [(.int (0 : Int32))])) _ _ _
          refine own_go (fun t k => XS.iconst X1.here hx rfl (hb hby at_83) k) ?_
          show own_End p e below s (T1.setTop (mkF m 84 #[.val (.int p0), .val (.int p1), .val (.int p2), .val (.int p3), .val (.int p4), .val (.int (0 : Int32)), .val (.ref b1), .unset, .unset, .unset] [(.int (2 : Int32)), (.int (0 : Int32))])) _ _ _
          refine own_go (fun t k => XS.icmpYes X1.here hx rfl (pc0 := 84) (pc' := 94) rfl (hb hby at_84) rfl (own_flt (x := (2 : Int32)) (y := (0 : Int32)) (i := 2) (j := 0) rfl rfl (by decide)).2.2.2 (by decide) (by decide) k) ?_
          show own_End p e below s (T1.setTop (mkF m 94 #[.val (.int p0), .val (.int p1), .val (.int p2), .val (.int p3), .val (.int p4), .val (.int (0 : Int32)), .val (.ref b1), .unset, .unset, .unset] [])) _ _ _
          refine own_go (fun t k => XS.iconst X1.here hx rfl (hb hby at_94) k) ?_
          show own_End p e below s (T1.setTop (mkF m 95 #[.val (.int p0), .val (.int p1), .val (.int p2), .val (.int p3), .val (.int p4), .val (.int (0 : Int32)), .val (.ref b1), .unset, .unset, .unset] [(.int (-1 : Int32))])) _ _ _
          refine own_go (fun t k => XS.istore X1.here hx rfl (hb hby at_95) rfl (l' := #[.val (.int p0), .val (.int p1), .val (.int p2), .val (.int p3), .val (.int p4), .val (.int (0 : Int32)), .val (.ref b1), .val (.int (-1 : Int32)), .unset, .unset]) rfl k) ?_
          show own_End p e below s (T1.setTop (mkF m 97 #[.val (.int p0), .val (.int p1), .val (.int p2), .val (.int p3), .val (.int p4), .val (.int (0 : Int32)), .val (.ref b1), .val (.int (-1 : Int32)), .unset, .unset] [])) _ _ _
          exact J97_0 _ ⟨fun q => absurd q (by intro q; have q1 := q.1; have q2 := q.2; rw [Int32.lt_iff_toInt_lt] at q1 q2; have := show (0 : Int32).toInt = 0 from rfl; omega), fun _ => rfl⟩
        · skip
          refine own_go (fun t k => XS.icmpYes X1.here hx rfl (pc0 := 78) (pc' := 94) rfl (hb hby at_78) rfl (own_ne (x := p1) (y := (2 : Int32)) (i := p1.toInt) (j := 2) rfl rfl c78_0).2 (by decide) (by decide) k) ?_
          show own_End p e below s (T1.setTop (mkF m 94 #[.val (.int p0), .val (.int p1), .val (.int p2), .val (.int p3), .val (.int p4), .val (.int (0 : Int32)), .val (.ref b1), .unset, .unset, .unset] [])) _ _ _
          refine own_go (fun t k => XS.iconst X1.here hx rfl (hb hby at_94) k) ?_
          show own_End p e below s (T1.setTop (mkF m 95 #[.val (.int p0), .val (.int p1), .val (.int p2), .val (.int p3), .val (.int p4), .val (.int (0 : Int32)), .val (.ref b1), .unset, .unset, .unset] [(.int (-1 : Int32))])) _ _ _
          refine own_go (fun t k => XS.istore X1.here hx rfl (hb hby at_95) rfl (l' := #[.val (.int p0), .val (.int p1), .val (.int p2), .val (.int p3), .val (.int p4), .val (.int (0 : Int32)), .val (.ref b1), .val (.int (-1 : Int32)), .unset, .unset]) rfl k) ?_
          show own_End p e below s (T1.setTop (mkF m 97 #[.val (.int p0), .val (.int p1), .val (.int p2), .val (.int p3), .val (.int p4), .val (.int (0 : Int32)), .val (.ref b1), .val (.int (-1 : Int32)), .unset, .unset] [])) _ _ _
          exact J97_0 _ ⟨fun q => absurd q (by intro q; have q1 := q.1; have q2 := q.2; rw [Int32.lt_iff_toInt_lt] at q1 q2; have := show (0 : Int32).toInt = 0 from rfl; omega), fun _ => rfl⟩
      · skip
        refine own_go (fun t k => XS.icmpYes X1.here hx rfl (pc0 := 61) (pc' := 76) rfl (hb hby at_61) rfl (own_ne (x := p1) (y := (1 : Int32)) (i := p1.toInt) (j := 1) rfl rfl c61_0).2 (by decide) (by decide) k) ?_
        show own_End p e below s (T1.setTop (mkF m 76 #[.val (.int p0), .val (.int p1), .val (.int p2), .val (.int p3), .val (.int p4), .val (.int (0 : Int32)), .val (.ref b1), .unset, .unset, .unset] [])) _ _ _
        refine own_go (fun t k => XS.iloadN X1.here hx rfl (hb hby at_76) rfl k) ?_
        show own_End p e below s (T1.setTop (mkF m 77 #[.val (.int p0), .val (.int p1), .val (.int p2), .val (.int p3), .val (.int p4), .val (.int (0 : Int32)), .val (.ref b1), .unset, .unset, .unset] [(.int p1)])) _ _ _
        refine own_go (fun t k => XS.iconst X1.here hx rfl (hb hby at_77) k) ?_
        show own_End p e below s (T1.setTop (mkF m 78 #[.val (.int p0), .val (.int p1), .val (.int p2), .val (.int p3), .val (.int p4), .val (.int (0 : Int32)), .val (.ref b1), .unset, .unset, .unset] [(.int (2 : Int32)), (.int p1)])) _ _ _
        by_cases c78_0 : p1.toInt = 2
        · skip
          refine own_go (fun t k => XS.icmpNo X1.here hx rfl (hb hby at_78) rfl (own_eq (x := p1) (y := (2 : Int32)) (i := p1.toInt) (j := 2) rfl rfl c78_0).2 k) ?_
          show own_End p e below s (T1.setTop (mkF m 81 #[.val (.int p0), .val (.int p1), .val (.int p2), .val (.int p3), .val (.int p4), .val (.int (0 : Int32)), .val (.ref b1), .unset, .unset, .unset] [])) _ _ _
          refine own_go (fun t k => XS.iload X1.here hx rfl (hb hby at_81) rfl k) ?_
          show own_End p e below s (T1.setTop (mkF m 83 #[.val (.int p0), .val (.int p1), .val (.int p2), .val (.int p3), .val (.int p4), .val (.int (0 : Int32)), .val (.ref b1), .unset, .unset, .unset] [(.int (0 : Int32))])) _ _ _
          refine own_go (fun t k => XS.iconst X1.here hx rfl (hb hby at_83) k) ?_
          show own_End p e below s (T1.setTop (mkF m 84 #[.val (.int p0), .val (.int p1), .val (.int p2), .val (.int p3), .val (.int p4), .val (.int (0 : Int32)), .val (.ref b1), .unset, .unset, .unset] [(.int (2 : Int32)), (.int (0 : Int32))])) _ _ _
          refine own_go (fun t k => XS.icmpYes X1.here hx rfl (pc0 := 84) (pc' := 94) rfl (hb hby at_84) rfl (own_flt (x := (2 : Int32)) (y := (0 : Int32)) (i := 2) (j := 0) rfl rfl (by decide)).2.2.2 (by decide) (by decide) k) ?_
          show own_End p e below s (T1.setTop (mkF m 94 #[.val (.int p0), .val (.int p1), .val (.int p2), .val (.int p3), .val (.int p4), .val (.int (0 : Int32)), .val (.ref b1), .unset, .unset, .unset] [])) _ _ _
          refine own_go (fun t k => XS.iconst X1.here hx rfl (hb hby at_94) k) ?_
          show own_End p e below s (T1.setTop (mkF m 95 #[.val (.int p0), .val (.int p1), .val (.int p2), .val (.int p3), .val (.int p4), .val (.int (0 : Int32)), .val (.ref b1), .unset, .unset, .unset] [(.int (-1 : Int32))])) _ _ _
          refine own_go (fun t k => XS.istore X1.here hx rfl (hb hby at_95) rfl (l' := #[.val (.int p0), .val (.int p1), .val (.int p2), .val (.int p3), .val (.int p4), .val (.int (0 : Int32)), .val (.ref b1), .val (.int (-1 : Int32)), .unset, .unset]) rfl k) ?_
          show own_End p e below s (T1.setTop (mkF m 97 #[.val (.int p0), .val (.int p1), .val (.int p2), .val (.int p3), .val (.int p4), .val (.int (0 : Int32)), .val (.ref b1), .val (.int (-1 : Int32)), .unset, .unset] [])) _ _ _
          exact J97_0 _ ⟨fun q => absurd q (by intro q; have q1 := q.1; have q2 := q.2; rw [Int32.lt_iff_toInt_lt] at q1 q2; have := show (0 : Int32).toInt = 0 from rfl; omega), fun _ => rfl⟩
        · skip
          refine own_go (fun t k => XS.icmpYes X1.here hx rfl (pc0 := 78) (pc' := 94) rfl (hb hby at_78) rfl (own_ne (x := p1) (y := (2 : Int32)) (i := p1.toInt) (j := 2) rfl rfl c78_0).2 (by decide) (by decide) k) ?_
          show own_End p e below s (T1.setTop (mkF m 94 #[.val (.int p0), .val (.int p1), .val (.int p2), .val (.int p3), .val (.int p4), .val (.int (0 : Int32)), .val (.ref b1), .unset, .unset, .unset] [])) _ _ _
          refine own_go (fun t k => XS.iconst X1.here hx rfl (hb hby at_94) k) ?_
          show own_End p e below s (T1.setTop (mkF m 95 #[.val (.int p0), .val (.int p1), .val (.int p2), .val (.int p3), .val (.int p4), .val (.int (0 : Int32)), .val (.ref b1), .unset, .unset, .unset] [(.int (-1 : Int32))])) _ _ _
          refine own_go (fun t k => XS.istore X1.here hx rfl (hb hby at_95) rfl (l' := #[.val (.int p0), .val (.int p1), .val (.int p2), .val (.int p3), .val (.int p4), .val (.int (0 : Int32)), .val (.ref b1), .val (.int (-1 : Int32)), .unset, .unset]) rfl k) ?_
          show own_End p e below s (T1.setTop (mkF m 97 #[.val (.int p0), .val (.int p1), .val (.int p2), .val (.int p3), .val (.int p4), .val (.int (0 : Int32)), .val (.ref b1), .val (.int (-1 : Int32)), .unset, .unset] [])) _ _ _
          exact J97_0 _ ⟨fun q => absurd q (by intro q; have q1 := q.1; have q2 := q.2; rw [Int32.lt_iff_toInt_lt] at q1 q2; have := show (0 : Int32).toInt = 0 from rfl; omega), fun _ => rfl⟩
  · skip
    rw [hm]
    show own_End p e below s (s₁.setTop (mkF m 5 #[.val (.int p0), .val (.int p1), .val (.int p2), .val (.int p3), .val (.int p4), .val (.int (1 : Int32)), .unset, .unset, .unset, .unset] [])) _ _ _
    refine own_go (fun t k => XS.iload X0.here hx rfl (hb hby at_5) rfl k) ?_
    show own_End p e below s (s₁.setTop (mkF m 7 #[.val (.int p0), .val (.int p1), .val (.int p2), .val (.int p3), .val (.int p4), .val (.int (1 : Int32)), .unset, .unset, .unset, .unset] [(.int (1 : Int32))])) _ _ _
    obtain ⟨T3, h3, k3, X3, e3, E3, A3, st3⟩ := newP X0 hx hZ (hw _ (List.mem_of_getElem? (i := 0) rfl)) e0 (g := (mkF m 7 #[.val (.int p0), .val (.int p1), .val (.int p2), .val (.int p3), .val (.int p4), .val (.int (1 : Int32)), .unset, .unset, .unset, .unset] [(.int (1 : Int32))])) rfl (hb hby at_7) rfl (by decide) (cap := 1) (by decide) (by decide) (by decide) (by decide)
    obtain ⟨b3, g3⟩ : ∃ z, z = h0.size := ⟨_, rfl⟩
    rw [← g3] at A3 st3
    have g_b3 : n0 ≤ b3 := Nat.le_trans Z0 (Nat.le_of_eq g3.symm)
    have Z3 : n0 ≤ h3.size := Nat.le_trans Z0 E3.1
    have V_b3 : Arv Z h3 b3 k3 .int (1 : Int32) [(.int (0 : Int32))] (.int (0 : Int32)) := (Arv.new A3 (by decide)).pad (pad_rep [] (.int (0 : Int32)) 1)
    refine own_go st3 ?_
    show own_End p e below s (T3.setTop (mkF m 9 #[.val (.int p0), .val (.int p1), .val (.int p2), .val (.int p3), .val (.int p4), .val (.int (1 : Int32)), .unset, .unset, .unset, .unset] [(.ref b3)])) _ _ _
    refine own_go (fun t k => XS.astore X3.here hx rfl (hb hby at_9) rfl rfl (l' := #[.val (.int p0), .val (.int p1), .val (.int p2), .val (.int p3), .val (.int p4), .val (.int (1 : Int32)), .val (.ref b3), .unset, .unset, .unset]) rfl k) ?_
    show own_End p e below s (T3.setTop (mkF m 11 #[.val (.int p0), .val (.int p1), .val (.int p2), .val (.int p3), .val (.int p4), .val (.int (1 : Int32)), .val (.ref b3), .unset, .unset, .unset] [])) _ _ _
    refine own_go (fun t k => XS.iload X3.here hx rfl (hb hby at_11) rfl k) ?_
    show own_End p e below s (T3.setTop (mkF m 13 #[.val (.int p0), .val (.int p1), .val (.int p2), .val (.int p3), .val (.int p4), .val (.int (1 : Int32)), .val (.ref b3), .unset, .unset, .unset] [(.int (1 : Int32))])) _ _ _
    refine own_go (fun t k => XS.ifNo X3.here hx rfl (hb hby at_13) rfl ((if0 _ _).trans (own_tlt (x := (0 : Int32)) (y := (1 : Int32)) (i := 0) (j := 1) rfl rfl (by decide)).2.2.2) k) ?_
    show own_End p e below s (T3.setTop (mkF m 16 #[.val (.int p0), .val (.int p1), .val (.int p2), .val (.int p3), .val (.int p4), .val (.int (1 : Int32)), .val (.ref b3), .unset, .unset, .unset] [])) _ _ _
    refine own_go (fun t k => XS.aload X3.here hx rfl (hb hby at_16) rfl rfl k) ?_
    show own_End p e below s (T3.setTop (mkF m 18 #[.val (.int p0), .val (.int p1), .val (.int p2), .val (.int p3), .val (.int p4), .val (.int (1 : Int32)), .val (.ref b3), .unset, .unset, .unset] [(.ref b3)])) _ _ _
    refine own_go (fun t k => XS.iconst X3.here hx rfl (hb hby at_18) k) ?_
    show own_End p e below s (T3.setTop (mkF m 19 #[.val (.int p0), .val (.int p1), .val (.int p2), .val (.int p3), .val (.int p4), .val (.int (1 : Int32)), .val (.ref b3), .unset, .unset, .unset] [(.int (0 : Int32)), (.ref b3)])) _ _ _
    refine own_go (fun t k => XS.iloadN X3.here hx rfl (hb hby at_19) rfl k) ?_
    show own_End p e below s (T3.setTop (mkF m 20 #[.val (.int p0), .val (.int p1), .val (.int p2), .val (.int p3), .val (.int p4), .val (.int (1 : Int32)), .val (.ref b3), .unset, .unset, .unset] [(.int p2), (.int (0 : Int32)), (.ref b3)])) _ _ _
    obtain ⟨cl4, Ar4, q4, S4, M4, Hh4, G4⟩ := id V_b3
    have hin4 : ¬ ((0 : Int32) < 0 ∨ cl4.slots.size ≤ ((0 : Int32)).toNatClampNeg) := inb_of S4 ⟨by decide, by decide⟩
    obtain ⟨T5, h5, X5, e5, W5, st5⟩ := stI X3 hx hZ e3 Ar4 (j := (0 : Int32)) hin4 (g := (mkF m 20 #[.val (.int p0), .val (.int p1), .val (.int p2), .val (.int p3), .val (.int p4), .val (.int (1 : Int32)), .val (.ref b3), .unset, .unset, .unset] [(.int p2), (.int (0 : Int32)), (.ref b3)])) rfl rfl (hb hby at_20)
    have V_b3_5 : Arv Z h5 b3 k3 .int (1 : Int32) [(.int p2)] (.int (0 : Int32)) := Arv.set Ar4 q4 S4 M4 Hh4 G4 rfl W5 0 rfl (Nat.le_of_ble_eq_true rfl)
    have N5 := Fr.snoc X5 N0 g_b3
    have Z5 : n0 ≤ h5.size := Nat.le_trans Z3 (Keep.of_wr W5).1
    refine own_go st5 ?_
    show own_End p e below s (T5.setTop (mkF m 21 #[.val (.int p0), .val (.int p1), .val (.int p2), .val (.int p3), .val (.int p4), .val (.int (1 : Int32)), .val (.ref b3), .unset, .unset, .unset] [])) _ _ _
    refine own_go (fun t k => XS.iload X5.here hx rfl (hb hby at_21) rfl k) ?_
    show own_End p e below s (T5.setTop (mkF m 23 #[.val (.int p0), .val (.int p1), .val (.int p2), .val (.int p3), .val (.int p4), .val (.int (1 : Int32)), .val (.ref b3), .unset, .unset, .unset] [(.int (1 : Int32))])) _ _ _
    refine own_go (fun t k => XS.iconst X5.here hx rfl (hb hby at_23) k) ?_
    show own_End p e below s (T5.setTop (mkF m 24 #[.val (.int p0), .val (.int p1), .val (.int p2), .val (.int p3), .val (.int p4), .val (.int (1 : Int32)), .val (.ref b3), .unset, .unset, .unset] [(.int (1 : Int32)), (.int (1 : Int32))])) _ _ _
    refine own_go (fun t k => XS.icmpYes X5.here hx rfl (pc0 := 24) (pc' := 32) rfl (hb hby at_24) rfl (own_flt (x := (1 : Int32)) (y := (1 : Int32)) (i := 1) (j := 1) rfl rfl (by decide)).2.2.2 (by decide) (by decide) k) ?_
    show own_End p e below s (T5.setTop (mkF m 32 #[.val (.int p0), .val (.int p1), .val (.int p2), .val (.int p3), .val (.int p4), .val (.int (1 : Int32)), .val (.ref b3), .unset, .unset, .unset] [])) _ _ _
    refine own_go (fun t k => XS.iload X5.here hx rfl (hb hby at_32) rfl k) ?_
    show own_End p e below s (T5.setTop (mkF m 34 #[.val (.int p0), .val (.int p1), .val (.int p2), .val (.int p3), .val (.int p4), .val (.int (1 : Int32)), .val (.ref b3), .unset, .unset, .unset] [(.int (1 : Int32))])) _ _ _
    refine own_go (fun t k => XS.iconst X5.here hx rfl (hb hby at_34) k) ?_
    show own_End p e below s (T5.setTop (mkF m 35 #[.val (.int p0), .val (.int p1), .val (.int p2), .val (.int p3), .val (.int p4), .val (.int (1 : Int32)), .val (.ref b3), .unset, .unset, .unset] [(.int (2 : Int32)), (.int (1 : Int32))])) _ _ _
    refine own_go (fun t k => XS.icmpYes X5.here hx rfl (pc0 := 35) (pc' := 44) rfl (hb hby at_35) rfl (own_flt (x := (2 : Int32)) (y := (1 : Int32)) (i := 2) (j := 1) rfl rfl (by decide)).2.2.2 (by decide) (by decide) k) ?_
    show own_End p e below s (T5.setTop (mkF m 44 #[.val (.int p0), .val (.int p1), .val (.int p2), .val (.int p3), .val (.int p4), .val (.int (1 : Int32)), .val (.ref b3), .unset, .unset, .unset] [])) _ _ _
    have J97_1 : ∀ (ex : Int32) (hex : own_At [(.int p2)] (1 : Int32) p1 ex), own_End p e below s (T5.setTop (mkF m 97 #[.val (.int p0), .val (.int p1), .val (.int p2), .val (.int p3), .val (.int p4), .val (.int (1 : Int32)), .val (.ref b3), .val (.int ex), .unset, .unset] [])) (Q_rm0 Z p0 p1 p2 p3 p4  h0 n0) room_1.cells room_1.slots := by
      intro ex hex
      show own_End p e below s (T5.setTop (mkF m 97 #[.val (.int p0), .val (.int p1), .val (.int p2), .val (.int p3), .val (.int p4), .val (.int (1 : Int32)), .val (.ref b3), .val (.int ex), .unset, .unset] [])) _ _ _
      refine own_go (fun t k => XS.aload X5.here hx rfl (hb hby at_97) rfl rfl k) ?_
      show own_End p e below s (T5.setTop (mkF m 99 #[.val (.int p0), .val (.int p1), .val (.int p2), .val (.int p3), .val (.int p4), .val (.int (1 : Int32)), .val (.ref b3), .val (.int ex), .unset, .unset] [(.ref b3)])) _ _ _
      refine own_go (fun t k => XS.iloadN X5.here hx rfl (hb hby at_99) rfl k) ?_
      show own_End p e below s (T5.setTop (mkF m 100 #[.val (.int p0), .val (.int p1), .val (.int p2), .val (.int p3), .val (.int p4), .val (.int (1 : Int32)), .val (.ref b3), .val (.int ex), .unset, .unset] [(.int p1), (.ref b3)])) _ _ _
      obtain ⟨_, _, ⟨T6, L6, k6, n6⟩, -, X6, ⟨Lc6, hQ6, l6, y6, z6⟩, st6⟩ := Jvm.LawKit.callS X5 hx (y := (⟨"com/example/wayfold/wayfold/search/TripProblem", "stopAt", "([II)I"⟩ : MethodName)) hown (mvT hZ (hw _ (List.mem_of_getElem? (i := 1) rfl))) (mvT hZ (hw _ (List.mem_of_getElem? (i := 2) rfl))) (mvT hZ (hw _ (List.mem_of_getElem? (i := 3) rfl))) (mvT hZ (hw _ (List.mem_of_getElem? (i := 4) rfl))) (by decide) (backOf (W := 0) (rm1 l Z a0 hw [] b3 p1 k3 (1 : Int32) [(.int p2)] h5 n0 Z5 V_b3_5 (own_getD [p2])) hZ (hw _ (List.mem_of_getElem? (i := 4) rfl)) (hw _ (List.mem_of_getElem? (i := 3) rfl)) (by decide) (by decide)) (g := (mkF m 100 #[.val (.int p0), .val (.int p1), .val (.int p2), .val (.int p3), .val (.int p4), .val (.int (1 : Int32)), .val (.ref b3), .val (.int ex), .unset, .unset] [(.int p1), (.ref b3)])) rfl (by rw [hml]; rfl) (argsL := [(.ref b3), (.int p1)]) (rest := []) (lenOf own_pd0 rfl) rfl (by show 2 * 0 + _ ≤ _; exact Nat.le_of_eq rfl) (hb hby at_100) (fun _ _ => ⟨rfl, e5, (by decide : 1 + 0 ≤ _), (by decide : 1 + 0 ≤ _)⟩)
      dsimp only [Pt.U, Pt.locs, Pt.cells, Pt.slots] at X6 l6 y6 z6 st6 hQ6
      subst l6 y6 z6
      obtain ⟨⟨r6, rfl, hr6⟩, N6q, e6⟩ := hQ6
      have N6 := Fr.app N5 N6q
      refine own_go st6 ?_
      show own_End p e below s (T6.setTop (mkF m 103 #[.val (.int p0), .val (.int p1), .val (.int p2), .val (.int p3), .val (.int p4), .val (.int (1 : Int32)), .val (.ref b3), .val (.int ex), .unset, .unset] [(.int r6)])) _ _ _
      refine own_go (fun t k => XS.istore X6.here hx rfl (hb hby at_103) rfl (l' := #[.val (.int p0), .val (.int p1), .val (.int p2), .val (.int p3), .val (.int p4), .val (.int (1 : Int32)), .val (.ref b3), .val (.int ex), .val (.int r6), .unset]) rfl k) ?_
      show own_End p e below s (T6.setTop (mkF m 105 #[.val (.int p0), .val (.int p1), .val (.int p2), .val (.int p3), .val (.int p4), .val (.int (1 : Int32)), .val (.ref b3), .val (.int ex), .val (.int r6), .unset] [])) _ _ _
      refine own_go (fun t k => XS.iload X6.here hx rfl (hb hby at_105) rfl k) ?_
      show own_End p e below s (T6.setTop (mkF m 107 #[.val (.int p0), .val (.int p1), .val (.int p2), .val (.int p3), .val (.int p4), .val (.int (1 : Int32)), .val (.ref b3), .val (.int ex), .val (.int r6), .unset] [(.int (1 : Int32))])) _ _ _
      refine own_go (fun t k => XS.iconst X6.here hx rfl (hb hby at_107) k) ?_
      show own_End p e below s (T6.setTop (mkF m 108 #[.val (.int p0), .val (.int p1), .val (.int p2), .val (.int p3), .val (.int p4), .val (.int (1 : Int32)), .val (.ref b3), .val (.int ex), .val (.int r6), .unset] [(.int (1 : Int32)), (.int (1 : Int32))])) _ _ _
      refine own_go (fun t k => XS.icmpNo X6.here hx rfl (hb hby at_108) rfl (own_flt (x := (1 : Int32)) (y := (1 : Int32)) (i := 1) (j := 1) rfl rfl (by decide)).1 k) ?_
      show own_End p e below s (T6.setTop (mkF m 111 #[.val (.int p0), .val (.int p1), .val (.int p2), .val (.int p3), .val (.int p4), .val (.int (1 : Int32)), .val (.ref b3), .val (.int ex), .val (.int r6), .unset] [])) _ _ _
      refine own_go (fun t k => XS.aload X6.here hx rfl (hb hby at_111) rfl rfl k) ?_
      show own_End p e below s (T6.setTop (mkF m 113 #[.val (.int p0), .val (.int p1), .val (.int p2), .val (.int p3), .val (.int p4), .val (.int (1 : Int32)), .val (.ref b3), .val (.int ex), .val (.int r6), .unset] [(.ref b3)])) _ _ _
      refine own_go (fun t k => XS.iconst X6.here hx rfl (hb hby at_113) k) ?_
      show own_End p e below s (T6.setTop (mkF m 114 #[.val (.int p0), .val (.int p1), .val (.int p2), .val (.int p3), .val (.int p4), .val (.int (1 : Int32)), .val (.ref b3), .val (.int ex), .val (.int r6), .unset] [(.int (0 : Int32)), (.ref b3)])) _ _ _
      obtain ⟨cl7, Ar7, q7, S7, M7, Hh7, G7⟩ := id V_b3_5
      have hin7 : ¬ ((0 : Int32) < 0 ∨ cl7.slots.size ≤ ((0 : Int32)).toNatClampNeg) := inb_of S7 ⟨by decide, by decide⟩
      refine own_go (fun t k => X6.iaload hx (j := (0 : Int32)) (v := (.int p2)) (by rw [e6]; exact Ar7.1) (State.isArrayOf_alike hZ.alike Ar7.2.1) Ar7.2.2 hin7 (Hh7.at hin7 rfl) (g := (mkF m 114 #[.val (.int p0), .val (.int p1), .val (.int p2), .val (.int p3), .val (.int p4), .val (.int (1 : Int32)), .val (.ref b3), .val (.int ex), .val (.int r6), .unset] [(.int (0 : Int32)), (.ref b3)])) rfl rfl (hb hby at_114) _ k) ?_
      show own_End p e below s (T6.setTop (mkF m 115 #[.val (.int p0), .val (.int p1), .val (.int p2), .val (.int p3), .val (.int p4), .val (.int (1 : Int32)), .val (.ref b3), .val (.int ex), .val (.int r6), .unset] [(.int p2)])) _ _ _
      refine own_go (fun t k => XS.iloadN X6.here hx rfl (hb hby at_115) rfl k) ?_
      show own_End p e below s (T6.setTop (mkF m 116 #[.val (.int p0), .val (.int p1), .val (.int p2), .val (.int p3), .val (.int p4), .val (.int (1 : Int32)), .val (.ref b3), .val (.int ex), .val (.int r6), .unset] [(.int p2), (.int p2)])) _ _ _
      refine own_go (fun t k => XS.icmpNo X6.here hx rfl (hb hby at_116) rfl (own_eq (x := p2) (y := p2) (i := p2.toInt) (j := p2.toInt) rfl rfl rfl).2 k) ?_
      show own_End p e below s (T6.setTop (mkF m 119 #[.val (.int p0), .val (.int p1), .val (.int p2), .val (.int p3), .val (.int p4), .val (.int (1 : Int32)), .val (.ref b3), .val (.int ex), .val (.int r6), .unset] [])) _ _ _
      refine own_go (fun t k => XS.iload X6.here hx rfl (hb hby at_119) rfl k) ?_
      show own_End p e below s (T6.setTop (mkF m 121 #[.val (.int p0), .val (.int p1), .val (.int p2), .val (.int p3), .val (.int p4), .val (.int (1 : Int32)), .val (.ref b3), .val (.int ex), .val (.int r6), .unset] [(.int (1 : Int32))])) _ _ _
      refine own_go (fun t k => XS.iconst X6.here hx rfl (hb hby at_121) k) ?_
      show own_End p e below s (T6.setTop (mkF m 122 #[.val (.int p0), .val (.int p1), .val (.int p2), .val (.int p3), .val (.int p4), .val (.int (1 : Int32)), .val (.ref b3), .val (.int ex), .val (.int r6), .unset] [(.int (2 : Int32)), (.int (1 : Int32))])) _ _ _
      refine own_go (fun t k => XS.icmpYes X6.here hx rfl (pc0 := 122) (pc' := 133) rfl (hb hby at_122) rfl (own_tlt (x := (1 : Int32)) (y := (2 : Int32)) (i := 1) (j := 2) rfl rfl (by decide)).1 (by decide) (by decide) k) ?_
      show own_End p e below s (T6.setTop (mkF m 133 #[.val (.int p0), .val (.int p1), .val (.int p2), .val (.int p3), .val (.int p4), .val (.int (1 : Int32)), .val (.ref b3), .val (.int ex), .val (.int r6), .unset] [])) _ _ _
      refine own_go (fun t k => XS.iload X6.here hx rfl (hb hby at_133) rfl k) ?_
      show own_End p e below s (T6.setTop (mkF m 135 #[.val (.int p0), .val (.int p1), .val (.int p2), .val (.int p3), .val (.int p4), .val (.int (1 : Int32)), .val (.ref b3), .val (.int ex), .val (.int r6), .unset] [(.int (1 : Int32))])) _ _ _
      refine own_go (fun t k => XS.iconst X6.here hx rfl (hb hby at_135) k) ?_
      show own_End p e below s (T6.setTop (mkF m 136 #[.val (.int p0), .val (.int p1), .val (.int p2), .val (.int p3), .val (.int p4), .val (.int (1 : Int32)), .val (.ref b3), .val (.int ex), .val (.int r6), .unset] [(.int (3 : Int32)), (.int (1 : Int32))])) _ _ _
      refine own_go (fun t k => XS.icmpYes X6.here hx rfl (pc0 := 136) (pc' := 148) rfl (hb hby at_136) rfl (own_tlt (x := (1 : Int32)) (y := (3 : Int32)) (i := 1) (j := 3) rfl rfl (by decide)).1 (by decide) (by decide) k) ?_
      show own_End p e below s (T6.setTop (mkF m 148 #[.val (.int p0), .val (.int p1), .val (.int p2), .val (.int p3), .val (.int p4), .val (.int (1 : Int32)), .val (.ref b3), .val (.int ex), .val (.int r6), .unset] [])) _ _ _
      refine own_go (fun t k => XS.iconst X6.here hx rfl (hb hby at_148) k) ?_
      show own_End p e below s (T6.setTop (mkF m 149 #[.val (.int p0), .val (.int p1), .val (.int p2), .val (.int p3), .val (.int p4), .val (.int (1 : Int32)), .val (.ref b3), .val (.int ex), .val (.int r6), .unset] [(.int (1 : Int32))])) _ _ _
      refine own_go (fun t k => XS.goto X6.here hx rfl (pc0 := 149) (pc' := 153) rfl (hb hby at_149) (by decide) (by decide) k) ?_
      show own_End p e below s (T6.setTop (mkF m 153 #[.val (.int p0), .val (.int p1), .val (.int p2), .val (.int p3), .val (.int p4), .val (.int (1 : Int32)), .val (.ref b3), .val (.int ex), .val (.int r6), .unset] [(.int (1 : Int32))])) _ _ _
      refine own_go (fun t k => XS.istore X6.here hx rfl (hb hby at_153) rfl (l' := #[.val (.int p0), .val (.int p1), .val (.int p2), .val (.int p3), .val (.int p4), .val (.int (1 : Int32)), .val (.ref b3), .val (.int ex), .val (.int r6), .val (.int (1 : Int32))]) rfl k) ?_
      show own_End p e below s (T6.setTop (mkF m 155 #[.val (.int p0), .val (.int p1), .val (.int p2), .val (.int p3), .val (.int p4), .val (.int (1 : Int32)), .val (.ref b3), .val (.int ex), .val (.int r6), .val (.int (1 : Int32))] [])) _ _ _
      refine own_go (fun t k => XS.iload X6.here hx rfl (hb hby at_155) rfl k) ?_
      show own_End p e below s (T6.setTop (mkF m 157 #[.val (.int p0), .val (.int p1), .val (.int p2), .val (.int p3), .val (.int p4), .val (.int (1 : Int32)), .val (.ref b3), .val (.int ex), .val (.int r6), .val (.int (1 : Int32))] [(.int r6)])) _ _ _
      refine own_go (fun t k => XS.iload X6.here hx rfl (hb hby at_157) rfl k) ?_
      show own_End p e below s (T6.setTop (mkF m 159 #[.val (.int p0), .val (.int p1), .val (.int p2), .val (.int p3), .val (.int p4), .val (.int (1 : Int32)), .val (.ref b3), .val (.int ex), .val (.int r6), .val (.int (1 : Int32))] [(.int ex), (.int r6)])) _ _ _
      refine own_go (fun t k => XS.icmpNo X6.here hx rfl (hb hby at_159) rfl (own_eq (x := r6) (y := ex) (i := r6.toInt) (j := ex.toInt) rfl rfl (own_uniq hr6 hex)).2 k) ?_
      show own_End p e below s (T6.setTop (mkF m 162 #[.val (.int p0), .val (.int p1), .val (.int p2), .val (.int p3), .val (.int p4), .val (.int (1 : Int32)), .val (.ref b3), .val (.int ex), .val (.int r6), .val (.int (1 : Int32))] [])) _ _ _
      refine own_go (fun t k => XS.iload X6.here hx rfl (hb hby at_162) rfl k) ?_
      show own_End p e below s (T6.setTop (mkF m 164 #[.val (.int p0), .val (.int p1), .val (.int p2), .val (.int p3), .val (.int p4), .val (.int (1 : Int32)), .val (.ref b3), .val (.int ex), .val (.int r6), .val (.int (1 : Int32))] [(.int (1 : Int32))])) _ _ _
      refine own_go (fun t k => XS.ifNo X6.here hx rfl (hb hby at_164) rfl ((if0 _ _).trans (own_ne (x := (1 : Int32)) (y := (0 : Int32)) (i := 1) (j := 0) rfl rfl (by decide)).1) k) ?_
      show own_End p e below s (T6.setTop (mkF m 167 #[.val (.int p0), .val (.int p1), .val (.int p2), .val (.int p3), .val (.int p4), .val (.int (1 : Int32)), .val (.ref b3), .val (.int ex), .val (.int r6), .val (.int (1 : Int32))] [])) _ _ _
      refine own_go (fun t k => XS.iconst X6.here hx rfl (hb hby at_167) k) ?_
      show own_End p e below s (T6.setTop (mkF m 168 #[.val (.int p0), .val (.int p1), .val (.int p2), .val (.int p3), .val (.int p4), .val (.int (1 : Int32)), .val (.ref b3), .val (.int ex), .val (.int r6), .val (.int (1 : Int32))] [(.int (1 : Int32))])) _ _ _
      refine own_go (fun t k => XS.goto X6.here hx rfl (pc0 := 168) (pc' := 172) rfl (hb hby at_168) (by decide) (by decide) k) ?_
      show own_End p e below s (T6.setTop (mkF m 172 #[.val (.int p0), .val (.int p1), .val (.int p2), .val (.int p3), .val (.int p4), .val (.int (1 : Int32)), .val (.ref b3), .val (.int ex), .val (.int r6), .val (.int (1 : Int32))] [(.int (1 : Int32))])) _ _ _
      refine own_ret X6 (v := some (.int (1 : Int32))) (fun h => by rw [Bd.returns] at h; cases h) Bd.notSynchronized (fun fs hr => retN X6 hx (t := .boolean) Bd.returns (by simp) (hb hby at_172) hr) ?_ (by decide) (by decide)
      · exact ⟨rfl, N6⟩
    refine own_go (fun t k => XS.iloadN X5.here hx rfl (hb hby at_44) rfl k) ?_
    show own_End p e below s (T5.setTop (mkF m 45 #[.val (.int p0), .val (.int p1), .val (.int p2), .val (.int p3), .val (.int p4), .val (.int (1 : Int32)), .val (.ref b3), .unset, .unset, .unset] [(.int p1)])) _ _ _
    by_cases c45_1 : p1.toInt = 0
    · skip
      refine own_go (fun t k => XS.ifNo X5.here hx rfl (hb hby at_45) rfl ((if0 _ _).trans (own_eq (x := p1) (y := (0 : Int32)) (i := p1.toInt) (j := 0) rfl rfl c45_1).2) k) ?_
      show own_End p e below s (T5.setTop (mkF m 48 #[.val (.int p0), .val (.int p1), .val (.int p2), .val (.int p3), .val (.int p4), .val (.int (1 : Int32)), .val (.ref b3), .unset, .unset, .unset] [])) _ _ _
      refine own_go (fun t k => XS.iload X5.here hx rfl (hb hby at_48) rfl k) ?_
      show own_End p e below s (T5.setTop (mkF m 50 #[.val (.int p0), .val (.int p1), .val (.int p2), .val (.int p3), .val (.int p4), .val (.int (1 : Int32)), .val (.ref b3), .unset, .unset, .unset] [(.int (1 : Int32))])) _ _ _
      refine own_go (fun t k => XS.ifNo X5.here hx rfl (hb hby at_50) rfl ((if0 _ _).trans (own_tlt (x := (0 : Int32)) (y := (1 : Int32)) (i := 0) (j := 1) rfl rfl (by decide)).2.2.2) k) ?_
      show own_End p e below s (T5.setTop (mkF m 53 #[.val (.int p0), .val (.int p1), .val (.int p2), .val (.int p3), .val (.int p4), .val (.int (1 : Int32)), .val (.ref b3), .unset, .unset, .unset] [])) _ _ _
      refine own_go (fun t k => XS.iloadN X5.here hx rfl (hb hby at_53) rfl k) ?_
      show own_End p e below s (T5.setTop (mkF m 54 #[.val (.int p0), .val (.int p1), .val (.int p2), .val (.int p3), .val (.int p4), .val (.int (1 : Int32)), .val (.ref b3), .unset, .unset, .unset] [(.int p2)])) _ _ _
      refine own_go (fun t k => XS.istore X5.here hx rfl (hb hby at_54) rfl (l' := #[.val (.int p0), .val (.int p1), .val (.int p2), .val (.int p3), .val (.int p4), .val (.int (1 : Int32)), .val (.ref b3), .val (.int p2), .unset, .unset]) rfl k) ?_
      show own_End p e below s (T5.setTop (mkF m 56 #[.val (.int p0), .val (.int p1), .val (.int p2), .val (.int p3), .val (.int p4), .val (.int (1 : Int32)), .val (.ref b3), .val (.int p2), .unset, .unset] [])) _ _ _
      refine own_go (fun t k => XS.goto X5.here hx rfl (pc0 := 56) (pc' := 97) rfl (hb hby at_56) (by decide) (by decide) k) ?_
      show own_End p e below s (T5.setTop (mkF m 97 #[.val (.int p0), .val (.int p1), .val (.int p2), .val (.int p3), .val (.int p4), .val (.int (1 : Int32)), .val (.ref b3), .val (.int p2), .unset, .unset] [])) _ _ _
      exact J97_1 _ (by rw [Int32.toInt_inj.mp (show p1.toInt = (0 : Int32).toInt from c45_1)]; exact ⟨fun _ => rfl, fun q => absurd ⟨by decide, by decide⟩ q⟩)
    · skip
      refine own_go (fun t k => XS.ifYes X5.here hx rfl (pc0 := 45) (pc' := 59) rfl (hb hby at_45) rfl ((if0 _ _).trans (own_ne (x := p1) (y := (0 : Int32)) (i := p1.toInt) (j := 0) rfl rfl c45_1).2) (by decide) (by decide) k) ?_
      show own_End p e below s (T5.setTop (mkF m 59 #[.val (.int p0), .val (.int p1), .val (.int p2), .val (.int p3), .val (.int p4), .val (.int (1 : Int32)), .val (.ref b3), .unset, .unset, .unset] [])) _ _ _
      refine own_go (fun t k => XS.iloadN X5.here hx rfl (hb hby at_59) rfl k) ?_
      show own_End p e below s (T5.setTop (mkF m 60 #[.val (.int p0), .val (.int p1), .val (.int p2), .val (.int p3), .val (.int p4), .val (.int (1 : Int32)), .val (.ref b3), .unset, .unset, .unset] [(.int p1)])) _ _ _
      refine own_go (fun t k => XS.iconst X5.here hx rfl (hb hby at_60) k) ?_
      show own_End p e below s (T5.setTop (mkF m 61 #[.val (.int p0), .val (.int p1), .val (.int p2), .val (.int p3), .val (.int p4), .val (.int (1 : Int32)), .val (.ref b3), .unset, .unset, .unset] [(.int (1 : Int32)), (.int p1)])) _ _ _
      by_cases c61_1 : p1.toInt = 1
      · skip
        refine own_go (fun t k => XS.icmpNo X5.here hx rfl (hb hby at_61) rfl (own_eq (x := p1) (y := (1 : Int32)) (i := p1.toInt) (j := 1) rfl rfl c61_1).2 k) ?_
        show own_End p e below s (T5.setTop (mkF m 64 #[.val (.int p0), .val (.int p1), .val (.int p2), .val (.int p3), .val (.int p4), .val (.int (1 : Int32)), .val (.ref b3), .unset, .unset, .unset] [])) _ _ _
        refine own_go (fun t k => XS.iload X5.here hx rfl (hb hby at_64) rfl k) ?_
        show own_End p e below s (T5.setTop (mkF m 66 #[.val (.int p0), .val (.int p1), .val (.int p2), .val (.int p3), .val (.int p4), .val (.int (1 : Int32)), .val (.ref b3), .unset, .unset, .unset] [(.int (1 : Int32))])) _ _ _
        refine own_go (fun t k => XS.iconst X5.here hx rfl (hb hby at_66) k) ?_
        show own_End p e below s (T5.setTop (mkF m 67 #[.val (.int p0), .val (.int p1), .val (.int p2), .val (.int p3), .val (.int p4), .val (.int (1 : Int32)), .val (.ref b3), .unset, .unset, .unset] [(.int (1 : Int32)), (.int (1 : Int32))])) _ _ _
        refine own_go (fun t k => XS.icmpYes X5.here hx rfl (pc0 := 67) (pc' := 76) rfl (hb hby at_67) rfl (own_flt (x := (1 : Int32)) (y := (1 : Int32)) (i := 1) (j := 1) rfl rfl (by decide)).2.2.2 (by decide) (by decide) k) ?_
        show own_End p e below s (T5.setTop (mkF m 76 #[.val (.int p0), .val (.int p1), .val (.int p2), .val (.int p3), .val (.int p4), .val (.int (1 : Int32)), .val (.ref b3), .unset, .unset, .unset] [])) _ _ _
        refine own_go (fun t k => XS.iloadN X5.here hx rfl (hb hby at_76) rfl k) ?_
        show own_End p e below s (T5.setTop (mkF m 77 #[.val (.int p0), .val (.int p1), .val (.int p2), .val (.int p3), .val (.int p4), .val (.int (1 : Int32)), .val (.ref b3), .unset, .unset, .unset] [(.int p1)])) _ _ _
        refine own_go (fun t k => XS.iconst X5.here hx rfl (hb hby at_77) k) ?_
        show own_End p e below s (T5.setTop (mkF m 78 #[.val (.int p0), .val (.int p1), .val (.int p2), .val (.int p3), .val (.int p4), .val (.int (1 : Int32)), .val (.ref b3), .unset, .unset, .unset] [(.int (2 : Int32)), (.int p1)])) _ _ _
        by_cases c78_1 : p1.toInt = 2
        · skip
          refine own_go (fun t k => XS.icmpNo X5.here hx rfl (hb hby at_78) rfl (own_eq (x := p1) (y := (2 : Int32)) (i := p1.toInt) (j := 2) rfl rfl c78_1).2 k) ?_
          show own_End p e below s (T5.setTop (mkF m 81 #[.val (.int p0), .val (.int p1), .val (.int p2), .val (.int p3), .val (.int p4), .val (.int (1 : Int32)), .val (.ref b3), .unset, .unset, .unset] [])) _ _ _
          refine own_go (fun t k => XS.iload X5.here hx rfl (hb hby at_81) rfl k) ?_
          show own_End p e below s (T5.setTop (mkF m 83 #[.val (.int p0), .val (.int p1), .val (.int p2), .val (.int p3), .val (.int p4), .val (.int (1 : Int32)), .val (.ref b3), .unset, .unset, .unset] [(.int (1 : Int32))])) _ _ _
          refine own_go (fun t k => XS.iconst X5.here hx rfl (hb hby at_83) k) ?_
          show own_End p e below s (T5.setTop (mkF m 84 #[.val (.int p0), .val (.int p1), .val (.int p2), .val (.int p3), .val (.int p4), .val (.int (1 : Int32)), .val (.ref b3), .unset, .unset, .unset] [(.int (2 : Int32)), (.int (1 : Int32))])) _ _ _
          refine own_go (fun t k => XS.icmpYes X5.here hx rfl (pc0 := 84) (pc' := 94) rfl (hb hby at_84) rfl (own_flt (x := (2 : Int32)) (y := (1 : Int32)) (i := 2) (j := 1) rfl rfl (by decide)).2.2.2 (by decide) (by decide) k) ?_
          show own_End p e below s (T5.setTop (mkF m 94 #[.val (.int p0), .val (.int p1), .val (.int p2), .val (.int p3), .val (.int p4), .val (.int (1 : Int32)), .val (.ref b3), .unset, .unset, .unset] [])) _ _ _
          refine own_go (fun t k => XS.iconst X5.here hx rfl (hb hby at_94) k) ?_
          show own_End p e below s (T5.setTop (mkF m 95 #[.val (.int p0), .val (.int p1), .val (.int p2), .val (.int p3), .val (.int p4), .val (.int (1 : Int32)), .val (.ref b3), .unset, .unset, .unset] [(.int (-1 : Int32))])) _ _ _
          refine own_go (fun t k => XS.istore X5.here hx rfl (hb hby at_95) rfl (l' := #[.val (.int p0), .val (.int p1), .val (.int p2), .val (.int p3), .val (.int p4), .val (.int (1 : Int32)), .val (.ref b3), .val (.int (-1 : Int32)), .unset, .unset]) rfl k) ?_
          show own_End p e below s (T5.setTop (mkF m 97 #[.val (.int p0), .val (.int p1), .val (.int p2), .val (.int p3), .val (.int p4), .val (.int (1 : Int32)), .val (.ref b3), .val (.int (-1 : Int32)), .unset, .unset] [])) _ _ _
          exact J97_1 _ ⟨fun q => absurd q (by intro q; have q1 := q.1; have q2 := q.2; rw [Int32.lt_iff_toInt_lt] at q1 q2; have := show (1 : Int32).toInt = 1 from rfl; omega), fun _ => rfl⟩
        · skip
          refine own_go (fun t k => XS.icmpYes X5.here hx rfl (pc0 := 78) (pc' := 94) rfl (hb hby at_78) rfl (own_ne (x := p1) (y := (2 : Int32)) (i := p1.toInt) (j := 2) rfl rfl c78_1).2 (by decide) (by decide) k) ?_
          show own_End p e below s (T5.setTop (mkF m 94 #[.val (.int p0), .val (.int p1), .val (.int p2), .val (.int p3), .val (.int p4), .val (.int (1 : Int32)), .val (.ref b3), .unset, .unset, .unset] [])) _ _ _
          refine own_go (fun t k => XS.iconst X5.here hx rfl (hb hby at_94) k) ?_
          show own_End p e below s (T5.setTop (mkF m 95 #[.val (.int p0), .val (.int p1), .val (.int p2), .val (.int p3), .val (.int p4), .val (.int (1 : Int32)), .val (.ref b3), .unset, .unset, .unset] [(.int (-1 : Int32))])) _ _ _
          refine own_go (fun t k => XS.istore X5.here hx rfl (hb hby at_95) rfl (l' := #[.val (.int p0), .val (.int p1), .val (.int p2), .val (.int p3), .val (.int p4), .val (.int (1 : Int32)), .val (.ref b3), .val (.int (-1 : Int32)), .unset, .unset]) rfl k) ?_
          show own_End p e below s (T5.setTop (mkF m 97 #[.val (.int p0), .val (.int p1), .val (.int p2), .val (.int p3), .val (.int p4), .val (.int (1 : Int32)), .val (.ref b3), .val (.int (-1 : Int32)), .unset, .unset] [])) _ _ _
          exact J97_1 _ ⟨fun q => absurd q (by intro q; have q1 := q.1; have q2 := q.2; rw [Int32.lt_iff_toInt_lt] at q1 q2; have := show (1 : Int32).toInt = 1 from rfl; omega), fun _ => rfl⟩
      · skip
        refine own_go (fun t k => XS.icmpYes X5.here hx rfl (pc0 := 61) (pc' := 76) rfl (hb hby at_61) rfl (own_ne (x := p1) (y := (1 : Int32)) (i := p1.toInt) (j := 1) rfl rfl c61_1).2 (by decide) (by decide) k) ?_
        show own_End p e below s (T5.setTop (mkF m 76 #[.val (.int p0), .val (.int p1), .val (.int p2), .val (.int p3), .val (.int p4), .val (.int (1 : Int32)), .val (.ref b3), .unset, .unset, .unset] [])) _ _ _
        refine own_go (fun t k => XS.iloadN X5.here hx rfl (hb hby at_76) rfl k) ?_
        show own_End p e below s (T5.setTop (mkF m 77 #[.val (.int p0), .val (.int p1), .val (.int p2), .val (.int p3), .val (.int p4), .val (.int (1 : Int32)), .val (.ref b3), .unset, .unset, .unset] [(.int p1)])) _ _ _
        refine own_go (fun t k => XS.iconst X5.here hx rfl (hb hby at_77) k) ?_
        show own_End p e below s (T5.setTop (mkF m 78 #[.val (.int p0), .val (.int p1), .val (.int p2), .val (.int p3), .val (.int p4), .val (.int (1 : Int32)), .val (.ref b3), .unset, .unset, .unset] [(.int (2 : Int32)), (.int p1)])) _ _ _
        by_cases c78_1 : p1.toInt = 2
        · skip
          refine own_go (fun t k => XS.icmpNo X5.here hx rfl (hb hby at_78) rfl (own_eq (x := p1) (y := (2 : Int32)) (i := p1.toInt) (j := 2) rfl rfl c78_1).2 k) ?_
          show own_End p e below s (T5.setTop (mkF m 81 #[.val (.int p0), .val (.int p1), .val (.int p2), .val (.int p3), .val (.int p4), .val (.int (1 : Int32)), .val (.ref b3), .unset, .unset, .unset] [])) _ _ _
          refine own_go (fun t k => XS.iload X5.here hx rfl (hb hby at_81) rfl k) ?_
          show own_End p e below s (T5.setTop (mkF m 83 #[.val (.int p0), .val (.int p1), .val (.int p2), .val (.int p3), .val (.int p4), .val (.int (1 : Int32)), .val (.ref b3), .unset, .unset, .unset] [(.int (1 : Int32))])) _ _ _
          refine own_go (fun t k => XS.iconst X5.here hx rfl (hb hby at_83) k) ?_
          show own_End p e below s (T5.setTop (mkF m 84 #[.val (.int p0), .val (.int p1), .val (.int p2), .val (.int p3), .val (.int p4), .val (.int (1 : Int32)), .val (.ref b3), .unset, .unset, .unset] [(.int (2 : Int32)), (.int (1 : Int32))])) _ _ _
          refine own_go (fun t k => XS.icmpYes X5.here hx rfl (pc0 := 84) (pc' := 94) rfl (hb hby at_84) rfl (own_flt (x := (2 : Int32)) (y := (1 : Int32)) (i := 2) (j := 1) rfl rfl (by decide)).2.2.2 (by decide) (by decide) k) ?_
          show own_End p e below s (T5.setTop (mkF m 94 #[.val (.int p0), .val (.int p1), .val (.int p2), .val (.int p3), .val (.int p4), .val (.int (1 : Int32)), .val (.ref b3), .unset, .unset, .unset] [])) _ _ _
          refine own_go (fun t k => XS.iconst X5.here hx rfl (hb hby at_94) k) ?_
          show own_End p e below s (T5.setTop (mkF m 95 #[.val (.int p0), .val (.int p1), .val (.int p2), .val (.int p3), .val (.int p4), .val (.int (1 : Int32)), .val (.ref b3), .unset, .unset, .unset] [(.int (-1 : Int32))])) _ _ _
          refine own_go (fun t k => XS.istore X5.here hx rfl (hb hby at_95) rfl (l' := #[.val (.int p0), .val (.int p1), .val (.int p2), .val (.int p3), .val (.int p4), .val (.int (1 : Int32)), .val (.ref b3), .val (.int (-1 : Int32)), .unset, .unset]) rfl k) ?_
          show own_End p e below s (T5.setTop (mkF m 97 #[.val (.int p0), .val (.int p1), .val (.int p2), .val (.int p3), .val (.int p4), .val (.int (1 : Int32)), .val (.ref b3), .val (.int (-1 : Int32)), .unset, .unset] [])) _ _ _
          exact J97_1 _ ⟨fun q => absurd q (by intro q; have q1 := q.1; have q2 := q.2; rw [Int32.lt_iff_toInt_lt] at q1 q2; have := show (1 : Int32).toInt = 1 from rfl; omega), fun _ => rfl⟩
        · skip
          refine own_go (fun t k => XS.icmpYes X5.here hx rfl (pc0 := 78) (pc' := 94) rfl (hb hby at_78) rfl (own_ne (x := p1) (y := (2 : Int32)) (i := p1.toInt) (j := 2) rfl rfl c78_1).2 (by decide) (by decide) k) ?_
          show own_End p e below s (T5.setTop (mkF m 94 #[.val (.int p0), .val (.int p1), .val (.int p2), .val (.int p3), .val (.int p4), .val (.int (1 : Int32)), .val (.ref b3), .unset, .unset, .unset] [])) _ _ _
          refine own_go (fun t k => XS.iconst X5.here hx rfl (hb hby at_94) k) ?_
          show own_End p e below s (T5.setTop (mkF m 95 #[.val (.int p0), .val (.int p1), .val (.int p2), .val (.int p3), .val (.int p4), .val (.int (1 : Int32)), .val (.ref b3), .unset, .unset, .unset] [(.int (-1 : Int32))])) _ _ _
          refine own_go (fun t k => XS.istore X5.here hx rfl (hb hby at_95) rfl (l' := #[.val (.int p0), .val (.int p1), .val (.int p2), .val (.int p3), .val (.int p4), .val (.int (1 : Int32)), .val (.ref b3), .val (.int (-1 : Int32)), .unset, .unset]) rfl k) ?_
          show own_End p e below s (T5.setTop (mkF m 97 #[.val (.int p0), .val (.int p1), .val (.int p2), .val (.int p3), .val (.int p4), .val (.int (1 : Int32)), .val (.ref b3), .val (.int (-1 : Int32)), .unset, .unset] [])) _ _ _
          exact J97_1 _ ⟨fun q => absurd q (by intro q; have q1 := q.1; have q2 := q.2; rw [Int32.lt_iff_toInt_lt] at q1 q2; have := show (1 : Int32).toInt = 1 from rfl; omega), fun _ => rfl⟩
  · skip
    rw [hm]
    show own_End p e below s (s₁.setTop (mkF m 5 #[.val (.int p0), .val (.int p1), .val (.int p2), .val (.int p3), .val (.int p4), .val (.int (2 : Int32)), .unset, .unset, .unset, .unset] [])) _ _ _
    refine own_go (fun t k => XS.iload X0.here hx rfl (hb hby at_5) rfl k) ?_
    show own_End p e below s (s₁.setTop (mkF m 7 #[.val (.int p0), .val (.int p1), .val (.int p2), .val (.int p3), .val (.int p4), .val (.int (2 : Int32)), .unset, .unset, .unset, .unset] [(.int (2 : Int32))])) _ _ _
    obtain ⟨T8, h8, k8, X8, e8, E8, A8, st8⟩ := newP X0 hx hZ (hw _ (List.mem_of_getElem? (i := 0) rfl)) e0 (g := (mkF m 7 #[.val (.int p0), .val (.int p1), .val (.int p2), .val (.int p3), .val (.int p4), .val (.int (2 : Int32)), .unset, .unset, .unset, .unset] [(.int (2 : Int32))])) rfl (hb hby at_7) rfl (by decide) (cap := 2) (by decide) (by decide) (by decide) (by decide)
    obtain ⟨b8, g8⟩ : ∃ z, z = h0.size := ⟨_, rfl⟩
    rw [← g8] at A8 st8
    have g_b8 : n0 ≤ b8 := Nat.le_trans Z0 (Nat.le_of_eq g8.symm)
    have Z8 : n0 ≤ h8.size := Nat.le_trans Z0 E8.1
    have V_b8 : Arv Z h8 b8 k8 .int (2 : Int32) [(.int (0 : Int32)), (.int (0 : Int32))] (.int (0 : Int32)) := (Arv.new A8 (by decide)).pad (pad_rep [] (.int (0 : Int32)) 2)
    refine own_go st8 ?_
    show own_End p e below s (T8.setTop (mkF m 9 #[.val (.int p0), .val (.int p1), .val (.int p2), .val (.int p3), .val (.int p4), .val (.int (2 : Int32)), .unset, .unset, .unset, .unset] [(.ref b8)])) _ _ _
    refine own_go (fun t k => XS.astore X8.here hx rfl (hb hby at_9) rfl rfl (l' := #[.val (.int p0), .val (.int p1), .val (.int p2), .val (.int p3), .val (.int p4), .val (.int (2 : Int32)), .val (.ref b8), .unset, .unset, .unset]) rfl k) ?_
    show own_End p e below s (T8.setTop (mkF m 11 #[.val (.int p0), .val (.int p1), .val (.int p2), .val (.int p3), .val (.int p4), .val (.int (2 : Int32)), .val (.ref b8), .unset, .unset, .unset] [])) _ _ _
    refine own_go (fun t k => XS.iload X8.here hx rfl (hb hby at_11) rfl k) ?_
    show own_End p e below s (T8.setTop (mkF m 13 #[.val (.int p0), .val (.int p1), .val (.int p2), .val (.int p3), .val (.int p4), .val (.int (2 : Int32)), .val (.ref b8), .unset, .unset, .unset] [(.int (2 : Int32))])) _ _ _
    refine own_go (fun t k => XS.ifNo X8.here hx rfl (hb hby at_13) rfl ((if0 _ _).trans (own_tlt (x := (0 : Int32)) (y := (2 : Int32)) (i := 0) (j := 2) rfl rfl (by decide)).2.2.2) k) ?_
    show own_End p e below s (T8.setTop (mkF m 16 #[.val (.int p0), .val (.int p1), .val (.int p2), .val (.int p3), .val (.int p4), .val (.int (2 : Int32)), .val (.ref b8), .unset, .unset, .unset] [])) _ _ _
    refine own_go (fun t k => XS.aload X8.here hx rfl (hb hby at_16) rfl rfl k) ?_
    show own_End p e below s (T8.setTop (mkF m 18 #[.val (.int p0), .val (.int p1), .val (.int p2), .val (.int p3), .val (.int p4), .val (.int (2 : Int32)), .val (.ref b8), .unset, .unset, .unset] [(.ref b8)])) _ _ _
    refine own_go (fun t k => XS.iconst X8.here hx rfl (hb hby at_18) k) ?_
    show own_End p e below s (T8.setTop (mkF m 19 #[.val (.int p0), .val (.int p1), .val (.int p2), .val (.int p3), .val (.int p4), .val (.int (2 : Int32)), .val (.ref b8), .unset, .unset, .unset] [(.int (0 : Int32)), (.ref b8)])) _ _ _
    refine own_go (fun t k => XS.iloadN X8.here hx rfl (hb hby at_19) rfl k) ?_
    show own_End p e below s (T8.setTop (mkF m 20 #[.val (.int p0), .val (.int p1), .val (.int p2), .val (.int p3), .val (.int p4), .val (.int (2 : Int32)), .val (.ref b8), .unset, .unset, .unset] [(.int p2), (.int (0 : Int32)), (.ref b8)])) _ _ _
    obtain ⟨cl9, Ar9, q9, S9, M9, Hh9, G9⟩ := id V_b8
    have hin9 : ¬ ((0 : Int32) < 0 ∨ cl9.slots.size ≤ ((0 : Int32)).toNatClampNeg) := inb_of S9 ⟨by decide, by decide⟩
    obtain ⟨T10, h10, X10, e10, W10, st10⟩ := stI X8 hx hZ e8 Ar9 (j := (0 : Int32)) hin9 (g := (mkF m 20 #[.val (.int p0), .val (.int p1), .val (.int p2), .val (.int p3), .val (.int p4), .val (.int (2 : Int32)), .val (.ref b8), .unset, .unset, .unset] [(.int p2), (.int (0 : Int32)), (.ref b8)])) rfl rfl (hb hby at_20)
    have V_b8_10 : Arv Z h10 b8 k8 .int (2 : Int32) [(.int p2), (.int (0 : Int32))] (.int (0 : Int32)) := Arv.set Ar9 q9 S9 M9 Hh9 G9 rfl W10 0 rfl (Nat.le_of_ble_eq_true rfl)
    have N10 := Fr.snoc X10 N0 g_b8
    have Z10 : n0 ≤ h10.size := Nat.le_trans Z8 (Keep.of_wr W10).1
    refine own_go st10 ?_
    show own_End p e below s (T10.setTop (mkF m 21 #[.val (.int p0), .val (.int p1), .val (.int p2), .val (.int p3), .val (.int p4), .val (.int (2 : Int32)), .val (.ref b8), .unset, .unset, .unset] [])) _ _ _
    refine own_go (fun t k => XS.iload X10.here hx rfl (hb hby at_21) rfl k) ?_
    show own_End p e below s (T10.setTop (mkF m 23 #[.val (.int p0), .val (.int p1), .val (.int p2), .val (.int p3), .val (.int p4), .val (.int (2 : Int32)), .val (.ref b8), .unset, .unset, .unset] [(.int (2 : Int32))])) _ _ _
    refine own_go (fun t k => XS.iconst X10.here hx rfl (hb hby at_23) k) ?_
    show own_End p e below s (T10.setTop (mkF m 24 #[.val (.int p0), .val (.int p1), .val (.int p2), .val (.int p3), .val (.int p4), .val (.int (2 : Int32)), .val (.ref b8), .unset, .unset, .unset] [(.int (1 : Int32)), (.int (2 : Int32))])) _ _ _
    refine own_go (fun t k => XS.icmpNo X10.here hx rfl (hb hby at_24) rfl (own_tlt (x := (1 : Int32)) (y := (2 : Int32)) (i := 1) (j := 2) rfl rfl (by decide)).2.2.2 k) ?_
    show own_End p e below s (T10.setTop (mkF m 27 #[.val (.int p0), .val (.int p1), .val (.int p2), .val (.int p3), .val (.int p4), .val (.int (2 : Int32)), .val (.ref b8), .unset, .unset, .unset] [])) _ _ _
    refine own_go (fun t k => XS.aload X10.here hx rfl (hb hby at_27) rfl rfl k) ?_
    show own_End p e below s (T10.setTop (mkF m 29 #[.val (.int p0), .val (.int p1), .val (.int p2), .val (.int p3), .val (.int p4), .val (.int (2 : Int32)), .val (.ref b8), .unset, .unset, .unset] [(.ref b8)])) _ _ _
    refine own_go (fun t k => XS.iconst X10.here hx rfl (hb hby at_29) k) ?_
    show own_End p e below s (T10.setTop (mkF m 30 #[.val (.int p0), .val (.int p1), .val (.int p2), .val (.int p3), .val (.int p4), .val (.int (2 : Int32)), .val (.ref b8), .unset, .unset, .unset] [(.int (1 : Int32)), (.ref b8)])) _ _ _
    refine own_go (fun t k => XS.iloadN X10.here hx rfl (hb hby at_30) rfl k) ?_
    show own_End p e below s (T10.setTop (mkF m 31 #[.val (.int p0), .val (.int p1), .val (.int p2), .val (.int p3), .val (.int p4), .val (.int (2 : Int32)), .val (.ref b8), .unset, .unset, .unset] [(.int p3), (.int (1 : Int32)), (.ref b8)])) _ _ _
    obtain ⟨cl11, Ar11, q11, S11, M11, Hh11, G11⟩ := id V_b8_10
    have hin11 : ¬ ((1 : Int32) < 0 ∨ cl11.slots.size ≤ ((1 : Int32)).toNatClampNeg) := inb_of S11 ⟨by decide, by decide⟩
    obtain ⟨T12, h12, X12, e12, W12, st12⟩ := stI X10 hx hZ e10 Ar11 (j := (1 : Int32)) hin11 (g := (mkF m 31 #[.val (.int p0), .val (.int p1), .val (.int p2), .val (.int p3), .val (.int p4), .val (.int (2 : Int32)), .val (.ref b8), .unset, .unset, .unset] [(.int p3), (.int (1 : Int32)), (.ref b8)])) rfl rfl (hb hby at_31)
    have V_b8_12 : Arv Z h12 b8 k8 .int (2 : Int32) [(.int p2), (.int p3)] (.int (0 : Int32)) := Arv.set Ar11 q11 S11 M11 Hh11 G11 rfl W12 1 rfl (Nat.le_of_ble_eq_true rfl)
    have N12 := Fr.snoc X12 N10 g_b8
    have Z12 : n0 ≤ h12.size := Nat.le_trans Z10 (Keep.of_wr W12).1
    refine own_go st12 ?_
    show own_End p e below s (T12.setTop (mkF m 32 #[.val (.int p0), .val (.int p1), .val (.int p2), .val (.int p3), .val (.int p4), .val (.int (2 : Int32)), .val (.ref b8), .unset, .unset, .unset] [])) _ _ _
    refine own_go (fun t k => XS.iload X12.here hx rfl (hb hby at_32) rfl k) ?_
    show own_End p e below s (T12.setTop (mkF m 34 #[.val (.int p0), .val (.int p1), .val (.int p2), .val (.int p3), .val (.int p4), .val (.int (2 : Int32)), .val (.ref b8), .unset, .unset, .unset] [(.int (2 : Int32))])) _ _ _
    refine own_go (fun t k => XS.iconst X12.here hx rfl (hb hby at_34) k) ?_
    show own_End p e below s (T12.setTop (mkF m 35 #[.val (.int p0), .val (.int p1), .val (.int p2), .val (.int p3), .val (.int p4), .val (.int (2 : Int32)), .val (.ref b8), .unset, .unset, .unset] [(.int (2 : Int32)), (.int (2 : Int32))])) _ _ _
    refine own_go (fun t k => XS.icmpYes X12.here hx rfl (pc0 := 35) (pc' := 44) rfl (hb hby at_35) rfl (own_flt (x := (2 : Int32)) (y := (2 : Int32)) (i := 2) (j := 2) rfl rfl (by decide)).2.2.2 (by decide) (by decide) k) ?_
    show own_End p e below s (T12.setTop (mkF m 44 #[.val (.int p0), .val (.int p1), .val (.int p2), .val (.int p3), .val (.int p4), .val (.int (2 : Int32)), .val (.ref b8), .unset, .unset, .unset] [])) _ _ _
    have J97_2 : ∀ (ex : Int32) (hex : own_At [(.int p2), (.int p3)] (2 : Int32) p1 ex), own_End p e below s (T12.setTop (mkF m 97 #[.val (.int p0), .val (.int p1), .val (.int p2), .val (.int p3), .val (.int p4), .val (.int (2 : Int32)), .val (.ref b8), .val (.int ex), .unset, .unset] [])) (Q_rm0 Z p0 p1 p2 p3 p4  h0 n0) room_1.cells room_1.slots := by
      intro ex hex
      show own_End p e below s (T12.setTop (mkF m 97 #[.val (.int p0), .val (.int p1), .val (.int p2), .val (.int p3), .val (.int p4), .val (.int (2 : Int32)), .val (.ref b8), .val (.int ex), .unset, .unset] [])) _ _ _
      refine own_go (fun t k => XS.aload X12.here hx rfl (hb hby at_97) rfl rfl k) ?_
      show own_End p e below s (T12.setTop (mkF m 99 #[.val (.int p0), .val (.int p1), .val (.int p2), .val (.int p3), .val (.int p4), .val (.int (2 : Int32)), .val (.ref b8), .val (.int ex), .unset, .unset] [(.ref b8)])) _ _ _
      refine own_go (fun t k => XS.iloadN X12.here hx rfl (hb hby at_99) rfl k) ?_
      show own_End p e below s (T12.setTop (mkF m 100 #[.val (.int p0), .val (.int p1), .val (.int p2), .val (.int p3), .val (.int p4), .val (.int (2 : Int32)), .val (.ref b8), .val (.int ex), .unset, .unset] [(.int p1), (.ref b8)])) _ _ _
      obtain ⟨_, _, ⟨T13, L13, k13, n13⟩, -, X13, ⟨Lc13, hQ13, l13, y13, z13⟩, st13⟩ := Jvm.LawKit.callS X12 hx (y := (⟨"com/example/wayfold/wayfold/search/TripProblem", "stopAt", "([II)I"⟩ : MethodName)) hown (mvT hZ (hw _ (List.mem_of_getElem? (i := 1) rfl))) (mvT hZ (hw _ (List.mem_of_getElem? (i := 2) rfl))) (mvT hZ (hw _ (List.mem_of_getElem? (i := 3) rfl))) (mvT hZ (hw _ (List.mem_of_getElem? (i := 4) rfl))) (by decide) (backOf (W := 0) (rm1 l Z a0 hw [] b8 p1 k8 (2 : Int32) [(.int p2), (.int p3)] h12 n0 Z12 V_b8_12 (own_getD [p2, p3])) hZ (hw _ (List.mem_of_getElem? (i := 4) rfl)) (hw _ (List.mem_of_getElem? (i := 3) rfl)) (by decide) (by decide)) (g := (mkF m 100 #[.val (.int p0), .val (.int p1), .val (.int p2), .val (.int p3), .val (.int p4), .val (.int (2 : Int32)), .val (.ref b8), .val (.int ex), .unset, .unset] [(.int p1), (.ref b8)])) rfl (by rw [hml]; rfl) (argsL := [(.ref b8), (.int p1)]) (rest := []) (lenOf own_pd0 rfl) rfl (by show 2 * 0 + _ ≤ _; exact Nat.le_of_eq rfl) (hb hby at_100) (fun _ _ => ⟨rfl, e12, (by decide : 1 + 0 ≤ _), (by decide : 2 + 0 ≤ _)⟩)
      dsimp only [Pt.U, Pt.locs, Pt.cells, Pt.slots] at X13 l13 y13 z13 st13 hQ13
      subst l13 y13 z13
      obtain ⟨⟨r13, rfl, hr13⟩, N13q, e13⟩ := hQ13
      have N13 := Fr.app N12 N13q
      refine own_go st13 ?_
      show own_End p e below s (T13.setTop (mkF m 103 #[.val (.int p0), .val (.int p1), .val (.int p2), .val (.int p3), .val (.int p4), .val (.int (2 : Int32)), .val (.ref b8), .val (.int ex), .unset, .unset] [(.int r13)])) _ _ _
      refine own_go (fun t k => XS.istore X13.here hx rfl (hb hby at_103) rfl (l' := #[.val (.int p0), .val (.int p1), .val (.int p2), .val (.int p3), .val (.int p4), .val (.int (2 : Int32)), .val (.ref b8), .val (.int ex), .val (.int r13), .unset]) rfl k) ?_
      show own_End p e below s (T13.setTop (mkF m 105 #[.val (.int p0), .val (.int p1), .val (.int p2), .val (.int p3), .val (.int p4), .val (.int (2 : Int32)), .val (.ref b8), .val (.int ex), .val (.int r13), .unset] [])) _ _ _
      refine own_go (fun t k => XS.iload X13.here hx rfl (hb hby at_105) rfl k) ?_
      show own_End p e below s (T13.setTop (mkF m 107 #[.val (.int p0), .val (.int p1), .val (.int p2), .val (.int p3), .val (.int p4), .val (.int (2 : Int32)), .val (.ref b8), .val (.int ex), .val (.int r13), .unset] [(.int (2 : Int32))])) _ _ _
      refine own_go (fun t k => XS.iconst X13.here hx rfl (hb hby at_107) k) ?_
      show own_End p e below s (T13.setTop (mkF m 108 #[.val (.int p0), .val (.int p1), .val (.int p2), .val (.int p3), .val (.int p4), .val (.int (2 : Int32)), .val (.ref b8), .val (.int ex), .val (.int r13), .unset] [(.int (1 : Int32)), (.int (2 : Int32))])) _ _ _
      refine own_go (fun t k => XS.icmpNo X13.here hx rfl (hb hby at_108) rfl (own_flt (x := (2 : Int32)) (y := (1 : Int32)) (i := 2) (j := 1) rfl rfl (by decide)).1 k) ?_
      show own_End p e below s (T13.setTop (mkF m 111 #[.val (.int p0), .val (.int p1), .val (.int p2), .val (.int p3), .val (.int p4), .val (.int (2 : Int32)), .val (.ref b8), .val (.int ex), .val (.int r13), .unset] [])) _ _ _
      refine own_go (fun t k => XS.aload X13.here hx rfl (hb hby at_111) rfl rfl k) ?_
      show own_End p e below s (T13.setTop (mkF m 113 #[.val (.int p0), .val (.int p1), .val (.int p2), .val (.int p3), .val (.int p4), .val (.int (2 : Int32)), .val (.ref b8), .val (.int ex), .val (.int r13), .unset] [(.ref b8)])) _ _ _
      refine own_go (fun t k => XS.iconst X13.here hx rfl (hb hby at_113) k) ?_
      show own_End p e below s (T13.setTop (mkF m 114 #[.val (.int p0), .val (.int p1), .val (.int p2), .val (.int p3), .val (.int p4), .val (.int (2 : Int32)), .val (.ref b8), .val (.int ex), .val (.int r13), .unset] [(.int (0 : Int32)), (.ref b8)])) _ _ _
      obtain ⟨cl14, Ar14, q14, S14, M14, Hh14, G14⟩ := id V_b8_12
      have hin14 : ¬ ((0 : Int32) < 0 ∨ cl14.slots.size ≤ ((0 : Int32)).toNatClampNeg) := inb_of S14 ⟨by decide, by decide⟩
      refine own_go (fun t k => X13.iaload hx (j := (0 : Int32)) (v := (.int p2)) (by rw [e13]; exact Ar14.1) (State.isArrayOf_alike hZ.alike Ar14.2.1) Ar14.2.2 hin14 (Hh14.at hin14 rfl) (g := (mkF m 114 #[.val (.int p0), .val (.int p1), .val (.int p2), .val (.int p3), .val (.int p4), .val (.int (2 : Int32)), .val (.ref b8), .val (.int ex), .val (.int r13), .unset] [(.int (0 : Int32)), (.ref b8)])) rfl rfl (hb hby at_114) _ k) ?_
      show own_End p e below s (T13.setTop (mkF m 115 #[.val (.int p0), .val (.int p1), .val (.int p2), .val (.int p3), .val (.int p4), .val (.int (2 : Int32)), .val (.ref b8), .val (.int ex), .val (.int r13), .unset] [(.int p2)])) _ _ _
      refine own_go (fun t k => XS.iloadN X13.here hx rfl (hb hby at_115) rfl k) ?_
      show own_End p e below s (T13.setTop (mkF m 116 #[.val (.int p0), .val (.int p1), .val (.int p2), .val (.int p3), .val (.int p4), .val (.int (2 : Int32)), .val (.ref b8), .val (.int ex), .val (.int r13), .unset] [(.int p2), (.int p2)])) _ _ _
      refine own_go (fun t k => XS.icmpNo X13.here hx rfl (hb hby at_116) rfl (own_eq (x := p2) (y := p2) (i := p2.toInt) (j := p2.toInt) rfl rfl rfl).2 k) ?_
      show own_End p e below s (T13.setTop (mkF m 119 #[.val (.int p0), .val (.int p1), .val (.int p2), .val (.int p3), .val (.int p4), .val (.int (2 : Int32)), .val (.ref b8), .val (.int ex), .val (.int r13), .unset] [])) _ _ _
      refine own_go (fun t k => XS.iload X13.here hx rfl (hb hby at_119) rfl k) ?_
      show own_End p e below s (T13.setTop (mkF m 121 #[.val (.int p0), .val (.int p1), .val (.int p2), .val (.int p3), .val (.int p4), .val (.int (2 : Int32)), .val (.ref b8), .val (.int ex), .val (.int r13), .unset] [(.int (2 : Int32))])) _ _ _
      refine own_go (fun t k => XS.iconst X13.here hx rfl (hb hby at_121) k) ?_
      show own_End p e below s (T13.setTop (mkF m 122 #[.val (.int p0), .val (.int p1), .val (.int p2), .val (.int p3), .val (.int p4), .val (.int (2 : Int32)), .val (.ref b8), .val (.int ex), .val (.int r13), .unset] [(.int (2 : Int32)), (.int (2 : Int32))])) _ _ _
      refine own_go (fun t k => XS.icmpNo X13.here hx rfl (hb hby at_122) rfl (own_flt (x := (2 : Int32)) (y := (2 : Int32)) (i := 2) (j := 2) rfl rfl (by decide)).1 k) ?_
      show own_End p e below s (T13.setTop (mkF m 125 #[.val (.int p0), .val (.int p1), .val (.int p2), .val (.int p3), .val (.int p4), .val (.int (2 : Int32)), .val (.ref b8), .val (.int ex), .val (.int r13), .unset] [])) _ _ _
      refine own_go (fun t k => XS.aload X13.here hx rfl (hb hby at_125) rfl rfl k) ?_
      show own_End p e below s (T13.setTop (mkF m 127 #[.val (.int p0), .val (.int p1), .val (.int p2), .val (.int p3), .val (.int p4), .val (.int (2 : Int32)), .val (.ref b8), .val (.int ex), .val (.int r13), .unset] [(.ref b8)])) _ _ _
      refine own_go (fun t k => XS.iconst X13.here hx rfl (hb hby at_127) k) ?_
      show own_End p e below s (T13.setTop (mkF m 128 #[.val (.int p0), .val (.int p1), .val (.int p2), .val (.int p3), .val (.int p4), .val (.int (2 : Int32)), .val (.ref b8), .val (.int ex), .val (.int r13), .unset] [(.int (1 : Int32)), (.ref b8)])) _ _ _
      obtain ⟨cl15, Ar15, q15, S15, M15, Hh15, G15⟩ := id V_b8_12
      have hin15 : ¬ ((1 : Int32) < 0 ∨ cl15.slots.size ≤ ((1 : Int32)).toNatClampNeg) := inb_of S15 ⟨by decide, by decide⟩
      refine own_go (fun t k => X13.iaload hx (j := (1 : Int32)) (v := (.int p3)) (by rw [e13]; exact Ar15.1) (State.isArrayOf_alike hZ.alike Ar15.2.1) Ar15.2.2 hin15 (Hh15.at hin15 rfl) (g := (mkF m 128 #[.val (.int p0), .val (.int p1), .val (.int p2), .val (.int p3), .val (.int p4), .val (.int (2 : Int32)), .val (.ref b8), .val (.int ex), .val (.int r13), .unset] [(.int (1 : Int32)), (.ref b8)])) rfl rfl (hb hby at_128) _ k) ?_
      show own_End p e below s (T13.setTop (mkF m 129 #[.val (.int p0), .val (.int p1), .val (.int p2), .val (.int p3), .val (.int p4), .val (.int (2 : Int32)), .val (.ref b8), .val (.int ex), .val (.int r13), .unset] [(.int p3)])) _ _ _
      refine own_go (fun t k => XS.iloadN X13.here hx rfl (hb hby at_129) rfl k) ?_
      show own_End p e below s (T13.setTop (mkF m 130 #[.val (.int p0), .val (.int p1), .val (.int p2), .val (.int p3), .val (.int p4), .val (.int (2 : Int32)), .val (.ref b8), .val (.int ex), .val (.int r13), .unset] [(.int p3), (.int p3)])) _ _ _
      refine own_go (fun t k => XS.icmpNo X13.here hx rfl (hb hby at_130) rfl (own_eq (x := p3) (y := p3) (i := p3.toInt) (j := p3.toInt) rfl rfl rfl).2 k) ?_
      show own_End p e below s (T13.setTop (mkF m 133 #[.val (.int p0), .val (.int p1), .val (.int p2), .val (.int p3), .val (.int p4), .val (.int (2 : Int32)), .val (.ref b8), .val (.int ex), .val (.int r13), .unset] [])) _ _ _
      refine own_go (fun t k => XS.iload X13.here hx rfl (hb hby at_133) rfl k) ?_
      show own_End p e below s (T13.setTop (mkF m 135 #[.val (.int p0), .val (.int p1), .val (.int p2), .val (.int p3), .val (.int p4), .val (.int (2 : Int32)), .val (.ref b8), .val (.int ex), .val (.int r13), .unset] [(.int (2 : Int32))])) _ _ _
      refine own_go (fun t k => XS.iconst X13.here hx rfl (hb hby at_135) k) ?_
      show own_End p e below s (T13.setTop (mkF m 136 #[.val (.int p0), .val (.int p1), .val (.int p2), .val (.int p3), .val (.int p4), .val (.int (2 : Int32)), .val (.ref b8), .val (.int ex), .val (.int r13), .unset] [(.int (3 : Int32)), (.int (2 : Int32))])) _ _ _
      refine own_go (fun t k => XS.icmpYes X13.here hx rfl (pc0 := 136) (pc' := 148) rfl (hb hby at_136) rfl (own_tlt (x := (2 : Int32)) (y := (3 : Int32)) (i := 2) (j := 3) rfl rfl (by decide)).1 (by decide) (by decide) k) ?_
      show own_End p e below s (T13.setTop (mkF m 148 #[.val (.int p0), .val (.int p1), .val (.int p2), .val (.int p3), .val (.int p4), .val (.int (2 : Int32)), .val (.ref b8), .val (.int ex), .val (.int r13), .unset] [])) _ _ _
      refine own_go (fun t k => XS.iconst X13.here hx rfl (hb hby at_148) k) ?_
      show own_End p e below s (T13.setTop (mkF m 149 #[.val (.int p0), .val (.int p1), .val (.int p2), .val (.int p3), .val (.int p4), .val (.int (2 : Int32)), .val (.ref b8), .val (.int ex), .val (.int r13), .unset] [(.int (1 : Int32))])) _ _ _
      refine own_go (fun t k => XS.goto X13.here hx rfl (pc0 := 149) (pc' := 153) rfl (hb hby at_149) (by decide) (by decide) k) ?_
      show own_End p e below s (T13.setTop (mkF m 153 #[.val (.int p0), .val (.int p1), .val (.int p2), .val (.int p3), .val (.int p4), .val (.int (2 : Int32)), .val (.ref b8), .val (.int ex), .val (.int r13), .unset] [(.int (1 : Int32))])) _ _ _
      refine own_go (fun t k => XS.istore X13.here hx rfl (hb hby at_153) rfl (l' := #[.val (.int p0), .val (.int p1), .val (.int p2), .val (.int p3), .val (.int p4), .val (.int (2 : Int32)), .val (.ref b8), .val (.int ex), .val (.int r13), .val (.int (1 : Int32))]) rfl k) ?_
      show own_End p e below s (T13.setTop (mkF m 155 #[.val (.int p0), .val (.int p1), .val (.int p2), .val (.int p3), .val (.int p4), .val (.int (2 : Int32)), .val (.ref b8), .val (.int ex), .val (.int r13), .val (.int (1 : Int32))] [])) _ _ _
      refine own_go (fun t k => XS.iload X13.here hx rfl (hb hby at_155) rfl k) ?_
      show own_End p e below s (T13.setTop (mkF m 157 #[.val (.int p0), .val (.int p1), .val (.int p2), .val (.int p3), .val (.int p4), .val (.int (2 : Int32)), .val (.ref b8), .val (.int ex), .val (.int r13), .val (.int (1 : Int32))] [(.int r13)])) _ _ _
      refine own_go (fun t k => XS.iload X13.here hx rfl (hb hby at_157) rfl k) ?_
      show own_End p e below s (T13.setTop (mkF m 159 #[.val (.int p0), .val (.int p1), .val (.int p2), .val (.int p3), .val (.int p4), .val (.int (2 : Int32)), .val (.ref b8), .val (.int ex), .val (.int r13), .val (.int (1 : Int32))] [(.int ex), (.int r13)])) _ _ _
      refine own_go (fun t k => XS.icmpNo X13.here hx rfl (hb hby at_159) rfl (own_eq (x := r13) (y := ex) (i := r13.toInt) (j := ex.toInt) rfl rfl (own_uniq hr13 hex)).2 k) ?_
      show own_End p e below s (T13.setTop (mkF m 162 #[.val (.int p0), .val (.int p1), .val (.int p2), .val (.int p3), .val (.int p4), .val (.int (2 : Int32)), .val (.ref b8), .val (.int ex), .val (.int r13), .val (.int (1 : Int32))] [])) _ _ _
      refine own_go (fun t k => XS.iload X13.here hx rfl (hb hby at_162) rfl k) ?_
      show own_End p e below s (T13.setTop (mkF m 164 #[.val (.int p0), .val (.int p1), .val (.int p2), .val (.int p3), .val (.int p4), .val (.int (2 : Int32)), .val (.ref b8), .val (.int ex), .val (.int r13), .val (.int (1 : Int32))] [(.int (1 : Int32))])) _ _ _
      refine own_go (fun t k => XS.ifNo X13.here hx rfl (hb hby at_164) rfl ((if0 _ _).trans (own_ne (x := (1 : Int32)) (y := (0 : Int32)) (i := 1) (j := 0) rfl rfl (by decide)).1) k) ?_
      show own_End p e below s (T13.setTop (mkF m 167 #[.val (.int p0), .val (.int p1), .val (.int p2), .val (.int p3), .val (.int p4), .val (.int (2 : Int32)), .val (.ref b8), .val (.int ex), .val (.int r13), .val (.int (1 : Int32))] [])) _ _ _
      refine own_go (fun t k => XS.iconst X13.here hx rfl (hb hby at_167) k) ?_
      show own_End p e below s (T13.setTop (mkF m 168 #[.val (.int p0), .val (.int p1), .val (.int p2), .val (.int p3), .val (.int p4), .val (.int (2 : Int32)), .val (.ref b8), .val (.int ex), .val (.int r13), .val (.int (1 : Int32))] [(.int (1 : Int32))])) _ _ _
      refine own_go (fun t k => XS.goto X13.here hx rfl (pc0 := 168) (pc' := 172) rfl (hb hby at_168) (by decide) (by decide) k) ?_
      show own_End p e below s (T13.setTop (mkF m 172 #[.val (.int p0), .val (.int p1), .val (.int p2), .val (.int p3), .val (.int p4), .val (.int (2 : Int32)), .val (.ref b8), .val (.int ex), .val (.int r13), .val (.int (1 : Int32))] [(.int (1 : Int32))])) _ _ _
      refine own_ret X13 (v := some (.int (1 : Int32))) (fun h => by rw [Bd.returns] at h; cases h) Bd.notSynchronized (fun fs hr => retN X13 hx (t := .boolean) Bd.returns (by simp) (hb hby at_172) hr) ?_ (by decide) (by decide)
      · exact ⟨rfl, N13⟩
    refine own_go (fun t k => XS.iloadN X12.here hx rfl (hb hby at_44) rfl k) ?_
    show own_End p e below s (T12.setTop (mkF m 45 #[.val (.int p0), .val (.int p1), .val (.int p2), .val (.int p3), .val (.int p4), .val (.int (2 : Int32)), .val (.ref b8), .unset, .unset, .unset] [(.int p1)])) _ _ _
    by_cases c45_2 : p1.toInt = 0
    · skip
      refine own_go (fun t k => XS.ifNo X12.here hx rfl (hb hby at_45) rfl ((if0 _ _).trans (own_eq (x := p1) (y := (0 : Int32)) (i := p1.toInt) (j := 0) rfl rfl c45_2).2) k) ?_
      show own_End p e below s (T12.setTop (mkF m 48 #[.val (.int p0), .val (.int p1), .val (.int p2), .val (.int p3), .val (.int p4), .val (.int (2 : Int32)), .val (.ref b8), .unset, .unset, .unset] [])) _ _ _
      refine own_go (fun t k => XS.iload X12.here hx rfl (hb hby at_48) rfl k) ?_
      show own_End p e below s (T12.setTop (mkF m 50 #[.val (.int p0), .val (.int p1), .val (.int p2), .val (.int p3), .val (.int p4), .val (.int (2 : Int32)), .val (.ref b8), .unset, .unset, .unset] [(.int (2 : Int32))])) _ _ _
      refine own_go (fun t k => XS.ifNo X12.here hx rfl (hb hby at_50) rfl ((if0 _ _).trans (own_tlt (x := (0 : Int32)) (y := (2 : Int32)) (i := 0) (j := 2) rfl rfl (by decide)).2.2.2) k) ?_
      show own_End p e below s (T12.setTop (mkF m 53 #[.val (.int p0), .val (.int p1), .val (.int p2), .val (.int p3), .val (.int p4), .val (.int (2 : Int32)), .val (.ref b8), .unset, .unset, .unset] [])) _ _ _
      refine own_go (fun t k => XS.iloadN X12.here hx rfl (hb hby at_53) rfl k) ?_
      show own_End p e below s (T12.setTop (mkF m 54 #[.val (.int p0), .val (.int p1), .val (.int p2), .val (.int p3), .val (.int p4), .val (.int (2 : Int32)), .val (.ref b8), .unset, .unset, .unset] [(.int p2)])) _ _ _
      refine own_go (fun t k => XS.istore X12.here hx rfl (hb hby at_54) rfl (l' := #[.val (.int p0), .val (.int p1), .val (.int p2), .val (.int p3), .val (.int p4), .val (.int (2 : Int32)), .val (.ref b8), .val (.int p2), .unset, .unset]) rfl k) ?_
      show own_End p e below s (T12.setTop (mkF m 56 #[.val (.int p0), .val (.int p1), .val (.int p2), .val (.int p3), .val (.int p4), .val (.int (2 : Int32)), .val (.ref b8), .val (.int p2), .unset, .unset] [])) _ _ _
      refine own_go (fun t k => XS.goto X12.here hx rfl (pc0 := 56) (pc' := 97) rfl (hb hby at_56) (by decide) (by decide) k) ?_
      show own_End p e below s (T12.setTop (mkF m 97 #[.val (.int p0), .val (.int p1), .val (.int p2), .val (.int p3), .val (.int p4), .val (.int (2 : Int32)), .val (.ref b8), .val (.int p2), .unset, .unset] [])) _ _ _
      exact J97_2 _ (by rw [Int32.toInt_inj.mp (show p1.toInt = (0 : Int32).toInt from c45_2)]; exact ⟨fun _ => rfl, fun q => absurd ⟨by decide, by decide⟩ q⟩)
    · skip
      refine own_go (fun t k => XS.ifYes X12.here hx rfl (pc0 := 45) (pc' := 59) rfl (hb hby at_45) rfl ((if0 _ _).trans (own_ne (x := p1) (y := (0 : Int32)) (i := p1.toInt) (j := 0) rfl rfl c45_2).2) (by decide) (by decide) k) ?_
      show own_End p e below s (T12.setTop (mkF m 59 #[.val (.int p0), .val (.int p1), .val (.int p2), .val (.int p3), .val (.int p4), .val (.int (2 : Int32)), .val (.ref b8), .unset, .unset, .unset] [])) _ _ _
      refine own_go (fun t k => XS.iloadN X12.here hx rfl (hb hby at_59) rfl k) ?_
      show own_End p e below s (T12.setTop (mkF m 60 #[.val (.int p0), .val (.int p1), .val (.int p2), .val (.int p3), .val (.int p4), .val (.int (2 : Int32)), .val (.ref b8), .unset, .unset, .unset] [(.int p1)])) _ _ _
      refine own_go (fun t k => XS.iconst X12.here hx rfl (hb hby at_60) k) ?_
      show own_End p e below s (T12.setTop (mkF m 61 #[.val (.int p0), .val (.int p1), .val (.int p2), .val (.int p3), .val (.int p4), .val (.int (2 : Int32)), .val (.ref b8), .unset, .unset, .unset] [(.int (1 : Int32)), (.int p1)])) _ _ _
      by_cases c61_2 : p1.toInt = 1
      · skip
        refine own_go (fun t k => XS.icmpNo X12.here hx rfl (hb hby at_61) rfl (own_eq (x := p1) (y := (1 : Int32)) (i := p1.toInt) (j := 1) rfl rfl c61_2).2 k) ?_
        show own_End p e below s (T12.setTop (mkF m 64 #[.val (.int p0), .val (.int p1), .val (.int p2), .val (.int p3), .val (.int p4), .val (.int (2 : Int32)), .val (.ref b8), .unset, .unset, .unset] [])) _ _ _
        refine own_go (fun t k => XS.iload X12.here hx rfl (hb hby at_64) rfl k) ?_
        show own_End p e below s (T12.setTop (mkF m 66 #[.val (.int p0), .val (.int p1), .val (.int p2), .val (.int p3), .val (.int p4), .val (.int (2 : Int32)), .val (.ref b8), .unset, .unset, .unset] [(.int (2 : Int32))])) _ _ _
        refine own_go (fun t k => XS.iconst X12.here hx rfl (hb hby at_66) k) ?_
        show own_End p e below s (T12.setTop (mkF m 67 #[.val (.int p0), .val (.int p1), .val (.int p2), .val (.int p3), .val (.int p4), .val (.int (2 : Int32)), .val (.ref b8), .unset, .unset, .unset] [(.int (1 : Int32)), (.int (2 : Int32))])) _ _ _
        refine own_go (fun t k => XS.icmpNo X12.here hx rfl (hb hby at_67) rfl (own_tlt (x := (1 : Int32)) (y := (2 : Int32)) (i := 1) (j := 2) rfl rfl (by decide)).2.2.2 k) ?_
        show own_End p e below s (T12.setTop (mkF m 70 #[.val (.int p0), .val (.int p1), .val (.int p2), .val (.int p3), .val (.int p4), .val (.int (2 : Int32)), .val (.ref b8), .unset, .unset, .unset] [])) _ _ _
        refine own_go (fun t k => XS.iloadN X12.here hx rfl (hb hby at_70) rfl k) ?_
        show own_End p e below s (T12.setTop (mkF m 71 #[.val (.int p0), .val (.int p1), .val (.int p2), .val (.int p3), .val (.int p4), .val (.int (2 : Int32)), .val (.ref b8), .unset, .unset, .unset] [(.int p3)])) _ _ _
        refine own_go (fun t k => XS.istore X12.here hx rfl (hb hby at_71) rfl (l' := #[.val (.int p0), .val (.int p1), .val (.int p2), .val (.int p3), .val (.int p4), .val (.int (2 : Int32)), .val (.ref b8), .val (.int p3), .unset, .unset]) rfl k) ?_
        show own_End p e below s (T12.setTop (mkF m 73 #[.val (.int p0), .val (.int p1), .val (.int p2), .val (.int p3), .val (.int p4), .val (.int (2 : Int32)), .val (.ref b8), .val (.int p3), .unset, .unset] [])) _ _ _
        refine own_go (fun t k => XS.goto X12.here hx rfl (pc0 := 73) (pc' := 97) rfl (hb hby at_73) (by decide) (by decide) k) ?_
        show own_End p e below s (T12.setTop (mkF m 97 #[.val (.int p0), .val (.int p1), .val (.int p2), .val (.int p3), .val (.int p4), .val (.int (2 : Int32)), .val (.ref b8), .val (.int p3), .unset, .unset] [])) _ _ _
        exact J97_2 _ (by rw [Int32.toInt_inj.mp (show p1.toInt = (1 : Int32).toInt from c61_2)]; exact ⟨fun _ => rfl, fun q => absurd ⟨by decide, by decide⟩ q⟩)
      · skip
        refine own_go (fun t k => XS.icmpYes X12.here hx rfl (pc0 := 61) (pc' := 76) rfl (hb hby at_61) rfl (own_ne (x := p1) (y := (1 : Int32)) (i := p1.toInt) (j := 1) rfl rfl c61_2).2 (by decide) (by decide) k) ?_
        show own_End p e below s (T12.setTop (mkF m 76 #[.val (.int p0), .val (.int p1), .val (.int p2), .val (.int p3), .val (.int p4), .val (.int (2 : Int32)), .val (.ref b8), .unset, .unset, .unset] [])) _ _ _
        refine own_go (fun t k => XS.iloadN X12.here hx rfl (hb hby at_76) rfl k) ?_
        show own_End p e below s (T12.setTop (mkF m 77 #[.val (.int p0), .val (.int p1), .val (.int p2), .val (.int p3), .val (.int p4), .val (.int (2 : Int32)), .val (.ref b8), .unset, .unset, .unset] [(.int p1)])) _ _ _
        refine own_go (fun t k => XS.iconst X12.here hx rfl (hb hby at_77) k) ?_
        show own_End p e below s (T12.setTop (mkF m 78 #[.val (.int p0), .val (.int p1), .val (.int p2), .val (.int p3), .val (.int p4), .val (.int (2 : Int32)), .val (.ref b8), .unset, .unset, .unset] [(.int (2 : Int32)), (.int p1)])) _ _ _
        by_cases c78_2 : p1.toInt = 2
        · skip
          refine own_go (fun t k => XS.icmpNo X12.here hx rfl (hb hby at_78) rfl (own_eq (x := p1) (y := (2 : Int32)) (i := p1.toInt) (j := 2) rfl rfl c78_2).2 k) ?_
          show own_End p e below s (T12.setTop (mkF m 81 #[.val (.int p0), .val (.int p1), .val (.int p2), .val (.int p3), .val (.int p4), .val (.int (2 : Int32)), .val (.ref b8), .unset, .unset, .unset] [])) _ _ _
          refine own_go (fun t k => XS.iload X12.here hx rfl (hb hby at_81) rfl k) ?_
          show own_End p e below s (T12.setTop (mkF m 83 #[.val (.int p0), .val (.int p1), .val (.int p2), .val (.int p3), .val (.int p4), .val (.int (2 : Int32)), .val (.ref b8), .unset, .unset, .unset] [(.int (2 : Int32))])) _ _ _
          refine own_go (fun t k => XS.iconst X12.here hx rfl (hb hby at_83) k) ?_
          show own_End p e below s (T12.setTop (mkF m 84 #[.val (.int p0), .val (.int p1), .val (.int p2), .val (.int p3), .val (.int p4), .val (.int (2 : Int32)), .val (.ref b8), .unset, .unset, .unset] [(.int (2 : Int32)), (.int (2 : Int32))])) _ _ _
          refine own_go (fun t k => XS.icmpYes X12.here hx rfl (pc0 := 84) (pc' := 94) rfl (hb hby at_84) rfl (own_flt (x := (2 : Int32)) (y := (2 : Int32)) (i := 2) (j := 2) rfl rfl (by decide)).2.2.2 (by decide) (by decide) k) ?_
          show own_End p e below s (T12.setTop (mkF m 94 #[.val (.int p0), .val (.int p1), .val (.int p2), .val (.int p3), .val (.int p4), .val (.int (2 : Int32)), .val (.ref b8), .unset, .unset, .unset] [])) _ _ _
          refine own_go (fun t k => XS.iconst X12.here hx rfl (hb hby at_94) k) ?_
          show own_End p e below s (T12.setTop (mkF m 95 #[.val (.int p0), .val (.int p1), .val (.int p2), .val (.int p3), .val (.int p4), .val (.int (2 : Int32)), .val (.ref b8), .unset, .unset, .unset] [(.int (-1 : Int32))])) _ _ _
          refine own_go (fun t k => XS.istore X12.here hx rfl (hb hby at_95) rfl (l' := #[.val (.int p0), .val (.int p1), .val (.int p2), .val (.int p3), .val (.int p4), .val (.int (2 : Int32)), .val (.ref b8), .val (.int (-1 : Int32)), .unset, .unset]) rfl k) ?_
          show own_End p e below s (T12.setTop (mkF m 97 #[.val (.int p0), .val (.int p1), .val (.int p2), .val (.int p3), .val (.int p4), .val (.int (2 : Int32)), .val (.ref b8), .val (.int (-1 : Int32)), .unset, .unset] [])) _ _ _
          exact J97_2 _ ⟨fun q => absurd q (by intro q; have q1 := q.1; have q2 := q.2; rw [Int32.lt_iff_toInt_lt] at q1 q2; have := show (2 : Int32).toInt = 2 from rfl; omega), fun _ => rfl⟩
        · skip
          refine own_go (fun t k => XS.icmpYes X12.here hx rfl (pc0 := 78) (pc' := 94) rfl (hb hby at_78) rfl (own_ne (x := p1) (y := (2 : Int32)) (i := p1.toInt) (j := 2) rfl rfl c78_2).2 (by decide) (by decide) k) ?_
          show own_End p e below s (T12.setTop (mkF m 94 #[.val (.int p0), .val (.int p1), .val (.int p2), .val (.int p3), .val (.int p4), .val (.int (2 : Int32)), .val (.ref b8), .unset, .unset, .unset] [])) _ _ _
          refine own_go (fun t k => XS.iconst X12.here hx rfl (hb hby at_94) k) ?_
          show own_End p e below s (T12.setTop (mkF m 95 #[.val (.int p0), .val (.int p1), .val (.int p2), .val (.int p3), .val (.int p4), .val (.int (2 : Int32)), .val (.ref b8), .unset, .unset, .unset] [(.int (-1 : Int32))])) _ _ _
          refine own_go (fun t k => XS.istore X12.here hx rfl (hb hby at_95) rfl (l' := #[.val (.int p0), .val (.int p1), .val (.int p2), .val (.int p3), .val (.int p4), .val (.int (2 : Int32)), .val (.ref b8), .val (.int (-1 : Int32)), .unset, .unset]) rfl k) ?_
          show own_End p e below s (T12.setTop (mkF m 97 #[.val (.int p0), .val (.int p1), .val (.int p2), .val (.int p3), .val (.int p4), .val (.int (2 : Int32)), .val (.ref b8), .val (.int (-1 : Int32)), .unset, .unset] [])) _ _ _
          exact J97_2 _ ⟨fun q => absurd q (by intro q; have q1 := q.1; have q2 := q.2; rw [Int32.lt_iff_toInt_lt] at q1 q2; have := show (2 : Int32).toInt = 2 from rfl; omega), fun _ => rfl⟩
  · skip
    rw [hm]
    show own_End p e below s (s₁.setTop (mkF m 5 #[.val (.int p0), .val (.int p1), .val (.int p2), .val (.int p3), .val (.int p4), .val (.int (3 : Int32)), .unset, .unset, .unset, .unset] [])) _ _ _
    refine own_go (fun t k => XS.iload X0.here hx rfl (hb hby at_5) rfl k) ?_
    show own_End p e below s (s₁.setTop (mkF m 7 #[.val (.int p0), .val (.int p1), .val (.int p2), .val (.int p3), .val (.int p4), .val (.int (3 : Int32)), .unset, .unset, .unset, .unset] [(.int (3 : Int32))])) _ _ _
    obtain ⟨T16, h16, k16, X16, e16, E16, A16, st16⟩ := newP X0 hx hZ (hw _ (List.mem_of_getElem? (i := 0) rfl)) e0 (g := (mkF m 7 #[.val (.int p0), .val (.int p1), .val (.int p2), .val (.int p3), .val (.int p4), .val (.int (3 : Int32)), .unset, .unset, .unset, .unset] [(.int (3 : Int32))])) rfl (hb hby at_7) rfl (by decide) (cap := 3) (by decide) (by decide) (by decide) (by decide)
    obtain ⟨b16, g16⟩ : ∃ z, z = h0.size := ⟨_, rfl⟩
    rw [← g16] at A16 st16
    have g_b16 : n0 ≤ b16 := Nat.le_trans Z0 (Nat.le_of_eq g16.symm)
    have Z16 : n0 ≤ h16.size := Nat.le_trans Z0 E16.1
    have V_b16 : Arv Z h16 b16 k16 .int (3 : Int32) [(.int (0 : Int32)), (.int (0 : Int32)), (.int (0 : Int32))] (.int (0 : Int32)) := (Arv.new A16 (by decide)).pad (pad_rep [] (.int (0 : Int32)) 3)
    refine own_go st16 ?_
    show own_End p e below s (T16.setTop (mkF m 9 #[.val (.int p0), .val (.int p1), .val (.int p2), .val (.int p3), .val (.int p4), .val (.int (3 : Int32)), .unset, .unset, .unset, .unset] [(.ref b16)])) _ _ _
    refine own_go (fun t k => XS.astore X16.here hx rfl (hb hby at_9) rfl rfl (l' := #[.val (.int p0), .val (.int p1), .val (.int p2), .val (.int p3), .val (.int p4), .val (.int (3 : Int32)), .val (.ref b16), .unset, .unset, .unset]) rfl k) ?_
    show own_End p e below s (T16.setTop (mkF m 11 #[.val (.int p0), .val (.int p1), .val (.int p2), .val (.int p3), .val (.int p4), .val (.int (3 : Int32)), .val (.ref b16), .unset, .unset, .unset] [])) _ _ _
    refine own_go (fun t k => XS.iload X16.here hx rfl (hb hby at_11) rfl k) ?_
    show own_End p e below s (T16.setTop (mkF m 13 #[.val (.int p0), .val (.int p1), .val (.int p2), .val (.int p3), .val (.int p4), .val (.int (3 : Int32)), .val (.ref b16), .unset, .unset, .unset] [(.int (3 : Int32))])) _ _ _
    refine own_go (fun t k => XS.ifNo X16.here hx rfl (hb hby at_13) rfl ((if0 _ _).trans (own_tlt (x := (0 : Int32)) (y := (3 : Int32)) (i := 0) (j := 3) rfl rfl (by decide)).2.2.2) k) ?_
    show own_End p e below s (T16.setTop (mkF m 16 #[.val (.int p0), .val (.int p1), .val (.int p2), .val (.int p3), .val (.int p4), .val (.int (3 : Int32)), .val (.ref b16), .unset, .unset, .unset] [])) _ _ _
    refine own_go (fun t k => XS.aload X16.here hx rfl (hb hby at_16) rfl rfl k) ?_
    show own_End p e below s (T16.setTop (mkF m 18 #[.val (.int p0), .val (.int p1), .val (.int p2), .val (.int p3), .val (.int p4), .val (.int (3 : Int32)), .val (.ref b16), .unset, .unset, .unset] [(.ref b16)])) _ _ _
    refine own_go (fun t k => XS.iconst X16.here hx rfl (hb hby at_18) k) ?_
    show own_End p e below s (T16.setTop (mkF m 19 #[.val (.int p0), .val (.int p1), .val (.int p2), .val (.int p3), .val (.int p4), .val (.int (3 : Int32)), .val (.ref b16), .unset, .unset, .unset] [(.int (0 : Int32)), (.ref b16)])) _ _ _
    refine own_go (fun t k => XS.iloadN X16.here hx rfl (hb hby at_19) rfl k) ?_
    show own_End p e below s (T16.setTop (mkF m 20 #[.val (.int p0), .val (.int p1), .val (.int p2), .val (.int p3), .val (.int p4), .val (.int (3 : Int32)), .val (.ref b16), .unset, .unset, .unset] [(.int p2), (.int (0 : Int32)), (.ref b16)])) _ _ _
    obtain ⟨cl17, Ar17, q17, S17, M17, Hh17, G17⟩ := id V_b16
    have hin17 : ¬ ((0 : Int32) < 0 ∨ cl17.slots.size ≤ ((0 : Int32)).toNatClampNeg) := inb_of S17 ⟨by decide, by decide⟩
    obtain ⟨T18, h18, X18, e18, W18, st18⟩ := stI X16 hx hZ e16 Ar17 (j := (0 : Int32)) hin17 (g := (mkF m 20 #[.val (.int p0), .val (.int p1), .val (.int p2), .val (.int p3), .val (.int p4), .val (.int (3 : Int32)), .val (.ref b16), .unset, .unset, .unset] [(.int p2), (.int (0 : Int32)), (.ref b16)])) rfl rfl (hb hby at_20)
    have V_b16_18 : Arv Z h18 b16 k16 .int (3 : Int32) [(.int p2), (.int (0 : Int32)), (.int (0 : Int32))] (.int (0 : Int32)) := Arv.set Ar17 q17 S17 M17 Hh17 G17 rfl W18 0 rfl (Nat.le_of_ble_eq_true rfl)
    have N18 := Fr.snoc X18 N0 g_b16
    have Z18 : n0 ≤ h18.size := Nat.le_trans Z16 (Keep.of_wr W18).1
    refine own_go st18 ?_
    show own_End p e below s (T18.setTop (mkF m 21 #[.val (.int p0), .val (.int p1), .val (.int p2), .val (.int p3), .val (.int p4), .val (.int (3 : Int32)), .val (.ref b16), .unset, .unset, .unset] [])) _ _ _
    refine own_go (fun t k => XS.iload X18.here hx rfl (hb hby at_21) rfl k) ?_
    show own_End p e below s (T18.setTop (mkF m 23 #[.val (.int p0), .val (.int p1), .val (.int p2), .val (.int p3), .val (.int p4), .val (.int (3 : Int32)), .val (.ref b16), .unset, .unset, .unset] [(.int (3 : Int32))])) _ _ _
    refine own_go (fun t k => XS.iconst X18.here hx rfl (hb hby at_23) k) ?_
    show own_End p e below s (T18.setTop (mkF m 24 #[.val (.int p0), .val (.int p1), .val (.int p2), .val (.int p3), .val (.int p4), .val (.int (3 : Int32)), .val (.ref b16), .unset, .unset, .unset] [(.int (1 : Int32)), (.int (3 : Int32))])) _ _ _
    refine own_go (fun t k => XS.icmpNo X18.here hx rfl (hb hby at_24) rfl (own_tlt (x := (1 : Int32)) (y := (3 : Int32)) (i := 1) (j := 3) rfl rfl (by decide)).2.2.2 k) ?_
    show own_End p e below s (T18.setTop (mkF m 27 #[.val (.int p0), .val (.int p1), .val (.int p2), .val (.int p3), .val (.int p4), .val (.int (3 : Int32)), .val (.ref b16), .unset, .unset, .unset] [])) _ _ _
    refine own_go (fun t k => XS.aload X18.here hx rfl (hb hby at_27) rfl rfl k) ?_
    show own_End p e below s (T18.setTop (mkF m 29 #[.val (.int p0), .val (.int p1), .val (.int p2), .val (.int p3), .val (.int p4), .val (.int (3 : Int32)), .val (.ref b16), .unset, .unset, .unset] [(.ref b16)])) _ _ _
    refine own_go (fun t k => XS.iconst X18.here hx rfl (hb hby at_29) k) ?_
    show own_End p e below s (T18.setTop (mkF m 30 #[.val (.int p0), .val (.int p1), .val (.int p2), .val (.int p3), .val (.int p4), .val (.int (3 : Int32)), .val (.ref b16), .unset, .unset, .unset] [(.int (1 : Int32)), (.ref b16)])) _ _ _
    refine own_go (fun t k => XS.iloadN X18.here hx rfl (hb hby at_30) rfl k) ?_
    show own_End p e below s (T18.setTop (mkF m 31 #[.val (.int p0), .val (.int p1), .val (.int p2), .val (.int p3), .val (.int p4), .val (.int (3 : Int32)), .val (.ref b16), .unset, .unset, .unset] [(.int p3), (.int (1 : Int32)), (.ref b16)])) _ _ _
    obtain ⟨cl19, Ar19, q19, S19, M19, Hh19, G19⟩ := id V_b16_18
    have hin19 : ¬ ((1 : Int32) < 0 ∨ cl19.slots.size ≤ ((1 : Int32)).toNatClampNeg) := inb_of S19 ⟨by decide, by decide⟩
    obtain ⟨T20, h20, X20, e20, W20, st20⟩ := stI X18 hx hZ e18 Ar19 (j := (1 : Int32)) hin19 (g := (mkF m 31 #[.val (.int p0), .val (.int p1), .val (.int p2), .val (.int p3), .val (.int p4), .val (.int (3 : Int32)), .val (.ref b16), .unset, .unset, .unset] [(.int p3), (.int (1 : Int32)), (.ref b16)])) rfl rfl (hb hby at_31)
    have V_b16_20 : Arv Z h20 b16 k16 .int (3 : Int32) [(.int p2), (.int p3), (.int (0 : Int32))] (.int (0 : Int32)) := Arv.set Ar19 q19 S19 M19 Hh19 G19 rfl W20 1 rfl (Nat.le_of_ble_eq_true rfl)
    have N20 := Fr.snoc X20 N18 g_b16
    have Z20 : n0 ≤ h20.size := Nat.le_trans Z18 (Keep.of_wr W20).1
    refine own_go st20 ?_
    show own_End p e below s (T20.setTop (mkF m 32 #[.val (.int p0), .val (.int p1), .val (.int p2), .val (.int p3), .val (.int p4), .val (.int (3 : Int32)), .val (.ref b16), .unset, .unset, .unset] [])) _ _ _
    refine own_go (fun t k => XS.iload X20.here hx rfl (hb hby at_32) rfl k) ?_
    show own_End p e below s (T20.setTop (mkF m 34 #[.val (.int p0), .val (.int p1), .val (.int p2), .val (.int p3), .val (.int p4), .val (.int (3 : Int32)), .val (.ref b16), .unset, .unset, .unset] [(.int (3 : Int32))])) _ _ _
    refine own_go (fun t k => XS.iconst X20.here hx rfl (hb hby at_34) k) ?_
    show own_End p e below s (T20.setTop (mkF m 35 #[.val (.int p0), .val (.int p1), .val (.int p2), .val (.int p3), .val (.int p4), .val (.int (3 : Int32)), .val (.ref b16), .unset, .unset, .unset] [(.int (2 : Int32)), (.int (3 : Int32))])) _ _ _
    refine own_go (fun t k => XS.icmpNo X20.here hx rfl (hb hby at_35) rfl (own_tlt (x := (2 : Int32)) (y := (3 : Int32)) (i := 2) (j := 3) rfl rfl (by decide)).2.2.2 k) ?_
    show own_End p e below s (T20.setTop (mkF m 38 #[.val (.int p0), .val (.int p1), .val (.int p2), .val (.int p3), .val (.int p4), .val (.int (3 : Int32)), .val (.ref b16), .unset, .unset, .unset] [])) _ _ _
    refine own_go (fun t k => XS.aload X20.here hx rfl (hb hby at_38) rfl rfl k) ?_
    show own_End p e below s (T20.setTop (mkF m 40 #[.val (.int p0), .val (.int p1), .val (.int p2), .val (.int p3), .val (.int p4), .val (.int (3 : Int32)), .val (.ref b16), .unset, .unset, .unset] [(.ref b16)])) _ _ _
    refine own_go (fun t k => XS.iconst X20.here hx rfl (hb hby at_40) k) ?_
    show own_End p e below s (T20.setTop (mkF m 41 #[.val (.int p0), .val (.int p1), .val (.int p2), .val (.int p3), .val (.int p4), .val (.int (3 : Int32)), .val (.ref b16), .unset, .unset, .unset] [(.int (2 : Int32)), (.ref b16)])) _ _ _
    refine own_go (fun t k => XS.iload X20.here hx rfl (hb hby at_41) rfl k) ?_
    show own_End p e below s (T20.setTop (mkF m 43 #[.val (.int p0), .val (.int p1), .val (.int p2), .val (.int p3), .val (.int p4), .val (.int (3 : Int32)), .val (.ref b16), .unset, .unset, .unset] [(.int p4), (.int (2 : Int32)), (.ref b16)])) _ _ _
    obtain ⟨cl21, Ar21, q21, S21, M21, Hh21, G21⟩ := id V_b16_20
    have hin21 : ¬ ((2 : Int32) < 0 ∨ cl21.slots.size ≤ ((2 : Int32)).toNatClampNeg) := inb_of S21 ⟨by decide, by decide⟩
    obtain ⟨T22, h22, X22, e22, W22, st22⟩ := stI X20 hx hZ e20 Ar21 (j := (2 : Int32)) hin21 (g := (mkF m 43 #[.val (.int p0), .val (.int p1), .val (.int p2), .val (.int p3), .val (.int p4), .val (.int (3 : Int32)), .val (.ref b16), .unset, .unset, .unset] [(.int p4), (.int (2 : Int32)), (.ref b16)])) rfl rfl (hb hby at_43)
    have V_b16_22 : Arv Z h22 b16 k16 .int (3 : Int32) [(.int p2), (.int p3), (.int p4)] (.int (0 : Int32)) := Arv.set Ar21 q21 S21 M21 Hh21 G21 rfl W22 2 rfl (Nat.le_of_ble_eq_true rfl)
    have N22 := Fr.snoc X22 N20 g_b16
    have Z22 : n0 ≤ h22.size := Nat.le_trans Z20 (Keep.of_wr W22).1
    refine own_go st22 ?_
    show own_End p e below s (T22.setTop (mkF m 44 #[.val (.int p0), .val (.int p1), .val (.int p2), .val (.int p3), .val (.int p4), .val (.int (3 : Int32)), .val (.ref b16), .unset, .unset, .unset] [])) _ _ _
    have J97_3 : ∀ (ex : Int32) (hex : own_At [(.int p2), (.int p3), (.int p4)] (3 : Int32) p1 ex), own_End p e below s (T22.setTop (mkF m 97 #[.val (.int p0), .val (.int p1), .val (.int p2), .val (.int p3), .val (.int p4), .val (.int (3 : Int32)), .val (.ref b16), .val (.int ex), .unset, .unset] [])) (Q_rm0 Z p0 p1 p2 p3 p4  h0 n0) room_1.cells room_1.slots := by
      intro ex hex
      show own_End p e below s (T22.setTop (mkF m 97 #[.val (.int p0), .val (.int p1), .val (.int p2), .val (.int p3), .val (.int p4), .val (.int (3 : Int32)), .val (.ref b16), .val (.int ex), .unset, .unset] [])) _ _ _
      refine own_go (fun t k => XS.aload X22.here hx rfl (hb hby at_97) rfl rfl k) ?_
      show own_End p e below s (T22.setTop (mkF m 99 #[.val (.int p0), .val (.int p1), .val (.int p2), .val (.int p3), .val (.int p4), .val (.int (3 : Int32)), .val (.ref b16), .val (.int ex), .unset, .unset] [(.ref b16)])) _ _ _
      refine own_go (fun t k => XS.iloadN X22.here hx rfl (hb hby at_99) rfl k) ?_
      show own_End p e below s (T22.setTop (mkF m 100 #[.val (.int p0), .val (.int p1), .val (.int p2), .val (.int p3), .val (.int p4), .val (.int (3 : Int32)), .val (.ref b16), .val (.int ex), .unset, .unset] [(.int p1), (.ref b16)])) _ _ _
      obtain ⟨_, _, ⟨T23, L23, k23, n23⟩, -, X23, ⟨Lc23, hQ23, l23, y23, z23⟩, st23⟩ := Jvm.LawKit.callS X22 hx (y := (⟨"com/example/wayfold/wayfold/search/TripProblem", "stopAt", "([II)I"⟩ : MethodName)) hown (mvT hZ (hw _ (List.mem_of_getElem? (i := 1) rfl))) (mvT hZ (hw _ (List.mem_of_getElem? (i := 2) rfl))) (mvT hZ (hw _ (List.mem_of_getElem? (i := 3) rfl))) (mvT hZ (hw _ (List.mem_of_getElem? (i := 4) rfl))) (by decide) (backOf (W := 0) (rm1 l Z a0 hw [] b16 p1 k16 (3 : Int32) [(.int p2), (.int p3), (.int p4)] h22 n0 Z22 V_b16_22 (own_getD [p2, p3, p4])) hZ (hw _ (List.mem_of_getElem? (i := 4) rfl)) (hw _ (List.mem_of_getElem? (i := 3) rfl)) (by decide) (by decide)) (g := (mkF m 100 #[.val (.int p0), .val (.int p1), .val (.int p2), .val (.int p3), .val (.int p4), .val (.int (3 : Int32)), .val (.ref b16), .val (.int ex), .unset, .unset] [(.int p1), (.ref b16)])) rfl (by rw [hml]; rfl) (argsL := [(.ref b16), (.int p1)]) (rest := []) (lenOf own_pd0 rfl) rfl (by show 2 * 0 + _ ≤ _; exact Nat.le_of_eq rfl) (hb hby at_100) (fun _ _ => ⟨rfl, e22, (by decide : 1 + 0 ≤ _), (by decide : 3 + 0 ≤ _)⟩)
      dsimp only [Pt.U, Pt.locs, Pt.cells, Pt.slots] at X23 l23 y23 z23 st23 hQ23
      subst l23 y23 z23
      obtain ⟨⟨r23, rfl, hr23⟩, N23q, e23⟩ := hQ23
      have N23 := Fr.app N22 N23q
      refine own_go st23 ?_
      show own_End p e below s (T23.setTop (mkF m 103 #[.val (.int p0), .val (.int p1), .val (.int p2), .val (.int p3), .val (.int p4), .val (.int (3 : Int32)), .val (.ref b16), .val (.int ex), .unset, .unset] [(.int r23)])) _ _ _
      refine own_go (fun t k => XS.istore X23.here hx rfl (hb hby at_103) rfl (l' := #[.val (.int p0), .val (.int p1), .val (.int p2), .val (.int p3), .val (.int p4), .val (.int (3 : Int32)), .val (.ref b16), .val (.int ex), .val (.int r23), .unset]) rfl k) ?_
      show own_End p e below s (T23.setTop (mkF m 105 #[.val (.int p0), .val (.int p1), .val (.int p2), .val (.int p3), .val (.int p4), .val (.int (3 : Int32)), .val (.ref b16), .val (.int ex), .val (.int r23), .unset] [])) _ _ _
      refine own_go (fun t k => XS.iload X23.here hx rfl (hb hby at_105) rfl k) ?_
      show own_End p e below s (T23.setTop (mkF m 107 #[.val (.int p0), .val (.int p1), .val (.int p2), .val (.int p3), .val (.int p4), .val (.int (3 : Int32)), .val (.ref b16), .val (.int ex), .val (.int r23), .unset] [(.int (3 : Int32))])) _ _ _
      refine own_go (fun t k => XS.iconst X23.here hx rfl (hb hby at_107) k) ?_
      show own_End p e below s (T23.setTop (mkF m 108 #[.val (.int p0), .val (.int p1), .val (.int p2), .val (.int p3), .val (.int p4), .val (.int (3 : Int32)), .val (.ref b16), .val (.int ex), .val (.int r23), .unset] [(.int (1 : Int32)), (.int (3 : Int32))])) _ _ _
      refine own_go (fun t k => XS.icmpNo X23.here hx rfl (hb hby at_108) rfl (own_flt (x := (3 : Int32)) (y := (1 : Int32)) (i := 3) (j := 1) rfl rfl (by decide)).1 k) ?_
      show own_End p e below s (T23.setTop (mkF m 111 #[.val (.int p0), .val (.int p1), .val (.int p2), .val (.int p3), .val (.int p4), .val (.int (3 : Int32)), .val (.ref b16), .val (.int ex), .val (.int r23), .unset] [])) _ _ _
      refine own_go (fun t k => XS.aload X23.here hx rfl (hb hby at_111) rfl rfl k) ?_
      show own_End p e below s (T23.setTop (mkF m 113 #[.val (.int p0), .val (.int p1), .val (.int p2), .val (.int p3), .val (.int p4), .val (.int (3 : Int32)), .val (.ref b16), .val (.int ex), .val (.int r23), .unset] [(.ref b16)])) _ _ _
      refine own_go (fun t k => XS.iconst X23.here hx rfl (hb hby at_113) k) ?_
      show own_End p e below s (T23.setTop (mkF m 114 #[.val (.int p0), .val (.int p1), .val (.int p2), .val (.int p3), .val (.int p4), .val (.int (3 : Int32)), .val (.ref b16), .val (.int ex), .val (.int r23), .unset] [(.int (0 : Int32)), (.ref b16)])) _ _ _
      obtain ⟨cl24, Ar24, q24, S24, M24, Hh24, G24⟩ := id V_b16_22
      have hin24 : ¬ ((0 : Int32) < 0 ∨ cl24.slots.size ≤ ((0 : Int32)).toNatClampNeg) := inb_of S24 ⟨by decide, by decide⟩
      refine own_go (fun t k => X23.iaload hx (j := (0 : Int32)) (v := (.int p2)) (by rw [e23]; exact Ar24.1) (State.isArrayOf_alike hZ.alike Ar24.2.1) Ar24.2.2 hin24 (Hh24.at hin24 rfl) (g := (mkF m 114 #[.val (.int p0), .val (.int p1), .val (.int p2), .val (.int p3), .val (.int p4), .val (.int (3 : Int32)), .val (.ref b16), .val (.int ex), .val (.int r23), .unset] [(.int (0 : Int32)), (.ref b16)])) rfl rfl (hb hby at_114) _ k) ?_
      show own_End p e below s (T23.setTop (mkF m 115 #[.val (.int p0), .val (.int p1), .val (.int p2), .val (.int p3), .val (.int p4), .val (.int (3 : Int32)), .val (.ref b16), .val (.int ex), .val (.int r23), .unset] [(.int p2)])) _ _ _
      refine own_go (fun t k => XS.iloadN X23.here hx rfl (hb hby at_115) rfl k) ?_
      show own_End p e below s (T23.setTop (mkF m 116 #[.val (.int p0), .val (.int p1), .val (.int p2), .val (.int p3), .val (.int p4), .val (.int (3 : Int32)), .val (.ref b16), .val (.int ex), .val (.int r23), .unset] [(.int p2), (.int p2)])) _ _ _
      refine own_go (fun t k => XS.icmpNo X23.here hx rfl (hb hby at_116) rfl (own_eq (x := p2) (y := p2) (i := p2.toInt) (j := p2.toInt) rfl rfl rfl).2 k) ?_
      show own_End p e below s (T23.setTop (mkF m 119 #[.val (.int p0), .val (.int p1), .val (.int p2), .val (.int p3), .val (.int p4), .val (.int (3 : Int32)), .val (.ref b16), .val (.int ex), .val (.int r23), .unset] [])) _ _ _
      refine own_go (fun t k => XS.iload X23.here hx rfl (hb hby at_119) rfl k) ?_
      show own_End p e below s (T23.setTop (mkF m 121 #[.val (.int p0), .val (.int p1), .val (.int p2), .val (.int p3), .val (.int p4), .val (.int (3 : Int32)), .val (.ref b16), .val (.int ex), .val (.int r23), .unset] [(.int (3 : Int32))])) _ _ _
      refine own_go (fun t k => XS.iconst X23.here hx rfl (hb hby at_121) k) ?_
      show own_End p e below s (T23.setTop (mkF m 122 #[.val (.int p0), .val (.int p1), .val (.int p2), .val (.int p3), .val (.int p4), .val (.int (3 : Int32)), .val (.ref b16), .val (.int ex), .val (.int r23), .unset] [(.int (2 : Int32)), (.int (3 : Int32))])) _ _ _
      refine own_go (fun t k => XS.icmpNo X23.here hx rfl (hb hby at_122) rfl (own_flt (x := (3 : Int32)) (y := (2 : Int32)) (i := 3) (j := 2) rfl rfl (by decide)).1 k) ?_
      show own_End p e below s (T23.setTop (mkF m 125 #[.val (.int p0), .val (.int p1), .val (.int p2), .val (.int p3), .val (.int p4), .val (.int (3 : Int32)), .val (.ref b16), .val (.int ex), .val (.int r23), .unset] [])) _ _ _
      refine own_go (fun t k => XS.aload X23.here hx rfl (hb hby at_125) rfl rfl k) ?_
      show own_End p e below s (T23.setTop (mkF m 127 #[.val (.int p0), .val (.int p1), .val (.int p2), .val (.int p3), .val (.int p4), .val (.int (3 : Int32)), .val (.ref b16), .val (.int ex), .val (.int r23), .unset] [(.ref b16)])) _ _ _
      refine own_go (fun t k => XS.iconst X23.here hx rfl (hb hby at_127) k) ?_
      show own_End p e below s (T23.setTop (mkF m 128 #[.val (.int p0), .val (.int p1), .val (.int p2), .val (.int p3), .val (.int p4), .val (.int (3 : Int32)), .val (.ref b16), .val (.int ex), .val (.int r23), .unset] [(.int (1 : Int32)), (.ref b16)])) _ _ _
      obtain ⟨cl25, Ar25, q25, S25, M25, Hh25, G25⟩ := id V_b16_22
      have hin25 : ¬ ((1 : Int32) < 0 ∨ cl25.slots.size ≤ ((1 : Int32)).toNatClampNeg) := inb_of S25 ⟨by decide, by decide⟩
      refine own_go (fun t k => X23.iaload hx (j := (1 : Int32)) (v := (.int p3)) (by rw [e23]; exact Ar25.1) (State.isArrayOf_alike hZ.alike Ar25.2.1) Ar25.2.2 hin25 (Hh25.at hin25 rfl) (g := (mkF m 128 #[.val (.int p0), .val (.int p1), .val (.int p2), .val (.int p3), .val (.int p4), .val (.int (3 : Int32)), .val (.ref b16), .val (.int ex), .val (.int r23), .unset] [(.int (1 : Int32)), (.ref b16)])) rfl rfl (hb hby at_128) _ k) ?_
      show own_End p e below s (T23.setTop (mkF m 129 #[.val (.int p0), .val (.int p1), .val (.int p2), .val (.int p3), .val (.int p4), .val (.int (3 : Int32)), .val (.ref b16), .val (.int ex), .val (.int r23), .unset] [(.int p3)])) _ _ _
      refine own_go (fun t k => XS.iloadN X23.here hx rfl (hb hby at_129) rfl k) ?_
      show own_End p e below s (T23.setTop (mkF m 130 #[.val (.int p0), .val (.int p1), .val (.int p2), .val (.int p3), .val (.int p4), .val (.int (3 : Int32)), .val (.ref b16), .val (.int ex), .val (.int r23), .unset] [(.int p3), (.int p3)])) _ _ _
      refine own_go (fun t k => XS.icmpNo X23.here hx rfl (hb hby at_130) rfl (own_eq (x := p3) (y := p3) (i := p3.toInt) (j := p3.toInt) rfl rfl rfl).2 k) ?_
      show own_End p e below s (T23.setTop (mkF m 133 #[.val (.int p0), .val (.int p1), .val (.int p2), .val (.int p3), .val (.int p4), .val (.int (3 : Int32)), .val (.ref b16), .val (.int ex), .val (.int r23), .unset] [])) _ _ _
      refine own_go (fun t k => XS.iload X23.here hx rfl (hb hby at_133) rfl k) ?_
      show own_End p e below s (T23.setTop (mkF m 135 #[.val (.int p0), .val (.int p1), .val (.int p2), .val (.int p3), .val (.int p4), .val (.int (3 : Int32)), .val (.ref b16), .val (.int ex), .val (.int r23), .unset] [(.int (3 : Int32))])) _ _ _
      refine own_go (fun t k => XS.iconst X23.here hx rfl (hb hby at_135) k) ?_
      show own_End p e below s (T23.setTop (mkF m 136 #[.val (.int p0), .val (.int p1), .val (.int p2), .val (.int p3), .val (.int p4), .val (.int (3 : Int32)), .val (.ref b16), .val (.int ex), .val (.int r23), .unset] [(.int (3 : Int32)), (.int (3 : Int32))])) _ _ _
      refine own_go (fun t k => XS.icmpNo X23.here hx rfl (hb hby at_136) rfl (own_flt (x := (3 : Int32)) (y := (3 : Int32)) (i := 3) (j := 3) rfl rfl (by decide)).1 k) ?_
      show own_End p e below s (T23.setTop (mkF m 139 #[.val (.int p0), .val (.int p1), .val (.int p2), .val (.int p3), .val (.int p4), .val (.int (3 : Int32)), .val (.ref b16), .val (.int ex), .val (.int r23), .unset] [])) _ _ _
      refine own_go (fun t k => XS.aload X23.here hx rfl (hb hby at_139) rfl rfl k) ?_
      show own_End p e below s (T23.setTop (mkF m 141 #[.val (.int p0), .val (.int p1), .val (.int p2), .val (.int p3), .val (.int p4), .val (.int (3 : Int32)), .val (.ref b16), .val (.int ex), .val (.int r23), .unset] [(.ref b16)])) _ _ _
      refine own_go (fun t k => XS.iconst X23.here hx rfl (hb hby at_141) k) ?_
      show own_End p e below s (T23.setTop (mkF m 142 #[.val (.int p0), .val (.int p1), .val (.int p2), .val (.int p3), .val (.int p4), .val (.int (3 : Int32)), .val (.ref b16), .val (.int ex), .val (.int r23), .unset] [(.int (2 : Int32)), (.ref b16)])) _ _ _
      obtain ⟨cl26, Ar26, q26, S26, M26, Hh26, G26⟩ := id V_b16_22
      have hin26 : ¬ ((2 : Int32) < 0 ∨ cl26.slots.size ≤ ((2 : Int32)).toNatClampNeg) := inb_of S26 ⟨by decide, by decide⟩
      refine own_go (fun t k => X23.iaload hx (j := (2 : Int32)) (v := (.int p4)) (by rw [e23]; exact Ar26.1) (State.isArrayOf_alike hZ.alike Ar26.2.1) Ar26.2.2 hin26 (Hh26.at hin26 rfl) (g := (mkF m 142 #[.val (.int p0), .val (.int p1), .val (.int p2), .val (.int p3), .val (.int p4), .val (.int (3 : Int32)), .val (.ref b16), .val (.int ex), .val (.int r23), .unset] [(.int (2 : Int32)), (.ref b16)])) rfl rfl (hb hby at_142) _ k) ?_
      show own_End p e below s (T23.setTop (mkF m 143 #[.val (.int p0), .val (.int p1), .val (.int p2), .val (.int p3), .val (.int p4), .val (.int (3 : Int32)), .val (.ref b16), .val (.int ex), .val (.int r23), .unset] [(.int p4)])) _ _ _
      refine own_go (fun t k => XS.iload X23.here hx rfl (hb hby at_143) rfl k) ?_
      show own_End p e below s (T23.setTop (mkF m 145 #[.val (.int p0), .val (.int p1), .val (.int p2), .val (.int p3), .val (.int p4), .val (.int (3 : Int32)), .val (.ref b16), .val (.int ex), .val (.int r23), .unset] [(.int p4), (.int p4)])) _ _ _
      refine own_go (fun t k => XS.icmpNo X23.here hx rfl (hb hby at_145) rfl (own_eq (x := p4) (y := p4) (i := p4.toInt) (j := p4.toInt) rfl rfl rfl).2 k) ?_
      show own_End p e below s (T23.setTop (mkF m 148 #[.val (.int p0), .val (.int p1), .val (.int p2), .val (.int p3), .val (.int p4), .val (.int (3 : Int32)), .val (.ref b16), .val (.int ex), .val (.int r23), .unset] [])) _ _ _
      refine own_go (fun t k => XS.iconst X23.here hx rfl (hb hby at_148) k) ?_
      show own_End p e below s (T23.setTop (mkF m 149 #[.val (.int p0), .val (.int p1), .val (.int p2), .val (.int p3), .val (.int p4), .val (.int (3 : Int32)), .val (.ref b16), .val (.int ex), .val (.int r23), .unset] [(.int (1 : Int32))])) _ _ _
      refine own_go (fun t k => XS.goto X23.here hx rfl (pc0 := 149) (pc' := 153) rfl (hb hby at_149) (by decide) (by decide) k) ?_
      show own_End p e below s (T23.setTop (mkF m 153 #[.val (.int p0), .val (.int p1), .val (.int p2), .val (.int p3), .val (.int p4), .val (.int (3 : Int32)), .val (.ref b16), .val (.int ex), .val (.int r23), .unset] [(.int (1 : Int32))])) _ _ _
      refine own_go (fun t k => XS.istore X23.here hx rfl (hb hby at_153) rfl (l' := #[.val (.int p0), .val (.int p1), .val (.int p2), .val (.int p3), .val (.int p4), .val (.int (3 : Int32)), .val (.ref b16), .val (.int ex), .val (.int r23), .val (.int (1 : Int32))]) rfl k) ?_
      show own_End p e below s (T23.setTop (mkF m 155 #[.val (.int p0), .val (.int p1), .val (.int p2), .val (.int p3), .val (.int p4), .val (.int (3 : Int32)), .val (.ref b16), .val (.int ex), .val (.int r23), .val (.int (1 : Int32))] [])) _ _ _
      refine own_go (fun t k => XS.iload X23.here hx rfl (hb hby at_155) rfl k) ?_
      show own_End p e below s (T23.setTop (mkF m 157 #[.val (.int p0), .val (.int p1), .val (.int p2), .val (.int p3), .val (.int p4), .val (.int (3 : Int32)), .val (.ref b16), .val (.int ex), .val (.int r23), .val (.int (1 : Int32))] [(.int r23)])) _ _ _
      refine own_go (fun t k => XS.iload X23.here hx rfl (hb hby at_157) rfl k) ?_
      show own_End p e below s (T23.setTop (mkF m 159 #[.val (.int p0), .val (.int p1), .val (.int p2), .val (.int p3), .val (.int p4), .val (.int (3 : Int32)), .val (.ref b16), .val (.int ex), .val (.int r23), .val (.int (1 : Int32))] [(.int ex), (.int r23)])) _ _ _
      refine own_go (fun t k => XS.icmpNo X23.here hx rfl (hb hby at_159) rfl (own_eq (x := r23) (y := ex) (i := r23.toInt) (j := ex.toInt) rfl rfl (own_uniq hr23 hex)).2 k) ?_
      show own_End p e below s (T23.setTop (mkF m 162 #[.val (.int p0), .val (.int p1), .val (.int p2), .val (.int p3), .val (.int p4), .val (.int (3 : Int32)), .val (.ref b16), .val (.int ex), .val (.int r23), .val (.int (1 : Int32))] [])) _ _ _
      refine own_go (fun t k => XS.iload X23.here hx rfl (hb hby at_162) rfl k) ?_
      show own_End p e below s (T23.setTop (mkF m 164 #[.val (.int p0), .val (.int p1), .val (.int p2), .val (.int p3), .val (.int p4), .val (.int (3 : Int32)), .val (.ref b16), .val (.int ex), .val (.int r23), .val (.int (1 : Int32))] [(.int (1 : Int32))])) _ _ _
      refine own_go (fun t k => XS.ifNo X23.here hx rfl (hb hby at_164) rfl ((if0 _ _).trans (own_ne (x := (1 : Int32)) (y := (0 : Int32)) (i := 1) (j := 0) rfl rfl (by decide)).1) k) ?_
      show own_End p e below s (T23.setTop (mkF m 167 #[.val (.int p0), .val (.int p1), .val (.int p2), .val (.int p3), .val (.int p4), .val (.int (3 : Int32)), .val (.ref b16), .val (.int ex), .val (.int r23), .val (.int (1 : Int32))] [])) _ _ _
      refine own_go (fun t k => XS.iconst X23.here hx rfl (hb hby at_167) k) ?_
      show own_End p e below s (T23.setTop (mkF m 168 #[.val (.int p0), .val (.int p1), .val (.int p2), .val (.int p3), .val (.int p4), .val (.int (3 : Int32)), .val (.ref b16), .val (.int ex), .val (.int r23), .val (.int (1 : Int32))] [(.int (1 : Int32))])) _ _ _
      refine own_go (fun t k => XS.goto X23.here hx rfl (pc0 := 168) (pc' := 172) rfl (hb hby at_168) (by decide) (by decide) k) ?_
      show own_End p e below s (T23.setTop (mkF m 172 #[.val (.int p0), .val (.int p1), .val (.int p2), .val (.int p3), .val (.int p4), .val (.int (3 : Int32)), .val (.ref b16), .val (.int ex), .val (.int r23), .val (.int (1 : Int32))] [(.int (1 : Int32))])) _ _ _
      refine own_ret X23 (v := some (.int (1 : Int32))) (fun h => by rw [Bd.returns] at h; cases h) Bd.notSynchronized (fun fs hr => retN X23 hx (t := .boolean) Bd.returns (by simp) (hb hby at_172) hr) ?_ (by decide) (by decide)
      · exact ⟨rfl, N23⟩
    refine own_go (fun t k => XS.iloadN X22.here hx rfl (hb hby at_44) rfl k) ?_
    show own_End p e below s (T22.setTop (mkF m 45 #[.val (.int p0), .val (.int p1), .val (.int p2), .val (.int p3), .val (.int p4), .val (.int (3 : Int32)), .val (.ref b16), .unset, .unset, .unset] [(.int p1)])) _ _ _
    by_cases c45_3 : p1.toInt = 0
    · skip
      refine own_go (fun t k => XS.ifNo X22.here hx rfl (hb hby at_45) rfl ((if0 _ _).trans (own_eq (x := p1) (y := (0 : Int32)) (i := p1.toInt) (j := 0) rfl rfl c45_3).2) k) ?_
      show own_End p e below s (T22.setTop (mkF m 48 #[.val (.int p0), .val (.int p1), .val (.int p2), .val (.int p3), .val (.int p4), .val (.int (3 : Int32)), .val (.ref b16), .unset, .unset, .unset] [])) _ _ _
      refine own_go (fun t k => XS.iload X22.here hx rfl (hb hby at_48) rfl k) ?_
      show own_End p e below s (T22.setTop (mkF m 50 #[.val (.int p0), .val (.int p1), .val (.int p2), .val (.int p3), .val (.int p4), .val (.int (3 : Int32)), .val (.ref b16), .unset, .unset, .unset] [(.int (3 : Int32))])) _ _ _
      refine own_go (fun t k => XS.ifNo X22.here hx rfl (hb hby at_50) rfl ((if0 _ _).trans (own_tlt (x := (0 : Int32)) (y := (3 : Int32)) (i := 0) (j := 3) rfl rfl (by decide)).2.2.2) k) ?_
      show own_End p e below s (T22.setTop (mkF m 53 #[.val (.int p0), .val (.int p1), .val (.int p2), .val (.int p3), .val (.int p4), .val (.int (3 : Int32)), .val (.ref b16), .unset, .unset, .unset] [])) _ _ _
      refine own_go (fun t k => XS.iloadN X22.here hx rfl (hb hby at_53) rfl k) ?_
      show own_End p e below s (T22.setTop (mkF m 54 #[.val (.int p0), .val (.int p1), .val (.int p2), .val (.int p3), .val (.int p4), .val (.int (3 : Int32)), .val (.ref b16), .unset, .unset, .unset] [(.int p2)])) _ _ _
      refine own_go (fun t k => XS.istore X22.here hx rfl (hb hby at_54) rfl (l' := #[.val (.int p0), .val (.int p1), .val (.int p2), .val (.int p3), .val (.int p4), .val (.int (3 : Int32)), .val (.ref b16), .val (.int p2), .unset, .unset]) rfl k) ?_
      show own_End p e below s (T22.setTop (mkF m 56 #[.val (.int p0), .val (.int p1), .val (.int p2), .val (.int p3), .val (.int p4), .val (.int (3 : Int32)), .val (.ref b16), .val (.int p2), .unset, .unset] [])) _ _ _
      refine own_go (fun t k => XS.goto X22.here hx rfl (pc0 := 56) (pc' := 97) rfl (hb hby at_56) (by decide) (by decide) k) ?_
      show own_End p e below s (T22.setTop (mkF m 97 #[.val (.int p0), .val (.int p1), .val (.int p2), .val (.int p3), .val (.int p4), .val (.int (3 : Int32)), .val (.ref b16), .val (.int p2), .unset, .unset] [])) _ _ _
      exact J97_3 _ (by rw [Int32.toInt_inj.mp (show p1.toInt = (0 : Int32).toInt from c45_3)]; exact ⟨fun _ => rfl, fun q => absurd ⟨by decide, by decide⟩ q⟩)
    · skip
      refine own_go (fun t k => XS.ifYes X22.here hx rfl (pc0 := 45) (pc' := 59) rfl (hb hby at_45) rfl ((if0 _ _).trans (own_ne (x := p1) (y := (0 : Int32)) (i := p1.toInt) (j := 0) rfl rfl c45_3).2) (by decide) (by decide) k) ?_
      show own_End p e below s (T22.setTop (mkF m 59 #[.val (.int p0), .val (.int p1), .val (.int p2), .val (.int p3), .val (.int p4), .val (.int (3 : Int32)), .val (.ref b16), .unset, .unset, .unset] [])) _ _ _
      refine own_go (fun t k => XS.iloadN X22.here hx rfl (hb hby at_59) rfl k) ?_
      show own_End p e below s (T22.setTop (mkF m 60 #[.val (.int p0), .val (.int p1), .val (.int p2), .val (.int p3), .val (.int p4), .val (.int (3 : Int32)), .val (.ref b16), .unset, .unset, .unset] [(.int p1)])) _ _ _
      refine own_go (fun t k => XS.iconst X22.here hx rfl (hb hby at_60) k) ?_
      show own_End p e below s (T22.setTop (mkF m 61 #[.val (.int p0), .val (.int p1), .val (.int p2), .val (.int p3), .val (.int p4), .val (.int (3 : Int32)), .val (.ref b16), .unset, .unset, .unset] [(.int (1 : Int32)), (.int p1)])) _ _ _
      by_cases c61_3 : p1.toInt = 1
      · skip
        refine own_go (fun t k => XS.icmpNo X22.here hx rfl (hb hby at_61) rfl (own_eq (x := p1) (y := (1 : Int32)) (i := p1.toInt) (j := 1) rfl rfl c61_3).2 k) ?_
        show own_End p e below s (T22.setTop (mkF m 64 #[.val (.int p0), .val (.int p1), .val (.int p2), .val (.int p3), .val (.int p4), .val (.int (3 : Int32)), .val (.ref b16), .unset, .unset, .unset] [])) _ _ _
        refine own_go (fun t k => XS.iload X22.here hx rfl (hb hby at_64) rfl k) ?_
        show own_End p e below s (T22.setTop (mkF m 66 #[.val (.int p0), .val (.int p1), .val (.int p2), .val (.int p3), .val (.int p4), .val (.int (3 : Int32)), .val (.ref b16), .unset, .unset, .unset] [(.int (3 : Int32))])) _ _ _
        refine own_go (fun t k => XS.iconst X22.here hx rfl (hb hby at_66) k) ?_
        show own_End p e below s (T22.setTop (mkF m 67 #[.val (.int p0), .val (.int p1), .val (.int p2), .val (.int p3), .val (.int p4), .val (.int (3 : Int32)), .val (.ref b16), .unset, .unset, .unset] [(.int (1 : Int32)), (.int (3 : Int32))])) _ _ _
        refine own_go (fun t k => XS.icmpNo X22.here hx rfl (hb hby at_67) rfl (own_tlt (x := (1 : Int32)) (y := (3 : Int32)) (i := 1) (j := 3) rfl rfl (by decide)).2.2.2 k) ?_
        show own_End p e below s (T22.setTop (mkF m 70 #[.val (.int p0), .val (.int p1), .val (.int p2), .val (.int p3), .val (.int p4), .val (.int (3 : Int32)), .val (.ref b16), .unset, .unset, .unset] [])) _ _ _
        refine own_go (fun t k => XS.iloadN X22.here hx rfl (hb hby at_70) rfl k) ?_
        show own_End p e below s (T22.setTop (mkF m 71 #[.val (.int p0), .val (.int p1), .val (.int p2), .val (.int p3), .val (.int p4), .val (.int (3 : Int32)), .val (.ref b16), .unset, .unset, .unset] [(.int p3)])) _ _ _
        refine own_go (fun t k => XS.istore X22.here hx rfl (hb hby at_71) rfl (l' := #[.val (.int p0), .val (.int p1), .val (.int p2), .val (.int p3), .val (.int p4), .val (.int (3 : Int32)), .val (.ref b16), .val (.int p3), .unset, .unset]) rfl k) ?_
        show own_End p e below s (T22.setTop (mkF m 73 #[.val (.int p0), .val (.int p1), .val (.int p2), .val (.int p3), .val (.int p4), .val (.int (3 : Int32)), .val (.ref b16), .val (.int p3), .unset, .unset] [])) _ _ _
        refine own_go (fun t k => XS.goto X22.here hx rfl (pc0 := 73) (pc' := 97) rfl (hb hby at_73) (by decide) (by decide) k) ?_
        show own_End p e below s (T22.setTop (mkF m 97 #[.val (.int p0), .val (.int p1), .val (.int p2), .val (.int p3), .val (.int p4), .val (.int (3 : Int32)), .val (.ref b16), .val (.int p3), .unset, .unset] [])) _ _ _
        exact J97_3 _ (by rw [Int32.toInt_inj.mp (show p1.toInt = (1 : Int32).toInt from c61_3)]; exact ⟨fun _ => rfl, fun q => absurd ⟨by decide, by decide⟩ q⟩)
      · skip
        refine own_go (fun t k => XS.icmpYes X22.here hx rfl (pc0 := 61) (pc' := 76) rfl (hb hby at_61) rfl (own_ne (x := p1) (y := (1 : Int32)) (i := p1.toInt) (j := 1) rfl rfl c61_3).2 (by decide) (by decide) k) ?_
        show own_End p e below s (T22.setTop (mkF m 76 #[.val (.int p0), .val (.int p1), .val (.int p2), .val (.int p3), .val (.int p4), .val (.int (3 : Int32)), .val (.ref b16), .unset, .unset, .unset] [])) _ _ _
        refine own_go (fun t k => XS.iloadN X22.here hx rfl (hb hby at_76) rfl k) ?_
        show own_End p e below s (T22.setTop (mkF m 77 #[.val (.int p0), .val (.int p1), .val (.int p2), .val (.int p3), .val (.int p4), .val (.int (3 : Int32)), .val (.ref b16), .unset, .unset, .unset] [(.int p1)])) _ _ _
        refine own_go (fun t k => XS.iconst X22.here hx rfl (hb hby at_77) k) ?_
        show own_End p e below s (T22.setTop (mkF m 78 #[.val (.int p0), .val (.int p1), .val (.int p2), .val (.int p3), .val (.int p4), .val (.int (3 : Int32)), .val (.ref b16), .unset, .unset, .unset] [(.int (2 : Int32)), (.int p1)])) _ _ _
        by_cases c78_3 : p1.toInt = 2
        · skip
          refine own_go (fun t k => XS.icmpNo X22.here hx rfl (hb hby at_78) rfl (own_eq (x := p1) (y := (2 : Int32)) (i := p1.toInt) (j := 2) rfl rfl c78_3).2 k) ?_
          show own_End p e below s (T22.setTop (mkF m 81 #[.val (.int p0), .val (.int p1), .val (.int p2), .val (.int p3), .val (.int p4), .val (.int (3 : Int32)), .val (.ref b16), .unset, .unset, .unset] [])) _ _ _
          refine own_go (fun t k => XS.iload X22.here hx rfl (hb hby at_81) rfl k) ?_
          show own_End p e below s (T22.setTop (mkF m 83 #[.val (.int p0), .val (.int p1), .val (.int p2), .val (.int p3), .val (.int p4), .val (.int (3 : Int32)), .val (.ref b16), .unset, .unset, .unset] [(.int (3 : Int32))])) _ _ _
          refine own_go (fun t k => XS.iconst X22.here hx rfl (hb hby at_83) k) ?_
          show own_End p e below s (T22.setTop (mkF m 84 #[.val (.int p0), .val (.int p1), .val (.int p2), .val (.int p3), .val (.int p4), .val (.int (3 : Int32)), .val (.ref b16), .unset, .unset, .unset] [(.int (2 : Int32)), (.int (3 : Int32))])) _ _ _
          refine own_go (fun t k => XS.icmpNo X22.here hx rfl (hb hby at_84) rfl (own_tlt (x := (2 : Int32)) (y := (3 : Int32)) (i := 2) (j := 3) rfl rfl (by decide)).2.2.2 k) ?_
          show own_End p e below s (T22.setTop (mkF m 87 #[.val (.int p0), .val (.int p1), .val (.int p2), .val (.int p3), .val (.int p4), .val (.int (3 : Int32)), .val (.ref b16), .unset, .unset, .unset] [])) _ _ _
          refine own_go (fun t k => XS.iload X22.here hx rfl (hb hby at_87) rfl k) ?_
          show own_End p e below s (T22.setTop (mkF m 89 #[.val (.int p0), .val (.int p1), .val (.int p2), .val (.int p3), .val (.int p4), .val (.int (3 : Int32)), .val (.ref b16), .unset, .unset, .unset] [(.int p4)])) _ _ _
          refine own_go (fun t k => XS.istore X22.here hx rfl (hb hby at_89) rfl (l' := #[.val (.int p0), .val (.int p1), .val (.int p2), .val (.int p3), .val (.int p4), .val (.int (3 : Int32)), .val (.ref b16), .val (.int p4), .unset, .unset]) rfl k) ?_
          show own_End p e below s (T22.setTop (mkF m 91 #[.val (.int p0), .val (.int p1), .val (.int p2), .val (.int p3), .val (.int p4), .val (.int (3 : Int32)), .val (.ref b16), .val (.int p4), .unset, .unset] [])) _ _ _
          refine own_go (fun t k => XS.goto X22.here hx rfl (pc0 := 91) (pc' := 97) rfl (hb hby at_91) (by decide) (by decide) k) ?_
          show own_End p e below s (T22.setTop (mkF m 97 #[.val (.int p0), .val (.int p1), .val (.int p2), .val (.int p3), .val (.int p4), .val (.int (3 : Int32)), .val (.ref b16), .val (.int p4), .unset, .unset] [])) _ _ _
          exact J97_3 _ (by rw [Int32.toInt_inj.mp (show p1.toInt = (2 : Int32).toInt from c78_3)]; exact ⟨fun _ => rfl, fun q => absurd ⟨by decide, by decide⟩ q⟩)
        · skip
          refine own_go (fun t k => XS.icmpYes X22.here hx rfl (pc0 := 78) (pc' := 94) rfl (hb hby at_78) rfl (own_ne (x := p1) (y := (2 : Int32)) (i := p1.toInt) (j := 2) rfl rfl c78_3).2 (by decide) (by decide) k) ?_
          show own_End p e below s (T22.setTop (mkF m 94 #[.val (.int p0), .val (.int p1), .val (.int p2), .val (.int p3), .val (.int p4), .val (.int (3 : Int32)), .val (.ref b16), .unset, .unset, .unset] [])) _ _ _
          refine own_go (fun t k => XS.iconst X22.here hx rfl (hb hby at_94) k) ?_
          show own_End p e below s (T22.setTop (mkF m 95 #[.val (.int p0), .val (.int p1), .val (.int p2), .val (.int p3), .val (.int p4), .val (.int (3 : Int32)), .val (.ref b16), .unset, .unset, .unset] [(.int (-1 : Int32))])) _ _ _
          refine own_go (fun t k => XS.istore X22.here hx rfl (hb hby at_95) rfl (l' := #[.val (.int p0), .val (.int p1), .val (.int p2), .val (.int p3), .val (.int p4), .val (.int (3 : Int32)), .val (.ref b16), .val (.int (-1 : Int32)), .unset, .unset]) rfl k) ?_
          show own_End p e below s (T22.setTop (mkF m 97 #[.val (.int p0), .val (.int p1), .val (.int p2), .val (.int p3), .val (.int p4), .val (.int (3 : Int32)), .val (.ref b16), .val (.int (-1 : Int32)), .unset, .unset] [])) _ _ _
          exact J97_3 _ ⟨fun q => absurd q (by intro q; have q1 := q.1; have q2 := q.2; rw [Int32.lt_iff_toInt_lt] at q1 q2; have := show (3 : Int32).toInt = 3 from rfl; omega), fun _ => rfl⟩
set_option maxRecDepth 65536 in
set_option maxHeartbeats 40000000 in
theorem comes_1 {Post : Tables → Env → Array Value → State → Outcome → State → Prop} (hpost : ∀ tb e args s v u, (limb_1_1.after args s (.returned v) u = true ∧ limb_1_2.after args s (.returned v) u = true ∧ True) → FrameEnd s (.returned v) u (Jvm.fieldLocs frame_1_writes args s ++ Jvm.arrayLocs frame_1_arrays args s ++ Jvm.staticLocs frame_1_statics s) 16 128 → Post tb e args s (.returned v) u) :
    ArmFor flags0 classFile x code maxLocals ret World_1 tables_1 room_1 Calls_1 rest_1 Pre_1 Post := by
  intro l hfl _ _ p e ha hc hk s m args below hf hA hF happ hP
  obtain ⟨hcalls, hrest, hpre⟩ := hP
  obtain ⟨-, -, -, hnamed, -, -, -, hat⟩ := (Spec.applies_iff hf).mp happ
  obtain ⟨hg, hn⟩ := and_e (Cond.before_iff.mp (show (Jvm.Cond.and given_1 narrow_1).before args s = true from hpre))
  obtain ⟨gc, gr0⟩ := and_e hg
  obtain ⟨ga0, gr1⟩ := and_e gr0
  obtain ⟨ga1, gr2⟩ := and_e gr1
  obtain ⟨ga2, gr3⟩ := and_e gr2
  obtain ⟨ga3, gr4⟩ := and_e gr3
  have ga4 := gr4
  obtain ⟨w0, w1, w2, w3, w4, rfl⟩ : ∃ w0 w1 w2 w3 w4 : Value, args = #[w0, w1, w2, w3, w4] := by
    have hs : args.size = 5 := by simpa [Cond.value, given_1] using gc
    obtain ⟨L⟩ := args
    match L, hs with
    | [w0, w1, w2, w3, w4], _ => exact ⟨w0, w1, w2, w3, w4, rfl⟩
  have hw := fun d (hd : d ∈ tables_1) => atoms_spec (ws := Jvm.Cond.code x code maxLocals ret :: tables_1) hat d (List.mem_cons_of_mem _ hd)
  obtain ⟨i0, ei0⟩ := is_v ga0
  obtain rfl : w0 = (.int i0) := Option.some.inj ei0
  obtain ⟨i1, ei1⟩ := is_v ga1
  obtain rfl : w1 = (.int i1) := Option.some.inj ei1
  obtain ⟨i2, ei2⟩ := is_v ga2
  obtain rfl : w2 = (.int i2) := Option.some.inj ei2
  obtain ⟨i3, ei3⟩ := is_v ga3
  obtain rfl : w3 = (.int i3) := Option.some.inj ei3
  obtain ⟨i4, ei4⟩ := is_v ga4
  obtain rfl : w4 = (.int i4) := Option.some.inj ei4
  obtain ⟨n, o, h1, h2, h3, _, L, rfl, ⟨rfl, N⟩, hq⟩ := rm0 l s _ hw tables_1 i0 i1 i2 i3 i4  s.heap s.heap.size (Nat.le_refl _)  p e ha hc hk s m _ below hf ((Spec.applies_iff_loose hf).mp happ).1 ⟨rfl, State.Warmed39.refl s, rfl⟩ trivial
  refine ⟨n, _, h1, h2, h3, hpost _ _ _ _ _ _ ⟨Cond.after_iff.mpr rfl, Cond.after_iff.mpr (eq_i res_at (Term.int_eval (1)) rfl), trivial⟩ ⟨hq.1, hq.2.1, (hq.2.2.sift fun y hy => Or.inr (N y hy)).mono (by decide) (by decide)⟩⟩
theorem main_1_1 : Claimed_1_1 := comes_1 fun _ _ _ _ _ _ h hF => ⟨h.1, hF⟩
theorem main_1_2 : Claimed_1_2 := comes_1 fun _ _ _ _ _ _ h hF => ⟨h.2.1, hF⟩
end Jvm.Pilot.@@N@@
namespace Jvm.Pilot.@@N@@
open Jvm Jvm.ClassFile Sem Op Lib Jvm.Free Jvm.Stand Jvm.Pilot.@@N@@.Jvm.D
/-! MADE BY PROGRAM (witnessworld.py) out of the Statement's table words and the real class files: 9 classes; the members and pool entries that the words name. The judged class is class 1, her method 1. -/
namespace start1
open Jvm.ClassFile
def u (s : String) : CpInfo := .utf8 (stringToUtf16 s)
/-- a pool by its gaps: so many unusable entries, then the entry; so many at the end -/
def gap : Nat → List CpInfo → List CpInfo
  | 0, r => r
  | n + 1, r => .unusable :: gap n r
def poolList (es : List (Nat × CpInfo)) (last : Nat) : List CpInfo := es.foldr (fun e r => gap e.1 (e.2 :: r)) (gap last [])
def pool (es : List (Nat × CpInfo)) (last : Nat) : Array CpInfo := ⟨poolList es last⟩
def fileOf (pool : Array CpInfo) (this : Nat) (attrs : Array Attribute := #[]) (ms : Array MethodInfo := #[]) (fl : Nat := 33) (sup : Nat := 0) (ifs : Array Nat := #[]) (fds : Array FieldInfo := #[]) : ClassFile where
  minorVersion := 0
  majorVersion := 65
  constantPool := pool
  accessFlags := fl
  thisClass := this
  superClass := sup
  interfaces := ifs
  fields := fds
  methods := ms
  attributes := attrs
def plain (name : String) (sup : Option ClassId) : Class where
  name := name
  kind := .ordinary
  loader := none
  accessFlags := 33
  super := sup
  interfaces := #[]
  cf := none
  fields := #[]
  methods := #[]
  instanceTypes := #[]
  staticTypes := #[]
  resolved := #[]
  callSites := []
  init := .initialized
  statics := none
  mirror := none

def pool0 : Array CpInfo := pool [(5, u "<init>"), (0, u "()V"), (1, .class_ 10), (1, u "java/lang/Object")] 113

def k0m0 : Method := { name := "<init>", desc := "()V", sig := { parameters := [], returnType := none }, accessFlags := 1, code := none }
/-- java/lang/Object -/
def k0 : Class := { plain "java/lang/Object" none with
  accessFlags := 33
  interfaces := #[]
  cf := some (fileOf pool0 8 #[] #[{ accessFlags := 1, nameIndex := 5, descriptorIndex := 6, attributes := #[] }] 33 0 #[] #[])
  fields := #[]
  methods := #[k0m0]
  instanceTypes := #[]
  staticTypes := #[]
  resolved := Array.replicate 124 none
  statics := none }

def pool1 : Array CpInfo := pool [(2, .class_ 4), (1, u "java/lang/Object"), (0, u "<init>"), (0, u "()V"), (0, .methodref 8 9), (0, .class_ 10), (0, .nameAndType 11 12), (0, u "com/example/wayfold/wayfold/search/TripProblem"), (0, u "stopAt"), (0, u "([II)I"), (0, .class_ 14), (0, u "com/example/wayfold/wayfold/search/TripProblemStopAtPinLaw"), (2, u "law"), (0, u "(IIIII)Z")] 5

def k1m0 : Method := { name := "<init>", desc := "()V", sig := { parameters := [], returnType := none }, accessFlags := 2, code := none }
def k1c1 : Code := { maxStack := 3, maxLocals := 10, code := code, exceptionTable := #[], attributes := #[] }
def k1m1 : Method := { name := "law", desc := "(IIIII)Z", sig := { parameters := [.int, .int, .int, .int, .int], returnType := some .boolean }, accessFlags := 9, code := some k1c1 }
/-- com/example/wayfold/wayfold/search/TripProblemStopAtPinLaw -/
def k1 : Class := { plain "com/example/wayfold/wayfold/search/TripProblemStopAtPinLaw" (some 0) with
  accessFlags := 49
  interfaces := #[]
  cf := some (fileOf pool1 13 #[] #[{ accessFlags := 2, nameIndex := 5, descriptorIndex := 6, attributes := #[] }, { accessFlags := 9, nameIndex := 17, descriptorIndex := 18, attributes := #[] }] 49 2 #[] #[])
  fields := #[]
  methods := #[k1m0, k1m1]
  instanceTypes := #[]
  staticTypes := #[]
  resolved := Array.replicate 24 none
  statics := none }

def pool2 : Array CpInfo := pool [(2, .class_ 4), (1, u "java/lang/Object"), (3, .class_ 10), (1, u "com/example/wayfold/wayfold/search/TripProblem"), (0, u "gainOfPlaces"), (0, u "Ljava/util/function/ToDoubleFunction;"), (2, u "start"), (0, u "I"), (2, u "end"), (2, u "budget"), (0, u "D"), (2, u "places"), (0, u "[I"), (2, u "stays"), (0, u "[D"), (2, u "travel"), (0, u "Lcom/example/wayfold/wayfold/search/TripProblem$Legs;"), (2, u "floor"), (94, .class_ 134), (0, u "com/example/wayfold/wayfold/search/TripProblem$Legs"), (126, u "stopAt"), (0, u "([II)I"), (106, u "EQUAL"), (1, u "ENDS")] 148

def k2c0 : Code := { maxStack := 2, maxLocals := 2, code := prog_74_method_16_code, exceptionTable := #[], attributes := #[] }
def k2m0 : Method := { name := "stopAt", desc := "([II)I", sig := { parameters := [(.array .int), .int], returnType := some .int }, accessFlags := 8, code := some k2c0 }
/-- com/example/wayfold/wayfold/search/TripProblem -/
def k2 : Class := { plain "com/example/wayfold/wayfold/search/TripProblem" (some 0) with
  accessFlags := 49
  interfaces := #[]
  cf := some (fileOf pool2 8 #[.nestMembers #[133]] #[{ accessFlags := 8, nameIndex := 261, descriptorIndex := 262, attributes := #[] }] 49 2 #[] #[{ accessFlags := 24, nameIndex := 369, descriptorIndex := 23, attributes := #[] }, { accessFlags := 24, nameIndex := 371, descriptorIndex := 16, attributes := #[] }, { accessFlags := 18, nameIndex := 11, descriptorIndex := 12, attributes := #[] }, { accessFlags := 18, nameIndex := 15, descriptorIndex := 16, attributes := #[] }, { accessFlags := 18, nameIndex := 19, descriptorIndex := 16, attributes := #[] }, { accessFlags := 18, nameIndex := 22, descriptorIndex := 23, attributes := #[] }, { accessFlags := 18, nameIndex := 26, descriptorIndex := 27, attributes := #[] }, { accessFlags := 18, nameIndex := 30, descriptorIndex := 31, attributes := #[] }, { accessFlags := 18, nameIndex := 34, descriptorIndex := 35, attributes := #[] }, { accessFlags := 2, nameIndex := 38, descriptorIndex := 35, attributes := #[] }])
  fields := #[{ name := "EQUAL", type := .double, accessFlags := 24, slot := 0, constantValue := 0 }, { name := "ENDS", type := .int, accessFlags := 24, slot := 1, constantValue := 0 }, { name := "gainOfPlaces", type := (.object "java/util/function/ToDoubleFunction"), accessFlags := 18, slot := 0, constantValue := 0 }, { name := "start", type := .int, accessFlags := 18, slot := 1, constantValue := 0 }, { name := "end", type := .int, accessFlags := 18, slot := 2, constantValue := 0 }, { name := "budget", type := .double, accessFlags := 18, slot := 3, constantValue := 0 }, { name := "places", type := (.array .int), accessFlags := 18, slot := 4, constantValue := 0 }, { name := "stays", type := (.array .double), accessFlags := 18, slot := 5, constantValue := 0 }, { name := "travel", type := (.object "com/example/wayfold/wayfold/search/TripProblem$Legs"), accessFlags := 18, slot := 6, constantValue := 0 }, { name := "floor", type := (.object "com/example/wayfold/wayfold/search/TripProblem$Legs"), accessFlags := 2, slot := 7, constantValue := 0 }]
  methods := #[k2m0]
  instanceTypes := #[(.object "java/util/function/ToDoubleFunction"), .int, .int, .double, (.array .int), (.array .double), (.object "com/example/wayfold/wayfold/search/TripProblem$Legs"), (.object "com/example/wayfold/wayfold/search/TripProblem$Legs")]
  staticTypes := #[.double, .int]
  resolved := Array.replicate 520 none
  statics := none }

def pool3 : Array CpInfo := pool [(1, u "java/lang/Cloneable"), (0, .class_ 1), (0, u "java/lang/Object"), (0, .class_ 3)] 3

/-- java/lang/Cloneable -/
def k3 : Class := { plain "java/lang/Cloneable" (some 0) with
  accessFlags := 1537
  interfaces := #[]
  cf := some (fileOf pool3 2 #[] #[] 1537 4 #[] #[])
  fields := #[]
  methods := #[]
  instanceTypes := #[]
  staticTypes := #[]
  resolved := Array.replicate 8 none
  statics := none }

def pool4 : Array CpInfo := pool [(1, u "java/io/Serializable"), (0, .class_ 1), (0, u "java/lang/Object"), (0, .class_ 3)] 3

/-- java/io/Serializable -/
def k4 : Class := { plain "java/io/Serializable" (some 0) with
  accessFlags := 1537
  interfaces := #[]
  cf := some (fileOf pool4 2 #[] #[] 1537 4 #[] #[])
  fields := #[]
  methods := #[]
  instanceTypes := #[]
  staticTypes := #[]
  resolved := Array.replicate 8 none
  statics := none }

/-- the primitive byte -/
def k5 : Class := { plain "byte" none with kind := .primitive 'B', accessFlags := 0x411 }
/-- [B -/
def k6 : Class := { plain "[B" (some 0) with kind := .array 5 .byte, interfaces := #[3, 4], accessFlags := 1041 }

/-- the primitive int -/
def k7 : Class := { plain "int" none with kind := .primitive 'I', accessFlags := 0x411 }
/-- [I -/
def k8 : Class := { plain "[I" (some 0) with kind := .array 7 .int, interfaces := #[3, 4], accessFlags := 1041 }

def heap : Heap := #[]
def classes : Array Class := #[k0, k1, k2, k3, k4, k5, k6, k7, k8]
def interned : List (Array UInt16 × Addr) := []
def slotsUsed : Nat := 0
def theMethod : MethodId := ⟨1, 1⟩
def args0 : Array Value := #[.int 3, .int 1, .int 7, .int 8, .int 9]
def aboutOver (below : List Frame) : State where
  vm := { classes := classes, interned := interned.toArray }
  heap := heap
  slotsUsed := slotsUsed
  threads := #[{ frames := .invoking theMethod args0 :: below }]
def below0 : List Frame := [.native { method := ⟨0, 0⟩, args := #[] }]
def about1 : State := aboutOver below0
def p0 : Program := .bare "" "" ""
def e0 : Env := launch0.env 0 0 0
theorem w_frames : about1.frames = Frame.invoking theMethod args0 :: below0 := rfl
set_option maxRecDepth 65536 in
theorem w_args : argsFit about1.vm theMethod args0 = true := by decide +kernel
set_option maxRecDepth 65536 in
theorem w_heap : heapFits about1 = true := by decide +kernel
set_option maxRecDepth 65536 in
theorem w_runnable : about1.curStatus? = some .runnable := by decide +kernel
set_option maxRecDepth 65536 in
theorem w_alone : about1.alone = true := by decide +kernel
set_option maxRecDepth 65536 in
theorem w_named : about1.methodNamed? x = some theMethod := by decide +kernel
set_option maxRecDepth 65536 in
theorem w_hears : about1.hears theMethod below0 = true := by decide +kernel
set_option maxRecDepth 65536 in
theorem w_ripe : about1.ripe theMethod args0 below0 = true := by decide +kernel
theorem w_running : about1.status = .running := rfl
set_option maxRecDepth 65536 in
theorem w_room : about1.hasRoom e0.platform room_1 = true :=
  launch0.hasRoom_least _ room_1 (by decide +kernel) (by decide +kernel) (by decide +kernel) (by decide +kernel) (by decide +kernel) (by decide +kernel)
theorem allAtoms_all (ts : List Jvm.Cond) (a : Array Jvm.Value) (st : Jvm.State) : (allAtoms ts).before a st = ts.all (fun c => c.before a st) := by
  induction ts with
  | nil => rfl
  | cons c t ih =>
    show (Jvm.Cond.and c (allAtoms t)).before a st = _
    rw [Jvm.Cond.before_and, ih, List.all_cons]
def words1 : List Jvm.Cond := Jvm.Cond.code x code maxLocals ret :: tables_1
/-- a 'code' word, met by the world's own term for the bytes: nothing is compared byte by byte -/
theorem code_word {y : MethodName} {bytes : ByteArray} {mx : Nat} {rt : Option FieldType} {a : Array Value} {s : State} {m : MethodId} {meth : Method} {c : Code} (h1 : s.methodNamed? y = some m) (h2 : s.vm.method? m = some meth) (h3 : meth.code = some c) (h4 : c.code = bytes)
    (h5 : (c.maxLocals == mx && c.exceptionTable.isEmpty && decide (c.maxStack ≤ mostOperands) && decide (meth.sig.returnType = rt) && !meth.locks && decide (parseMethodDescriptor y.desc = some meth.sig)) = true) : (Jvm.Cond.code y bytes mx rt).before a s = true := by
  simp only [Bool.and_eq_true, beq_iff_eq, Bool.not_eq_true', decide_eq_true_eq] at h5
  obtain ⟨⟨⟨⟨⟨g1, g2⟩, g3⟩, g4⟩, g5⟩, g6⟩ := h5
  simp [Cond.before, Cond.holds, Cond.value, h1, h2, h3, h4, g1, g2, g3, g4, g5, g6]
def isCode : Jvm.Cond → Bool
  | .code _ _ _ _ => true
  | _ => false
theorem all_split {L : List Jvm.Cond} {P : Jvm.Cond → Bool} (h1 : L.all (fun c => isCode c || P c) = true) (h2 : ∀ c ∈ L.filter isCode, P c = true) : L.all P = true := by
  refine List.all_eq_true.mpr fun c hc => ?_
  have h := List.all_eq_true.mp h1 c hc
  rcases Bool.eq_false_or_eq_true (isCode c) with hi | hi
  · exact h2 c (List.mem_filter.mpr ⟨hc, hi⟩)
  · simpa [hi] using h
set_option maxRecDepth 65536 in
theorem w_c0 : (Jvm.Cond.code x code maxLocals ret).before args0 about1 = true := code_word (m := ⟨1, 1⟩) (meth := k1m1) (c := k1c1) (by decide +kernel) rfl rfl rfl (by decide +kernel)
set_option maxRecDepth 65536 in
theorem w_c1 : (Jvm.Cond.code ({ cls := "com/example/wayfold/wayfold/search/TripProblem", name := "stopAt", desc := "([II)I" } : Jvm.MethodName) prog_74_method_16_code (2 : Nat) (Option.some Jvm.ClassFile.FieldType.int)).before args0 about1 = true := code_word (m := ⟨2, 0⟩) (meth := k2m0) (c := k2c0) (by decide +kernel) rfl rfl rfl (by decide +kernel)
def codes1 : List Jvm.Cond := [Jvm.Cond.code x code maxLocals ret, Jvm.Cond.code ({ cls := "com/example/wayfold/wayfold/search/TripProblem", name := "stopAt", desc := "([II)I" } : Jvm.MethodName) prog_74_method_16_code (2 : Nat) (Option.some Jvm.ClassFile.FieldType.int)]
set_option maxRecDepth 65536 in
theorem codes_eq : words1.filter isCode = codes1 := rfl
theorem w_codes : ∀ c ∈ words1.filter isCode, c.before args0 about1 = true := by
  rw [codes_eq]
  intro c hc
  simp only [codes1, List.mem_cons, List.not_mem_nil, or_false] at hc
  rcases hc with rfl | rfl
  · exact w_c0
  · exact w_c1
set_option maxRecDepth 65536 in
theorem w_t1 : words1.all (fun c => isCode c || c.before args0 about1) = true := by decide +kernel
theorem w_tables : (allAtoms (Jvm.Cond.code x code maxLocals ret :: tables_1)).before args0 about1 = true := by
  rw [allAtoms_all]
  show words1.all (fun c => c.before args0 about1) = true
  refine all_split ?_ w_codes
  rw [w_t1]
set_option maxRecDepth 65536 in
theorem w_case : (Jvm.Cond.and given_1 narrow_1).before args0 about1 = true := by decide +kernel
theorem w_applies : (headSpec (Jvm.Cond.code x code maxLocals ret :: tables_1) room_1).applies x e0.platform about1 = true :=
  (Spec.applies_iff w_frames).mpr ⟨w_running, w_runnable, w_alone, w_named, w_hears, w_ripe, w_room, w_tables⟩
theorem atStart : AtStart classFile x code maxLocals ret World_1 tables_1 room_1 Calls_1 rest_1 Pre_1 launch0 p0 e0 about1 theMethod args0 below0 :=
  ⟨lists_1, trivial, launch0.admits_env _ _ _, launch0.least_env, fairChoices_fair.cas, fairChoices_fair.clock, w_frames, w_args, w_heap, w_applies, trivial, trivial, w_case⟩
end start1
theorem witness_1 : WitnessClaimed_1 := ⟨start1.p0, start1.e0, start1.about1, start1.theMethod, start1.args0, start1.below0, start1.atStart⟩
end Jvm.Pilot.@@N@@
