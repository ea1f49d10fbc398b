import JvmDerived
import JvmDerived.Pilot.@@N@@Statement
import JvmDerived.Pilot.@@N@@Code
set_option linter.unusedVariables false
set_option linter.unusedSimpArgs false
namespace Jvm.RoadKit
open Sem ClassFile Op Lib Jvm.Stand Jvm.Free Jvm.LawKit
section New
variable {p : Program} {l : Launch} {e : Env} {R : Room} {s : State} {m : MethodId} {args : Array Value} {below : List Frame} {meth : Method} {c : Code} {T : State} {locs : List Loc} {cells slots : Nat}
theorem retI (X : Stand p l e R s m args below meth c T locs cells slots) (hx : p.tables.exec = Jvm.exec) {pc : Nat} {Ls : Array Slot} {z : Int32} {rest : List Value} (hret : meth.sig.returnType = some .int) (hd : decode c.code pc = .ok (.ireturn, 1)) {fs : List Frame}
    (hl : ∀ (f : JFrame) (acts : List Action), f.method = m → f.locked = none → f.entered = [] → (doReturn e (T.setTop f) acts (some (.int z))).1 = T.setFrames fs) : Steps p.tables e below (T.setTop (mkF m pc Ls (.int z :: rest))) (T.setFrames fs) := by
  have hm' : T.vm.method? m = some meth := X.method'
  have hn : narrow .int (.int z) = .int z := rfl
  show Steps p.tables e below (T.setTop { method := m, pc := pc, locals := Ls, stack := _ :: rest, locked := none }) _
  jvm_step X.here [X.here.top, hx, hd, hm', hret, hn]
  first | (intro acts; rw [hl _ acts rfl rfl rfl]) | rw [hl _ _ rfl rfl rfl]
  exact Steps.refl _
end New
end Jvm.RoadKit
namespace Jvm.Pilot.@@N@@
open Jvm Jvm.ClassFile Sem Op Lib Jvm.Free Jvm.Stand Jvm.LawKit Jvm.RoadKit Bundle Jvm.Pilot.@@N@@.Jvm.D
/-! OWN KIT: a walk's goal that can be forked and joined -/
section OwnKit
variable {p : Program} {l : Launch} {e : Env} {R : Room} {s : State} {m : MethodId} {args : Array Value} {below : List Frame} {meth : Method} {c : Code} {T : State} {locs : List Loc} {cells slots : Nat}
/-- from the state st the run comes to its end, having returned v over the heap and the places of which F speaks -/
def own_End (p : Program) (e : Env) (below : List Frame) (s st : State) (F : Option Value → Heap → List Loc → Prop) (k n : Nat) : Prop :=
  ∃ s₂ o, Steps p.tables e below st s₂ ∧ s₂.status = .running ∧ Ended s₂ below o ∧ ∃ v L, o = .returned v ∧ F v s₂.heap L ∧ FrameEnd s o s₂ L k n
theorem own_go {st st' : State} {F : Option Value → Heap → List Loc → Prop} {k n : Nat} (h : ∀ t, Steps p.tables e below st' t → Steps p.tables e below st t) (q : own_End p e below s st' F k n) : own_End p e below s st F k n := by
  obtain ⟨s₂, o, h1, h2⟩ := q
  exact ⟨s₂, o, h _ h1, h2⟩
theorem own_ret (X : Stand p l e R s m args below meth c T locs cells slots) {v : Option Value} {g : JFrame} {F : Option Value → Heap → List Loc → Prop} {k n : Nat} (hv : meth.sig.returnType = none → v = none) (hlocks : meth.locks = false)
    (hst : ∀ fs, (∀ (f : JFrame) (acts : List Action), f.method = m → f.locked = none → f.entered = [] → (doReturn e (T.setTop f) acts v).1 = T.setFrames fs) → Steps p.tables e below (T.setTop g) (T.setFrames fs))
    (hF : F v T.heap locs) (hc : cells ≤ k) (hs : slots ≤ n) : own_End p e below s (T.setTop g) F k n := by
  obtain ⟨fs, hr, hrun, hended, hW, hsame⟩ := X.leave (v := v) hv hlocks
  exact ⟨_, _, hst fs hr, hrun, hended, _, _, rfl, hF, ⟨_, rfl⟩, hW, hsame.mono hc hs⟩
/-- the same, where a String constant may have been booked meanwhile -/
def own_EndW (p : Program) (e : Env) (below : List Frame) (s st : State) (F : Option Value → Heap → List Loc → Prop) (k n : Nat) : Prop :=
  ∃ s₂ o, Steps p.tables e below st s₂ ∧ s₂.status = .running ∧ Ended s₂ below o ∧ ∃ v L, o = .returned v ∧ F v s₂.heap L ∧ ReturnedEndW s o s₂ L k n
theorem own_goW {st st' : State} {F : Option Value → Heap → List Loc → Prop} {k n : Nat} (h : ∀ t, Steps p.tables e below st' t → Steps p.tables e below st t) (q : own_EndW p e below s st' F k n) : own_EndW p e below s st F k n := by
  obtain ⟨s₂, o, h1, h2⟩ := q
  exact ⟨s₂, o, h _ h1, h2⟩
theorem own_retW {vm₁ : Vm} (X : Stand p l e R (s.setVm vm₁) m args below meth c T locs cells slots) {n' : Nat} (hS : s.Since vm₁ n') (hn : n' ≤ T.heap.size) {v : Option Value} {g : JFrame} {F : Option Value → Heap → List Loc → Prop} {k n : Nat} (hv : meth.sig.returnType = none → v = none) (hlocks : meth.locks = false)
    (hst : ∀ fs, (∀ (f : JFrame) (acts : List Action), f.method = m → f.locked = none → f.entered = [] → (doReturn e (T.setTop f) acts v).1 = T.setFrames fs) → Steps p.tables e below (T.setTop g) (T.setFrames fs))
    (hF : F v T.heap locs) (hc : cells ≤ k) (hs : slots ≤ n) : own_EndW p e below s (T.setTop g) F k n := by
  obtain ⟨fs, hr, hrun, hended, hW⟩ := X.leaveW hS hn (v := v) hv hlocks
  exact ⟨_, _, hst fs hr, hrun, hended, _, _, rfl, hF, hW.1, hW.2.1, hW.2.2.1, hW.2.2.2.mono hc hs⟩
/-- the places written so far, by a name alone -/
theorem own_abs (X : Stand p l e R s m args below meth c T locs cells slots) {k : Nat} (N : Fr k locs) : ∃ ls, Stand p l e R s m args below meth c T ls cells slots ∧ Fr k ls := ⟨_, X, N⟩
theorem own_retJ (X : Stand p l e R s m args below meth c T locs cells slots) (hx : p.tables.exec = Jvm.exec) {pc : Nat} {Ls : Array Slot} {z : Int64} {rest : List Value} (hret : meth.sig.returnType = some .long) (hd : decode c.code pc = .ok (.lreturn, 1)) {fs : List Frame}
    (hl : ∀ (f : JFrame) (acts : List Action), f.method = m → f.locked = none → f.entered = [] → (doReturn e (T.setTop f) acts (some (.long z))).1 = T.setFrames fs) : Steps p.tables e below (T.setTop (mkF m pc Ls (.long z :: rest))) (T.setFrames fs) := by
  have hm' : T.vm.method? m = some meth := X.method'
  have hn : narrow .long (.long z) = .long z := rfl
  show Steps p.tables e below (T.setTop { method := m, pc := pc, locals := Ls, stack := _ :: rest, locked := none }) _
  jvm_step X.here [X.here.top, hx, hd, hm', hret, hn]
  first | (intro acts; rw [hl _ acts rfl rfl rfl]) | rw [hl _ _ rfl rfl rfl]
  exact Steps.refl _
theorem own_retD (X : Stand p l e R s m args below meth c T locs cells slots) (hx : p.tables.exec = Jvm.exec) {pc : Nat} {Ls : Array Slot} {z : UInt64} {rest : List Value} (hret : meth.sig.returnType = some .double) (hd : decode c.code pc = .ok (.dreturn, 1)) {fs : List Frame}
    (hl : ∀ (f : JFrame) (acts : List Action), f.method = m → f.locked = none → f.entered = [] → (doReturn e (T.setTop f) acts (some (.double z))).1 = T.setFrames fs) : Steps p.tables e below (T.setTop (mkF m pc Ls (.double z :: rest))) (T.setFrames fs) := by
  have hm' : T.vm.method? m = some meth := X.method'
  have hn : narrow .double (.double z) = .double z := rfl
  show Steps p.tables e below (T.setTop { method := m, pc := pc, locals := Ls, stack := _ :: rest, locked := none }) _
  jvm_step X.here [X.here.top, hx, hd, hm', hret, hn]
  first | (intro acts; rw [hl _ acts rfl rfl rfl]) | rw [hl _ _ rfl rfl rfl]
  exact Steps.refl _
theorem own_tlt {x y : Int32} {i j : Int} (hx : x.toInt = i) (hy : y.toInt = j) (h : i < j) : if_icmp.holds .lt x y = true ∧ if_icmp.holds .ge x y = false ∧ if_icmp.holds .gt y x = true ∧ if_icmp.holds .le y x = false :=
  tlt (by rw [Int32.lt_iff_toInt_lt, hx, hy]; exact h)
theorem own_flt {x y : Int32} {i j : Int} (hx : x.toInt = i) (hy : y.toInt = j) (h : ¬ i < j) : if_icmp.holds .lt x y = false ∧ if_icmp.holds .ge x y = true ∧ if_icmp.holds .gt y x = false ∧ if_icmp.holds .le y x = true :=
  flt (by rw [Int32.lt_iff_toInt_lt, hx, hy]; exact h)
theorem own_eq {x y : Int32} {i j : Int} (hx : x.toInt = i) (hy : y.toInt = j) (h : i = j) : if_icmp.holds .eq x y = true ∧ if_icmp.holds .ne x y = false :=
  teq (Int32.toInt_inj.mp (by rw [hx, hy]; exact h))
theorem own_ne {x y : Int32} {i j : Int} (hx : x.toInt = i) (hy : y.toInt = j) (h : ¬ i = j) : if_icmp.holds .eq x y = false ∧ if_icmp.holds .ne x y = true :=
  feq (fun q => h (by rw [← hx, ← hy, q]))
theorem own_Llt {x y : Int64} {i j : Int} (hx : x.toInt = i) (hy : y.toInt = j) (h : i < j) : if_icmp.holds .lt (lcmpW x y) 0 = true ∧ if_icmp.holds .ge (lcmpW x y) 0 = false ∧ if_icmp.holds .gt 0 (lcmpW x y) = true ∧ if_icmp.holds .le 0 (lcmpW x y) = false :=
  tlt ((lw_lt x y).mpr (by rw [Int64.lt_iff_toInt_lt, hx, hy]; exact h))
theorem own_Llf {x y : Int64} {i j : Int} (hx : x.toInt = i) (hy : y.toInt = j) (h : ¬ i < j) : if_icmp.holds .lt (lcmpW x y) 0 = false ∧ if_icmp.holds .ge (lcmpW x y) 0 = true ∧ if_icmp.holds .gt 0 (lcmpW x y) = false ∧ if_icmp.holds .le 0 (lcmpW x y) = true :=
  flt (fun q => h (by have := (lw_lt x y).mp q; rw [Int64.lt_iff_toInt_lt, hx, hy] at this; exact this))
theorem own_Lgt {x y : Int64} {i j : Int} (hy : y.toInt = j) (hx : x.toInt = i) (h : j < i) : if_icmp.holds .lt 0 (lcmpW x y) = true ∧ if_icmp.holds .ge 0 (lcmpW x y) = false ∧ if_icmp.holds .gt (lcmpW x y) 0 = true ∧ if_icmp.holds .le (lcmpW x y) 0 = false :=
  tlt ((lw_gt x y).mpr (by rw [Int64.lt_iff_toInt_lt, hx, hy]; exact h))
theorem own_Lgf {x y : Int64} {i j : Int} (hy : y.toInt = j) (hx : x.toInt = i) (h : ¬ j < i) : if_icmp.holds .lt 0 (lcmpW x y) = false ∧ if_icmp.holds .ge 0 (lcmpW x y) = true ∧ if_icmp.holds .gt (lcmpW x y) 0 = false ∧ if_icmp.holds .le (lcmpW x y) 0 = true :=
  flt (fun q => h (by have := (lw_gt x y).mp q; rw [Int64.lt_iff_toInt_lt, hx, hy] at this; exact this))
theorem own_Let {x y : Int64} {i j : Int} (hx : x.toInt = i) (hy : y.toInt = j) (h : i = j) : if_icmp.holds .eq (lcmpW x y) 0 = true ∧ if_icmp.holds .ne (lcmpW x y) 0 = false :=
  teq ((lw_eq x y).mpr (Int64.toInt_inj.mp (by rw [hx, hy]; exact h)))
theorem own_Lef {x y : Int64} {i j : Int} (hx : x.toInt = i) (hy : y.toInt = j) (h : ¬ i = j) : if_icmp.holds .eq (lcmpW x y) 0 = false ∧ if_icmp.holds .ne (lcmpW x y) 0 = true :=
  feq (fun q => h (by rw [← hx, ← hy, (lw_eq x y).mp q]))
/-- (turned from the worked claim gauge-weight) the model's own selection picks a private method itself -/
theorem own_selP {y : MethodName} {s : State} {args : Array Value} {n : Nat} (hy : y.cls ≠ "java/lang/invoke/MethodHandle" ∧ y.cls ≠ "java/lang/invoke/VarHandle") (hins : (Cond.instantiable y.cls n).before args s = true) (hpriv : (Cond.privateMethod y).before args s = true) (hinst : (Cond.instanceMethod y).before args s = true) :
    (Cond.selects y.cls y y).before args s = true := by
  obtain ⟨c, k, hc, hk, -, hniab, -, -⟩ := Cond.instantiable_spec hins
  have hni : k.isInterface = false := (Bool.or_eq_false_iff.mp hniab).1
  obtain ⟨mk, methM, hnamed, hmethM, -, -⟩ := Cond.instanceMethod_spec hinst
  have hfound : s.methodFound? y.cls y.name y.desc = some mk := State.methodFound?_of_named hnamed hy
  have hcls : mk.cls = c := Option.some.inj ((findClass_of_methodNamed hnamed).symm.trans hc)
  have hsel : selectMethod {} s.vm c mk = .method mk := selectMethod_private hmethM (Cond.privateMethod_at hpriv mk methM hnamed hmethM)
  simp only [Cond.before, Cond.holds, Cond.value, hc, hfound, hnamed, hsel, hcls, hk]
  simp; exact hni
end OwnKit
theorem own_getD (vs : List Int32) (k : Nat) : ∃ w, (vs.map Value.int).getD k (.int (0 : Int32)) = .int w := by
  induction vs generalizing k with
  | nil => exact ⟨0, rfl⟩
  | cons a t ih =>
    cases k with
    | zero => exact ⟨a, rfl⟩
    | succ k => exact ih k
def own_OK (x : Int) : Prop := x = 9 ∨ x = 10 ∨ x = 13 ∨ (32 ≤ x ∧ x ≤ 55295) ∨ (57344 ≤ x ∧ x ≤ 65533) ∨ (65536 ≤ x ∧ x ≤ 1114111)
theorem own_not {a b : Int} {P : Prop} (h1 : a = 1 ∧ P ∨ a = 0 ∧ ¬ P) (h2 : b = 0 ∧ P ∨ b = 1 ∧ ¬ P) : (b = 0 → a = 1) ∧ (¬ b = 0 → a = 0) := by
  rcases h1 with ⟨h1, q1⟩ | ⟨h1, q1⟩ <;> rcases h2 with ⟨h2, q2⟩ | ⟨h2, q2⟩
  · exact ⟨fun _ => h1, fun q => absurd h2 q⟩
  · exact absurd q1 q2
  · exact absurd q2 q1
  · exact ⟨fun q => by omega, fun _ => h1⟩
theorem own_pn0 : plainName "com/example/borough_wire/boroughwire/wire/XmlWriter" = true := by first | (simp [plainName, overriddenIn]; done) | decide +kernel
theorem own_ef1_rm1 (m : MethodId) (p0 : Int32) : entryFrame m #[(.int p0)] 1 = mkF m 0 #[.val (.int p0)] [] := by first | (simp [entryFrame, mkF, argsToLocals, Value.category]; done) | rfl
def Q_rm1 (Z : State) (p0 : Int32)  (h0 : Heap) (n0 : Nat) (v : Option Value) (h : Heap) (L : List Loc) : Prop := (∃ z, v = some (.int z) ∧ (z.toInt = 1 ∧ (own_OK p0.toInt) ∨ z.toInt = 0 ∧ ¬ (own_OK p0.toInt))) ∧ Fr n0 L ∧ h = h0
theorem d1_0 : decode prog_121_method_14_code 0 = .ok (.iload_n 0, 1) := by decide +kernel
theorem d1_1 : decode prog_121_method_14_code 1 = .ok (.bipush 9, 2) := by decide +kernel
theorem d1_3 : decode prog_121_method_14_code 3 = .ok (.if_icmp .eq 51, 3) := by decide +kernel
theorem d1_54 : decode prog_121_method_14_code 54 = .ok (.iconst 1, 1) := by decide +kernel
theorem d1_55 : decode prog_121_method_14_code 55 = .ok (.goto 4, 3) := by decide +kernel
theorem d1_59 : decode prog_121_method_14_code 59 = .ok (.ireturn, 1) := by decide +kernel
theorem d1_6 : decode prog_121_method_14_code 6 = .ok (.iload_n 0, 1) := by decide +kernel
theorem d1_7 : decode prog_121_method_14_code 7 = .ok (.bipush 10, 2) := by decide +kernel
theorem d1_9 : decode prog_121_method_14_code 9 = .ok (.if_icmp .eq 45, 3) := by decide +kernel
theorem d1_12 : decode prog_121_method_14_code 12 = .ok (.iload_n 0, 1) := by decide +kernel
theorem d1_13 : decode prog_121_method_14_code 13 = .ok (.bipush 13, 2) := by decide +kernel
theorem d1_15 : decode prog_121_method_14_code 15 = .ok (.if_icmp .eq 39, 3) := by decide +kernel
theorem d1_18 : decode prog_121_method_14_code 18 = .ok (.iload_n 0, 1) := by decide +kernel
theorem d1_19 : decode prog_121_method_14_code 19 = .ok (.bipush 32, 2) := by decide +kernel
theorem d1_21 : decode prog_121_method_14_code 21 = .ok (.if_icmp .lt 9, 3) := by decide +kernel
theorem d1_30 : decode prog_121_method_14_code 30 = .ok (.iload_n 0, 1) := by decide +kernel
theorem d1_31 : decode prog_121_method_14_code 31 = .ok (.ldc 222, 2) := by decide +kernel
theorem d1_33 : decode prog_121_method_14_code 33 = .ok (.if_icmp .lt 9, 3) := by decide +kernel
theorem d1_42 : decode prog_121_method_14_code 42 = .ok (.iload_n 0, 1) := by decide +kernel
theorem d1_43 : decode prog_121_method_14_code 43 = .ok (.ldc 224, 2) := by decide +kernel
theorem d1_45 : decode prog_121_method_14_code 45 = .ok (.if_icmp .lt 13, 3) := by decide +kernel
theorem d1_58 : decode prog_121_method_14_code 58 = .ok (.iconst 0, 1) := by decide +kernel
theorem d1_48 : decode prog_121_method_14_code 48 = .ok (.iload_n 0, 1) := by decide +kernel
theorem d1_49 : decode prog_121_method_14_code 49 = .ok (.ldc 225, 2) := by decide +kernel
theorem d1_51 : decode prog_121_method_14_code 51 = .ok (.if_icmp .gt 7, 3) := by decide +kernel
theorem d1_36 : decode prog_121_method_14_code 36 = .ok (.iload_n 0, 1) := by decide +kernel
theorem d1_37 : decode prog_121_method_14_code 37 = .ok (.ldc 223, 2) := by decide +kernel
theorem d1_39 : decode prog_121_method_14_code 39 = .ok (.if_icmp .le 15, 3) := by decide +kernel
theorem d1_24 : decode prog_121_method_14_code 24 = .ok (.iload_n 0, 1) := by decide +kernel
theorem d1_25 : decode prog_121_method_14_code 25 = .ok (.ldc 221, 2) := by decide +kernel
theorem d1_27 : decode prog_121_method_14_code 27 = .ok (.if_icmp .le 27, 3) := by decide +kernel
set_option maxRecDepth 65536 in
set_option maxHeartbeats 40000000 in
theorem rm1 (l : Launch) (Z : State) (a0 : Array Value) (hw : ∀ d ∈ tables_1, d.before a0 Z = true) (ws : List Jvm.Cond) (p0 : Int32)  (h0 : Heap) (n0 : Nat) (Z0 : n0 ≤ h0.size)  :
    MetFree l (⟨"com/example/borough_wire/boroughwire/wire/XmlWriter", "isXmlChar", "(I)Z"⟩ : MethodName) (head1 (Jvm.Cond.code (⟨"com/example/borough_wire/boroughwire/wire/XmlWriter", "isXmlChar", "(I)Z"⟩ : MethodName) prog_121_method_14_code 1 (some .boolean) :: ws) ({ frames := 0, cells := 0, slots := 0, locals := 0 } : Room)) (fun a U => a = #[(.int p0)] ∧ Z.Warmed39 U.vm ∧ U.heap = h0) (fun _ _ _ _ _ => True) (fun _ U o U' => ∃ v L, o = .returned v ∧ Q_rm1 Z p0  h0 n0 v U'.heap L ∧ FrameEnd U o U' L ({ frames := 0, cells := 0, slots := 0, locals := 0 } : Room).cells ({ frames := 0, cells := 0, slots := 0, locals := 0 } : Room).slots) := by
  refine MetFree.of_bodySF (plainFor_of_name own_pn0) hisR ?_
  intro p e s m args below meth c s₁ Bd hml0 hP hK
  obtain ⟨rfl, hZ, hh⟩ := hP
  have hx := Bd.exec
  have hby := Bd.bytes
  have hml : c.maxLocals = 1 := hml0
  have hown : s.vm.findClass "com/example/borough_wire/boroughwire/wire/XmlWriter" = some m.cls := findClass_of_methodNamed Bd.named
  have hnm := (name_of_methodNamed Bd.named Bd.method).1
  have X0 : Stand p l e ({ frames := 0, cells := 0, slots := 0, locals := 0 } : Room) s m #[(.int p0)] below meth c s₁ [] 0 0 := Stand.of_body Bd
  have e0 : s₁.heap = h0 := by rw [← hh, Bd.state]; rfl
  have N0 := Fr.nil n0
  refine (show own_End p e below s (s₁.setTop (entryFrame m #[(.int p0)] 1)) (Q_rm1 Z p0  h0 n0) ({ frames := 0, cells := 0, slots := 0, locals := 0 } : Room).cells ({ frames := 0, cells := 0, slots := 0, locals := 0 } : Room).slots from ?_)
  refine own_go (fun τ κ => castTop (own_ef1_rm1 m p0) κ) ?_
  have li0 : (0 : Int32).toInt = 0 := rfl
  have li1 : (1 : Int32).toInt = 1 := rfl
  show own_End p e below s (s₁.setTop (mkF m 0 #[.val (.int p0)] [])) _ _ _
  refine own_go (fun τ κ => XS.iloadN X0.here hx rfl (hb hby d1_0) rfl κ) ?_
  show own_End p e below s (s₁.setTop (mkF m 1 #[.val (.int p0)] [(.int p0)])) _ _ _
  refine own_go (fun τ κ => XS.bipush X0.here hx rfl (hb hby d1_1) κ) ?_
  show own_End p e below s (s₁.setTop (mkF m 3 #[.val (.int p0)] [(.int (9 : Int32)), (.int p0)])) _ _ _
  by_cases c3_1 : p0.toInt = 9
  · skip
    refine own_go (fun τ κ => XS.icmpYes X0.here hx rfl (pc0 := 3) (pc' := 54) rfl (hb hby d1_3) rfl (own_eq (x := p0) (y := (9 : Int32)) (i := p0.toInt) (j := 9) rfl rfl c3_1).1 (by decide) (by decide) κ) ?_
    show own_End p e below s (s₁.setTop (mkF m 54 #[.val (.int p0)] [])) _ _ _
    refine own_go (fun τ κ => XS.iconst X0.here hx rfl (hb hby d1_54) κ) ?_
    show own_End p e below s (s₁.setTop (mkF m 55 #[.val (.int p0)] [(.int (1 : Int32))])) _ _ _
    refine own_go (fun τ κ => XS.goto X0.here hx rfl (pc0 := 55) (pc' := 59) rfl (hb hby d1_55) (by decide) (by decide) κ) ?_
    show own_End p e below s (s₁.setTop (mkF m 59 #[.val (.int p0)] [(.int (1 : Int32))])) _ _ _
    refine own_ret X0 (v := some (.int (1 : Int32))) (fun h => by rw [Bd.returns] at h; cases h) Bd.notSynchronized (fun fs hr => retN X0 hx (t := .boolean) Bd.returns (by simp) (hb hby d1_59) hr) ?_ (by decide) (by decide)
    · rw [e0]; exact ⟨⟨_, rfl, Or.inl ⟨rfl, (show own_OK _ from (show _ ∨ _ ∨ _ ∨ _ ∨ _ ∨ _ from by omega))⟩⟩, N0, rfl⟩
  · skip
    refine own_go (fun τ κ => XS.icmpNo X0.here hx rfl (hb hby d1_3) rfl (own_ne (x := p0) (y := (9 : Int32)) (i := p0.toInt) (j := 9) rfl rfl c3_1).1 κ) ?_
    show own_End p e below s (s₁.setTop (mkF m 6 #[.val (.int p0)] [])) _ _ _
    refine own_go (fun τ κ => XS.iloadN X0.here hx rfl (hb hby d1_6) rfl κ) ?_
    show own_End p e below s (s₁.setTop (mkF m 7 #[.val (.int p0)] [(.int p0)])) _ _ _
    refine own_go (fun τ κ => XS.bipush X0.here hx rfl (hb hby d1_7) κ) ?_
    show own_End p e below s (s₁.setTop (mkF m 9 #[.val (.int p0)] [(.int (10 : Int32)), (.int p0)])) _ _ _
    by_cases c9_2 : p0.toInt = 10
    · skip
      refine own_go (fun τ κ => XS.icmpYes X0.here hx rfl (pc0 := 9) (pc' := 54) rfl (hb hby d1_9) rfl (own_eq (x := p0) (y := (10 : Int32)) (i := p0.toInt) (j := 10) rfl rfl c9_2).1 (by decide) (by decide) κ) ?_
      show own_End p e below s (s₁.setTop (mkF m 54 #[.val (.int p0)] [])) _ _ _
      refine own_go (fun τ κ => XS.iconst X0.here hx rfl (hb hby d1_54) κ) ?_
      show own_End p e below s (s₁.setTop (mkF m 55 #[.val (.int p0)] [(.int (1 : Int32))])) _ _ _
      refine own_go (fun τ κ => XS.goto X0.here hx rfl (pc0 := 55) (pc' := 59) rfl (hb hby d1_55) (by decide) (by decide) κ) ?_
      show own_End p e below s (s₁.setTop (mkF m 59 #[.val (.int p0)] [(.int (1 : Int32))])) _ _ _
      refine own_ret X0 (v := some (.int (1 : Int32))) (fun h => by rw [Bd.returns] at h; cases h) Bd.notSynchronized (fun fs hr => retN X0 hx (t := .boolean) Bd.returns (by simp) (hb hby d1_59) hr) ?_ (by decide) (by decide)
      · rw [e0]; exact ⟨⟨_, rfl, Or.inl ⟨rfl, (show own_OK _ from (show _ ∨ _ ∨ _ ∨ _ ∨ _ ∨ _ from by omega))⟩⟩, N0, rfl⟩
    · skip
      refine own_go (fun τ κ => XS.icmpNo X0.here hx rfl (hb hby d1_9) rfl (own_ne (x := p0) (y := (10 : Int32)) (i := p0.toInt) (j := 10) rfl rfl c9_2).1 κ) ?_
      show own_End p e below s (s₁.setTop (mkF m 12 #[.val (.int p0)] [])) _ _ _
      refine own_go (fun τ κ => XS.iloadN X0.here hx rfl (hb hby d1_12) rfl κ) ?_
      show own_End p e below s (s₁.setTop (mkF m 13 #[.val (.int p0)] [(.int p0)])) _ _ _
      refine own_go (fun τ κ => XS.bipush X0.here hx rfl (hb hby d1_13) κ) ?_
      show own_End p e below s (s₁.setTop (mkF m 15 #[.val (.int p0)] [(.int (13 : Int32)), (.int p0)])) _ _ _
      by_cases c15_3 : p0.toInt = 13
      · skip
        refine own_go (fun τ κ => XS.icmpYes X0.here hx rfl (pc0 := 15) (pc' := 54) rfl (hb hby d1_15) rfl (own_eq (x := p0) (y := (13 : Int32)) (i := p0.toInt) (j := 13) rfl rfl c15_3).1 (by decide) (by decide) κ) ?_
        show own_End p e below s (s₁.setTop (mkF m 54 #[.val (.int p0)] [])) _ _ _
        refine own_go (fun τ κ => XS.iconst X0.here hx rfl (hb hby d1_54) κ) ?_
        show own_End p e below s (s₁.setTop (mkF m 55 #[.val (.int p0)] [(.int (1 : Int32))])) _ _ _
        refine own_go (fun τ κ => XS.goto X0.here hx rfl (pc0 := 55) (pc' := 59) rfl (hb hby d1_55) (by decide) (by decide) κ) ?_
        show own_End p e below s (s₁.setTop (mkF m 59 #[.val (.int p0)] [(.int (1 : Int32))])) _ _ _
        refine own_ret X0 (v := some (.int (1 : Int32))) (fun h => by rw [Bd.returns] at h; cases h) Bd.notSynchronized (fun fs hr => retN X0 hx (t := .boolean) Bd.returns (by simp) (hb hby d1_59) hr) ?_ (by decide) (by decide)
        · rw [e0]; exact ⟨⟨_, rfl, Or.inl ⟨rfl, (show own_OK _ from (show _ ∨ _ ∨ _ ∨ _ ∨ _ ∨ _ from by omega))⟩⟩, N0, rfl⟩
      · skip
        refine own_go (fun τ κ => XS.icmpNo X0.here hx rfl (hb hby d1_15) rfl (own_ne (x := p0) (y := (13 : Int32)) (i := p0.toInt) (j := 13) rfl rfl c15_3).1 κ) ?_
        show own_End p e below s (s₁.setTop (mkF m 18 #[.val (.int p0)] [])) _ _ _
        refine own_go (fun τ κ => XS.iloadN X0.here hx rfl (hb hby d1_18) rfl κ) ?_
        show own_End p e below s (s₁.setTop (mkF m 19 #[.val (.int p0)] [(.int p0)])) _ _ _
        refine own_go (fun τ κ => XS.bipush X0.here hx rfl (hb hby d1_19) κ) ?_
        show own_End p e below s (s₁.setTop (mkF m 21 #[.val (.int p0)] [(.int (32 : Int32)), (.int p0)])) _ _ _
        by_cases c21_4 : p0.toInt < 32
        · skip
          refine own_go (fun τ κ => XS.icmpYes X0.here hx rfl (pc0 := 21) (pc' := 30) rfl (hb hby d1_21) rfl (own_tlt (x := p0) (y := (32 : Int32)) (i := p0.toInt) (j := 32) rfl rfl c21_4).1 (by decide) (by decide) κ) ?_
          show own_End p e below s (s₁.setTop (mkF m 30 #[.val (.int p0)] [])) _ _ _
          refine own_go (fun τ κ => XS.iloadN X0.here hx rfl (hb hby d1_30) rfl κ) ?_
          show own_End p e below s (s₁.setTop (mkF m 31 #[.val (.int p0)] [(.int p0)])) _ _ _
          refine own_go (fun τ κ => X0.ldcInt hx hown (mvT hZ (hw _ (List.mem_of_getElem? (i := 17) rfl))) (g := (mkF m 31 #[.val (.int p0)] [(.int p0)])) rfl (hb hby d1_31) _ κ) ?_
          show own_End p e below s (s₁.setTop (mkF m 33 #[.val (.int p0)] [(.int (57344 : Int32)), (.int p0)])) _ _ _
          by_cases c33_5 : p0.toInt < 57344
          · skip
            refine own_go (fun τ κ => XS.icmpYes X0.here hx rfl (pc0 := 33) (pc' := 42) rfl (hb hby d1_33) rfl (own_tlt (x := p0) (y := (57344 : Int32)) (i := p0.toInt) (j := 57344) rfl rfl c33_5).1 (by decide) (by decide) κ) ?_
            show own_End p e below s (s₁.setTop (mkF m 42 #[.val (.int p0)] [])) _ _ _
            refine own_go (fun τ κ => XS.iloadN X0.here hx rfl (hb hby d1_42) rfl κ) ?_
            show own_End p e below s (s₁.setTop (mkF m 43 #[.val (.int p0)] [(.int p0)])) _ _ _
            refine own_go (fun τ κ => X0.ldcInt hx hown (mvT hZ (hw _ (List.mem_of_getElem? (i := 18) rfl))) (g := (mkF m 43 #[.val (.int p0)] [(.int p0)])) rfl (hb hby d1_43) _ κ) ?_
            show own_End p e below s (s₁.setTop (mkF m 45 #[.val (.int p0)] [(.int (65536 : Int32)), (.int p0)])) _ _ _
            by_cases c45_6 : p0.toInt < 65536
            · skip
              refine own_go (fun τ κ => XS.icmpYes X0.here hx rfl (pc0 := 45) (pc' := 58) rfl (hb hby d1_45) rfl (own_tlt (x := p0) (y := (65536 : Int32)) (i := p0.toInt) (j := 65536) rfl rfl c45_6).1 (by decide) (by decide) κ) ?_
              show own_End p e below s (s₁.setTop (mkF m 58 #[.val (.int p0)] [])) _ _ _
              refine own_go (fun τ κ => XS.iconst X0.here hx rfl (hb hby d1_58) κ) ?_
              show own_End p e below s (s₁.setTop (mkF m 59 #[.val (.int p0)] [(.int (0 : Int32))])) _ _ _
              refine own_ret X0 (v := some (.int (0 : Int32))) (fun h => by rw [Bd.returns] at h; cases h) Bd.notSynchronized (fun fs hr => retN X0 hx (t := .boolean) Bd.returns (by simp) (hb hby d1_59) hr) ?_ (by decide) (by decide)
              · rw [e0]; exact ⟨⟨_, rfl, Or.inr ⟨rfl, (fun hh => by rcases hh with hh | hh | hh | hh | hh | hh <;> omega)⟩⟩, N0, rfl⟩
            · skip
              refine own_go (fun τ κ => XS.icmpNo X0.here hx rfl (hb hby d1_45) rfl (own_flt (x := p0) (y := (65536 : Int32)) (i := p0.toInt) (j := 65536) rfl rfl c45_6).1 κ) ?_
              show own_End p e below s (s₁.setTop (mkF m 48 #[.val (.int p0)] [])) _ _ _
              refine own_go (fun τ κ => XS.iloadN X0.here hx rfl (hb hby d1_48) rfl κ) ?_
              show own_End p e below s (s₁.setTop (mkF m 49 #[.val (.int p0)] [(.int p0)])) _ _ _
              refine own_go (fun τ κ => X0.ldcInt hx hown (mvT hZ (hw _ (List.mem_of_getElem? (i := 25) rfl))) (g := (mkF m 49 #[.val (.int p0)] [(.int p0)])) rfl (hb hby d1_49) _ κ) ?_
              show own_End p e below s (s₁.setTop (mkF m 51 #[.val (.int p0)] [(.int (1114111 : Int32)), (.int p0)])) _ _ _
              by_cases c51_7 : 1114111 < p0.toInt
              · skip
                refine own_go (fun τ κ => XS.icmpYes X0.here hx rfl (pc0 := 51) (pc' := 58) rfl (hb hby d1_51) rfl (own_tlt (x := (1114111 : Int32)) (y := p0) (i := 1114111) (j := p0.toInt) rfl rfl c51_7).2.2.1 (by decide) (by decide) κ) ?_
                show own_End p e below s (s₁.setTop (mkF m 58 #[.val (.int p0)] [])) _ _ _
                refine own_go (fun τ κ => XS.iconst X0.here hx rfl (hb hby d1_58) κ) ?_
                show own_End p e below s (s₁.setTop (mkF m 59 #[.val (.int p0)] [(.int (0 : Int32))])) _ _ _
                refine own_ret X0 (v := some (.int (0 : Int32))) (fun h => by rw [Bd.returns] at h; cases h) Bd.notSynchronized (fun fs hr => retN X0 hx (t := .boolean) Bd.returns (by simp) (hb hby d1_59) hr) ?_ (by decide) (by decide)
                · rw [e0]; exact ⟨⟨_, rfl, Or.inr ⟨rfl, (fun hh => by rcases hh with hh | hh | hh | hh | hh | hh <;> omega)⟩⟩, N0, rfl⟩
              · skip
                refine own_go (fun τ κ => XS.icmpNo X0.here hx rfl (hb hby d1_51) rfl (own_flt (x := (1114111 : Int32)) (y := p0) (i := 1114111) (j := p0.toInt) rfl rfl c51_7).2.2.1 κ) ?_
                show own_End p e below s (s₁.setTop (mkF m 54 #[.val (.int p0)] [])) _ _ _
                refine own_go (fun τ κ => XS.iconst X0.here hx rfl (hb hby d1_54) κ) ?_
                show own_End p e below s (s₁.setTop (mkF m 55 #[.val (.int p0)] [(.int (1 : Int32))])) _ _ _
                refine own_go (fun τ κ => XS.goto X0.here hx rfl (pc0 := 55) (pc' := 59) rfl (hb hby d1_55) (by decide) (by decide) κ) ?_
                show own_End p e below s (s₁.setTop (mkF m 59 #[.val (.int p0)] [(.int (1 : Int32))])) _ _ _
                refine own_ret X0 (v := some (.int (1 : Int32))) (fun h => by rw [Bd.returns] at h; cases h) Bd.notSynchronized (fun fs hr => retN X0 hx (t := .boolean) Bd.returns (by simp) (hb hby d1_59) hr) ?_ (by decide) (by decide)
                · rw [e0]; exact ⟨⟨_, rfl, Or.inl ⟨rfl, (show own_OK _ from (show _ ∨ _ ∨ _ ∨ _ ∨ _ ∨ _ from by omega))⟩⟩, N0, rfl⟩
          · skip
            refine own_go (fun τ κ => XS.icmpNo X0.here hx rfl (hb hby d1_33) rfl (own_flt (x := p0) (y := (57344 : Int32)) (i := p0.toInt) (j := 57344) rfl rfl c33_5).1 κ) ?_
            show own_End p e below s (s₁.setTop (mkF m 36 #[.val (.int p0)] [])) _ _ _
            refine own_go (fun τ κ => XS.iloadN X0.here hx rfl (hb hby d1_36) rfl κ) ?_
            show own_End p e below s (s₁.setTop (mkF m 37 #[.val (.int p0)] [(.int p0)])) _ _ _
            refine own_go (fun τ κ => X0.ldcInt hx hown (mvT hZ (hw _ (List.mem_of_getElem? (i := 24) rfl))) (g := (mkF m 37 #[.val (.int p0)] [(.int p0)])) rfl (hb hby d1_37) _ κ) ?_
            show own_End p e below s (s₁.setTop (mkF m 39 #[.val (.int p0)] [(.int (65533 : Int32)), (.int p0)])) _ _ _
            by_cases c39_8 : 65533 < p0.toInt
            · skip
              refine own_go (fun τ κ => XS.icmpNo X0.here hx rfl (hb hby d1_39) rfl (own_tlt (x := (65533 : Int32)) (y := p0) (i := 65533) (j := p0.toInt) rfl rfl c39_8).2.2.2 κ) ?_
              show own_End p e below s (s₁.setTop (mkF m 42 #[.val (.int p0)] [])) _ _ _
              refine own_go (fun τ κ => XS.iloadN X0.here hx rfl (hb hby d1_42) rfl κ) ?_
              show own_End p e below s (s₁.setTop (mkF m 43 #[.val (.int p0)] [(.int p0)])) _ _ _
              refine own_go (fun τ κ => X0.ldcInt hx hown (mvT hZ (hw _ (List.mem_of_getElem? (i := 18) rfl))) (g := (mkF m 43 #[.val (.int p0)] [(.int p0)])) rfl (hb hby d1_43) _ κ) ?_
              show own_End p e below s (s₁.setTop (mkF m 45 #[.val (.int p0)] [(.int (65536 : Int32)), (.int p0)])) _ _ _
              by_cases c45_9 : p0.toInt < 65536
              · skip
                refine own_go (fun τ κ => XS.icmpYes X0.here hx rfl (pc0 := 45) (pc' := 58) rfl (hb hby d1_45) rfl (own_tlt (x := p0) (y := (65536 : Int32)) (i := p0.toInt) (j := 65536) rfl rfl c45_9).1 (by decide) (by decide) κ) ?_
                show own_End p e below s (s₁.setTop (mkF m 58 #[.val (.int p0)] [])) _ _ _
                refine own_go (fun τ κ => XS.iconst X0.here hx rfl (hb hby d1_58) κ) ?_
                show own_End p e below s (s₁.setTop (mkF m 59 #[.val (.int p0)] [(.int (0 : Int32))])) _ _ _
                refine own_ret X0 (v := some (.int (0 : Int32))) (fun h => by rw [Bd.returns] at h; cases h) Bd.notSynchronized (fun fs hr => retN X0 hx (t := .boolean) Bd.returns (by simp) (hb hby d1_59) hr) ?_ (by decide) (by decide)
                · rw [e0]; exact ⟨⟨_, rfl, Or.inr ⟨rfl, (fun hh => by rcases hh with hh | hh | hh | hh | hh | hh <;> omega)⟩⟩, N0, rfl⟩
              · skip
                refine own_go (fun τ κ => XS.icmpNo X0.here hx rfl (hb hby d1_45) rfl (own_flt (x := p0) (y := (65536 : Int32)) (i := p0.toInt) (j := 65536) rfl rfl c45_9).1 κ) ?_
                show own_End p e below s (s₁.setTop (mkF m 48 #[.val (.int p0)] [])) _ _ _
                refine own_go (fun τ κ => XS.iloadN X0.here hx rfl (hb hby d1_48) rfl κ) ?_
                show own_End p e below s (s₁.setTop (mkF m 49 #[.val (.int p0)] [(.int p0)])) _ _ _
                refine own_go (fun τ κ => X0.ldcInt hx hown (mvT hZ (hw _ (List.mem_of_getElem? (i := 25) rfl))) (g := (mkF m 49 #[.val (.int p0)] [(.int p0)])) rfl (hb hby d1_49) _ κ) ?_
                show own_End p e below s (s₁.setTop (mkF m 51 #[.val (.int p0)] [(.int (1114111 : Int32)), (.int p0)])) _ _ _
                by_cases c51_10 : 1114111 < p0.toInt
                · skip
                  refine own_go (fun τ κ => XS.icmpYes X0.here hx rfl (pc0 := 51) (pc' := 58) rfl (hb hby d1_51) rfl (own_tlt (x := (1114111 : Int32)) (y := p0) (i := 1114111) (j := p0.toInt) rfl rfl c51_10).2.2.1 (by decide) (by decide) κ) ?_
                  show own_End p e below s (s₁.setTop (mkF m 58 #[.val (.int p0)] [])) _ _ _
                  refine own_go (fun τ κ => XS.iconst X0.here hx rfl (hb hby d1_58) κ) ?_
                  show own_End p e below s (s₁.setTop (mkF m 59 #[.val (.int p0)] [(.int (0 : Int32))])) _ _ _
                  refine own_ret X0 (v := some (.int (0 : Int32))) (fun h => by rw [Bd.returns] at h; cases h) Bd.notSynchronized (fun fs hr => retN X0 hx (t := .boolean) Bd.returns (by simp) (hb hby d1_59) hr) ?_ (by decide) (by decide)
                  · rw [e0]; exact ⟨⟨_, rfl, Or.inr ⟨rfl, (fun hh => by rcases hh with hh | hh | hh | hh | hh | hh <;> omega)⟩⟩, N0, rfl⟩
                · skip
                  refine own_go (fun τ κ => XS.icmpNo X0.here hx rfl (hb hby d1_51) rfl (own_flt (x := (1114111 : Int32)) (y := p0) (i := 1114111) (j := p0.toInt) rfl rfl c51_10).2.2.1 κ) ?_
                  show own_End p e below s (s₁.setTop (mkF m 54 #[.val (.int p0)] [])) _ _ _
                  refine own_go (fun τ κ => XS.iconst X0.here hx rfl (hb hby d1_54) κ) ?_
                  show own_End p e below s (s₁.setTop (mkF m 55 #[.val (.int p0)] [(.int (1 : Int32))])) _ _ _
                  refine own_go (fun τ κ => XS.goto X0.here hx rfl (pc0 := 55) (pc' := 59) rfl (hb hby d1_55) (by decide) (by decide) κ) ?_
                  show own_End p e below s (s₁.setTop (mkF m 59 #[.val (.int p0)] [(.int (1 : Int32))])) _ _ _
                  refine own_ret X0 (v := some (.int (1 : Int32))) (fun h => by rw [Bd.returns] at h; cases h) Bd.notSynchronized (fun fs hr => retN X0 hx (t := .boolean) Bd.returns (by simp) (hb hby d1_59) hr) ?_ (by decide) (by decide)
                  · rw [e0]; exact ⟨⟨_, rfl, Or.inl ⟨rfl, (show own_OK _ from (show _ ∨ _ ∨ _ ∨ _ ∨ _ ∨ _ from by omega))⟩⟩, N0, rfl⟩
            · skip
              refine own_go (fun τ κ => XS.icmpYes X0.here hx rfl (pc0 := 39) (pc' := 54) rfl (hb hby d1_39) rfl (own_flt (x := (65533 : Int32)) (y := p0) (i := 65533) (j := p0.toInt) rfl rfl c39_8).2.2.2 (by decide) (by decide) κ) ?_
              show own_End p e below s (s₁.setTop (mkF m 54 #[.val (.int p0)] [])) _ _ _
              refine own_go (fun τ κ => XS.iconst X0.here hx rfl (hb hby d1_54) κ) ?_
              show own_End p e below s (s₁.setTop (mkF m 55 #[.val (.int p0)] [(.int (1 : Int32))])) _ _ _
              refine own_go (fun τ κ => XS.goto X0.here hx rfl (pc0 := 55) (pc' := 59) rfl (hb hby d1_55) (by decide) (by decide) κ) ?_
              show own_End p e below s (s₁.setTop (mkF m 59 #[.val (.int p0)] [(.int (1 : Int32))])) _ _ _
              refine own_ret X0 (v := some (.int (1 : Int32))) (fun h => by rw [Bd.returns] at h; cases h) Bd.notSynchronized (fun fs hr => retN X0 hx (t := .boolean) Bd.returns (by simp) (hb hby d1_59) hr) ?_ (by decide) (by decide)
              · rw [e0]; exact ⟨⟨_, rfl, Or.inl ⟨rfl, (show own_OK _ from (show _ ∨ _ ∨ _ ∨ _ ∨ _ ∨ _ from by omega))⟩⟩, N0, rfl⟩
        · skip
          refine own_go (fun τ κ => XS.icmpNo X0.here hx rfl (hb hby d1_21) rfl (own_flt (x := p0) (y := (32 : Int32)) (i := p0.toInt) (j := 32) rfl rfl c21_4).1 κ) ?_
          show own_End p e below s (s₁.setTop (mkF m 24 #[.val (.int p0)] [])) _ _ _
          refine own_go (fun τ κ => XS.iloadN X0.here hx rfl (hb hby d1_24) rfl κ) ?_
          show own_End p e below s (s₁.setTop (mkF m 25 #[.val (.int p0)] [(.int p0)])) _ _ _
          refine own_go (fun τ κ => X0.ldcInt hx hown (mvT hZ (hw _ (List.mem_of_getElem? (i := 23) rfl))) (g := (mkF m 25 #[.val (.int p0)] [(.int p0)])) rfl (hb hby d1_25) _ κ) ?_
          show own_End p e below s (s₁.setTop (mkF m 27 #[.val (.int p0)] [(.int (55295 : Int32)), (.int p0)])) _ _ _
          by_cases c27_11 : 55295 < p0.toInt
          · skip
            refine own_go (fun τ κ => XS.icmpNo X0.here hx rfl (hb hby d1_27) rfl (own_tlt (x := (55295 : Int32)) (y := p0) (i := 55295) (j := p0.toInt) rfl rfl c27_11).2.2.2 κ) ?_
            show own_End p e below s (s₁.setTop (mkF m 30 #[.val (.int p0)] [])) _ _ _
            refine own_go (fun τ κ => XS.iloadN X0.here hx rfl (hb hby d1_30) rfl κ) ?_
            show own_End p e below s (s₁.setTop (mkF m 31 #[.val (.int p0)] [(.int p0)])) _ _ _
            refine own_go (fun τ κ => X0.ldcInt hx hown (mvT hZ (hw _ (List.mem_of_getElem? (i := 17) rfl))) (g := (mkF m 31 #[.val (.int p0)] [(.int p0)])) rfl (hb hby d1_31) _ κ) ?_
            show own_End p e below s (s₁.setTop (mkF m 33 #[.val (.int p0)] [(.int (57344 : Int32)), (.int p0)])) _ _ _
            by_cases c33_12 : p0.toInt < 57344
            · skip
              refine own_go (fun τ κ => XS.icmpYes X0.here hx rfl (pc0 := 33) (pc' := 42) rfl (hb hby d1_33) rfl (own_tlt (x := p0) (y := (57344 : Int32)) (i := p0.toInt) (j := 57344) rfl rfl c33_12).1 (by decide) (by decide) κ) ?_
              show own_End p e below s (s₁.setTop (mkF m 42 #[.val (.int p0)] [])) _ _ _
              refine own_go (fun τ κ => XS.iloadN X0.here hx rfl (hb hby d1_42) rfl κ) ?_
              show own_End p e below s (s₁.setTop (mkF m 43 #[.val (.int p0)] [(.int p0)])) _ _ _
              refine own_go (fun τ κ => X0.ldcInt hx hown (mvT hZ (hw _ (List.mem_of_getElem? (i := 18) rfl))) (g := (mkF m 43 #[.val (.int p0)] [(.int p0)])) rfl (hb hby d1_43) _ κ) ?_
              show own_End p e below s (s₁.setTop (mkF m 45 #[.val (.int p0)] [(.int (65536 : Int32)), (.int p0)])) _ _ _
              by_cases c45_13 : p0.toInt < 65536
              · skip
                refine own_go (fun τ κ => XS.icmpYes X0.here hx rfl (pc0 := 45) (pc' := 58) rfl (hb hby d1_45) rfl (own_tlt (x := p0) (y := (65536 : Int32)) (i := p0.toInt) (j := 65536) rfl rfl c45_13).1 (by decide) (by decide) κ) ?_
                show own_End p e below s (s₁.setTop (mkF m 58 #[.val (.int p0)] [])) _ _ _
                refine own_go (fun τ κ => XS.iconst X0.here hx rfl (hb hby d1_58) κ) ?_
                show own_End p e below s (s₁.setTop (mkF m 59 #[.val (.int p0)] [(.int (0 : Int32))])) _ _ _
                refine own_ret X0 (v := some (.int (0 : Int32))) (fun h => by rw [Bd.returns] at h; cases h) Bd.notSynchronized (fun fs hr => retN X0 hx (t := .boolean) Bd.returns (by simp) (hb hby d1_59) hr) ?_ (by decide) (by decide)
                · rw [e0]; exact ⟨⟨_, rfl, Or.inr ⟨rfl, (fun hh => by rcases hh with hh | hh | hh | hh | hh | hh <;> omega)⟩⟩, N0, rfl⟩
              · skip
                refine own_go (fun τ κ => XS.icmpNo X0.here hx rfl (hb hby d1_45) rfl (own_flt (x := p0) (y := (65536 : Int32)) (i := p0.toInt) (j := 65536) rfl rfl c45_13).1 κ) ?_
                show own_End p e below s (s₁.setTop (mkF m 48 #[.val (.int p0)] [])) _ _ _
                refine own_go (fun τ κ => XS.iloadN X0.here hx rfl (hb hby d1_48) rfl κ) ?_
                show own_End p e below s (s₁.setTop (mkF m 49 #[.val (.int p0)] [(.int p0)])) _ _ _
                refine own_go (fun τ κ => X0.ldcInt hx hown (mvT hZ (hw _ (List.mem_of_getElem? (i := 25) rfl))) (g := (mkF m 49 #[.val (.int p0)] [(.int p0)])) rfl (hb hby d1_49) _ κ) ?_
                show own_End p e below s (s₁.setTop (mkF m 51 #[.val (.int p0)] [(.int (1114111 : Int32)), (.int p0)])) _ _ _
                by_cases c51_14 : 1114111 < p0.toInt
                · skip
                  refine own_go (fun τ κ => XS.icmpYes X0.here hx rfl (pc0 := 51) (pc' := 58) rfl (hb hby d1_51) rfl (own_tlt (x := (1114111 : Int32)) (y := p0) (i := 1114111) (j := p0.toInt) rfl rfl c51_14).2.2.1 (by decide) (by decide) κ) ?_
                  show own_End p e below s (s₁.setTop (mkF m 58 #[.val (.int p0)] [])) _ _ _
                  refine own_go (fun τ κ => XS.iconst X0.here hx rfl (hb hby d1_58) κ) ?_
                  show own_End p e below s (s₁.setTop (mkF m 59 #[.val (.int p0)] [(.int (0 : Int32))])) _ _ _
                  refine own_ret X0 (v := some (.int (0 : Int32))) (fun h => by rw [Bd.returns] at h; cases h) Bd.notSynchronized (fun fs hr => retN X0 hx (t := .boolean) Bd.returns (by simp) (hb hby d1_59) hr) ?_ (by decide) (by decide)
                  · rw [e0]; exact ⟨⟨_, rfl, Or.inr ⟨rfl, (fun hh => by rcases hh with hh | hh | hh | hh | hh | hh <;> omega)⟩⟩, N0, rfl⟩
                · skip
                  refine own_go (fun τ κ => XS.icmpNo X0.here hx rfl (hb hby d1_51) rfl (own_flt (x := (1114111 : Int32)) (y := p0) (i := 1114111) (j := p0.toInt) rfl rfl c51_14).2.2.1 κ) ?_
                  show own_End p e below s (s₁.setTop (mkF m 54 #[.val (.int p0)] [])) _ _ _
                  refine own_go (fun τ κ => XS.iconst X0.here hx rfl (hb hby d1_54) κ) ?_
                  show own_End p e below s (s₁.setTop (mkF m 55 #[.val (.int p0)] [(.int (1 : Int32))])) _ _ _
                  refine own_go (fun τ κ => XS.goto X0.here hx rfl (pc0 := 55) (pc' := 59) rfl (hb hby d1_55) (by decide) (by decide) κ) ?_
                  show own_End p e below s (s₁.setTop (mkF m 59 #[.val (.int p0)] [(.int (1 : Int32))])) _ _ _
                  refine own_ret X0 (v := some (.int (1 : Int32))) (fun h => by rw [Bd.returns] at h; cases h) Bd.notSynchronized (fun fs hr => retN X0 hx (t := .boolean) Bd.returns (by simp) (hb hby d1_59) hr) ?_ (by decide) (by decide)
                  · rw [e0]; exact ⟨⟨_, rfl, Or.inl ⟨rfl, (show own_OK _ from (show _ ∨ _ ∨ _ ∨ _ ∨ _ ∨ _ from by omega))⟩⟩, N0, rfl⟩
            · skip
              refine own_go (fun τ κ => XS.icmpNo X0.here hx rfl (hb hby d1_33) rfl (own_flt (x := p0) (y := (57344 : Int32)) (i := p0.toInt) (j := 57344) rfl rfl c33_12).1 κ) ?_
              show own_End p e below s (s₁.setTop (mkF m 36 #[.val (.int p0)] [])) _ _ _
              refine own_go (fun τ κ => XS.iloadN X0.here hx rfl (hb hby d1_36) rfl κ) ?_
              show own_End p e below s (s₁.setTop (mkF m 37 #[.val (.int p0)] [(.int p0)])) _ _ _
              refine own_go (fun τ κ => X0.ldcInt hx hown (mvT hZ (hw _ (List.mem_of_getElem? (i := 24) rfl))) (g := (mkF m 37 #[.val (.int p0)] [(.int p0)])) rfl (hb hby d1_37) _ κ) ?_
              show own_End p e below s (s₁.setTop (mkF m 39 #[.val (.int p0)] [(.int (65533 : Int32)), (.int p0)])) _ _ _
              by_cases c39_15 : 65533 < p0.toInt
              · skip
                refine own_go (fun τ κ => XS.icmpNo X0.here hx rfl (hb hby d1_39) rfl (own_tlt (x := (65533 : Int32)) (y := p0) (i := 65533) (j := p0.toInt) rfl rfl c39_15).2.2.2 κ) ?_
                show own_End p e below s (s₁.setTop (mkF m 42 #[.val (.int p0)] [])) _ _ _
                refine own_go (fun τ κ => XS.iloadN X0.here hx rfl (hb hby d1_42) rfl κ) ?_
                show own_End p e below s (s₁.setTop (mkF m 43 #[.val (.int p0)] [(.int p0)])) _ _ _
                refine own_go (fun τ κ => X0.ldcInt hx hown (mvT hZ (hw _ (List.mem_of_getElem? (i := 18) rfl))) (g := (mkF m 43 #[.val (.int p0)] [(.int p0)])) rfl (hb hby d1_43) _ κ) ?_
                show own_End p e below s (s₁.setTop (mkF m 45 #[.val (.int p0)] [(.int (65536 : Int32)), (.int p0)])) _ _ _
                by_cases c45_16 : p0.toInt < 65536
                · skip
                  refine own_go (fun τ κ => XS.icmpYes X0.here hx rfl (pc0 := 45) (pc' := 58) rfl (hb hby d1_45) rfl (own_tlt (x := p0) (y := (65536 : Int32)) (i := p0.toInt) (j := 65536) rfl rfl c45_16).1 (by decide) (by decide) κ) ?_
                  show own_End p e below s (s₁.setTop (mkF m 58 #[.val (.int p0)] [])) _ _ _
                  refine own_go (fun τ κ => XS.iconst X0.here hx rfl (hb hby d1_58) κ) ?_
                  show own_End p e below s (s₁.setTop (mkF m 59 #[.val (.int p0)] [(.int (0 : Int32))])) _ _ _
                  refine own_ret X0 (v := some (.int (0 : Int32))) (fun h => by rw [Bd.returns] at h; cases h) Bd.notSynchronized (fun fs hr => retN X0 hx (t := .boolean) Bd.returns (by simp) (hb hby d1_59) hr) ?_ (by decide) (by decide)
                  · rw [e0]; exact ⟨⟨_, rfl, Or.inr ⟨rfl, (fun hh => by rcases hh with hh | hh | hh | hh | hh | hh <;> omega)⟩⟩, N0, rfl⟩
                · skip
                  refine own_go (fun τ κ => XS.icmpNo X0.here hx rfl (hb hby d1_45) rfl (own_flt (x := p0) (y := (65536 : Int32)) (i := p0.toInt) (j := 65536) rfl rfl c45_16).1 κ) ?_
                  show own_End p e below s (s₁.setTop (mkF m 48 #[.val (.int p0)] [])) _ _ _
                  refine own_go (fun τ κ => XS.iloadN X0.here hx rfl (hb hby d1_48) rfl κ) ?_
                  show own_End p e below s (s₁.setTop (mkF m 49 #[.val (.int p0)] [(.int p0)])) _ _ _
                  refine own_go (fun τ κ => X0.ldcInt hx hown (mvT hZ (hw _ (List.mem_of_getElem? (i := 25) rfl))) (g := (mkF m 49 #[.val (.int p0)] [(.int p0)])) rfl (hb hby d1_49) _ κ) ?_
                  show own_End p e below s (s₁.setTop (mkF m 51 #[.val (.int p0)] [(.int (1114111 : Int32)), (.int p0)])) _ _ _
                  by_cases c51_17 : 1114111 < p0.toInt
                  · skip
                    refine own_go (fun τ κ => XS.icmpYes X0.here hx rfl (pc0 := 51) (pc' := 58) rfl (hb hby d1_51) rfl (own_tlt (x := (1114111 : Int32)) (y := p0) (i := 1114111) (j := p0.toInt) rfl rfl c51_17).2.2.1 (by decide) (by decide) κ) ?_
                    show own_End p e below s (s₁.setTop (mkF m 58 #[.val (.int p0)] [])) _ _ _
                    refine own_go (fun τ κ => XS.iconst X0.here hx rfl (hb hby d1_58) κ) ?_
                    show own_End p e below s (s₁.setTop (mkF m 59 #[.val (.int p0)] [(.int (0 : Int32))])) _ _ _
                    refine own_ret X0 (v := some (.int (0 : Int32))) (fun h => by rw [Bd.returns] at h; cases h) Bd.notSynchronized (fun fs hr => retN X0 hx (t := .boolean) Bd.returns (by simp) (hb hby d1_59) hr) ?_ (by decide) (by decide)
                    · rw [e0]; exact ⟨⟨_, rfl, Or.inr ⟨rfl, (fun hh => by rcases hh with hh | hh | hh | hh | hh | hh <;> omega)⟩⟩, N0, rfl⟩
                  · skip
                    refine own_go (fun τ κ => XS.icmpNo X0.here hx rfl (hb hby d1_51) rfl (own_flt (x := (1114111 : Int32)) (y := p0) (i := 1114111) (j := p0.toInt) rfl rfl c51_17).2.2.1 κ) ?_
                    show own_End p e below s (s₁.setTop (mkF m 54 #[.val (.int p0)] [])) _ _ _
                    refine own_go (fun τ κ => XS.iconst X0.here hx rfl (hb hby d1_54) κ) ?_
                    show own_End p e below s (s₁.setTop (mkF m 55 #[.val (.int p0)] [(.int (1 : Int32))])) _ _ _
                    refine own_go (fun τ κ => XS.goto X0.here hx rfl (pc0 := 55) (pc' := 59) rfl (hb hby d1_55) (by decide) (by decide) κ) ?_
                    show own_End p e below s (s₁.setTop (mkF m 59 #[.val (.int p0)] [(.int (1 : Int32))])) _ _ _
                    refine own_ret X0 (v := some (.int (1 : Int32))) (fun h => by rw [Bd.returns] at h; cases h) Bd.notSynchronized (fun fs hr => retN X0 hx (t := .boolean) Bd.returns (by simp) (hb hby d1_59) hr) ?_ (by decide) (by decide)
                    · rw [e0]; exact ⟨⟨_, rfl, Or.inl ⟨rfl, (show own_OK _ from (show _ ∨ _ ∨ _ ∨ _ ∨ _ ∨ _ from by omega))⟩⟩, N0, rfl⟩
              · skip
                refine own_go (fun τ κ => XS.icmpYes X0.here hx rfl (pc0 := 39) (pc' := 54) rfl (hb hby d1_39) rfl (own_flt (x := (65533 : Int32)) (y := p0) (i := 65533) (j := p0.toInt) rfl rfl c39_15).2.2.2 (by decide) (by decide) κ) ?_
                show own_End p e below s (s₁.setTop (mkF m 54 #[.val (.int p0)] [])) _ _ _
                refine own_go (fun τ κ => XS.iconst X0.here hx rfl (hb hby d1_54) κ) ?_
                show own_End p e below s (s₁.setTop (mkF m 55 #[.val (.int p0)] [(.int (1 : Int32))])) _ _ _
                refine own_go (fun τ κ => XS.goto X0.here hx rfl (pc0 := 55) (pc' := 59) rfl (hb hby d1_55) (by decide) (by decide) κ) ?_
                show own_End p e below s (s₁.setTop (mkF m 59 #[.val (.int p0)] [(.int (1 : Int32))])) _ _ _
                refine own_ret X0 (v := some (.int (1 : Int32))) (fun h => by rw [Bd.returns] at h; cases h) Bd.notSynchronized (fun fs hr => retN X0 hx (t := .boolean) Bd.returns (by simp) (hb hby d1_59) hr) ?_ (by decide) (by decide)
                · rw [e0]; exact ⟨⟨_, rfl, Or.inl ⟨rfl, (show own_OK _ from (show _ ∨ _ ∨ _ ∨ _ ∨ _ ∨ _ from by omega))⟩⟩, N0, rfl⟩
          · skip
            refine own_go (fun τ κ => XS.icmpYes X0.here hx rfl (pc0 := 27) (pc' := 54) rfl (hb hby d1_27) rfl (own_flt (x := (55295 : Int32)) (y := p0) (i := 55295) (j := p0.toInt) rfl rfl c27_11).2.2.2 (by decide) (by decide) κ) ?_
            show own_End p e below s (s₁.setTop (mkF m 54 #[.val (.int p0)] [])) _ _ _
            refine own_go (fun τ κ => XS.iconst X0.here hx rfl (hb hby d1_54) κ) ?_
            show own_End p e below s (s₁.setTop (mkF m 55 #[.val (.int p0)] [(.int (1 : Int32))])) _ _ _
            refine own_go (fun τ κ => XS.goto X0.here hx rfl (pc0 := 55) (pc' := 59) rfl (hb hby d1_55) (by decide) (by decide) κ) ?_
            show own_End p e below s (s₁.setTop (mkF m 59 #[.val (.int p0)] [(.int (1 : Int32))])) _ _ _
            refine own_ret X0 (v := some (.int (1 : Int32))) (fun h => by rw [Bd.returns] at h; cases h) Bd.notSynchronized (fun fs hr => retN X0 hx (t := .boolean) Bd.returns (by simp) (hb hby d1_59) hr) ?_ (by decide) (by decide)
            · rw [e0]; exact ⟨⟨_, rfl, Or.inl ⟨rfl, (show own_OK _ from (show _ ∨ _ ∨ _ ∨ _ ∨ _ ∨ _ from by omega))⟩⟩, N0, rfl⟩
theorem own_pn1 : plainName "com/example/borough_wire/boroughwire/wire/XmlWriterIsXmlCharPinLaw" = true := by first | (simp [plainName, overriddenIn]; done) | decide +kernel
theorem own_ef2_rm2 (m : MethodId) (p0 : Int32) : entryFrame m #[(.int p0)] 1 = mkF m 0 #[.val (.int p0)] [] := by first | (simp [entryFrame, mkF, argsToLocals, Value.category]; done) | rfl
def Q_rm2 (Z : State) (p0 : Int32)  (h0 : Heap) (n0 : Nat) (v : Option Value) (h : Heap) (L : List Loc) : Prop := (∃ z, v = some (.int z) ∧ (z.toInt = 0 ∧ (own_OK p0.toInt) ∨ z.toInt = 1 ∧ ¬ (own_OK p0.toInt))) ∧ Fr n0 L ∧ h = h0
theorem d2_0 : decode method_3_code 0 = .ok (.iload_n 0, 1) := by decide +kernel
theorem d2_1 : decode method_3_code 1 = .ok (.ifCond .ge 5, 3) := by decide +kernel
theorem d2_4 : decode method_3_code 4 = .ok (.iconst 1, 1) := by decide +kernel
theorem d2_5 : decode method_3_code 5 = .ok (.ireturn, 1) := by decide +kernel
theorem d2_6 : decode method_3_code 6 = .ok (.iload_n 0, 1) := by decide +kernel
theorem d2_7 : decode method_3_code 7 = .ok (.ldc 15, 2) := by decide +kernel
theorem d2_9 : decode method_3_code 9 = .ok (.if_icmp .le 5, 3) := by decide +kernel
theorem d2_12 : decode method_3_code 12 = .ok (.iconst 1, 1) := by decide +kernel
theorem d2_13 : decode method_3_code 13 = .ok (.ireturn, 1) := by decide +kernel
theorem d2_14 : decode method_3_code 14 = .ok (.iload_n 0, 1) := by decide +kernel
theorem d2_15 : decode method_3_code 15 = .ok (.bipush 32, 2) := by decide +kernel
theorem d2_17 : decode method_3_code 17 = .ok (.if_icmp .ge 27, 3) := by decide +kernel
theorem d2_20 : decode method_3_code 20 = .ok (.iload_n 0, 1) := by decide +kernel
theorem d2_21 : decode method_3_code 21 = .ok (.bipush 9, 2) := by decide +kernel
theorem d2_23 : decode method_3_code 23 = .ok (.if_icmp .eq 19, 3) := by decide +kernel
theorem d2_42 : decode method_3_code 42 = .ok (.iconst 0, 1) := by decide +kernel
theorem d2_43 : decode method_3_code 43 = .ok (.ireturn, 1) := by decide +kernel
theorem d2_26 : decode method_3_code 26 = .ok (.iload_n 0, 1) := by decide +kernel
theorem d2_27 : decode method_3_code 27 = .ok (.bipush 10, 2) := by decide +kernel
theorem d2_29 : decode method_3_code 29 = .ok (.if_icmp .eq 13, 3) := by decide +kernel
theorem d2_32 : decode method_3_code 32 = .ok (.iload_n 0, 1) := by decide +kernel
theorem d2_33 : decode method_3_code 33 = .ok (.bipush 13, 2) := by decide +kernel
theorem d2_35 : decode method_3_code 35 = .ok (.if_icmp .eq 7, 3) := by decide +kernel
theorem d2_38 : decode method_3_code 38 = .ok (.iconst 1, 1) := by decide +kernel
theorem d2_39 : decode method_3_code 39 = .ok (.goto 4, 3) := by decide +kernel
theorem d2_44 : decode method_3_code 44 = .ok (.iload_n 0, 1) := by decide +kernel
theorem d2_45 : decode method_3_code 45 = .ok (.ldc 8, 2) := by decide +kernel
theorem d2_47 : decode method_3_code 47 = .ok (.if_icmp .lt 11, 3) := by decide +kernel
theorem d2_58 : decode method_3_code 58 = .ok (.iload_n 0, 1) := by decide +kernel
theorem d2_59 : decode method_3_code 59 = .ok (.ldc 12, 2) := by decide +kernel
theorem d2_61 : decode method_3_code 61 = .ok (.if_icmp .eq 9, 3) := by decide +kernel
theorem d2_70 : decode method_3_code 70 = .ok (.iconst 1, 1) := by decide +kernel
theorem d2_71 : decode method_3_code 71 = .ok (.goto 4, 3) := by decide +kernel
theorem d2_75 : decode method_3_code 75 = .ok (.ireturn, 1) := by decide +kernel
theorem d2_64 : decode method_3_code 64 = .ok (.iload_n 0, 1) := by decide +kernel
theorem d2_65 : decode method_3_code 65 = .ok (.ldc 13, 2) := by decide +kernel
theorem d2_67 : decode method_3_code 67 = .ok (.if_icmp .ne 7, 3) := by decide +kernel
theorem d2_74 : decode method_3_code 74 = .ok (.iconst 0, 1) := by decide +kernel
theorem d2_50 : decode method_3_code 50 = .ok (.iload_n 0, 1) := by decide +kernel
theorem d2_51 : decode method_3_code 51 = .ok (.ldc 9, 2) := by decide +kernel
theorem d2_53 : decode method_3_code 53 = .ok (.if_icmp .gt 5, 3) := by decide +kernel
theorem d2_56 : decode method_3_code 56 = .ok (.iconst 1, 1) := by decide +kernel
theorem d2_57 : decode method_3_code 57 = .ok (.ireturn, 1) := by decide +kernel
set_option maxRecDepth 65536 in
set_option maxHeartbeats 40000000 in
theorem rm2 (l : Launch) (Z : State) (a0 : Array Value) (hw : ∀ d ∈ tables_1, d.before a0 Z = true) (ws : List Jvm.Cond) (p0 : Int32)  (h0 : Heap) (n0 : Nat) (Z0 : n0 ≤ h0.size)  :
    MetFree l (⟨"com/example/borough_wire/boroughwire/wire/XmlWriterIsXmlCharPinLaw", "excluded", "(I)Z"⟩ : MethodName) (head1 (Jvm.Cond.code (⟨"com/example/borough_wire/boroughwire/wire/XmlWriterIsXmlCharPinLaw", "excluded", "(I)Z"⟩ : MethodName) method_3_code 1 (some .boolean) :: ws) ({ frames := 0, cells := 0, slots := 0, locals := 0 } : Room)) (fun a U => a = #[(.int p0)] ∧ Z.Warmed39 U.vm ∧ U.heap = h0) (fun _ _ _ _ _ => True) (fun _ U o U' => ∃ v L, o = .returned v ∧ Q_rm2 Z p0  h0 n0 v U'.heap L ∧ FrameEnd U o U' L ({ frames := 0, cells := 0, slots := 0, locals := 0 } : Room).cells ({ frames := 0, cells := 0, slots := 0, locals := 0 } : Room).slots) := by
  refine MetFree.of_bodySF (plainFor_of_name own_pn1) hisR ?_
  intro p e s m args below meth c s₁ Bd hml0 hP hK
  obtain ⟨rfl, hZ, hh⟩ := hP
  have hx := Bd.exec
  have hby := Bd.bytes
  have hml : c.maxLocals = 1 := hml0
  have hown : s.vm.findClass "com/example/borough_wire/boroughwire/wire/XmlWriterIsXmlCharPinLaw" = some m.cls := findClass_of_methodNamed Bd.named
  have hnm := (name_of_methodNamed Bd.named Bd.method).1
  have X0 : Stand p l e ({ frames := 0, cells := 0, slots := 0, locals := 0 } : Room) s m #[(.int p0)] below meth c s₁ [] 0 0 := Stand.of_body Bd
  have e0 : s₁.heap = h0 := by rw [← hh, Bd.state]; rfl
  have N0 := Fr.nil n0
  refine (show own_End p e below s (s₁.setTop (entryFrame m #[(.int p0)] 1)) (Q_rm2 Z p0  h0 n0) ({ frames := 0, cells := 0, slots := 0, locals := 0 } : Room).cells ({ frames := 0, cells := 0, slots := 0, locals := 0 } : Room).slots from ?_)
  refine own_go (fun τ κ => castTop (own_ef2_rm2 m p0) κ) ?_
  have li0 : (0 : Int32).toInt = 0 := rfl
  have li1 : (1 : Int32).toInt = 1 := rfl
  show own_End p e below s (s₁.setTop (mkF m 0 #[.val (.int p0)] [])) _ _ _
  refine own_go (fun τ κ => XS.iloadN X0.here hx rfl (hb hby d2_0) rfl κ) ?_
  show own_End p e below s (s₁.setTop (mkF m 1 #[.val (.int p0)] [(.int p0)])) _ _ _
  by_cases c1_1 : p0.toInt < 0
  · skip
    refine own_go (fun τ κ => XS.ifNo X0.here hx rfl (hb hby d2_1) rfl ((if0 _ _).trans (own_tlt (x := p0) (y := (0 : Int32)) (i := p0.toInt) (j := 0) rfl rfl c1_1).2.1) κ) ?_
    show own_End p e below s (s₁.setTop (mkF m 4 #[.val (.int p0)] [])) _ _ _
    refine own_go (fun τ κ => XS.iconst X0.here hx rfl (hb hby d2_4) κ) ?_
    show own_End p e below s (s₁.setTop (mkF m 5 #[.val (.int p0)] [(.int (1 : Int32))])) _ _ _
    refine own_ret X0 (v := some (.int (1 : Int32))) (fun h => by rw [Bd.returns] at h; cases h) Bd.notSynchronized (fun fs hr => retN X0 hx (t := .boolean) Bd.returns (by simp) (hb hby d2_5) hr) ?_ (by decide) (by decide)
    · rw [e0]; exact ⟨⟨_, rfl, Or.inr ⟨rfl, (fun hh => by rcases hh with hh | hh | hh | hh | hh | hh <;> omega)⟩⟩, N0, rfl⟩
  · skip
    refine own_go (fun τ κ => XS.ifYes X0.here hx rfl (pc0 := 1) (pc' := 6) rfl (hb hby d2_1) rfl ((if0 _ _).trans (own_flt (x := p0) (y := (0 : Int32)) (i := p0.toInt) (j := 0) rfl rfl c1_1).2.1) (by decide) (by decide) κ) ?_
    show own_End p e below s (s₁.setTop (mkF m 6 #[.val (.int p0)] [])) _ _ _
    refine own_go (fun τ κ => XS.iloadN X0.here hx rfl (hb hby d2_6) rfl κ) ?_
    show own_End p e below s (s₁.setTop (mkF m 7 #[.val (.int p0)] [(.int p0)])) _ _ _
    refine own_go (fun τ κ => X0.ldcInt hx hown (mvT hZ (hw _ (List.mem_of_getElem? (i := 9) rfl))) (g := (mkF m 7 #[.val (.int p0)] [(.int p0)])) rfl (hb hby d2_7) _ κ) ?_
    show own_End p e below s (s₁.setTop (mkF m 9 #[.val (.int p0)] [(.int (1114111 : Int32)), (.int p0)])) _ _ _
    by_cases c9_2 : 1114111 < p0.toInt
    · skip
      refine own_go (fun τ κ => XS.icmpNo X0.here hx rfl (hb hby d2_9) rfl (own_tlt (x := (1114111 : Int32)) (y := p0) (i := 1114111) (j := p0.toInt) rfl rfl c9_2).2.2.2 κ) ?_
      show own_End p e below s (s₁.setTop (mkF m 12 #[.val (.int p0)] [])) _ _ _
      refine own_go (fun τ κ => XS.iconst X0.here hx rfl (hb hby d2_12) κ) ?_
      show own_End p e below s (s₁.setTop (mkF m 13 #[.val (.int p0)] [(.int (1 : Int32))])) _ _ _
      refine own_ret X0 (v := some (.int (1 : Int32))) (fun h => by rw [Bd.returns] at h; cases h) Bd.notSynchronized (fun fs hr => retN X0 hx (t := .boolean) Bd.returns (by simp) (hb hby d2_13) hr) ?_ (by decide) (by decide)
      · rw [e0]; exact ⟨⟨_, rfl, Or.inr ⟨rfl, (fun hh => by rcases hh with hh | hh | hh | hh | hh | hh <;> omega)⟩⟩, N0, rfl⟩
    · skip
      refine own_go (fun τ κ => XS.icmpYes X0.here hx rfl (pc0 := 9) (pc' := 14) rfl (hb hby d2_9) rfl (own_flt (x := (1114111 : Int32)) (y := p0) (i := 1114111) (j := p0.toInt) rfl rfl c9_2).2.2.2 (by decide) (by decide) κ) ?_
      show own_End p e below s (s₁.setTop (mkF m 14 #[.val (.int p0)] [])) _ _ _
      refine own_go (fun τ κ => XS.iloadN X0.here hx rfl (hb hby d2_14) rfl κ) ?_
      show own_End p e below s (s₁.setTop (mkF m 15 #[.val (.int p0)] [(.int p0)])) _ _ _
      refine own_go (fun τ κ => XS.bipush X0.here hx rfl (hb hby d2_15) κ) ?_
      show own_End p e below s (s₁.setTop (mkF m 17 #[.val (.int p0)] [(.int (32 : Int32)), (.int p0)])) _ _ _
      by_cases c17_3 : p0.toInt < 32
      · skip
        refine own_go (fun τ κ => XS.icmpNo X0.here hx rfl (hb hby d2_17) rfl (own_tlt (x := p0) (y := (32 : Int32)) (i := p0.toInt) (j := 32) rfl rfl c17_3).2.1 κ) ?_
        show own_End p e below s (s₁.setTop (mkF m 20 #[.val (.int p0)] [])) _ _ _
        refine own_go (fun τ κ => XS.iloadN X0.here hx rfl (hb hby d2_20) rfl κ) ?_
        show own_End p e below s (s₁.setTop (mkF m 21 #[.val (.int p0)] [(.int p0)])) _ _ _
        refine own_go (fun τ κ => XS.bipush X0.here hx rfl (hb hby d2_21) κ) ?_
        show own_End p e below s (s₁.setTop (mkF m 23 #[.val (.int p0)] [(.int (9 : Int32)), (.int p0)])) _ _ _
        by_cases c23_4 : p0.toInt = 9
        · skip
          refine own_go (fun τ κ => XS.icmpYes X0.here hx rfl (pc0 := 23) (pc' := 42) rfl (hb hby d2_23) rfl (own_eq (x := p0) (y := (9 : Int32)) (i := p0.toInt) (j := 9) rfl rfl c23_4).1 (by decide) (by decide) κ) ?_
          show own_End p e below s (s₁.setTop (mkF m 42 #[.val (.int p0)] [])) _ _ _
          refine own_go (fun τ κ => XS.iconst X0.here hx rfl (hb hby d2_42) κ) ?_
          show own_End p e below s (s₁.setTop (mkF m 43 #[.val (.int p0)] [(.int (0 : Int32))])) _ _ _
          refine own_ret X0 (v := some (.int (0 : Int32))) (fun h => by rw [Bd.returns] at h; cases h) Bd.notSynchronized (fun fs hr => retN X0 hx (t := .boolean) Bd.returns (by simp) (hb hby d2_43) hr) ?_ (by decide) (by decide)
          · rw [e0]; exact ⟨⟨_, rfl, Or.inl ⟨rfl, (show own_OK _ from (show _ ∨ _ ∨ _ ∨ _ ∨ _ ∨ _ from by omega))⟩⟩, N0, rfl⟩
        · skip
          refine own_go (fun τ κ => XS.icmpNo X0.here hx rfl (hb hby d2_23) rfl (own_ne (x := p0) (y := (9 : Int32)) (i := p0.toInt) (j := 9) rfl rfl c23_4).1 κ) ?_
          show own_End p e below s (s₁.setTop (mkF m 26 #[.val (.int p0)] [])) _ _ _
          refine own_go (fun τ κ => XS.iloadN X0.here hx rfl (hb hby d2_26) rfl κ) ?_
          show own_End p e below s (s₁.setTop (mkF m 27 #[.val (.int p0)] [(.int p0)])) _ _ _
          refine own_go (fun τ κ => XS.bipush X0.here hx rfl (hb hby d2_27) κ) ?_
          show own_End p e below s (s₁.setTop (mkF m 29 #[.val (.int p0)] [(.int (10 : Int32)), (.int p0)])) _ _ _
          by_cases c29_5 : p0.toInt = 10
          · skip
            refine own_go (fun τ κ => XS.icmpYes X0.here hx rfl (pc0 := 29) (pc' := 42) rfl (hb hby d2_29) rfl (own_eq (x := p0) (y := (10 : Int32)) (i := p0.toInt) (j := 10) rfl rfl c29_5).1 (by decide) (by decide) κ) ?_
            show own_End p e below s (s₁.setTop (mkF m 42 #[.val (.int p0)] [])) _ _ _
            refine own_go (fun τ κ => XS.iconst X0.here hx rfl (hb hby d2_42) κ) ?_
            show own_End p e below s (s₁.setTop (mkF m 43 #[.val (.int p0)] [(.int (0 : Int32))])) _ _ _
            refine own_ret X0 (v := some (.int (0 : Int32))) (fun h => by rw [Bd.returns] at h; cases h) Bd.notSynchronized (fun fs hr => retN X0 hx (t := .boolean) Bd.returns (by simp) (hb hby d2_43) hr) ?_ (by decide) (by decide)
            · rw [e0]; exact ⟨⟨_, rfl, Or.inl ⟨rfl, (show own_OK _ from (show _ ∨ _ ∨ _ ∨ _ ∨ _ ∨ _ from by omega))⟩⟩, N0, rfl⟩
          · skip
            refine own_go (fun τ κ => XS.icmpNo X0.here hx rfl (hb hby d2_29) rfl (own_ne (x := p0) (y := (10 : Int32)) (i := p0.toInt) (j := 10) rfl rfl c29_5).1 κ) ?_
            show own_End p e below s (s₁.setTop (mkF m 32 #[.val (.int p0)] [])) _ _ _
            refine own_go (fun τ κ => XS.iloadN X0.here hx rfl (hb hby d2_32) rfl κ) ?_
            show own_End p e below s (s₁.setTop (mkF m 33 #[.val (.int p0)] [(.int p0)])) _ _ _
            refine own_go (fun τ κ => XS.bipush X0.here hx rfl (hb hby d2_33) κ) ?_
            show own_End p e below s (s₁.setTop (mkF m 35 #[.val (.int p0)] [(.int (13 : Int32)), (.int p0)])) _ _ _
            by_cases c35_6 : p0.toInt = 13
            · skip
              refine own_go (fun τ κ => XS.icmpYes X0.here hx rfl (pc0 := 35) (pc' := 42) rfl (hb hby d2_35) rfl (own_eq (x := p0) (y := (13 : Int32)) (i := p0.toInt) (j := 13) rfl rfl c35_6).1 (by decide) (by decide) κ) ?_
              show own_End p e below s (s₁.setTop (mkF m 42 #[.val (.int p0)] [])) _ _ _
              refine own_go (fun τ κ => XS.iconst X0.here hx rfl (hb hby d2_42) κ) ?_
              show own_End p e below s (s₁.setTop (mkF m 43 #[.val (.int p0)] [(.int (0 : Int32))])) _ _ _
              refine own_ret X0 (v := some (.int (0 : Int32))) (fun h => by rw [Bd.returns] at h; cases h) Bd.notSynchronized (fun fs hr => retN X0 hx (t := .boolean) Bd.returns (by simp) (hb hby d2_43) hr) ?_ (by decide) (by decide)
              · rw [e0]; exact ⟨⟨_, rfl, Or.inl ⟨rfl, (show own_OK _ from (show _ ∨ _ ∨ _ ∨ _ ∨ _ ∨ _ from by omega))⟩⟩, N0, rfl⟩
            · skip
              refine own_go (fun τ κ => XS.icmpNo X0.here hx rfl (hb hby d2_35) rfl (own_ne (x := p0) (y := (13 : Int32)) (i := p0.toInt) (j := 13) rfl rfl c35_6).1 κ) ?_
              show own_End p e below s (s₁.setTop (mkF m 38 #[.val (.int p0)] [])) _ _ _
              refine own_go (fun τ κ => XS.iconst X0.here hx rfl (hb hby d2_38) κ) ?_
              show own_End p e below s (s₁.setTop (mkF m 39 #[.val (.int p0)] [(.int (1 : Int32))])) _ _ _
              refine own_go (fun τ κ => XS.goto X0.here hx rfl (pc0 := 39) (pc' := 43) rfl (hb hby d2_39) (by decide) (by decide) κ) ?_
              show own_End p e below s (s₁.setTop (mkF m 43 #[.val (.int p0)] [(.int (1 : Int32))])) _ _ _
              refine own_ret X0 (v := some (.int (1 : Int32))) (fun h => by rw [Bd.returns] at h; cases h) Bd.notSynchronized (fun fs hr => retN X0 hx (t := .boolean) Bd.returns (by simp) (hb hby d2_43) hr) ?_ (by decide) (by decide)
              · rw [e0]; exact ⟨⟨_, rfl, Or.inr ⟨rfl, (fun hh => by rcases hh with hh | hh | hh | hh | hh | hh <;> omega)⟩⟩, N0, rfl⟩
      · skip
        refine own_go (fun τ κ => XS.icmpYes X0.here hx rfl (pc0 := 17) (pc' := 44) rfl (hb hby d2_17) rfl (own_flt (x := p0) (y := (32 : Int32)) (i := p0.toInt) (j := 32) rfl rfl c17_3).2.1 (by decide) (by decide) κ) ?_
        show own_End p e below s (s₁.setTop (mkF m 44 #[.val (.int p0)] [])) _ _ _
        refine own_go (fun τ κ => XS.iloadN X0.here hx rfl (hb hby d2_44) rfl κ) ?_
        show own_End p e below s (s₁.setTop (mkF m 45 #[.val (.int p0)] [(.int p0)])) _ _ _
        refine own_go (fun τ κ => X0.ldcInt hx hown (mvT hZ (hw _ (List.mem_of_getElem? (i := 2) rfl))) (g := (mkF m 45 #[.val (.int p0)] [(.int p0)])) rfl (hb hby d2_45) _ κ) ?_
        show own_End p e below s (s₁.setTop (mkF m 47 #[.val (.int p0)] [(.int (55296 : Int32)), (.int p0)])) _ _ _
        by_cases c47_7 : p0.toInt < 55296
        · skip
          refine own_go (fun τ κ => XS.icmpYes X0.here hx rfl (pc0 := 47) (pc' := 58) rfl (hb hby d2_47) rfl (own_tlt (x := p0) (y := (55296 : Int32)) (i := p0.toInt) (j := 55296) rfl rfl c47_7).1 (by decide) (by decide) κ) ?_
          show own_End p e below s (s₁.setTop (mkF m 58 #[.val (.int p0)] [])) _ _ _
          refine own_go (fun τ κ => XS.iloadN X0.here hx rfl (hb hby d2_58) rfl κ) ?_
          show own_End p e below s (s₁.setTop (mkF m 59 #[.val (.int p0)] [(.int p0)])) _ _ _
          refine own_go (fun τ κ => X0.ldcInt hx hown (mvT hZ (hw _ (List.mem_of_getElem? (i := 6) rfl))) (g := (mkF m 59 #[.val (.int p0)] [(.int p0)])) rfl (hb hby d2_59) _ κ) ?_
          show own_End p e below s (s₁.setTop (mkF m 61 #[.val (.int p0)] [(.int (65534 : Int32)), (.int p0)])) _ _ _
          by_cases c61_8 : p0.toInt = 65534
          · skip
            refine own_go (fun τ κ => XS.icmpYes X0.here hx rfl (pc0 := 61) (pc' := 70) rfl (hb hby d2_61) rfl (own_eq (x := p0) (y := (65534 : Int32)) (i := p0.toInt) (j := 65534) rfl rfl c61_8).1 (by decide) (by decide) κ) ?_
            show own_End p e below s (s₁.setTop (mkF m 70 #[.val (.int p0)] [])) _ _ _
            refine own_go (fun τ κ => XS.iconst X0.here hx rfl (hb hby d2_70) κ) ?_
            show own_End p e below s (s₁.setTop (mkF m 71 #[.val (.int p0)] [(.int (1 : Int32))])) _ _ _
            refine own_go (fun τ κ => XS.goto X0.here hx rfl (pc0 := 71) (pc' := 75) rfl (hb hby d2_71) (by decide) (by decide) κ) ?_
            show own_End p e below s (s₁.setTop (mkF m 75 #[.val (.int p0)] [(.int (1 : Int32))])) _ _ _
            refine own_ret X0 (v := some (.int (1 : Int32))) (fun h => by rw [Bd.returns] at h; cases h) Bd.notSynchronized (fun fs hr => retN X0 hx (t := .boolean) Bd.returns (by simp) (hb hby d2_75) hr) ?_ (by decide) (by decide)
            · rw [e0]; exact ⟨⟨_, rfl, Or.inr ⟨rfl, (fun hh => by rcases hh with hh | hh | hh | hh | hh | hh <;> omega)⟩⟩, N0, rfl⟩
          · skip
            refine own_go (fun τ κ => XS.icmpNo X0.here hx rfl (hb hby d2_61) rfl (own_ne (x := p0) (y := (65534 : Int32)) (i := p0.toInt) (j := 65534) rfl rfl c61_8).1 κ) ?_
            show own_End p e below s (s₁.setTop (mkF m 64 #[.val (.int p0)] [])) _ _ _
            refine own_go (fun τ κ => XS.iloadN X0.here hx rfl (hb hby d2_64) rfl κ) ?_
            show own_End p e below s (s₁.setTop (mkF m 65 #[.val (.int p0)] [(.int p0)])) _ _ _
            refine own_go (fun τ κ => X0.ldcInt hx hown (mvT hZ (hw _ (List.mem_of_getElem? (i := 7) rfl))) (g := (mkF m 65 #[.val (.int p0)] [(.int p0)])) rfl (hb hby d2_65) _ κ) ?_
            show own_End p e below s (s₁.setTop (mkF m 67 #[.val (.int p0)] [(.int (65535 : Int32)), (.int p0)])) _ _ _
            by_cases c67_9 : p0.toInt = 65535
            · skip
              refine own_go (fun τ κ => XS.icmpNo X0.here hx rfl (hb hby d2_67) rfl (own_eq (x := p0) (y := (65535 : Int32)) (i := p0.toInt) (j := 65535) rfl rfl c67_9).2 κ) ?_
              show own_End p e below s (s₁.setTop (mkF m 70 #[.val (.int p0)] [])) _ _ _
              refine own_go (fun τ κ => XS.iconst X0.here hx rfl (hb hby d2_70) κ) ?_
              show own_End p e below s (s₁.setTop (mkF m 71 #[.val (.int p0)] [(.int (1 : Int32))])) _ _ _
              refine own_go (fun τ κ => XS.goto X0.here hx rfl (pc0 := 71) (pc' := 75) rfl (hb hby d2_71) (by decide) (by decide) κ) ?_
              show own_End p e below s (s₁.setTop (mkF m 75 #[.val (.int p0)] [(.int (1 : Int32))])) _ _ _
              refine own_ret X0 (v := some (.int (1 : Int32))) (fun h => by rw [Bd.returns] at h; cases h) Bd.notSynchronized (fun fs hr => retN X0 hx (t := .boolean) Bd.returns (by simp) (hb hby d2_75) hr) ?_ (by decide) (by decide)
              · rw [e0]; exact ⟨⟨_, rfl, Or.inr ⟨rfl, (fun hh => by rcases hh with hh | hh | hh | hh | hh | hh <;> omega)⟩⟩, N0, rfl⟩
            · skip
              refine own_go (fun τ κ => XS.icmpYes X0.here hx rfl (pc0 := 67) (pc' := 74) rfl (hb hby d2_67) rfl (own_ne (x := p0) (y := (65535 : Int32)) (i := p0.toInt) (j := 65535) rfl rfl c67_9).2 (by decide) (by decide) κ) ?_
              show own_End p e below s (s₁.setTop (mkF m 74 #[.val (.int p0)] [])) _ _ _
              refine own_go (fun τ κ => XS.iconst X0.here hx rfl (hb hby d2_74) κ) ?_
              show own_End p e below s (s₁.setTop (mkF m 75 #[.val (.int p0)] [(.int (0 : Int32))])) _ _ _
              refine own_ret X0 (v := some (.int (0 : Int32))) (fun h => by rw [Bd.returns] at h; cases h) Bd.notSynchronized (fun fs hr => retN X0 hx (t := .boolean) Bd.returns (by simp) (hb hby d2_75) hr) ?_ (by decide) (by decide)
              · rw [e0]; exact ⟨⟨_, rfl, Or.inl ⟨rfl, (show own_OK _ from (show _ ∨ _ ∨ _ ∨ _ ∨ _ ∨ _ from by omega))⟩⟩, N0, rfl⟩
        · skip
          refine own_go (fun τ κ => XS.icmpNo X0.here hx rfl (hb hby d2_47) rfl (own_flt (x := p0) (y := (55296 : Int32)) (i := p0.toInt) (j := 55296) rfl rfl c47_7).1 κ) ?_
          show own_End p e below s (s₁.setTop (mkF m 50 #[.val (.int p0)] [])) _ _ _
          refine own_go (fun τ κ => XS.iloadN X0.here hx rfl (hb hby d2_50) rfl κ) ?_
          show own_End p e below s (s₁.setTop (mkF m 51 #[.val (.int p0)] [(.int p0)])) _ _ _
          refine own_go (fun τ κ => X0.ldcInt hx hown (mvT hZ (hw _ (List.mem_of_getElem? (i := 3) rfl))) (g := (mkF m 51 #[.val (.int p0)] [(.int p0)])) rfl (hb hby d2_51) _ κ) ?_
          show own_End p e below s (s₁.setTop (mkF m 53 #[.val (.int p0)] [(.int (57343 : Int32)), (.int p0)])) _ _ _
          by_cases c53_10 : 57343 < p0.toInt
          · skip
            refine own_go (fun τ κ => XS.icmpYes X0.here hx rfl (pc0 := 53) (pc' := 58) rfl (hb hby d2_53) rfl (own_tlt (x := (57343 : Int32)) (y := p0) (i := 57343) (j := p0.toInt) rfl rfl c53_10).2.2.1 (by decide) (by decide) κ) ?_
            show own_End p e below s (s₁.setTop (mkF m 58 #[.val (.int p0)] [])) _ _ _
            refine own_go (fun τ κ => XS.iloadN X0.here hx rfl (hb hby d2_58) rfl κ) ?_
            show own_End p e below s (s₁.setTop (mkF m 59 #[.val (.int p0)] [(.int p0)])) _ _ _
            refine own_go (fun τ κ => X0.ldcInt hx hown (mvT hZ (hw _ (List.mem_of_getElem? (i := 6) rfl))) (g := (mkF m 59 #[.val (.int p0)] [(.int p0)])) rfl (hb hby d2_59) _ κ) ?_
            show own_End p e below s (s₁.setTop (mkF m 61 #[.val (.int p0)] [(.int (65534 : Int32)), (.int p0)])) _ _ _
            by_cases c61_11 : p0.toInt = 65534
            · skip
              refine own_go (fun τ κ => XS.icmpYes X0.here hx rfl (pc0 := 61) (pc' := 70) rfl (hb hby d2_61) rfl (own_eq (x := p0) (y := (65534 : Int32)) (i := p0.toInt) (j := 65534) rfl rfl c61_11).1 (by decide) (by decide) κ) ?_
              show own_End p e below s (s₁.setTop (mkF m 70 #[.val (.int p0)] [])) _ _ _
              refine own_go (fun τ κ => XS.iconst X0.here hx rfl (hb hby d2_70) κ) ?_
              show own_End p e below s (s₁.setTop (mkF m 71 #[.val (.int p0)] [(.int (1 : Int32))])) _ _ _
              refine own_go (fun τ κ => XS.goto X0.here hx rfl (pc0 := 71) (pc' := 75) rfl (hb hby d2_71) (by decide) (by decide) κ) ?_
              show own_End p e below s (s₁.setTop (mkF m 75 #[.val (.int p0)] [(.int (1 : Int32))])) _ _ _
              refine own_ret X0 (v := some (.int (1 : Int32))) (fun h => by rw [Bd.returns] at h; cases h) Bd.notSynchronized (fun fs hr => retN X0 hx (t := .boolean) Bd.returns (by simp) (hb hby d2_75) hr) ?_ (by decide) (by decide)
              · rw [e0]; exact ⟨⟨_, rfl, Or.inr ⟨rfl, (fun hh => by rcases hh with hh | hh | hh | hh | hh | hh <;> omega)⟩⟩, N0, rfl⟩
            · skip
              refine own_go (fun τ κ => XS.icmpNo X0.here hx rfl (hb hby d2_61) rfl (own_ne (x := p0) (y := (65534 : Int32)) (i := p0.toInt) (j := 65534) rfl rfl c61_11).1 κ) ?_
              show own_End p e below s (s₁.setTop (mkF m 64 #[.val (.int p0)] [])) _ _ _
              refine own_go (fun τ κ => XS.iloadN X0.here hx rfl (hb hby d2_64) rfl κ) ?_
              show own_End p e below s (s₁.setTop (mkF m 65 #[.val (.int p0)] [(.int p0)])) _ _ _
              refine own_go (fun τ κ => X0.ldcInt hx hown (mvT hZ (hw _ (List.mem_of_getElem? (i := 7) rfl))) (g := (mkF m 65 #[.val (.int p0)] [(.int p0)])) rfl (hb hby d2_65) _ κ) ?_
              show own_End p e below s (s₁.setTop (mkF m 67 #[.val (.int p0)] [(.int (65535 : Int32)), (.int p0)])) _ _ _
              by_cases c67_12 : p0.toInt = 65535
              · skip
                refine own_go (fun τ κ => XS.icmpNo X0.here hx rfl (hb hby d2_67) rfl (own_eq (x := p0) (y := (65535 : Int32)) (i := p0.toInt) (j := 65535) rfl rfl c67_12).2 κ) ?_
                show own_End p e below s (s₁.setTop (mkF m 70 #[.val (.int p0)] [])) _ _ _
                refine own_go (fun τ κ => XS.iconst X0.here hx rfl (hb hby d2_70) κ) ?_
                show own_End p e below s (s₁.setTop (mkF m 71 #[.val (.int p0)] [(.int (1 : Int32))])) _ _ _
                refine own_go (fun τ κ => XS.goto X0.here hx rfl (pc0 := 71) (pc' := 75) rfl (hb hby d2_71) (by decide) (by decide) κ) ?_
                show own_End p e below s (s₁.setTop (mkF m 75 #[.val (.int p0)] [(.int (1 : Int32))])) _ _ _
                refine own_ret X0 (v := some (.int (1 : Int32))) (fun h => by rw [Bd.returns] at h; cases h) Bd.notSynchronized (fun fs hr => retN X0 hx (t := .boolean) Bd.returns (by simp) (hb hby d2_75) hr) ?_ (by decide) (by decide)
                · rw [e0]; exact ⟨⟨_, rfl, Or.inr ⟨rfl, (fun hh => by rcases hh with hh | hh | hh | hh | hh | hh <;> omega)⟩⟩, N0, rfl⟩
              · skip
                refine own_go (fun τ κ => XS.icmpYes X0.here hx rfl (pc0 := 67) (pc' := 74) rfl (hb hby d2_67) rfl (own_ne (x := p0) (y := (65535 : Int32)) (i := p0.toInt) (j := 65535) rfl rfl c67_12).2 (by decide) (by decide) κ) ?_
                show own_End p e below s (s₁.setTop (mkF m 74 #[.val (.int p0)] [])) _ _ _
                refine own_go (fun τ κ => XS.iconst X0.here hx rfl (hb hby d2_74) κ) ?_
                show own_End p e below s (s₁.setTop (mkF m 75 #[.val (.int p0)] [(.int (0 : Int32))])) _ _ _
                refine own_ret X0 (v := some (.int (0 : Int32))) (fun h => by rw [Bd.returns] at h; cases h) Bd.notSynchronized (fun fs hr => retN X0 hx (t := .boolean) Bd.returns (by simp) (hb hby d2_75) hr) ?_ (by decide) (by decide)
                · rw [e0]; exact ⟨⟨_, rfl, Or.inl ⟨rfl, (show own_OK _ from (show _ ∨ _ ∨ _ ∨ _ ∨ _ ∨ _ from by omega))⟩⟩, N0, rfl⟩
          · skip
            refine own_go (fun τ κ => XS.icmpNo X0.here hx rfl (hb hby d2_53) rfl (own_flt (x := (57343 : Int32)) (y := p0) (i := 57343) (j := p0.toInt) rfl rfl c53_10).2.2.1 κ) ?_
            show own_End p e below s (s₁.setTop (mkF m 56 #[.val (.int p0)] [])) _ _ _
            refine own_go (fun τ κ => XS.iconst X0.here hx rfl (hb hby d2_56) κ) ?_
            show own_End p e below s (s₁.setTop (mkF m 57 #[.val (.int p0)] [(.int (1 : Int32))])) _ _ _
            refine own_ret X0 (v := some (.int (1 : Int32))) (fun h => by rw [Bd.returns] at h; cases h) Bd.notSynchronized (fun fs hr => retN X0 hx (t := .boolean) Bd.returns (by simp) (hb hby d2_57) hr) ?_ (by decide) (by decide)
            · rw [e0]; exact ⟨⟨_, rfl, Or.inr ⟨rfl, (fun hh => by rcases hh with hh | hh | hh | hh | hh | hh <;> omega)⟩⟩, N0, rfl⟩
theorem own_ef0_rm0 (m : MethodId) (p0 : Int32) (p1 : Int32) : entryFrame m #[(.int p0), (.int p1)] maxLocals = mkF m 0 #[.val (.int p0), .val (.int p1), .unset, .unset, .unset] [] := by first | (simp [entryFrame, mkF, argsToLocals, Value.category, maxLocals]; done) | rfl
def Q_rm0 (Z : State) (p0 : Int32) (p1 : Int32)  (h0 : Heap) (n0 : Nat) (v : Option Value) (h : Heap) (L : List Loc) : Prop := v = some (.int 1) ∧ Fr n0 L
theorem own_pd0 : parseMethodDescriptor "(I)Z" = some ⟨[.int], some .boolean⟩ := by decide +kernel
set_option maxRecDepth 65536 in
set_option maxHeartbeats 40000000 in
theorem rm0 (l : Launch) (Z : State) (a0 : Array Value) (hw : ∀ d ∈ tables_1, d.before a0 Z = true) (ws : List Jvm.Cond) (p0 : Int32) (p1 : Int32)  (h0 : Heap) (n0 : Nat) (Z0 : n0 ≤ h0.size)  :
    MetFree l x (head1 (Jvm.Cond.code x code maxLocals ret :: ws) room_1) (fun a U => a = #[(.int p0), (.int p1)] ∧ Z.Warmed39 U.vm ∧ U.heap = h0) (fun _ _ _ _ _ => True) (fun _ U o U' => ∃ v L, o = .returned v ∧ Q_rm0 Z p0 p1  h0 n0 v U'.heap L ∧ FrameEnd U o U' L room_1.cells room_1.slots) := by
  refine MetFree.of_bodySF (plainFor_of_name own_pn1) hisR ?_
  intro p e s m args below meth c s₁ Bd hml0 hP hK
  obtain ⟨rfl, hZ, hh⟩ := hP
  have hx := Bd.exec
  have hby := Bd.bytes
  have hml : c.maxLocals = 5 := hml0
  have hown : s.vm.findClass "com/example/borough_wire/boroughwire/wire/XmlWriterIsXmlCharPinLaw" = some m.cls := findClass_of_methodNamed Bd.named
  have hnm := (name_of_methodNamed Bd.named Bd.method).1
  have X0 : Stand p l e room_1 s m #[(.int p0), (.int p1)] below meth c s₁ [] 0 0 := Stand.of_body Bd
  have e0 : s₁.heap = h0 := by rw [← hh, Bd.state]; rfl
  have N0 := Fr.nil n0
  refine (show own_End p e below s (s₁.setTop (entryFrame m #[(.int p0), (.int p1)] maxLocals)) (Q_rm0 Z p0 p1  h0 n0) room_1.cells room_1.slots from ?_)
  refine own_go (fun τ κ => castTop (own_ef0_rm0 m p0 p1) κ) ?_
  have li0 : (0 : Int32).toInt = 0 := rfl
  have li1 : (1 : Int32).toInt = 1 := rfl
  show own_End p e below s (s₁.setTop (mkF m 0 #[.val (.int p0), .val (.int p1), .unset, .unset, .unset] [])) _ _ _
  refine own_go (fun τ κ => XS.bipush X0.here hx rfl (hb hby at_0) κ) ?_
  show own_End p e below s (s₁.setTop (mkF m 2 #[.val (.int p0), .val (.int p1), .unset, .unset, .unset] [(.int (23 : Int32))])) _ _ _
  obtain ⟨T1, h1, k1, X1, e1, E1, A1, st1⟩ := newP X0 hx hZ (hw _ (List.mem_of_getElem? (i := 0) rfl)) e0 (g := (mkF m 2 #[.val (.int p0), .val (.int p1), .unset, .unset, .unset] [(.int (23 : Int32))])) rfl (hb hby at_2) rfl (by decide) (cap := 23) (by decide) (by decide) (by decide) (by decide)
  obtain ⟨b1, g1⟩ : ∃ z, z = h0.size := ⟨_, rfl⟩
  rw [← g1] at A1 st1
  have g_b1 : n0 ≤ b1 := Nat.le_trans Z0 (Nat.le_of_eq g1.symm)
  have Z1 : n0 ≤ h1.size := Nat.le_trans Z0 E1.1
  have V_b1 : Arv Z h1 b1 k1 .int (23 : Int32) [(.int (0 : Int32)), (.int (0 : Int32)), (.int (0 : Int32)), (.int (0 : Int32)), (.int (0 : Int32)), (.int (0 : Int32)), (.int (0 : Int32)), (.int (0 : Int32)), (.int (0 : Int32)), (.int (0 : Int32)), (.int (0 : Int32)), (.int (0 : Int32)), (.int (0 : Int32)), (.int (0 : Int32)), (.int (0 : Int32)), (.int (0 : Int32)), (.int (0 : Int32)), (.int (0 : Int32)), (.int (0 : Int32)), (.int (0 : Int32)), (.int (0 : Int32)), (.int (0 : Int32)), (.int (0 : Int32))] (.int (0 : Int32)) := (Arv.new A1 (by decide)).pad (pad_rep [] (.int (0 : Int32)) 23)
  refine own_go st1 ?_
  show own_End p e below s (T1.setTop (mkF m 4 #[.val (.int p0), .val (.int p1), .unset, .unset, .unset] [(.ref b1)])) _ _ _
  refine own_go (fun τ κ => XS.dup X1.here hx rfl (hb hby at_4) rfl rfl κ) ?_
  show own_End p e below s (T1.setTop (mkF m 5 #[.val (.int p0), .val (.int p1), .unset, .unset, .unset] [(.ref b1), (.ref b1)])) _ _ _
  refine own_go (fun τ κ => XS.iconst X1.here hx rfl (hb hby at_5) κ) ?_
  show own_End p e below s (T1.setTop (mkF m 6 #[.val (.int p0), .val (.int p1), .unset, .unset, .unset] [(.int (0 : Int32)), (.ref b1), (.ref b1)])) _ _ _
  refine own_go (fun τ κ => XS.iconst X1.here hx rfl (hb hby at_6) κ) ?_
  show own_End p e below s (T1.setTop (mkF m 7 #[.val (.int p0), .val (.int p1), .unset, .unset, .unset] [(.int (0 : Int32)), (.int (0 : Int32)), (.ref b1), (.ref b1)])) _ _ _
  obtain ⟨cl2, Ar2, qa2, Sq2, Mq2, Hh2, Gq2⟩ := id V_b1
  have hin2 : ¬ ((0 : Int32) < 0 ∨ cl2.slots.size ≤ ((0 : Int32)).toNatClampNeg) := inb_of Sq2 ⟨by decide, by decide⟩
  obtain ⟨T3, h3, X3, e3, W3, st3⟩ := stI X1 hx hZ e1 Ar2 (j := (0 : Int32)) hin2 (g := (mkF m 7 #[.val (.int p0), .val (.int p1), .unset, .unset, .unset] [(.int (0 : Int32)), (.int (0 : Int32)), (.ref b1), (.ref b1)])) rfl rfl (hb hby at_7)
  have V_b1_3 : Arv Z h3 b1 k1 .int (23 : Int32) [(.int (0 : Int32)), (.int (0 : Int32)), (.int (0 : Int32)), (.int (0 : Int32)), (.int (0 : Int32)), (.int (0 : Int32)), (.int (0 : Int32)), (.int (0 : Int32)), (.int (0 : Int32)), (.int (0 : Int32)), (.int (0 : Int32)), (.int (0 : Int32)), (.int (0 : Int32)), (.int (0 : Int32)), (.int (0 : Int32)), (.int (0 : Int32)), (.int (0 : Int32)), (.int (0 : Int32)), (.int (0 : Int32)), (.int (0 : Int32)), (.int (0 : Int32)), (.int (0 : Int32)), (.int (0 : Int32))] (.int (0 : Int32)) := Arv.set Ar2 qa2 Sq2 Mq2 Hh2 Gq2 rfl W3 0 rfl (Nat.le_of_ble_eq_true rfl)
  have N3 := Fr.snoc X3 N0 g_b1
  obtain ⟨ls3, Xl3, Nl3⟩ := own_abs X3 N3
  have Z3 : n0 ≤ h3.size := Nat.le_trans Z1 (Keep.of_wr W3).1
  refine own_go st3 ?_
  show own_End p e below s (T3.setTop (mkF m 8 #[.val (.int p0), .val (.int p1), .unset, .unset, .unset] [(.ref b1)])) _ _ _
  refine own_go (fun τ κ => XS.dup Xl3.here hx rfl (hb hby at_8) rfl rfl κ) ?_
  show own_End p e below s (T3.setTop (mkF m 9 #[.val (.int p0), .val (.int p1), .unset, .unset, .unset] [(.ref b1), (.ref b1)])) _ _ _
  refine own_go (fun τ κ => XS.iconst Xl3.here hx rfl (hb hby at_9) κ) ?_
  show own_End p e below s (T3.setTop (mkF m 10 #[.val (.int p0), .val (.int p1), .unset, .unset, .unset] [(.int (1 : Int32)), (.ref b1), (.ref b1)])) _ _ _
  refine own_go (fun τ κ => XS.bipush Xl3.here hx rfl (hb hby at_10) κ) ?_
  show own_End p e below s (T3.setTop (mkF m 12 #[.val (.int p0), .val (.int p1), .unset, .unset, .unset] [(.int (8 : Int32)), (.int (1 : Int32)), (.ref b1), (.ref b1)])) _ _ _
  obtain ⟨cl4, Ar4, qa4, Sq4, Mq4, Hh4, Gq4⟩ := id V_b1_3
  have hin4 : ¬ ((1 : Int32) < 0 ∨ cl4.slots.size ≤ ((1 : Int32)).toNatClampNeg) := inb_of Sq4 ⟨by decide, by decide⟩
  obtain ⟨T5, h5, X5, e5, W5, st5⟩ := stI Xl3 hx hZ e3 Ar4 (j := (1 : Int32)) hin4 (g := (mkF m 12 #[.val (.int p0), .val (.int p1), .unset, .unset, .unset] [(.int (8 : Int32)), (.int (1 : Int32)), (.ref b1), (.ref b1)])) rfl rfl (hb hby at_12)
  have V_b1_5 : Arv Z h5 b1 k1 .int (23 : Int32) [(.int (0 : Int32)), (.int (8 : Int32)), (.int (0 : Int32)), (.int (0 : Int32)), (.int (0 : Int32)), (.int (0 : Int32)), (.int (0 : Int32)), (.int (0 : Int32)), (.int (0 : Int32)), (.int (0 : Int32)), (.int (0 : Int32)), (.int (0 : Int32)), (.int (0 : Int32)), (.int (0 : Int32)), (.int (0 : Int32)), (.int (0 : Int32)), (.int (0 : Int32)), (.int (0 : Int32)), (.int (0 : Int32)), (.int (0 : Int32)), (.int (0 : Int32)), (.int (0 : Int32)), (.int (0 : Int32))] (.int (0 : Int32)) := Arv.set Ar4 qa4 Sq4 Mq4 Hh4 Gq4 rfl W5 1 rfl (Nat.le_of_ble_eq_true rfl)
  have N5 := Fr.snoc X5 Nl3 g_b1
  obtain ⟨ls5, Xl5, Nl5⟩ := own_abs X5 N5
  have Z5 : n0 ≤ h5.size := Nat.le_trans Z3 (Keep.of_wr W5).1
  refine own_go st5 ?_
  show own_End p e below s (T5.setTop (mkF m 13 #[.val (.int p0), .val (.int p1), .unset, .unset, .unset] [(.ref b1)])) _ _ _
  refine own_go (fun τ κ => XS.dup Xl5.here hx rfl (hb hby at_13) rfl rfl κ) ?_
  show own_End p e below s (T5.setTop (mkF m 14 #[.val (.int p0), .val (.int p1), .unset, .unset, .unset] [(.ref b1), (.ref b1)])) _ _ _
  refine own_go (fun τ κ => XS.iconst Xl5.here hx rfl (hb hby at_14) κ) ?_
  show own_End p e below s (T5.setTop (mkF m 15 #[.val (.int p0), .val (.int p1), .unset, .unset, .unset] [(.int (2 : Int32)), (.ref b1), (.ref b1)])) _ _ _
  refine own_go (fun τ κ => XS.bipush Xl5.here hx rfl (hb hby at_15) κ) ?_
  show own_End p e below s (T5.setTop (mkF m 17 #[.val (.int p0), .val (.int p1), .unset, .unset, .unset] [(.int (9 : Int32)), (.int (2 : Int32)), (.ref b1), (.ref b1)])) _ _ _
  obtain ⟨cl6, Ar6, qa6, Sq6, Mq6, Hh6, Gq6⟩ := id V_b1_5
  have hin6 : ¬ ((2 : Int32) < 0 ∨ cl6.slots.size ≤ ((2 : Int32)).toNatClampNeg) := inb_of Sq6 ⟨by decide, by decide⟩
  obtain ⟨T7, h7, X7, e7, W7, st7⟩ := stI Xl5 hx hZ e5 Ar6 (j := (2 : Int32)) hin6 (g := (mkF m 17 #[.val (.int p0), .val (.int p1), .unset, .unset, .unset] [(.int (9 : Int32)), (.int (2 : Int32)), (.ref b1), (.ref b1)])) rfl rfl (hb hby at_17)
  have V_b1_7 : Arv Z h7 b1 k1 .int (23 : Int32) [(.int (0 : Int32)), (.int (8 : Int32)), (.int (9 : Int32)), (.int (0 : Int32)), (.int (0 : Int32)), (.int (0 : Int32)), (.int (0 : Int32)), (.int (0 : Int32)), (.int (0 : Int32)), (.int (0 : Int32)), (.int (0 : Int32)), (.int (0 : Int32)), (.int (0 : Int32)), (.int (0 : Int32)), (.int (0 : Int32)), (.int (0 : Int32)), (.int (0 : Int32)), (.int (0 : Int32)), (.int (0 : Int32)), (.int (0 : Int32)), (.int (0 : Int32)), (.int (0 : Int32)), (.int (0 : Int32))] (.int (0 : Int32)) := Arv.set Ar6 qa6 Sq6 Mq6 Hh6 Gq6 rfl W7 2 rfl (Nat.le_of_ble_eq_true rfl)
  have N7 := Fr.snoc X7 Nl5 g_b1
  obtain ⟨ls7, Xl7, Nl7⟩ := own_abs X7 N7
  have Z7 : n0 ≤ h7.size := Nat.le_trans Z5 (Keep.of_wr W7).1
  refine own_go st7 ?_
  show own_End p e below s (T7.setTop (mkF m 18 #[.val (.int p0), .val (.int p1), .unset, .unset, .unset] [(.ref b1)])) _ _ _
  refine own_go (fun τ κ => XS.dup Xl7.here hx rfl (hb hby at_18) rfl rfl κ) ?_
  show own_End p e below s (T7.setTop (mkF m 19 #[.val (.int p0), .val (.int p1), .unset, .unset, .unset] [(.ref b1), (.ref b1)])) _ _ _
  refine own_go (fun τ κ => XS.iconst Xl7.here hx rfl (hb hby at_19) κ) ?_
  show own_End p e below s (T7.setTop (mkF m 20 #[.val (.int p0), .val (.int p1), .unset, .unset, .unset] [(.int (3 : Int32)), (.ref b1), (.ref b1)])) _ _ _
  refine own_go (fun τ κ => XS.bipush Xl7.here hx rfl (hb hby at_20) κ) ?_
  show own_End p e below s (T7.setTop (mkF m 22 #[.val (.int p0), .val (.int p1), .unset, .unset, .unset] [(.int (10 : Int32)), (.int (3 : Int32)), (.ref b1), (.ref b1)])) _ _ _
  obtain ⟨cl8, Ar8, qa8, Sq8, Mq8, Hh8, Gq8⟩ := id V_b1_7
  have hin8 : ¬ ((3 : Int32) < 0 ∨ cl8.slots.size ≤ ((3 : Int32)).toNatClampNeg) := inb_of Sq8 ⟨by decide, by decide⟩
  obtain ⟨T9, h9, X9, e9, W9, st9⟩ := stI Xl7 hx hZ e7 Ar8 (j := (3 : Int32)) hin8 (g := (mkF m 22 #[.val (.int p0), .val (.int p1), .unset, .unset, .unset] [(.int (10 : Int32)), (.int (3 : Int32)), (.ref b1), (.ref b1)])) rfl rfl (hb hby at_22)
  have V_b1_9 : Arv Z h9 b1 k1 .int (23 : Int32) [(.int (0 : Int32)), (.int (8 : Int32)), (.int (9 : Int32)), (.int (10 : Int32)), (.int (0 : Int32)), (.int (0 : Int32)), (.int (0 : Int32)), (.int (0 : Int32)), (.int (0 : Int32)), (.int (0 : Int32)), (.int (0 : Int32)), (.int (0 : Int32)), (.int (0 : Int32)), (.int (0 : Int32)), (.int (0 : Int32)), (.int (0 : Int32)), (.int (0 : Int32)), (.int (0 : Int32)), (.int (0 : Int32)), (.int (0 : Int32)), (.int (0 : Int32)), (.int (0 : Int32)), (.int (0 : Int32))] (.int (0 : Int32)) := Arv.set Ar8 qa8 Sq8 Mq8 Hh8 Gq8 rfl W9 3 rfl (Nat.le_of_ble_eq_true rfl)
  have N9 := Fr.snoc X9 Nl7 g_b1
  obtain ⟨ls9, Xl9, Nl9⟩ := own_abs X9 N9
  have Z9 : n0 ≤ h9.size := Nat.le_trans Z7 (Keep.of_wr W9).1
  refine own_go st9 ?_
  show own_End p e below s (T9.setTop (mkF m 23 #[.val (.int p0), .val (.int p1), .unset, .unset, .unset] [(.ref b1)])) _ _ _
  refine own_go (fun τ κ => XS.dup Xl9.here hx rfl (hb hby at_23) rfl rfl κ) ?_
  show own_End p e below s (T9.setTop (mkF m 24 #[.val (.int p0), .val (.int p1), .unset, .unset, .unset] [(.ref b1), (.ref b1)])) _ _ _
  refine own_go (fun τ κ => XS.iconst Xl9.here hx rfl (hb hby at_24) κ) ?_
  show own_End p e below s (T9.setTop (mkF m 25 #[.val (.int p0), .val (.int p1), .unset, .unset, .unset] [(.int (4 : Int32)), (.ref b1), (.ref b1)])) _ _ _
  refine own_go (fun τ κ => XS.bipush Xl9.here hx rfl (hb hby at_25) κ) ?_
  show own_End p e below s (T9.setTop (mkF m 27 #[.val (.int p0), .val (.int p1), .unset, .unset, .unset] [(.int (11 : Int32)), (.int (4 : Int32)), (.ref b1), (.ref b1)])) _ _ _
  obtain ⟨cl10, Ar10, qa10, Sq10, Mq10, Hh10, Gq10⟩ := id V_b1_9
  have hin10 : ¬ ((4 : Int32) < 0 ∨ cl10.slots.size ≤ ((4 : Int32)).toNatClampNeg) := inb_of Sq10 ⟨by decide, by decide⟩
  obtain ⟨T11, h11, X11, e11, W11, st11⟩ := stI Xl9 hx hZ e9 Ar10 (j := (4 : Int32)) hin10 (g := (mkF m 27 #[.val (.int p0), .val (.int p1), .unset, .unset, .unset] [(.int (11 : Int32)), (.int (4 : Int32)), (.ref b1), (.ref b1)])) rfl rfl (hb hby at_27)
  have V_b1_11 : Arv Z h11 b1 k1 .int (23 : Int32) [(.int (0 : Int32)), (.int (8 : Int32)), (.int (9 : Int32)), (.int (10 : Int32)), (.int (11 : Int32)), (.int (0 : Int32)), (.int (0 : Int32)), (.int (0 : Int32)), (.int (0 : Int32)), (.int (0 : Int32)), (.int (0 : Int32)), (.int (0 : Int32)), (.int (0 : Int32)), (.int (0 : Int32)), (.int (0 : Int32)), (.int (0 : Int32)), (.int (0 : Int32)), (.int (0 : Int32)), (.int (0 : Int32)), (.int (0 : Int32)), (.int (0 : Int32)), (.int (0 : Int32)), (.int (0 : Int32))] (.int (0 : Int32)) := Arv.set Ar10 qa10 Sq10 Mq10 Hh10 Gq10 rfl W11 4 rfl (Nat.le_of_ble_eq_true rfl)
  have N11 := Fr.snoc X11 Nl9 g_b1
  obtain ⟨ls11, Xl11, Nl11⟩ := own_abs X11 N11
  have Z11 : n0 ≤ h11.size := Nat.le_trans Z9 (Keep.of_wr W11).1
  refine own_go st11 ?_
  show own_End p e below s (T11.setTop (mkF m 28 #[.val (.int p0), .val (.int p1), .unset, .unset, .unset] [(.ref b1)])) _ _ _
  refine own_go (fun τ κ => XS.dup Xl11.here hx rfl (hb hby at_28) rfl rfl κ) ?_
  show own_End p e below s (T11.setTop (mkF m 29 #[.val (.int p0), .val (.int p1), .unset, .unset, .unset] [(.ref b1), (.ref b1)])) _ _ _
  refine own_go (fun τ κ => XS.iconst Xl11.here hx rfl (hb hby at_29) κ) ?_
  show own_End p e below s (T11.setTop (mkF m 30 #[.val (.int p0), .val (.int p1), .unset, .unset, .unset] [(.int (5 : Int32)), (.ref b1), (.ref b1)])) _ _ _
  refine own_go (fun τ κ => XS.bipush Xl11.here hx rfl (hb hby at_30) κ) ?_
  show own_End p e below s (T11.setTop (mkF m 32 #[.val (.int p0), .val (.int p1), .unset, .unset, .unset] [(.int (12 : Int32)), (.int (5 : Int32)), (.ref b1), (.ref b1)])) _ _ _
  obtain ⟨cl12, Ar12, qa12, Sq12, Mq12, Hh12, Gq12⟩ := id V_b1_11
  have hin12 : ¬ ((5 : Int32) < 0 ∨ cl12.slots.size ≤ ((5 : Int32)).toNatClampNeg) := inb_of Sq12 ⟨by decide, by decide⟩
  obtain ⟨T13, h13, X13, e13, W13, st13⟩ := stI Xl11 hx hZ e11 Ar12 (j := (5 : Int32)) hin12 (g := (mkF m 32 #[.val (.int p0), .val (.int p1), .unset, .unset, .unset] [(.int (12 : Int32)), (.int (5 : Int32)), (.ref b1), (.ref b1)])) rfl rfl (hb hby at_32)
  have V_b1_13 : Arv Z h13 b1 k1 .int (23 : Int32) [(.int (0 : Int32)), (.int (8 : Int32)), (.int (9 : Int32)), (.int (10 : Int32)), (.int (11 : Int32)), (.int (12 : Int32)), (.int (0 : Int32)), (.int (0 : Int32)), (.int (0 : Int32)), (.int (0 : Int32)), (.int (0 : Int32)), (.int (0 : Int32)), (.int (0 : Int32)), (.int (0 : Int32)), (.int (0 : Int32)), (.int (0 : Int32)), (.int (0 : Int32)), (.int (0 : Int32)), (.int (0 : Int32)), (.int (0 : Int32)), (.int (0 : Int32)), (.int (0 : Int32)), (.int (0 : Int32))] (.int (0 : Int32)) := Arv.set Ar12 qa12 Sq12 Mq12 Hh12 Gq12 rfl W13 5 rfl (Nat.le_of_ble_eq_true rfl)
  have N13 := Fr.snoc X13 Nl11 g_b1
  obtain ⟨ls13, Xl13, Nl13⟩ := own_abs X13 N13
  have Z13 : n0 ≤ h13.size := Nat.le_trans Z11 (Keep.of_wr W13).1
  refine own_go st13 ?_
  show own_End p e below s (T13.setTop (mkF m 33 #[.val (.int p0), .val (.int p1), .unset, .unset, .unset] [(.ref b1)])) _ _ _
  refine own_go (fun τ κ => XS.dup Xl13.here hx rfl (hb hby at_33) rfl rfl κ) ?_
  show own_End p e below s (T13.setTop (mkF m 34 #[.val (.int p0), .val (.int p1), .unset, .unset, .unset] [(.ref b1), (.ref b1)])) _ _ _
  refine own_go (fun τ κ => XS.bipush Xl13.here hx rfl (hb hby at_34) κ) ?_
  show own_End p e below s (T13.setTop (mkF m 36 #[.val (.int p0), .val (.int p1), .unset, .unset, .unset] [(.int (6 : Int32)), (.ref b1), (.ref b1)])) _ _ _
  refine own_go (fun τ κ => XS.bipush Xl13.here hx rfl (hb hby at_36) κ) ?_
  show own_End p e below s (T13.setTop (mkF m 38 #[.val (.int p0), .val (.int p1), .unset, .unset, .unset] [(.int (13 : Int32)), (.int (6 : Int32)), (.ref b1), (.ref b1)])) _ _ _
  obtain ⟨cl14, Ar14, qa14, Sq14, Mq14, Hh14, Gq14⟩ := id V_b1_13
  have hin14 : ¬ ((6 : Int32) < 0 ∨ cl14.slots.size ≤ ((6 : Int32)).toNatClampNeg) := inb_of Sq14 ⟨by decide, by decide⟩
  obtain ⟨T15, h15, X15, e15, W15, st15⟩ := stI Xl13 hx hZ e13 Ar14 (j := (6 : Int32)) hin14 (g := (mkF m 38 #[.val (.int p0), .val (.int p1), .unset, .unset, .unset] [(.int (13 : Int32)), (.int (6 : Int32)), (.ref b1), (.ref b1)])) rfl rfl (hb hby at_38)
  have V_b1_15 : Arv Z h15 b1 k1 .int (23 : Int32) [(.int (0 : Int32)), (.int (8 : Int32)), (.int (9 : Int32)), (.int (10 : Int32)), (.int (11 : Int32)), (.int (12 : Int32)), (.int (13 : Int32)), (.int (0 : Int32)), (.int (0 : Int32)), (.int (0 : Int32)), (.int (0 : Int32)), (.int (0 : Int32)), (.int (0 : Int32)), (.int (0 : Int32)), (.int (0 : Int32)), (.int (0 : Int32)), (.int (0 : Int32)), (.int (0 : Int32)), (.int (0 : Int32)), (.int (0 : Int32)), (.int (0 : Int32)), (.int (0 : Int32)), (.int (0 : Int32))] (.int (0 : Int32)) := Arv.set Ar14 qa14 Sq14 Mq14 Hh14 Gq14 rfl W15 6 rfl (Nat.le_of_ble_eq_true rfl)
  have N15 := Fr.snoc X15 Nl13 g_b1
  obtain ⟨ls15, Xl15, Nl15⟩ := own_abs X15 N15
  have Z15 : n0 ≤ h15.size := Nat.le_trans Z13 (Keep.of_wr W15).1
  refine own_go st15 ?_
  show own_End p e below s (T15.setTop (mkF m 39 #[.val (.int p0), .val (.int p1), .unset, .unset, .unset] [(.ref b1)])) _ _ _
  refine own_go (fun τ κ => XS.dup Xl15.here hx rfl (hb hby at_39) rfl rfl κ) ?_
  show own_End p e below s (T15.setTop (mkF m 40 #[.val (.int p0), .val (.int p1), .unset, .unset, .unset] [(.ref b1), (.ref b1)])) _ _ _
  refine own_go (fun τ κ => XS.bipush Xl15.here hx rfl (hb hby at_40) κ) ?_
  show own_End p e below s (T15.setTop (mkF m 42 #[.val (.int p0), .val (.int p1), .unset, .unset, .unset] [(.int (7 : Int32)), (.ref b1), (.ref b1)])) _ _ _
  refine own_go (fun τ κ => XS.bipush Xl15.here hx rfl (hb hby at_42) κ) ?_
  show own_End p e below s (T15.setTop (mkF m 44 #[.val (.int p0), .val (.int p1), .unset, .unset, .unset] [(.int (14 : Int32)), (.int (7 : Int32)), (.ref b1), (.ref b1)])) _ _ _
  obtain ⟨cl16, Ar16, qa16, Sq16, Mq16, Hh16, Gq16⟩ := id V_b1_15
  have hin16 : ¬ ((7 : Int32) < 0 ∨ cl16.slots.size ≤ ((7 : Int32)).toNatClampNeg) := inb_of Sq16 ⟨by decide, by decide⟩
  obtain ⟨T17, h17, X17, e17, W17, st17⟩ := stI Xl15 hx hZ e15 Ar16 (j := (7 : Int32)) hin16 (g := (mkF m 44 #[.val (.int p0), .val (.int p1), .unset, .unset, .unset] [(.int (14 : Int32)), (.int (7 : Int32)), (.ref b1), (.ref b1)])) rfl rfl (hb hby at_44)
  have V_b1_17 : Arv Z h17 b1 k1 .int (23 : Int32) [(.int (0 : Int32)), (.int (8 : Int32)), (.int (9 : Int32)), (.int (10 : Int32)), (.int (11 : Int32)), (.int (12 : Int32)), (.int (13 : Int32)), (.int (14 : Int32)), (.int (0 : Int32)), (.int (0 : Int32)), (.int (0 : Int32)), (.int (0 : Int32)), (.int (0 : Int32)), (.int (0 : Int32)), (.int (0 : Int32)), (.int (0 : Int32)), (.int (0 : Int32)), (.int (0 : Int32)), (.int (0 : Int32)), (.int (0 : Int32)), (.int (0 : Int32)), (.int (0 : Int32)), (.int (0 : Int32))] (.int (0 : Int32)) := Arv.set Ar16 qa16 Sq16 Mq16 Hh16 Gq16 rfl W17 7 rfl (Nat.le_of_ble_eq_true rfl)
  have N17 := Fr.snoc X17 Nl15 g_b1
  obtain ⟨ls17, Xl17, Nl17⟩ := own_abs X17 N17
  have Z17 : n0 ≤ h17.size := Nat.le_trans Z15 (Keep.of_wr W17).1
  refine own_go st17 ?_
  show own_End p e below s (T17.setTop (mkF m 45 #[.val (.int p0), .val (.int p1), .unset, .unset, .unset] [(.ref b1)])) _ _ _
  refine own_go (fun τ κ => XS.dup Xl17.here hx rfl (hb hby at_45) rfl rfl κ) ?_
  show own_End p e below s (T17.setTop (mkF m 46 #[.val (.int p0), .val (.int p1), .unset, .unset, .unset] [(.ref b1), (.ref b1)])) _ _ _
  refine own_go (fun τ κ => XS.bipush Xl17.here hx rfl (hb hby at_46) κ) ?_
  show own_End p e below s (T17.setTop (mkF m 48 #[.val (.int p0), .val (.int p1), .unset, .unset, .unset] [(.int (8 : Int32)), (.ref b1), (.ref b1)])) _ _ _
  refine own_go (fun τ κ => XS.bipush Xl17.here hx rfl (hb hby at_48) κ) ?_
  show own_End p e below s (T17.setTop (mkF m 50 #[.val (.int p0), .val (.int p1), .unset, .unset, .unset] [(.int (31 : Int32)), (.int (8 : Int32)), (.ref b1), (.ref b1)])) _ _ _
  obtain ⟨cl18, Ar18, qa18, Sq18, Mq18, Hh18, Gq18⟩ := id V_b1_17
  have hin18 : ¬ ((8 : Int32) < 0 ∨ cl18.slots.size ≤ ((8 : Int32)).toNatClampNeg) := inb_of Sq18 ⟨by decide, by decide⟩
  obtain ⟨T19, h19, X19, e19, W19, st19⟩ := stI Xl17 hx hZ e17 Ar18 (j := (8 : Int32)) hin18 (g := (mkF m 50 #[.val (.int p0), .val (.int p1), .unset, .unset, .unset] [(.int (31 : Int32)), (.int (8 : Int32)), (.ref b1), (.ref b1)])) rfl rfl (hb hby at_50)
  have V_b1_19 : Arv Z h19 b1 k1 .int (23 : Int32) [(.int (0 : Int32)), (.int (8 : Int32)), (.int (9 : Int32)), (.int (10 : Int32)), (.int (11 : Int32)), (.int (12 : Int32)), (.int (13 : Int32)), (.int (14 : Int32)), (.int (31 : Int32)), (.int (0 : Int32)), (.int (0 : Int32)), (.int (0 : Int32)), (.int (0 : Int32)), (.int (0 : Int32)), (.int (0 : Int32)), (.int (0 : Int32)), (.int (0 : Int32)), (.int (0 : Int32)), (.int (0 : Int32)), (.int (0 : Int32)), (.int (0 : Int32)), (.int (0 : Int32)), (.int (0 : Int32))] (.int (0 : Int32)) := Arv.set Ar18 qa18 Sq18 Mq18 Hh18 Gq18 rfl W19 8 rfl (Nat.le_of_ble_eq_true rfl)
  have N19 := Fr.snoc X19 Nl17 g_b1
  obtain ⟨ls19, Xl19, Nl19⟩ := own_abs X19 N19
  have Z19 : n0 ≤ h19.size := Nat.le_trans Z17 (Keep.of_wr W19).1
  refine own_go st19 ?_
  show own_End p e below s (T19.setTop (mkF m 51 #[.val (.int p0), .val (.int p1), .unset, .unset, .unset] [(.ref b1)])) _ _ _
  refine own_go (fun τ κ => XS.dup Xl19.here hx rfl (hb hby at_51) rfl rfl κ) ?_
  show own_End p e below s (T19.setTop (mkF m 52 #[.val (.int p0), .val (.int p1), .unset, .unset, .unset] [(.ref b1), (.ref b1)])) _ _ _
  refine own_go (fun τ κ => XS.bipush Xl19.here hx rfl (hb hby at_52) κ) ?_
  show own_End p e below s (T19.setTop (mkF m 54 #[.val (.int p0), .val (.int p1), .unset, .unset, .unset] [(.int (9 : Int32)), (.ref b1), (.ref b1)])) _ _ _
  refine own_go (fun τ κ => XS.bipush Xl19.here hx rfl (hb hby at_54) κ) ?_
  show own_End p e below s (T19.setTop (mkF m 56 #[.val (.int p0), .val (.int p1), .unset, .unset, .unset] [(.int (32 : Int32)), (.int (9 : Int32)), (.ref b1), (.ref b1)])) _ _ _
  obtain ⟨cl20, Ar20, qa20, Sq20, Mq20, Hh20, Gq20⟩ := id V_b1_19
  have hin20 : ¬ ((9 : Int32) < 0 ∨ cl20.slots.size ≤ ((9 : Int32)).toNatClampNeg) := inb_of Sq20 ⟨by decide, by decide⟩
  obtain ⟨T21, h21, X21, e21, W21, st21⟩ := stI Xl19 hx hZ e19 Ar20 (j := (9 : Int32)) hin20 (g := (mkF m 56 #[.val (.int p0), .val (.int p1), .unset, .unset, .unset] [(.int (32 : Int32)), (.int (9 : Int32)), (.ref b1), (.ref b1)])) rfl rfl (hb hby at_56)
  have V_b1_21 : Arv Z h21 b1 k1 .int (23 : Int32) [(.int (0 : Int32)), (.int (8 : Int32)), (.int (9 : Int32)), (.int (10 : Int32)), (.int (11 : Int32)), (.int (12 : Int32)), (.int (13 : Int32)), (.int (14 : Int32)), (.int (31 : Int32)), (.int (32 : Int32)), (.int (0 : Int32)), (.int (0 : Int32)), (.int (0 : Int32)), (.int (0 : Int32)), (.int (0 : Int32)), (.int (0 : Int32)), (.int (0 : Int32)), (.int (0 : Int32)), (.int (0 : Int32)), (.int (0 : Int32)), (.int (0 : Int32)), (.int (0 : Int32)), (.int (0 : Int32))] (.int (0 : Int32)) := Arv.set Ar20 qa20 Sq20 Mq20 Hh20 Gq20 rfl W21 9 rfl (Nat.le_of_ble_eq_true rfl)
  have N21 := Fr.snoc X21 Nl19 g_b1
  obtain ⟨ls21, Xl21, Nl21⟩ := own_abs X21 N21
  have Z21 : n0 ≤ h21.size := Nat.le_trans Z19 (Keep.of_wr W21).1
  refine own_go st21 ?_
  show own_End p e below s (T21.setTop (mkF m 57 #[.val (.int p0), .val (.int p1), .unset, .unset, .unset] [(.ref b1)])) _ _ _
  refine own_go (fun τ κ => XS.dup Xl21.here hx rfl (hb hby at_57) rfl rfl κ) ?_
  show own_End p e below s (T21.setTop (mkF m 58 #[.val (.int p0), .val (.int p1), .unset, .unset, .unset] [(.ref b1), (.ref b1)])) _ _ _
  refine own_go (fun τ κ => XS.bipush Xl21.here hx rfl (hb hby at_58) κ) ?_
  show own_End p e below s (T21.setTop (mkF m 60 #[.val (.int p0), .val (.int p1), .unset, .unset, .unset] [(.int (10 : Int32)), (.ref b1), (.ref b1)])) _ _ _
  refine own_go (fun τ κ => Xl21.ldcInt hx hown (mvT hZ (hw _ (List.mem_of_getElem? (i := 1) rfl))) (g := (mkF m 60 #[.val (.int p0), .val (.int p1), .unset, .unset, .unset] [(.int (10 : Int32)), (.ref b1), (.ref b1)])) rfl (hb hby at_60) _ κ) ?_
  show own_End p e below s (T21.setTop (mkF m 62 #[.val (.int p0), .val (.int p1), .unset, .unset, .unset] [(.int (55295 : Int32)), (.int (10 : Int32)), (.ref b1), (.ref b1)])) _ _ _
  obtain ⟨cl22, Ar22, qa22, Sq22, Mq22, Hh22, Gq22⟩ := id V_b1_21
  have hin22 : ¬ ((10 : Int32) < 0 ∨ cl22.slots.size ≤ ((10 : Int32)).toNatClampNeg) := inb_of Sq22 ⟨by decide, by decide⟩
  obtain ⟨T23, h23, X23, e23, W23, st23⟩ := stI Xl21 hx hZ e21 Ar22 (j := (10 : Int32)) hin22 (g := (mkF m 62 #[.val (.int p0), .val (.int p1), .unset, .unset, .unset] [(.int (55295 : Int32)), (.int (10 : Int32)), (.ref b1), (.ref b1)])) rfl rfl (hb hby at_62)
  have V_b1_23 : Arv Z h23 b1 k1 .int (23 : Int32) [(.int (0 : Int32)), (.int (8 : Int32)), (.int (9 : Int32)), (.int (10 : Int32)), (.int (11 : Int32)), (.int (12 : Int32)), (.int (13 : Int32)), (.int (14 : Int32)), (.int (31 : Int32)), (.int (32 : Int32)), (.int (55295 : Int32)), (.int (0 : Int32)), (.int (0 : Int32)), (.int (0 : Int32)), (.int (0 : Int32)), (.int (0 : Int32)), (.int (0 : Int32)), (.int (0 : Int32)), (.int (0 : Int32)), (.int (0 : Int32)), (.int (0 : Int32)), (.int (0 : Int32)), (.int (0 : Int32))] (.int (0 : Int32)) := Arv.set Ar22 qa22 Sq22 Mq22 Hh22 Gq22 rfl W23 10 rfl (Nat.le_of_ble_eq_true rfl)
  have N23 := Fr.snoc X23 Nl21 g_b1
  obtain ⟨ls23, Xl23, Nl23⟩ := own_abs X23 N23
  have Z23 : n0 ≤ h23.size := Nat.le_trans Z21 (Keep.of_wr W23).1
  refine own_go st23 ?_
  show own_End p e below s (T23.setTop (mkF m 63 #[.val (.int p0), .val (.int p1), .unset, .unset, .unset] [(.ref b1)])) _ _ _
  refine own_go (fun τ κ => XS.dup Xl23.here hx rfl (hb hby at_63) rfl rfl κ) ?_
  show own_End p e below s (T23.setTop (mkF m 64 #[.val (.int p0), .val (.int p1), .unset, .unset, .unset] [(.ref b1), (.ref b1)])) _ _ _
  refine own_go (fun τ κ => XS.bipush Xl23.here hx rfl (hb hby at_64) κ) ?_
  show own_End p e below s (T23.setTop (mkF m 66 #[.val (.int p0), .val (.int p1), .unset, .unset, .unset] [(.int (11 : Int32)), (.ref b1), (.ref b1)])) _ _ _
  refine own_go (fun τ κ => Xl23.ldcInt hx hown (mvT hZ (hw _ (List.mem_of_getElem? (i := 2) rfl))) (g := (mkF m 66 #[.val (.int p0), .val (.int p1), .unset, .unset, .unset] [(.int (11 : Int32)), (.ref b1), (.ref b1)])) rfl (hb hby at_66) _ κ) ?_
  show own_End p e below s (T23.setTop (mkF m 68 #[.val (.int p0), .val (.int p1), .unset, .unset, .unset] [(.int (55296 : Int32)), (.int (11 : Int32)), (.ref b1), (.ref b1)])) _ _ _
  obtain ⟨cl24, Ar24, qa24, Sq24, Mq24, Hh24, Gq24⟩ := id V_b1_23
  have hin24 : ¬ ((11 : Int32) < 0 ∨ cl24.slots.size ≤ ((11 : Int32)).toNatClampNeg) := inb_of Sq24 ⟨by decide, by decide⟩
  obtain ⟨T25, h25, X25, e25, W25, st25⟩ := stI Xl23 hx hZ e23 Ar24 (j := (11 : Int32)) hin24 (g := (mkF m 68 #[.val (.int p0), .val (.int p1), .unset, .unset, .unset] [(.int (55296 : Int32)), (.int (11 : Int32)), (.ref b1), (.ref b1)])) rfl rfl (hb hby at_68)
  have V_b1_25 : Arv Z h25 b1 k1 .int (23 : Int32) [(.int (0 : Int32)), (.int (8 : Int32)), (.int (9 : Int32)), (.int (10 : Int32)), (.int (11 : Int32)), (.int (12 : Int32)), (.int (13 : Int32)), (.int (14 : Int32)), (.int (31 : Int32)), (.int (32 : Int32)), (.int (55295 : Int32)), (.int (55296 : Int32)), (.int (0 : Int32)), (.int (0 : Int32)), (.int (0 : Int32)), (.int (0 : Int32)), (.int (0 : Int32)), (.int (0 : Int32)), (.int (0 : Int32)), (.int (0 : Int32)), (.int (0 : Int32)), (.int (0 : Int32)), (.int (0 : Int32))] (.int (0 : Int32)) := Arv.set Ar24 qa24 Sq24 Mq24 Hh24 Gq24 rfl W25 11 rfl (Nat.le_of_ble_eq_true rfl)
  have N25 := Fr.snoc X25 Nl23 g_b1
  obtain ⟨ls25, Xl25, Nl25⟩ := own_abs X25 N25
  have Z25 : n0 ≤ h25.size := Nat.le_trans Z23 (Keep.of_wr W25).1
  refine own_go st25 ?_
  show own_End p e below s (T25.setTop (mkF m 69 #[.val (.int p0), .val (.int p1), .unset, .unset, .unset] [(.ref b1)])) _ _ _
  refine own_go (fun τ κ => XS.dup Xl25.here hx rfl (hb hby at_69) rfl rfl κ) ?_
  show own_End p e below s (T25.setTop (mkF m 70 #[.val (.int p0), .val (.int p1), .unset, .unset, .unset] [(.ref b1), (.ref b1)])) _ _ _
  refine own_go (fun τ κ => XS.bipush Xl25.here hx rfl (hb hby at_70) κ) ?_
  show own_End p e below s (T25.setTop (mkF m 72 #[.val (.int p0), .val (.int p1), .unset, .unset, .unset] [(.int (12 : Int32)), (.ref b1), (.ref b1)])) _ _ _
  refine own_go (fun τ κ => Xl25.ldcInt hx hown (mvT hZ (hw _ (List.mem_of_getElem? (i := 3) rfl))) (g := (mkF m 72 #[.val (.int p0), .val (.int p1), .unset, .unset, .unset] [(.int (12 : Int32)), (.ref b1), (.ref b1)])) rfl (hb hby at_72) _ κ) ?_
  show own_End p e below s (T25.setTop (mkF m 74 #[.val (.int p0), .val (.int p1), .unset, .unset, .unset] [(.int (57343 : Int32)), (.int (12 : Int32)), (.ref b1), (.ref b1)])) _ _ _
  obtain ⟨cl26, Ar26, qa26, Sq26, Mq26, Hh26, Gq26⟩ := id V_b1_25
  have hin26 : ¬ ((12 : Int32) < 0 ∨ cl26.slots.size ≤ ((12 : Int32)).toNatClampNeg) := inb_of Sq26 ⟨by decide, by decide⟩
  obtain ⟨T27, h27, X27, e27, W27, st27⟩ := stI Xl25 hx hZ e25 Ar26 (j := (12 : Int32)) hin26 (g := (mkF m 74 #[.val (.int p0), .val (.int p1), .unset, .unset, .unset] [(.int (57343 : Int32)), (.int (12 : Int32)), (.ref b1), (.ref b1)])) rfl rfl (hb hby at_74)
  have V_b1_27 : Arv Z h27 b1 k1 .int (23 : Int32) [(.int (0 : Int32)), (.int (8 : Int32)), (.int (9 : Int32)), (.int (10 : Int32)), (.int (11 : Int32)), (.int (12 : Int32)), (.int (13 : Int32)), (.int (14 : Int32)), (.int (31 : Int32)), (.int (32 : Int32)), (.int (55295 : Int32)), (.int (55296 : Int32)), (.int (57343 : Int32)), (.int (0 : Int32)), (.int (0 : Int32)), (.int (0 : Int32)), (.int (0 : Int32)), (.int (0 : Int32)), (.int (0 : Int32)), (.int (0 : Int32)), (.int (0 : Int32)), (.int (0 : Int32)), (.int (0 : Int32))] (.int (0 : Int32)) := Arv.set Ar26 qa26 Sq26 Mq26 Hh26 Gq26 rfl W27 12 rfl (Nat.le_of_ble_eq_true rfl)
  have N27 := Fr.snoc X27 Nl25 g_b1
  obtain ⟨ls27, Xl27, Nl27⟩ := own_abs X27 N27
  have Z27 : n0 ≤ h27.size := Nat.le_trans Z25 (Keep.of_wr W27).1
  refine own_go st27 ?_
  show own_End p e below s (T27.setTop (mkF m 75 #[.val (.int p0), .val (.int p1), .unset, .unset, .unset] [(.ref b1)])) _ _ _
  refine own_go (fun τ κ => XS.dup Xl27.here hx rfl (hb hby at_75) rfl rfl κ) ?_
  show own_End p e below s (T27.setTop (mkF m 76 #[.val (.int p0), .val (.int p1), .unset, .unset, .unset] [(.ref b1), (.ref b1)])) _ _ _
  refine own_go (fun τ κ => XS.bipush Xl27.here hx rfl (hb hby at_76) κ) ?_
  show own_End p e below s (T27.setTop (mkF m 78 #[.val (.int p0), .val (.int p1), .unset, .unset, .unset] [(.int (13 : Int32)), (.ref b1), (.ref b1)])) _ _ _
  refine own_go (fun τ κ => Xl27.ldcInt hx hown (mvT hZ (hw _ (List.mem_of_getElem? (i := 4) rfl))) (g := (mkF m 78 #[.val (.int p0), .val (.int p1), .unset, .unset, .unset] [(.int (13 : Int32)), (.ref b1), (.ref b1)])) rfl (hb hby at_78) _ κ) ?_
  show own_End p e below s (T27.setTop (mkF m 80 #[.val (.int p0), .val (.int p1), .unset, .unset, .unset] [(.int (57344 : Int32)), (.int (13 : Int32)), (.ref b1), (.ref b1)])) _ _ _
  obtain ⟨cl28, Ar28, qa28, Sq28, Mq28, Hh28, Gq28⟩ := id V_b1_27
  have hin28 : ¬ ((13 : Int32) < 0 ∨ cl28.slots.size ≤ ((13 : Int32)).toNatClampNeg) := inb_of Sq28 ⟨by decide, by decide⟩
  obtain ⟨T29, h29, X29, e29, W29, st29⟩ := stI Xl27 hx hZ e27 Ar28 (j := (13 : Int32)) hin28 (g := (mkF m 80 #[.val (.int p0), .val (.int p1), .unset, .unset, .unset] [(.int (57344 : Int32)), (.int (13 : Int32)), (.ref b1), (.ref b1)])) rfl rfl (hb hby at_80)
  have V_b1_29 : Arv Z h29 b1 k1 .int (23 : Int32) [(.int (0 : Int32)), (.int (8 : Int32)), (.int (9 : Int32)), (.int (10 : Int32)), (.int (11 : Int32)), (.int (12 : Int32)), (.int (13 : Int32)), (.int (14 : Int32)), (.int (31 : Int32)), (.int (32 : Int32)), (.int (55295 : Int32)), (.int (55296 : Int32)), (.int (57343 : Int32)), (.int (57344 : Int32)), (.int (0 : Int32)), (.int (0 : Int32)), (.int (0 : Int32)), (.int (0 : Int32)), (.int (0 : Int32)), (.int (0 : Int32)), (.int (0 : Int32)), (.int (0 : Int32)), (.int (0 : Int32))] (.int (0 : Int32)) := Arv.set Ar28 qa28 Sq28 Mq28 Hh28 Gq28 rfl W29 13 rfl (Nat.le_of_ble_eq_true rfl)
  have N29 := Fr.snoc X29 Nl27 g_b1
  obtain ⟨ls29, Xl29, Nl29⟩ := own_abs X29 N29
  have Z29 : n0 ≤ h29.size := Nat.le_trans Z27 (Keep.of_wr W29).1
  refine own_go st29 ?_
  show own_End p e below s (T29.setTop (mkF m 81 #[.val (.int p0), .val (.int p1), .unset, .unset, .unset] [(.ref b1)])) _ _ _
  refine own_go (fun τ κ => XS.dup Xl29.here hx rfl (hb hby at_81) rfl rfl κ) ?_
  show own_End p e below s (T29.setTop (mkF m 82 #[.val (.int p0), .val (.int p1), .unset, .unset, .unset] [(.ref b1), (.ref b1)])) _ _ _
  refine own_go (fun τ κ => XS.bipush Xl29.here hx rfl (hb hby at_82) κ) ?_
  show own_End p e below s (T29.setTop (mkF m 84 #[.val (.int p0), .val (.int p1), .unset, .unset, .unset] [(.int (14 : Int32)), (.ref b1), (.ref b1)])) _ _ _
  refine own_go (fun τ κ => Xl29.ldcInt hx hown (mvT hZ (hw _ (List.mem_of_getElem? (i := 5) rfl))) (g := (mkF m 84 #[.val (.int p0), .val (.int p1), .unset, .unset, .unset] [(.int (14 : Int32)), (.ref b1), (.ref b1)])) rfl (hb hby at_84) _ κ) ?_
  show own_End p e below s (T29.setTop (mkF m 86 #[.val (.int p0), .val (.int p1), .unset, .unset, .unset] [(.int (65533 : Int32)), (.int (14 : Int32)), (.ref b1), (.ref b1)])) _ _ _
  obtain ⟨cl30, Ar30, qa30, Sq30, Mq30, Hh30, Gq30⟩ := id V_b1_29
  have hin30 : ¬ ((14 : Int32) < 0 ∨ cl30.slots.size ≤ ((14 : Int32)).toNatClampNeg) := inb_of Sq30 ⟨by decide, by decide⟩
  obtain ⟨T31, h31, X31, e31, W31, st31⟩ := stI Xl29 hx hZ e29 Ar30 (j := (14 : Int32)) hin30 (g := (mkF m 86 #[.val (.int p0), .val (.int p1), .unset, .unset, .unset] [(.int (65533 : Int32)), (.int (14 : Int32)), (.ref b1), (.ref b1)])) rfl rfl (hb hby at_86)
  have V_b1_31 : Arv Z h31 b1 k1 .int (23 : Int32) [(.int (0 : Int32)), (.int (8 : Int32)), (.int (9 : Int32)), (.int (10 : Int32)), (.int (11 : Int32)), (.int (12 : Int32)), (.int (13 : Int32)), (.int (14 : Int32)), (.int (31 : Int32)), (.int (32 : Int32)), (.int (55295 : Int32)), (.int (55296 : Int32)), (.int (57343 : Int32)), (.int (57344 : Int32)), (.int (65533 : Int32)), (.int (0 : Int32)), (.int (0 : Int32)), (.int (0 : Int32)), (.int (0 : Int32)), (.int (0 : Int32)), (.int (0 : Int32)), (.int (0 : Int32)), (.int (0 : Int32))] (.int (0 : Int32)) := Arv.set Ar30 qa30 Sq30 Mq30 Hh30 Gq30 rfl W31 14 rfl (Nat.le_of_ble_eq_true rfl)
  have N31 := Fr.snoc X31 Nl29 g_b1
  obtain ⟨ls31, Xl31, Nl31⟩ := own_abs X31 N31
  have Z31 : n0 ≤ h31.size := Nat.le_trans Z29 (Keep.of_wr W31).1
  refine own_go st31 ?_
  show own_End p e below s (T31.setTop (mkF m 87 #[.val (.int p0), .val (.int p1), .unset, .unset, .unset] [(.ref b1)])) _ _ _
  refine own_go (fun τ κ => XS.dup Xl31.here hx rfl (hb hby at_87) rfl rfl κ) ?_
  show own_End p e below s (T31.setTop (mkF m 88 #[.val (.int p0), .val (.int p1), .unset, .unset, .unset] [(.ref b1), (.ref b1)])) _ _ _
  refine own_go (fun τ κ => XS.bipush Xl31.here hx rfl (hb hby at_88) κ) ?_
  show own_End p e below s (T31.setTop (mkF m 90 #[.val (.int p0), .val (.int p1), .unset, .unset, .unset] [(.int (15 : Int32)), (.ref b1), (.ref b1)])) _ _ _
  refine own_go (fun τ κ => Xl31.ldcInt hx hown (mvT hZ (hw _ (List.mem_of_getElem? (i := 6) rfl))) (g := (mkF m 90 #[.val (.int p0), .val (.int p1), .unset, .unset, .unset] [(.int (15 : Int32)), (.ref b1), (.ref b1)])) rfl (hb hby at_90) _ κ) ?_
  show own_End p e below s (T31.setTop (mkF m 92 #[.val (.int p0), .val (.int p1), .unset, .unset, .unset] [(.int (65534 : Int32)), (.int (15 : Int32)), (.ref b1), (.ref b1)])) _ _ _
  obtain ⟨cl32, Ar32, qa32, Sq32, Mq32, Hh32, Gq32⟩ := id V_b1_31
  have hin32 : ¬ ((15 : Int32) < 0 ∨ cl32.slots.size ≤ ((15 : Int32)).toNatClampNeg) := inb_of Sq32 ⟨by decide, by decide⟩
  obtain ⟨T33, h33, X33, e33, W33, st33⟩ := stI Xl31 hx hZ e31 Ar32 (j := (15 : Int32)) hin32 (g := (mkF m 92 #[.val (.int p0), .val (.int p1), .unset, .unset, .unset] [(.int (65534 : Int32)), (.int (15 : Int32)), (.ref b1), (.ref b1)])) rfl rfl (hb hby at_92)
  have V_b1_33 : Arv Z h33 b1 k1 .int (23 : Int32) [(.int (0 : Int32)), (.int (8 : Int32)), (.int (9 : Int32)), (.int (10 : Int32)), (.int (11 : Int32)), (.int (12 : Int32)), (.int (13 : Int32)), (.int (14 : Int32)), (.int (31 : Int32)), (.int (32 : Int32)), (.int (55295 : Int32)), (.int (55296 : Int32)), (.int (57343 : Int32)), (.int (57344 : Int32)), (.int (65533 : Int32)), (.int (65534 : Int32)), (.int (0 : Int32)), (.int (0 : Int32)), (.int (0 : Int32)), (.int (0 : Int32)), (.int (0 : Int32)), (.int (0 : Int32)), (.int (0 : Int32))] (.int (0 : Int32)) := Arv.set Ar32 qa32 Sq32 Mq32 Hh32 Gq32 rfl W33 15 rfl (Nat.le_of_ble_eq_true rfl)
  have N33 := Fr.snoc X33 Nl31 g_b1
  obtain ⟨ls33, Xl33, Nl33⟩ := own_abs X33 N33
  have Z33 : n0 ≤ h33.size := Nat.le_trans Z31 (Keep.of_wr W33).1
  refine own_go st33 ?_
  show own_End p e below s (T33.setTop (mkF m 93 #[.val (.int p0), .val (.int p1), .unset, .unset, .unset] [(.ref b1)])) _ _ _
  refine own_go (fun τ κ => XS.dup Xl33.here hx rfl (hb hby at_93) rfl rfl κ) ?_
  show own_End p e below s (T33.setTop (mkF m 94 #[.val (.int p0), .val (.int p1), .unset, .unset, .unset] [(.ref b1), (.ref b1)])) _ _ _
  refine own_go (fun τ κ => XS.bipush Xl33.here hx rfl (hb hby at_94) κ) ?_
  show own_End p e below s (T33.setTop (mkF m 96 #[.val (.int p0), .val (.int p1), .unset, .unset, .unset] [(.int (16 : Int32)), (.ref b1), (.ref b1)])) _ _ _
  refine own_go (fun τ κ => Xl33.ldcInt hx hown (mvT hZ (hw _ (List.mem_of_getElem? (i := 7) rfl))) (g := (mkF m 96 #[.val (.int p0), .val (.int p1), .unset, .unset, .unset] [(.int (16 : Int32)), (.ref b1), (.ref b1)])) rfl (hb hby at_96) _ κ) ?_
  show own_End p e below s (T33.setTop (mkF m 98 #[.val (.int p0), .val (.int p1), .unset, .unset, .unset] [(.int (65535 : Int32)), (.int (16 : Int32)), (.ref b1), (.ref b1)])) _ _ _
  obtain ⟨cl34, Ar34, qa34, Sq34, Mq34, Hh34, Gq34⟩ := id V_b1_33
  have hin34 : ¬ ((16 : Int32) < 0 ∨ cl34.slots.size ≤ ((16 : Int32)).toNatClampNeg) := inb_of Sq34 ⟨by decide, by decide⟩
  obtain ⟨T35, h35, X35, e35, W35, st35⟩ := stI Xl33 hx hZ e33 Ar34 (j := (16 : Int32)) hin34 (g := (mkF m 98 #[.val (.int p0), .val (.int p1), .unset, .unset, .unset] [(.int (65535 : Int32)), (.int (16 : Int32)), (.ref b1), (.ref b1)])) rfl rfl (hb hby at_98)
  have V_b1_35 : Arv Z h35 b1 k1 .int (23 : Int32) [(.int (0 : Int32)), (.int (8 : Int32)), (.int (9 : Int32)), (.int (10 : Int32)), (.int (11 : Int32)), (.int (12 : Int32)), (.int (13 : Int32)), (.int (14 : Int32)), (.int (31 : Int32)), (.int (32 : Int32)), (.int (55295 : Int32)), (.int (55296 : Int32)), (.int (57343 : Int32)), (.int (57344 : Int32)), (.int (65533 : Int32)), (.int (65534 : Int32)), (.int (65535 : Int32)), (.int (0 : Int32)), (.int (0 : Int32)), (.int (0 : Int32)), (.int (0 : Int32)), (.int (0 : Int32)), (.int (0 : Int32))] (.int (0 : Int32)) := Arv.set Ar34 qa34 Sq34 Mq34 Hh34 Gq34 rfl W35 16 rfl (Nat.le_of_ble_eq_true rfl)
  have N35 := Fr.snoc X35 Nl33 g_b1
  obtain ⟨ls35, Xl35, Nl35⟩ := own_abs X35 N35
  have Z35 : n0 ≤ h35.size := Nat.le_trans Z33 (Keep.of_wr W35).1
  refine own_go st35 ?_
  show own_End p e below s (T35.setTop (mkF m 99 #[.val (.int p0), .val (.int p1), .unset, .unset, .unset] [(.ref b1)])) _ _ _
  refine own_go (fun τ κ => XS.dup Xl35.here hx rfl (hb hby at_99) rfl rfl κ) ?_
  show own_End p e below s (T35.setTop (mkF m 100 #[.val (.int p0), .val (.int p1), .unset, .unset, .unset] [(.ref b1), (.ref b1)])) _ _ _
  refine own_go (fun τ κ => XS.bipush Xl35.here hx rfl (hb hby at_100) κ) ?_
  show own_End p e below s (T35.setTop (mkF m 102 #[.val (.int p0), .val (.int p1), .unset, .unset, .unset] [(.int (17 : Int32)), (.ref b1), (.ref b1)])) _ _ _
  refine own_go (fun τ κ => Xl35.ldcInt hx hown (mvT hZ (hw _ (List.mem_of_getElem? (i := 8) rfl))) (g := (mkF m 102 #[.val (.int p0), .val (.int p1), .unset, .unset, .unset] [(.int (17 : Int32)), (.ref b1), (.ref b1)])) rfl (hb hby at_102) _ κ) ?_
  show own_End p e below s (T35.setTop (mkF m 104 #[.val (.int p0), .val (.int p1), .unset, .unset, .unset] [(.int (65536 : Int32)), (.int (17 : Int32)), (.ref b1), (.ref b1)])) _ _ _
  obtain ⟨cl36, Ar36, qa36, Sq36, Mq36, Hh36, Gq36⟩ := id V_b1_35
  have hin36 : ¬ ((17 : Int32) < 0 ∨ cl36.slots.size ≤ ((17 : Int32)).toNatClampNeg) := inb_of Sq36 ⟨by decide, by decide⟩
  obtain ⟨T37, h37, X37, e37, W37, st37⟩ := stI Xl35 hx hZ e35 Ar36 (j := (17 : Int32)) hin36 (g := (mkF m 104 #[.val (.int p0), .val (.int p1), .unset, .unset, .unset] [(.int (65536 : Int32)), (.int (17 : Int32)), (.ref b1), (.ref b1)])) rfl rfl (hb hby at_104)
  have V_b1_37 : Arv Z h37 b1 k1 .int (23 : Int32) [(.int (0 : Int32)), (.int (8 : Int32)), (.int (9 : Int32)), (.int (10 : Int32)), (.int (11 : Int32)), (.int (12 : Int32)), (.int (13 : Int32)), (.int (14 : Int32)), (.int (31 : Int32)), (.int (32 : Int32)), (.int (55295 : Int32)), (.int (55296 : Int32)), (.int (57343 : Int32)), (.int (57344 : Int32)), (.int (65533 : Int32)), (.int (65534 : Int32)), (.int (65535 : Int32)), (.int (65536 : Int32)), (.int (0 : Int32)), (.int (0 : Int32)), (.int (0 : Int32)), (.int (0 : Int32)), (.int (0 : Int32))] (.int (0 : Int32)) := Arv.set Ar36 qa36 Sq36 Mq36 Hh36 Gq36 rfl W37 17 rfl (Nat.le_of_ble_eq_true rfl)
  have N37 := Fr.snoc X37 Nl35 g_b1
  obtain ⟨ls37, Xl37, Nl37⟩ := own_abs X37 N37
  have Z37 : n0 ≤ h37.size := Nat.le_trans Z35 (Keep.of_wr W37).1
  refine own_go st37 ?_
  show own_End p e below s (T37.setTop (mkF m 105 #[.val (.int p0), .val (.int p1), .unset, .unset, .unset] [(.ref b1)])) _ _ _
  refine own_go (fun τ κ => XS.dup Xl37.here hx rfl (hb hby at_105) rfl rfl κ) ?_
  show own_End p e below s (T37.setTop (mkF m 106 #[.val (.int p0), .val (.int p1), .unset, .unset, .unset] [(.ref b1), (.ref b1)])) _ _ _
  refine own_go (fun τ κ => XS.bipush Xl37.here hx rfl (hb hby at_106) κ) ?_
  show own_End p e below s (T37.setTop (mkF m 108 #[.val (.int p0), .val (.int p1), .unset, .unset, .unset] [(.int (18 : Int32)), (.ref b1), (.ref b1)])) _ _ _
  refine own_go (fun τ κ => Xl37.ldcInt hx hown (mvT hZ (hw _ (List.mem_of_getElem? (i := 9) rfl))) (g := (mkF m 108 #[.val (.int p0), .val (.int p1), .unset, .unset, .unset] [(.int (18 : Int32)), (.ref b1), (.ref b1)])) rfl (hb hby at_108) _ κ) ?_
  show own_End p e below s (T37.setTop (mkF m 110 #[.val (.int p0), .val (.int p1), .unset, .unset, .unset] [(.int (1114111 : Int32)), (.int (18 : Int32)), (.ref b1), (.ref b1)])) _ _ _
  obtain ⟨cl38, Ar38, qa38, Sq38, Mq38, Hh38, Gq38⟩ := id V_b1_37
  have hin38 : ¬ ((18 : Int32) < 0 ∨ cl38.slots.size ≤ ((18 : Int32)).toNatClampNeg) := inb_of Sq38 ⟨by decide, by decide⟩
  obtain ⟨T39, h39, X39, e39, W39, st39⟩ := stI Xl37 hx hZ e37 Ar38 (j := (18 : Int32)) hin38 (g := (mkF m 110 #[.val (.int p0), .val (.int p1), .unset, .unset, .unset] [(.int (1114111 : Int32)), (.int (18 : Int32)), (.ref b1), (.ref b1)])) rfl rfl (hb hby at_110)
  have V_b1_39 : Arv Z h39 b1 k1 .int (23 : Int32) [(.int (0 : Int32)), (.int (8 : Int32)), (.int (9 : Int32)), (.int (10 : Int32)), (.int (11 : Int32)), (.int (12 : Int32)), (.int (13 : Int32)), (.int (14 : Int32)), (.int (31 : Int32)), (.int (32 : Int32)), (.int (55295 : Int32)), (.int (55296 : Int32)), (.int (57343 : Int32)), (.int (57344 : Int32)), (.int (65533 : Int32)), (.int (65534 : Int32)), (.int (65535 : Int32)), (.int (65536 : Int32)), (.int (1114111 : Int32)), (.int (0 : Int32)), (.int (0 : Int32)), (.int (0 : Int32)), (.int (0 : Int32))] (.int (0 : Int32)) := Arv.set Ar38 qa38 Sq38 Mq38 Hh38 Gq38 rfl W39 18 rfl (Nat.le_of_ble_eq_true rfl)
  have N39 := Fr.snoc X39 Nl37 g_b1
  obtain ⟨ls39, Xl39, Nl39⟩ := own_abs X39 N39
  have Z39 : n0 ≤ h39.size := Nat.le_trans Z37 (Keep.of_wr W39).1
  refine own_go st39 ?_
  show own_End p e below s (T39.setTop (mkF m 111 #[.val (.int p0), .val (.int p1), .unset, .unset, .unset] [(.ref b1)])) _ _ _
  refine own_go (fun τ κ => XS.dup Xl39.here hx rfl (hb hby at_111) rfl rfl κ) ?_
  show own_End p e below s (T39.setTop (mkF m 112 #[.val (.int p0), .val (.int p1), .unset, .unset, .unset] [(.ref b1), (.ref b1)])) _ _ _
  refine own_go (fun τ κ => XS.bipush Xl39.here hx rfl (hb hby at_112) κ) ?_
  show own_End p e below s (T39.setTop (mkF m 114 #[.val (.int p0), .val (.int p1), .unset, .unset, .unset] [(.int (19 : Int32)), (.ref b1), (.ref b1)])) _ _ _
  refine own_go (fun τ κ => Xl39.ldcInt hx hown (mvT hZ (hw _ (List.mem_of_getElem? (i := 10) rfl))) (g := (mkF m 114 #[.val (.int p0), .val (.int p1), .unset, .unset, .unset] [(.int (19 : Int32)), (.ref b1), (.ref b1)])) rfl (hb hby at_114) _ κ) ?_
  show own_End p e below s (T39.setTop (mkF m 116 #[.val (.int p0), .val (.int p1), .unset, .unset, .unset] [(.int (1114112 : Int32)), (.int (19 : Int32)), (.ref b1), (.ref b1)])) _ _ _
  obtain ⟨cl40, Ar40, qa40, Sq40, Mq40, Hh40, Gq40⟩ := id V_b1_39
  have hin40 : ¬ ((19 : Int32) < 0 ∨ cl40.slots.size ≤ ((19 : Int32)).toNatClampNeg) := inb_of Sq40 ⟨by decide, by decide⟩
  obtain ⟨T41, h41, X41, e41, W41, st41⟩ := stI Xl39 hx hZ e39 Ar40 (j := (19 : Int32)) hin40 (g := (mkF m 116 #[.val (.int p0), .val (.int p1), .unset, .unset, .unset] [(.int (1114112 : Int32)), (.int (19 : Int32)), (.ref b1), (.ref b1)])) rfl rfl (hb hby at_116)
  have V_b1_41 : Arv Z h41 b1 k1 .int (23 : Int32) [(.int (0 : Int32)), (.int (8 : Int32)), (.int (9 : Int32)), (.int (10 : Int32)), (.int (11 : Int32)), (.int (12 : Int32)), (.int (13 : Int32)), (.int (14 : Int32)), (.int (31 : Int32)), (.int (32 : Int32)), (.int (55295 : Int32)), (.int (55296 : Int32)), (.int (57343 : Int32)), (.int (57344 : Int32)), (.int (65533 : Int32)), (.int (65534 : Int32)), (.int (65535 : Int32)), (.int (65536 : Int32)), (.int (1114111 : Int32)), (.int (1114112 : Int32)), (.int (0 : Int32)), (.int (0 : Int32)), (.int (0 : Int32))] (.int (0 : Int32)) := Arv.set Ar40 qa40 Sq40 Mq40 Hh40 Gq40 rfl W41 19 rfl (Nat.le_of_ble_eq_true rfl)
  have N41 := Fr.snoc X41 Nl39 g_b1
  obtain ⟨ls41, Xl41, Nl41⟩ := own_abs X41 N41
  have Z41 : n0 ≤ h41.size := Nat.le_trans Z39 (Keep.of_wr W41).1
  refine own_go st41 ?_
  show own_End p e below s (T41.setTop (mkF m 117 #[.val (.int p0), .val (.int p1), .unset, .unset, .unset] [(.ref b1)])) _ _ _
  refine own_go (fun τ κ => XS.dup Xl41.here hx rfl (hb hby at_117) rfl rfl κ) ?_
  show own_End p e below s (T41.setTop (mkF m 118 #[.val (.int p0), .val (.int p1), .unset, .unset, .unset] [(.ref b1), (.ref b1)])) _ _ _
  refine own_go (fun τ κ => XS.bipush Xl41.here hx rfl (hb hby at_118) κ) ?_
  show own_End p e below s (T41.setTop (mkF m 120 #[.val (.int p0), .val (.int p1), .unset, .unset, .unset] [(.int (20 : Int32)), (.ref b1), (.ref b1)])) _ _ _
  refine own_go (fun τ κ => XS.iconst Xl41.here hx rfl (hb hby at_120) κ) ?_
  show own_End p e below s (T41.setTop (mkF m 121 #[.val (.int p0), .val (.int p1), .unset, .unset, .unset] [(.int (-1 : Int32)), (.int (20 : Int32)), (.ref b1), (.ref b1)])) _ _ _
  obtain ⟨cl42, Ar42, qa42, Sq42, Mq42, Hh42, Gq42⟩ := id V_b1_41
  have hin42 : ¬ ((20 : Int32) < 0 ∨ cl42.slots.size ≤ ((20 : Int32)).toNatClampNeg) := inb_of Sq42 ⟨by decide, by decide⟩
  obtain ⟨T43, h43, X43, e43, W43, st43⟩ := stI Xl41 hx hZ e41 Ar42 (j := (20 : Int32)) hin42 (g := (mkF m 121 #[.val (.int p0), .val (.int p1), .unset, .unset, .unset] [(.int (-1 : Int32)), (.int (20 : Int32)), (.ref b1), (.ref b1)])) rfl rfl (hb hby at_121)
  have V_b1_43 : Arv Z h43 b1 k1 .int (23 : Int32) [(.int (0 : Int32)), (.int (8 : Int32)), (.int (9 : Int32)), (.int (10 : Int32)), (.int (11 : Int32)), (.int (12 : Int32)), (.int (13 : Int32)), (.int (14 : Int32)), (.int (31 : Int32)), (.int (32 : Int32)), (.int (55295 : Int32)), (.int (55296 : Int32)), (.int (57343 : Int32)), (.int (57344 : Int32)), (.int (65533 : Int32)), (.int (65534 : Int32)), (.int (65535 : Int32)), (.int (65536 : Int32)), (.int (1114111 : Int32)), (.int (1114112 : Int32)), (.int (-1 : Int32)), (.int (0 : Int32)), (.int (0 : Int32))] (.int (0 : Int32)) := Arv.set Ar42 qa42 Sq42 Mq42 Hh42 Gq42 rfl W43 20 rfl (Nat.le_of_ble_eq_true rfl)
  have N43 := Fr.snoc X43 Nl41 g_b1
  obtain ⟨ls43, Xl43, Nl43⟩ := own_abs X43 N43
  have Z43 : n0 ≤ h43.size := Nat.le_trans Z41 (Keep.of_wr W43).1
  refine own_go st43 ?_
  show own_End p e below s (T43.setTop (mkF m 122 #[.val (.int p0), .val (.int p1), .unset, .unset, .unset] [(.ref b1)])) _ _ _
  refine own_go (fun τ κ => XS.dup Xl43.here hx rfl (hb hby at_122) rfl rfl κ) ?_
  show own_End p e below s (T43.setTop (mkF m 123 #[.val (.int p0), .val (.int p1), .unset, .unset, .unset] [(.ref b1), (.ref b1)])) _ _ _
  refine own_go (fun τ κ => XS.bipush Xl43.here hx rfl (hb hby at_123) κ) ?_
  show own_End p e below s (T43.setTop (mkF m 125 #[.val (.int p0), .val (.int p1), .unset, .unset, .unset] [(.int (21 : Int32)), (.ref b1), (.ref b1)])) _ _ _
  refine own_go (fun τ κ => Xl43.ldcInt hx hown (mvT hZ (hw _ (List.mem_of_getElem? (i := 11) rfl))) (g := (mkF m 125 #[.val (.int p0), .val (.int p1), .unset, .unset, .unset] [(.int (21 : Int32)), (.ref b1), (.ref b1)])) rfl (hb hby at_125) _ κ) ?_
  show own_End p e below s (T43.setTop (mkF m 127 #[.val (.int p0), .val (.int p1), .unset, .unset, .unset] [(.int (-2147483648 : Int32)), (.int (21 : Int32)), (.ref b1), (.ref b1)])) _ _ _
  obtain ⟨cl44, Ar44, qa44, Sq44, Mq44, Hh44, Gq44⟩ := id V_b1_43
  have hin44 : ¬ ((21 : Int32) < 0 ∨ cl44.slots.size ≤ ((21 : Int32)).toNatClampNeg) := inb_of Sq44 ⟨by decide, by decide⟩
  obtain ⟨T45, h45, X45, e45, W45, st45⟩ := stI Xl43 hx hZ e43 Ar44 (j := (21 : Int32)) hin44 (g := (mkF m 127 #[.val (.int p0), .val (.int p1), .unset, .unset, .unset] [(.int (-2147483648 : Int32)), (.int (21 : Int32)), (.ref b1), (.ref b1)])) rfl rfl (hb hby at_127)
  have V_b1_45 : Arv Z h45 b1 k1 .int (23 : Int32) [(.int (0 : Int32)), (.int (8 : Int32)), (.int (9 : Int32)), (.int (10 : Int32)), (.int (11 : Int32)), (.int (12 : Int32)), (.int (13 : Int32)), (.int (14 : Int32)), (.int (31 : Int32)), (.int (32 : Int32)), (.int (55295 : Int32)), (.int (55296 : Int32)), (.int (57343 : Int32)), (.int (57344 : Int32)), (.int (65533 : Int32)), (.int (65534 : Int32)), (.int (65535 : Int32)), (.int (65536 : Int32)), (.int (1114111 : Int32)), (.int (1114112 : Int32)), (.int (-1 : Int32)), (.int (-2147483648 : Int32)), (.int (0 : Int32))] (.int (0 : Int32)) := Arv.set Ar44 qa44 Sq44 Mq44 Hh44 Gq44 rfl W45 21 rfl (Nat.le_of_ble_eq_true rfl)
  have N45 := Fr.snoc X45 Nl43 g_b1
  obtain ⟨ls45, Xl45, Nl45⟩ := own_abs X45 N45
  have Z45 : n0 ≤ h45.size := Nat.le_trans Z43 (Keep.of_wr W45).1
  refine own_go st45 ?_
  show own_End p e below s (T45.setTop (mkF m 128 #[.val (.int p0), .val (.int p1), .unset, .unset, .unset] [(.ref b1)])) _ _ _
  refine own_go (fun τ κ => XS.dup Xl45.here hx rfl (hb hby at_128) rfl rfl κ) ?_
  show own_End p e below s (T45.setTop (mkF m 129 #[.val (.int p0), .val (.int p1), .unset, .unset, .unset] [(.ref b1), (.ref b1)])) _ _ _
  refine own_go (fun τ κ => XS.bipush Xl45.here hx rfl (hb hby at_129) κ) ?_
  show own_End p e below s (T45.setTop (mkF m 131 #[.val (.int p0), .val (.int p1), .unset, .unset, .unset] [(.int (22 : Int32)), (.ref b1), (.ref b1)])) _ _ _
  refine own_go (fun τ κ => Xl45.ldcInt hx hown (mvT hZ (hw _ (List.mem_of_getElem? (i := 12) rfl))) (g := (mkF m 131 #[.val (.int p0), .val (.int p1), .unset, .unset, .unset] [(.int (22 : Int32)), (.ref b1), (.ref b1)])) rfl (hb hby at_131) _ κ) ?_
  show own_End p e below s (T45.setTop (mkF m 133 #[.val (.int p0), .val (.int p1), .unset, .unset, .unset] [(.int (2147483647 : Int32)), (.int (22 : Int32)), (.ref b1), (.ref b1)])) _ _ _
  obtain ⟨cl46, Ar46, qa46, Sq46, Mq46, Hh46, Gq46⟩ := id V_b1_45
  have hin46 : ¬ ((22 : Int32) < 0 ∨ cl46.slots.size ≤ ((22 : Int32)).toNatClampNeg) := inb_of Sq46 ⟨by decide, by decide⟩
  obtain ⟨T47, h47, X47, e47, W47, st47⟩ := stI Xl45 hx hZ e45 Ar46 (j := (22 : Int32)) hin46 (g := (mkF m 133 #[.val (.int p0), .val (.int p1), .unset, .unset, .unset] [(.int (2147483647 : Int32)), (.int (22 : Int32)), (.ref b1), (.ref b1)])) rfl rfl (hb hby at_133)
  have V_b1_47 : Arv Z h47 b1 k1 .int (23 : Int32) [(.int (0 : Int32)), (.int (8 : Int32)), (.int (9 : Int32)), (.int (10 : Int32)), (.int (11 : Int32)), (.int (12 : Int32)), (.int (13 : Int32)), (.int (14 : Int32)), (.int (31 : Int32)), (.int (32 : Int32)), (.int (55295 : Int32)), (.int (55296 : Int32)), (.int (57343 : Int32)), (.int (57344 : Int32)), (.int (65533 : Int32)), (.int (65534 : Int32)), (.int (65535 : Int32)), (.int (65536 : Int32)), (.int (1114111 : Int32)), (.int (1114112 : Int32)), (.int (-1 : Int32)), (.int (-2147483648 : Int32)), (.int (2147483647 : Int32))] (.int (0 : Int32)) := Arv.set Ar46 qa46 Sq46 Mq46 Hh46 Gq46 rfl W47 22 rfl (Nat.le_of_ble_eq_true rfl)
  have N47 := Fr.snoc X47 Nl45 g_b1
  obtain ⟨ls47, Xl47, Nl47⟩ := own_abs X47 N47
  have Z47 : n0 ≤ h47.size := Nat.le_trans Z45 (Keep.of_wr W47).1
  refine own_go st47 ?_
  show own_End p e below s (T47.setTop (mkF m 134 #[.val (.int p0), .val (.int p1), .unset, .unset, .unset] [(.ref b1)])) _ _ _
  refine own_go (fun τ κ => XS.astoreN Xl47.here hx rfl (hb hby at_134) rfl rfl (l' := #[.val (.int p0), .val (.int p1), .val (.ref b1), .unset, .unset]) rfl κ) ?_
  show own_End p e below s (T47.setTop (mkF m 135 #[.val (.int p0), .val (.int p1), .val (.ref b1), .unset, .unset] [])) _ _ _
  have J165 : ∀ (x : Int32) (l4 : Slot), own_End p e below s (T47.setTop (mkF m 165 #[.val (.int p0), .val (.int p1), .val (.ref b1), .val (.int x), l4] [])) (Q_rm0 Z p0 p1  h0 n0) room_1.cells room_1.slots := by
    intro x l4
    show own_End p e below s (T47.setTop (mkF m 165 #[.val (.int p0), .val (.int p1), .val (.ref b1), .val (.int x), l4] [])) _ _ _
    refine own_go (fun τ κ => XS.iloadN Xl47.here hx rfl (hb hby at_165) rfl κ) ?_
    show own_End p e below s (T47.setTop (mkF m 166 #[.val (.int p0), .val (.int p1), .val (.ref b1), .val (.int x), l4] [(.int x)])) _ _ _
    obtain ⟨_, _, ⟨T48, L48, k48, n48⟩, -, X48, ⟨Lc48, hQ48, l48, y48, z48⟩, st48⟩ := Jvm.LawKit.callS Xl47 hx (y := (⟨"com/example/borough_wire/boroughwire/wire/XmlWriter", "isXmlChar", "(I)Z"⟩ : MethodName)) hown (mvT hZ (hw _ (List.mem_of_getElem? (i := 13) rfl))) (mvT hZ (hw _ (List.mem_of_getElem? (i := 14) rfl))) (mvT hZ (hw _ (List.mem_of_getElem? (i := 15) rfl))) (mvT hZ (hw _ (List.mem_of_getElem? (i := 16) rfl))) (by decide) (backOf (W := 0) (rm1 l Z a0 hw [] x h47 n0 Z47) hZ (hw _ (List.mem_of_getElem? (i := 16) rfl)) (hw _ (List.mem_of_getElem? (i := 15) rfl)) (by decide) (by decide)) (g := (mkF m 166 #[.val (.int p0), .val (.int p1), .val (.ref b1), .val (.int x), l4] [(.int x)])) rfl (by rw [hml]; rfl) (argsL := [(.int x)]) (rest := []) (lenOf own_pd0 rfl) rfl (by show 2 * 0 + _ ≤ _; exact Nat.le_of_eq rfl) (hb hby at_166) (fun _ _ => ⟨rfl, e47, (by decide : 1 + 0 ≤ _), (by decide : 23 + 0 ≤ _)⟩)
    dsimp only [Pt.U, Pt.locs, Pt.cells, Pt.slots] at X48 l48 y48 z48 st48 hQ48
    subst l48 y48 z48
    obtain ⟨⟨r48, rfl, hrm1⟩, N48q, e48⟩ := hQ48
    have N48 := Fr.app Nl47 N48q
    obtain ⟨ls48, Xl48, Nl48⟩ := own_abs X48 N48
    refine own_go st48 ?_
    show own_End p e below s (T48.setTop (mkF m 169 #[.val (.int p0), .val (.int p1), .val (.ref b1), .val (.int x), l4] [(.int r48)])) _ _ _
    refine own_go (fun τ κ => XS.iloadN Xl48.here hx rfl (hb hby at_169) rfl κ) ?_
    show own_End p e below s (T48.setTop (mkF m 170 #[.val (.int p0), .val (.int p1), .val (.ref b1), .val (.int x), l4] [(.int x), (.int r48)])) _ _ _
    obtain ⟨_, _, ⟨T49, L49, k49, n49⟩, -, X49, ⟨Lc49, hQ49, l49, y49, z49⟩, st49⟩ := Jvm.LawKit.callS Xl48 hx (y := (⟨"com/example/borough_wire/boroughwire/wire/XmlWriterIsXmlCharPinLaw", "excluded", "(I)Z"⟩ : MethodName)) hown (mvT hZ (hw _ (List.mem_of_getElem? (i := 19) rfl))) (mvT hZ (hw _ (List.mem_of_getElem? (i := 20) rfl))) (mvT hZ (hw _ (List.mem_of_getElem? (i := 21) rfl))) (mvT hZ (hw _ (List.mem_of_getElem? (i := 22) rfl))) (by decide) (backOf (W := 1) (rm2 l Z a0 hw [] x h47 n0 Z47) hZ (hw _ (List.mem_of_getElem? (i := 22) rfl)) (hw _ (List.mem_of_getElem? (i := 21) rfl)) (by decide) (by decide)) (g := (mkF m 170 #[.val (.int p0), .val (.int p1), .val (.ref b1), .val (.int x), l4] [(.int x), (.int r48)])) rfl (by rw [hml]; rfl) (argsL := [(.int x)]) (rest := [(.int r48)]) (lenOf own_pd0 rfl) rfl (by show 2 * 0 + _ ≤ _; exact Nat.le_of_eq rfl) (hb hby at_170) (fun _ _ => ⟨rfl, e48, (by decide : 1 + 0 ≤ _), (by decide : 23 + 0 ≤ _)⟩)
    dsimp only [Pt.U, Pt.locs, Pt.cells, Pt.slots] at X49 l49 y49 z49 st49 hQ49
    subst l49 y49 z49
    obtain ⟨⟨r49, rfl, hrm2⟩, N49q, e49⟩ := hQ49
    have N49 := Fr.app Nl48 N49q
    obtain ⟨ls49, Xl49, Nl49⟩ := own_abs X49 N49
    refine own_go st49 ?_
    show own_End p e below s (T49.setTop (mkF m 173 #[.val (.int p0), .val (.int p1), .val (.ref b1), .val (.int x), l4] [(.int r49), (.int r48)])) _ _ _
    by_cases cx : r49.toInt = 0
    · skip
      refine own_go (fun τ κ => XS.ifNo Xl49.here hx rfl (hb hby at_173) rfl ((if0 _ _).trans (own_eq (x := r49) (y := (0 : Int32)) (i := r49.toInt) (j := 0) rfl rfl cx).2) κ) ?_
      show own_End p e below s (T49.setTop (mkF m 176 #[.val (.int p0), .val (.int p1), .val (.ref b1), .val (.int x), l4] [(.int r48)])) _ _ _
      refine own_go (fun τ κ => XS.iconst Xl49.here hx rfl (hb hby at_176) κ) ?_
      show own_End p e below s (T49.setTop (mkF m 177 #[.val (.int p0), .val (.int p1), .val (.ref b1), .val (.int x), l4] [(.int (1 : Int32)), (.int r48)])) _ _ _
      refine own_go (fun τ κ => XS.goto Xl49.here hx rfl (pc0 := 177) (pc' := 181) rfl (hb hby at_177) (by decide) (by decide) κ) ?_
      show own_End p e below s (T49.setTop (mkF m 181 #[.val (.int p0), .val (.int p1), .val (.ref b1), .val (.int x), l4] [(.int (1 : Int32)), (.int r48)])) _ _ _
      refine own_go (fun τ κ => XS.icmpNo Xl49.here hx rfl (hb hby at_181) rfl (own_eq (x := r48) (y := (1 : Int32)) (i := r48.toInt) (j := 1) rfl rfl ((own_not hrm1 hrm2).1 cx)).2 κ) ?_
      show own_End p e below s (T49.setTop (mkF m 184 #[.val (.int p0), .val (.int p1), .val (.ref b1), .val (.int x), l4] [])) _ _ _
      refine own_go (fun τ κ => XS.iconst Xl49.here hx rfl (hb hby at_184) κ) ?_
      show own_End p e below s (T49.setTop (mkF m 185 #[.val (.int p0), .val (.int p1), .val (.ref b1), .val (.int x), l4] [(.int (1 : Int32))])) _ _ _
      refine own_go (fun τ κ => XS.goto Xl49.here hx rfl (pc0 := 185) (pc' := 189) rfl (hb hby at_185) (by decide) (by decide) κ) ?_
      show own_End p e below s (T49.setTop (mkF m 189 #[.val (.int p0), .val (.int p1), .val (.ref b1), .val (.int x), l4] [(.int (1 : Int32))])) _ _ _
      refine own_ret Xl49 (v := some (.int (1 : Int32))) (fun h => by rw [Bd.returns] at h; cases h) Bd.notSynchronized (fun fs hr => retN Xl49 hx (t := .boolean) Bd.returns (by simp) (hb hby at_189) hr) ?_ (by decide) (by decide)
      · exact ⟨rfl, Nl49⟩
    · skip
      refine own_go (fun τ κ => XS.ifYes Xl49.here hx rfl (pc0 := 173) (pc' := 180) rfl (hb hby at_173) rfl ((if0 _ _).trans (own_ne (x := r49) (y := (0 : Int32)) (i := r49.toInt) (j := 0) rfl rfl cx).2) (by decide) (by decide) κ) ?_
      show own_End p e below s (T49.setTop (mkF m 180 #[.val (.int p0), .val (.int p1), .val (.ref b1), .val (.int x), l4] [(.int r48)])) _ _ _
      refine own_go (fun τ κ => XS.iconst Xl49.here hx rfl (hb hby at_180) κ) ?_
      show own_End p e below s (T49.setTop (mkF m 181 #[.val (.int p0), .val (.int p1), .val (.ref b1), .val (.int x), l4] [(.int (0 : Int32)), (.int r48)])) _ _ _
      refine own_go (fun τ κ => XS.icmpNo Xl49.here hx rfl (hb hby at_181) rfl (own_eq (x := r48) (y := (0 : Int32)) (i := r48.toInt) (j := 0) rfl rfl ((own_not hrm1 hrm2).2 cx)).2 κ) ?_
      show own_End p e below s (T49.setTop (mkF m 184 #[.val (.int p0), .val (.int p1), .val (.ref b1), .val (.int x), l4] [])) _ _ _
      refine own_go (fun τ κ => XS.iconst Xl49.here hx rfl (hb hby at_184) κ) ?_
      show own_End p e below s (T49.setTop (mkF m 185 #[.val (.int p0), .val (.int p1), .val (.ref b1), .val (.int x), l4] [(.int (1 : Int32))])) _ _ _
      refine own_go (fun τ κ => XS.goto Xl49.here hx rfl (pc0 := 185) (pc' := 189) rfl (hb hby at_185) (by decide) (by decide) κ) ?_
      show own_End p e below s (T49.setTop (mkF m 189 #[.val (.int p0), .val (.int p1), .val (.ref b1), .val (.int x), l4] [(.int (1 : Int32))])) _ _ _
      refine own_ret Xl49 (v := some (.int (1 : Int32))) (fun h => by rw [Bd.returns] at h; cases h) Bd.notSynchronized (fun fs hr => retN Xl49 hx (t := .boolean) Bd.returns (by simp) (hb hby at_189) hr) ?_ (by decide) (by decide)
      · exact ⟨rfl, Nl49⟩
  refine own_go (fun τ κ => XS.iloadN Xl47.here hx rfl (hb hby at_135) rfl κ) ?_
  show own_End p e below s (T47.setTop (mkF m 136 #[.val (.int p0), .val (.int p1), .val (.ref b1), .unset, .unset] [(.int p1)])) _ _ _
  refine own_go (fun τ κ => XS.iconst Xl47.here hx rfl (hb hby at_136) κ) ?_
  show own_End p e below s (T47.setTop (mkF m 137 #[.val (.int p0), .val (.int p1), .val (.ref b1), .unset, .unset] [(.int (1 : Int32)), (.int p1)])) _ _ _
  refine own_go (fun τ κ => XS.iand Xl47.here hx rfl (hb hby at_137) rfl κ) ?_
  show own_End p e below s (T47.setTop (mkF m 138 #[.val (.int p0), .val (.int p1), .val (.ref b1), .unset, .unset] [(.int (p1 &&& (1 : Int32)))])) _ _ _
  by_cases c138_50 : (p1 &&& (1 : Int32)).toInt = 0
  · skip
    refine own_go (fun τ κ => XS.ifYes Xl47.here hx rfl (pc0 := 138) (pc' := 146) rfl (hb hby at_138) rfl ((if0 _ _).trans (own_eq (x := (p1 &&& (1 : Int32))) (y := (0 : Int32)) (i := (p1 &&& (1 : Int32)).toInt) (j := 0) rfl rfl c138_50).1) (by decide) (by decide) κ) ?_
    show own_End p e below s (T47.setTop (mkF m 146 #[.val (.int p0), .val (.int p1), .val (.ref b1), .unset, .unset] [])) _ _ _
    refine own_go (fun τ κ => XS.iloadN Xl47.here hx rfl (hb hby at_146) rfl κ) ?_
    show own_End p e below s (T47.setTop (mkF m 147 #[.val (.int p0), .val (.int p1), .val (.ref b1), .unset, .unset] [(.int p1)])) _ _ _
    refine own_go (fun τ κ => XS.iconst Xl47.here hx rfl (hb hby at_147) κ) ?_
    show own_End p e below s (T47.setTop (mkF m 148 #[.val (.int p0), .val (.int p1), .val (.ref b1), .unset, .unset] [(.int (1 : Int32)), (.int p1)])) _ _ _
    refine own_go (fun τ κ => XS.iushr Xl47.here hx rfl (hb hby at_148) rfl κ) ?_
    show own_End p e below s (T47.setTop (mkF m 149 #[.val (.int p0), .val (.int p1), .val (.ref b1), .unset, .unset] [(.int ((p1.toUInt32 >>> ((1 : Int32) &&& 31).toUInt32).toInt32))])) _ _ _
    refine own_go (fun τ κ => XS.aloadN Xl47.here hx rfl (hb hby at_149) rfl rfl κ) ?_
    show own_End p e below s (T47.setTop (mkF m 150 #[.val (.int p0), .val (.int p1), .val (.ref b1), .unset, .unset] [(.ref b1), (.int ((p1.toUInt32 >>> ((1 : Int32) &&& 31).toUInt32).toInt32))])) _ _ _
    obtain ⟨cl51, Ar51, qa51, Sq51, Mq51, Hh51, Gq51⟩ := id V_b1_47
    refine own_go (fun τ κ => Xl47.arraylength hx (by rw [e47]; exact Ar51.1) (State.isArrayOf_alike hZ.alike Ar51.2.1) (g := (mkF m 150 #[.val (.int p0), .val (.int p1), .val (.ref b1), .unset, .unset] [(.ref b1), (.int ((p1.toUInt32 >>> ((1 : Int32) &&& 31).toUInt32).toInt32))])) rfl rfl (hb hby at_150) _ (by rw [len_of Sq51 Mq51]; exact κ)) ?_
    show own_End p e below s (T47.setTop (mkF m 151 #[.val (.int p0), .val (.int p1), .val (.ref b1), .unset, .unset] [(.int (23 : Int32)), (.int ((p1.toUInt32 >>> ((1 : Int32) &&& 31).toUInt32).toInt32))])) _ _ _
    refine own_go (fun τ κ => XS.irem Xl47.here hx rfl (hb hby at_151) rfl (by decide) (by rw [irem_eq_mod]; exact κ)) ?_
    show own_End p e below s (T47.setTop (mkF m 152 #[.val (.int p0), .val (.int p1), .val (.ref b1), .unset, .unset] [(.int (((p1.toUInt32 >>> ((1 : Int32) &&& 31).toUInt32).toInt32) % (23 : Int32)))])) _ _ _
    refine own_go (fun τ κ => XS.istore Xl47.here hx rfl (hb hby at_152) rfl (l' := #[.val (.int p0), .val (.int p1), .val (.ref b1), .unset, .val (.int (((p1.toUInt32 >>> ((1 : Int32) &&& 31).toUInt32).toInt32) % (23 : Int32)))]) rfl κ) ?_
    show own_End p e below s (T47.setTop (mkF m 154 #[.val (.int p0), .val (.int p1), .val (.ref b1), .unset, .val (.int (((p1.toUInt32 >>> ((1 : Int32) &&& 31).toUInt32).toInt32) % (23 : Int32)))] [])) _ _ _
    refine own_go (fun τ κ => XS.aloadN Xl47.here hx rfl (hb hby at_154) rfl rfl κ) ?_
    show own_End p e below s (T47.setTop (mkF m 155 #[.val (.int p0), .val (.int p1), .val (.ref b1), .unset, .val (.int (((p1.toUInt32 >>> ((1 : Int32) &&& 31).toUInt32).toInt32) % (23 : Int32)))] [(.ref b1)])) _ _ _
    refine own_go (fun τ κ => XS.iload Xl47.here hx rfl (hb hby at_155) rfl κ) ?_
    show own_End p e below s (T47.setTop (mkF m 157 #[.val (.int p0), .val (.int p1), .val (.ref b1), .unset, .val (.int (((p1.toUInt32 >>> ((1 : Int32) &&& 31).toUInt32).toInt32) % (23 : Int32)))] [(.int (((p1.toUInt32 >>> ((1 : Int32) &&& 31).toUInt32).toInt32) % (23 : Int32))), (.ref b1)])) _ _ _
    have y1 := c_iushr p1 (1 : Int32) 1 (by decide) (by decide)
    have y2 := (c_irem ((p1.toUInt32 >>> ((1 : Int32) &&& 31).toUInt32).toInt32) (23 : Int32) 23 rfl).1 (by omega)
    have l23 : (23 : Int32).toInt = 23 := rfl
    generalize hi : (((p1.toUInt32 >>> ((1 : Int32) &&& 31).toUInt32).toInt32) % (23 : Int32)) = i at y2 ⊢
    clear y1 hi
    have i1 : ¬ i < 0 := fun q => by rw [Int32.lt_iff_toInt_lt] at q; omega
    have i2 : i < (23 : Int32) := by rw [Int32.lt_iff_toInt_lt]; omega
    obtain ⟨clA, ArA, qA, SA, MA, HA, GA⟩ := id V_b1_47
    have hinA := inb_of SA ⟨i1, i2⟩
    obtain ⟨wA, hwA⟩ := own_getD [(0 : Int32), (8 : Int32), (9 : Int32), (10 : Int32), (11 : Int32), (12 : Int32), (13 : Int32), (14 : Int32), (31 : Int32), (32 : Int32), (55295 : Int32), (55296 : Int32), (57343 : Int32), (57344 : Int32), (65533 : Int32), (65534 : Int32), (65535 : Int32), (65536 : Int32), (1114111 : Int32), (1114112 : Int32), (-1 : Int32), (-2147483648 : Int32), (2147483647 : Int32)] i.toNatClampNeg
    refine own_go (fun τ κ => Xl47.iaload hx (j := i) (v := (.int wA)) (by rw [e47]; exact ArA.1) (State.isArrayOf_alike hZ.alike ArA.2.1) ArA.2.2 hinA (HA.at hinA hwA) (g := (mkF m 157 #[.val (.int p0), .val (.int p1), .val (.ref b1), .unset, .val (.int i)] [(.int i), (.ref b1)])) rfl rfl (hb hby at_157) _ κ) ?_
    show own_End p e below s (T47.setTop (mkF m 158 #[.val (.int p0), .val (.int p1), .val (.ref b1), .unset, .val (.int i)] [(.int wA)])) _ _ _
    refine own_go (fun τ κ => XS.iloadN Xl47.here hx rfl (hb hby at_158) rfl κ) ?_
    show own_End p e below s (T47.setTop (mkF m 159 #[.val (.int p0), .val (.int p1), .val (.ref b1), .unset, .val (.int i)] [(.int p0), (.int wA)])) _ _ _
    refine own_go (fun τ κ => XS.iconst Xl47.here hx rfl (hb hby at_159) κ) ?_
    show own_End p e below s (T47.setTop (mkF m 160 #[.val (.int p0), .val (.int p1), .val (.ref b1), .unset, .val (.int i)] [(.int (3 : Int32)), (.int p0), (.int wA)])) _ _ _
    refine own_go (fun τ κ => XS.iand Xl47.here hx rfl (hb hby at_160) rfl κ) ?_
    show own_End p e below s (T47.setTop (mkF m 161 #[.val (.int p0), .val (.int p1), .val (.ref b1), .unset, .val (.int i)] [(.int (p0 &&& (3 : Int32))), (.int wA)])) _ _ _
    refine own_go (fun τ κ => XS.iconst Xl47.here hx rfl (hb hby at_161) κ) ?_
    show own_End p e below s (T47.setTop (mkF m 162 #[.val (.int p0), .val (.int p1), .val (.ref b1), .unset, .val (.int i)] [(.int (1 : Int32)), (.int (p0 &&& (3 : Int32))), (.int wA)])) _ _ _
    refine own_go (fun τ κ => XS.isub Xl47.here hx rfl (hb hby at_162) rfl κ) ?_
    show own_End p e below s (T47.setTop (mkF m 163 #[.val (.int p0), .val (.int p1), .val (.ref b1), .unset, .val (.int i)] [(.int ((p0 &&& (3 : Int32)) - (1 : Int32))), (.int wA)])) _ _ _
    refine own_go (fun τ κ => XS.iadd Xl47.here hx rfl (hb hby at_163) rfl κ) ?_
    show own_End p e below s (T47.setTop (mkF m 164 #[.val (.int p0), .val (.int p1), .val (.ref b1), .unset, .val (.int i)] [(.int (wA + ((p0 &&& (3 : Int32)) - (1 : Int32))))])) _ _ _
    refine own_go (fun τ κ => XS.istoreN Xl47.here hx rfl (hb hby at_164) rfl (l' := #[.val (.int p0), .val (.int p1), .val (.ref b1), .val (.int (wA + ((p0 &&& (3 : Int32)) - (1 : Int32)))), .val (.int i)]) rfl κ) ?_
    show own_End p e below s (T47.setTop (mkF m 165 #[.val (.int p0), .val (.int p1), .val (.ref b1), .val (.int (wA + ((p0 &&& (3 : Int32)) - (1 : Int32)))), .val (.int i)] [])) _ _ _
    exact J165 _ _
  · skip
    refine own_go (fun τ κ => XS.ifNo Xl47.here hx rfl (hb hby at_138) rfl ((if0 _ _).trans (own_ne (x := (p1 &&& (1 : Int32))) (y := (0 : Int32)) (i := (p1 &&& (1 : Int32)).toInt) (j := 0) rfl rfl c138_50).1) κ) ?_
    show own_End p e below s (T47.setTop (mkF m 141 #[.val (.int p0), .val (.int p1), .val (.ref b1), .unset, .unset] [])) _ _ _
    refine own_go (fun τ κ => XS.iloadN Xl47.here hx rfl (hb hby at_141) rfl κ) ?_
    show own_End p e below s (T47.setTop (mkF m 142 #[.val (.int p0), .val (.int p1), .val (.ref b1), .unset, .unset] [(.int p0)])) _ _ _
    refine own_go (fun τ κ => XS.istoreN Xl47.here hx rfl (hb hby at_142) rfl (l' := #[.val (.int p0), .val (.int p1), .val (.ref b1), .val (.int p0), .unset]) rfl κ) ?_
    show own_End p e below s (T47.setTop (mkF m 143 #[.val (.int p0), .val (.int p1), .val (.ref b1), .val (.int p0), .unset] [])) _ _ _
    refine own_go (fun τ κ => XS.goto Xl47.here hx rfl (pc0 := 143) (pc' := 165) rfl (hb hby at_143) (by decide) (by decide) κ) ?_
    show own_End p e below s (T47.setTop (mkF m 165 #[.val (.int p0), .val (.int p1), .val (.ref b1), .val (.int p0), .unset] [])) _ _ _
    exact J165 _ _
set_option maxRecDepth 65536 in
set_option maxHeartbeats 40000000 in
theorem comes_1 {Post : Tables → Env → Array Value → State → Outcome → State → Prop} (hpost : ∀ tb e args s v u, (limb_1_1.after args s (.returned v) u = true ∧ limb_1_2.after args s (.returned v) u = true ∧ True) → FrameEnd s (.returned v) u (Jvm.fieldLocs frame_1_writes args s ++ Jvm.arrayLocs frame_1_arrays args s ++ Jvm.staticLocs frame_1_statics s) 16 128 → Post tb e args s (.returned v) u) :
    ArmFor flags0 classFile x code maxLocals ret World_1 tables_1 room_1 Calls_1 rest_1 Pre_1 Post := by
  intro l hfl _ _ p e ha hc hk s m args below hf hA hF happ hP
  obtain ⟨hcalls, hrest, hpre⟩ := hP
  obtain ⟨-, -, -, hnamed, -, -, -, hat⟩ := (Spec.applies_iff hf).mp happ
  obtain ⟨hg, hn⟩ := and_e (Cond.before_iff.mp (show (Jvm.Cond.and given_1 narrow_1).before args s = true from hpre))
  obtain ⟨gc, gr0⟩ := and_e hg
  obtain ⟨ga0, gr1⟩ := and_e gr0
  have ga1 := gr1
  obtain ⟨w0, w1, rfl⟩ : ∃ w0 w1 : Value, args = #[w0, w1] := by
    have hs : args.size = 2 := by simpa [Cond.value, given_1] using gc
    obtain ⟨L⟩ := args
    match L, hs with
    | [w0, w1], _ => exact ⟨w0, w1, rfl⟩
  have hw := fun d (hd : d ∈ tables_1) => atoms_spec (ws := Jvm.Cond.code x code maxLocals ret :: tables_1) hat d (List.mem_cons_of_mem _ hd)
  obtain ⟨i0, ei0⟩ := is_v ga0
  obtain rfl : w0 = (.int i0) := Option.some.inj ei0
  obtain ⟨i1, ei1⟩ := is_v ga1
  obtain rfl : w1 = (.int i1) := Option.some.inj ei1
  obtain ⟨n, o, h1, h2, h3, _, L, rfl, ⟨rfl, N⟩, hq⟩ := rm0 l s _ hw tables_1 i0 i1  s.heap s.heap.size (Nat.le_refl _)  p e ha hc hk s m _ below hf ((Spec.applies_iff_loose hf).mp happ).1 ⟨rfl, State.Warmed39.refl s, rfl⟩ trivial
  refine ⟨n, _, h1, h2, h3, hpost _ _ _ _ _ _ ⟨Cond.after_iff.mpr rfl, Cond.after_iff.mpr (eq_i res_at (Term.int_eval (1)) rfl), trivial⟩ ⟨hq.1, hq.2.1, (hq.2.2.sift fun y hy => Or.inr (N y hy)).mono (by decide) (by decide)⟩⟩
theorem main_1_1 : Claimed_1_1 := comes_1 fun _ _ _ _ _ _ h hF => ⟨h.1, hF⟩
theorem main_1_2 : Claimed_1_2 := comes_1 fun _ _ _ _ _ _ h hF => ⟨h.2.1, hF⟩
end Jvm.Pilot.@@N@@
namespace Jvm.Pilot.@@N@@
open Jvm Jvm.ClassFile Sem Op Lib Jvm.Free Jvm.Stand Jvm.Pilot.@@N@@.Jvm.D
/-! MADE BY PROGRAM (witnessworld.py) out of the Statement's table words and the real class files: 9 classes; the members and pool entries that the words name. The judged class is class 1, her method 1. -/
namespace start1
open Jvm.ClassFile
def u (s : String) : CpInfo := .utf8 (stringToUtf16 s)
/-- a pool by its gaps: so many unusable entries, then the entry; so many at the end -/
def gap : Nat → List CpInfo → List CpInfo
  | 0, r => r
  | n + 1, r => .unusable :: gap n r
def poolList (es : List (Nat × CpInfo)) (last : Nat) : List CpInfo := es.foldr (fun e r => gap e.1 (e.2 :: r)) (gap last [])
def pool (es : List (Nat × CpInfo)) (last : Nat) : Array CpInfo := ⟨poolList es last⟩
def fileOf (pool : Array CpInfo) (this : Nat) (attrs : Array Attribute := #[]) (ms : Array MethodInfo := #[]) (fl : Nat := 33) (sup : Nat := 0) (ifs : Array Nat := #[]) (fds : Array FieldInfo := #[]) : ClassFile where
  minorVersion := 0
  majorVersion := 65
  constantPool := pool
  accessFlags := fl
  thisClass := this
  superClass := sup
  interfaces := ifs
  fields := fds
  methods := ms
  attributes := attrs
def plain (name : String) (sup : Option ClassId) : Class where
  name := name
  kind := .ordinary
  loader := none
  accessFlags := 33
  super := sup
  interfaces := #[]
  cf := none
  fields := #[]
  methods := #[]
  instanceTypes := #[]
  staticTypes := #[]
  resolved := #[]
  callSites := []
  init := .initialized
  statics := none
  mirror := none

def pool0 : Array CpInfo := pool [(5, u "<init>"), (0, u "()V"), (1, .class_ 10), (1, u "java/lang/Object")] 113

def k0m0 : Method := { name := "<init>", desc := "()V", sig := { parameters := [], returnType := none }, accessFlags := 1, code := none }
/-- java/lang/Object -/
def k0 : Class := { plain "java/lang/Object" none with
  accessFlags := 33
  interfaces := #[]
  cf := some (fileOf pool0 8 #[] #[{ accessFlags := 1, nameIndex := 5, descriptorIndex := 6, attributes := #[] }] 33 0 #[] #[])
  fields := #[]
  methods := #[k0m0]
  instanceTypes := #[]
  staticTypes := #[]
  resolved := Array.replicate 124 none
  statics := none }

def pool1 : Array CpInfo := pool [(2, .class_ 4), (1, u "java/lang/Object"), (0, u "<init>"), (0, u "()V"), (0, .integer 55295), (0, .integer 55296), (0, .integer 57343), (0, .integer 57344), (0, .integer 65533), (0, .integer 65534), (0, .integer 65535), (0, .integer 65536), (0, .integer 1114111), (0, .integer 1114112), (2, .integer 2147483648), (0, .integer 2147483647), (0, .methodref 22 23), (0, .class_ 24), (0, .nameAndType 25 26), (0, u "com/example/borough_wire/boroughwire/wire/XmlWriter"), (0, u "isXmlChar"), (0, u "(I)Z"), (0, .methodref 28 29), (0, .class_ 30), (0, .nameAndType 31 26), (0, u "com/example/borough_wire/boroughwire/wire/XmlWriterIsXmlCharPinLaw"), (0, u "excluded"), (2, u "law"), (0, u "(II)Z")] 5

def k1m0 : Method := { name := "<init>", desc := "()V", sig := { parameters := [], returnType := none }, accessFlags := 1, code := none }
def k1c1 : Code := { maxStack := 4, maxLocals := 5, code := code, exceptionTable := #[], attributes := #[] }
def k1m1 : Method := { name := "law", desc := "(II)Z", sig := { parameters := [.int, .int], returnType := some .boolean }, accessFlags := 9, code := some k1c1 }
def k1c2 : Code := { maxStack := 2, maxLocals := 1, code := method_3_code, exceptionTable := #[], attributes := #[] }
def k1m2 : Method := { name := "excluded", desc := "(I)Z", sig := { parameters := [.int], returnType := some .boolean }, accessFlags := 10, code := some k1c2 }
/-- com/example/borough_wire/boroughwire/wire/XmlWriterIsXmlCharPinLaw -/
def k1 : Class := { plain "com/example/borough_wire/boroughwire/wire/XmlWriterIsXmlCharPinLaw" (some 0) with
  accessFlags := 49
  interfaces := #[]
  cf := some (fileOf pool1 28 #[] #[{ accessFlags := 1, nameIndex := 5, descriptorIndex := 6, attributes := #[] }, { accessFlags := 9, nameIndex := 34, descriptorIndex := 35, attributes := #[] }, { accessFlags := 10, nameIndex := 31, descriptorIndex := 26, attributes := #[] }] 49 2 #[] #[])
  fields := #[]
  methods := #[k1m0, k1m1, k1m2]
  instanceTypes := #[]
  staticTypes := #[]
  resolved := Array.replicate 41 none
  statics := none }

def pool2 : Array CpInfo := pool [(2, .class_ 4), (1, u "java/lang/Object"), (8, .class_ 15), (1, u "com/example/borough_wire/boroughwire/wire/XmlWriter"), (0, u "out"), (0, u "Ljava/lang/StringBuilder;"), (5, u "open"), (0, u "Ljava/util/Deque;"), (2, u "declared"), (7, u "prefixes"), (0, u "Ljava/util/Map;"), (2, u "started"), (0, u "Z"), (50, u "inStartTag"), (22, .class_ 115), (0, u "com/example/borough_wire/boroughwire/wire/XmlWriter$Declared"), (105, .integer 55295), (0, .integer 57344), (0, .integer 65533), (0, .integer 65536), (0, .integer 1114111), (14, u "isXmlChar"), (0, u "(I)Z")] 102

def k2c0 : Code := { maxStack := 2, maxLocals := 1, code := prog_121_method_14_code, exceptionTable := #[], attributes := #[] }
def k2m0 : Method := { name := "isXmlChar", desc := "(I)Z", sig := { parameters := [.int], returnType := some .boolean }, accessFlags := 9, code := some k2c0 }
/-- com/example/borough_wire/boroughwire/wire/XmlWriter -/
def k2 : Class := { plain "com/example/borough_wire/boroughwire/wire/XmlWriter" (some 0) with
  accessFlags := 49
  interfaces := #[]
  cf := some (fileOf pool2 13 #[.nestMembers #[114]] #[{ accessFlags := 9, nameIndex := 240, descriptorIndex := 241, attributes := #[] }] 49 2 #[] #[{ accessFlags := 18, nameIndex := 35, descriptorIndex := 36, attributes := #[] }, { accessFlags := 18, nameIndex := 16, descriptorIndex := 17, attributes := #[] }, { accessFlags := 18, nameIndex := 23, descriptorIndex := 24, attributes := #[] }, { accessFlags := 18, nameIndex := 27, descriptorIndex := 24, attributes := #[] }, { accessFlags := 2, nameIndex := 39, descriptorIndex := 40, attributes := #[] }, { accessFlags := 2, nameIndex := 91, descriptorIndex := 40, attributes := #[] }])
  fields := #[{ name := "prefixes", type := (.object "java/util/Map"), accessFlags := 18, slot := 0, constantValue := 0 }, { name := "out", type := (.object "java/lang/StringBuilder"), accessFlags := 18, slot := 1, constantValue := 0 }, { name := "open", type := (.object "java/util/Deque"), accessFlags := 18, slot := 2, constantValue := 0 }, { name := "declared", type := (.object "java/util/Deque"), accessFlags := 18, slot := 3, constantValue := 0 }, { name := "started", type := .boolean, accessFlags := 2, slot := 4, constantValue := 0 }, { name := "inStartTag", type := .boolean, accessFlags := 2, slot := 5, constantValue := 0 }]
  methods := #[k2m0]
  instanceTypes := #[(.object "java/util/Map"), (.object "java/lang/StringBuilder"), (.object "java/util/Deque"), (.object "java/util/Deque"), .boolean, .boolean]
  staticTypes := #[]
  resolved := Array.replicate 344 none
  statics := none }

def pool3 : Array CpInfo := pool [(1, u "java/lang/Cloneable"), (0, .class_ 1), (0, u "java/lang/Object"), (0, .class_ 3)] 3

/-- java/lang/Cloneable -/
def k3 : Class := { plain "java/lang/Cloneable" (some 0) with
  accessFlags := 1537
  interfaces := #[]
  cf := some (fileOf pool3 2 #[] #[] 1537 4 #[] #[])
  fields := #[]
  methods := #[]
  instanceTypes := #[]
  staticTypes := #[]
  resolved := Array.replicate 8 none
  statics := none }

def pool4 : Array CpInfo := pool [(1, u "java/io/Serializable"), (0, .class_ 1), (0, u "java/lang/Object"), (0, .class_ 3)] 3

/-- java/io/Serializable -/
def k4 : Class := { plain "java/io/Serializable" (some 0) with
  accessFlags := 1537
  interfaces := #[]
  cf := some (fileOf pool4 2 #[] #[] 1537 4 #[] #[])
  fields := #[]
  methods := #[]
  instanceTypes := #[]
  staticTypes := #[]
  resolved := Array.replicate 8 none
  statics := none }

/-- the primitive byte -/
def k5 : Class := { plain "byte" none with kind := .primitive 'B', accessFlags := 0x411 }
/-- [B -/
def k6 : Class := { plain "[B" (some 0) with kind := .array 5 .byte, interfaces := #[3, 4], accessFlags := 1041 }

/-- the primitive int -/
def k7 : Class := { plain "int" none with kind := .primitive 'I', accessFlags := 0x411 }
/-- [I -/
def k8 : Class := { plain "[I" (some 0) with kind := .array 7 .int, interfaces := #[3, 4], accessFlags := 1041 }

def heap : Heap := #[]
def classes : Array Class := #[k0, k1, k2, k3, k4, k5, k6, k7, k8]
def interned : List (Array UInt16 × Addr) := []
def slotsUsed : Nat := 0
def theMethod : MethodId := ⟨1, 1⟩
def args0 : Array Value := #[.int 5, .int 6]
def aboutOver (below : List Frame) : State where
  vm := { classes := classes, interned := interned.toArray }
  heap := heap
  slotsUsed := slotsUsed
  threads := #[{ frames := .invoking theMethod args0 :: below }]
def below0 : List Frame := [.native { method := ⟨0, 0⟩, args := #[] }]
def about1 : State := aboutOver below0
def p0 : Program := .bare "" "" ""
def e0 : Env := launch0.env 0 0 0
theorem w_frames : about1.frames = Frame.invoking theMethod args0 :: below0 := rfl
set_option maxRecDepth 65536 in
theorem w_args : argsFit about1.vm theMethod args0 = true := by decide +kernel
set_option maxRecDepth 65536 in
theorem w_heap : heapFits about1 = true := by decide +kernel
set_option maxRecDepth 65536 in
theorem w_runnable : about1.curStatus? = some .runnable := by decide +kernel
set_option maxRecDepth 65536 in
theorem w_alone : about1.alone = true := by decide +kernel
set_option maxRecDepth 65536 in
theorem w_named : about1.methodNamed? x = some theMethod := by decide +kernel
set_option maxRecDepth 65536 in
theorem w_hears : about1.hears theMethod below0 = true := by decide +kernel
set_option maxRecDepth 65536 in
theorem w_ripe : about1.ripe theMethod args0 below0 = true := by decide +kernel
theorem w_running : about1.status = .running := rfl
set_option maxRecDepth 65536 in
theorem w_room : about1.hasRoom e0.platform room_1 = true :=
  launch0.hasRoom_least _ room_1 (by decide +kernel) (by decide +kernel) (by decide +kernel) (by decide +kernel) (by decide +kernel) (by decide +kernel)
theorem allAtoms_all (ts : List Jvm.Cond) (a : Array Jvm.Value) (st : Jvm.State) : (allAtoms ts).before a st = ts.all (fun c => c.before a st) := by
  induction ts with
  | nil => rfl
  | cons c t ih =>
    show (Jvm.Cond.and c (allAtoms t)).before a st = _
    rw [Jvm.Cond.before_and, ih, List.all_cons]
def words1 : List Jvm.Cond := Jvm.Cond.code x code maxLocals ret :: tables_1
/-- a 'code' word, met by the world's own term for the bytes: nothing is compared byte by byte -/
theorem code_word {y : MethodName} {bytes : ByteArray} {mx : Nat} {rt : Option FieldType} {a : Array Value} {s : State} {m : MethodId} {meth : Method} {c : Code} (h1 : s.methodNamed? y = some m) (h2 : s.vm.method? m = some meth) (h3 : meth.code = some c) (h4 : c.code = bytes)
    (h5 : (c.maxLocals == mx && c.exceptionTable.isEmpty && decide (c.maxStack ≤ mostOperands) && decide (meth.sig.returnType = rt) && !meth.locks && decide (parseMethodDescriptor y.desc = some meth.sig)) = true) : (Jvm.Cond.code y bytes mx rt).before a s = true := by
  simp only [Bool.and_eq_true, beq_iff_eq, Bool.not_eq_true', decide_eq_true_eq] at h5
  obtain ⟨⟨⟨⟨⟨g1, g2⟩, g3⟩, g4⟩, g5⟩, g6⟩ := h5
  simp [Cond.before, Cond.holds, Cond.value, h1, h2, h3, h4, g1, g2, g3, g4, g5, g6]
def isCode : Jvm.Cond → Bool
  | .code _ _ _ _ => true
  | _ => false
theorem all_split {L : List Jvm.Cond} {P : Jvm.Cond → Bool} (h1 : L.all (fun c => isCode c || P c) = true) (h2 : ∀ c ∈ L.filter isCode, P c = true) : L.all P = true := by
  refine List.all_eq_true.mpr fun c hc => ?_
  have h := List.all_eq_true.mp h1 c hc
  rcases Bool.eq_false_or_eq_true (isCode c) with hi | hi
  · exact h2 c (List.mem_filter.mpr ⟨hc, hi⟩)
  · simpa [hi] using h
set_option maxRecDepth 65536 in
theorem w_c0 : (Jvm.Cond.code x code maxLocals ret).before args0 about1 = true := code_word (m := ⟨1, 1⟩) (meth := k1m1) (c := k1c1) (by decide +kernel) rfl rfl rfl (by decide +kernel)
set_option maxRecDepth 65536 in
theorem w_c1 : (Jvm.Cond.code ({ cls := "com/example/borough_wire/boroughwire/wire/XmlWriter", name := "isXmlChar", desc := "(I)Z" } : Jvm.MethodName) prog_121_method_14_code (1 : Nat) (Option.some Jvm.ClassFile.FieldType.boolean)).before args0 about1 = true := code_word (m := ⟨2, 0⟩) (meth := k2m0) (c := k2c0) (by decide +kernel) rfl rfl rfl (by decide +kernel)
set_option maxRecDepth 65536 in
theorem w_c2 : (Jvm.Cond.code ({ cls := "com/example/borough_wire/boroughwire/wire/XmlWriterIsXmlCharPinLaw", name := "excluded", desc := "(I)Z" } : Jvm.MethodName) method_3_code (1 : Nat) (Option.some Jvm.ClassFile.FieldType.boolean)).before args0 about1 = true := code_word (m := ⟨1, 2⟩) (meth := k1m2) (c := k1c2) (by decide +kernel) rfl rfl rfl (by decide +kernel)
def codes1 : List Jvm.Cond := [Jvm.Cond.code x code maxLocals ret, Jvm.Cond.code ({ cls := "com/example/borough_wire/boroughwire/wire/XmlWriter", name := "isXmlChar", desc := "(I)Z" } : Jvm.MethodName) prog_121_method_14_code (1 : Nat) (Option.some Jvm.ClassFile.FieldType.boolean), Jvm.Cond.code ({ cls := "com/example/borough_wire/boroughwire/wire/XmlWriterIsXmlCharPinLaw", name := "excluded", desc := "(I)Z" } : Jvm.MethodName) method_3_code (1 : Nat) (Option.some Jvm.ClassFile.FieldType.boolean)]
set_option maxRecDepth 65536 in
theorem codes_eq : words1.filter isCode = codes1 := rfl
theorem w_codes : ∀ c ∈ words1.filter isCode, c.before args0 about1 = true := by
  rw [codes_eq]
  intro c hc
  simp only [codes1, List.mem_cons, List.not_mem_nil, or_false] at hc
  rcases hc with rfl | rfl | rfl
  · exact w_c0
  · exact w_c1
  · exact w_c2
set_option maxRecDepth 65536 in
theorem w_t1 : (words1.take 24).all (fun c => isCode c || c.before args0 about1) = true := by decide +kernel
set_option maxRecDepth 65536 in
theorem w_t2 : (words1.drop 24).all (fun c => isCode c || c.before args0 about1) = true := by decide +kernel
theorem w_tables : (allAtoms (Jvm.Cond.code x code maxLocals ret :: tables_1)).before args0 about1 = true := by
  rw [allAtoms_all]
  show words1.all (fun c => c.before args0 about1) = true
  refine all_split ?_ w_codes
  rw [← List.take_append_drop 24 words1, List.all_append, w_t1, w_t2]
  rfl
set_option maxRecDepth 65536 in
theorem w_case : (Jvm.Cond.and given_1 narrow_1).before args0 about1 = true := by decide +kernel
theorem w_applies : (headSpec (Jvm.Cond.code x code maxLocals ret :: tables_1) room_1).applies x e0.platform about1 = true :=
  (Spec.applies_iff w_frames).mpr ⟨w_running, w_runnable, w_alone, w_named, w_hears, w_ripe, w_room, w_tables⟩
theorem atStart : AtStart classFile x code maxLocals ret World_1 tables_1 room_1 Calls_1 rest_1 Pre_1 launch0 p0 e0 about1 theMethod args0 below0 :=
  ⟨lists_1, trivial, launch0.admits_env _ _ _, launch0.least_env, fairChoices_fair.cas, fairChoices_fair.clock, w_frames, w_args, w_heap, w_applies, trivial, trivial, w_case⟩
end start1
theorem witness_1 : WitnessClaimed_1 := ⟨start1.p0, start1.e0, start1.about1, start1.theMethod, start1.args0, start1.below0, start1.atStart⟩
end Jvm.Pilot.@@N@@
