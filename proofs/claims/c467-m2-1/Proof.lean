import JvmDerived
import JvmDerived.Pilot.@@N@@Statement
import JvmDerived.Pilot.@@N@@Code
set_option linter.unusedVariables false
set_option linter.unusedSimpArgs false
namespace Jvm.RoadKit
open Sem ClassFile Op Lib Jvm.Stand Jvm.Free Jvm.LawKit
section New
variable {p : Program} {l : Launch} {e : Env} {R : Room} {s : State} {m : MethodId} {args : Array Value} {below : List Frame} {meth : Method} {c : Code} {T : State} {locs : List Loc} {cells slots : Nat}
theorem retI (X : Stand p l e R s m args below meth c T locs cells slots) (hx : p.tables.exec = Jvm.exec) {pc : Nat} {Ls : Array Slot} {z : Int32} {rest : List Value} (hret : meth.sig.returnType = some .int) (hd : decode c.code pc = .ok (.ireturn, 1)) {fs : List Frame}
    (hl : ∀ (f : JFrame) (acts : List Action), f.method = m → f.locked = none → f.entered = [] → (doReturn e (T.setTop f) acts (some (.int z))).1 = T.setFrames fs) : Steps p.tables e below (T.setTop (mkF m pc Ls (.int z :: rest))) (T.setFrames fs) := by
  have hm' : T.vm.method? m = some meth := X.method'
  have hn : narrow .int (.int z) = .int z := rfl
  show Steps p.tables e below (T.setTop { method := m, pc := pc, locals := Ls, stack := _ :: rest, locked := none }) _
  jvm_step X.here [X.here.top, hx, hd, hm', hret, hn]
  first | (intro acts; rw [hl _ acts rfl rfl rfl]) | rw [hl _ _ rfl rfl rfl]
  exact Steps.refl _
end New
end Jvm.RoadKit
namespace Jvm.Pilot.@@N@@
open Jvm Jvm.ClassFile Sem Op Lib Jvm.Free Jvm.Stand Jvm.LawKit Jvm.RoadKit Bundle Jvm.Pilot.@@N@@.Jvm.D
/-! OWN KIT: a walk's goal that can be forked and joined -/
section OwnKit
variable {p : Program} {l : Launch} {e : Env} {R : Room} {s : State} {m : MethodId} {args : Array Value} {below : List Frame} {meth : Method} {c : Code} {T : State} {locs : List Loc} {cells slots : Nat}
/-- from the state st the run comes to its end, having returned v over the heap and the places of which F speaks -/
def own_End (p : Program) (e : Env) (below : List Frame) (s st : State) (F : Option Value → Heap → List Loc → Prop) (k n : Nat) : Prop :=
  ∃ s₂ o, Steps p.tables e below st s₂ ∧ s₂.status = .running ∧ Ended s₂ below o ∧ ∃ v L, o = .returned v ∧ F v s₂.heap L ∧ FrameEnd s o s₂ L k n
theorem own_go {st st' : State} {F : Option Value → Heap → List Loc → Prop} {k n : Nat} (h : ∀ t, Steps p.tables e below st' t → Steps p.tables e below st t) (q : own_End p e below s st' F k n) : own_End p e below s st F k n := by
  obtain ⟨s₂, o, h1, h2⟩ := q
  exact ⟨s₂, o, h _ h1, h2⟩
theorem own_ret (X : Stand p l e R s m args below meth c T locs cells slots) {v : Option Value} {g : JFrame} {F : Option Value → Heap → List Loc → Prop} {k n : Nat} (hv : meth.sig.returnType = none → v = none) (hlocks : meth.locks = false)
    (hst : ∀ fs, (∀ (f : JFrame) (acts : List Action), f.method = m → f.locked = none → f.entered = [] → (doReturn e (T.setTop f) acts v).1 = T.setFrames fs) → Steps p.tables e below (T.setTop g) (T.setFrames fs))
    (hF : F v T.heap locs) (hc : cells ≤ k) (hs : slots ≤ n) : own_End p e below s (T.setTop g) F k n := by
  obtain ⟨fs, hr, hrun, hended, hW, hsame⟩ := X.leave (v := v) hv hlocks
  exact ⟨_, _, hst fs hr, hrun, hended, _, _, rfl, hF, ⟨_, rfl⟩, hW, hsame.mono hc hs⟩
theorem own_retJ (X : Stand p l e R s m args below meth c T locs cells slots) (hx : p.tables.exec = Jvm.exec) {pc : Nat} {Ls : Array Slot} {z : Int64} {rest : List Value} (hret : meth.sig.returnType = some .long) (hd : decode c.code pc = .ok (.lreturn, 1)) {fs : List Frame}
    (hl : ∀ (f : JFrame) (acts : List Action), f.method = m → f.locked = none → f.entered = [] → (doReturn e (T.setTop f) acts (some (.long z))).1 = T.setFrames fs) : Steps p.tables e below (T.setTop (mkF m pc Ls (.long z :: rest))) (T.setFrames fs) := by
  have hm' : T.vm.method? m = some meth := X.method'
  have hn : narrow .long (.long z) = .long z := rfl
  show Steps p.tables e below (T.setTop { method := m, pc := pc, locals := Ls, stack := _ :: rest, locked := none }) _
  jvm_step X.here [X.here.top, hx, hd, hm', hret, hn]
  first | (intro acts; rw [hl _ acts rfl rfl rfl]) | rw [hl _ _ rfl rfl rfl]
  exact Steps.refl _
theorem own_retD (X : Stand p l e R s m args below meth c T locs cells slots) (hx : p.tables.exec = Jvm.exec) {pc : Nat} {Ls : Array Slot} {z : UInt64} {rest : List Value} (hret : meth.sig.returnType = some .double) (hd : decode c.code pc = .ok (.dreturn, 1)) {fs : List Frame}
    (hl : ∀ (f : JFrame) (acts : List Action), f.method = m → f.locked = none → f.entered = [] → (doReturn e (T.setTop f) acts (some (.double z))).1 = T.setFrames fs) : Steps p.tables e below (T.setTop (mkF m pc Ls (.double z :: rest))) (T.setFrames fs) := by
  have hm' : T.vm.method? m = some meth := X.method'
  have hn : narrow .double (.double z) = .double z := rfl
  show Steps p.tables e below (T.setTop { method := m, pc := pc, locals := Ls, stack := _ :: rest, locked := none }) _
  jvm_step X.here [X.here.top, hx, hd, hm', hret, hn]
  first | (intro acts; rw [hl _ acts rfl rfl rfl]) | rw [hl _ _ rfl rfl rfl]
  exact Steps.refl _
theorem own_tlt {x y : Int32} {i j : Int} (hx : x.toInt = i) (hy : y.toInt = j) (h : i < j) : if_icmp.holds .lt x y = true ∧ if_icmp.holds .ge x y = false ∧ if_icmp.holds .gt y x = true ∧ if_icmp.holds .le y x = false :=
  tlt (by rw [Int32.lt_iff_toInt_lt, hx, hy]; exact h)
theorem own_flt {x y : Int32} {i j : Int} (hx : x.toInt = i) (hy : y.toInt = j) (h : ¬ i < j) : if_icmp.holds .lt x y = false ∧ if_icmp.holds .ge x y = true ∧ if_icmp.holds .gt y x = false ∧ if_icmp.holds .le y x = true :=
  flt (by rw [Int32.lt_iff_toInt_lt, hx, hy]; exact h)
theorem own_eq {x y : Int32} {i j : Int} (hx : x.toInt = i) (hy : y.toInt = j) (h : i = j) : if_icmp.holds .eq x y = true ∧ if_icmp.holds .ne x y = false :=
  teq (Int32.toInt_inj.mp (by rw [hx, hy]; exact h))
theorem own_ne {x y : Int32} {i j : Int} (hx : x.toInt = i) (hy : y.toInt = j) (h : ¬ i = j) : if_icmp.holds .eq x y = false ∧ if_icmp.holds .ne x y = true :=
  feq (fun q => h (by rw [← hx, ← hy, q]))
theorem own_Llt {x y : Int64} {i j : Int} (hx : x.toInt = i) (hy : y.toInt = j) (h : i < j) : if_icmp.holds .lt (lcmpW x y) 0 = true ∧ if_icmp.holds .ge (lcmpW x y) 0 = false ∧ if_icmp.holds .gt 0 (lcmpW x y) = true ∧ if_icmp.holds .le 0 (lcmpW x y) = false :=
  tlt ((lw_lt x y).mpr (by rw [Int64.lt_iff_toInt_lt, hx, hy]; exact h))
theorem own_Llf {x y : Int64} {i j : Int} (hx : x.toInt = i) (hy : y.toInt = j) (h : ¬ i < j) : if_icmp.holds .lt (lcmpW x y) 0 = false ∧ if_icmp.holds .ge (lcmpW x y) 0 = true ∧ if_icmp.holds .gt 0 (lcmpW x y) = false ∧ if_icmp.holds .le 0 (lcmpW x y) = true :=
  flt (fun q => h (by have := (lw_lt x y).mp q; rw [Int64.lt_iff_toInt_lt, hx, hy] at this; exact this))
theorem own_Lgt {x y : Int64} {i j : Int} (hy : y.toInt = j) (hx : x.toInt = i) (h : j < i) : if_icmp.holds .lt 0 (lcmpW x y) = true ∧ if_icmp.holds .ge 0 (lcmpW x y) = false ∧ if_icmp.holds .gt (lcmpW x y) 0 = true ∧ if_icmp.holds .le (lcmpW x y) 0 = false :=
  tlt ((lw_gt x y).mpr (by rw [Int64.lt_iff_toInt_lt, hx, hy]; exact h))
theorem own_Lgf {x y : Int64} {i j : Int} (hy : y.toInt = j) (hx : x.toInt = i) (h : ¬ j < i) : if_icmp.holds .lt 0 (lcmpW x y) = false ∧ if_icmp.holds .ge 0 (lcmpW x y) = true ∧ if_icmp.holds .gt (lcmpW x y) 0 = false ∧ if_icmp.holds .le (lcmpW x y) 0 = true :=
  flt (fun q => h (by have := (lw_gt x y).mp q; rw [Int64.lt_iff_toInt_lt, hx, hy] at this; exact this))
theorem own_Let {x y : Int64} {i j : Int} (hx : x.toInt = i) (hy : y.toInt = j) (h : i = j) : if_icmp.holds .eq (lcmpW x y) 0 = true ∧ if_icmp.holds .ne (lcmpW x y) 0 = false :=
  teq ((lw_eq x y).mpr (Int64.toInt_inj.mp (by rw [hx, hy]; exact h)))
theorem own_Lef {x y : Int64} {i j : Int} (hx : x.toInt = i) (hy : y.toInt = j) (h : ¬ i = j) : if_icmp.holds .eq (lcmpW x y) 0 = false ∧ if_icmp.holds .ne (lcmpW x y) 0 = true :=
  feq (fun q => h (by rw [← hx, ← hy, (lw_eq x y).mp q]))
/-- (turned from the worked claim gauge-weight) the model's own selection picks a private method itself -/
theorem own_selP {y : MethodName} {s : State} {args : Array Value} {n : Nat} (hy : y.cls ≠ "java/lang/invoke/MethodHandle" ∧ y.cls ≠ "java/lang/invoke/VarHandle") (hins : (Cond.instantiable y.cls n).before args s = true) (hpriv : (Cond.privateMethod y).before args s = true) (hinst : (Cond.instanceMethod y).before args s = true) :
    (Cond.selects y.cls y y).before args s = true := by
  obtain ⟨c, k, hc, hk, -, hniab, -, -⟩ := Cond.instantiable_spec hins
  have hni : k.isInterface = false := (Bool.or_eq_false_iff.mp hniab).1
  obtain ⟨mk, methM, hnamed, hmethM, -, -⟩ := Cond.instanceMethod_spec hinst
  have hfound : s.methodFound? y.cls y.name y.desc = some mk := State.methodFound?_of_named hnamed hy
  have hcls : mk.cls = c := Option.some.inj ((findClass_of_methodNamed hnamed).symm.trans hc)
  have hsel : selectMethod {} s.vm c mk = .method mk := selectMethod_private hmethM (Cond.privateMethod_at hpriv mk methM hnamed hmethM)
  simp only [Cond.before, Cond.holds, Cond.value, hc, hfound, hnamed, hsel, hcls, hk]
  simp; exact hni
end OwnKit
theorem own_pn0 : plainName "com/example/pryce/pryce/rating/Quantities" = true := by first | (simp [plainName, overriddenIn]; done) | decide +kernel
theorem own_ef1_rm1 (m : MethodId) (q0 : Int64) : entryFrame m #[(.long q0)] 2 = mkF m 0 #[.val (.long q0), .second] [] := by first | (simp [entryFrame, mkF, argsToLocals, Value.category]; done) | rfl
def Q_rm1 (Z : State) (q0 : Int64)  (h0 : Heap) (n0 : Nat) (v : Option Value) (h : Heap) (L : List Loc) : Prop := v = some (.long q0) ∧ Fr n0 L ∧ h = h0
theorem d1_0 : decode prog_12_method_3_code 0 = .ok (.lload_n 0, 1) := by decide +kernel
theorem d1_1 : decode prog_12_method_3_code 1 = .ok (.lconst 1, 1) := by decide +kernel
theorem d1_2 : decode prog_12_method_3_code 2 = .ok (.lcmp, 1) := by decide +kernel
theorem d1_3 : decode prog_12_method_3_code 3 = .ok (.ifCond .lt 11, 3) := by decide +kernel
theorem d1_6 : decode prog_12_method_3_code 6 = .ok (.lload_n 0, 1) := by decide +kernel
theorem d1_7 : decode prog_12_method_3_code 7 = .ok (.ldc2_w 46, 3) := by decide +kernel
theorem d1_10 : decode prog_12_method_3_code 10 = .ok (.lcmp, 1) := by decide +kernel
theorem d1_11 : decode prog_12_method_3_code 11 = .ok (.ifCond .le 11, 3) := by decide +kernel
theorem d1_22 : decode prog_12_method_3_code 22 = .ok (.lload_n 0, 1) := by decide +kernel
theorem d1_23 : decode prog_12_method_3_code 23 = .ok (.lreturn, 1) := by decide +kernel
set_option maxRecDepth 65536 in
set_option maxHeartbeats 40000000 in
theorem rm1 (l : Launch) (Z : State) (a0 : Array Value) (hw : ∀ d ∈ tables_1, d.before a0 Z = true) (ws : List Jvm.Cond) (q0 : Int64)  (h0 : Heap) (n0 : Nat) (Z0 : n0 ≤ h0.size) (ha : ¬ q0.toInt < 1) (hb1 : ¬ 999999999999999999 < q0.toInt) :
    MetFree l (⟨"com/example/pryce/pryce/rating/Quantities", "check", "(J)J"⟩ : MethodName) (head1 (Jvm.Cond.code (⟨"com/example/pryce/pryce/rating/Quantities", "check", "(J)J"⟩ : MethodName) prog_12_method_3_code 2 (some .long) :: ws) ({ frames := 0, cells := 0, slots := 0, locals := 0 } : Room)) (fun a U => a = #[(.long q0)] ∧ Z.Warmed39 U.vm ∧ U.heap = h0) (fun _ _ _ _ _ => True) (fun _ U o U' => ∃ v L, o = .returned v ∧ Q_rm1 Z q0  h0 n0 v U'.heap L ∧ FrameEnd U o U' L ({ frames := 0, cells := 0, slots := 0, locals := 0 } : Room).cells ({ frames := 0, cells := 0, slots := 0, locals := 0 } : Room).slots) := by
  refine MetFree.of_bodySF (plainFor_of_name own_pn0) hisR ?_
  intro p e s m args below meth c s₁ Bd hml0 hP hK
  obtain ⟨rfl, hZ, hh⟩ := hP
  have hx := Bd.exec
  have hby := Bd.bytes
  have hml : c.maxLocals = 2 := hml0
  have hown : s.vm.findClass "com/example/pryce/pryce/rating/Quantities" = some m.cls := findClass_of_methodNamed Bd.named
  have hnm := (name_of_methodNamed Bd.named Bd.method).1
  have X0 : Stand p l e ({ frames := 0, cells := 0, slots := 0, locals := 0 } : Room) s m #[(.long q0)] below meth c s₁ [] 0 0 := Stand.of_body Bd
  have e0 : s₁.heap = h0 := by rw [← hh, Bd.state]; rfl
  have N0 := Fr.nil n0
  refine (show own_End p e below s (s₁.setTop (entryFrame m #[(.long q0)] 2)) (Q_rm1 Z q0  h0 n0) ({ frames := 0, cells := 0, slots := 0, locals := 0 } : Room).cells ({ frames := 0, cells := 0, slots := 0, locals := 0 } : Room).slots from ?_)
  refine own_go (fun t k => castTop (own_ef1_rm1 m q0) k) ?_
  have li0 : (0 : Int32).toInt = 0 := rfl
  have li1 : (1 : Int32).toInt = 1 := rfl
  show own_End p e below s (s₁.setTop (mkF m 0 #[.val (.long q0), .second] [])) _ _ _
  refine own_go (fun t k => XS.lloadN X0.here hx rfl (hb hby d1_0) rfl k) ?_
  show own_End p e below s (s₁.setTop (mkF m 1 #[.val (.long q0), .second] [(.long q0)])) _ _ _
  refine own_go (fun t k => XS.lconst X0.here hx rfl (hb hby d1_1) k) ?_
  show own_End p e below s (s₁.setTop (mkF m 2 #[.val (.long q0), .second] [(.long (1 : Int64)), (.long q0)])) _ _ _
  refine own_go (fun t k => XS.lcmp X0.here hx rfl (hb hby d1_2) rfl k) ?_
  show own_End p e below s (s₁.setTop (mkF m 3 #[.val (.long q0), .second] [(.int (lcmpW q0 (1 : Int64)))])) _ _ _
  refine own_go (fun t k => XS.ifNo X0.here hx rfl (hb hby d1_3) rfl ((if0 _ _).trans (own_Llf (x := q0) (y := (1 : Int64)) (i := q0.toInt) (j := 1) rfl rfl ha).1) k) ?_
  show own_End p e below s (s₁.setTop (mkF m 6 #[.val (.long q0), .second] [])) _ _ _
  refine own_go (fun t k => XS.lloadN X0.here hx rfl (hb hby d1_6) rfl k) ?_
  show own_End p e below s (s₁.setTop (mkF m 7 #[.val (.long q0), .second] [(.long q0)])) _ _ _
  refine own_go (fun t k => X0.ldc2Long hx hown (mvT hZ (hw _ (List.mem_of_getElem? (i := 6) rfl))) (g := (mkF m 7 #[.val (.long q0), .second] [(.long q0)])) rfl (hb hby d1_7) _ k) ?_
  show own_End p e below s (s₁.setTop (mkF m 10 #[.val (.long q0), .second] [(.long (999999999999999999 : Int64)), (.long q0)])) _ _ _
  refine own_go (fun t k => XS.lcmp X0.here hx rfl (hb hby d1_10) rfl k) ?_
  show own_End p e below s (s₁.setTop (mkF m 11 #[.val (.long q0), .second] [(.int (lcmpW q0 (999999999999999999 : Int64)))])) _ _ _
  refine own_go (fun t k => XS.ifYes X0.here hx rfl (pc0 := 11) (pc' := 22) rfl (hb hby d1_11) rfl ((if0 _ _).trans (own_Lgf (x := q0) (y := (999999999999999999 : Int64)) (i := q0.toInt) (j := 999999999999999999) rfl rfl hb1).2.2.2) (by decide) (by decide) k) ?_
  show own_End p e below s (s₁.setTop (mkF m 22 #[.val (.long q0), .second] [])) _ _ _
  refine own_go (fun t k => XS.lloadN X0.here hx rfl (hb hby d1_22) rfl k) ?_
  show own_End p e below s (s₁.setTop (mkF m 23 #[.val (.long q0), .second] [(.long q0)])) _ _ _
  refine own_ret X0 (v := some (.long q0)) (fun h => by rw [Bd.returns] at h; cases h) Bd.notSynchronized (fun fs hr => own_retJ X0 hx Bd.returns (hb hby d1_23) hr) ?_ (by decide) (by decide)
  · rw [e0]; exact ⟨rfl, N0, rfl⟩
theorem own_pn1 : plainName "com/example/pryce/pryce/rating/QuantitiesCheckPinLaw" = true := by first | (simp [plainName, overriddenIn]; done) | decide +kernel
theorem own_ef0_rm0 (m : MethodId) (q0 : Int64) (p1 : Int32) : entryFrame m #[(.long q0), (.int p1)] maxLocals = mkF m 0 #[.val (.long q0), .second, .val (.int p1), .unset, .unset, .unset, .unset, .unset] [] := by first | (simp [entryFrame, mkF, argsToLocals, Value.category, maxLocals]; done) | rfl
def Q_rm0 (Z : State) (q0 : Int64) (p1 : Int32)  (h0 : Heap) (n0 : Nat) (v : Option Value) (h : Heap) (L : List Loc) : Prop := v = some (.int 1) ∧ Fr n0 L
theorem own_pd0 : parseMethodDescriptor "(J)J" = some ⟨[.long], some .long⟩ := by decide +kernel
set_option maxRecDepth 65536 in
set_option maxHeartbeats 40000000 in
theorem rm0 (l : Launch) (Z : State) (a0 : Array Value) (hw : ∀ d ∈ tables_1, d.before a0 Z = true) (ws : List Jvm.Cond) (q0 : Int64) (p1 : Int32)  (h0 : Heap) (n0 : Nat) (Z0 : n0 ≤ h0.size)  :
    MetFree l x (head1 (Jvm.Cond.code x code maxLocals ret :: ws) room_1) (fun a U => a = #[(.long q0), (.int p1)] ∧ Z.Warmed39 U.vm ∧ U.heap = h0) (fun _ _ _ _ _ => True) (fun _ U o U' => ∃ v L, o = .returned v ∧ Q_rm0 Z q0 p1  h0 n0 v U'.heap L ∧ FrameEnd U o U' L room_1.cells room_1.slots) := by
  refine MetFree.of_bodySF (plainFor_of_name own_pn1) hisR ?_
  intro p e s m args below meth c s₁ Bd hml0 hP hK
  obtain ⟨rfl, hZ, hh⟩ := hP
  have hx := Bd.exec
  have hby := Bd.bytes
  have hml : c.maxLocals = 8 := hml0
  have hown : s.vm.findClass "com/example/pryce/pryce/rating/QuantitiesCheckPinLaw" = some m.cls := findClass_of_methodNamed Bd.named
  have hnm := (name_of_methodNamed Bd.named Bd.method).1
  have X0 : Stand p l e room_1 s m #[(.long q0), (.int p1)] below meth c s₁ [] 0 0 := Stand.of_body Bd
  have e0 : s₁.heap = h0 := by rw [← hh, Bd.state]; rfl
  have N0 := Fr.nil n0
  refine (show own_End p e below s (s₁.setTop (entryFrame m #[(.long q0), (.int p1)] maxLocals)) (Q_rm0 Z q0 p1  h0 n0) room_1.cells room_1.slots from ?_)
  refine own_go (fun t k => castTop (own_ef0_rm0 m q0 p1) k) ?_
  have li0 : (0 : Int32).toInt = 0 := rfl
  have li1 : (1 : Int32).toInt = 1 := rfl
  show own_End p e below s (s₁.setTop (mkF m 0 #[.val (.long q0), .second, .val (.int p1), .unset, .unset, .unset, .unset, .unset] [])) _ _ _
  have J40 : ∀ (q : Int64) (ha : ¬ q.toInt < 1) (hb1 : ¬ 999999999999999999 < q.toInt), own_End p e below s (s₁.setTop (mkF m 40 #[.val (.long q0), .second, .val (.int p1), .val (.long q), .second, .val (.int (p1 &&& (3 : Int32))), .unset, .unset] [])) (Q_rm0 Z q0 p1  h0 n0) room_1.cells room_1.slots := by
    intro q ha hb1
    show own_End p e below s (s₁.setTop (mkF m 40 #[.val (.long q0), .second, .val (.int p1), .val (.long q), .second, .val (.int (p1 &&& (3 : Int32))), .unset, .unset] [])) _ _ _
    refine own_go (fun t k => XS.lloadN X0.here hx rfl (hb hby at_40) rfl k) ?_
    show own_End p e below s (s₁.setTop (mkF m 41 #[.val (.long q0), .second, .val (.int p1), .val (.long q), .second, .val (.int (p1 &&& (3 : Int32))), .unset, .unset] [(.long q)])) _ _ _
    refine own_go (fun t k => XS.lconst X0.here hx rfl (hb hby at_41) k) ?_
    show own_End p e below s (s₁.setTop (mkF m 42 #[.val (.long q0), .second, .val (.int p1), .val (.long q), .second, .val (.int (p1 &&& (3 : Int32))), .unset, .unset] [(.long (1 : Int64)), (.long q)])) _ _ _
    refine own_go (fun t k => XS.lcmp X0.here hx rfl (hb hby at_42) rfl k) ?_
    show own_End p e below s (s₁.setTop (mkF m 43 #[.val (.long q0), .second, .val (.int p1), .val (.long q), .second, .val (.int (p1 &&& (3 : Int32))), .unset, .unset] [(.int (lcmpW q (1 : Int64)))])) _ _ _
    refine own_go (fun t k => XS.ifNo X0.here hx rfl (hb hby at_43) rfl ((if0 _ _).trans (own_Llf (x := q) (y := (1 : Int64)) (i := q.toInt) (j := 1) rfl rfl ha).1) k) ?_
    show own_End p e below s (s₁.setTop (mkF m 46 #[.val (.long q0), .second, .val (.int p1), .val (.long q), .second, .val (.int (p1 &&& (3 : Int32))), .unset, .unset] [])) _ _ _
    refine own_go (fun t k => XS.lloadN X0.here hx rfl (hb hby at_46) rfl k) ?_
    show own_End p e below s (s₁.setTop (mkF m 47 #[.val (.long q0), .second, .val (.int p1), .val (.long q), .second, .val (.int (p1 &&& (3 : Int32))), .unset, .unset] [(.long q)])) _ _ _
    refine own_go (fun t k => X0.ldc2Long hx hown (mvT hZ (hw _ (List.mem_of_getElem? (i := 1) rfl))) (g := (mkF m 47 #[.val (.long q0), .second, .val (.int p1), .val (.long q), .second, .val (.int (p1 &&& (3 : Int32))), .unset, .unset] [(.long q)])) rfl (hb hby at_47) _ k) ?_
    show own_End p e below s (s₁.setTop (mkF m 50 #[.val (.long q0), .second, .val (.int p1), .val (.long q), .second, .val (.int (p1 &&& (3 : Int32))), .unset, .unset] [(.long (999999999999999999 : Int64)), (.long q)])) _ _ _
    refine own_go (fun t k => XS.lcmp X0.here hx rfl (hb hby at_50) rfl k) ?_
    show own_End p e below s (s₁.setTop (mkF m 51 #[.val (.long q0), .second, .val (.int p1), .val (.long q), .second, .val (.int (p1 &&& (3 : Int32))), .unset, .unset] [(.int (lcmpW q (999999999999999999 : Int64)))])) _ _ _
    refine own_go (fun t k => XS.ifYes X0.here hx rfl (pc0 := 51) (pc' := 56) rfl (hb hby at_51) rfl ((if0 _ _).trans (own_Lgf (x := q) (y := (999999999999999999 : Int64)) (i := q.toInt) (j := 999999999999999999) rfl rfl hb1).2.2.2) (by decide) (by decide) k) ?_
    show own_End p e below s (s₁.setTop (mkF m 56 #[.val (.long q0), .second, .val (.int p1), .val (.long q), .second, .val (.int (p1 &&& (3 : Int32))), .unset, .unset] [])) _ _ _
    refine own_go (fun t k => XS.lloadN X0.here hx rfl (hb hby at_56) rfl k) ?_
    show own_End p e below s (s₁.setTop (mkF m 57 #[.val (.long q0), .second, .val (.int p1), .val (.long q), .second, .val (.int (p1 &&& (3 : Int32))), .unset, .unset] [(.long q)])) _ _ _
    obtain ⟨_, _, ⟨T1, L1, k1, n1⟩, -, X1, ⟨Lc1, hQ1, l1, y1, z1⟩, st1⟩ := Jvm.LawKit.callS X0 hx (y := (⟨"com/example/pryce/pryce/rating/Quantities", "check", "(J)J"⟩ : MethodName)) hown (mvT hZ (hw _ (List.mem_of_getElem? (i := 2) rfl))) (mvT hZ (hw _ (List.mem_of_getElem? (i := 3) rfl))) (mvT hZ (hw _ (List.mem_of_getElem? (i := 4) rfl))) (mvT hZ (hw _ (List.mem_of_getElem? (i := 5) rfl))) (by decide) (backOf (W := 0) (rm1 l Z a0 hw [] q h0 n0 Z0 ha hb1) hZ (hw _ (List.mem_of_getElem? (i := 5) rfl)) (hw _ (List.mem_of_getElem? (i := 4) rfl)) (by decide) (by decide)) (g := (mkF m 57 #[.val (.long q0), .second, .val (.int p1), .val (.long q), .second, .val (.int (p1 &&& (3 : Int32))), .unset, .unset] [(.long q)])) rfl (by rw [hml]; rfl) (argsL := [(.long q)]) (rest := []) (lenOf own_pd0 rfl) rfl (by show 2 * 0 + _ ≤ _; exact Nat.le_of_eq rfl) (hb hby at_57) (fun _ _ => ⟨rfl, e0, (by decide : 0 + 0 ≤ _), (by decide : 0 + 0 ≤ _)⟩)
    dsimp only [Pt.U, Pt.locs, Pt.cells, Pt.slots] at X1 l1 y1 z1 st1 hQ1
    subst l1 y1 z1
    obtain ⟨rfl, N1q, e1⟩ := hQ1
    have N1 := Fr.app N0 N1q
    refine own_go st1 ?_
    show own_End p e below s (T1.setTop (mkF m 60 #[.val (.long q0), .second, .val (.int p1), .val (.long q), .second, .val (.int (p1 &&& (3 : Int32))), .unset, .unset] [(.long q)])) _ _ _
    refine own_go (fun t k => XS.lstore X1.here hx rfl (hb hby at_60) rfl (l' := #[.val (.long q0), .second, .val (.int p1), .val (.long q), .second, .val (.int (p1 &&& (3 : Int32))), .val (.long q), .second]) rfl k) ?_
    show own_End p e below s (T1.setTop (mkF m 62 #[.val (.long q0), .second, .val (.int p1), .val (.long q), .second, .val (.int (p1 &&& (3 : Int32))), .val (.long q), .second] [])) _ _ _
    refine own_go (fun t k => XS.lload X1.here hx rfl (hb hby at_62) rfl k) ?_
    show own_End p e below s (T1.setTop (mkF m 64 #[.val (.long q0), .second, .val (.int p1), .val (.long q), .second, .val (.int (p1 &&& (3 : Int32))), .val (.long q), .second] [(.long q)])) _ _ _
    refine own_go (fun t k => XS.lloadN X1.here hx rfl (hb hby at_64) rfl k) ?_
    show own_End p e below s (T1.setTop (mkF m 65 #[.val (.long q0), .second, .val (.int p1), .val (.long q), .second, .val (.int (p1 &&& (3 : Int32))), .val (.long q), .second] [(.long q), (.long q)])) _ _ _
    refine own_go (fun t k => XS.lcmp X1.here hx rfl (hb hby at_65) rfl k) ?_
    show own_End p e below s (T1.setTop (mkF m 66 #[.val (.long q0), .second, .val (.int p1), .val (.long q), .second, .val (.int (p1 &&& (3 : Int32))), .val (.long q), .second] [(.int (lcmpW q q))])) _ _ _
    refine own_go (fun t k => XS.ifNo X1.here hx rfl (hb hby at_66) rfl ((if0 _ _).trans (own_Let (x := q) (y := q) (i := q.toInt) (j := q.toInt) rfl rfl rfl).2) k) ?_
    show own_End p e below s (T1.setTop (mkF m 69 #[.val (.long q0), .second, .val (.int p1), .val (.long q), .second, .val (.int (p1 &&& (3 : Int32))), .val (.long q), .second] [])) _ _ _
    refine own_go (fun t k => XS.iconst X1.here hx rfl (hb hby at_69) k) ?_
    show own_End p e below s (T1.setTop (mkF m 70 #[.val (.long q0), .second, .val (.int p1), .val (.long q), .second, .val (.int (p1 &&& (3 : Int32))), .val (.long q), .second] [(.int (1 : Int32))])) _ _ _
    refine own_go (fun t k => XS.goto X1.here hx rfl (pc0 := 70) (pc' := 74) rfl (hb hby at_70) (by decide) (by decide) k) ?_
    show own_End p e below s (T1.setTop (mkF m 74 #[.val (.long q0), .second, .val (.int p1), .val (.long q), .second, .val (.int (p1 &&& (3 : Int32))), .val (.long q), .second] [(.int (1 : Int32))])) _ _ _
    refine own_ret X1 (v := some (.int (1 : Int32))) (fun h => by rw [Bd.returns] at h; cases h) Bd.notSynchronized (fun fs hr => retN X1 hx (t := .boolean) Bd.returns (by simp) (hb hby at_74) hr) ?_ (by decide) (by decide)
    · exact ⟨rfl, N1⟩
  refine own_go (fun t k => XS.iloadN X0.here hx rfl (hb hby at_0) rfl k) ?_
  show own_End p e below s (s₁.setTop (mkF m 1 #[.val (.long q0), .second, .val (.int p1), .unset, .unset, .unset, .unset, .unset] [(.int p1)])) _ _ _
  refine own_go (fun t k => XS.iconst X0.here hx rfl (hb hby at_1) k) ?_
  show own_End p e below s (s₁.setTop (mkF m 2 #[.val (.long q0), .second, .val (.int p1), .unset, .unset, .unset, .unset, .unset] [(.int (3 : Int32)), (.int p1)])) _ _ _
  refine own_go (fun t k => XS.iand X0.here hx rfl (hb hby at_2) rfl k) ?_
  show own_End p e below s (s₁.setTop (mkF m 3 #[.val (.long q0), .second, .val (.int p1), .unset, .unset, .unset, .unset, .unset] [(.int (p1 &&& (3 : Int32)))])) _ _ _
  refine own_go (fun t k => XS.istore X0.here hx rfl (hb hby at_3) rfl (l' := #[.val (.long q0), .second, .val (.int p1), .unset, .unset, .val (.int (p1 &&& (3 : Int32))), .unset, .unset]) rfl k) ?_
  show own_End p e below s (s₁.setTop (mkF m 5 #[.val (.long q0), .second, .val (.int p1), .unset, .unset, .val (.int (p1 &&& (3 : Int32))), .unset, .unset] [])) _ _ _
  refine own_go (fun t k => XS.iload X0.here hx rfl (hb hby at_5) rfl k) ?_
  show own_End p e below s (s₁.setTop (mkF m 7 #[.val (.long q0), .second, .val (.int p1), .unset, .unset, .val (.int (p1 &&& (3 : Int32))), .unset, .unset] [(.int (p1 &&& (3 : Int32)))])) _ _ _
  by_cases c7_2 : (p1 &&& (3 : Int32)).toInt = 0
  · skip
    refine own_go (fun t k => XS.ifNo X0.here hx rfl (hb hby at_7) rfl ((if0 _ _).trans (own_eq (x := (p1 &&& (3 : Int32))) (y := (0 : Int32)) (i := (p1 &&& (3 : Int32)).toInt) (j := 0) rfl rfl c7_2).2) k) ?_
    show own_End p e below s (s₁.setTop (mkF m 10 #[.val (.long q0), .second, .val (.int p1), .unset, .unset, .val (.int (p1 &&& (3 : Int32))), .unset, .unset] [])) _ _ _
    refine own_go (fun t k => XS.lconst X0.here hx rfl (hb hby at_10) k) ?_
    show own_End p e below s (s₁.setTop (mkF m 11 #[.val (.long q0), .second, .val (.int p1), .unset, .unset, .val (.int (p1 &&& (3 : Int32))), .unset, .unset] [(.long (1 : Int64))])) _ _ _
    refine own_go (fun t k => XS.lstoreN X0.here hx rfl (hb hby at_11) rfl (l' := #[.val (.long q0), .second, .val (.int p1), .val (.long (1 : Int64)), .second, .val (.int (p1 &&& (3 : Int32))), .unset, .unset]) rfl k) ?_
    show own_End p e below s (s₁.setTop (mkF m 12 #[.val (.long q0), .second, .val (.int p1), .val (.long (1 : Int64)), .second, .val (.int (p1 &&& (3 : Int32))), .unset, .unset] [])) _ _ _
    refine own_go (fun t k => XS.goto X0.here hx rfl (pc0 := 12) (pc' := 40) rfl (hb hby at_12) (by decide) (by decide) k) ?_
    show own_End p e below s (s₁.setTop (mkF m 40 #[.val (.long q0), .second, .val (.int p1), .val (.long (1 : Int64)), .second, .val (.int (p1 &&& (3 : Int32))), .unset, .unset] [])) _ _ _
    exact J40 _ (by have h1 : (1 : Int64).toInt = 1 := rfl; omega) (by have h1 : (1 : Int64).toInt = 1 := rfl; omega)
  · skip
    refine own_go (fun t k => XS.ifYes X0.here hx rfl (pc0 := 7) (pc' := 15) rfl (hb hby at_7) rfl ((if0 _ _).trans (own_ne (x := (p1 &&& (3 : Int32))) (y := (0 : Int32)) (i := (p1 &&& (3 : Int32)).toInt) (j := 0) rfl rfl c7_2).2) (by decide) (by decide) k) ?_
    show own_End p e below s (s₁.setTop (mkF m 15 #[.val (.long q0), .second, .val (.int p1), .unset, .unset, .val (.int (p1 &&& (3 : Int32))), .unset, .unset] [])) _ _ _
    refine own_go (fun t k => XS.iload X0.here hx rfl (hb hby at_15) rfl k) ?_
    show own_End p e below s (s₁.setTop (mkF m 17 #[.val (.long q0), .second, .val (.int p1), .unset, .unset, .val (.int (p1 &&& (3 : Int32))), .unset, .unset] [(.int (p1 &&& (3 : Int32)))])) _ _ _
    refine own_go (fun t k => XS.iconst X0.here hx rfl (hb hby at_17) k) ?_
    show own_End p e below s (s₁.setTop (mkF m 18 #[.val (.long q0), .second, .val (.int p1), .unset, .unset, .val (.int (p1 &&& (3 : Int32))), .unset, .unset] [(.int (1 : Int32)), (.int (p1 &&& (3 : Int32)))])) _ _ _
    by_cases c18_3 : (p1 &&& (3 : Int32)).toInt = 1
    · skip
      refine own_go (fun t k => XS.icmpNo X0.here hx rfl (hb hby at_18) rfl (own_eq (x := (p1 &&& (3 : Int32))) (y := (1 : Int32)) (i := (p1 &&& (3 : Int32)).toInt) (j := 1) rfl rfl c18_3).2 k) ?_
      show own_End p e below s (s₁.setTop (mkF m 21 #[.val (.long q0), .second, .val (.int p1), .unset, .unset, .val (.int (p1 &&& (3 : Int32))), .unset, .unset] [])) _ _ _
      refine own_go (fun t k => X0.ldc2Long hx hown (mvT hZ (hw _ (List.mem_of_getElem? (i := 1) rfl))) (g := (mkF m 21 #[.val (.long q0), .second, .val (.int p1), .unset, .unset, .val (.int (p1 &&& (3 : Int32))), .unset, .unset] [])) rfl (hb hby at_21) _ k) ?_
      show own_End p e below s (s₁.setTop (mkF m 24 #[.val (.long q0), .second, .val (.int p1), .unset, .unset, .val (.int (p1 &&& (3 : Int32))), .unset, .unset] [(.long (999999999999999999 : Int64))])) _ _ _
      refine own_go (fun t k => XS.lstoreN X0.here hx rfl (hb hby at_24) rfl (l' := #[.val (.long q0), .second, .val (.int p1), .val (.long (999999999999999999 : Int64)), .second, .val (.int (p1 &&& (3 : Int32))), .unset, .unset]) rfl k) ?_
      show own_End p e below s (s₁.setTop (mkF m 25 #[.val (.long q0), .second, .val (.int p1), .val (.long (999999999999999999 : Int64)), .second, .val (.int (p1 &&& (3 : Int32))), .unset, .unset] [])) _ _ _
      refine own_go (fun t k => XS.goto X0.here hx rfl (pc0 := 25) (pc' := 40) rfl (hb hby at_25) (by decide) (by decide) k) ?_
      show own_End p e below s (s₁.setTop (mkF m 40 #[.val (.long q0), .second, .val (.int p1), .val (.long (999999999999999999 : Int64)), .second, .val (.int (p1 &&& (3 : Int32))), .unset, .unset] [])) _ _ _
      exact J40 _ (by have h1 : (999999999999999999 : Int64).toInt = 999999999999999999 := rfl; omega) (by have h1 : (999999999999999999 : Int64).toInt = 999999999999999999 := rfl; omega)
    · skip
      refine own_go (fun t k => XS.icmpYes X0.here hx rfl (pc0 := 18) (pc' := 28) rfl (hb hby at_18) rfl (own_ne (x := (p1 &&& (3 : Int32))) (y := (1 : Int32)) (i := (p1 &&& (3 : Int32)).toInt) (j := 1) rfl rfl c18_3).2 (by decide) (by decide) k) ?_
      show own_End p e below s (s₁.setTop (mkF m 28 #[.val (.long q0), .second, .val (.int p1), .unset, .unset, .val (.int (p1 &&& (3 : Int32))), .unset, .unset] [])) _ _ _
      have m0 : (9223372036854775807 : Int64).toInt = 9223372036854775807 := rfl
      have m1 : 0 ≤ (q0 &&& (9223372036854775807 : Int64)).toInt := (c_andSL q0 (9223372036854775807 : Int64)).2.2 (by omega)
      have m2 := (c_lrem (q0 &&& (9223372036854775807 : Int64)) (999999999999999999 : Int64) 999999999999999999 rfl).1 m1
      have m6 := Int.emod_nonneg (q0 &&& (9223372036854775807 : Int64)).toInt (show (999999999999999999 : Int) ≠ 0 by decide)
      have m7 := Int.emod_lt_of_pos (q0 &&& (9223372036854775807 : Int64)).toInt (show (0 : Int) < 999999999999999999 by decide)
      rw [← m2] at m6 m7
      clear m2 m1 m0
      have m3 := c_ladd ((q0 &&& (9223372036854775807 : Int64)) - ((q0 &&& (9223372036854775807 : Int64)) / (999999999999999999 : Int64)) * (999999999999999999 : Int64)) (1 : Int64)
      have m4 := rng64 (((q0 &&& (9223372036854775807 : Int64)) - ((q0 &&& (9223372036854775807 : Int64)) / (999999999999999999 : Int64)) * (999999999999999999 : Int64)) + (1 : Int64))
      have m5 : (1 : Int64).toInt = 1 := rfl
      refine own_go (fun t k => XS.lloadN X0.here hx rfl (hb hby at_28) rfl k) ?_
      show own_End p e below s (s₁.setTop (mkF m 29 #[.val (.long q0), .second, .val (.int p1), .unset, .unset, .val (.int (p1 &&& (3 : Int32))), .unset, .unset] [(.long q0)])) _ _ _
      refine own_go (fun t k => X0.ldc2Long hx hown (mvT hZ (hw _ (List.mem_of_getElem? (i := 0) rfl))) (g := (mkF m 29 #[.val (.long q0), .second, .val (.int p1), .unset, .unset, .val (.int (p1 &&& (3 : Int32))), .unset, .unset] [(.long q0)])) rfl (hb hby at_29) _ k) ?_
      show own_End p e below s (s₁.setTop (mkF m 32 #[.val (.long q0), .second, .val (.int p1), .unset, .unset, .val (.int (p1 &&& (3 : Int32))), .unset, .unset] [(.long (9223372036854775807 : Int64)), (.long q0)])) _ _ _
      refine own_go (fun t k => XS.land X0.here hx rfl (hb hby at_32) rfl k) ?_
      show own_End p e below s (s₁.setTop (mkF m 33 #[.val (.long q0), .second, .val (.int p1), .unset, .unset, .val (.int (p1 &&& (3 : Int32))), .unset, .unset] [(.long (q0 &&& (9223372036854775807 : Int64)))])) _ _ _
      refine own_go (fun t k => X0.ldc2Long hx hown (mvT hZ (hw _ (List.mem_of_getElem? (i := 1) rfl))) (g := (mkF m 33 #[.val (.long q0), .second, .val (.int p1), .unset, .unset, .val (.int (p1 &&& (3 : Int32))), .unset, .unset] [(.long (q0 &&& (9223372036854775807 : Int64)))])) rfl (hb hby at_33) _ k) ?_
      show own_End p e below s (s₁.setTop (mkF m 36 #[.val (.long q0), .second, .val (.int p1), .unset, .unset, .val (.int (p1 &&& (3 : Int32))), .unset, .unset] [(.long (999999999999999999 : Int64)), (.long (q0 &&& (9223372036854775807 : Int64)))])) _ _ _
      refine own_go (fun t k => XS.lrem X0.here hx rfl (hb hby at_36) rfl (by decide) k) ?_
      show own_End p e below s (s₁.setTop (mkF m 37 #[.val (.long q0), .second, .val (.int p1), .unset, .unset, .val (.int (p1 &&& (3 : Int32))), .unset, .unset] [(.long ((q0 &&& (9223372036854775807 : Int64)) - ((q0 &&& (9223372036854775807 : Int64)) / (999999999999999999 : Int64)) * (999999999999999999 : Int64)))])) _ _ _
      refine own_go (fun t k => XS.lconst X0.here hx rfl (hb hby at_37) k) ?_
      show own_End p e below s (s₁.setTop (mkF m 38 #[.val (.long q0), .second, .val (.int p1), .unset, .unset, .val (.int (p1 &&& (3 : Int32))), .unset, .unset] [(.long (1 : Int64)), (.long ((q0 &&& (9223372036854775807 : Int64)) - ((q0 &&& (9223372036854775807 : Int64)) / (999999999999999999 : Int64)) * (999999999999999999 : Int64)))])) _ _ _
      refine own_go (fun t k => XS.ladd X0.here hx rfl (hb hby at_38) rfl k) ?_
      show own_End p e below s (s₁.setTop (mkF m 39 #[.val (.long q0), .second, .val (.int p1), .unset, .unset, .val (.int (p1 &&& (3 : Int32))), .unset, .unset] [(.long (((q0 &&& (9223372036854775807 : Int64)) - ((q0 &&& (9223372036854775807 : Int64)) / (999999999999999999 : Int64)) * (999999999999999999 : Int64)) + (1 : Int64)))])) _ _ _
      refine own_go (fun t k => XS.lstoreN X0.here hx rfl (hb hby at_39) rfl (l' := #[.val (.long q0), .second, .val (.int p1), .val (.long (((q0 &&& (9223372036854775807 : Int64)) - ((q0 &&& (9223372036854775807 : Int64)) / (999999999999999999 : Int64)) * (999999999999999999 : Int64)) + (1 : Int64))), .second, .val (.int (p1 &&& (3 : Int32))), .unset, .unset]) rfl k) ?_
      show own_End p e below s (s₁.setTop (mkF m 40 #[.val (.long q0), .second, .val (.int p1), .val (.long (((q0 &&& (9223372036854775807 : Int64)) - ((q0 &&& (9223372036854775807 : Int64)) / (999999999999999999 : Int64)) * (999999999999999999 : Int64)) + (1 : Int64))), .second, .val (.int (p1 &&& (3 : Int32))), .unset, .unset] [])) _ _ _
      exact J40 _ (by omega) (by omega)
set_option maxRecDepth 65536 in
set_option maxHeartbeats 40000000 in
theorem comes_1 {Post : Tables → Env → Array Value → State → Outcome → State → Prop} (hpost : ∀ tb e args s v u, (limb_1_1.after args s (.returned v) u = true ∧ limb_1_2.after args s (.returned v) u = true ∧ True) → FrameEnd s (.returned v) u (Jvm.fieldLocs frame_1_writes args s ++ Jvm.arrayLocs frame_1_arrays args s ++ Jvm.staticLocs frame_1_statics s) 0 0 → Post tb e args s (.returned v) u) :
    ArmFor flags0 classFile x code maxLocals ret World_1 tables_1 room_1 Calls_1 rest_1 Pre_1 Post := by
  intro l hfl _ _ p e ha hc hk s m args below hf hA hF happ hP
  obtain ⟨hcalls, hrest, hpre⟩ := hP
  obtain ⟨-, -, -, hnamed, -, -, -, hat⟩ := (Spec.applies_iff hf).mp happ
  obtain ⟨hg, hn⟩ := and_e (Cond.before_iff.mp (show (Jvm.Cond.and given_1 narrow_1).before args s = true from hpre))
  obtain ⟨gc, gr0⟩ := and_e hg
  obtain ⟨ga0, gr1⟩ := and_e gr0
  have ga1 := gr1
  obtain ⟨w0, w1, rfl⟩ : ∃ w0 w1 : Value, args = #[w0, w1] := by
    have hs : args.size = 2 := by simpa [Cond.value, given_1] using gc
    obtain ⟨L⟩ := args
    match L, hs with
    | [w0, w1], _ => exact ⟨w0, w1, rfl⟩
  have hw := fun d (hd : d ∈ tables_1) => atoms_spec (ws := Jvm.Cond.code x code maxLocals ret :: tables_1) hat d (List.mem_cons_of_mem _ hd)
  obtain ⟨i0, ei0⟩ := isL_v ga0
  obtain rfl : w0 = (.long i0) := Option.some.inj ei0
  obtain ⟨i1, ei1⟩ := is_v ga1
  obtain rfl : w1 = (.int i1) := Option.some.inj ei1
  obtain ⟨n, o, h1, h2, h3, _, L, rfl, ⟨rfl, N⟩, hq⟩ := rm0 l s _ hw tables_1 i0 i1  s.heap s.heap.size (Nat.le_refl _)  p e ha hc hk s m _ below hf ((Spec.applies_iff_loose hf).mp happ).1 ⟨rfl, State.Warmed39.refl s, rfl⟩ trivial
  refine ⟨n, _, h1, h2, h3, hpost _ _ _ _ _ _ ⟨Cond.after_iff.mpr rfl, Cond.after_iff.mpr (eq_i res_at (Term.int_eval (1)) rfl), trivial⟩ ⟨hq.1, hq.2.1, (hq.2.2.sift fun y hy => Or.inr (N y hy)).mono (by decide) (by decide)⟩⟩
theorem main_1_1 : Claimed_1_1 := comes_1 fun _ _ _ _ _ _ h hF => ⟨h.1, hF⟩
theorem main_1_2 : Claimed_1_2 := comes_1 fun _ _ _ _ _ _ h hF => ⟨h.2.1, hF⟩
end Jvm.Pilot.@@N@@
namespace Jvm.Pilot.@@N@@
open Jvm Jvm.ClassFile Sem Op Lib Jvm.Free Jvm.Stand Jvm.Pilot.@@N@@.Jvm.D
/-! MADE BY PROGRAM (witnessworld.py) out of the Statement's table words and the real class files: 9 classes; the members and pool entries that the words name. The judged class is class 1, her method 1. -/
namespace start1
open Jvm.ClassFile
def u (s : String) : CpInfo := .utf8 (stringToUtf16 s)
/-- a pool by its gaps: so many unusable entries, then the entry; so many at the end -/
def gap : Nat → List CpInfo → List CpInfo
  | 0, r => r
  | n + 1, r => .unusable :: gap n r
def poolList (es : List (Nat × CpInfo)) (last : Nat) : List CpInfo := es.foldr (fun e r => gap e.1 (e.2 :: r)) (gap last [])
def pool (es : List (Nat × CpInfo)) (last : Nat) : Array CpInfo := ⟨poolList es last⟩
def fileOf (pool : Array CpInfo) (this : Nat) (attrs : Array Attribute := #[]) (ms : Array MethodInfo := #[]) (fl : Nat := 33) (sup : Nat := 0) (ifs : Array Nat := #[]) (fds : Array FieldInfo := #[]) : ClassFile where
  minorVersion := 0
  majorVersion := 65
  constantPool := pool
  accessFlags := fl
  thisClass := this
  superClass := sup
  interfaces := ifs
  fields := fds
  methods := ms
  attributes := attrs
def plain (name : String) (sup : Option ClassId) : Class where
  name := name
  kind := .ordinary
  loader := none
  accessFlags := 33
  super := sup
  interfaces := #[]
  cf := none
  fields := #[]
  methods := #[]
  instanceTypes := #[]
  staticTypes := #[]
  resolved := #[]
  callSites := []
  init := .initialized
  statics := none
  mirror := none

def pool0 : Array CpInfo := pool [(5, u "<init>"), (0, u "()V"), (1, .class_ 10), (1, u "java/lang/Object")] 113

def k0m0 : Method := { name := "<init>", desc := "()V", sig := { parameters := [], returnType := none }, accessFlags := 1, code := none }
/-- java/lang/Object -/
def k0 : Class := { plain "java/lang/Object" none with
  accessFlags := 33
  interfaces := #[]
  cf := some (fileOf pool0 8 #[] #[{ accessFlags := 1, nameIndex := 5, descriptorIndex := 6, attributes := #[] }] 33 0 #[] #[])
  fields := #[]
  methods := #[k0m0]
  instanceTypes := #[]
  staticTypes := #[]
  resolved := Array.replicate 124 none
  statics := none }

def pool1 : Array CpInfo := pool [(2, .class_ 4), (1, u "java/lang/Object"), (0, u "<init>"), (0, u "()V"), (0, .long 999999999999999999), (3, .long 9223372036854775807), (1, .methodref 14 15), (0, .class_ 16), (0, .nameAndType 17 18), (0, u "com/example/pryce/pryce/rating/Quantities"), (0, u "check"), (0, u "(J)J"), (0, .class_ 20), (0, u "com/example/pryce/pryce/rating/QuantitiesCheckPinLaw"), (2, u "law"), (0, u "(JI)Z")] 3

def k1m0 : Method := { name := "<init>", desc := "()V", sig := { parameters := [], returnType := none }, accessFlags := 2, code := none }
def k1c1 : Code := { maxStack := 4, maxLocals := 8, code := code, exceptionTable := #[], attributes := #[] }
def k1m1 : Method := { name := "law", desc := "(JI)Z", sig := { parameters := [.long, .int], returnType := some .boolean }, accessFlags := 9, code := some k1c1 }
/-- com/example/pryce/pryce/rating/QuantitiesCheckPinLaw -/
def k1 : Class := { plain "com/example/pryce/pryce/rating/QuantitiesCheckPinLaw" (some 0) with
  accessFlags := 49
  interfaces := #[]
  cf := some (fileOf pool1 19 #[] #[{ accessFlags := 2, nameIndex := 5, descriptorIndex := 6, attributes := #[] }, { accessFlags := 9, nameIndex := 23, descriptorIndex := 24, attributes := #[] }] 49 2 #[] #[])
  fields := #[]
  methods := #[k1m0, k1m1]
  instanceTypes := #[]
  staticTypes := #[]
  resolved := Array.replicate 28 none
  statics := none }

def pool2 : Array CpInfo := pool [(2, .class_ 4), (1, u "java/lang/Object"), (0, u "<init>"), (0, u "()V"), (20, .class_ 28), (0, u "com/example/pryce/pryce/rating/Quantities"), (17, .long 999999999999999999), (19, u "MAX_DIGITS"), (0, u "I"), (2, u "MAX"), (0, u "J"), (4, u "check"), (0, u "(J)J")] 17

def k2m0 : Method := { name := "<init>", desc := "()V", sig := { parameters := [], returnType := none }, accessFlags := 2, code := none }
def k2c1 : Code := { maxStack := 4, maxLocals := 2, code := prog_12_method_3_code, exceptionTable := #[], attributes := #[] }
def k2m1 : Method := { name := "check", desc := "(J)J", sig := { parameters := [.long], returnType := some .long }, accessFlags := 8, code := some k2c1 }
/-- com/example/pryce/pryce/rating/Quantities -/
def k2 : Class := { plain "com/example/pryce/pryce/rating/Quantities" (some 0) with
  accessFlags := 49
  interfaces := #[]
  cf := some (fileOf pool2 27 #[] #[{ accessFlags := 2, nameIndex := 5, descriptorIndex := 6, attributes := #[] }, { accessFlags := 8, nameIndex := 76, descriptorIndex := 77, attributes := #[] }] 49 2 #[] #[{ accessFlags := 25, nameIndex := 66, descriptorIndex := 67, attributes := #[] }, { accessFlags := 25, nameIndex := 70, descriptorIndex := 71, attributes := #[] }])
  fields := #[{ name := "MAX_DIGITS", type := .int, accessFlags := 25, slot := 0, constantValue := 0 }, { name := "MAX", type := .long, accessFlags := 25, slot := 1, constantValue := 0 }]
  methods := #[k2m0, k2m1]
  instanceTypes := #[]
  staticTypes := #[.int, .long]
  resolved := Array.replicate 95 none
  statics := none }

def pool3 : Array CpInfo := pool [(1, u "java/lang/Cloneable"), (0, .class_ 1), (0, u "java/lang/Object"), (0, .class_ 3)] 3

/-- java/lang/Cloneable -/
def k3 : Class := { plain "java/lang/Cloneable" (some 0) with
  accessFlags := 1537
  interfaces := #[]
  cf := some (fileOf pool3 2 #[] #[] 1537 4 #[] #[])
  fields := #[]
  methods := #[]
  instanceTypes := #[]
  staticTypes := #[]
  resolved := Array.replicate 8 none
  statics := none }

def pool4 : Array CpInfo := pool [(1, u "java/io/Serializable"), (0, .class_ 1), (0, u "java/lang/Object"), (0, .class_ 3)] 3

/-- java/io/Serializable -/
def k4 : Class := { plain "java/io/Serializable" (some 0) with
  accessFlags := 1537
  interfaces := #[]
  cf := some (fileOf pool4 2 #[] #[] 1537 4 #[] #[])
  fields := #[]
  methods := #[]
  instanceTypes := #[]
  staticTypes := #[]
  resolved := Array.replicate 8 none
  statics := none }

/-- the primitive byte -/
def k5 : Class := { plain "byte" none with kind := .primitive 'B', accessFlags := 0x411 }
/-- [B -/
def k6 : Class := { plain "[B" (some 0) with kind := .array 5 .byte, interfaces := #[3, 4], accessFlags := 1041 }

/-- the primitive int -/
def k7 : Class := { plain "int" none with kind := .primitive 'I', accessFlags := 0x411 }
/-- [I -/
def k8 : Class := { plain "[I" (some 0) with kind := .array 7 .int, interfaces := #[3, 4], accessFlags := 1041 }

def heap : Heap := #[]
def classes : Array Class := #[k0, k1, k2, k3, k4, k5, k6, k7, k8]
def interned : List (Array UInt16 × Addr) := []
def slotsUsed : Nat := 0
def theMethod : MethodId := ⟨1, 1⟩
def args0 : Array Value := #[.long 5, .int 7]
def aboutOver (below : List Frame) : State where
  vm := { classes := classes, interned := interned.toArray }
  heap := heap
  slotsUsed := slotsUsed
  threads := #[{ frames := .invoking theMethod args0 :: below }]
def below0 : List Frame := [.native { method := ⟨0, 0⟩, args := #[] }]
def about1 : State := aboutOver below0
def p0 : Program := .bare "" "" ""
def e0 : Env := launch0.env 0 0 0
theorem w_frames : about1.frames = Frame.invoking theMethod args0 :: below0 := rfl
set_option maxRecDepth 65536 in
theorem w_args : argsFit about1.vm theMethod args0 = true := by decide +kernel
set_option maxRecDepth 65536 in
theorem w_heap : heapFits about1 = true := by decide +kernel
set_option maxRecDepth 65536 in
theorem w_runnable : about1.curStatus? = some .runnable := by decide +kernel
set_option maxRecDepth 65536 in
theorem w_alone : about1.alone = true := by decide +kernel
set_option maxRecDepth 65536 in
theorem w_named : about1.methodNamed? x = some theMethod := by decide +kernel
set_option maxRecDepth 65536 in
theorem w_hears : about1.hears theMethod below0 = true := by decide +kernel
set_option maxRecDepth 65536 in
theorem w_ripe : about1.ripe theMethod args0 below0 = true := by decide +kernel
theorem w_running : about1.status = .running := rfl
set_option maxRecDepth 65536 in
theorem w_room : about1.hasRoom e0.platform room_1 = true :=
  launch0.hasRoom_least _ room_1 (by decide +kernel) (by decide +kernel) (by decide +kernel) (by decide +kernel) (by decide +kernel) (by decide +kernel)
theorem allAtoms_all (ts : List Jvm.Cond) (a : Array Jvm.Value) (st : Jvm.State) : (allAtoms ts).before a st = ts.all (fun c => c.before a st) := by
  induction ts with
  | nil => rfl
  | cons c t ih =>
    show (Jvm.Cond.and c (allAtoms t)).before a st = _
    rw [Jvm.Cond.before_and, ih, List.all_cons]
def words1 : List Jvm.Cond := Jvm.Cond.code x code maxLocals ret :: tables_1
/-- a 'code' word, met by the world's own term for the bytes: nothing is compared byte by byte -/
theorem code_word {y : MethodName} {bytes : ByteArray} {mx : Nat} {rt : Option FieldType} {a : Array Value} {s : State} {m : MethodId} {meth : Method} {c : Code} (h1 : s.methodNamed? y = some m) (h2 : s.vm.method? m = some meth) (h3 : meth.code = some c) (h4 : c.code = bytes)
    (h5 : (c.maxLocals == mx && c.exceptionTable.isEmpty && decide (c.maxStack ≤ mostOperands) && decide (meth.sig.returnType = rt) && !meth.locks && decide (parseMethodDescriptor y.desc = some meth.sig)) = true) : (Jvm.Cond.code y bytes mx rt).before a s = true := by
  simp only [Bool.and_eq_true, beq_iff_eq, Bool.not_eq_true', decide_eq_true_eq] at h5
  obtain ⟨⟨⟨⟨⟨g1, g2⟩, g3⟩, g4⟩, g5⟩, g6⟩ := h5
  simp [Cond.before, Cond.holds, Cond.value, h1, h2, h3, h4, g1, g2, g3, g4, g5, g6]
def isCode : Jvm.Cond → Bool
  | .code _ _ _ _ => true
  | _ => false
theorem all_split {L : List Jvm.Cond} {P : Jvm.Cond → Bool} (h1 : L.all (fun c => isCode c || P c) = true) (h2 : ∀ c ∈ L.filter isCode, P c = true) : L.all P = true := by
  refine List.all_eq_true.mpr fun c hc => ?_
  have h := List.all_eq_true.mp h1 c hc
  rcases Bool.eq_false_or_eq_true (isCode c) with hi | hi
  · exact h2 c (List.mem_filter.mpr ⟨hc, hi⟩)
  · simpa [hi] using h
set_option maxRecDepth 65536 in
theorem w_c0 : (Jvm.Cond.code x code maxLocals ret).before args0 about1 = true := code_word (m := ⟨1, 1⟩) (meth := k1m1) (c := k1c1) (by decide +kernel) rfl rfl rfl (by decide +kernel)
set_option maxRecDepth 65536 in
theorem w_c1 : (Jvm.Cond.code ({ cls := "com/example/pryce/pryce/rating/Quantities", name := "check", desc := "(J)J" } : Jvm.MethodName) prog_12_method_3_code (2 : Nat) (Option.some Jvm.ClassFile.FieldType.long)).before args0 about1 = true := code_word (m := ⟨2, 1⟩) (meth := k2m1) (c := k2c1) (by decide +kernel) rfl rfl rfl (by decide +kernel)
def codes1 : List Jvm.Cond := [Jvm.Cond.code x code maxLocals ret, Jvm.Cond.code ({ cls := "com/example/pryce/pryce/rating/Quantities", name := "check", desc := "(J)J" } : Jvm.MethodName) prog_12_method_3_code (2 : Nat) (Option.some Jvm.ClassFile.FieldType.long)]
set_option maxRecDepth 65536 in
theorem codes_eq : words1.filter isCode = codes1 := rfl
theorem w_codes : ∀ c ∈ words1.filter isCode, c.before args0 about1 = true := by
  rw [codes_eq]
  intro c hc
  simp only [codes1, List.mem_cons, List.not_mem_nil, or_false] at hc
  rcases hc with rfl | rfl
  · exact w_c0
  · exact w_c1
set_option maxRecDepth 65536 in
theorem w_t1 : words1.all (fun c => isCode c || c.before args0 about1) = true := by decide +kernel
theorem w_tables : (allAtoms (Jvm.Cond.code x code maxLocals ret :: tables_1)).before args0 about1 = true := by
  rw [allAtoms_all]
  show words1.all (fun c => c.before args0 about1) = true
  refine all_split ?_ w_codes
  rw [w_t1]
set_option maxRecDepth 65536 in
theorem w_case : (Jvm.Cond.and given_1 narrow_1).before args0 about1 = true := by decide +kernel
theorem w_applies : (headSpec (Jvm.Cond.code x code maxLocals ret :: tables_1) room_1).applies x e0.platform about1 = true :=
  (Spec.applies_iff w_frames).mpr ⟨w_running, w_runnable, w_alone, w_named, w_hears, w_ripe, w_room, w_tables⟩
theorem atStart : AtStart classFile x code maxLocals ret World_1 tables_1 room_1 Calls_1 rest_1 Pre_1 launch0 p0 e0 about1 theMethod args0 below0 :=
  ⟨lists_1, trivial, launch0.admits_env _ _ _, launch0.least_env, fairChoices_fair.cas, fairChoices_fair.clock, w_frames, w_args, w_heap, w_applies, trivial, trivial, w_case⟩
end start1
theorem witness_1 : WitnessClaimed_1 := ⟨start1.p0, start1.e0, start1.about1, start1.theMethod, start1.args0, start1.below0, start1.atStart⟩
end Jvm.Pilot.@@N@@
