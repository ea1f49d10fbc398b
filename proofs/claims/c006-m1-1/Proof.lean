import JvmDerived
import JvmDerived.Pilot.@@N@@Statement
import JvmDerived.Pilot.@@N@@Code
set_option linter.unusedVariables false
set_option linter.unusedSimpArgs false
namespace Jvm.RoadKit
open Sem ClassFile Op Lib Jvm.Stand Jvm.Free Jvm.LawKit
section New
variable {p : Program} {l : Launch} {e : Env} {R : Room} {s : State} {m : MethodId} {args : Array Value} {below : List Frame} {meth : Method} {c : Code} {T : State} {locs : List Loc} {cells slots : Nat}
theorem retI (X : Stand p l e R s m args below meth c T locs cells slots) (hx : p.tables.exec = Jvm.exec) {pc : Nat} {Ls : Array Slot} {z : Int32} {rest : List Value} (hret : meth.sig.returnType = some .int) (hd : decode c.code pc = .ok (.ireturn, 1)) {fs : List Frame}
    (hl : ∀ (f : JFrame) (acts : List Action), f.method = m → f.locked = none → f.entered = [] → (doReturn e (T.setTop f) acts (some (.int z))).1 = T.setFrames fs) : Steps p.tables e below (T.setTop (mkF m pc Ls (.int z :: rest))) (T.setFrames fs) := by
  have hm' : T.vm.method? m = some meth := X.method'
  have hn : narrow .int (.int z) = .int z := rfl
  show Steps p.tables e below (T.setTop { method := m, pc := pc, locals := Ls, stack := _ :: rest, locked := none }) _
  jvm_step X.here [X.here.top, hx, hd, hm', hret, hn]
  first | (intro acts; rw [hl _ acts rfl rfl rfl]) | rw [hl _ _ rfl rfl rfl]
  exact Steps.refl _
end New
end Jvm.RoadKit
namespace Jvm.Pilot.@@N@@
open Jvm Jvm.ClassFile Sem Op Lib Jvm.Free Jvm.Stand Jvm.LawKit Jvm.RoadKit Bundle Jvm.Pilot.@@N@@.Jvm.D
/-! OWN KIT: a walk's goal that can be forked and joined -/
section OwnKit
variable {p : Program} {l : Launch} {e : Env} {R : Room} {s : State} {m : MethodId} {args : Array Value} {below : List Frame} {meth : Method} {c : Code} {T : State} {locs : List Loc} {cells slots : Nat}
/-- from the state st the run comes to its end, having returned v over the heap and the places of which F speaks -/
def own_End (p : Program) (e : Env) (below : List Frame) (s st : State) (F : Option Value → Heap → List Loc → Prop) (k n : Nat) : Prop :=
  ∃ s₂ o, Steps p.tables e below st s₂ ∧ s₂.status = .running ∧ Ended s₂ below o ∧ ∃ v L, o = .returned v ∧ F v s₂.heap L ∧ FrameEnd s o s₂ L k n
theorem own_go {st st' : State} {F : Option Value → Heap → List Loc → Prop} {k n : Nat} (h : ∀ t, Steps p.tables e below st' t → Steps p.tables e below st t) (q : own_End p e below s st' F k n) : own_End p e below s st F k n := by
  obtain ⟨s₂, o, h1, h2⟩ := q
  exact ⟨s₂, o, h _ h1, h2⟩
theorem own_ret (X : Stand p l e R s m args below meth c T locs cells slots) {v : Option Value} {g : JFrame} {F : Option Value → Heap → List Loc → Prop} {k n : Nat} (hv : meth.sig.returnType = none → v = none) (hlocks : meth.locks = false)
    (hst : ∀ fs, (∀ (f : JFrame) (acts : List Action), f.method = m → f.locked = none → f.entered = [] → (doReturn e (T.setTop f) acts v).1 = T.setFrames fs) → Steps p.tables e below (T.setTop g) (T.setFrames fs))
    (hF : F v T.heap locs) (hc : cells ≤ k) (hs : slots ≤ n) : own_End p e below s (T.setTop g) F k n := by
  obtain ⟨fs, hr, hrun, hended, hW, hsame⟩ := X.leave (v := v) hv hlocks
  exact ⟨_, _, hst fs hr, hrun, hended, _, _, rfl, hF, ⟨_, rfl⟩, hW, hsame.mono hc hs⟩
theorem own_retJ (X : Stand p l e R s m args below meth c T locs cells slots) (hx : p.tables.exec = Jvm.exec) {pc : Nat} {Ls : Array Slot} {z : Int64} {rest : List Value} (hret : meth.sig.returnType = some .long) (hd : decode c.code pc = .ok (.lreturn, 1)) {fs : List Frame}
    (hl : ∀ (f : JFrame) (acts : List Action), f.method = m → f.locked = none → f.entered = [] → (doReturn e (T.setTop f) acts (some (.long z))).1 = T.setFrames fs) : Steps p.tables e below (T.setTop (mkF m pc Ls (.long z :: rest))) (T.setFrames fs) := by
  have hm' : T.vm.method? m = some meth := X.method'
  have hn : narrow .long (.long z) = .long z := rfl
  show Steps p.tables e below (T.setTop { method := m, pc := pc, locals := Ls, stack := _ :: rest, locked := none }) _
  jvm_step X.here [X.here.top, hx, hd, hm', hret, hn]
  first | (intro acts; rw [hl _ acts rfl rfl rfl]) | rw [hl _ _ rfl rfl rfl]
  exact Steps.refl _
theorem own_retD (X : Stand p l e R s m args below meth c T locs cells slots) (hx : p.tables.exec = Jvm.exec) {pc : Nat} {Ls : Array Slot} {z : UInt64} {rest : List Value} (hret : meth.sig.returnType = some .double) (hd : decode c.code pc = .ok (.dreturn, 1)) {fs : List Frame}
    (hl : ∀ (f : JFrame) (acts : List Action), f.method = m → f.locked = none → f.entered = [] → (doReturn e (T.setTop f) acts (some (.double z))).1 = T.setFrames fs) : Steps p.tables e below (T.setTop (mkF m pc Ls (.double z :: rest))) (T.setFrames fs) := by
  have hm' : T.vm.method? m = some meth := X.method'
  have hn : narrow .double (.double z) = .double z := rfl
  show Steps p.tables e below (T.setTop { method := m, pc := pc, locals := Ls, stack := _ :: rest, locked := none }) _
  jvm_step X.here [X.here.top, hx, hd, hm', hret, hn]
  first | (intro acts; rw [hl _ acts rfl rfl rfl]) | rw [hl _ _ rfl rfl rfl]
  exact Steps.refl _
theorem own_tlt {x y : Int32} {i j : Int} (hx : x.toInt = i) (hy : y.toInt = j) (h : i < j) : if_icmp.holds .lt x y = true ∧ if_icmp.holds .ge x y = false ∧ if_icmp.holds .gt y x = true ∧ if_icmp.holds .le y x = false :=
  tlt (by rw [Int32.lt_iff_toInt_lt, hx, hy]; exact h)
theorem own_flt {x y : Int32} {i j : Int} (hx : x.toInt = i) (hy : y.toInt = j) (h : ¬ i < j) : if_icmp.holds .lt x y = false ∧ if_icmp.holds .ge x y = true ∧ if_icmp.holds .gt y x = false ∧ if_icmp.holds .le y x = true :=
  flt (by rw [Int32.lt_iff_toInt_lt, hx, hy]; exact h)
theorem own_eq {x y : Int32} {i j : Int} (hx : x.toInt = i) (hy : y.toInt = j) (h : i = j) : if_icmp.holds .eq x y = true ∧ if_icmp.holds .ne x y = false :=
  teq (Int32.toInt_inj.mp (by rw [hx, hy]; exact h))
theorem own_ne {x y : Int32} {i j : Int} (hx : x.toInt = i) (hy : y.toInt = j) (h : ¬ i = j) : if_icmp.holds .eq x y = false ∧ if_icmp.holds .ne x y = true :=
  feq (fun q => h (by rw [← hx, ← hy, q]))
theorem own_Llt {x y : Int64} {i j : Int} (hx : x.toInt = i) (hy : y.toInt = j) (h : i < j) : if_icmp.holds .lt (lcmpW x y) 0 = true ∧ if_icmp.holds .ge (lcmpW x y) 0 = false ∧ if_icmp.holds .gt 0 (lcmpW x y) = true ∧ if_icmp.holds .le 0 (lcmpW x y) = false :=
  tlt ((lw_lt x y).mpr (by rw [Int64.lt_iff_toInt_lt, hx, hy]; exact h))
theorem own_Llf {x y : Int64} {i j : Int} (hx : x.toInt = i) (hy : y.toInt = j) (h : ¬ i < j) : if_icmp.holds .lt (lcmpW x y) 0 = false ∧ if_icmp.holds .ge (lcmpW x y) 0 = true ∧ if_icmp.holds .gt 0 (lcmpW x y) = false ∧ if_icmp.holds .le 0 (lcmpW x y) = true :=
  flt (fun q => h (by have := (lw_lt x y).mp q; rw [Int64.lt_iff_toInt_lt, hx, hy] at this; exact this))
theorem own_Lgt {x y : Int64} {i j : Int} (hy : y.toInt = j) (hx : x.toInt = i) (h : j < i) : if_icmp.holds .lt 0 (lcmpW x y) = true ∧ if_icmp.holds .ge 0 (lcmpW x y) = false ∧ if_icmp.holds .gt (lcmpW x y) 0 = true ∧ if_icmp.holds .le (lcmpW x y) 0 = false :=
  tlt ((lw_gt x y).mpr (by rw [Int64.lt_iff_toInt_lt, hx, hy]; exact h))
theorem own_Lgf {x y : Int64} {i j : Int} (hy : y.toInt = j) (hx : x.toInt = i) (h : ¬ j < i) : if_icmp.holds .lt 0 (lcmpW x y) = false ∧ if_icmp.holds .ge 0 (lcmpW x y) = true ∧ if_icmp.holds .gt (lcmpW x y) 0 = false ∧ if_icmp.holds .le (lcmpW x y) 0 = true :=
  flt (fun q => h (by have := (lw_gt x y).mp q; rw [Int64.lt_iff_toInt_lt, hx, hy] at this; exact this))
theorem own_Let {x y : Int64} {i j : Int} (hx : x.toInt = i) (hy : y.toInt = j) (h : i = j) : if_icmp.holds .eq (lcmpW x y) 0 = true ∧ if_icmp.holds .ne (lcmpW x y) 0 = false :=
  teq ((lw_eq x y).mpr (Int64.toInt_inj.mp (by rw [hx, hy]; exact h)))
theorem own_Lef {x y : Int64} {i j : Int} (hx : x.toInt = i) (hy : y.toInt = j) (h : ¬ i = j) : if_icmp.holds .eq (lcmpW x y) 0 = false ∧ if_icmp.holds .ne (lcmpW x y) 0 = true :=
  feq (fun q => h (by rw [← hx, ← hy, (lw_eq x y).mp q]))
/-- (turned from the worked claim gauge-weight) the model's own selection picks a private method itself -/
theorem own_selP {y : MethodName} {s : State} {args : Array Value} {n : Nat} (hy : y.cls ≠ "java/lang/invoke/MethodHandle" ∧ y.cls ≠ "java/lang/invoke/VarHandle") (hins : (Cond.instantiable y.cls n).before args s = true) (hpriv : (Cond.privateMethod y).before args s = true) (hinst : (Cond.instanceMethod y).before args s = true) :
    (Cond.selects y.cls y y).before args s = true := by
  obtain ⟨c, k, hc, hk, -, hniab, -, -⟩ := Cond.instantiable_spec hins
  have hni : k.isInterface = false := (Bool.or_eq_false_iff.mp hniab).1
  obtain ⟨mk, methM, hnamed, hmethM, -, -⟩ := Cond.instanceMethod_spec hinst
  have hfound : s.methodFound? y.cls y.name y.desc = some mk := State.methodFound?_of_named hnamed hy
  have hcls : mk.cls = c := Option.some.inj ((findClass_of_methodNamed hnamed).symm.trans hc)
  have hsel : selectMethod {} s.vm c mk = .method mk := selectMethod_private hmethM (Cond.privateMethod_at hpriv mk methM hnamed hmethM)
  simp only [Cond.before, Cond.holds, Cond.value, hc, hfound, hnamed, hsel, hcls, hk]
  simp; exact hni
end OwnKit
theorem own_mask7 (x : Int32) : x &&& (7 : Int32) = (0 : Int32) ∨ x &&& (7 : Int32) = (1 : Int32) ∨ x &&& (7 : Int32) = (2 : Int32) ∨ x &&& (7 : Int32) = (3 : Int32) ∨ x &&& (7 : Int32) = (4 : Int32) ∨ x &&& (7 : Int32) = (5 : Int32) ∨ x &&& (7 : Int32) = (6 : Int32) ∨ x &&& (7 : Int32) = (7 : Int32) := by
  have h := c_mask x (7 : Int32) 3 (by decide) (by decide)
  have h0 : (0 : Int32).toInt = 0 := rfl
  have h1 : (1 : Int32).toInt = 1 := rfl
  have h2 : (2 : Int32).toInt = 2 := rfl
  have h3 : (3 : Int32).toInt = 3 := rfl
  have h4 : (4 : Int32).toInt = 4 := rfl
  have h5 : (5 : Int32).toInt = 5 := rfl
  have h6 : (6 : Int32).toInt = 6 := rfl
  have h7 : (7 : Int32).toInt = 7 := rfl
  rw [← Int32.toInt_inj, ← Int32.toInt_inj, ← Int32.toInt_inj, ← Int32.toInt_inj, ← Int32.toInt_inj, ← Int32.toInt_inj, ← Int32.toInt_inj, ← Int32.toInt_inj]
  omega
theorem own_pn0 : plainName "com/example/settings_by_rank/settingsbyrank/core/source/FileFormat" = true := by first | (simp [plainName, overriddenIn]; done) | decide +kernel
theorem own_ef1_rm1 (m : MethodId) (o0 : Addr) : entryFrame m #[(.ref o0)] 2 = mkF m 0 #[.val (.ref o0), .unset] [] := by first | (simp [entryFrame, mkF, argsToLocals, Value.category]; done) | rfl
def Q_rm1 (Z : State) (o0 : Addr) (ka : ClassId) (N : Int32) (vs : List Value) (h0 : Heap) (n0 : Nat) (v : Option Value) (h : Heap) (L : List Loc) : Prop := v = some (.int 0) ∧ Fr n0 L ∧ h = h0
theorem d1_0 : decode prog_14_method_6_code 0 = .ok (.aload_n 0, 1) := by decide +kernel
theorem d1_1 : decode prog_14_method_6_code 1 = .ok (.arraylength, 1) := by decide +kernel
theorem d1_2 : decode prog_14_method_6_code 2 = .ok (.iconst 3, 1) := by decide +kernel
theorem d1_3 : decode prog_14_method_6_code 3 = .ok (.if_icmp .lt 31, 3) := by decide +kernel
theorem d1_34 : decode prog_14_method_6_code 34 = .ok (.iconst 0, 1) := by decide +kernel
theorem d1_35 : decode prog_14_method_6_code 35 = .ok (.istore_n 1, 1) := by decide +kernel
theorem d1_36 : decode prog_14_method_6_code 36 = .ok (.iload_n 1, 1) := by decide +kernel
theorem d1_37 : decode prog_14_method_6_code 37 = .ok (.ifCond .eq 7, 3) := by decide +kernel
theorem d1_44 : decode prog_14_method_6_code 44 = .ok (.iconst 0, 1) := by decide +kernel
theorem d1_45 : decode prog_14_method_6_code 45 = .ok (.ireturn, 1) := by decide +kernel
set_option maxRecDepth 65536 in
set_option maxHeartbeats 40000000 in
theorem rm1 (l : Launch) (Z : State) (a0 : Array Value) (hw : ∀ d ∈ tables_1, d.before a0 Z = true) (ws : List Jvm.Cond) (o0 : Addr) (ka : ClassId) (N : Int32) (vs : List Value) (h0 : Heap) (n0 : Nat) (Z0 : n0 ≤ h0.size) (V0 : Arv Z h0 o0 ka .byte N vs (.int (0 : Int32))) (hN : N.toInt < 3) :
    MetFree l (⟨"com/example/settings_by_rank/settingsbyrank/core/source/FileFormat", "byteOrderMarkLength", "([B)I"⟩ : MethodName) (head1 (Jvm.Cond.code (⟨"com/example/settings_by_rank/settingsbyrank/core/source/FileFormat", "byteOrderMarkLength", "([B)I"⟩ : MethodName) prog_14_method_6_code 2 (some .int) :: ws) ({ frames := 0, cells := 0, slots := 0, locals := 0 } : Room)) (fun a U => a = #[(.ref o0)] ∧ Z.Warmed39 U.vm ∧ U.heap = h0) (fun _ _ _ _ _ => True) (fun _ U o U' => ∃ v L, o = .returned v ∧ Q_rm1 Z o0 ka N vs h0 n0 v U'.heap L ∧ FrameEnd U o U' L ({ frames := 0, cells := 0, slots := 0, locals := 0 } : Room).cells ({ frames := 0, cells := 0, slots := 0, locals := 0 } : Room).slots) := by
  refine MetFree.of_bodySF (plainFor_of_name own_pn0) hisR ?_
  intro p e s m args below meth c s₁ Bd hml0 hP hK
  obtain ⟨rfl, hZ, hh⟩ := hP
  have hx := Bd.exec
  have hby := Bd.bytes
  have hml : c.maxLocals = 2 := hml0
  have hown : s.vm.findClass "com/example/settings_by_rank/settingsbyrank/core/source/FileFormat" = some m.cls := findClass_of_methodNamed Bd.named
  have hnm := (name_of_methodNamed Bd.named Bd.method).1
  have X0 : Stand p l e ({ frames := 0, cells := 0, slots := 0, locals := 0 } : Room) s m #[(.ref o0)] below meth c s₁ [] 0 0 := Stand.of_body Bd
  have e0 : s₁.heap = h0 := by rw [← hh, Bd.state]; rfl
  have N0 := Fr.nil n0
  refine (show own_End p e below s (s₁.setTop (entryFrame m #[(.ref o0)] 2)) (Q_rm1 Z o0 ka N vs h0 n0) ({ frames := 0, cells := 0, slots := 0, locals := 0 } : Room).cells ({ frames := 0, cells := 0, slots := 0, locals := 0 } : Room).slots from ?_)
  refine own_go (fun t k => castTop (own_ef1_rm1 m o0) k) ?_
  have li0 : (0 : Int32).toInt = 0 := rfl
  have li1 : (1 : Int32).toInt = 1 := rfl
  show own_End p e below s (s₁.setTop (mkF m 0 #[.val (.ref o0), .unset] [])) _ _ _
  refine own_go (fun t k => XS.aloadN X0.here hx rfl (hb hby d1_0) rfl rfl k) ?_
  show own_End p e below s (s₁.setTop (mkF m 1 #[.val (.ref o0), .unset] [(.ref o0)])) _ _ _
  obtain ⟨cl1, Ar1, q1, S1, M1, Hh1, G1⟩ := id V0
  refine own_go (fun t k => X0.arraylength hx (by rw [e0]; exact Ar1.1) (State.isArrayOf_alike hZ.alike Ar1.2.1) (g := (mkF m 1 #[.val (.ref o0), .unset] [(.ref o0)])) rfl rfl (hb hby d1_1) _ (by rw [len_of S1 M1]; exact k)) ?_
  show own_End p e below s (s₁.setTop (mkF m 2 #[.val (.ref o0), .unset] [(.int N)])) _ _ _
  refine own_go (fun t k => XS.iconst X0.here hx rfl (hb hby d1_2) k) ?_
  show own_End p e below s (s₁.setTop (mkF m 3 #[.val (.ref o0), .unset] [(.int (3 : Int32)), (.int N)])) _ _ _
  refine own_go (fun t k => XS.icmpYes X0.here hx rfl (pc0 := 3) (pc' := 34) rfl (hb hby d1_3) rfl (own_tlt (x := N) (y := (3 : Int32)) (i := N.toInt) (j := 3) rfl rfl hN).1 (by decide) (by decide) k) ?_
  show own_End p e below s (s₁.setTop (mkF m 34 #[.val (.ref o0), .unset] [])) _ _ _
  refine own_go (fun t k => XS.iconst X0.here hx rfl (hb hby d1_34) k) ?_
  show own_End p e below s (s₁.setTop (mkF m 35 #[.val (.ref o0), .unset] [(.int (0 : Int32))])) _ _ _
  refine own_go (fun t k => XS.istoreN X0.here hx rfl (hb hby d1_35) rfl (l' := #[.val (.ref o0), .val (.int (0 : Int32))]) rfl k) ?_
  show own_End p e below s (s₁.setTop (mkF m 36 #[.val (.ref o0), .val (.int (0 : Int32))] [])) _ _ _
  refine own_go (fun t k => XS.iloadN X0.here hx rfl (hb hby d1_36) rfl k) ?_
  show own_End p e below s (s₁.setTop (mkF m 37 #[.val (.ref o0), .val (.int (0 : Int32))] [(.int (0 : Int32))])) _ _ _
  refine own_go (fun t k => XS.ifYes X0.here hx rfl (pc0 := 37) (pc' := 44) rfl (hb hby d1_37) rfl ((if0 _ _).trans (own_eq (x := (0 : Int32)) (y := (0 : Int32)) (i := 0) (j := 0) rfl rfl (by decide)).1) (by decide) (by decide) k) ?_
  show own_End p e below s (s₁.setTop (mkF m 44 #[.val (.ref o0), .val (.int (0 : Int32))] [])) _ _ _
  refine own_go (fun t k => XS.iconst X0.here hx rfl (hb hby d1_44) k) ?_
  show own_End p e below s (s₁.setTop (mkF m 45 #[.val (.ref o0), .val (.int (0 : Int32))] [(.int (0 : Int32))])) _ _ _
  refine own_ret X0 (v := some (.int (0 : Int32))) (fun h => by rw [Bd.returns] at h; cases h) Bd.notSynchronized (fun fs hr => retI X0 hx Bd.returns (hb hby d1_45) hr) ?_ (by decide) (by decide)
  · rw [e0]; exact ⟨rfl, N0, rfl⟩
theorem own_ef1_rm2 (m : MethodId) (o0 : Addr) : entryFrame m #[(.ref o0)] 2 = mkF m 0 #[.val (.ref o0), .unset] [] := by first | (simp [entryFrame, mkF, argsToLocals, Value.category]; done) | rfl
def Q_rm2 (Z : State) (o0 : Addr) (ka : ClassId) (N : Int32) (vs : List Value) (u0 : Int32) (u1 : Int32) (u2 : Int32) (h0 : Heap) (n0 : Nat) (v : Option Value) (h : Heap) (L : List Loc) : Prop := (∃ z, v = some (.int z) ∧ (z.toInt = 3 ∧ (u0.toInt = -17 ∧ u1.toInt = -69 ∧ u2.toInt = -65) ∨ z.toInt = 0 ∧ ¬ (u0.toInt = -17 ∧ u1.toInt = -69 ∧ u2.toInt = -65))) ∧ Fr n0 L ∧ h = h0
theorem d1_6 : decode prog_14_method_6_code 6 = .ok (.aload_n 0, 1) := by decide +kernel
theorem d1_7 : decode prog_14_method_6_code 7 = .ok (.iconst 0, 1) := by decide +kernel
theorem d1_8 : decode prog_14_method_6_code 8 = .ok (.baload, 1) := by decide +kernel
theorem d1_9 : decode prog_14_method_6_code 9 = .ok (.bipush (-17), 2) := by decide +kernel
theorem d1_11 : decode prog_14_method_6_code 11 = .ok (.if_icmp .ne 23, 3) := by decide +kernel
theorem d1_14 : decode prog_14_method_6_code 14 = .ok (.aload_n 0, 1) := by decide +kernel
theorem d1_15 : decode prog_14_method_6_code 15 = .ok (.iconst 1, 1) := by decide +kernel
theorem d1_16 : decode prog_14_method_6_code 16 = .ok (.baload, 1) := by decide +kernel
theorem d1_17 : decode prog_14_method_6_code 17 = .ok (.bipush (-69), 2) := by decide +kernel
theorem d1_19 : decode prog_14_method_6_code 19 = .ok (.if_icmp .ne 15, 3) := by decide +kernel
theorem d1_22 : decode prog_14_method_6_code 22 = .ok (.aload_n 0, 1) := by decide +kernel
theorem d1_23 : decode prog_14_method_6_code 23 = .ok (.iconst 2, 1) := by decide +kernel
theorem d1_24 : decode prog_14_method_6_code 24 = .ok (.baload, 1) := by decide +kernel
theorem d1_25 : decode prog_14_method_6_code 25 = .ok (.bipush (-65), 2) := by decide +kernel
theorem d1_27 : decode prog_14_method_6_code 27 = .ok (.if_icmp .ne 7, 3) := by decide +kernel
theorem d1_30 : decode prog_14_method_6_code 30 = .ok (.iconst 1, 1) := by decide +kernel
theorem d1_31 : decode prog_14_method_6_code 31 = .ok (.goto 4, 3) := by decide +kernel
theorem d1_40 : decode prog_14_method_6_code 40 = .ok (.iconst 3, 1) := by decide +kernel
theorem d1_41 : decode prog_14_method_6_code 41 = .ok (.goto 4, 3) := by decide +kernel
set_option maxRecDepth 65536 in
set_option maxHeartbeats 40000000 in
theorem rm2 (l : Launch) (Z : State) (a0 : Array Value) (hw : ∀ d ∈ tables_1, d.before a0 Z = true) (ws : List Jvm.Cond) (o0 : Addr) (ka : ClassId) (N : Int32) (vs : List Value) (u0 : Int32) (u1 : Int32) (u2 : Int32) (h0 : Heap) (n0 : Nat) (Z0 : n0 ≤ h0.size) (V0 : Arv Z h0 o0 ka .byte N vs (.int (0 : Int32))) (hN : ¬ N.toInt < 3) (hu0 : vs.getD ((0 : Int32)).toNatClampNeg (.int (0 : Int32)) = .int u0) (hu1 : vs.getD ((1 : Int32)).toNatClampNeg (.int (0 : Int32)) = .int u1) (hu2 : vs.getD ((2 : Int32)).toNatClampNeg (.int (0 : Int32)) = .int u2) :
    MetFree l (⟨"com/example/settings_by_rank/settingsbyrank/core/source/FileFormat", "byteOrderMarkLength", "([B)I"⟩ : MethodName) (head1 (Jvm.Cond.code (⟨"com/example/settings_by_rank/settingsbyrank/core/source/FileFormat", "byteOrderMarkLength", "([B)I"⟩ : MethodName) prog_14_method_6_code 2 (some .int) :: ws) ({ frames := 0, cells := 0, slots := 0, locals := 0 } : Room)) (fun a U => a = #[(.ref o0)] ∧ Z.Warmed39 U.vm ∧ U.heap = h0) (fun _ _ _ _ _ => True) (fun _ U o U' => ∃ v L, o = .returned v ∧ Q_rm2 Z o0 ka N vs u0 u1 u2 h0 n0 v U'.heap L ∧ FrameEnd U o U' L ({ frames := 0, cells := 0, slots := 0, locals := 0 } : Room).cells ({ frames := 0, cells := 0, slots := 0, locals := 0 } : Room).slots) := by
  refine MetFree.of_bodySF (plainFor_of_name own_pn0) hisR ?_
  intro p e s m args below meth c s₁ Bd hml0 hP hK
  obtain ⟨rfl, hZ, hh⟩ := hP
  have hx := Bd.exec
  have hby := Bd.bytes
  have hml : c.maxLocals = 2 := hml0
  have hown : s.vm.findClass "com/example/settings_by_rank/settingsbyrank/core/source/FileFormat" = some m.cls := findClass_of_methodNamed Bd.named
  have hnm := (name_of_methodNamed Bd.named Bd.method).1
  have X0 : Stand p l e ({ frames := 0, cells := 0, slots := 0, locals := 0 } : Room) s m #[(.ref o0)] below meth c s₁ [] 0 0 := Stand.of_body Bd
  have e0 : s₁.heap = h0 := by rw [← hh, Bd.state]; rfl
  have N0 := Fr.nil n0
  refine (show own_End p e below s (s₁.setTop (entryFrame m #[(.ref o0)] 2)) (Q_rm2 Z o0 ka N vs u0 u1 u2 h0 n0) ({ frames := 0, cells := 0, slots := 0, locals := 0 } : Room).cells ({ frames := 0, cells := 0, slots := 0, locals := 0 } : Room).slots from ?_)
  refine own_go (fun t k => castTop (own_ef1_rm2 m o0) k) ?_
  have li0 : (0 : Int32).toInt = 0 := rfl
  have li1 : (1 : Int32).toInt = 1 := rfl
  have li3 : (3 : Int32).toInt = 3 := rfl
  show own_End p e below s (s₁.setTop (mkF m 0 #[.val (.ref o0), .unset] [])) _ _ _
  refine own_go (fun t k => XS.aloadN X0.here hx rfl (hb hby d1_0) rfl rfl k) ?_
  show own_End p e below s (s₁.setTop (mkF m 1 #[.val (.ref o0), .unset] [(.ref o0)])) _ _ _
  obtain ⟨cl1, Ar1, q1, S1, M1, Hh1, G1⟩ := id V0
  refine own_go (fun t k => X0.arraylength hx (by rw [e0]; exact Ar1.1) (State.isArrayOf_alike hZ.alike Ar1.2.1) (g := (mkF m 1 #[.val (.ref o0), .unset] [(.ref o0)])) rfl rfl (hb hby d1_1) _ (by rw [len_of S1 M1]; exact k)) ?_
  show own_End p e below s (s₁.setTop (mkF m 2 #[.val (.ref o0), .unset] [(.int N)])) _ _ _
  refine own_go (fun t k => XS.iconst X0.here hx rfl (hb hby d1_2) k) ?_
  show own_End p e below s (s₁.setTop (mkF m 3 #[.val (.ref o0), .unset] [(.int (3 : Int32)), (.int N)])) _ _ _
  refine own_go (fun t k => XS.icmpNo X0.here hx rfl (hb hby d1_3) rfl (own_flt (x := N) (y := (3 : Int32)) (i := N.toInt) (j := 3) rfl rfl hN).1 k) ?_
  show own_End p e below s (s₁.setTop (mkF m 6 #[.val (.ref o0), .unset] [])) _ _ _
  refine own_go (fun t k => XS.aloadN X0.here hx rfl (hb hby d1_6) rfl rfl k) ?_
  show own_End p e below s (s₁.setTop (mkF m 7 #[.val (.ref o0), .unset] [(.ref o0)])) _ _ _
  refine own_go (fun t k => XS.iconst X0.here hx rfl (hb hby d1_7) k) ?_
  show own_End p e below s (s₁.setTop (mkF m 8 #[.val (.ref o0), .unset] [(.int (0 : Int32)), (.ref o0)])) _ _ _
  obtain ⟨cl2, Ar2, q2, S2, M2, Hh2, G2⟩ := id V0
  have hin2 : ¬ ((0 : Int32) < 0 ∨ cl2.slots.size ≤ ((0 : Int32)).toNatClampNeg) := inb_of S2 ⟨by decide, by rw [Int32.lt_iff_toInt_lt, show (0 : Int32).toInt = 0 from rfl]; omega⟩
  refine own_go (fun t k => X0.baloadBytes hx (j := (0 : Int32)) (v := (.int u0)) (by rw [e0]; exact Ar2.1) (State.isArrayOf_alike hZ.alike Ar2.2.1) Ar2.2.2 hin2 (Hh2.at hin2 hu0) (g := (mkF m 8 #[.val (.ref o0), .unset] [(.int (0 : Int32)), (.ref o0)])) rfl rfl (hb hby d1_8) _ k) ?_
  show own_End p e below s (s₁.setTop (mkF m 9 #[.val (.ref o0), .unset] [(.int u0)])) _ _ _
  refine own_go (fun t k => XS.bipush X0.here hx rfl (hb hby d1_9) k) ?_
  show own_End p e below s (s₁.setTop (mkF m 11 #[.val (.ref o0), .unset] [(.int (-17 : Int32)), (.int u0)])) _ _ _
  by_cases c11_3 : u0.toInt = -17
  · skip
    refine own_go (fun t k => XS.icmpNo X0.here hx rfl (hb hby d1_11) rfl (own_eq (x := u0) (y := (-17 : Int32)) (i := u0.toInt) (j := -17) rfl rfl c11_3).2 k) ?_
    show own_End p e below s (s₁.setTop (mkF m 14 #[.val (.ref o0), .unset] [])) _ _ _
    refine own_go (fun t k => XS.aloadN X0.here hx rfl (hb hby d1_14) rfl rfl k) ?_
    show own_End p e below s (s₁.setTop (mkF m 15 #[.val (.ref o0), .unset] [(.ref o0)])) _ _ _
    refine own_go (fun t k => XS.iconst X0.here hx rfl (hb hby d1_15) k) ?_
    show own_End p e below s (s₁.setTop (mkF m 16 #[.val (.ref o0), .unset] [(.int (1 : Int32)), (.ref o0)])) _ _ _
    obtain ⟨cl4, Ar4, q4, S4, M4, Hh4, G4⟩ := id V0
    have hin4 : ¬ ((1 : Int32) < 0 ∨ cl4.slots.size ≤ ((1 : Int32)).toNatClampNeg) := inb_of S4 ⟨by decide, by rw [Int32.lt_iff_toInt_lt, show (1 : Int32).toInt = 1 from rfl]; omega⟩
    refine own_go (fun t k => X0.baloadBytes hx (j := (1 : Int32)) (v := (.int u1)) (by rw [e0]; exact Ar4.1) (State.isArrayOf_alike hZ.alike Ar4.2.1) Ar4.2.2 hin4 (Hh4.at hin4 hu1) (g := (mkF m 16 #[.val (.ref o0), .unset] [(.int (1 : Int32)), (.ref o0)])) rfl rfl (hb hby d1_16) _ k) ?_
    show own_End p e below s (s₁.setTop (mkF m 17 #[.val (.ref o0), .unset] [(.int u1)])) _ _ _
    refine own_go (fun t k => XS.bipush X0.here hx rfl (hb hby d1_17) k) ?_
    show own_End p e below s (s₁.setTop (mkF m 19 #[.val (.ref o0), .unset] [(.int (-69 : Int32)), (.int u1)])) _ _ _
    by_cases c19_5 : u1.toInt = -69
    · skip
      refine own_go (fun t k => XS.icmpNo X0.here hx rfl (hb hby d1_19) rfl (own_eq (x := u1) (y := (-69 : Int32)) (i := u1.toInt) (j := -69) rfl rfl c19_5).2 k) ?_
      show own_End p e below s (s₁.setTop (mkF m 22 #[.val (.ref o0), .unset] [])) _ _ _
      refine own_go (fun t k => XS.aloadN X0.here hx rfl (hb hby d1_22) rfl rfl k) ?_
      show own_End p e below s (s₁.setTop (mkF m 23 #[.val (.ref o0), .unset] [(.ref o0)])) _ _ _
      refine own_go (fun t k => XS.iconst X0.here hx rfl (hb hby d1_23) k) ?_
      show own_End p e below s (s₁.setTop (mkF m 24 #[.val (.ref o0), .unset] [(.int (2 : Int32)), (.ref o0)])) _ _ _
      obtain ⟨cl6, Ar6, q6, S6, M6, Hh6, G6⟩ := id V0
      have hin6 : ¬ ((2 : Int32) < 0 ∨ cl6.slots.size ≤ ((2 : Int32)).toNatClampNeg) := inb_of S6 ⟨by decide, by rw [Int32.lt_iff_toInt_lt, show (2 : Int32).toInt = 2 from rfl]; omega⟩
      refine own_go (fun t k => X0.baloadBytes hx (j := (2 : Int32)) (v := (.int u2)) (by rw [e0]; exact Ar6.1) (State.isArrayOf_alike hZ.alike Ar6.2.1) Ar6.2.2 hin6 (Hh6.at hin6 hu2) (g := (mkF m 24 #[.val (.ref o0), .unset] [(.int (2 : Int32)), (.ref o0)])) rfl rfl (hb hby d1_24) _ k) ?_
      show own_End p e below s (s₁.setTop (mkF m 25 #[.val (.ref o0), .unset] [(.int u2)])) _ _ _
      refine own_go (fun t k => XS.bipush X0.here hx rfl (hb hby d1_25) k) ?_
      show own_End p e below s (s₁.setTop (mkF m 27 #[.val (.ref o0), .unset] [(.int (-65 : Int32)), (.int u2)])) _ _ _
      by_cases c27_7 : u2.toInt = -65
      · skip
        refine own_go (fun t k => XS.icmpNo X0.here hx rfl (hb hby d1_27) rfl (own_eq (x := u2) (y := (-65 : Int32)) (i := u2.toInt) (j := -65) rfl rfl c27_7).2 k) ?_
        show own_End p e below s (s₁.setTop (mkF m 30 #[.val (.ref o0), .unset] [])) _ _ _
        refine own_go (fun t k => XS.iconst X0.here hx rfl (hb hby d1_30) k) ?_
        show own_End p e below s (s₁.setTop (mkF m 31 #[.val (.ref o0), .unset] [(.int (1 : Int32))])) _ _ _
        refine own_go (fun t k => XS.goto X0.here hx rfl (pc0 := 31) (pc' := 35) rfl (hb hby d1_31) (by decide) (by decide) k) ?_
        show own_End p e below s (s₁.setTop (mkF m 35 #[.val (.ref o0), .unset] [(.int (1 : Int32))])) _ _ _
        refine own_go (fun t k => XS.istoreN X0.here hx rfl (hb hby d1_35) rfl (l' := #[.val (.ref o0), .val (.int (1 : Int32))]) rfl k) ?_
        show own_End p e below s (s₁.setTop (mkF m 36 #[.val (.ref o0), .val (.int (1 : Int32))] [])) _ _ _
        refine own_go (fun t k => XS.iloadN X0.here hx rfl (hb hby d1_36) rfl k) ?_
        show own_End p e below s (s₁.setTop (mkF m 37 #[.val (.ref o0), .val (.int (1 : Int32))] [(.int (1 : Int32))])) _ _ _
        refine own_go (fun t k => XS.ifNo X0.here hx rfl (hb hby d1_37) rfl ((if0 _ _).trans (own_ne (x := (1 : Int32)) (y := (0 : Int32)) (i := 1) (j := 0) rfl rfl (by decide)).1) k) ?_
        show own_End p e below s (s₁.setTop (mkF m 40 #[.val (.ref o0), .val (.int (1 : Int32))] [])) _ _ _
        refine own_go (fun t k => XS.iconst X0.here hx rfl (hb hby d1_40) k) ?_
        show own_End p e below s (s₁.setTop (mkF m 41 #[.val (.ref o0), .val (.int (1 : Int32))] [(.int (3 : Int32))])) _ _ _
        refine own_go (fun t k => XS.goto X0.here hx rfl (pc0 := 41) (pc' := 45) rfl (hb hby d1_41) (by decide) (by decide) k) ?_
        show own_End p e below s (s₁.setTop (mkF m 45 #[.val (.ref o0), .val (.int (1 : Int32))] [(.int (3 : Int32))])) _ _ _
        refine own_ret X0 (v := some (.int (3 : Int32))) (fun h => by rw [Bd.returns] at h; cases h) Bd.notSynchronized (fun fs hr => retI X0 hx Bd.returns (hb hby d1_45) hr) ?_ (by decide) (by decide)
        · rw [e0]; exact ⟨⟨_, rfl, by omega⟩, N0, rfl⟩
      · skip
        refine own_go (fun t k => XS.icmpYes X0.here hx rfl (pc0 := 27) (pc' := 34) rfl (hb hby d1_27) rfl (own_ne (x := u2) (y := (-65 : Int32)) (i := u2.toInt) (j := -65) rfl rfl c27_7).2 (by decide) (by decide) k) ?_
        show own_End p e below s (s₁.setTop (mkF m 34 #[.val (.ref o0), .unset] [])) _ _ _
        refine own_go (fun t k => XS.iconst X0.here hx rfl (hb hby d1_34) k) ?_
        show own_End p e below s (s₁.setTop (mkF m 35 #[.val (.ref o0), .unset] [(.int (0 : Int32))])) _ _ _
        refine own_go (fun t k => XS.istoreN X0.here hx rfl (hb hby d1_35) rfl (l' := #[.val (.ref o0), .val (.int (0 : Int32))]) rfl k) ?_
        show own_End p e below s (s₁.setTop (mkF m 36 #[.val (.ref o0), .val (.int (0 : Int32))] [])) _ _ _
        refine own_go (fun t k => XS.iloadN X0.here hx rfl (hb hby d1_36) rfl k) ?_
        show own_End p e below s (s₁.setTop (mkF m 37 #[.val (.ref o0), .val (.int (0 : Int32))] [(.int (0 : Int32))])) _ _ _
        refine own_go (fun t k => XS.ifYes X0.here hx rfl (pc0 := 37) (pc' := 44) rfl (hb hby d1_37) rfl ((if0 _ _).trans (own_eq (x := (0 : Int32)) (y := (0 : Int32)) (i := 0) (j := 0) rfl rfl (by decide)).1) (by decide) (by decide) k) ?_
        show own_End p e below s (s₁.setTop (mkF m 44 #[.val (.ref o0), .val (.int (0 : Int32))] [])) _ _ _
        refine own_go (fun t k => XS.iconst X0.here hx rfl (hb hby d1_44) k) ?_
        show own_End p e below s (s₁.setTop (mkF m 45 #[.val (.ref o0), .val (.int (0 : Int32))] [(.int (0 : Int32))])) _ _ _
        refine own_ret X0 (v := some (.int (0 : Int32))) (fun h => by rw [Bd.returns] at h; cases h) Bd.notSynchronized (fun fs hr => retI X0 hx Bd.returns (hb hby d1_45) hr) ?_ (by decide) (by decide)
        · rw [e0]; exact ⟨⟨_, rfl, by omega⟩, N0, rfl⟩
    · skip
      refine own_go (fun t k => XS.icmpYes X0.here hx rfl (pc0 := 19) (pc' := 34) rfl (hb hby d1_19) rfl (own_ne (x := u1) (y := (-69 : Int32)) (i := u1.toInt) (j := -69) rfl rfl c19_5).2 (by decide) (by decide) k) ?_
      show own_End p e below s (s₁.setTop (mkF m 34 #[.val (.ref o0), .unset] [])) _ _ _
      refine own_go (fun t k => XS.iconst X0.here hx rfl (hb hby d1_34) k) ?_
      show own_End p e below s (s₁.setTop (mkF m 35 #[.val (.ref o0), .unset] [(.int (0 : Int32))])) _ _ _
      refine own_go (fun t k => XS.istoreN X0.here hx rfl (hb hby d1_35) rfl (l' := #[.val (.ref o0), .val (.int (0 : Int32))]) rfl k) ?_
      show own_End p e below s (s₁.setTop (mkF m 36 #[.val (.ref o0), .val (.int (0 : Int32))] [])) _ _ _
      refine own_go (fun t k => XS.iloadN X0.here hx rfl (hb hby d1_36) rfl k) ?_
      show own_End p e below s (s₁.setTop (mkF m 37 #[.val (.ref o0), .val (.int (0 : Int32))] [(.int (0 : Int32))])) _ _ _
      refine own_go (fun t k => XS.ifYes X0.here hx rfl (pc0 := 37) (pc' := 44) rfl (hb hby d1_37) rfl ((if0 _ _).trans (own_eq (x := (0 : Int32)) (y := (0 : Int32)) (i := 0) (j := 0) rfl rfl (by decide)).1) (by decide) (by decide) k) ?_
      show own_End p e below s (s₁.setTop (mkF m 44 #[.val (.ref o0), .val (.int (0 : Int32))] [])) _ _ _
      refine own_go (fun t k => XS.iconst X0.here hx rfl (hb hby d1_44) k) ?_
      show own_End p e below s (s₁.setTop (mkF m 45 #[.val (.ref o0), .val (.int (0 : Int32))] [(.int (0 : Int32))])) _ _ _
      refine own_ret X0 (v := some (.int (0 : Int32))) (fun h => by rw [Bd.returns] at h; cases h) Bd.notSynchronized (fun fs hr => retI X0 hx Bd.returns (hb hby d1_45) hr) ?_ (by decide) (by decide)
      · rw [e0]; exact ⟨⟨_, rfl, by omega⟩, N0, rfl⟩
  · skip
    refine own_go (fun t k => XS.icmpYes X0.here hx rfl (pc0 := 11) (pc' := 34) rfl (hb hby d1_11) rfl (own_ne (x := u0) (y := (-17 : Int32)) (i := u0.toInt) (j := -17) rfl rfl c11_3).2 (by decide) (by decide) k) ?_
    show own_End p e below s (s₁.setTop (mkF m 34 #[.val (.ref o0), .unset] [])) _ _ _
    refine own_go (fun t k => XS.iconst X0.here hx rfl (hb hby d1_34) k) ?_
    show own_End p e below s (s₁.setTop (mkF m 35 #[.val (.ref o0), .unset] [(.int (0 : Int32))])) _ _ _
    refine own_go (fun t k => XS.istoreN X0.here hx rfl (hb hby d1_35) rfl (l' := #[.val (.ref o0), .val (.int (0 : Int32))]) rfl k) ?_
    show own_End p e below s (s₁.setTop (mkF m 36 #[.val (.ref o0), .val (.int (0 : Int32))] [])) _ _ _
    refine own_go (fun t k => XS.iloadN X0.here hx rfl (hb hby d1_36) rfl k) ?_
    show own_End p e below s (s₁.setTop (mkF m 37 #[.val (.ref o0), .val (.int (0 : Int32))] [(.int (0 : Int32))])) _ _ _
    refine own_go (fun t k => XS.ifYes X0.here hx rfl (pc0 := 37) (pc' := 44) rfl (hb hby d1_37) rfl ((if0 _ _).trans (own_eq (x := (0 : Int32)) (y := (0 : Int32)) (i := 0) (j := 0) rfl rfl (by decide)).1) (by decide) (by decide) k) ?_
    show own_End p e below s (s₁.setTop (mkF m 44 #[.val (.ref o0), .val (.int (0 : Int32))] [])) _ _ _
    refine own_go (fun t k => XS.iconst X0.here hx rfl (hb hby d1_44) k) ?_
    show own_End p e below s (s₁.setTop (mkF m 45 #[.val (.ref o0), .val (.int (0 : Int32))] [(.int (0 : Int32))])) _ _ _
    refine own_ret X0 (v := some (.int (0 : Int32))) (fun h => by rw [Bd.returns] at h; cases h) Bd.notSynchronized (fun fs hr => retI X0 hx Bd.returns (hb hby d1_45) hr) ?_ (by decide) (by decide)
    · rw [e0]; exact ⟨⟨_, rfl, by omega⟩, N0, rfl⟩
theorem own_pn1 : plainName "com/example/settings_by_rank/settingsbyrank/core/source/FileFormatByteOrderMarkLengthPinLaw" = true := by first | (simp [plainName, overriddenIn]; done) | decide +kernel
theorem own_ef0_rm0 (m : MethodId) (p0 : Int32) (p1 : Int32) (p2 : Int32) (p3 : Int32) (p4 : Int32) (p5 : Int32) : entryFrame m #[(.int p0), (.int p1), (.int p2), (.int p3), (.int p4), (.int p5)] maxLocals = mkF m 0 #[.val (.int p0), .val (.int p1), .val (.int p2), .val (.int p3), .val (.int p4), .val (.int p5), .unset, .unset, .unset, .unset, .unset, .unset, .unset] [] := by first | (simp [entryFrame, mkF, argsToLocals, Value.category, maxLocals]; done) | rfl
def Q_rm0 (Z : State) (p0 : Int32) (p1 : Int32) (p2 : Int32) (p3 : Int32) (p4 : Int32) (p5 : Int32)  (h0 : Heap) (n0 : Nat) (v : Option Value) (h : Heap) (L : List Loc) : Prop := v = some (.int 1) ∧ Fr n0 L
theorem own_pd0 : parseMethodDescriptor "([B)I" = some ⟨[(.array .byte)], some .int⟩ := by decide +kernel
set_option maxRecDepth 65536 in
set_option maxHeartbeats 40000000 in
theorem rm0 (l : Launch) (Z : State) (a0 : Array Value) (hw : ∀ d ∈ tables_1, d.before a0 Z = true) (ws : List Jvm.Cond) (p0 : Int32) (p1 : Int32) (p2 : Int32) (p3 : Int32) (p4 : Int32) (p5 : Int32)  (h0 : Heap) (n0 : Nat) (Z0 : n0 ≤ h0.size)  :
    MetFree l x (head1 (Jvm.Cond.code x code maxLocals ret :: ws) room_1) (fun a U => a = #[(.int p0), (.int p1), (.int p2), (.int p3), (.int p4), (.int p5)] ∧ Z.Warmed39 U.vm ∧ U.heap = h0) (fun _ _ _ _ _ => True) (fun _ U o U' => ∃ v L, o = .returned v ∧ Q_rm0 Z p0 p1 p2 p3 p4 p5  h0 n0 v U'.heap L ∧ FrameEnd U o U' L room_1.cells room_1.slots) := by
  refine MetFree.of_bodySF (plainFor_of_name own_pn1) hisR ?_
  intro p e s m args below meth c s₁ Bd hml0 hP hK
  obtain ⟨rfl, hZ, hh⟩ := hP
  have hx := Bd.exec
  have hby := Bd.bytes
  have hml : c.maxLocals = 13 := hml0
  have hown : s.vm.findClass "com/example/settings_by_rank/settingsbyrank/core/source/FileFormatByteOrderMarkLengthPinLaw" = some m.cls := findClass_of_methodNamed Bd.named
  have hnm := (name_of_methodNamed Bd.named Bd.method).1
  have X0 : Stand p l e room_1 s m #[(.int p0), (.int p1), (.int p2), (.int p3), (.int p4), (.int p5)] below meth c s₁ [] 0 0 := Stand.of_body Bd
  have e0 : s₁.heap = h0 := by rw [← hh, Bd.state]; rfl
  have N0 := Fr.nil n0
  refine (show own_End p e below s (s₁.setTop (entryFrame m #[(.int p0), (.int p1), (.int p2), (.int p3), (.int p4), (.int p5)] maxLocals)) (Q_rm0 Z p0 p1 p2 p3 p4 p5  h0 n0) room_1.cells room_1.slots from ?_)
  refine own_go (fun t k => castTop (own_ef0_rm0 m p0 p1 p2 p3 p4 p5) k) ?_
  have li0 : (0 : Int32).toInt = 0 := rfl
  have li1 : (1 : Int32).toInt = 1 := rfl
  show own_End p e below s (s₁.setTop (mkF m 0 #[.val (.int p0), .val (.int p1), .val (.int p2), .val (.int p3), .val (.int p4), .val (.int p5), .unset, .unset, .unset, .unset, .unset, .unset, .unset] [])) _ _ _
  refine own_go (fun t k => XS.iloadN X0.here hx rfl (hb hby at_0) rfl k) ?_
  show own_End p e below s (s₁.setTop (mkF m 1 #[.val (.int p0), .val (.int p1), .val (.int p2), .val (.int p3), .val (.int p4), .val (.int p5), .unset, .unset, .unset, .unset, .unset, .unset, .unset] [(.int p0)])) _ _ _
  refine own_go (fun t k => XS.bipush X0.here hx rfl (hb hby at_1) k) ?_
  show own_End p e below s (s₁.setTop (mkF m 3 #[.val (.int p0), .val (.int p1), .val (.int p2), .val (.int p3), .val (.int p4), .val (.int p5), .unset, .unset, .unset, .unset, .unset, .unset, .unset] [(.int (7 : Int32)), (.int p0)])) _ _ _
  refine own_go (fun t k => XS.iand X0.here hx rfl (hb hby at_3) rfl k) ?_
  show own_End p e below s (s₁.setTop (mkF m 4 #[.val (.int p0), .val (.int p1), .val (.int p2), .val (.int p3), .val (.int p4), .val (.int p5), .unset, .unset, .unset, .unset, .unset, .unset, .unset] [(.int (p0 &&& (7 : Int32)))])) _ _ _
  refine own_go (fun t k => XS.istore X0.here hx rfl (hb hby at_4) rfl (l' := #[.val (.int p0), .val (.int p1), .val (.int p2), .val (.int p3), .val (.int p4), .val (.int p5), .val (.int (p0 &&& (7 : Int32))), .unset, .unset, .unset, .unset, .unset, .unset]) rfl k) ?_
  show own_End p e below s (s₁.setTop (mkF m 6 #[.val (.int p0), .val (.int p1), .val (.int p2), .val (.int p3), .val (.int p4), .val (.int p5), .val (.int (p0 &&& (7 : Int32))), .unset, .unset, .unset, .unset, .unset, .unset] [])) _ _ _
  have J52 : ∀ (v0 v1 v2 : Int32), own_End p e below s (s₁.setTop (mkF m 52 #[.val (.int p0), .val (.int p1), .val (.int p2), .val (.int p3), .val (.int p4), .val (.int p5), .val (.int (p0 &&& (7 : Int32))), .val (.int v0), .val (.int v1), .unset, .unset, .unset, .unset] [(.int v2)])) (Q_rm0 Z p0 p1 p2 p3 p4 p5  h0 n0) room_1.cells room_1.slots := by
    intro v0 v1 v2
    show own_End p e below s (s₁.setTop (mkF m 52 #[.val (.int p0), .val (.int p1), .val (.int p2), .val (.int p3), .val (.int p4), .val (.int p5), .val (.int (p0 &&& (7 : Int32))), .val (.int v0), .val (.int v1), .unset, .unset, .unset, .unset] [(.int v2)])) _ _ _
    refine own_go (fun t k => XS.istore X0.here hx rfl (hb hby at_52) rfl (l' := #[.val (.int p0), .val (.int p1), .val (.int p2), .val (.int p3), .val (.int p4), .val (.int p5), .val (.int (p0 &&& (7 : Int32))), .val (.int v0), .val (.int v1), .val (.int v2), .unset, .unset, .unset]) rfl k) ?_
    show own_End p e below s (s₁.setTop (mkF m 54 #[.val (.int p0), .val (.int p1), .val (.int p2), .val (.int p3), .val (.int p4), .val (.int p5), .val (.int (p0 &&& (7 : Int32))), .val (.int v0), .val (.int v1), .val (.int v2), .unset, .unset, .unset] [])) _ _ _
    rcases own_mask7 p0 with hm | hm | hm | hm | hm | hm | hm | hm
    · skip
      rw [hm]
      show own_End p e below s (s₁.setTop (mkF m 54 #[.val (.int p0), .val (.int p1), .val (.int p2), .val (.int p3), .val (.int p4), .val (.int p5), .val (.int (0 : Int32)), .val (.int v0), .val (.int v1), .val (.int v2), .unset, .unset, .unset] [])) _ _ _
      refine own_go (fun t k => XS.iload X0.here hx rfl (hb hby at_54) rfl k) ?_
      show own_End p e below s (s₁.setTop (mkF m 56 #[.val (.int p0), .val (.int p1), .val (.int p2), .val (.int p3), .val (.int p4), .val (.int p5), .val (.int (0 : Int32)), .val (.int v0), .val (.int v1), .val (.int v2), .unset, .unset, .unset] [(.int (0 : Int32))])) _ _ _
      obtain ⟨T1, h1, k1, X1, e1, E1, A1, st1⟩ := newP X0 hx hZ (hw _ (List.mem_of_getElem? (i := 0) rfl)) e0 (g := (mkF m 56 #[.val (.int p0), .val (.int p1), .val (.int p2), .val (.int p3), .val (.int p4), .val (.int p5), .val (.int (0 : Int32)), .val (.int v0), .val (.int v1), .val (.int v2), .unset, .unset, .unset] [(.int (0 : Int32))])) rfl (hb hby at_56) rfl (by decide) (cap := 0) (by decide) (by decide) (by decide) (by decide)
      obtain ⟨b1, g1⟩ : ∃ z, z = h0.size := ⟨_, rfl⟩
      rw [← g1] at A1 st1
      have g_b1 : n0 ≤ b1 := Nat.le_trans Z0 (Nat.le_of_eq g1.symm)
      have Z1 : n0 ≤ h1.size := Nat.le_trans Z0 E1.1
      have V_b1 : Arv Z h1 b1 k1 .byte (0 : Int32) [] (.int (0 : Int32)) := (Arv.new A1 (by decide)).pad (pad_rep [] (.int (0 : Int32)) 0)
      refine own_go st1 ?_
      show own_End p e below s (T1.setTop (mkF m 58 #[.val (.int p0), .val (.int p1), .val (.int p2), .val (.int p3), .val (.int p4), .val (.int p5), .val (.int (0 : Int32)), .val (.int v0), .val (.int v1), .val (.int v2), .unset, .unset, .unset] [(.ref b1)])) _ _ _
      refine own_go (fun t k => XS.astore X1.here hx rfl (hb hby at_58) rfl rfl (l' := #[.val (.int p0), .val (.int p1), .val (.int p2), .val (.int p3), .val (.int p4), .val (.int p5), .val (.int (0 : Int32)), .val (.int v0), .val (.int v1), .val (.int v2), .val (.ref b1), .unset, .unset]) rfl k) ?_
      show own_End p e below s (T1.setTop (mkF m 60 #[.val (.int p0), .val (.int p1), .val (.int p2), .val (.int p3), .val (.int p4), .val (.int p5), .val (.int (0 : Int32)), .val (.int v0), .val (.int v1), .val (.int v2), .val (.ref b1), .unset, .unset] [])) _ _ _
      refine own_go (fun t k => XS.iload X1.here hx rfl (hb hby at_60) rfl k) ?_
      show own_End p e below s (T1.setTop (mkF m 62 #[.val (.int p0), .val (.int p1), .val (.int p2), .val (.int p3), .val (.int p4), .val (.int p5), .val (.int (0 : Int32)), .val (.int v0), .val (.int v1), .val (.int v2), .val (.ref b1), .unset, .unset] [(.int (0 : Int32))])) _ _ _
      refine own_go (fun t k => XS.ifYes X1.here hx rfl (pc0 := 62) (pc' := 72) rfl (hb hby at_62) rfl ((if0 _ _).trans (own_flt (x := (0 : Int32)) (y := (0 : Int32)) (i := 0) (j := 0) rfl rfl (by decide)).2.2.2) (by decide) (by decide) k) ?_
      show own_End p e below s (T1.setTop (mkF m 72 #[.val (.int p0), .val (.int p1), .val (.int p2), .val (.int p3), .val (.int p4), .val (.int p5), .val (.int (0 : Int32)), .val (.int v0), .val (.int v1), .val (.int v2), .val (.ref b1), .unset, .unset] [])) _ _ _
      refine own_go (fun t k => XS.iload X1.here hx rfl (hb hby at_72) rfl k) ?_
      show own_End p e below s (T1.setTop (mkF m 74 #[.val (.int p0), .val (.int p1), .val (.int p2), .val (.int p3), .val (.int p4), .val (.int p5), .val (.int (0 : Int32)), .val (.int v0), .val (.int v1), .val (.int v2), .val (.ref b1), .unset, .unset] [(.int (0 : Int32))])) _ _ _
      refine own_go (fun t k => XS.iconst X1.here hx rfl (hb hby at_74) k) ?_
      show own_End p e below s (T1.setTop (mkF m 75 #[.val (.int p0), .val (.int p1), .val (.int p2), .val (.int p3), .val (.int p4), .val (.int p5), .val (.int (0 : Int32)), .val (.int v0), .val (.int v1), .val (.int v2), .val (.ref b1), .unset, .unset] [(.int (1 : Int32)), (.int (0 : Int32))])) _ _ _
      refine own_go (fun t k => XS.icmpYes X1.here hx rfl (pc0 := 75) (pc' := 85) rfl (hb hby at_75) rfl (own_flt (x := (1 : Int32)) (y := (0 : Int32)) (i := 1) (j := 0) rfl rfl (by decide)).2.2.2 (by decide) (by decide) k) ?_
      show own_End p e below s (T1.setTop (mkF m 85 #[.val (.int p0), .val (.int p1), .val (.int p2), .val (.int p3), .val (.int p4), .val (.int p5), .val (.int (0 : Int32)), .val (.int v0), .val (.int v1), .val (.int v2), .val (.ref b1), .unset, .unset] [])) _ _ _
      refine own_go (fun t k => XS.iload X1.here hx rfl (hb hby at_85) rfl k) ?_
      show own_End p e below s (T1.setTop (mkF m 87 #[.val (.int p0), .val (.int p1), .val (.int p2), .val (.int p3), .val (.int p4), .val (.int p5), .val (.int (0 : Int32)), .val (.int v0), .val (.int v1), .val (.int v2), .val (.ref b1), .unset, .unset] [(.int (0 : Int32))])) _ _ _
      refine own_go (fun t k => XS.iconst X1.here hx rfl (hb hby at_87) k) ?_
      show own_End p e below s (T1.setTop (mkF m 88 #[.val (.int p0), .val (.int p1), .val (.int p2), .val (.int p3), .val (.int p4), .val (.int p5), .val (.int (0 : Int32)), .val (.int v0), .val (.int v1), .val (.int v2), .val (.ref b1), .unset, .unset] [(.int (2 : Int32)), (.int (0 : Int32))])) _ _ _
      refine own_go (fun t k => XS.icmpYes X1.here hx rfl (pc0 := 88) (pc' := 98) rfl (hb hby at_88) rfl (own_flt (x := (2 : Int32)) (y := (0 : Int32)) (i := 2) (j := 0) rfl rfl (by decide)).2.2.2 (by decide) (by decide) k) ?_
      show own_End p e below s (T1.setTop (mkF m 98 #[.val (.int p0), .val (.int p1), .val (.int p2), .val (.int p3), .val (.int p4), .val (.int p5), .val (.int (0 : Int32)), .val (.int v0), .val (.int v1), .val (.int v2), .val (.ref b1), .unset, .unset] [])) _ _ _
      refine own_go (fun t k => XS.iload X1.here hx rfl (hb hby at_98) rfl k) ?_
      show own_End p e below s (T1.setTop (mkF m 100 #[.val (.int p0), .val (.int p1), .val (.int p2), .val (.int p3), .val (.int p4), .val (.int p5), .val (.int (0 : Int32)), .val (.int v0), .val (.int v1), .val (.int v2), .val (.ref b1), .unset, .unset] [(.int (0 : Int32))])) _ _ _
      refine own_go (fun t k => XS.iconst X1.here hx rfl (hb hby at_100) k) ?_
      show own_End p e below s (T1.setTop (mkF m 101 #[.val (.int p0), .val (.int p1), .val (.int p2), .val (.int p3), .val (.int p4), .val (.int p5), .val (.int (0 : Int32)), .val (.int v0), .val (.int v1), .val (.int v2), .val (.ref b1), .unset, .unset] [(.int (3 : Int32)), (.int (0 : Int32))])) _ _ _
      refine own_go (fun t k => XS.icmpYes X1.here hx rfl (pc0 := 101) (pc' := 111) rfl (hb hby at_101) rfl (own_flt (x := (3 : Int32)) (y := (0 : Int32)) (i := 3) (j := 0) rfl rfl (by decide)).2.2.2 (by decide) (by decide) k) ?_
      show own_End p e below s (T1.setTop (mkF m 111 #[.val (.int p0), .val (.int p1), .val (.int p2), .val (.int p3), .val (.int p4), .val (.int p5), .val (.int (0 : Int32)), .val (.int v0), .val (.int v1), .val (.int v2), .val (.ref b1), .unset, .unset] [])) _ _ _
      refine own_go (fun t k => XS.iload X1.here hx rfl (hb hby at_111) rfl k) ?_
      show own_End p e below s (T1.setTop (mkF m 113 #[.val (.int p0), .val (.int p1), .val (.int p2), .val (.int p3), .val (.int p4), .val (.int p5), .val (.int (0 : Int32)), .val (.int v0), .val (.int v1), .val (.int v2), .val (.ref b1), .unset, .unset] [(.int (0 : Int32))])) _ _ _
      refine own_go (fun t k => XS.iconst X1.here hx rfl (hb hby at_113) k) ?_
      show own_End p e below s (T1.setTop (mkF m 114 #[.val (.int p0), .val (.int p1), .val (.int p2), .val (.int p3), .val (.int p4), .val (.int p5), .val (.int (0 : Int32)), .val (.int v0), .val (.int v1), .val (.int v2), .val (.ref b1), .unset, .unset] [(.int (4 : Int32)), (.int (0 : Int32))])) _ _ _
      refine own_go (fun t k => XS.icmpYes X1.here hx rfl (pc0 := 114) (pc' := 127) rfl (hb hby at_114) rfl (own_flt (x := (4 : Int32)) (y := (0 : Int32)) (i := 4) (j := 0) rfl rfl (by decide)).2.2.2 (by decide) (by decide) k) ?_
      show own_End p e below s (T1.setTop (mkF m 127 #[.val (.int p0), .val (.int p1), .val (.int p2), .val (.int p3), .val (.int p4), .val (.int p5), .val (.int (0 : Int32)), .val (.int v0), .val (.int v1), .val (.int v2), .val (.ref b1), .unset, .unset] [])) _ _ _
      refine own_go (fun t k => XS.iload X1.here hx rfl (hb hby at_127) rfl k) ?_
      show own_End p e below s (T1.setTop (mkF m 129 #[.val (.int p0), .val (.int p1), .val (.int p2), .val (.int p3), .val (.int p4), .val (.int p5), .val (.int (0 : Int32)), .val (.int v0), .val (.int v1), .val (.int v2), .val (.ref b1), .unset, .unset] [(.int (0 : Int32))])) _ _ _
      refine own_go (fun t k => XS.iconst X1.here hx rfl (hb hby at_129) k) ?_
      show own_End p e below s (T1.setTop (mkF m 130 #[.val (.int p0), .val (.int p1), .val (.int p2), .val (.int p3), .val (.int p4), .val (.int p5), .val (.int (0 : Int32)), .val (.int v0), .val (.int v1), .val (.int v2), .val (.ref b1), .unset, .unset] [(.int (5 : Int32)), (.int (0 : Int32))])) _ _ _
      refine own_go (fun t k => XS.icmpYes X1.here hx rfl (pc0 := 130) (pc' := 143) rfl (hb hby at_130) rfl (own_flt (x := (5 : Int32)) (y := (0 : Int32)) (i := 5) (j := 0) rfl rfl (by decide)).2.2.2 (by decide) (by decide) k) ?_
      show own_End p e below s (T1.setTop (mkF m 143 #[.val (.int p0), .val (.int p1), .val (.int p2), .val (.int p3), .val (.int p4), .val (.int p5), .val (.int (0 : Int32)), .val (.int v0), .val (.int v1), .val (.int v2), .val (.ref b1), .unset, .unset] [])) _ _ _
      refine own_go (fun t k => XS.iload X1.here hx rfl (hb hby at_143) rfl k) ?_
      show own_End p e below s (T1.setTop (mkF m 145 #[.val (.int p0), .val (.int p1), .val (.int p2), .val (.int p3), .val (.int p4), .val (.int p5), .val (.int (0 : Int32)), .val (.int v0), .val (.int v1), .val (.int v2), .val (.ref b1), .unset, .unset] [(.int (0 : Int32))])) _ _ _
      refine own_go (fun t k => XS.bipush X1.here hx rfl (hb hby at_145) k) ?_
      show own_End p e below s (T1.setTop (mkF m 147 #[.val (.int p0), .val (.int p1), .val (.int p2), .val (.int p3), .val (.int p4), .val (.int p5), .val (.int (0 : Int32)), .val (.int v0), .val (.int v1), .val (.int v2), .val (.ref b1), .unset, .unset] [(.int (6 : Int32)), (.int (0 : Int32))])) _ _ _
      refine own_go (fun t k => XS.icmpYes X1.here hx rfl (pc0 := 147) (pc' := 161) rfl (hb hby at_147) rfl (own_flt (x := (6 : Int32)) (y := (0 : Int32)) (i := 6) (j := 0) rfl rfl (by decide)).2.2.2 (by decide) (by decide) k) ?_
      show own_End p e below s (T1.setTop (mkF m 161 #[.val (.int p0), .val (.int p1), .val (.int p2), .val (.int p3), .val (.int p4), .val (.int p5), .val (.int (0 : Int32)), .val (.int v0), .val (.int v1), .val (.int v2), .val (.ref b1), .unset, .unset] [])) _ _ _
      refine own_go (fun t k => XS.iconst X1.here hx rfl (hb hby at_161) k) ?_
      show own_End p e below s (T1.setTop (mkF m 162 #[.val (.int p0), .val (.int p1), .val (.int p2), .val (.int p3), .val (.int p4), .val (.int p5), .val (.int (0 : Int32)), .val (.int v0), .val (.int v1), .val (.int v2), .val (.ref b1), .unset, .unset] [(.int (0 : Int32))])) _ _ _
      refine own_go (fun t k => XS.istore X1.here hx rfl (hb hby at_162) rfl (l' := #[.val (.int p0), .val (.int p1), .val (.int p2), .val (.int p3), .val (.int p4), .val (.int p5), .val (.int (0 : Int32)), .val (.int v0), .val (.int v1), .val (.int v2), .val (.ref b1), .val (.int (0 : Int32)), .unset]) rfl k) ?_
      show own_End p e below s (T1.setTop (mkF m 164 #[.val (.int p0), .val (.int p1), .val (.int p2), .val (.int p3), .val (.int p4), .val (.int p5), .val (.int (0 : Int32)), .val (.int v0), .val (.int v1), .val (.int v2), .val (.ref b1), .val (.int (0 : Int32)), .unset] [])) _ _ _
      refine own_go (fun t k => XS.iload X1.here hx rfl (hb hby at_164) rfl k) ?_
      show own_End p e below s (T1.setTop (mkF m 166 #[.val (.int p0), .val (.int p1), .val (.int p2), .val (.int p3), .val (.int p4), .val (.int p5), .val (.int (0 : Int32)), .val (.int v0), .val (.int v1), .val (.int v2), .val (.ref b1), .val (.int (0 : Int32)), .unset] [(.int (0 : Int32))])) _ _ _
      refine own_go (fun t k => XS.iconst X1.here hx rfl (hb hby at_166) k) ?_
      show own_End p e below s (T1.setTop (mkF m 167 #[.val (.int p0), .val (.int p1), .val (.int p2), .val (.int p3), .val (.int p4), .val (.int p5), .val (.int (0 : Int32)), .val (.int v0), .val (.int v1), .val (.int v2), .val (.ref b1), .val (.int (0 : Int32)), .unset] [(.int (3 : Int32)), (.int (0 : Int32))])) _ _ _
      refine own_go (fun t k => XS.icmpYes X1.here hx rfl (pc0 := 167) (pc' := 209) rfl (hb hby at_167) rfl (own_tlt (x := (0 : Int32)) (y := (3 : Int32)) (i := 0) (j := 3) rfl rfl (by decide)).1 (by decide) (by decide) k) ?_
      show own_End p e below s (T1.setTop (mkF m 209 #[.val (.int p0), .val (.int p1), .val (.int p2), .val (.int p3), .val (.int p4), .val (.int p5), .val (.int (0 : Int32)), .val (.int v0), .val (.int v1), .val (.int v2), .val (.ref b1), .val (.int (0 : Int32)), .unset] [])) _ _ _
      refine own_go (fun t k => XS.aload X1.here hx rfl (hb hby at_209) rfl rfl k) ?_
      show own_End p e below s (T1.setTop (mkF m 211 #[.val (.int p0), .val (.int p1), .val (.int p2), .val (.int p3), .val (.int p4), .val (.int p5), .val (.int (0 : Int32)), .val (.int v0), .val (.int v1), .val (.int v2), .val (.ref b1), .val (.int (0 : Int32)), .unset] [(.ref b1)])) _ _ _
      obtain ⟨_, _, ⟨T2, L2, k2, n2⟩, -, X2, ⟨Lc2, hQ2, l2, y2, z2⟩, st2⟩ := Jvm.LawKit.callS X1 hx (y := (⟨"com/example/settings_by_rank/settingsbyrank/core/source/FileFormat", "byteOrderMarkLength", "([B)I"⟩ : MethodName)) hown (mvT hZ (hw _ (List.mem_of_getElem? (i := 1) rfl))) (mvT hZ (hw _ (List.mem_of_getElem? (i := 2) rfl))) (mvT hZ (hw _ (List.mem_of_getElem? (i := 3) rfl))) (mvT hZ (hw _ (List.mem_of_getElem? (i := 4) rfl))) (by decide) (backOf (W := 0) (rm1 l Z a0 hw [] b1 k1 (0 : Int32) [] h1 n0 Z1 V_b1 (by decide)) hZ (hw _ (List.mem_of_getElem? (i := 4) rfl)) (hw _ (List.mem_of_getElem? (i := 3) rfl)) (by decide) (by decide)) (g := (mkF m 211 #[.val (.int p0), .val (.int p1), .val (.int p2), .val (.int p3), .val (.int p4), .val (.int p5), .val (.int (0 : Int32)), .val (.int v0), .val (.int v1), .val (.int v2), .val (.ref b1), .val (.int (0 : Int32)), .unset] [(.ref b1)])) rfl (by rw [hml]; rfl) (argsL := [(.ref b1)]) (rest := []) (lenOf own_pd0 rfl) rfl (by show 2 * 0 + _ ≤ _; exact Nat.le_of_eq rfl) (hb hby at_211) (fun _ _ => ⟨rfl, e1, (by decide : 1 + 0 ≤ _), (by decide : 0 + 0 ≤ _)⟩)
      dsimp only [Pt.U, Pt.locs, Pt.cells, Pt.slots] at X2 l2 y2 z2 st2 hQ2
      subst l2 y2 z2
      obtain ⟨rfl, N2q, e2⟩ := hQ2
      have N2 := Fr.app N0 N2q
      refine own_go st2 ?_
      show own_End p e below s (T2.setTop (mkF m 214 #[.val (.int p0), .val (.int p1), .val (.int p2), .val (.int p3), .val (.int p4), .val (.int p5), .val (.int (0 : Int32)), .val (.int v0), .val (.int v1), .val (.int v2), .val (.ref b1), .val (.int (0 : Int32)), .unset] [(.int (0 : Int32))])) _ _ _
      refine own_go (fun t k => XS.istore X2.here hx rfl (hb hby at_214) rfl (l' := #[.val (.int p0), .val (.int p1), .val (.int p2), .val (.int p3), .val (.int p4), .val (.int p5), .val (.int (0 : Int32)), .val (.int v0), .val (.int v1), .val (.int v2), .val (.ref b1), .val (.int (0 : Int32)), .val (.int (0 : Int32))]) rfl k) ?_
      show own_End p e below s (T2.setTop (mkF m 216 #[.val (.int p0), .val (.int p1), .val (.int p2), .val (.int p3), .val (.int p4), .val (.int p5), .val (.int (0 : Int32)), .val (.int v0), .val (.int v1), .val (.int v2), .val (.ref b1), .val (.int (0 : Int32)), .val (.int (0 : Int32))] [])) _ _ _
      refine own_go (fun t k => XS.iload X2.here hx rfl (hb hby at_216) rfl k) ?_
      show own_End p e below s (T2.setTop (mkF m 218 #[.val (.int p0), .val (.int p1), .val (.int p2), .val (.int p3), .val (.int p4), .val (.int p5), .val (.int (0 : Int32)), .val (.int v0), .val (.int v1), .val (.int v2), .val (.ref b1), .val (.int (0 : Int32)), .val (.int (0 : Int32))] [(.int (0 : Int32))])) _ _ _
      refine own_go (fun t k => XS.iload X2.here hx rfl (hb hby at_218) rfl k) ?_
      show own_End p e below s (T2.setTop (mkF m 220 #[.val (.int p0), .val (.int p1), .val (.int p2), .val (.int p3), .val (.int p4), .val (.int p5), .val (.int (0 : Int32)), .val (.int v0), .val (.int v1), .val (.int v2), .val (.ref b1), .val (.int (0 : Int32)), .val (.int (0 : Int32))] [(.int (0 : Int32)), (.int (0 : Int32))])) _ _ _
      refine own_go (fun t k => XS.icmpNo X2.here hx rfl (hb hby at_220) rfl (own_eq (x := (0 : Int32)) (y := (0 : Int32)) (i := 0) (j := 0) rfl rfl (by decide)).2 k) ?_
      show own_End p e below s (T2.setTop (mkF m 223 #[.val (.int p0), .val (.int p1), .val (.int p2), .val (.int p3), .val (.int p4), .val (.int p5), .val (.int (0 : Int32)), .val (.int v0), .val (.int v1), .val (.int v2), .val (.ref b1), .val (.int (0 : Int32)), .val (.int (0 : Int32))] [])) _ _ _
      refine own_go (fun t k => XS.iconst X2.here hx rfl (hb hby at_223) k) ?_
      show own_End p e below s (T2.setTop (mkF m 224 #[.val (.int p0), .val (.int p1), .val (.int p2), .val (.int p3), .val (.int p4), .val (.int p5), .val (.int (0 : Int32)), .val (.int v0), .val (.int v1), .val (.int v2), .val (.ref b1), .val (.int (0 : Int32)), .val (.int (0 : Int32))] [(.int (1 : Int32))])) _ _ _
      refine own_go (fun t k => XS.goto X2.here hx rfl (pc0 := 224) (pc' := 228) rfl (hb hby at_224) (by decide) (by decide) k) ?_
      show own_End p e below s (T2.setTop (mkF m 228 #[.val (.int p0), .val (.int p1), .val (.int p2), .val (.int p3), .val (.int p4), .val (.int p5), .val (.int (0 : Int32)), .val (.int v0), .val (.int v1), .val (.int v2), .val (.ref b1), .val (.int (0 : Int32)), .val (.int (0 : Int32))] [(.int (1 : Int32))])) _ _ _
      refine own_ret X2 (v := some (.int (1 : Int32))) (fun h => by rw [Bd.returns] at h; cases h) Bd.notSynchronized (fun fs hr => retN X2 hx (t := .boolean) Bd.returns (by simp) (hb hby at_228) hr) ?_ (by decide) (by decide)
      · exact ⟨rfl, N2⟩
    · skip
      rw [hm]
      show own_End p e below s (s₁.setTop (mkF m 54 #[.val (.int p0), .val (.int p1), .val (.int p2), .val (.int p3), .val (.int p4), .val (.int p5), .val (.int (1 : Int32)), .val (.int v0), .val (.int v1), .val (.int v2), .unset, .unset, .unset] [])) _ _ _
      refine own_go (fun t k => XS.iload X0.here hx rfl (hb hby at_54) rfl k) ?_
      show own_End p e below s (s₁.setTop (mkF m 56 #[.val (.int p0), .val (.int p1), .val (.int p2), .val (.int p3), .val (.int p4), .val (.int p5), .val (.int (1 : Int32)), .val (.int v0), .val (.int v1), .val (.int v2), .unset, .unset, .unset] [(.int (1 : Int32))])) _ _ _
      obtain ⟨T3, h3, k3, X3, e3, E3, A3, st3⟩ := newP X0 hx hZ (hw _ (List.mem_of_getElem? (i := 0) rfl)) e0 (g := (mkF m 56 #[.val (.int p0), .val (.int p1), .val (.int p2), .val (.int p3), .val (.int p4), .val (.int p5), .val (.int (1 : Int32)), .val (.int v0), .val (.int v1), .val (.int v2), .unset, .unset, .unset] [(.int (1 : Int32))])) rfl (hb hby at_56) rfl (by decide) (cap := 1) (by decide) (by decide) (by decide) (by decide)
      obtain ⟨b3, g3⟩ : ∃ z, z = h0.size := ⟨_, rfl⟩
      rw [← g3] at A3 st3
      have g_b3 : n0 ≤ b3 := Nat.le_trans Z0 (Nat.le_of_eq g3.symm)
      have Z3 : n0 ≤ h3.size := Nat.le_trans Z0 E3.1
      have V_b3 : Arv Z h3 b3 k3 .byte (1 : Int32) [(.int (0 : Int32))] (.int (0 : Int32)) := (Arv.new A3 (by decide)).pad (pad_rep [] (.int (0 : Int32)) 1)
      refine own_go st3 ?_
      show own_End p e below s (T3.setTop (mkF m 58 #[.val (.int p0), .val (.int p1), .val (.int p2), .val (.int p3), .val (.int p4), .val (.int p5), .val (.int (1 : Int32)), .val (.int v0), .val (.int v1), .val (.int v2), .unset, .unset, .unset] [(.ref b3)])) _ _ _
      refine own_go (fun t k => XS.astore X3.here hx rfl (hb hby at_58) rfl rfl (l' := #[.val (.int p0), .val (.int p1), .val (.int p2), .val (.int p3), .val (.int p4), .val (.int p5), .val (.int (1 : Int32)), .val (.int v0), .val (.int v1), .val (.int v2), .val (.ref b3), .unset, .unset]) rfl k) ?_
      show own_End p e below s (T3.setTop (mkF m 60 #[.val (.int p0), .val (.int p1), .val (.int p2), .val (.int p3), .val (.int p4), .val (.int p5), .val (.int (1 : Int32)), .val (.int v0), .val (.int v1), .val (.int v2), .val (.ref b3), .unset, .unset] [])) _ _ _
      refine own_go (fun t k => XS.iload X3.here hx rfl (hb hby at_60) rfl k) ?_
      show own_End p e below s (T3.setTop (mkF m 62 #[.val (.int p0), .val (.int p1), .val (.int p2), .val (.int p3), .val (.int p4), .val (.int p5), .val (.int (1 : Int32)), .val (.int v0), .val (.int v1), .val (.int v2), .val (.ref b3), .unset, .unset] [(.int (1 : Int32))])) _ _ _
      refine own_go (fun t k => XS.ifNo X3.here hx rfl (hb hby at_62) rfl ((if0 _ _).trans (own_tlt (x := (0 : Int32)) (y := (1 : Int32)) (i := 0) (j := 1) rfl rfl (by decide)).2.2.2) k) ?_
      show own_End p e below s (T3.setTop (mkF m 65 #[.val (.int p0), .val (.int p1), .val (.int p2), .val (.int p3), .val (.int p4), .val (.int p5), .val (.int (1 : Int32)), .val (.int v0), .val (.int v1), .val (.int v2), .val (.ref b3), .unset, .unset] [])) _ _ _
      refine own_go (fun t k => XS.aload X3.here hx rfl (hb hby at_65) rfl rfl k) ?_
      show own_End p e below s (T3.setTop (mkF m 67 #[.val (.int p0), .val (.int p1), .val (.int p2), .val (.int p3), .val (.int p4), .val (.int p5), .val (.int (1 : Int32)), .val (.int v0), .val (.int v1), .val (.int v2), .val (.ref b3), .unset, .unset] [(.ref b3)])) _ _ _
      refine own_go (fun t k => XS.iconst X3.here hx rfl (hb hby at_67) k) ?_
      show own_End p e below s (T3.setTop (mkF m 68 #[.val (.int p0), .val (.int p1), .val (.int p2), .val (.int p3), .val (.int p4), .val (.int p5), .val (.int (1 : Int32)), .val (.int v0), .val (.int v1), .val (.int v2), .val (.ref b3), .unset, .unset] [(.int (0 : Int32)), (.ref b3)])) _ _ _
      refine own_go (fun t k => XS.iload X3.here hx rfl (hb hby at_68) rfl k) ?_
      show own_End p e below s (T3.setTop (mkF m 70 #[.val (.int p0), .val (.int p1), .val (.int p2), .val (.int p3), .val (.int p4), .val (.int p5), .val (.int (1 : Int32)), .val (.int v0), .val (.int v1), .val (.int v2), .val (.ref b3), .unset, .unset] [(.int v0), (.int (0 : Int32)), (.ref b3)])) _ _ _
      refine own_go (fun t k => XS.i2b X3.here hx rfl (hb hby at_70) rfl k) ?_
      show own_End p e below s (T3.setTop (mkF m 71 #[.val (.int p0), .val (.int p1), .val (.int p2), .val (.int p3), .val (.int p4), .val (.int p5), .val (.int (1 : Int32)), .val (.int v0), .val (.int v1), .val (.int v2), .val (.ref b3), .unset, .unset] [(.int (v0.toInt8.toInt32)), (.int (0 : Int32)), (.ref b3)])) _ _ _
      obtain ⟨cl4, Ar4, q4, S4, M4, Hh4, G4⟩ := id V_b3
      have hin4 : ¬ ((0 : Int32) < 0 ∨ cl4.slots.size ≤ ((0 : Int32)).toNatClampNeg) := inb_of S4 ⟨by decide, by decide⟩
      obtain ⟨T5, h5, X5, e5, W5, st5⟩ := stB X3 hx hZ e3 Ar4 (j := (0 : Int32)) hin4 (g := (mkF m 71 #[.val (.int p0), .val (.int p1), .val (.int p2), .val (.int p3), .val (.int p4), .val (.int p5), .val (.int (1 : Int32)), .val (.int v0), .val (.int v1), .val (.int v2), .val (.ref b3), .unset, .unset] [(.int (v0.toInt8.toInt32)), (.int (0 : Int32)), (.ref b3)])) rfl rfl (hb hby at_71)
      have V_b3_5 : Arv Z h5 b3 k3 .byte (1 : Int32) [(.int ((v0.toInt8.toInt32).toInt8.toInt32))] (.int (0 : Int32)) := Arv.set Ar4 q4 S4 M4 Hh4 G4 (fits_nar_byte _) W5 0 rfl (Nat.le_of_ble_eq_true rfl)
      have N5 := Fr.snoc X5 N0 g_b3
      have Z5 : n0 ≤ h5.size := Nat.le_trans Z3 (Keep.of_wr W5).1
      refine own_go st5 ?_
      show own_End p e below s (T5.setTop (mkF m 72 #[.val (.int p0), .val (.int p1), .val (.int p2), .val (.int p3), .val (.int p4), .val (.int p5), .val (.int (1 : Int32)), .val (.int v0), .val (.int v1), .val (.int v2), .val (.ref b3), .unset, .unset] [])) _ _ _
      refine own_go (fun t k => XS.iload X5.here hx rfl (hb hby at_72) rfl k) ?_
      show own_End p e below s (T5.setTop (mkF m 74 #[.val (.int p0), .val (.int p1), .val (.int p2), .val (.int p3), .val (.int p4), .val (.int p5), .val (.int (1 : Int32)), .val (.int v0), .val (.int v1), .val (.int v2), .val (.ref b3), .unset, .unset] [(.int (1 : Int32))])) _ _ _
      refine own_go (fun t k => XS.iconst X5.here hx rfl (hb hby at_74) k) ?_
      show own_End p e below s (T5.setTop (mkF m 75 #[.val (.int p0), .val (.int p1), .val (.int p2), .val (.int p3), .val (.int p4), .val (.int p5), .val (.int (1 : Int32)), .val (.int v0), .val (.int v1), .val (.int v2), .val (.ref b3), .unset, .unset] [(.int (1 : Int32)), (.int (1 : Int32))])) _ _ _
      refine own_go (fun t k => XS.icmpYes X5.here hx rfl (pc0 := 75) (pc' := 85) rfl (hb hby at_75) rfl (own_flt (x := (1 : Int32)) (y := (1 : Int32)) (i := 1) (j := 1) rfl rfl (by decide)).2.2.2 (by decide) (by decide) k) ?_
      show own_End p e below s (T5.setTop (mkF m 85 #[.val (.int p0), .val (.int p1), .val (.int p2), .val (.int p3), .val (.int p4), .val (.int p5), .val (.int (1 : Int32)), .val (.int v0), .val (.int v1), .val (.int v2), .val (.ref b3), .unset, .unset] [])) _ _ _
      refine own_go (fun t k => XS.iload X5.here hx rfl (hb hby at_85) rfl k) ?_
      show own_End p e below s (T5.setTop (mkF m 87 #[.val (.int p0), .val (.int p1), .val (.int p2), .val (.int p3), .val (.int p4), .val (.int p5), .val (.int (1 : Int32)), .val (.int v0), .val (.int v1), .val (.int v2), .val (.ref b3), .unset, .unset] [(.int (1 : Int32))])) _ _ _
      refine own_go (fun t k => XS.iconst X5.here hx rfl (hb hby at_87) k) ?_
      show own_End p e below s (T5.setTop (mkF m 88 #[.val (.int p0), .val (.int p1), .val (.int p2), .val (.int p3), .val (.int p4), .val (.int p5), .val (.int (1 : Int32)), .val (.int v0), .val (.int v1), .val (.int v2), .val (.ref b3), .unset, .unset] [(.int (2 : Int32)), (.int (1 : Int32))])) _ _ _
      refine own_go (fun t k => XS.icmpYes X5.here hx rfl (pc0 := 88) (pc' := 98) rfl (hb hby at_88) rfl (own_flt (x := (2 : Int32)) (y := (1 : Int32)) (i := 2) (j := 1) rfl rfl (by decide)).2.2.2 (by decide) (by decide) k) ?_
      show own_End p e below s (T5.setTop (mkF m 98 #[.val (.int p0), .val (.int p1), .val (.int p2), .val (.int p3), .val (.int p4), .val (.int p5), .val (.int (1 : Int32)), .val (.int v0), .val (.int v1), .val (.int v2), .val (.ref b3), .unset, .unset] [])) _ _ _
      refine own_go (fun t k => XS.iload X5.here hx rfl (hb hby at_98) rfl k) ?_
      show own_End p e below s (T5.setTop (mkF m 100 #[.val (.int p0), .val (.int p1), .val (.int p2), .val (.int p3), .val (.int p4), .val (.int p5), .val (.int (1 : Int32)), .val (.int v0), .val (.int v1), .val (.int v2), .val (.ref b3), .unset, .unset] [(.int (1 : Int32))])) _ _ _
      refine own_go (fun t k => XS.iconst X5.here hx rfl (hb hby at_100) k) ?_
      show own_End p e below s (T5.setTop (mkF m 101 #[.val (.int p0), .val (.int p1), .val (.int p2), .val (.int p3), .val (.int p4), .val (.int p5), .val (.int (1 : Int32)), .val (.int v0), .val (.int v1), .val (.int v2), .val (.ref b3), .unset, .unset] [(.int (3 : Int32)), (.int (1 : Int32))])) _ _ _
      refine own_go (fun t k => XS.icmpYes X5.here hx rfl (pc0 := 101) (pc' := 111) rfl (hb hby at_101) rfl (own_flt (x := (3 : Int32)) (y := (1 : Int32)) (i := 3) (j := 1) rfl rfl (by decide)).2.2.2 (by decide) (by decide) k) ?_
      show own_End p e below s (T5.setTop (mkF m 111 #[.val (.int p0), .val (.int p1), .val (.int p2), .val (.int p3), .val (.int p4), .val (.int p5), .val (.int (1 : Int32)), .val (.int v0), .val (.int v1), .val (.int v2), .val (.ref b3), .unset, .unset] [])) _ _ _
      refine own_go (fun t k => XS.iload X5.here hx rfl (hb hby at_111) rfl k) ?_
      show own_End p e below s (T5.setTop (mkF m 113 #[.val (.int p0), .val (.int p1), .val (.int p2), .val (.int p3), .val (.int p4), .val (.int p5), .val (.int (1 : Int32)), .val (.int v0), .val (.int v1), .val (.int v2), .val (.ref b3), .unset, .unset] [(.int (1 : Int32))])) _ _ _
      refine own_go (fun t k => XS.iconst X5.here hx rfl (hb hby at_113) k) ?_
      show own_End p e below s (T5.setTop (mkF m 114 #[.val (.int p0), .val (.int p1), .val (.int p2), .val (.int p3), .val (.int p4), .val (.int p5), .val (.int (1 : Int32)), .val (.int v0), .val (.int v1), .val (.int v2), .val (.ref b3), .unset, .unset] [(.int (4 : Int32)), (.int (1 : Int32))])) _ _ _
      refine own_go (fun t k => XS.icmpYes X5.here hx rfl (pc0 := 114) (pc' := 127) rfl (hb hby at_114) rfl (own_flt (x := (4 : Int32)) (y := (1 : Int32)) (i := 4) (j := 1) rfl rfl (by decide)).2.2.2 (by decide) (by decide) k) ?_
      show own_End p e below s (T5.setTop (mkF m 127 #[.val (.int p0), .val (.int p1), .val (.int p2), .val (.int p3), .val (.int p4), .val (.int p5), .val (.int (1 : Int32)), .val (.int v0), .val (.int v1), .val (.int v2), .val (.ref b3), .unset, .unset] [])) _ _ _
      refine own_go (fun t k => XS.iload X5.here hx rfl (hb hby at_127) rfl k) ?_
      show own_End p e below s (T5.setTop (mkF m 129 #[.val (.int p0), .val (.int p1), .val (.int p2), .val (.int p3), .val (.int p4), .val (.int p5), .val (.int (1 : Int32)), .val (.int v0), .val (.int v1), .val (.int v2), .val (.ref b3), .unset, .unset] [(.int (1 : Int32))])) _ _ _
      refine own_go (fun t k => XS.iconst X5.here hx rfl (hb hby at_129) k) ?_
      show own_End p e below s (T5.setTop (mkF m 130 #[.val (.int p0), .val (.int p1), .val (.int p2), .val (.int p3), .val (.int p4), .val (.int p5), .val (.int (1 : Int32)), .val (.int v0), .val (.int v1), .val (.int v2), .val (.ref b3), .unset, .unset] [(.int (5 : Int32)), (.int (1 : Int32))])) _ _ _
      refine own_go (fun t k => XS.icmpYes X5.here hx rfl (pc0 := 130) (pc' := 143) rfl (hb hby at_130) rfl (own_flt (x := (5 : Int32)) (y := (1 : Int32)) (i := 5) (j := 1) rfl rfl (by decide)).2.2.2 (by decide) (by decide) k) ?_
      show own_End p e below s (T5.setTop (mkF m 143 #[.val (.int p0), .val (.int p1), .val (.int p2), .val (.int p3), .val (.int p4), .val (.int p5), .val (.int (1 : Int32)), .val (.int v0), .val (.int v1), .val (.int v2), .val (.ref b3), .unset, .unset] [])) _ _ _
      refine own_go (fun t k => XS.iload X5.here hx rfl (hb hby at_143) rfl k) ?_
      show own_End p e below s (T5.setTop (mkF m 145 #[.val (.int p0), .val (.int p1), .val (.int p2), .val (.int p3), .val (.int p4), .val (.int p5), .val (.int (1 : Int32)), .val (.int v0), .val (.int v1), .val (.int v2), .val (.ref b3), .unset, .unset] [(.int (1 : Int32))])) _ _ _
      refine own_go (fun t k => XS.bipush X5.here hx rfl (hb hby at_145) k) ?_
      show own_End p e below s (T5.setTop (mkF m 147 #[.val (.int p0), .val (.int p1), .val (.int p2), .val (.int p3), .val (.int p4), .val (.int p5), .val (.int (1 : Int32)), .val (.int v0), .val (.int v1), .val (.int v2), .val (.ref b3), .unset, .unset] [(.int (6 : Int32)), (.int (1 : Int32))])) _ _ _
      refine own_go (fun t k => XS.icmpYes X5.here hx rfl (pc0 := 147) (pc' := 161) rfl (hb hby at_147) rfl (own_flt (x := (6 : Int32)) (y := (1 : Int32)) (i := 6) (j := 1) rfl rfl (by decide)).2.2.2 (by decide) (by decide) k) ?_
      show own_End p e below s (T5.setTop (mkF m 161 #[.val (.int p0), .val (.int p1), .val (.int p2), .val (.int p3), .val (.int p4), .val (.int p5), .val (.int (1 : Int32)), .val (.int v0), .val (.int v1), .val (.int v2), .val (.ref b3), .unset, .unset] [])) _ _ _
      refine own_go (fun t k => XS.iconst X5.here hx rfl (hb hby at_161) k) ?_
      show own_End p e below s (T5.setTop (mkF m 162 #[.val (.int p0), .val (.int p1), .val (.int p2), .val (.int p3), .val (.int p4), .val (.int p5), .val (.int (1 : Int32)), .val (.int v0), .val (.int v1), .val (.int v2), .val (.ref b3), .unset, .unset] [(.int (0 : Int32))])) _ _ _
      refine own_go (fun t k => XS.istore X5.here hx rfl (hb hby at_162) rfl (l' := #[.val (.int p0), .val (.int p1), .val (.int p2), .val (.int p3), .val (.int p4), .val (.int p5), .val (.int (1 : Int32)), .val (.int v0), .val (.int v1), .val (.int v2), .val (.ref b3), .val (.int (0 : Int32)), .unset]) rfl k) ?_
      show own_End p e below s (T5.setTop (mkF m 164 #[.val (.int p0), .val (.int p1), .val (.int p2), .val (.int p3), .val (.int p4), .val (.int p5), .val (.int (1 : Int32)), .val (.int v0), .val (.int v1), .val (.int v2), .val (.ref b3), .val (.int (0 : Int32)), .unset] [])) _ _ _
      refine own_go (fun t k => XS.iload X5.here hx rfl (hb hby at_164) rfl k) ?_
      show own_End p e below s (T5.setTop (mkF m 166 #[.val (.int p0), .val (.int p1), .val (.int p2), .val (.int p3), .val (.int p4), .val (.int p5), .val (.int (1 : Int32)), .val (.int v0), .val (.int v1), .val (.int v2), .val (.ref b3), .val (.int (0 : Int32)), .unset] [(.int (1 : Int32))])) _ _ _
      refine own_go (fun t k => XS.iconst X5.here hx rfl (hb hby at_166) k) ?_
      show own_End p e below s (T5.setTop (mkF m 167 #[.val (.int p0), .val (.int p1), .val (.int p2), .val (.int p3), .val (.int p4), .val (.int p5), .val (.int (1 : Int32)), .val (.int v0), .val (.int v1), .val (.int v2), .val (.ref b3), .val (.int (0 : Int32)), .unset] [(.int (3 : Int32)), (.int (1 : Int32))])) _ _ _
      refine own_go (fun t k => XS.icmpYes X5.here hx rfl (pc0 := 167) (pc' := 209) rfl (hb hby at_167) rfl (own_tlt (x := (1 : Int32)) (y := (3 : Int32)) (i := 1) (j := 3) rfl rfl (by decide)).1 (by decide) (by decide) k) ?_
      show own_End p e below s (T5.setTop (mkF m 209 #[.val (.int p0), .val (.int p1), .val (.int p2), .val (.int p3), .val (.int p4), .val (.int p5), .val (.int (1 : Int32)), .val (.int v0), .val (.int v1), .val (.int v2), .val (.ref b3), .val (.int (0 : Int32)), .unset] [])) _ _ _
      refine own_go (fun t k => XS.aload X5.here hx rfl (hb hby at_209) rfl rfl k) ?_
      show own_End p e below s (T5.setTop (mkF m 211 #[.val (.int p0), .val (.int p1), .val (.int p2), .val (.int p3), .val (.int p4), .val (.int p5), .val (.int (1 : Int32)), .val (.int v0), .val (.int v1), .val (.int v2), .val (.ref b3), .val (.int (0 : Int32)), .unset] [(.ref b3)])) _ _ _
      obtain ⟨_, _, ⟨T6, L6, k6, n6⟩, -, X6, ⟨Lc6, hQ6, l6, y6, z6⟩, st6⟩ := Jvm.LawKit.callS X5 hx (y := (⟨"com/example/settings_by_rank/settingsbyrank/core/source/FileFormat", "byteOrderMarkLength", "([B)I"⟩ : MethodName)) hown (mvT hZ (hw _ (List.mem_of_getElem? (i := 1) rfl))) (mvT hZ (hw _ (List.mem_of_getElem? (i := 2) rfl))) (mvT hZ (hw _ (List.mem_of_getElem? (i := 3) rfl))) (mvT hZ (hw _ (List.mem_of_getElem? (i := 4) rfl))) (by decide) (backOf (W := 0) (rm1 l Z a0 hw [] b3 k3 (1 : Int32) [(.int ((v0.toInt8.toInt32).toInt8.toInt32))] h5 n0 Z5 V_b3_5 (by decide)) hZ (hw _ (List.mem_of_getElem? (i := 4) rfl)) (hw _ (List.mem_of_getElem? (i := 3) rfl)) (by decide) (by decide)) (g := (mkF m 211 #[.val (.int p0), .val (.int p1), .val (.int p2), .val (.int p3), .val (.int p4), .val (.int p5), .val (.int (1 : Int32)), .val (.int v0), .val (.int v1), .val (.int v2), .val (.ref b3), .val (.int (0 : Int32)), .unset] [(.ref b3)])) rfl (by rw [hml]; rfl) (argsL := [(.ref b3)]) (rest := []) (lenOf own_pd0 rfl) rfl (by show 2 * 0 + _ ≤ _; exact Nat.le_of_eq rfl) (hb hby at_211) (fun _ _ => ⟨rfl, e5, (by decide : 1 + 0 ≤ _), (by decide : 1 + 0 ≤ _)⟩)
      dsimp only [Pt.U, Pt.locs, Pt.cells, Pt.slots] at X6 l6 y6 z6 st6 hQ6
      subst l6 y6 z6
      obtain ⟨rfl, N6q, e6⟩ := hQ6
      have N6 := Fr.app N5 N6q
      refine own_go st6 ?_
      show own_End p e below s (T6.setTop (mkF m 214 #[.val (.int p0), .val (.int p1), .val (.int p2), .val (.int p3), .val (.int p4), .val (.int p5), .val (.int (1 : Int32)), .val (.int v0), .val (.int v1), .val (.int v2), .val (.ref b3), .val (.int (0 : Int32)), .unset] [(.int (0 : Int32))])) _ _ _
      refine own_go (fun t k => XS.istore X6.here hx rfl (hb hby at_214) rfl (l' := #[.val (.int p0), .val (.int p1), .val (.int p2), .val (.int p3), .val (.int p4), .val (.int p5), .val (.int (1 : Int32)), .val (.int v0), .val (.int v1), .val (.int v2), .val (.ref b3), .val (.int (0 : Int32)), .val (.int (0 : Int32))]) rfl k) ?_
      show own_End p e below s (T6.setTop (mkF m 216 #[.val (.int p0), .val (.int p1), .val (.int p2), .val (.int p3), .val (.int p4), .val (.int p5), .val (.int (1 : Int32)), .val (.int v0), .val (.int v1), .val (.int v2), .val (.ref b3), .val (.int (0 : Int32)), .val (.int (0 : Int32))] [])) _ _ _
      refine own_go (fun t k => XS.iload X6.here hx rfl (hb hby at_216) rfl k) ?_
      show own_End p e below s (T6.setTop (mkF m 218 #[.val (.int p0), .val (.int p1), .val (.int p2), .val (.int p3), .val (.int p4), .val (.int p5), .val (.int (1 : Int32)), .val (.int v0), .val (.int v1), .val (.int v2), .val (.ref b3), .val (.int (0 : Int32)), .val (.int (0 : Int32))] [(.int (0 : Int32))])) _ _ _
      refine own_go (fun t k => XS.iload X6.here hx rfl (hb hby at_218) rfl k) ?_
      show own_End p e below s (T6.setTop (mkF m 220 #[.val (.int p0), .val (.int p1), .val (.int p2), .val (.int p3), .val (.int p4), .val (.int p5), .val (.int (1 : Int32)), .val (.int v0), .val (.int v1), .val (.int v2), .val (.ref b3), .val (.int (0 : Int32)), .val (.int (0 : Int32))] [(.int (0 : Int32)), (.int (0 : Int32))])) _ _ _
      refine own_go (fun t k => XS.icmpNo X6.here hx rfl (hb hby at_220) rfl (own_eq (x := (0 : Int32)) (y := (0 : Int32)) (i := 0) (j := 0) rfl rfl (by decide)).2 k) ?_
      show own_End p e below s (T6.setTop (mkF m 223 #[.val (.int p0), .val (.int p1), .val (.int p2), .val (.int p3), .val (.int p4), .val (.int p5), .val (.int (1 : Int32)), .val (.int v0), .val (.int v1), .val (.int v2), .val (.ref b3), .val (.int (0 : Int32)), .val (.int (0 : Int32))] [])) _ _ _
      refine own_go (fun t k => XS.iconst X6.here hx rfl (hb hby at_223) k) ?_
      show own_End p e below s (T6.setTop (mkF m 224 #[.val (.int p0), .val (.int p1), .val (.int p2), .val (.int p3), .val (.int p4), .val (.int p5), .val (.int (1 : Int32)), .val (.int v0), .val (.int v1), .val (.int v2), .val (.ref b3), .val (.int (0 : Int32)), .val (.int (0 : Int32))] [(.int (1 : Int32))])) _ _ _
      refine own_go (fun t k => XS.goto X6.here hx rfl (pc0 := 224) (pc' := 228) rfl (hb hby at_224) (by decide) (by decide) k) ?_
      show own_End p e below s (T6.setTop (mkF m 228 #[.val (.int p0), .val (.int p1), .val (.int p2), .val (.int p3), .val (.int p4), .val (.int p5), .val (.int (1 : Int32)), .val (.int v0), .val (.int v1), .val (.int v2), .val (.ref b3), .val (.int (0 : Int32)), .val (.int (0 : Int32))] [(.int (1 : Int32))])) _ _ _
      refine own_ret X6 (v := some (.int (1 : Int32))) (fun h => by rw [Bd.returns] at h; cases h) Bd.notSynchronized (fun fs hr => retN X6 hx (t := .boolean) Bd.returns (by simp) (hb hby at_228) hr) ?_ (by decide) (by decide)
      · exact ⟨rfl, N6⟩
    · skip
      rw [hm]
      show own_End p e below s (s₁.setTop (mkF m 54 #[.val (.int p0), .val (.int p1), .val (.int p2), .val (.int p3), .val (.int p4), .val (.int p5), .val (.int (2 : Int32)), .val (.int v0), .val (.int v1), .val (.int v2), .unset, .unset, .unset] [])) _ _ _
      refine own_go (fun t k => XS.iload X0.here hx rfl (hb hby at_54) rfl k) ?_
      show own_End p e below s (s₁.setTop (mkF m 56 #[.val (.int p0), .val (.int p1), .val (.int p2), .val (.int p3), .val (.int p4), .val (.int p5), .val (.int (2 : Int32)), .val (.int v0), .val (.int v1), .val (.int v2), .unset, .unset, .unset] [(.int (2 : Int32))])) _ _ _
      obtain ⟨T7, h7, k7, X7, e7, E7, A7, st7⟩ := newP X0 hx hZ (hw _ (List.mem_of_getElem? (i := 0) rfl)) e0 (g := (mkF m 56 #[.val (.int p0), .val (.int p1), .val (.int p2), .val (.int p3), .val (.int p4), .val (.int p5), .val (.int (2 : Int32)), .val (.int v0), .val (.int v1), .val (.int v2), .unset, .unset, .unset] [(.int (2 : Int32))])) rfl (hb hby at_56) rfl (by decide) (cap := 2) (by decide) (by decide) (by decide) (by decide)
      obtain ⟨b7, g7⟩ : ∃ z, z = h0.size := ⟨_, rfl⟩
      rw [← g7] at A7 st7
      have g_b7 : n0 ≤ b7 := Nat.le_trans Z0 (Nat.le_of_eq g7.symm)
      have Z7 : n0 ≤ h7.size := Nat.le_trans Z0 E7.1
      have V_b7 : Arv Z h7 b7 k7 .byte (2 : Int32) [(.int (0 : Int32)), (.int (0 : Int32))] (.int (0 : Int32)) := (Arv.new A7 (by decide)).pad (pad_rep [] (.int (0 : Int32)) 2)
      refine own_go st7 ?_
      show own_End p e below s (T7.setTop (mkF m 58 #[.val (.int p0), .val (.int p1), .val (.int p2), .val (.int p3), .val (.int p4), .val (.int p5), .val (.int (2 : Int32)), .val (.int v0), .val (.int v1), .val (.int v2), .unset, .unset, .unset] [(.ref b7)])) _ _ _
      refine own_go (fun t k => XS.astore X7.here hx rfl (hb hby at_58) rfl rfl (l' := #[.val (.int p0), .val (.int p1), .val (.int p2), .val (.int p3), .val (.int p4), .val (.int p5), .val (.int (2 : Int32)), .val (.int v0), .val (.int v1), .val (.int v2), .val (.ref b7), .unset, .unset]) rfl k) ?_
      show own_End p e below s (T7.setTop (mkF m 60 #[.val (.int p0), .val (.int p1), .val (.int p2), .val (.int p3), .val (.int p4), .val (.int p5), .val (.int (2 : Int32)), .val (.int v0), .val (.int v1), .val (.int v2), .val (.ref b7), .unset, .unset] [])) _ _ _
      refine own_go (fun t k => XS.iload X7.here hx rfl (hb hby at_60) rfl k) ?_
      show own_End p e below s (T7.setTop (mkF m 62 #[.val (.int p0), .val (.int p1), .val (.int p2), .val (.int p3), .val (.int p4), .val (.int p5), .val (.int (2 : Int32)), .val (.int v0), .val (.int v1), .val (.int v2), .val (.ref b7), .unset, .unset] [(.int (2 : Int32))])) _ _ _
      refine own_go (fun t k => XS.ifNo X7.here hx rfl (hb hby at_62) rfl ((if0 _ _).trans (own_tlt (x := (0 : Int32)) (y := (2 : Int32)) (i := 0) (j := 2) rfl rfl (by decide)).2.2.2) k) ?_
      show own_End p e below s (T7.setTop (mkF m 65 #[.val (.int p0), .val (.int p1), .val (.int p2), .val (.int p3), .val (.int p4), .val (.int p5), .val (.int (2 : Int32)), .val (.int v0), .val (.int v1), .val (.int v2), .val (.ref b7), .unset, .unset] [])) _ _ _
      refine own_go (fun t k => XS.aload X7.here hx rfl (hb hby at_65) rfl rfl k) ?_
      show own_End p e below s (T7.setTop (mkF m 67 #[.val (.int p0), .val (.int p1), .val (.int p2), .val (.int p3), .val (.int p4), .val (.int p5), .val (.int (2 : Int32)), .val (.int v0), .val (.int v1), .val (.int v2), .val (.ref b7), .unset, .unset] [(.ref b7)])) _ _ _
      refine own_go (fun t k => XS.iconst X7.here hx rfl (hb hby at_67) k) ?_
      show own_End p e below s (T7.setTop (mkF m 68 #[.val (.int p0), .val (.int p1), .val (.int p2), .val (.int p3), .val (.int p4), .val (.int p5), .val (.int (2 : Int32)), .val (.int v0), .val (.int v1), .val (.int v2), .val (.ref b7), .unset, .unset] [(.int (0 : Int32)), (.ref b7)])) _ _ _
      refine own_go (fun t k => XS.iload X7.here hx rfl (hb hby at_68) rfl k) ?_
      show own_End p e below s (T7.setTop (mkF m 70 #[.val (.int p0), .val (.int p1), .val (.int p2), .val (.int p3), .val (.int p4), .val (.int p5), .val (.int (2 : Int32)), .val (.int v0), .val (.int v1), .val (.int v2), .val (.ref b7), .unset, .unset] [(.int v0), (.int (0 : Int32)), (.ref b7)])) _ _ _
      refine own_go (fun t k => XS.i2b X7.here hx rfl (hb hby at_70) rfl k) ?_
      show own_End p e below s (T7.setTop (mkF m 71 #[.val (.int p0), .val (.int p1), .val (.int p2), .val (.int p3), .val (.int p4), .val (.int p5), .val (.int (2 : Int32)), .val (.int v0), .val (.int v1), .val (.int v2), .val (.ref b7), .unset, .unset] [(.int (v0.toInt8.toInt32)), (.int (0 : Int32)), (.ref b7)])) _ _ _
      obtain ⟨cl8, Ar8, q8, S8, M8, Hh8, G8⟩ := id V_b7
      have hin8 : ¬ ((0 : Int32) < 0 ∨ cl8.slots.size ≤ ((0 : Int32)).toNatClampNeg) := inb_of S8 ⟨by decide, by decide⟩
      obtain ⟨T9, h9, X9, e9, W9, st9⟩ := stB X7 hx hZ e7 Ar8 (j := (0 : Int32)) hin8 (g := (mkF m 71 #[.val (.int p0), .val (.int p1), .val (.int p2), .val (.int p3), .val (.int p4), .val (.int p5), .val (.int (2 : Int32)), .val (.int v0), .val (.int v1), .val (.int v2), .val (.ref b7), .unset, .unset] [(.int (v0.toInt8.toInt32)), (.int (0 : Int32)), (.ref b7)])) rfl rfl (hb hby at_71)
      have V_b7_9 : Arv Z h9 b7 k7 .byte (2 : Int32) [(.int ((v0.toInt8.toInt32).toInt8.toInt32)), (.int (0 : Int32))] (.int (0 : Int32)) := Arv.set Ar8 q8 S8 M8 Hh8 G8 (fits_nar_byte _) W9 0 rfl (Nat.le_of_ble_eq_true rfl)
      have N9 := Fr.snoc X9 N0 g_b7
      have Z9 : n0 ≤ h9.size := Nat.le_trans Z7 (Keep.of_wr W9).1
      refine own_go st9 ?_
      show own_End p e below s (T9.setTop (mkF m 72 #[.val (.int p0), .val (.int p1), .val (.int p2), .val (.int p3), .val (.int p4), .val (.int p5), .val (.int (2 : Int32)), .val (.int v0), .val (.int v1), .val (.int v2), .val (.ref b7), .unset, .unset] [])) _ _ _
      refine own_go (fun t k => XS.iload X9.here hx rfl (hb hby at_72) rfl k) ?_
      show own_End p e below s (T9.setTop (mkF m 74 #[.val (.int p0), .val (.int p1), .val (.int p2), .val (.int p3), .val (.int p4), .val (.int p5), .val (.int (2 : Int32)), .val (.int v0), .val (.int v1), .val (.int v2), .val (.ref b7), .unset, .unset] [(.int (2 : Int32))])) _ _ _
      refine own_go (fun t k => XS.iconst X9.here hx rfl (hb hby at_74) k) ?_
      show own_End p e below s (T9.setTop (mkF m 75 #[.val (.int p0), .val (.int p1), .val (.int p2), .val (.int p3), .val (.int p4), .val (.int p5), .val (.int (2 : Int32)), .val (.int v0), .val (.int v1), .val (.int v2), .val (.ref b7), .unset, .unset] [(.int (1 : Int32)), (.int (2 : Int32))])) _ _ _
      refine own_go (fun t k => XS.icmpNo X9.here hx rfl (hb hby at_75) rfl (own_tlt (x := (1 : Int32)) (y := (2 : Int32)) (i := 1) (j := 2) rfl rfl (by decide)).2.2.2 k) ?_
      show own_End p e below s (T9.setTop (mkF m 78 #[.val (.int p0), .val (.int p1), .val (.int p2), .val (.int p3), .val (.int p4), .val (.int p5), .val (.int (2 : Int32)), .val (.int v0), .val (.int v1), .val (.int v2), .val (.ref b7), .unset, .unset] [])) _ _ _
      refine own_go (fun t k => XS.aload X9.here hx rfl (hb hby at_78) rfl rfl k) ?_
      show own_End p e below s (T9.setTop (mkF m 80 #[.val (.int p0), .val (.int p1), .val (.int p2), .val (.int p3), .val (.int p4), .val (.int p5), .val (.int (2 : Int32)), .val (.int v0), .val (.int v1), .val (.int v2), .val (.ref b7), .unset, .unset] [(.ref b7)])) _ _ _
      refine own_go (fun t k => XS.iconst X9.here hx rfl (hb hby at_80) k) ?_
      show own_End p e below s (T9.setTop (mkF m 81 #[.val (.int p0), .val (.int p1), .val (.int p2), .val (.int p3), .val (.int p4), .val (.int p5), .val (.int (2 : Int32)), .val (.int v0), .val (.int v1), .val (.int v2), .val (.ref b7), .unset, .unset] [(.int (1 : Int32)), (.ref b7)])) _ _ _
      refine own_go (fun t k => XS.iload X9.here hx rfl (hb hby at_81) rfl k) ?_
      show own_End p e below s (T9.setTop (mkF m 83 #[.val (.int p0), .val (.int p1), .val (.int p2), .val (.int p3), .val (.int p4), .val (.int p5), .val (.int (2 : Int32)), .val (.int v0), .val (.int v1), .val (.int v2), .val (.ref b7), .unset, .unset] [(.int v1), (.int (1 : Int32)), (.ref b7)])) _ _ _
      refine own_go (fun t k => XS.i2b X9.here hx rfl (hb hby at_83) rfl k) ?_
      show own_End p e below s (T9.setTop (mkF m 84 #[.val (.int p0), .val (.int p1), .val (.int p2), .val (.int p3), .val (.int p4), .val (.int p5), .val (.int (2 : Int32)), .val (.int v0), .val (.int v1), .val (.int v2), .val (.ref b7), .unset, .unset] [(.int (v1.toInt8.toInt32)), (.int (1 : Int32)), (.ref b7)])) _ _ _
      obtain ⟨cl10, Ar10, q10, S10, M10, Hh10, G10⟩ := id V_b7_9
      have hin10 : ¬ ((1 : Int32) < 0 ∨ cl10.slots.size ≤ ((1 : Int32)).toNatClampNeg) := inb_of S10 ⟨by decide, by decide⟩
      obtain ⟨T11, h11, X11, e11, W11, st11⟩ := stB X9 hx hZ e9 Ar10 (j := (1 : Int32)) hin10 (g := (mkF m 84 #[.val (.int p0), .val (.int p1), .val (.int p2), .val (.int p3), .val (.int p4), .val (.int p5), .val (.int (2 : Int32)), .val (.int v0), .val (.int v1), .val (.int v2), .val (.ref b7), .unset, .unset] [(.int (v1.toInt8.toInt32)), (.int (1 : Int32)), (.ref b7)])) rfl rfl (hb hby at_84)
      have V_b7_11 : Arv Z h11 b7 k7 .byte (2 : Int32) [(.int ((v0.toInt8.toInt32).toInt8.toInt32)), (.int ((v1.toInt8.toInt32).toInt8.toInt32))] (.int (0 : Int32)) := Arv.set Ar10 q10 S10 M10 Hh10 G10 (fits_nar_byte _) W11 1 rfl (Nat.le_of_ble_eq_true rfl)
      have N11 := Fr.snoc X11 N9 g_b7
      have Z11 : n0 ≤ h11.size := Nat.le_trans Z9 (Keep.of_wr W11).1
      refine own_go st11 ?_
      show own_End p e below s (T11.setTop (mkF m 85 #[.val (.int p0), .val (.int p1), .val (.int p2), .val (.int p3), .val (.int p4), .val (.int p5), .val (.int (2 : Int32)), .val (.int v0), .val (.int v1), .val (.int v2), .val (.ref b7), .unset, .unset] [])) _ _ _
      refine own_go (fun t k => XS.iload X11.here hx rfl (hb hby at_85) rfl k) ?_
      show own_End p e below s (T11.setTop (mkF m 87 #[.val (.int p0), .val (.int p1), .val (.int p2), .val (.int p3), .val (.int p4), .val (.int p5), .val (.int (2 : Int32)), .val (.int v0), .val (.int v1), .val (.int v2), .val (.ref b7), .unset, .unset] [(.int (2 : Int32))])) _ _ _
      refine own_go (fun t k => XS.iconst X11.here hx rfl (hb hby at_87) k) ?_
      show own_End p e below s (T11.setTop (mkF m 88 #[.val (.int p0), .val (.int p1), .val (.int p2), .val (.int p3), .val (.int p4), .val (.int p5), .val (.int (2 : Int32)), .val (.int v0), .val (.int v1), .val (.int v2), .val (.ref b7), .unset, .unset] [(.int (2 : Int32)), (.int (2 : Int32))])) _ _ _
      refine own_go (fun t k => XS.icmpYes X11.here hx rfl (pc0 := 88) (pc' := 98) rfl (hb hby at_88) rfl (own_flt (x := (2 : Int32)) (y := (2 : Int32)) (i := 2) (j := 2) rfl rfl (by decide)).2.2.2 (by decide) (by decide) k) ?_
      show own_End p e below s (T11.setTop (mkF m 98 #[.val (.int p0), .val (.int p1), .val (.int p2), .val (.int p3), .val (.int p4), .val (.int p5), .val (.int (2 : Int32)), .val (.int v0), .val (.int v1), .val (.int v2), .val (.ref b7), .unset, .unset] [])) _ _ _
      refine own_go (fun t k => XS.iload X11.here hx rfl (hb hby at_98) rfl k) ?_
      show own_End p e below s (T11.setTop (mkF m 100 #[.val (.int p0), .val (.int p1), .val (.int p2), .val (.int p3), .val (.int p4), .val (.int p5), .val (.int (2 : Int32)), .val (.int v0), .val (.int v1), .val (.int v2), .val (.ref b7), .unset, .unset] [(.int (2 : Int32))])) _ _ _
      refine own_go (fun t k => XS.iconst X11.here hx rfl (hb hby at_100) k) ?_
      show own_End p e below s (T11.setTop (mkF m 101 #[.val (.int p0), .val (.int p1), .val (.int p2), .val (.int p3), .val (.int p4), .val (.int p5), .val (.int (2 : Int32)), .val (.int v0), .val (.int v1), .val (.int v2), .val (.ref b7), .unset, .unset] [(.int (3 : Int32)), (.int (2 : Int32))])) _ _ _
      refine own_go (fun t k => XS.icmpYes X11.here hx rfl (pc0 := 101) (pc' := 111) rfl (hb hby at_101) rfl (own_flt (x := (3 : Int32)) (y := (2 : Int32)) (i := 3) (j := 2) rfl rfl (by decide)).2.2.2 (by decide) (by decide) k) ?_
      show own_End p e below s (T11.setTop (mkF m 111 #[.val (.int p0), .val (.int p1), .val (.int p2), .val (.int p3), .val (.int p4), .val (.int p5), .val (.int (2 : Int32)), .val (.int v0), .val (.int v1), .val (.int v2), .val (.ref b7), .unset, .unset] [])) _ _ _
      refine own_go (fun t k => XS.iload X11.here hx rfl (hb hby at_111) rfl k) ?_
      show own_End p e below s (T11.setTop (mkF m 113 #[.val (.int p0), .val (.int p1), .val (.int p2), .val (.int p3), .val (.int p4), .val (.int p5), .val (.int (2 : Int32)), .val (.int v0), .val (.int v1), .val (.int v2), .val (.ref b7), .unset, .unset] [(.int (2 : Int32))])) _ _ _
      refine own_go (fun t k => XS.iconst X11.here hx rfl (hb hby at_113) k) ?_
      show own_End p e below s (T11.setTop (mkF m 114 #[.val (.int p0), .val (.int p1), .val (.int p2), .val (.int p3), .val (.int p4), .val (.int p5), .val (.int (2 : Int32)), .val (.int v0), .val (.int v1), .val (.int v2), .val (.ref b7), .unset, .unset] [(.int (4 : Int32)), (.int (2 : Int32))])) _ _ _
      refine own_go (fun t k => XS.icmpYes X11.here hx rfl (pc0 := 114) (pc' := 127) rfl (hb hby at_114) rfl (own_flt (x := (4 : Int32)) (y := (2 : Int32)) (i := 4) (j := 2) rfl rfl (by decide)).2.2.2 (by decide) (by decide) k) ?_
      show own_End p e below s (T11.setTop (mkF m 127 #[.val (.int p0), .val (.int p1), .val (.int p2), .val (.int p3), .val (.int p4), .val (.int p5), .val (.int (2 : Int32)), .val (.int v0), .val (.int v1), .val (.int v2), .val (.ref b7), .unset, .unset] [])) _ _ _
      refine own_go (fun t k => XS.iload X11.here hx rfl (hb hby at_127) rfl k) ?_
      show own_End p e below s (T11.setTop (mkF m 129 #[.val (.int p0), .val (.int p1), .val (.int p2), .val (.int p3), .val (.int p4), .val (.int p5), .val (.int (2 : Int32)), .val (.int v0), .val (.int v1), .val (.int v2), .val (.ref b7), .unset, .unset] [(.int (2 : Int32))])) _ _ _
      refine own_go (fun t k => XS.iconst X11.here hx rfl (hb hby at_129) k) ?_
      show own_End p e below s (T11.setTop (mkF m 130 #[.val (.int p0), .val (.int p1), .val (.int p2), .val (.int p3), .val (.int p4), .val (.int p5), .val (.int (2 : Int32)), .val (.int v0), .val (.int v1), .val (.int v2), .val (.ref b7), .unset, .unset] [(.int (5 : Int32)), (.int (2 : Int32))])) _ _ _
      refine own_go (fun t k => XS.icmpYes X11.here hx rfl (pc0 := 130) (pc' := 143) rfl (hb hby at_130) rfl (own_flt (x := (5 : Int32)) (y := (2 : Int32)) (i := 5) (j := 2) rfl rfl (by decide)).2.2.2 (by decide) (by decide) k) ?_
      show own_End p e below s (T11.setTop (mkF m 143 #[.val (.int p0), .val (.int p1), .val (.int p2), .val (.int p3), .val (.int p4), .val (.int p5), .val (.int (2 : Int32)), .val (.int v0), .val (.int v1), .val (.int v2), .val (.ref b7), .unset, .unset] [])) _ _ _
      refine own_go (fun t k => XS.iload X11.here hx rfl (hb hby at_143) rfl k) ?_
      show own_End p e below s (T11.setTop (mkF m 145 #[.val (.int p0), .val (.int p1), .val (.int p2), .val (.int p3), .val (.int p4), .val (.int p5), .val (.int (2 : Int32)), .val (.int v0), .val (.int v1), .val (.int v2), .val (.ref b7), .unset, .unset] [(.int (2 : Int32))])) _ _ _
      refine own_go (fun t k => XS.bipush X11.here hx rfl (hb hby at_145) k) ?_
      show own_End p e below s (T11.setTop (mkF m 147 #[.val (.int p0), .val (.int p1), .val (.int p2), .val (.int p3), .val (.int p4), .val (.int p5), .val (.int (2 : Int32)), .val (.int v0), .val (.int v1), .val (.int v2), .val (.ref b7), .unset, .unset] [(.int (6 : Int32)), (.int (2 : Int32))])) _ _ _
      refine own_go (fun t k => XS.icmpYes X11.here hx rfl (pc0 := 147) (pc' := 161) rfl (hb hby at_147) rfl (own_flt (x := (6 : Int32)) (y := (2 : Int32)) (i := 6) (j := 2) rfl rfl (by decide)).2.2.2 (by decide) (by decide) k) ?_
      show own_End p e below s (T11.setTop (mkF m 161 #[.val (.int p0), .val (.int p1), .val (.int p2), .val (.int p3), .val (.int p4), .val (.int p5), .val (.int (2 : Int32)), .val (.int v0), .val (.int v1), .val (.int v2), .val (.ref b7), .unset, .unset] [])) _ _ _
      refine own_go (fun t k => XS.iconst X11.here hx rfl (hb hby at_161) k) ?_
      show own_End p e below s (T11.setTop (mkF m 162 #[.val (.int p0), .val (.int p1), .val (.int p2), .val (.int p3), .val (.int p4), .val (.int p5), .val (.int (2 : Int32)), .val (.int v0), .val (.int v1), .val (.int v2), .val (.ref b7), .unset, .unset] [(.int (0 : Int32))])) _ _ _
      refine own_go (fun t k => XS.istore X11.here hx rfl (hb hby at_162) rfl (l' := #[.val (.int p0), .val (.int p1), .val (.int p2), .val (.int p3), .val (.int p4), .val (.int p5), .val (.int (2 : Int32)), .val (.int v0), .val (.int v1), .val (.int v2), .val (.ref b7), .val (.int (0 : Int32)), .unset]) rfl k) ?_
      show own_End p e below s (T11.setTop (mkF m 164 #[.val (.int p0), .val (.int p1), .val (.int p2), .val (.int p3), .val (.int p4), .val (.int p5), .val (.int (2 : Int32)), .val (.int v0), .val (.int v1), .val (.int v2), .val (.ref b7), .val (.int (0 : Int32)), .unset] [])) _ _ _
      refine own_go (fun t k => XS.iload X11.here hx rfl (hb hby at_164) rfl k) ?_
      show own_End p e below s (T11.setTop (mkF m 166 #[.val (.int p0), .val (.int p1), .val (.int p2), .val (.int p3), .val (.int p4), .val (.int p5), .val (.int (2 : Int32)), .val (.int v0), .val (.int v1), .val (.int v2), .val (.ref b7), .val (.int (0 : Int32)), .unset] [(.int (2 : Int32))])) _ _ _
      refine own_go (fun t k => XS.iconst X11.here hx rfl (hb hby at_166) k) ?_
      show own_End p e below s (T11.setTop (mkF m 167 #[.val (.int p0), .val (.int p1), .val (.int p2), .val (.int p3), .val (.int p4), .val (.int p5), .val (.int (2 : Int32)), .val (.int v0), .val (.int v1), .val (.int v2), .val (.ref b7), .val (.int (0 : Int32)), .unset] [(.int (3 : Int32)), (.int (2 : Int32))])) _ _ _
      refine own_go (fun t k => XS.icmpYes X11.here hx rfl (pc0 := 167) (pc' := 209) rfl (hb hby at_167) rfl (own_tlt (x := (2 : Int32)) (y := (3 : Int32)) (i := 2) (j := 3) rfl rfl (by decide)).1 (by decide) (by decide) k) ?_
      show own_End p e below s (T11.setTop (mkF m 209 #[.val (.int p0), .val (.int p1), .val (.int p2), .val (.int p3), .val (.int p4), .val (.int p5), .val (.int (2 : Int32)), .val (.int v0), .val (.int v1), .val (.int v2), .val (.ref b7), .val (.int (0 : Int32)), .unset] [])) _ _ _
      refine own_go (fun t k => XS.aload X11.here hx rfl (hb hby at_209) rfl rfl k) ?_
      show own_End p e below s (T11.setTop (mkF m 211 #[.val (.int p0), .val (.int p1), .val (.int p2), .val (.int p3), .val (.int p4), .val (.int p5), .val (.int (2 : Int32)), .val (.int v0), .val (.int v1), .val (.int v2), .val (.ref b7), .val (.int (0 : Int32)), .unset] [(.ref b7)])) _ _ _
      obtain ⟨_, _, ⟨T12, L12, k12, n12⟩, -, X12, ⟨Lc12, hQ12, l12, y12, z12⟩, st12⟩ := Jvm.LawKit.callS X11 hx (y := (⟨"com/example/settings_by_rank/settingsbyrank/core/source/FileFormat", "byteOrderMarkLength", "([B)I"⟩ : MethodName)) hown (mvT hZ (hw _ (List.mem_of_getElem? (i := 1) rfl))) (mvT hZ (hw _ (List.mem_of_getElem? (i := 2) rfl))) (mvT hZ (hw _ (List.mem_of_getElem? (i := 3) rfl))) (mvT hZ (hw _ (List.mem_of_getElem? (i := 4) rfl))) (by decide) (backOf (W := 0) (rm1 l Z a0 hw [] b7 k7 (2 : Int32) [(.int ((v0.toInt8.toInt32).toInt8.toInt32)), (.int ((v1.toInt8.toInt32).toInt8.toInt32))] h11 n0 Z11 V_b7_11 (by decide)) hZ (hw _ (List.mem_of_getElem? (i := 4) rfl)) (hw _ (List.mem_of_getElem? (i := 3) rfl)) (by decide) (by decide)) (g := (mkF m 211 #[.val (.int p0), .val (.int p1), .val (.int p2), .val (.int p3), .val (.int p4), .val (.int p5), .val (.int (2 : Int32)), .val (.int v0), .val (.int v1), .val (.int v2), .val (.ref b7), .val (.int (0 : Int32)), .unset] [(.ref b7)])) rfl (by rw [hml]; rfl) (argsL := [(.ref b7)]) (rest := []) (lenOf own_pd0 rfl) rfl (by show 2 * 0 + _ ≤ _; exact Nat.le_of_eq rfl) (hb hby at_211) (fun _ _ => ⟨rfl, e11, (by decide : 1 + 0 ≤ _), (by decide : 2 + 0 ≤ _)⟩)
      dsimp only [Pt.U, Pt.locs, Pt.cells, Pt.slots] at X12 l12 y12 z12 st12 hQ12
      subst l12 y12 z12
      obtain ⟨rfl, N12q, e12⟩ := hQ12
      have N12 := Fr.app N11 N12q
      refine own_go st12 ?_
      show own_End p e below s (T12.setTop (mkF m 214 #[.val (.int p0), .val (.int p1), .val (.int p2), .val (.int p3), .val (.int p4), .val (.int p5), .val (.int (2 : Int32)), .val (.int v0), .val (.int v1), .val (.int v2), .val (.ref b7), .val (.int (0 : Int32)), .unset] [(.int (0 : Int32))])) _ _ _
      refine own_go (fun t k => XS.istore X12.here hx rfl (hb hby at_214) rfl (l' := #[.val (.int p0), .val (.int p1), .val (.int p2), .val (.int p3), .val (.int p4), .val (.int p5), .val (.int (2 : Int32)), .val (.int v0), .val (.int v1), .val (.int v2), .val (.ref b7), .val (.int (0 : Int32)), .val (.int (0 : Int32))]) rfl k) ?_
      show own_End p e below s (T12.setTop (mkF m 216 #[.val (.int p0), .val (.int p1), .val (.int p2), .val (.int p3), .val (.int p4), .val (.int p5), .val (.int (2 : Int32)), .val (.int v0), .val (.int v1), .val (.int v2), .val (.ref b7), .val (.int (0 : Int32)), .val (.int (0 : Int32))] [])) _ _ _
      refine own_go (fun t k => XS.iload X12.here hx rfl (hb hby at_216) rfl k) ?_
      show own_End p e below s (T12.setTop (mkF m 218 #[.val (.int p0), .val (.int p1), .val (.int p2), .val (.int p3), .val (.int p4), .val (.int p5), .val (.int (2 : Int32)), .val (.int v0), .val (.int v1), .val (.int v2), .val (.ref b7), .val (.int (0 : Int32)), .val (.int (0 : Int32))] [(.int (0 : Int32))])) _ _ _
      refine own_go (fun t k => XS.iload X12.here hx rfl (hb hby at_218) rfl k) ?_
      show own_End p e below s (T12.setTop (mkF m 220 #[.val (.int p0), .val (.int p1), .val (.int p2), .val (.int p3), .val (.int p4), .val (.int p5), .val (.int (2 : Int32)), .val (.int v0), .val (.int v1), .val (.int v2), .val (.ref b7), .val (.int (0 : Int32)), .val (.int (0 : Int32))] [(.int (0 : Int32)), (.int (0 : Int32))])) _ _ _
      refine own_go (fun t k => XS.icmpNo X12.here hx rfl (hb hby at_220) rfl (own_eq (x := (0 : Int32)) (y := (0 : Int32)) (i := 0) (j := 0) rfl rfl (by decide)).2 k) ?_
      show own_End p e below s (T12.setTop (mkF m 223 #[.val (.int p0), .val (.int p1), .val (.int p2), .val (.int p3), .val (.int p4), .val (.int p5), .val (.int (2 : Int32)), .val (.int v0), .val (.int v1), .val (.int v2), .val (.ref b7), .val (.int (0 : Int32)), .val (.int (0 : Int32))] [])) _ _ _
      refine own_go (fun t k => XS.iconst X12.here hx rfl (hb hby at_223) k) ?_
      show own_End p e below s (T12.setTop (mkF m 224 #[.val (.int p0), .val (.int p1), .val (.int p2), .val (.int p3), .val (.int p4), .val (.int p5), .val (.int (2 : Int32)), .val (.int v0), .val (.int v1), .val (.int v2), .val (.ref b7), .val (.int (0 : Int32)), .val (.int (0 : Int32))] [(.int (1 : Int32))])) _ _ _
      refine own_go (fun t k => XS.goto X12.here hx rfl (pc0 := 224) (pc' := 228) rfl (hb hby at_224) (by decide) (by decide) k) ?_
      show own_End p e below s (T12.setTop (mkF m 228 #[.val (.int p0), .val (.int p1), .val (.int p2), .val (.int p3), .val (.int p4), .val (.int p5), .val (.int (2 : Int32)), .val (.int v0), .val (.int v1), .val (.int v2), .val (.ref b7), .val (.int (0 : Int32)), .val (.int (0 : Int32))] [(.int (1 : Int32))])) _ _ _
      refine own_ret X12 (v := some (.int (1 : Int32))) (fun h => by rw [Bd.returns] at h; cases h) Bd.notSynchronized (fun fs hr => retN X12 hx (t := .boolean) Bd.returns (by simp) (hb hby at_228) hr) ?_ (by decide) (by decide)
      · exact ⟨rfl, N12⟩
    · skip
      rw [hm]
      show own_End p e below s (s₁.setTop (mkF m 54 #[.val (.int p0), .val (.int p1), .val (.int p2), .val (.int p3), .val (.int p4), .val (.int p5), .val (.int (3 : Int32)), .val (.int v0), .val (.int v1), .val (.int v2), .unset, .unset, .unset] [])) _ _ _
      refine own_go (fun t k => XS.iload X0.here hx rfl (hb hby at_54) rfl k) ?_
      show own_End p e below s (s₁.setTop (mkF m 56 #[.val (.int p0), .val (.int p1), .val (.int p2), .val (.int p3), .val (.int p4), .val (.int p5), .val (.int (3 : Int32)), .val (.int v0), .val (.int v1), .val (.int v2), .unset, .unset, .unset] [(.int (3 : Int32))])) _ _ _
      obtain ⟨T13, h13, k13, X13, e13, E13, A13, st13⟩ := newP X0 hx hZ (hw _ (List.mem_of_getElem? (i := 0) rfl)) e0 (g := (mkF m 56 #[.val (.int p0), .val (.int p1), .val (.int p2), .val (.int p3), .val (.int p4), .val (.int p5), .val (.int (3 : Int32)), .val (.int v0), .val (.int v1), .val (.int v2), .unset, .unset, .unset] [(.int (3 : Int32))])) rfl (hb hby at_56) rfl (by decide) (cap := 3) (by decide) (by decide) (by decide) (by decide)
      obtain ⟨b13, g13⟩ : ∃ z, z = h0.size := ⟨_, rfl⟩
      rw [← g13] at A13 st13
      have g_b13 : n0 ≤ b13 := Nat.le_trans Z0 (Nat.le_of_eq g13.symm)
      have Z13 : n0 ≤ h13.size := Nat.le_trans Z0 E13.1
      have V_b13 : Arv Z h13 b13 k13 .byte (3 : Int32) [(.int (0 : Int32)), (.int (0 : Int32)), (.int (0 : Int32))] (.int (0 : Int32)) := (Arv.new A13 (by decide)).pad (pad_rep [] (.int (0 : Int32)) 3)
      refine own_go st13 ?_
      show own_End p e below s (T13.setTop (mkF m 58 #[.val (.int p0), .val (.int p1), .val (.int p2), .val (.int p3), .val (.int p4), .val (.int p5), .val (.int (3 : Int32)), .val (.int v0), .val (.int v1), .val (.int v2), .unset, .unset, .unset] [(.ref b13)])) _ _ _
      refine own_go (fun t k => XS.astore X13.here hx rfl (hb hby at_58) rfl rfl (l' := #[.val (.int p0), .val (.int p1), .val (.int p2), .val (.int p3), .val (.int p4), .val (.int p5), .val (.int (3 : Int32)), .val (.int v0), .val (.int v1), .val (.int v2), .val (.ref b13), .unset, .unset]) rfl k) ?_
      show own_End p e below s (T13.setTop (mkF m 60 #[.val (.int p0), .val (.int p1), .val (.int p2), .val (.int p3), .val (.int p4), .val (.int p5), .val (.int (3 : Int32)), .val (.int v0), .val (.int v1), .val (.int v2), .val (.ref b13), .unset, .unset] [])) _ _ _
      refine own_go (fun t k => XS.iload X13.here hx rfl (hb hby at_60) rfl k) ?_
      show own_End p e below s (T13.setTop (mkF m 62 #[.val (.int p0), .val (.int p1), .val (.int p2), .val (.int p3), .val (.int p4), .val (.int p5), .val (.int (3 : Int32)), .val (.int v0), .val (.int v1), .val (.int v2), .val (.ref b13), .unset, .unset] [(.int (3 : Int32))])) _ _ _
      refine own_go (fun t k => XS.ifNo X13.here hx rfl (hb hby at_62) rfl ((if0 _ _).trans (own_tlt (x := (0 : Int32)) (y := (3 : Int32)) (i := 0) (j := 3) rfl rfl (by decide)).2.2.2) k) ?_
      show own_End p e below s (T13.setTop (mkF m 65 #[.val (.int p0), .val (.int p1), .val (.int p2), .val (.int p3), .val (.int p4), .val (.int p5), .val (.int (3 : Int32)), .val (.int v0), .val (.int v1), .val (.int v2), .val (.ref b13), .unset, .unset] [])) _ _ _
      refine own_go (fun t k => XS.aload X13.here hx rfl (hb hby at_65) rfl rfl k) ?_
      show own_End p e below s (T13.setTop (mkF m 67 #[.val (.int p0), .val (.int p1), .val (.int p2), .val (.int p3), .val (.int p4), .val (.int p5), .val (.int (3 : Int32)), .val (.int v0), .val (.int v1), .val (.int v2), .val (.ref b13), .unset, .unset] [(.ref b13)])) _ _ _
      refine own_go (fun t k => XS.iconst X13.here hx rfl (hb hby at_67) k) ?_
      show own_End p e below s (T13.setTop (mkF m 68 #[.val (.int p0), .val (.int p1), .val (.int p2), .val (.int p3), .val (.int p4), .val (.int p5), .val (.int (3 : Int32)), .val (.int v0), .val (.int v1), .val (.int v2), .val (.ref b13), .unset, .unset] [(.int (0 : Int32)), (.ref b13)])) _ _ _
      refine own_go (fun t k => XS.iload X13.here hx rfl (hb hby at_68) rfl k) ?_
      show own_End p e below s (T13.setTop (mkF m 70 #[.val (.int p0), .val (.int p1), .val (.int p2), .val (.int p3), .val (.int p4), .val (.int p5), .val (.int (3 : Int32)), .val (.int v0), .val (.int v1), .val (.int v2), .val (.ref b13), .unset, .unset] [(.int v0), (.int (0 : Int32)), (.ref b13)])) _ _ _
      refine own_go (fun t k => XS.i2b X13.here hx rfl (hb hby at_70) rfl k) ?_
      show own_End p e below s (T13.setTop (mkF m 71 #[.val (.int p0), .val (.int p1), .val (.int p2), .val (.int p3), .val (.int p4), .val (.int p5), .val (.int (3 : Int32)), .val (.int v0), .val (.int v1), .val (.int v2), .val (.ref b13), .unset, .unset] [(.int (v0.toInt8.toInt32)), (.int (0 : Int32)), (.ref b13)])) _ _ _
      obtain ⟨cl14, Ar14, q14, S14, M14, Hh14, G14⟩ := id V_b13
      have hin14 : ¬ ((0 : Int32) < 0 ∨ cl14.slots.size ≤ ((0 : Int32)).toNatClampNeg) := inb_of S14 ⟨by decide, by decide⟩
      obtain ⟨T15, h15, X15, e15, W15, st15⟩ := stB X13 hx hZ e13 Ar14 (j := (0 : Int32)) hin14 (g := (mkF m 71 #[.val (.int p0), .val (.int p1), .val (.int p2), .val (.int p3), .val (.int p4), .val (.int p5), .val (.int (3 : Int32)), .val (.int v0), .val (.int v1), .val (.int v2), .val (.ref b13), .unset, .unset] [(.int (v0.toInt8.toInt32)), (.int (0 : Int32)), (.ref b13)])) rfl rfl (hb hby at_71)
      have V_b13_15 : Arv Z h15 b13 k13 .byte (3 : Int32) [(.int ((v0.toInt8.toInt32).toInt8.toInt32)), (.int (0 : Int32)), (.int (0 : Int32))] (.int (0 : Int32)) := Arv.set Ar14 q14 S14 M14 Hh14 G14 (fits_nar_byte _) W15 0 rfl (Nat.le_of_ble_eq_true rfl)
      have N15 := Fr.snoc X15 N0 g_b13
      have Z15 : n0 ≤ h15.size := Nat.le_trans Z13 (Keep.of_wr W15).1
      refine own_go st15 ?_
      show own_End p e below s (T15.setTop (mkF m 72 #[.val (.int p0), .val (.int p1), .val (.int p2), .val (.int p3), .val (.int p4), .val (.int p5), .val (.int (3 : Int32)), .val (.int v0), .val (.int v1), .val (.int v2), .val (.ref b13), .unset, .unset] [])) _ _ _
      refine own_go (fun t k => XS.iload X15.here hx rfl (hb hby at_72) rfl k) ?_
      show own_End p e below s (T15.setTop (mkF m 74 #[.val (.int p0), .val (.int p1), .val (.int p2), .val (.int p3), .val (.int p4), .val (.int p5), .val (.int (3 : Int32)), .val (.int v0), .val (.int v1), .val (.int v2), .val (.ref b13), .unset, .unset] [(.int (3 : Int32))])) _ _ _
      refine own_go (fun t k => XS.iconst X15.here hx rfl (hb hby at_74) k) ?_
      show own_End p e below s (T15.setTop (mkF m 75 #[.val (.int p0), .val (.int p1), .val (.int p2), .val (.int p3), .val (.int p4), .val (.int p5), .val (.int (3 : Int32)), .val (.int v0), .val (.int v1), .val (.int v2), .val (.ref b13), .unset, .unset] [(.int (1 : Int32)), (.int (3 : Int32))])) _ _ _
      refine own_go (fun t k => XS.icmpNo X15.here hx rfl (hb hby at_75) rfl (own_tlt (x := (1 : Int32)) (y := (3 : Int32)) (i := 1) (j := 3) rfl rfl (by decide)).2.2.2 k) ?_
      show own_End p e below s (T15.setTop (mkF m 78 #[.val (.int p0), .val (.int p1), .val (.int p2), .val (.int p3), .val (.int p4), .val (.int p5), .val (.int (3 : Int32)), .val (.int v0), .val (.int v1), .val (.int v2), .val (.ref b13), .unset, .unset] [])) _ _ _
      refine own_go (fun t k => XS.aload X15.here hx rfl (hb hby at_78) rfl rfl k) ?_
      show own_End p e below s (T15.setTop (mkF m 80 #[.val (.int p0), .val (.int p1), .val (.int p2), .val (.int p3), .val (.int p4), .val (.int p5), .val (.int (3 : Int32)), .val (.int v0), .val (.int v1), .val (.int v2), .val (.ref b13), .unset, .unset] [(.ref b13)])) _ _ _
      refine own_go (fun t k => XS.iconst X15.here hx rfl (hb hby at_80) k) ?_
      show own_End p e below s (T15.setTop (mkF m 81 #[.val (.int p0), .val (.int p1), .val (.int p2), .val (.int p3), .val (.int p4), .val (.int p5), .val (.int (3 : Int32)), .val (.int v0), .val (.int v1), .val (.int v2), .val (.ref b13), .unset, .unset] [(.int (1 : Int32)), (.ref b13)])) _ _ _
      refine own_go (fun t k => XS.iload X15.here hx rfl (hb hby at_81) rfl k) ?_
      show own_End p e below s (T15.setTop (mkF m 83 #[.val (.int p0), .val (.int p1), .val (.int p2), .val (.int p3), .val (.int p4), .val (.int p5), .val (.int (3 : Int32)), .val (.int v0), .val (.int v1), .val (.int v2), .val (.ref b13), .unset, .unset] [(.int v1), (.int (1 : Int32)), (.ref b13)])) _ _ _
      refine own_go (fun t k => XS.i2b X15.here hx rfl (hb hby at_83) rfl k) ?_
      show own_End p e below s (T15.setTop (mkF m 84 #[.val (.int p0), .val (.int p1), .val (.int p2), .val (.int p3), .val (.int p4), .val (.int p5), .val (.int (3 : Int32)), .val (.int v0), .val (.int v1), .val (.int v2), .val (.ref b13), .unset, .unset] [(.int (v1.toInt8.toInt32)), (.int (1 : Int32)), (.ref b13)])) _ _ _
      obtain ⟨cl16, Ar16, q16, S16, M16, Hh16, G16⟩ := id V_b13_15
      have hin16 : ¬ ((1 : Int32) < 0 ∨ cl16.slots.size ≤ ((1 : Int32)).toNatClampNeg) := inb_of S16 ⟨by decide, by decide⟩
      obtain ⟨T17, h17, X17, e17, W17, st17⟩ := stB X15 hx hZ e15 Ar16 (j := (1 : Int32)) hin16 (g := (mkF m 84 #[.val (.int p0), .val (.int p1), .val (.int p2), .val (.int p3), .val (.int p4), .val (.int p5), .val (.int (3 : Int32)), .val (.int v0), .val (.int v1), .val (.int v2), .val (.ref b13), .unset, .unset] [(.int (v1.toInt8.toInt32)), (.int (1 : Int32)), (.ref b13)])) rfl rfl (hb hby at_84)
      have V_b13_17 : Arv Z h17 b13 k13 .byte (3 : Int32) [(.int ((v0.toInt8.toInt32).toInt8.toInt32)), (.int ((v1.toInt8.toInt32).toInt8.toInt32)), (.int (0 : Int32))] (.int (0 : Int32)) := Arv.set Ar16 q16 S16 M16 Hh16 G16 (fits_nar_byte _) W17 1 rfl (Nat.le_of_ble_eq_true rfl)
      have N17 := Fr.snoc X17 N15 g_b13
      have Z17 : n0 ≤ h17.size := Nat.le_trans Z15 (Keep.of_wr W17).1
      refine own_go st17 ?_
      show own_End p e below s (T17.setTop (mkF m 85 #[.val (.int p0), .val (.int p1), .val (.int p2), .val (.int p3), .val (.int p4), .val (.int p5), .val (.int (3 : Int32)), .val (.int v0), .val (.int v1), .val (.int v2), .val (.ref b13), .unset, .unset] [])) _ _ _
      refine own_go (fun t k => XS.iload X17.here hx rfl (hb hby at_85) rfl k) ?_
      show own_End p e below s (T17.setTop (mkF m 87 #[.val (.int p0), .val (.int p1), .val (.int p2), .val (.int p3), .val (.int p4), .val (.int p5), .val (.int (3 : Int32)), .val (.int v0), .val (.int v1), .val (.int v2), .val (.ref b13), .unset, .unset] [(.int (3 : Int32))])) _ _ _
      refine own_go (fun t k => XS.iconst X17.here hx rfl (hb hby at_87) k) ?_
      show own_End p e below s (T17.setTop (mkF m 88 #[.val (.int p0), .val (.int p1), .val (.int p2), .val (.int p3), .val (.int p4), .val (.int p5), .val (.int (3 : Int32)), .val (.int v0), .val (.int v1), .val (.int v2), .val (.ref b13), .unset, .unset] [(.int (2 : Int32)), (.int (3 : Int32))])) _ _ _
      refine own_go (fun t k => XS.icmpNo X17.here hx rfl (hb hby at_88) rfl (own_tlt (x := (2 : Int32)) (y := (3 : Int32)) (i := 2) (j := 3) rfl rfl (by decide)).2.2.2 k) ?_
      show own_End p e below s (T17.setTop (mkF m 91 #[.val (.int p0), .val (.int p1), .val (.int p2), .val (.int p3), .val (.int p4), .val (.int p5), .val (.int (3 : Int32)), .val (.int v0), .val (.int v1), .val (.int v2), .val (.ref b13), .unset, .unset] [])) _ _ _
      refine own_go (fun t k => XS.aload X17.here hx rfl (hb hby at_91) rfl rfl k) ?_
      show own_End p e below s (T17.setTop (mkF m 93 #[.val (.int p0), .val (.int p1), .val (.int p2), .val (.int p3), .val (.int p4), .val (.int p5), .val (.int (3 : Int32)), .val (.int v0), .val (.int v1), .val (.int v2), .val (.ref b13), .unset, .unset] [(.ref b13)])) _ _ _
      refine own_go (fun t k => XS.iconst X17.here hx rfl (hb hby at_93) k) ?_
      show own_End p e below s (T17.setTop (mkF m 94 #[.val (.int p0), .val (.int p1), .val (.int p2), .val (.int p3), .val (.int p4), .val (.int p5), .val (.int (3 : Int32)), .val (.int v0), .val (.int v1), .val (.int v2), .val (.ref b13), .unset, .unset] [(.int (2 : Int32)), (.ref b13)])) _ _ _
      refine own_go (fun t k => XS.iload X17.here hx rfl (hb hby at_94) rfl k) ?_
      show own_End p e below s (T17.setTop (mkF m 96 #[.val (.int p0), .val (.int p1), .val (.int p2), .val (.int p3), .val (.int p4), .val (.int p5), .val (.int (3 : Int32)), .val (.int v0), .val (.int v1), .val (.int v2), .val (.ref b13), .unset, .unset] [(.int v2), (.int (2 : Int32)), (.ref b13)])) _ _ _
      refine own_go (fun t k => XS.i2b X17.here hx rfl (hb hby at_96) rfl k) ?_
      show own_End p e below s (T17.setTop (mkF m 97 #[.val (.int p0), .val (.int p1), .val (.int p2), .val (.int p3), .val (.int p4), .val (.int p5), .val (.int (3 : Int32)), .val (.int v0), .val (.int v1), .val (.int v2), .val (.ref b13), .unset, .unset] [(.int (v2.toInt8.toInt32)), (.int (2 : Int32)), (.ref b13)])) _ _ _
      obtain ⟨cl18, Ar18, q18, S18, M18, Hh18, G18⟩ := id V_b13_17
      have hin18 : ¬ ((2 : Int32) < 0 ∨ cl18.slots.size ≤ ((2 : Int32)).toNatClampNeg) := inb_of S18 ⟨by decide, by decide⟩
      obtain ⟨T19, h19, X19, e19, W19, st19⟩ := stB X17 hx hZ e17 Ar18 (j := (2 : Int32)) hin18 (g := (mkF m 97 #[.val (.int p0), .val (.int p1), .val (.int p2), .val (.int p3), .val (.int p4), .val (.int p5), .val (.int (3 : Int32)), .val (.int v0), .val (.int v1), .val (.int v2), .val (.ref b13), .unset, .unset] [(.int (v2.toInt8.toInt32)), (.int (2 : Int32)), (.ref b13)])) rfl rfl (hb hby at_97)
      have V_b13_19 : Arv Z h19 b13 k13 .byte (3 : Int32) [(.int ((v0.toInt8.toInt32).toInt8.toInt32)), (.int ((v1.toInt8.toInt32).toInt8.toInt32)), (.int ((v2.toInt8.toInt32).toInt8.toInt32))] (.int (0 : Int32)) := Arv.set Ar18 q18 S18 M18 Hh18 G18 (fits_nar_byte _) W19 2 rfl (Nat.le_of_ble_eq_true rfl)
      have N19 := Fr.snoc X19 N17 g_b13
      have Z19 : n0 ≤ h19.size := Nat.le_trans Z17 (Keep.of_wr W19).1
      refine own_go st19 ?_
      show own_End p e below s (T19.setTop (mkF m 98 #[.val (.int p0), .val (.int p1), .val (.int p2), .val (.int p3), .val (.int p4), .val (.int p5), .val (.int (3 : Int32)), .val (.int v0), .val (.int v1), .val (.int v2), .val (.ref b13), .unset, .unset] [])) _ _ _
      refine own_go (fun t k => XS.iload X19.here hx rfl (hb hby at_98) rfl k) ?_
      show own_End p e below s (T19.setTop (mkF m 100 #[.val (.int p0), .val (.int p1), .val (.int p2), .val (.int p3), .val (.int p4), .val (.int p5), .val (.int (3 : Int32)), .val (.int v0), .val (.int v1), .val (.int v2), .val (.ref b13), .unset, .unset] [(.int (3 : Int32))])) _ _ _
      refine own_go (fun t k => XS.iconst X19.here hx rfl (hb hby at_100) k) ?_
      show own_End p e below s (T19.setTop (mkF m 101 #[.val (.int p0), .val (.int p1), .val (.int p2), .val (.int p3), .val (.int p4), .val (.int p5), .val (.int (3 : Int32)), .val (.int v0), .val (.int v1), .val (.int v2), .val (.ref b13), .unset, .unset] [(.int (3 : Int32)), (.int (3 : Int32))])) _ _ _
      refine own_go (fun t k => XS.icmpYes X19.here hx rfl (pc0 := 101) (pc' := 111) rfl (hb hby at_101) rfl (own_flt (x := (3 : Int32)) (y := (3 : Int32)) (i := 3) (j := 3) rfl rfl (by decide)).2.2.2 (by decide) (by decide) k) ?_
      show own_End p e below s (T19.setTop (mkF m 111 #[.val (.int p0), .val (.int p1), .val (.int p2), .val (.int p3), .val (.int p4), .val (.int p5), .val (.int (3 : Int32)), .val (.int v0), .val (.int v1), .val (.int v2), .val (.ref b13), .unset, .unset] [])) _ _ _
      refine own_go (fun t k => XS.iload X19.here hx rfl (hb hby at_111) rfl k) ?_
      show own_End p e below s (T19.setTop (mkF m 113 #[.val (.int p0), .val (.int p1), .val (.int p2), .val (.int p3), .val (.int p4), .val (.int p5), .val (.int (3 : Int32)), .val (.int v0), .val (.int v1), .val (.int v2), .val (.ref b13), .unset, .unset] [(.int (3 : Int32))])) _ _ _
      refine own_go (fun t k => XS.iconst X19.here hx rfl (hb hby at_113) k) ?_
      show own_End p e below s (T19.setTop (mkF m 114 #[.val (.int p0), .val (.int p1), .val (.int p2), .val (.int p3), .val (.int p4), .val (.int p5), .val (.int (3 : Int32)), .val (.int v0), .val (.int v1), .val (.int v2), .val (.ref b13), .unset, .unset] [(.int (4 : Int32)), (.int (3 : Int32))])) _ _ _
      refine own_go (fun t k => XS.icmpYes X19.here hx rfl (pc0 := 114) (pc' := 127) rfl (hb hby at_114) rfl (own_flt (x := (4 : Int32)) (y := (3 : Int32)) (i := 4) (j := 3) rfl rfl (by decide)).2.2.2 (by decide) (by decide) k) ?_
      show own_End p e below s (T19.setTop (mkF m 127 #[.val (.int p0), .val (.int p1), .val (.int p2), .val (.int p3), .val (.int p4), .val (.int p5), .val (.int (3 : Int32)), .val (.int v0), .val (.int v1), .val (.int v2), .val (.ref b13), .unset, .unset] [])) _ _ _
      refine own_go (fun t k => XS.iload X19.here hx rfl (hb hby at_127) rfl k) ?_
      show own_End p e below s (T19.setTop (mkF m 129 #[.val (.int p0), .val (.int p1), .val (.int p2), .val (.int p3), .val (.int p4), .val (.int p5), .val (.int (3 : Int32)), .val (.int v0), .val (.int v1), .val (.int v2), .val (.ref b13), .unset, .unset] [(.int (3 : Int32))])) _ _ _
      refine own_go (fun t k => XS.iconst X19.here hx rfl (hb hby at_129) k) ?_
      show own_End p e below s (T19.setTop (mkF m 130 #[.val (.int p0), .val (.int p1), .val (.int p2), .val (.int p3), .val (.int p4), .val (.int p5), .val (.int (3 : Int32)), .val (.int v0), .val (.int v1), .val (.int v2), .val (.ref b13), .unset, .unset] [(.int (5 : Int32)), (.int (3 : Int32))])) _ _ _
      refine own_go (fun t k => XS.icmpYes X19.here hx rfl (pc0 := 130) (pc' := 143) rfl (hb hby at_130) rfl (own_flt (x := (5 : Int32)) (y := (3 : Int32)) (i := 5) (j := 3) rfl rfl (by decide)).2.2.2 (by decide) (by decide) k) ?_
      show own_End p e below s (T19.setTop (mkF m 143 #[.val (.int p0), .val (.int p1), .val (.int p2), .val (.int p3), .val (.int p4), .val (.int p5), .val (.int (3 : Int32)), .val (.int v0), .val (.int v1), .val (.int v2), .val (.ref b13), .unset, .unset] [])) _ _ _
      refine own_go (fun t k => XS.iload X19.here hx rfl (hb hby at_143) rfl k) ?_
      show own_End p e below s (T19.setTop (mkF m 145 #[.val (.int p0), .val (.int p1), .val (.int p2), .val (.int p3), .val (.int p4), .val (.int p5), .val (.int (3 : Int32)), .val (.int v0), .val (.int v1), .val (.int v2), .val (.ref b13), .unset, .unset] [(.int (3 : Int32))])) _ _ _
      refine own_go (fun t k => XS.bipush X19.here hx rfl (hb hby at_145) k) ?_
      show own_End p e below s (T19.setTop (mkF m 147 #[.val (.int p0), .val (.int p1), .val (.int p2), .val (.int p3), .val (.int p4), .val (.int p5), .val (.int (3 : Int32)), .val (.int v0), .val (.int v1), .val (.int v2), .val (.ref b13), .unset, .unset] [(.int (6 : Int32)), (.int (3 : Int32))])) _ _ _
      refine own_go (fun t k => XS.icmpYes X19.here hx rfl (pc0 := 147) (pc' := 161) rfl (hb hby at_147) rfl (own_flt (x := (6 : Int32)) (y := (3 : Int32)) (i := 6) (j := 3) rfl rfl (by decide)).2.2.2 (by decide) (by decide) k) ?_
      show own_End p e below s (T19.setTop (mkF m 161 #[.val (.int p0), .val (.int p1), .val (.int p2), .val (.int p3), .val (.int p4), .val (.int p5), .val (.int (3 : Int32)), .val (.int v0), .val (.int v1), .val (.int v2), .val (.ref b13), .unset, .unset] [])) _ _ _
      refine own_go (fun t k => XS.iconst X19.here hx rfl (hb hby at_161) k) ?_
      show own_End p e below s (T19.setTop (mkF m 162 #[.val (.int p0), .val (.int p1), .val (.int p2), .val (.int p3), .val (.int p4), .val (.int p5), .val (.int (3 : Int32)), .val (.int v0), .val (.int v1), .val (.int v2), .val (.ref b13), .unset, .unset] [(.int (0 : Int32))])) _ _ _
      refine own_go (fun t k => XS.istore X19.here hx rfl (hb hby at_162) rfl (l' := #[.val (.int p0), .val (.int p1), .val (.int p2), .val (.int p3), .val (.int p4), .val (.int p5), .val (.int (3 : Int32)), .val (.int v0), .val (.int v1), .val (.int v2), .val (.ref b13), .val (.int (0 : Int32)), .unset]) rfl k) ?_
      show own_End p e below s (T19.setTop (mkF m 164 #[.val (.int p0), .val (.int p1), .val (.int p2), .val (.int p3), .val (.int p4), .val (.int p5), .val (.int (3 : Int32)), .val (.int v0), .val (.int v1), .val (.int v2), .val (.ref b13), .val (.int (0 : Int32)), .unset] [])) _ _ _
      refine own_go (fun t k => XS.iload X19.here hx rfl (hb hby at_164) rfl k) ?_
      show own_End p e below s (T19.setTop (mkF m 166 #[.val (.int p0), .val (.int p1), .val (.int p2), .val (.int p3), .val (.int p4), .val (.int p5), .val (.int (3 : Int32)), .val (.int v0), .val (.int v1), .val (.int v2), .val (.ref b13), .val (.int (0 : Int32)), .unset] [(.int (3 : Int32))])) _ _ _
      refine own_go (fun t k => XS.iconst X19.here hx rfl (hb hby at_166) k) ?_
      show own_End p e below s (T19.setTop (mkF m 167 #[.val (.int p0), .val (.int p1), .val (.int p2), .val (.int p3), .val (.int p4), .val (.int p5), .val (.int (3 : Int32)), .val (.int v0), .val (.int v1), .val (.int v2), .val (.ref b13), .val (.int (0 : Int32)), .unset] [(.int (3 : Int32)), (.int (3 : Int32))])) _ _ _
      refine own_go (fun t k => XS.icmpNo X19.here hx rfl (hb hby at_167) rfl (own_flt (x := (3 : Int32)) (y := (3 : Int32)) (i := 3) (j := 3) rfl rfl (by decide)).1 k) ?_
      show own_End p e below s (T19.setTop (mkF m 170 #[.val (.int p0), .val (.int p1), .val (.int p2), .val (.int p3), .val (.int p4), .val (.int p5), .val (.int (3 : Int32)), .val (.int v0), .val (.int v1), .val (.int v2), .val (.ref b13), .val (.int (0 : Int32)), .unset] [])) _ _ _
      have m0 : (v0 &&& (255 : Int32)).toInt = v0.toInt % 256 := c_mask v0 (255 : Int32) 8 (by decide) (by decide)
      have m1 : (v1 &&& (255 : Int32)).toInt = v1.toInt % 256 := c_mask v1 (255 : Int32) 8 (by decide) (by decide)
      have m2 : (v2 &&& (255 : Int32)).toInt = v2.toInt % 256 := c_mask v2 (255 : Int32) 8 (by decide) (by decide)
      have li3 : (3 : Int32).toInt = 3 := rfl
      have J209_3 : ∀ (ex : Int32) (hex : ex.toInt = 3 ∧ (v0.toInt % 256 = 239 ∧ v1.toInt % 256 = 187 ∧ v2.toInt % 256 = 191) ∨ ex.toInt = 0 ∧ ¬ (v0.toInt % 256 = 239 ∧ v1.toInt % 256 = 187 ∧ v2.toInt % 256 = 191)), own_End p e below s (T19.setTop (mkF m 209 #[.val (.int p0), .val (.int p1), .val (.int p2), .val (.int p3), .val (.int p4), .val (.int p5), .val (.int (3 : Int32)), .val (.int v0), .val (.int v1), .val (.int v2), .val (.ref b13), .val (.int ex), .unset] [])) (Q_rm0 Z p0 p1 p2 p3 p4 p5  h0 n0) room_1.cells room_1.slots := by
        intro ex hex
        show own_End p e below s (T19.setTop (mkF m 209 #[.val (.int p0), .val (.int p1), .val (.int p2), .val (.int p3), .val (.int p4), .val (.int p5), .val (.int (3 : Int32)), .val (.int v0), .val (.int v1), .val (.int v2), .val (.ref b13), .val (.int ex), .unset] [])) _ _ _
        refine own_go (fun t k => XS.aload X19.here hx rfl (hb hby at_209) rfl rfl k) ?_
        show own_End p e below s (T19.setTop (mkF m 211 #[.val (.int p0), .val (.int p1), .val (.int p2), .val (.int p3), .val (.int p4), .val (.int p5), .val (.int (3 : Int32)), .val (.int v0), .val (.int v1), .val (.int v2), .val (.ref b13), .val (.int ex), .unset] [(.ref b13)])) _ _ _
        obtain ⟨_, _, ⟨T20, L20, k20, n20⟩, -, X20, ⟨Lc20, hQ20, l20, y20, z20⟩, st20⟩ := Jvm.LawKit.callS X19 hx (y := (⟨"com/example/settings_by_rank/settingsbyrank/core/source/FileFormat", "byteOrderMarkLength", "([B)I"⟩ : MethodName)) hown (mvT hZ (hw _ (List.mem_of_getElem? (i := 1) rfl))) (mvT hZ (hw _ (List.mem_of_getElem? (i := 2) rfl))) (mvT hZ (hw _ (List.mem_of_getElem? (i := 3) rfl))) (mvT hZ (hw _ (List.mem_of_getElem? (i := 4) rfl))) (by decide) (backOf (W := 0) (rm2 l Z a0 hw [] b13 k13 (3 : Int32) [(.int ((v0.toInt8.toInt32).toInt8.toInt32)), (.int ((v1.toInt8.toInt32).toInt8.toInt32)), (.int ((v2.toInt8.toInt32).toInt8.toInt32))] ((v0.toInt8.toInt32).toInt8.toInt32) ((v1.toInt8.toInt32).toInt8.toInt32) ((v2.toInt8.toInt32).toInt8.toInt32) h19 n0 Z19 V_b13_19 (by decide) rfl rfl rfl) hZ (hw _ (List.mem_of_getElem? (i := 4) rfl)) (hw _ (List.mem_of_getElem? (i := 3) rfl)) (by decide) (by decide)) (g := (mkF m 211 #[.val (.int p0), .val (.int p1), .val (.int p2), .val (.int p3), .val (.int p4), .val (.int p5), .val (.int (3 : Int32)), .val (.int v0), .val (.int v1), .val (.int v2), .val (.ref b13), .val (.int ex), .unset] [(.ref b13)])) rfl (by rw [hml]; rfl) (argsL := [(.ref b13)]) (rest := []) (lenOf own_pd0 rfl) rfl (by show 2 * 0 + _ ≤ _; exact Nat.le_of_eq rfl) (hb hby at_211) (fun _ _ => ⟨rfl, e19, (by decide : 1 + 0 ≤ _), (by decide : 3 + 0 ≤ _)⟩)
        dsimp only [Pt.U, Pt.locs, Pt.cells, Pt.slots] at X20 l20 y20 z20 st20 hQ20
        subst l20 y20 z20
        obtain ⟨⟨r20, rfl, hr20⟩, N20q, e20⟩ := hQ20
        have N20 := Fr.app N19 N20q
        refine own_go st20 ?_
        show own_End p e below s (T20.setTop (mkF m 214 #[.val (.int p0), .val (.int p1), .val (.int p2), .val (.int p3), .val (.int p4), .val (.int p5), .val (.int (3 : Int32)), .val (.int v0), .val (.int v1), .val (.int v2), .val (.ref b13), .val (.int ex), .unset] [(.int r20)])) _ _ _
        have b0 := c_i2b v0
        have bb0 := c_i2b v0.toInt8.toInt32
        have b1 := c_i2b v1
        have bb1 := c_i2b v1.toInt8.toInt32
        have b2 := c_i2b v2
        have bb2 := c_i2b v2.toInt8.toInt32
        refine own_go (fun t k => XS.istore X20.here hx rfl (hb hby at_214) rfl (l' := #[.val (.int p0), .val (.int p1), .val (.int p2), .val (.int p3), .val (.int p4), .val (.int p5), .val (.int (3 : Int32)), .val (.int v0), .val (.int v1), .val (.int v2), .val (.ref b13), .val (.int ex), .val (.int r20)]) rfl k) ?_
        show own_End p e below s (T20.setTop (mkF m 216 #[.val (.int p0), .val (.int p1), .val (.int p2), .val (.int p3), .val (.int p4), .val (.int p5), .val (.int (3 : Int32)), .val (.int v0), .val (.int v1), .val (.int v2), .val (.ref b13), .val (.int ex), .val (.int r20)] [])) _ _ _
        refine own_go (fun t k => XS.iload X20.here hx rfl (hb hby at_216) rfl k) ?_
        show own_End p e below s (T20.setTop (mkF m 218 #[.val (.int p0), .val (.int p1), .val (.int p2), .val (.int p3), .val (.int p4), .val (.int p5), .val (.int (3 : Int32)), .val (.int v0), .val (.int v1), .val (.int v2), .val (.ref b13), .val (.int ex), .val (.int r20)] [(.int r20)])) _ _ _
        refine own_go (fun t k => XS.iload X20.here hx rfl (hb hby at_218) rfl k) ?_
        show own_End p e below s (T20.setTop (mkF m 220 #[.val (.int p0), .val (.int p1), .val (.int p2), .val (.int p3), .val (.int p4), .val (.int p5), .val (.int (3 : Int32)), .val (.int v0), .val (.int v1), .val (.int v2), .val (.ref b13), .val (.int ex), .val (.int r20)] [(.int ex), (.int r20)])) _ _ _
        refine own_go (fun t k => XS.icmpNo X20.here hx rfl (hb hby at_220) rfl (own_eq (x := r20) (y := ex) (i := r20.toInt) (j := ex.toInt) rfl rfl (by omega)).2 k) ?_
        show own_End p e below s (T20.setTop (mkF m 223 #[.val (.int p0), .val (.int p1), .val (.int p2), .val (.int p3), .val (.int p4), .val (.int p5), .val (.int (3 : Int32)), .val (.int v0), .val (.int v1), .val (.int v2), .val (.ref b13), .val (.int ex), .val (.int r20)] [])) _ _ _
        refine own_go (fun t k => XS.iconst X20.here hx rfl (hb hby at_223) k) ?_
        show own_End p e below s (T20.setTop (mkF m 224 #[.val (.int p0), .val (.int p1), .val (.int p2), .val (.int p3), .val (.int p4), .val (.int p5), .val (.int (3 : Int32)), .val (.int v0), .val (.int v1), .val (.int v2), .val (.ref b13), .val (.int ex), .val (.int r20)] [(.int (1 : Int32))])) _ _ _
        refine own_go (fun t k => XS.goto X20.here hx rfl (pc0 := 224) (pc' := 228) rfl (hb hby at_224) (by decide) (by decide) k) ?_
        show own_End p e below s (T20.setTop (mkF m 228 #[.val (.int p0), .val (.int p1), .val (.int p2), .val (.int p3), .val (.int p4), .val (.int p5), .val (.int (3 : Int32)), .val (.int v0), .val (.int v1), .val (.int v2), .val (.ref b13), .val (.int ex), .val (.int r20)] [(.int (1 : Int32))])) _ _ _
        refine own_ret X20 (v := some (.int (1 : Int32))) (fun h => by rw [Bd.returns] at h; cases h) Bd.notSynchronized (fun fs hr => retN X20 hx (t := .boolean) Bd.returns (by simp) (hb hby at_228) hr) ?_ (by decide) (by decide)
        · exact ⟨rfl, N20⟩
      refine own_go (fun t k => XS.iload X19.here hx rfl (hb hby at_170) rfl k) ?_
      show own_End p e below s (T19.setTop (mkF m 172 #[.val (.int p0), .val (.int p1), .val (.int p2), .val (.int p3), .val (.int p4), .val (.int p5), .val (.int (3 : Int32)), .val (.int v0), .val (.int v1), .val (.int v2), .val (.ref b13), .val (.int (0 : Int32)), .unset] [(.int v0)])) _ _ _
      refine own_go (fun t k => XS.sipush X19.here hx rfl (hb hby at_172) k) ?_
      show own_End p e below s (T19.setTop (mkF m 175 #[.val (.int p0), .val (.int p1), .val (.int p2), .val (.int p3), .val (.int p4), .val (.int p5), .val (.int (3 : Int32)), .val (.int v0), .val (.int v1), .val (.int v2), .val (.ref b13), .val (.int (0 : Int32)), .unset] [(.int (255 : Int32)), (.int v0)])) _ _ _
      refine own_go (fun t k => XS.iand X19.here hx rfl (hb hby at_175) rfl k) ?_
      show own_End p e below s (T19.setTop (mkF m 176 #[.val (.int p0), .val (.int p1), .val (.int p2), .val (.int p3), .val (.int p4), .val (.int p5), .val (.int (3 : Int32)), .val (.int v0), .val (.int v1), .val (.int v2), .val (.ref b13), .val (.int (0 : Int32)), .unset] [(.int (v0 &&& (255 : Int32)))])) _ _ _
      refine own_go (fun t k => XS.sipush X19.here hx rfl (hb hby at_176) k) ?_
      show own_End p e below s (T19.setTop (mkF m 179 #[.val (.int p0), .val (.int p1), .val (.int p2), .val (.int p3), .val (.int p4), .val (.int p5), .val (.int (3 : Int32)), .val (.int v0), .val (.int v1), .val (.int v2), .val (.ref b13), .val (.int (0 : Int32)), .unset] [(.int (239 : Int32)), (.int (v0 &&& (255 : Int32)))])) _ _ _
      by_cases c179_21 : (v0 &&& (255 : Int32)).toInt = 239
      · skip
        refine own_go (fun t k => XS.icmpNo X19.here hx rfl (hb hby at_179) rfl (own_eq (x := (v0 &&& (255 : Int32))) (y := (239 : Int32)) (i := (v0 &&& (255 : Int32)).toInt) (j := 239) rfl rfl c179_21).2 k) ?_
        show own_End p e below s (T19.setTop (mkF m 182 #[.val (.int p0), .val (.int p1), .val (.int p2), .val (.int p3), .val (.int p4), .val (.int p5), .val (.int (3 : Int32)), .val (.int v0), .val (.int v1), .val (.int v2), .val (.ref b13), .val (.int (0 : Int32)), .unset] [])) _ _ _
        refine own_go (fun t k => XS.iload X19.here hx rfl (hb hby at_182) rfl k) ?_
        show own_End p e below s (T19.setTop (mkF m 184 #[.val (.int p0), .val (.int p1), .val (.int p2), .val (.int p3), .val (.int p4), .val (.int p5), .val (.int (3 : Int32)), .val (.int v0), .val (.int v1), .val (.int v2), .val (.ref b13), .val (.int (0 : Int32)), .unset] [(.int v1)])) _ _ _
        refine own_go (fun t k => XS.sipush X19.here hx rfl (hb hby at_184) k) ?_
        show own_End p e below s (T19.setTop (mkF m 187 #[.val (.int p0), .val (.int p1), .val (.int p2), .val (.int p3), .val (.int p4), .val (.int p5), .val (.int (3 : Int32)), .val (.int v0), .val (.int v1), .val (.int v2), .val (.ref b13), .val (.int (0 : Int32)), .unset] [(.int (255 : Int32)), (.int v1)])) _ _ _
        refine own_go (fun t k => XS.iand X19.here hx rfl (hb hby at_187) rfl k) ?_
        show own_End p e below s (T19.setTop (mkF m 188 #[.val (.int p0), .val (.int p1), .val (.int p2), .val (.int p3), .val (.int p4), .val (.int p5), .val (.int (3 : Int32)), .val (.int v0), .val (.int v1), .val (.int v2), .val (.ref b13), .val (.int (0 : Int32)), .unset] [(.int (v1 &&& (255 : Int32)))])) _ _ _
        refine own_go (fun t k => XS.sipush X19.here hx rfl (hb hby at_188) k) ?_
        show own_End p e below s (T19.setTop (mkF m 191 #[.val (.int p0), .val (.int p1), .val (.int p2), .val (.int p3), .val (.int p4), .val (.int p5), .val (.int (3 : Int32)), .val (.int v0), .val (.int v1), .val (.int v2), .val (.ref b13), .val (.int (0 : Int32)), .unset] [(.int (187 : Int32)), (.int (v1 &&& (255 : Int32)))])) _ _ _
        by_cases c191_22 : (v1 &&& (255 : Int32)).toInt = 187
        · skip
          refine own_go (fun t k => XS.icmpNo X19.here hx rfl (hb hby at_191) rfl (own_eq (x := (v1 &&& (255 : Int32))) (y := (187 : Int32)) (i := (v1 &&& (255 : Int32)).toInt) (j := 187) rfl rfl c191_22).2 k) ?_
          show own_End p e below s (T19.setTop (mkF m 194 #[.val (.int p0), .val (.int p1), .val (.int p2), .val (.int p3), .val (.int p4), .val (.int p5), .val (.int (3 : Int32)), .val (.int v0), .val (.int v1), .val (.int v2), .val (.ref b13), .val (.int (0 : Int32)), .unset] [])) _ _ _
          refine own_go (fun t k => XS.iload X19.here hx rfl (hb hby at_194) rfl k) ?_
          show own_End p e below s (T19.setTop (mkF m 196 #[.val (.int p0), .val (.int p1), .val (.int p2), .val (.int p3), .val (.int p4), .val (.int p5), .val (.int (3 : Int32)), .val (.int v0), .val (.int v1), .val (.int v2), .val (.ref b13), .val (.int (0 : Int32)), .unset] [(.int v2)])) _ _ _
          refine own_go (fun t k => XS.sipush X19.here hx rfl (hb hby at_196) k) ?_
          show own_End p e below s (T19.setTop (mkF m 199 #[.val (.int p0), .val (.int p1), .val (.int p2), .val (.int p3), .val (.int p4), .val (.int p5), .val (.int (3 : Int32)), .val (.int v0), .val (.int v1), .val (.int v2), .val (.ref b13), .val (.int (0 : Int32)), .unset] [(.int (255 : Int32)), (.int v2)])) _ _ _
          refine own_go (fun t k => XS.iand X19.here hx rfl (hb hby at_199) rfl k) ?_
          show own_End p e below s (T19.setTop (mkF m 200 #[.val (.int p0), .val (.int p1), .val (.int p2), .val (.int p3), .val (.int p4), .val (.int p5), .val (.int (3 : Int32)), .val (.int v0), .val (.int v1), .val (.int v2), .val (.ref b13), .val (.int (0 : Int32)), .unset] [(.int (v2 &&& (255 : Int32)))])) _ _ _
          refine own_go (fun t k => XS.sipush X19.here hx rfl (hb hby at_200) k) ?_
          show own_End p e below s (T19.setTop (mkF m 203 #[.val (.int p0), .val (.int p1), .val (.int p2), .val (.int p3), .val (.int p4), .val (.int p5), .val (.int (3 : Int32)), .val (.int v0), .val (.int v1), .val (.int v2), .val (.ref b13), .val (.int (0 : Int32)), .unset] [(.int (191 : Int32)), (.int (v2 &&& (255 : Int32)))])) _ _ _
          by_cases c203_23 : (v2 &&& (255 : Int32)).toInt = 191
          · skip
            refine own_go (fun t k => XS.icmpNo X19.here hx rfl (hb hby at_203) rfl (own_eq (x := (v2 &&& (255 : Int32))) (y := (191 : Int32)) (i := (v2 &&& (255 : Int32)).toInt) (j := 191) rfl rfl c203_23).2 k) ?_
            show own_End p e below s (T19.setTop (mkF m 206 #[.val (.int p0), .val (.int p1), .val (.int p2), .val (.int p3), .val (.int p4), .val (.int p5), .val (.int (3 : Int32)), .val (.int v0), .val (.int v1), .val (.int v2), .val (.ref b13), .val (.int (0 : Int32)), .unset] [])) _ _ _
            refine own_go (fun t k => XS.iconst X19.here hx rfl (hb hby at_206) k) ?_
            show own_End p e below s (T19.setTop (mkF m 207 #[.val (.int p0), .val (.int p1), .val (.int p2), .val (.int p3), .val (.int p4), .val (.int p5), .val (.int (3 : Int32)), .val (.int v0), .val (.int v1), .val (.int v2), .val (.ref b13), .val (.int (0 : Int32)), .unset] [(.int (3 : Int32))])) _ _ _
            refine own_go (fun t k => XS.istore X19.here hx rfl (hb hby at_207) rfl (l' := #[.val (.int p0), .val (.int p1), .val (.int p2), .val (.int p3), .val (.int p4), .val (.int p5), .val (.int (3 : Int32)), .val (.int v0), .val (.int v1), .val (.int v2), .val (.ref b13), .val (.int (3 : Int32)), .unset]) rfl k) ?_
            show own_End p e below s (T19.setTop (mkF m 209 #[.val (.int p0), .val (.int p1), .val (.int p2), .val (.int p3), .val (.int p4), .val (.int p5), .val (.int (3 : Int32)), .val (.int v0), .val (.int v1), .val (.int v2), .val (.ref b13), .val (.int (3 : Int32)), .unset] [])) _ _ _
            exact J209_3 _ (by omega)
          · skip
            refine own_go (fun t k => XS.icmpYes X19.here hx rfl (pc0 := 203) (pc' := 209) rfl (hb hby at_203) rfl (own_ne (x := (v2 &&& (255 : Int32))) (y := (191 : Int32)) (i := (v2 &&& (255 : Int32)).toInt) (j := 191) rfl rfl c203_23).2 (by decide) (by decide) k) ?_
            show own_End p e below s (T19.setTop (mkF m 209 #[.val (.int p0), .val (.int p1), .val (.int p2), .val (.int p3), .val (.int p4), .val (.int p5), .val (.int (3 : Int32)), .val (.int v0), .val (.int v1), .val (.int v2), .val (.ref b13), .val (.int (0 : Int32)), .unset] [])) _ _ _
            exact J209_3 _ (by omega)
        · skip
          refine own_go (fun t k => XS.icmpYes X19.here hx rfl (pc0 := 191) (pc' := 209) rfl (hb hby at_191) rfl (own_ne (x := (v1 &&& (255 : Int32))) (y := (187 : Int32)) (i := (v1 &&& (255 : Int32)).toInt) (j := 187) rfl rfl c191_22).2 (by decide) (by decide) k) ?_
          show own_End p e below s (T19.setTop (mkF m 209 #[.val (.int p0), .val (.int p1), .val (.int p2), .val (.int p3), .val (.int p4), .val (.int p5), .val (.int (3 : Int32)), .val (.int v0), .val (.int v1), .val (.int v2), .val (.ref b13), .val (.int (0 : Int32)), .unset] [])) _ _ _
          exact J209_3 _ (by omega)
      · skip
        refine own_go (fun t k => XS.icmpYes X19.here hx rfl (pc0 := 179) (pc' := 209) rfl (hb hby at_179) rfl (own_ne (x := (v0 &&& (255 : Int32))) (y := (239 : Int32)) (i := (v0 &&& (255 : Int32)).toInt) (j := 239) rfl rfl c179_21).2 (by decide) (by decide) k) ?_
        show own_End p e below s (T19.setTop (mkF m 209 #[.val (.int p0), .val (.int p1), .val (.int p2), .val (.int p3), .val (.int p4), .val (.int p5), .val (.int (3 : Int32)), .val (.int v0), .val (.int v1), .val (.int v2), .val (.ref b13), .val (.int (0 : Int32)), .unset] [])) _ _ _
        exact J209_3 _ (by omega)
    · skip
      rw [hm]
      show own_End p e below s (s₁.setTop (mkF m 54 #[.val (.int p0), .val (.int p1), .val (.int p2), .val (.int p3), .val (.int p4), .val (.int p5), .val (.int (4 : Int32)), .val (.int v0), .val (.int v1), .val (.int v2), .unset, .unset, .unset] [])) _ _ _
      refine own_go (fun t k => XS.iload X0.here hx rfl (hb hby at_54) rfl k) ?_
      show own_End p e below s (s₁.setTop (mkF m 56 #[.val (.int p0), .val (.int p1), .val (.int p2), .val (.int p3), .val (.int p4), .val (.int p5), .val (.int (4 : Int32)), .val (.int v0), .val (.int v1), .val (.int v2), .unset, .unset, .unset] [(.int (4 : Int32))])) _ _ _
      obtain ⟨T24, h24, k24, X24, e24, E24, A24, st24⟩ := newP X0 hx hZ (hw _ (List.mem_of_getElem? (i := 0) rfl)) e0 (g := (mkF m 56 #[.val (.int p0), .val (.int p1), .val (.int p2), .val (.int p3), .val (.int p4), .val (.int p5), .val (.int (4 : Int32)), .val (.int v0), .val (.int v1), .val (.int v2), .unset, .unset, .unset] [(.int (4 : Int32))])) rfl (hb hby at_56) rfl (by decide) (cap := 4) (by decide) (by decide) (by decide) (by decide)
      obtain ⟨b24, g24⟩ : ∃ z, z = h0.size := ⟨_, rfl⟩
      rw [← g24] at A24 st24
      have g_b24 : n0 ≤ b24 := Nat.le_trans Z0 (Nat.le_of_eq g24.symm)
      have Z24 : n0 ≤ h24.size := Nat.le_trans Z0 E24.1
      have V_b24 : Arv Z h24 b24 k24 .byte (4 : Int32) [(.int (0 : Int32)), (.int (0 : Int32)), (.int (0 : Int32)), (.int (0 : Int32))] (.int (0 : Int32)) := (Arv.new A24 (by decide)).pad (pad_rep [] (.int (0 : Int32)) 4)
      refine own_go st24 ?_
      show own_End p e below s (T24.setTop (mkF m 58 #[.val (.int p0), .val (.int p1), .val (.int p2), .val (.int p3), .val (.int p4), .val (.int p5), .val (.int (4 : Int32)), .val (.int v0), .val (.int v1), .val (.int v2), .unset, .unset, .unset] [(.ref b24)])) _ _ _
      refine own_go (fun t k => XS.astore X24.here hx rfl (hb hby at_58) rfl rfl (l' := #[.val (.int p0), .val (.int p1), .val (.int p2), .val (.int p3), .val (.int p4), .val (.int p5), .val (.int (4 : Int32)), .val (.int v0), .val (.int v1), .val (.int v2), .val (.ref b24), .unset, .unset]) rfl k) ?_
      show own_End p e below s (T24.setTop (mkF m 60 #[.val (.int p0), .val (.int p1), .val (.int p2), .val (.int p3), .val (.int p4), .val (.int p5), .val (.int (4 : Int32)), .val (.int v0), .val (.int v1), .val (.int v2), .val (.ref b24), .unset, .unset] [])) _ _ _
      refine own_go (fun t k => XS.iload X24.here hx rfl (hb hby at_60) rfl k) ?_
      show own_End p e below s (T24.setTop (mkF m 62 #[.val (.int p0), .val (.int p1), .val (.int p2), .val (.int p3), .val (.int p4), .val (.int p5), .val (.int (4 : Int32)), .val (.int v0), .val (.int v1), .val (.int v2), .val (.ref b24), .unset, .unset] [(.int (4 : Int32))])) _ _ _
      refine own_go (fun t k => XS.ifNo X24.here hx rfl (hb hby at_62) rfl ((if0 _ _).trans (own_tlt (x := (0 : Int32)) (y := (4 : Int32)) (i := 0) (j := 4) rfl rfl (by decide)).2.2.2) k) ?_
      show own_End p e below s (T24.setTop (mkF m 65 #[.val (.int p0), .val (.int p1), .val (.int p2), .val (.int p3), .val (.int p4), .val (.int p5), .val (.int (4 : Int32)), .val (.int v0), .val (.int v1), .val (.int v2), .val (.ref b24), .unset, .unset] [])) _ _ _
      refine own_go (fun t k => XS.aload X24.here hx rfl (hb hby at_65) rfl rfl k) ?_
      show own_End p e below s (T24.setTop (mkF m 67 #[.val (.int p0), .val (.int p1), .val (.int p2), .val (.int p3), .val (.int p4), .val (.int p5), .val (.int (4 : Int32)), .val (.int v0), .val (.int v1), .val (.int v2), .val (.ref b24), .unset, .unset] [(.ref b24)])) _ _ _
      refine own_go (fun t k => XS.iconst X24.here hx rfl (hb hby at_67) k) ?_
      show own_End p e below s (T24.setTop (mkF m 68 #[.val (.int p0), .val (.int p1), .val (.int p2), .val (.int p3), .val (.int p4), .val (.int p5), .val (.int (4 : Int32)), .val (.int v0), .val (.int v1), .val (.int v2), .val (.ref b24), .unset, .unset] [(.int (0 : Int32)), (.ref b24)])) _ _ _
      refine own_go (fun t k => XS.iload X24.here hx rfl (hb hby at_68) rfl k) ?_
      show own_End p e below s (T24.setTop (mkF m 70 #[.val (.int p0), .val (.int p1), .val (.int p2), .val (.int p3), .val (.int p4), .val (.int p5), .val (.int (4 : Int32)), .val (.int v0), .val (.int v1), .val (.int v2), .val (.ref b24), .unset, .unset] [(.int v0), (.int (0 : Int32)), (.ref b24)])) _ _ _
      refine own_go (fun t k => XS.i2b X24.here hx rfl (hb hby at_70) rfl k) ?_
      show own_End p e below s (T24.setTop (mkF m 71 #[.val (.int p0), .val (.int p1), .val (.int p2), .val (.int p3), .val (.int p4), .val (.int p5), .val (.int (4 : Int32)), .val (.int v0), .val (.int v1), .val (.int v2), .val (.ref b24), .unset, .unset] [(.int (v0.toInt8.toInt32)), (.int (0 : Int32)), (.ref b24)])) _ _ _
      obtain ⟨cl25, Ar25, q25, S25, M25, Hh25, G25⟩ := id V_b24
      have hin25 : ¬ ((0 : Int32) < 0 ∨ cl25.slots.size ≤ ((0 : Int32)).toNatClampNeg) := inb_of S25 ⟨by decide, by decide⟩
      obtain ⟨T26, h26, X26, e26, W26, st26⟩ := stB X24 hx hZ e24 Ar25 (j := (0 : Int32)) hin25 (g := (mkF m 71 #[.val (.int p0), .val (.int p1), .val (.int p2), .val (.int p3), .val (.int p4), .val (.int p5), .val (.int (4 : Int32)), .val (.int v0), .val (.int v1), .val (.int v2), .val (.ref b24), .unset, .unset] [(.int (v0.toInt8.toInt32)), (.int (0 : Int32)), (.ref b24)])) rfl rfl (hb hby at_71)
      have V_b24_26 : Arv Z h26 b24 k24 .byte (4 : Int32) [(.int ((v0.toInt8.toInt32).toInt8.toInt32)), (.int (0 : Int32)), (.int (0 : Int32)), (.int (0 : Int32))] (.int (0 : Int32)) := Arv.set Ar25 q25 S25 M25 Hh25 G25 (fits_nar_byte _) W26 0 rfl (Nat.le_of_ble_eq_true rfl)
      have N26 := Fr.snoc X26 N0 g_b24
      have Z26 : n0 ≤ h26.size := Nat.le_trans Z24 (Keep.of_wr W26).1
      refine own_go st26 ?_
      show own_End p e below s (T26.setTop (mkF m 72 #[.val (.int p0), .val (.int p1), .val (.int p2), .val (.int p3), .val (.int p4), .val (.int p5), .val (.int (4 : Int32)), .val (.int v0), .val (.int v1), .val (.int v2), .val (.ref b24), .unset, .unset] [])) _ _ _
      refine own_go (fun t k => XS.iload X26.here hx rfl (hb hby at_72) rfl k) ?_
      show own_End p e below s (T26.setTop (mkF m 74 #[.val (.int p0), .val (.int p1), .val (.int p2), .val (.int p3), .val (.int p4), .val (.int p5), .val (.int (4 : Int32)), .val (.int v0), .val (.int v1), .val (.int v2), .val (.ref b24), .unset, .unset] [(.int (4 : Int32))])) _ _ _
      refine own_go (fun t k => XS.iconst X26.here hx rfl (hb hby at_74) k) ?_
      show own_End p e below s (T26.setTop (mkF m 75 #[.val (.int p0), .val (.int p1), .val (.int p2), .val (.int p3), .val (.int p4), .val (.int p5), .val (.int (4 : Int32)), .val (.int v0), .val (.int v1), .val (.int v2), .val (.ref b24), .unset, .unset] [(.int (1 : Int32)), (.int (4 : Int32))])) _ _ _
      refine own_go (fun t k => XS.icmpNo X26.here hx rfl (hb hby at_75) rfl (own_tlt (x := (1 : Int32)) (y := (4 : Int32)) (i := 1) (j := 4) rfl rfl (by decide)).2.2.2 k) ?_
      show own_End p e below s (T26.setTop (mkF m 78 #[.val (.int p0), .val (.int p1), .val (.int p2), .val (.int p3), .val (.int p4), .val (.int p5), .val (.int (4 : Int32)), .val (.int v0), .val (.int v1), .val (.int v2), .val (.ref b24), .unset, .unset] [])) _ _ _
      refine own_go (fun t k => XS.aload X26.here hx rfl (hb hby at_78) rfl rfl k) ?_
      show own_End p e below s (T26.setTop (mkF m 80 #[.val (.int p0), .val (.int p1), .val (.int p2), .val (.int p3), .val (.int p4), .val (.int p5), .val (.int (4 : Int32)), .val (.int v0), .val (.int v1), .val (.int v2), .val (.ref b24), .unset, .unset] [(.ref b24)])) _ _ _
      refine own_go (fun t k => XS.iconst X26.here hx rfl (hb hby at_80) k) ?_
      show own_End p e below s (T26.setTop (mkF m 81 #[.val (.int p0), .val (.int p1), .val (.int p2), .val (.int p3), .val (.int p4), .val (.int p5), .val (.int (4 : Int32)), .val (.int v0), .val (.int v1), .val (.int v2), .val (.ref b24), .unset, .unset] [(.int (1 : Int32)), (.ref b24)])) _ _ _
      refine own_go (fun t k => XS.iload X26.here hx rfl (hb hby at_81) rfl k) ?_
      show own_End p e below s (T26.setTop (mkF m 83 #[.val (.int p0), .val (.int p1), .val (.int p2), .val (.int p3), .val (.int p4), .val (.int p5), .val (.int (4 : Int32)), .val (.int v0), .val (.int v1), .val (.int v2), .val (.ref b24), .unset, .unset] [(.int v1), (.int (1 : Int32)), (.ref b24)])) _ _ _
      refine own_go (fun t k => XS.i2b X26.here hx rfl (hb hby at_83) rfl k) ?_
      show own_End p e below s (T26.setTop (mkF m 84 #[.val (.int p0), .val (.int p1), .val (.int p2), .val (.int p3), .val (.int p4), .val (.int p5), .val (.int (4 : Int32)), .val (.int v0), .val (.int v1), .val (.int v2), .val (.ref b24), .unset, .unset] [(.int (v1.toInt8.toInt32)), (.int (1 : Int32)), (.ref b24)])) _ _ _
      obtain ⟨cl27, Ar27, q27, S27, M27, Hh27, G27⟩ := id V_b24_26
      have hin27 : ¬ ((1 : Int32) < 0 ∨ cl27.slots.size ≤ ((1 : Int32)).toNatClampNeg) := inb_of S27 ⟨by decide, by decide⟩
      obtain ⟨T28, h28, X28, e28, W28, st28⟩ := stB X26 hx hZ e26 Ar27 (j := (1 : Int32)) hin27 (g := (mkF m 84 #[.val (.int p0), .val (.int p1), .val (.int p2), .val (.int p3), .val (.int p4), .val (.int p5), .val (.int (4 : Int32)), .val (.int v0), .val (.int v1), .val (.int v2), .val (.ref b24), .unset, .unset] [(.int (v1.toInt8.toInt32)), (.int (1 : Int32)), (.ref b24)])) rfl rfl (hb hby at_84)
      have V_b24_28 : Arv Z h28 b24 k24 .byte (4 : Int32) [(.int ((v0.toInt8.toInt32).toInt8.toInt32)), (.int ((v1.toInt8.toInt32).toInt8.toInt32)), (.int (0 : Int32)), (.int (0 : Int32))] (.int (0 : Int32)) := Arv.set Ar27 q27 S27 M27 Hh27 G27 (fits_nar_byte _) W28 1 rfl (Nat.le_of_ble_eq_true rfl)
      have N28 := Fr.snoc X28 N26 g_b24
      have Z28 : n0 ≤ h28.size := Nat.le_trans Z26 (Keep.of_wr W28).1
      refine own_go st28 ?_
      show own_End p e below s (T28.setTop (mkF m 85 #[.val (.int p0), .val (.int p1), .val (.int p2), .val (.int p3), .val (.int p4), .val (.int p5), .val (.int (4 : Int32)), .val (.int v0), .val (.int v1), .val (.int v2), .val (.ref b24), .unset, .unset] [])) _ _ _
      refine own_go (fun t k => XS.iload X28.here hx rfl (hb hby at_85) rfl k) ?_
      show own_End p e below s (T28.setTop (mkF m 87 #[.val (.int p0), .val (.int p1), .val (.int p2), .val (.int p3), .val (.int p4), .val (.int p5), .val (.int (4 : Int32)), .val (.int v0), .val (.int v1), .val (.int v2), .val (.ref b24), .unset, .unset] [(.int (4 : Int32))])) _ _ _
      refine own_go (fun t k => XS.iconst X28.here hx rfl (hb hby at_87) k) ?_
      show own_End p e below s (T28.setTop (mkF m 88 #[.val (.int p0), .val (.int p1), .val (.int p2), .val (.int p3), .val (.int p4), .val (.int p5), .val (.int (4 : Int32)), .val (.int v0), .val (.int v1), .val (.int v2), .val (.ref b24), .unset, .unset] [(.int (2 : Int32)), (.int (4 : Int32))])) _ _ _
      refine own_go (fun t k => XS.icmpNo X28.here hx rfl (hb hby at_88) rfl (own_tlt (x := (2 : Int32)) (y := (4 : Int32)) (i := 2) (j := 4) rfl rfl (by decide)).2.2.2 k) ?_
      show own_End p e below s (T28.setTop (mkF m 91 #[.val (.int p0), .val (.int p1), .val (.int p2), .val (.int p3), .val (.int p4), .val (.int p5), .val (.int (4 : Int32)), .val (.int v0), .val (.int v1), .val (.int v2), .val (.ref b24), .unset, .unset] [])) _ _ _
      refine own_go (fun t k => XS.aload X28.here hx rfl (hb hby at_91) rfl rfl k) ?_
      show own_End p e below s (T28.setTop (mkF m 93 #[.val (.int p0), .val (.int p1), .val (.int p2), .val (.int p3), .val (.int p4), .val (.int p5), .val (.int (4 : Int32)), .val (.int v0), .val (.int v1), .val (.int v2), .val (.ref b24), .unset, .unset] [(.ref b24)])) _ _ _
      refine own_go (fun t k => XS.iconst X28.here hx rfl (hb hby at_93) k) ?_
      show own_End p e below s (T28.setTop (mkF m 94 #[.val (.int p0), .val (.int p1), .val (.int p2), .val (.int p3), .val (.int p4), .val (.int p5), .val (.int (4 : Int32)), .val (.int v0), .val (.int v1), .val (.int v2), .val (.ref b24), .unset, .unset] [(.int (2 : Int32)), (.ref b24)])) _ _ _
      refine own_go (fun t k => XS.iload X28.here hx rfl (hb hby at_94) rfl k) ?_
      show own_End p e below s (T28.setTop (mkF m 96 #[.val (.int p0), .val (.int p1), .val (.int p2), .val (.int p3), .val (.int p4), .val (.int p5), .val (.int (4 : Int32)), .val (.int v0), .val (.int v1), .val (.int v2), .val (.ref b24), .unset, .unset] [(.int v2), (.int (2 : Int32)), (.ref b24)])) _ _ _
      refine own_go (fun t k => XS.i2b X28.here hx rfl (hb hby at_96) rfl k) ?_
      show own_End p e below s (T28.setTop (mkF m 97 #[.val (.int p0), .val (.int p1), .val (.int p2), .val (.int p3), .val (.int p4), .val (.int p5), .val (.int (4 : Int32)), .val (.int v0), .val (.int v1), .val (.int v2), .val (.ref b24), .unset, .unset] [(.int (v2.toInt8.toInt32)), (.int (2 : Int32)), (.ref b24)])) _ _ _
      obtain ⟨cl29, Ar29, q29, S29, M29, Hh29, G29⟩ := id V_b24_28
      have hin29 : ¬ ((2 : Int32) < 0 ∨ cl29.slots.size ≤ ((2 : Int32)).toNatClampNeg) := inb_of S29 ⟨by decide, by decide⟩
      obtain ⟨T30, h30, X30, e30, W30, st30⟩ := stB X28 hx hZ e28 Ar29 (j := (2 : Int32)) hin29 (g := (mkF m 97 #[.val (.int p0), .val (.int p1), .val (.int p2), .val (.int p3), .val (.int p4), .val (.int p5), .val (.int (4 : Int32)), .val (.int v0), .val (.int v1), .val (.int v2), .val (.ref b24), .unset, .unset] [(.int (v2.toInt8.toInt32)), (.int (2 : Int32)), (.ref b24)])) rfl rfl (hb hby at_97)
      have V_b24_30 : Arv Z h30 b24 k24 .byte (4 : Int32) [(.int ((v0.toInt8.toInt32).toInt8.toInt32)), (.int ((v1.toInt8.toInt32).toInt8.toInt32)), (.int ((v2.toInt8.toInt32).toInt8.toInt32)), (.int (0 : Int32))] (.int (0 : Int32)) := Arv.set Ar29 q29 S29 M29 Hh29 G29 (fits_nar_byte _) W30 2 rfl (Nat.le_of_ble_eq_true rfl)
      have N30 := Fr.snoc X30 N28 g_b24
      have Z30 : n0 ≤ h30.size := Nat.le_trans Z28 (Keep.of_wr W30).1
      refine own_go st30 ?_
      show own_End p e below s (T30.setTop (mkF m 98 #[.val (.int p0), .val (.int p1), .val (.int p2), .val (.int p3), .val (.int p4), .val (.int p5), .val (.int (4 : Int32)), .val (.int v0), .val (.int v1), .val (.int v2), .val (.ref b24), .unset, .unset] [])) _ _ _
      refine own_go (fun t k => XS.iload X30.here hx rfl (hb hby at_98) rfl k) ?_
      show own_End p e below s (T30.setTop (mkF m 100 #[.val (.int p0), .val (.int p1), .val (.int p2), .val (.int p3), .val (.int p4), .val (.int p5), .val (.int (4 : Int32)), .val (.int v0), .val (.int v1), .val (.int v2), .val (.ref b24), .unset, .unset] [(.int (4 : Int32))])) _ _ _
      refine own_go (fun t k => XS.iconst X30.here hx rfl (hb hby at_100) k) ?_
      show own_End p e below s (T30.setTop (mkF m 101 #[.val (.int p0), .val (.int p1), .val (.int p2), .val (.int p3), .val (.int p4), .val (.int p5), .val (.int (4 : Int32)), .val (.int v0), .val (.int v1), .val (.int v2), .val (.ref b24), .unset, .unset] [(.int (3 : Int32)), (.int (4 : Int32))])) _ _ _
      refine own_go (fun t k => XS.icmpNo X30.here hx rfl (hb hby at_101) rfl (own_tlt (x := (3 : Int32)) (y := (4 : Int32)) (i := 3) (j := 4) rfl rfl (by decide)).2.2.2 k) ?_
      show own_End p e below s (T30.setTop (mkF m 104 #[.val (.int p0), .val (.int p1), .val (.int p2), .val (.int p3), .val (.int p4), .val (.int p5), .val (.int (4 : Int32)), .val (.int v0), .val (.int v1), .val (.int v2), .val (.ref b24), .unset, .unset] [])) _ _ _
      refine own_go (fun t k => XS.aload X30.here hx rfl (hb hby at_104) rfl rfl k) ?_
      show own_End p e below s (T30.setTop (mkF m 106 #[.val (.int p0), .val (.int p1), .val (.int p2), .val (.int p3), .val (.int p4), .val (.int p5), .val (.int (4 : Int32)), .val (.int v0), .val (.int v1), .val (.int v2), .val (.ref b24), .unset, .unset] [(.ref b24)])) _ _ _
      refine own_go (fun t k => XS.iconst X30.here hx rfl (hb hby at_106) k) ?_
      show own_End p e below s (T30.setTop (mkF m 107 #[.val (.int p0), .val (.int p1), .val (.int p2), .val (.int p3), .val (.int p4), .val (.int p5), .val (.int (4 : Int32)), .val (.int v0), .val (.int v1), .val (.int v2), .val (.ref b24), .unset, .unset] [(.int (3 : Int32)), (.ref b24)])) _ _ _
      refine own_go (fun t k => XS.iload X30.here hx rfl (hb hby at_107) rfl k) ?_
      show own_End p e below s (T30.setTop (mkF m 109 #[.val (.int p0), .val (.int p1), .val (.int p2), .val (.int p3), .val (.int p4), .val (.int p5), .val (.int (4 : Int32)), .val (.int v0), .val (.int v1), .val (.int v2), .val (.ref b24), .unset, .unset] [(.int p5), (.int (3 : Int32)), (.ref b24)])) _ _ _
      refine own_go (fun t k => XS.i2b X30.here hx rfl (hb hby at_109) rfl k) ?_
      show own_End p e below s (T30.setTop (mkF m 110 #[.val (.int p0), .val (.int p1), .val (.int p2), .val (.int p3), .val (.int p4), .val (.int p5), .val (.int (4 : Int32)), .val (.int v0), .val (.int v1), .val (.int v2), .val (.ref b24), .unset, .unset] [(.int (p5.toInt8.toInt32)), (.int (3 : Int32)), (.ref b24)])) _ _ _
      obtain ⟨cl31, Ar31, q31, S31, M31, Hh31, G31⟩ := id V_b24_30
      have hin31 : ¬ ((3 : Int32) < 0 ∨ cl31.slots.size ≤ ((3 : Int32)).toNatClampNeg) := inb_of S31 ⟨by decide, by decide⟩
      obtain ⟨T32, h32, X32, e32, W32, st32⟩ := stB X30 hx hZ e30 Ar31 (j := (3 : Int32)) hin31 (g := (mkF m 110 #[.val (.int p0), .val (.int p1), .val (.int p2), .val (.int p3), .val (.int p4), .val (.int p5), .val (.int (4 : Int32)), .val (.int v0), .val (.int v1), .val (.int v2), .val (.ref b24), .unset, .unset] [(.int (p5.toInt8.toInt32)), (.int (3 : Int32)), (.ref b24)])) rfl rfl (hb hby at_110)
      have V_b24_32 : Arv Z h32 b24 k24 .byte (4 : Int32) [(.int ((v0.toInt8.toInt32).toInt8.toInt32)), (.int ((v1.toInt8.toInt32).toInt8.toInt32)), (.int ((v2.toInt8.toInt32).toInt8.toInt32)), (.int ((p5.toInt8.toInt32).toInt8.toInt32))] (.int (0 : Int32)) := Arv.set Ar31 q31 S31 M31 Hh31 G31 (fits_nar_byte _) W32 3 rfl (Nat.le_of_ble_eq_true rfl)
      have N32 := Fr.snoc X32 N30 g_b24
      have Z32 : n0 ≤ h32.size := Nat.le_trans Z30 (Keep.of_wr W32).1
      refine own_go st32 ?_
      show own_End p e below s (T32.setTop (mkF m 111 #[.val (.int p0), .val (.int p1), .val (.int p2), .val (.int p3), .val (.int p4), .val (.int p5), .val (.int (4 : Int32)), .val (.int v0), .val (.int v1), .val (.int v2), .val (.ref b24), .unset, .unset] [])) _ _ _
      refine own_go (fun t k => XS.iload X32.here hx rfl (hb hby at_111) rfl k) ?_
      show own_End p e below s (T32.setTop (mkF m 113 #[.val (.int p0), .val (.int p1), .val (.int p2), .val (.int p3), .val (.int p4), .val (.int p5), .val (.int (4 : Int32)), .val (.int v0), .val (.int v1), .val (.int v2), .val (.ref b24), .unset, .unset] [(.int (4 : Int32))])) _ _ _
      refine own_go (fun t k => XS.iconst X32.here hx rfl (hb hby at_113) k) ?_
      show own_End p e below s (T32.setTop (mkF m 114 #[.val (.int p0), .val (.int p1), .val (.int p2), .val (.int p3), .val (.int p4), .val (.int p5), .val (.int (4 : Int32)), .val (.int v0), .val (.int v1), .val (.int v2), .val (.ref b24), .unset, .unset] [(.int (4 : Int32)), (.int (4 : Int32))])) _ _ _
      refine own_go (fun t k => XS.icmpYes X32.here hx rfl (pc0 := 114) (pc' := 127) rfl (hb hby at_114) rfl (own_flt (x := (4 : Int32)) (y := (4 : Int32)) (i := 4) (j := 4) rfl rfl (by decide)).2.2.2 (by decide) (by decide) k) ?_
      show own_End p e below s (T32.setTop (mkF m 127 #[.val (.int p0), .val (.int p1), .val (.int p2), .val (.int p3), .val (.int p4), .val (.int p5), .val (.int (4 : Int32)), .val (.int v0), .val (.int v1), .val (.int v2), .val (.ref b24), .unset, .unset] [])) _ _ _
      refine own_go (fun t k => XS.iload X32.here hx rfl (hb hby at_127) rfl k) ?_
      show own_End p e below s (T32.setTop (mkF m 129 #[.val (.int p0), .val (.int p1), .val (.int p2), .val (.int p3), .val (.int p4), .val (.int p5), .val (.int (4 : Int32)), .val (.int v0), .val (.int v1), .val (.int v2), .val (.ref b24), .unset, .unset] [(.int (4 : Int32))])) _ _ _
      refine own_go (fun t k => XS.iconst X32.here hx rfl (hb hby at_129) k) ?_
      show own_End p e below s (T32.setTop (mkF m 130 #[.val (.int p0), .val (.int p1), .val (.int p2), .val (.int p3), .val (.int p4), .val (.int p5), .val (.int (4 : Int32)), .val (.int v0), .val (.int v1), .val (.int v2), .val (.ref b24), .unset, .unset] [(.int (5 : Int32)), (.int (4 : Int32))])) _ _ _
      refine own_go (fun t k => XS.icmpYes X32.here hx rfl (pc0 := 130) (pc' := 143) rfl (hb hby at_130) rfl (own_flt (x := (5 : Int32)) (y := (4 : Int32)) (i := 5) (j := 4) rfl rfl (by decide)).2.2.2 (by decide) (by decide) k) ?_
      show own_End p e below s (T32.setTop (mkF m 143 #[.val (.int p0), .val (.int p1), .val (.int p2), .val (.int p3), .val (.int p4), .val (.int p5), .val (.int (4 : Int32)), .val (.int v0), .val (.int v1), .val (.int v2), .val (.ref b24), .unset, .unset] [])) _ _ _
      refine own_go (fun t k => XS.iload X32.here hx rfl (hb hby at_143) rfl k) ?_
      show own_End p e below s (T32.setTop (mkF m 145 #[.val (.int p0), .val (.int p1), .val (.int p2), .val (.int p3), .val (.int p4), .val (.int p5), .val (.int (4 : Int32)), .val (.int v0), .val (.int v1), .val (.int v2), .val (.ref b24), .unset, .unset] [(.int (4 : Int32))])) _ _ _
      refine own_go (fun t k => XS.bipush X32.here hx rfl (hb hby at_145) k) ?_
      show own_End p e below s (T32.setTop (mkF m 147 #[.val (.int p0), .val (.int p1), .val (.int p2), .val (.int p3), .val (.int p4), .val (.int p5), .val (.int (4 : Int32)), .val (.int v0), .val (.int v1), .val (.int v2), .val (.ref b24), .unset, .unset] [(.int (6 : Int32)), (.int (4 : Int32))])) _ _ _
      refine own_go (fun t k => XS.icmpYes X32.here hx rfl (pc0 := 147) (pc' := 161) rfl (hb hby at_147) rfl (own_flt (x := (6 : Int32)) (y := (4 : Int32)) (i := 6) (j := 4) rfl rfl (by decide)).2.2.2 (by decide) (by decide) k) ?_
      show own_End p e below s (T32.setTop (mkF m 161 #[.val (.int p0), .val (.int p1), .val (.int p2), .val (.int p3), .val (.int p4), .val (.int p5), .val (.int (4 : Int32)), .val (.int v0), .val (.int v1), .val (.int v2), .val (.ref b24), .unset, .unset] [])) _ _ _
      refine own_go (fun t k => XS.iconst X32.here hx rfl (hb hby at_161) k) ?_
      show own_End p e below s (T32.setTop (mkF m 162 #[.val (.int p0), .val (.int p1), .val (.int p2), .val (.int p3), .val (.int p4), .val (.int p5), .val (.int (4 : Int32)), .val (.int v0), .val (.int v1), .val (.int v2), .val (.ref b24), .unset, .unset] [(.int (0 : Int32))])) _ _ _
      refine own_go (fun t k => XS.istore X32.here hx rfl (hb hby at_162) rfl (l' := #[.val (.int p0), .val (.int p1), .val (.int p2), .val (.int p3), .val (.int p4), .val (.int p5), .val (.int (4 : Int32)), .val (.int v0), .val (.int v1), .val (.int v2), .val (.ref b24), .val (.int (0 : Int32)), .unset]) rfl k) ?_
      show own_End p e below s (T32.setTop (mkF m 164 #[.val (.int p0), .val (.int p1), .val (.int p2), .val (.int p3), .val (.int p4), .val (.int p5), .val (.int (4 : Int32)), .val (.int v0), .val (.int v1), .val (.int v2), .val (.ref b24), .val (.int (0 : Int32)), .unset] [])) _ _ _
      refine own_go (fun t k => XS.iload X32.here hx rfl (hb hby at_164) rfl k) ?_
      show own_End p e below s (T32.setTop (mkF m 166 #[.val (.int p0), .val (.int p1), .val (.int p2), .val (.int p3), .val (.int p4), .val (.int p5), .val (.int (4 : Int32)), .val (.int v0), .val (.int v1), .val (.int v2), .val (.ref b24), .val (.int (0 : Int32)), .unset] [(.int (4 : Int32))])) _ _ _
      refine own_go (fun t k => XS.iconst X32.here hx rfl (hb hby at_166) k) ?_
      show own_End p e below s (T32.setTop (mkF m 167 #[.val (.int p0), .val (.int p1), .val (.int p2), .val (.int p3), .val (.int p4), .val (.int p5), .val (.int (4 : Int32)), .val (.int v0), .val (.int v1), .val (.int v2), .val (.ref b24), .val (.int (0 : Int32)), .unset] [(.int (3 : Int32)), (.int (4 : Int32))])) _ _ _
      refine own_go (fun t k => XS.icmpNo X32.here hx rfl (hb hby at_167) rfl (own_flt (x := (4 : Int32)) (y := (3 : Int32)) (i := 4) (j := 3) rfl rfl (by decide)).1 k) ?_
      show own_End p e below s (T32.setTop (mkF m 170 #[.val (.int p0), .val (.int p1), .val (.int p2), .val (.int p3), .val (.int p4), .val (.int p5), .val (.int (4 : Int32)), .val (.int v0), .val (.int v1), .val (.int v2), .val (.ref b24), .val (.int (0 : Int32)), .unset] [])) _ _ _
      have m0 : (v0 &&& (255 : Int32)).toInt = v0.toInt % 256 := c_mask v0 (255 : Int32) 8 (by decide) (by decide)
      have m1 : (v1 &&& (255 : Int32)).toInt = v1.toInt % 256 := c_mask v1 (255 : Int32) 8 (by decide) (by decide)
      have m2 : (v2 &&& (255 : Int32)).toInt = v2.toInt % 256 := c_mask v2 (255 : Int32) 8 (by decide) (by decide)
      have li3 : (3 : Int32).toInt = 3 := rfl
      have J209_4 : ∀ (ex : Int32) (hex : ex.toInt = 3 ∧ (v0.toInt % 256 = 239 ∧ v1.toInt % 256 = 187 ∧ v2.toInt % 256 = 191) ∨ ex.toInt = 0 ∧ ¬ (v0.toInt % 256 = 239 ∧ v1.toInt % 256 = 187 ∧ v2.toInt % 256 = 191)), own_End p e below s (T32.setTop (mkF m 209 #[.val (.int p0), .val (.int p1), .val (.int p2), .val (.int p3), .val (.int p4), .val (.int p5), .val (.int (4 : Int32)), .val (.int v0), .val (.int v1), .val (.int v2), .val (.ref b24), .val (.int ex), .unset] [])) (Q_rm0 Z p0 p1 p2 p3 p4 p5  h0 n0) room_1.cells room_1.slots := by
        intro ex hex
        show own_End p e below s (T32.setTop (mkF m 209 #[.val (.int p0), .val (.int p1), .val (.int p2), .val (.int p3), .val (.int p4), .val (.int p5), .val (.int (4 : Int32)), .val (.int v0), .val (.int v1), .val (.int v2), .val (.ref b24), .val (.int ex), .unset] [])) _ _ _
        refine own_go (fun t k => XS.aload X32.here hx rfl (hb hby at_209) rfl rfl k) ?_
        show own_End p e below s (T32.setTop (mkF m 211 #[.val (.int p0), .val (.int p1), .val (.int p2), .val (.int p3), .val (.int p4), .val (.int p5), .val (.int (4 : Int32)), .val (.int v0), .val (.int v1), .val (.int v2), .val (.ref b24), .val (.int ex), .unset] [(.ref b24)])) _ _ _
        obtain ⟨_, _, ⟨T33, L33, k33, n33⟩, -, X33, ⟨Lc33, hQ33, l33, y33, z33⟩, st33⟩ := Jvm.LawKit.callS X32 hx (y := (⟨"com/example/settings_by_rank/settingsbyrank/core/source/FileFormat", "byteOrderMarkLength", "([B)I"⟩ : MethodName)) hown (mvT hZ (hw _ (List.mem_of_getElem? (i := 1) rfl))) (mvT hZ (hw _ (List.mem_of_getElem? (i := 2) rfl))) (mvT hZ (hw _ (List.mem_of_getElem? (i := 3) rfl))) (mvT hZ (hw _ (List.mem_of_getElem? (i := 4) rfl))) (by decide) (backOf (W := 0) (rm2 l Z a0 hw [] b24 k24 (4 : Int32) [(.int ((v0.toInt8.toInt32).toInt8.toInt32)), (.int ((v1.toInt8.toInt32).toInt8.toInt32)), (.int ((v2.toInt8.toInt32).toInt8.toInt32)), (.int ((p5.toInt8.toInt32).toInt8.toInt32))] ((v0.toInt8.toInt32).toInt8.toInt32) ((v1.toInt8.toInt32).toInt8.toInt32) ((v2.toInt8.toInt32).toInt8.toInt32) h32 n0 Z32 V_b24_32 (by decide) rfl rfl rfl) hZ (hw _ (List.mem_of_getElem? (i := 4) rfl)) (hw _ (List.mem_of_getElem? (i := 3) rfl)) (by decide) (by decide)) (g := (mkF m 211 #[.val (.int p0), .val (.int p1), .val (.int p2), .val (.int p3), .val (.int p4), .val (.int p5), .val (.int (4 : Int32)), .val (.int v0), .val (.int v1), .val (.int v2), .val (.ref b24), .val (.int ex), .unset] [(.ref b24)])) rfl (by rw [hml]; rfl) (argsL := [(.ref b24)]) (rest := []) (lenOf own_pd0 rfl) rfl (by show 2 * 0 + _ ≤ _; exact Nat.le_of_eq rfl) (hb hby at_211) (fun _ _ => ⟨rfl, e32, (by decide : 1 + 0 ≤ _), (by decide : 4 + 0 ≤ _)⟩)
        dsimp only [Pt.U, Pt.locs, Pt.cells, Pt.slots] at X33 l33 y33 z33 st33 hQ33
        subst l33 y33 z33
        obtain ⟨⟨r33, rfl, hr33⟩, N33q, e33⟩ := hQ33
        have N33 := Fr.app N32 N33q
        refine own_go st33 ?_
        show own_End p e below s (T33.setTop (mkF m 214 #[.val (.int p0), .val (.int p1), .val (.int p2), .val (.int p3), .val (.int p4), .val (.int p5), .val (.int (4 : Int32)), .val (.int v0), .val (.int v1), .val (.int v2), .val (.ref b24), .val (.int ex), .unset] [(.int r33)])) _ _ _
        have b0 := c_i2b v0
        have bb0 := c_i2b v0.toInt8.toInt32
        have b1 := c_i2b v1
        have bb1 := c_i2b v1.toInt8.toInt32
        have b2 := c_i2b v2
        have bb2 := c_i2b v2.toInt8.toInt32
        refine own_go (fun t k => XS.istore X33.here hx rfl (hb hby at_214) rfl (l' := #[.val (.int p0), .val (.int p1), .val (.int p2), .val (.int p3), .val (.int p4), .val (.int p5), .val (.int (4 : Int32)), .val (.int v0), .val (.int v1), .val (.int v2), .val (.ref b24), .val (.int ex), .val (.int r33)]) rfl k) ?_
        show own_End p e below s (T33.setTop (mkF m 216 #[.val (.int p0), .val (.int p1), .val (.int p2), .val (.int p3), .val (.int p4), .val (.int p5), .val (.int (4 : Int32)), .val (.int v0), .val (.int v1), .val (.int v2), .val (.ref b24), .val (.int ex), .val (.int r33)] [])) _ _ _
        refine own_go (fun t k => XS.iload X33.here hx rfl (hb hby at_216) rfl k) ?_
        show own_End p e below s (T33.setTop (mkF m 218 #[.val (.int p0), .val (.int p1), .val (.int p2), .val (.int p3), .val (.int p4), .val (.int p5), .val (.int (4 : Int32)), .val (.int v0), .val (.int v1), .val (.int v2), .val (.ref b24), .val (.int ex), .val (.int r33)] [(.int r33)])) _ _ _
        refine own_go (fun t k => XS.iload X33.here hx rfl (hb hby at_218) rfl k) ?_
        show own_End p e below s (T33.setTop (mkF m 220 #[.val (.int p0), .val (.int p1), .val (.int p2), .val (.int p3), .val (.int p4), .val (.int p5), .val (.int (4 : Int32)), .val (.int v0), .val (.int v1), .val (.int v2), .val (.ref b24), .val (.int ex), .val (.int r33)] [(.int ex), (.int r33)])) _ _ _
        refine own_go (fun t k => XS.icmpNo X33.here hx rfl (hb hby at_220) rfl (own_eq (x := r33) (y := ex) (i := r33.toInt) (j := ex.toInt) rfl rfl (by omega)).2 k) ?_
        show own_End p e below s (T33.setTop (mkF m 223 #[.val (.int p0), .val (.int p1), .val (.int p2), .val (.int p3), .val (.int p4), .val (.int p5), .val (.int (4 : Int32)), .val (.int v0), .val (.int v1), .val (.int v2), .val (.ref b24), .val (.int ex), .val (.int r33)] [])) _ _ _
        refine own_go (fun t k => XS.iconst X33.here hx rfl (hb hby at_223) k) ?_
        show own_End p e below s (T33.setTop (mkF m 224 #[.val (.int p0), .val (.int p1), .val (.int p2), .val (.int p3), .val (.int p4), .val (.int p5), .val (.int (4 : Int32)), .val (.int v0), .val (.int v1), .val (.int v2), .val (.ref b24), .val (.int ex), .val (.int r33)] [(.int (1 : Int32))])) _ _ _
        refine own_go (fun t k => XS.goto X33.here hx rfl (pc0 := 224) (pc' := 228) rfl (hb hby at_224) (by decide) (by decide) k) ?_
        show own_End p e below s (T33.setTop (mkF m 228 #[.val (.int p0), .val (.int p1), .val (.int p2), .val (.int p3), .val (.int p4), .val (.int p5), .val (.int (4 : Int32)), .val (.int v0), .val (.int v1), .val (.int v2), .val (.ref b24), .val (.int ex), .val (.int r33)] [(.int (1 : Int32))])) _ _ _
        refine own_ret X33 (v := some (.int (1 : Int32))) (fun h => by rw [Bd.returns] at h; cases h) Bd.notSynchronized (fun fs hr => retN X33 hx (t := .boolean) Bd.returns (by simp) (hb hby at_228) hr) ?_ (by decide) (by decide)
        · exact ⟨rfl, N33⟩
      refine own_go (fun t k => XS.iload X32.here hx rfl (hb hby at_170) rfl k) ?_
      show own_End p e below s (T32.setTop (mkF m 172 #[.val (.int p0), .val (.int p1), .val (.int p2), .val (.int p3), .val (.int p4), .val (.int p5), .val (.int (4 : Int32)), .val (.int v0), .val (.int v1), .val (.int v2), .val (.ref b24), .val (.int (0 : Int32)), .unset] [(.int v0)])) _ _ _
      refine own_go (fun t k => XS.sipush X32.here hx rfl (hb hby at_172) k) ?_
      show own_End p e below s (T32.setTop (mkF m 175 #[.val (.int p0), .val (.int p1), .val (.int p2), .val (.int p3), .val (.int p4), .val (.int p5), .val (.int (4 : Int32)), .val (.int v0), .val (.int v1), .val (.int v2), .val (.ref b24), .val (.int (0 : Int32)), .unset] [(.int (255 : Int32)), (.int v0)])) _ _ _
      refine own_go (fun t k => XS.iand X32.here hx rfl (hb hby at_175) rfl k) ?_
      show own_End p e below s (T32.setTop (mkF m 176 #[.val (.int p0), .val (.int p1), .val (.int p2), .val (.int p3), .val (.int p4), .val (.int p5), .val (.int (4 : Int32)), .val (.int v0), .val (.int v1), .val (.int v2), .val (.ref b24), .val (.int (0 : Int32)), .unset] [(.int (v0 &&& (255 : Int32)))])) _ _ _
      refine own_go (fun t k => XS.sipush X32.here hx rfl (hb hby at_176) k) ?_
      show own_End p e below s (T32.setTop (mkF m 179 #[.val (.int p0), .val (.int p1), .val (.int p2), .val (.int p3), .val (.int p4), .val (.int p5), .val (.int (4 : Int32)), .val (.int v0), .val (.int v1), .val (.int v2), .val (.ref b24), .val (.int (0 : Int32)), .unset] [(.int (239 : Int32)), (.int (v0 &&& (255 : Int32)))])) _ _ _
      by_cases c179_34 : (v0 &&& (255 : Int32)).toInt = 239
      · skip
        refine own_go (fun t k => XS.icmpNo X32.here hx rfl (hb hby at_179) rfl (own_eq (x := (v0 &&& (255 : Int32))) (y := (239 : Int32)) (i := (v0 &&& (255 : Int32)).toInt) (j := 239) rfl rfl c179_34).2 k) ?_
        show own_End p e below s (T32.setTop (mkF m 182 #[.val (.int p0), .val (.int p1), .val (.int p2), .val (.int p3), .val (.int p4), .val (.int p5), .val (.int (4 : Int32)), .val (.int v0), .val (.int v1), .val (.int v2), .val (.ref b24), .val (.int (0 : Int32)), .unset] [])) _ _ _
        refine own_go (fun t k => XS.iload X32.here hx rfl (hb hby at_182) rfl k) ?_
        show own_End p e below s (T32.setTop (mkF m 184 #[.val (.int p0), .val (.int p1), .val (.int p2), .val (.int p3), .val (.int p4), .val (.int p5), .val (.int (4 : Int32)), .val (.int v0), .val (.int v1), .val (.int v2), .val (.ref b24), .val (.int (0 : Int32)), .unset] [(.int v1)])) _ _ _
        refine own_go (fun t k => XS.sipush X32.here hx rfl (hb hby at_184) k) ?_
        show own_End p e below s (T32.setTop (mkF m 187 #[.val (.int p0), .val (.int p1), .val (.int p2), .val (.int p3), .val (.int p4), .val (.int p5), .val (.int (4 : Int32)), .val (.int v0), .val (.int v1), .val (.int v2), .val (.ref b24), .val (.int (0 : Int32)), .unset] [(.int (255 : Int32)), (.int v1)])) _ _ _
        refine own_go (fun t k => XS.iand X32.here hx rfl (hb hby at_187) rfl k) ?_
        show own_End p e below s (T32.setTop (mkF m 188 #[.val (.int p0), .val (.int p1), .val (.int p2), .val (.int p3), .val (.int p4), .val (.int p5), .val (.int (4 : Int32)), .val (.int v0), .val (.int v1), .val (.int v2), .val (.ref b24), .val (.int (0 : Int32)), .unset] [(.int (v1 &&& (255 : Int32)))])) _ _ _
        refine own_go (fun t k => XS.sipush X32.here hx rfl (hb hby at_188) k) ?_
        show own_End p e below s (T32.setTop (mkF m 191 #[.val (.int p0), .val (.int p1), .val (.int p2), .val (.int p3), .val (.int p4), .val (.int p5), .val (.int (4 : Int32)), .val (.int v0), .val (.int v1), .val (.int v2), .val (.ref b24), .val (.int (0 : Int32)), .unset] [(.int (187 : Int32)), (.int (v1 &&& (255 : Int32)))])) _ _ _
        by_cases c191_35 : (v1 &&& (255 : Int32)).toInt = 187
        · skip
          refine own_go (fun t k => XS.icmpNo X32.here hx rfl (hb hby at_191) rfl (own_eq (x := (v1 &&& (255 : Int32))) (y := (187 : Int32)) (i := (v1 &&& (255 : Int32)).toInt) (j := 187) rfl rfl c191_35).2 k) ?_
          show own_End p e below s (T32.setTop (mkF m 194 #[.val (.int p0), .val (.int p1), .val (.int p2), .val (.int p3), .val (.int p4), .val (.int p5), .val (.int (4 : Int32)), .val (.int v0), .val (.int v1), .val (.int v2), .val (.ref b24), .val (.int (0 : Int32)), .unset] [])) _ _ _
          refine own_go (fun t k => XS.iload X32.here hx rfl (hb hby at_194) rfl k) ?_
          show own_End p e below s (T32.setTop (mkF m 196 #[.val (.int p0), .val (.int p1), .val (.int p2), .val (.int p3), .val (.int p4), .val (.int p5), .val (.int (4 : Int32)), .val (.int v0), .val (.int v1), .val (.int v2), .val (.ref b24), .val (.int (0 : Int32)), .unset] [(.int v2)])) _ _ _
          refine own_go (fun t k => XS.sipush X32.here hx rfl (hb hby at_196) k) ?_
          show own_End p e below s (T32.setTop (mkF m 199 #[.val (.int p0), .val (.int p1), .val (.int p2), .val (.int p3), .val (.int p4), .val (.int p5), .val (.int (4 : Int32)), .val (.int v0), .val (.int v1), .val (.int v2), .val (.ref b24), .val (.int (0 : Int32)), .unset] [(.int (255 : Int32)), (.int v2)])) _ _ _
          refine own_go (fun t k => XS.iand X32.here hx rfl (hb hby at_199) rfl k) ?_
          show own_End p e below s (T32.setTop (mkF m 200 #[.val (.int p0), .val (.int p1), .val (.int p2), .val (.int p3), .val (.int p4), .val (.int p5), .val (.int (4 : Int32)), .val (.int v0), .val (.int v1), .val (.int v2), .val (.ref b24), .val (.int (0 : Int32)), .unset] [(.int (v2 &&& (255 : Int32)))])) _ _ _
          refine own_go (fun t k => XS.sipush X32.here hx rfl (hb hby at_200) k) ?_
          show own_End p e below s (T32.setTop (mkF m 203 #[.val (.int p0), .val (.int p1), .val (.int p2), .val (.int p3), .val (.int p4), .val (.int p5), .val (.int (4 : Int32)), .val (.int v0), .val (.int v1), .val (.int v2), .val (.ref b24), .val (.int (0 : Int32)), .unset] [(.int (191 : Int32)), (.int (v2 &&& (255 : Int32)))])) _ _ _
          by_cases c203_36 : (v2 &&& (255 : Int32)).toInt = 191
          · skip
            refine own_go (fun t k => XS.icmpNo X32.here hx rfl (hb hby at_203) rfl (own_eq (x := (v2 &&& (255 : Int32))) (y := (191 : Int32)) (i := (v2 &&& (255 : Int32)).toInt) (j := 191) rfl rfl c203_36).2 k) ?_
            show own_End p e below s (T32.setTop (mkF m 206 #[.val (.int p0), .val (.int p1), .val (.int p2), .val (.int p3), .val (.int p4), .val (.int p5), .val (.int (4 : Int32)), .val (.int v0), .val (.int v1), .val (.int v2), .val (.ref b24), .val (.int (0 : Int32)), .unset] [])) _ _ _
            refine own_go (fun t k => XS.iconst X32.here hx rfl (hb hby at_206) k) ?_
            show own_End p e below s (T32.setTop (mkF m 207 #[.val (.int p0), .val (.int p1), .val (.int p2), .val (.int p3), .val (.int p4), .val (.int p5), .val (.int (4 : Int32)), .val (.int v0), .val (.int v1), .val (.int v2), .val (.ref b24), .val (.int (0 : Int32)), .unset] [(.int (3 : Int32))])) _ _ _
            refine own_go (fun t k => XS.istore X32.here hx rfl (hb hby at_207) rfl (l' := #[.val (.int p0), .val (.int p1), .val (.int p2), .val (.int p3), .val (.int p4), .val (.int p5), .val (.int (4 : Int32)), .val (.int v0), .val (.int v1), .val (.int v2), .val (.ref b24), .val (.int (3 : Int32)), .unset]) rfl k) ?_
            show own_End p e below s (T32.setTop (mkF m 209 #[.val (.int p0), .val (.int p1), .val (.int p2), .val (.int p3), .val (.int p4), .val (.int p5), .val (.int (4 : Int32)), .val (.int v0), .val (.int v1), .val (.int v2), .val (.ref b24), .val (.int (3 : Int32)), .unset] [])) _ _ _
            exact J209_4 _ (by omega)
          · skip
            refine own_go (fun t k => XS.icmpYes X32.here hx rfl (pc0 := 203) (pc' := 209) rfl (hb hby at_203) rfl (own_ne (x := (v2 &&& (255 : Int32))) (y := (191 : Int32)) (i := (v2 &&& (255 : Int32)).toInt) (j := 191) rfl rfl c203_36).2 (by decide) (by decide) k) ?_
            show own_End p e below s (T32.setTop (mkF m 209 #[.val (.int p0), .val (.int p1), .val (.int p2), .val (.int p3), .val (.int p4), .val (.int p5), .val (.int (4 : Int32)), .val (.int v0), .val (.int v1), .val (.int v2), .val (.ref b24), .val (.int (0 : Int32)), .unset] [])) _ _ _
            exact J209_4 _ (by omega)
        · skip
          refine own_go (fun t k => XS.icmpYes X32.here hx rfl (pc0 := 191) (pc' := 209) rfl (hb hby at_191) rfl (own_ne (x := (v1 &&& (255 : Int32))) (y := (187 : Int32)) (i := (v1 &&& (255 : Int32)).toInt) (j := 187) rfl rfl c191_35).2 (by decide) (by decide) k) ?_
          show own_End p e below s (T32.setTop (mkF m 209 #[.val (.int p0), .val (.int p1), .val (.int p2), .val (.int p3), .val (.int p4), .val (.int p5), .val (.int (4 : Int32)), .val (.int v0), .val (.int v1), .val (.int v2), .val (.ref b24), .val (.int (0 : Int32)), .unset] [])) _ _ _
          exact J209_4 _ (by omega)
      · skip
        refine own_go (fun t k => XS.icmpYes X32.here hx rfl (pc0 := 179) (pc' := 209) rfl (hb hby at_179) rfl (own_ne (x := (v0 &&& (255 : Int32))) (y := (239 : Int32)) (i := (v0 &&& (255 : Int32)).toInt) (j := 239) rfl rfl c179_34).2 (by decide) (by decide) k) ?_
        show own_End p e below s (T32.setTop (mkF m 209 #[.val (.int p0), .val (.int p1), .val (.int p2), .val (.int p3), .val (.int p4), .val (.int p5), .val (.int (4 : Int32)), .val (.int v0), .val (.int v1), .val (.int v2), .val (.ref b24), .val (.int (0 : Int32)), .unset] [])) _ _ _
        exact J209_4 _ (by omega)
    · skip
      rw [hm]
      show own_End p e below s (s₁.setTop (mkF m 54 #[.val (.int p0), .val (.int p1), .val (.int p2), .val (.int p3), .val (.int p4), .val (.int p5), .val (.int (5 : Int32)), .val (.int v0), .val (.int v1), .val (.int v2), .unset, .unset, .unset] [])) _ _ _
      refine own_go (fun t k => XS.iload X0.here hx rfl (hb hby at_54) rfl k) ?_
      show own_End p e below s (s₁.setTop (mkF m 56 #[.val (.int p0), .val (.int p1), .val (.int p2), .val (.int p3), .val (.int p4), .val (.int p5), .val (.int (5 : Int32)), .val (.int v0), .val (.int v1), .val (.int v2), .unset, .unset, .unset] [(.int (5 : Int32))])) _ _ _
      obtain ⟨T37, h37, k37, X37, e37, E37, A37, st37⟩ := newP X0 hx hZ (hw _ (List.mem_of_getElem? (i := 0) rfl)) e0 (g := (mkF m 56 #[.val (.int p0), .val (.int p1), .val (.int p2), .val (.int p3), .val (.int p4), .val (.int p5), .val (.int (5 : Int32)), .val (.int v0), .val (.int v1), .val (.int v2), .unset, .unset, .unset] [(.int (5 : Int32))])) rfl (hb hby at_56) rfl (by decide) (cap := 5) (by decide) (by decide) (by decide) (by decide)
      obtain ⟨b37, g37⟩ : ∃ z, z = h0.size := ⟨_, rfl⟩
      rw [← g37] at A37 st37
      have g_b37 : n0 ≤ b37 := Nat.le_trans Z0 (Nat.le_of_eq g37.symm)
      have Z37 : n0 ≤ h37.size := Nat.le_trans Z0 E37.1
      have V_b37 : Arv Z h37 b37 k37 .byte (5 : Int32) [(.int (0 : Int32)), (.int (0 : Int32)), (.int (0 : Int32)), (.int (0 : Int32)), (.int (0 : Int32))] (.int (0 : Int32)) := (Arv.new A37 (by decide)).pad (pad_rep [] (.int (0 : Int32)) 5)
      refine own_go st37 ?_
      show own_End p e below s (T37.setTop (mkF m 58 #[.val (.int p0), .val (.int p1), .val (.int p2), .val (.int p3), .val (.int p4), .val (.int p5), .val (.int (5 : Int32)), .val (.int v0), .val (.int v1), .val (.int v2), .unset, .unset, .unset] [(.ref b37)])) _ _ _
      refine own_go (fun t k => XS.astore X37.here hx rfl (hb hby at_58) rfl rfl (l' := #[.val (.int p0), .val (.int p1), .val (.int p2), .val (.int p3), .val (.int p4), .val (.int p5), .val (.int (5 : Int32)), .val (.int v0), .val (.int v1), .val (.int v2), .val (.ref b37), .unset, .unset]) rfl k) ?_
      show own_End p e below s (T37.setTop (mkF m 60 #[.val (.int p0), .val (.int p1), .val (.int p2), .val (.int p3), .val (.int p4), .val (.int p5), .val (.int (5 : Int32)), .val (.int v0), .val (.int v1), .val (.int v2), .val (.ref b37), .unset, .unset] [])) _ _ _
      refine own_go (fun t k => XS.iload X37.here hx rfl (hb hby at_60) rfl k) ?_
      show own_End p e below s (T37.setTop (mkF m 62 #[.val (.int p0), .val (.int p1), .val (.int p2), .val (.int p3), .val (.int p4), .val (.int p5), .val (.int (5 : Int32)), .val (.int v0), .val (.int v1), .val (.int v2), .val (.ref b37), .unset, .unset] [(.int (5 : Int32))])) _ _ _
      refine own_go (fun t k => XS.ifNo X37.here hx rfl (hb hby at_62) rfl ((if0 _ _).trans (own_tlt (x := (0 : Int32)) (y := (5 : Int32)) (i := 0) (j := 5) rfl rfl (by decide)).2.2.2) k) ?_
      show own_End p e below s (T37.setTop (mkF m 65 #[.val (.int p0), .val (.int p1), .val (.int p2), .val (.int p3), .val (.int p4), .val (.int p5), .val (.int (5 : Int32)), .val (.int v0), .val (.int v1), .val (.int v2), .val (.ref b37), .unset, .unset] [])) _ _ _
      refine own_go (fun t k => XS.aload X37.here hx rfl (hb hby at_65) rfl rfl k) ?_
      show own_End p e below s (T37.setTop (mkF m 67 #[.val (.int p0), .val (.int p1), .val (.int p2), .val (.int p3), .val (.int p4), .val (.int p5), .val (.int (5 : Int32)), .val (.int v0), .val (.int v1), .val (.int v2), .val (.ref b37), .unset, .unset] [(.ref b37)])) _ _ _
      refine own_go (fun t k => XS.iconst X37.here hx rfl (hb hby at_67) k) ?_
      show own_End p e below s (T37.setTop (mkF m 68 #[.val (.int p0), .val (.int p1), .val (.int p2), .val (.int p3), .val (.int p4), .val (.int p5), .val (.int (5 : Int32)), .val (.int v0), .val (.int v1), .val (.int v2), .val (.ref b37), .unset, .unset] [(.int (0 : Int32)), (.ref b37)])) _ _ _
      refine own_go (fun t k => XS.iload X37.here hx rfl (hb hby at_68) rfl k) ?_
      show own_End p e below s (T37.setTop (mkF m 70 #[.val (.int p0), .val (.int p1), .val (.int p2), .val (.int p3), .val (.int p4), .val (.int p5), .val (.int (5 : Int32)), .val (.int v0), .val (.int v1), .val (.int v2), .val (.ref b37), .unset, .unset] [(.int v0), (.int (0 : Int32)), (.ref b37)])) _ _ _
      refine own_go (fun t k => XS.i2b X37.here hx rfl (hb hby at_70) rfl k) ?_
      show own_End p e below s (T37.setTop (mkF m 71 #[.val (.int p0), .val (.int p1), .val (.int p2), .val (.int p3), .val (.int p4), .val (.int p5), .val (.int (5 : Int32)), .val (.int v0), .val (.int v1), .val (.int v2), .val (.ref b37), .unset, .unset] [(.int (v0.toInt8.toInt32)), (.int (0 : Int32)), (.ref b37)])) _ _ _
      obtain ⟨cl38, Ar38, q38, S38, M38, Hh38, G38⟩ := id V_b37
      have hin38 : ¬ ((0 : Int32) < 0 ∨ cl38.slots.size ≤ ((0 : Int32)).toNatClampNeg) := inb_of S38 ⟨by decide, by decide⟩
      obtain ⟨T39, h39, X39, e39, W39, st39⟩ := stB X37 hx hZ e37 Ar38 (j := (0 : Int32)) hin38 (g := (mkF m 71 #[.val (.int p0), .val (.int p1), .val (.int p2), .val (.int p3), .val (.int p4), .val (.int p5), .val (.int (5 : Int32)), .val (.int v0), .val (.int v1), .val (.int v2), .val (.ref b37), .unset, .unset] [(.int (v0.toInt8.toInt32)), (.int (0 : Int32)), (.ref b37)])) rfl rfl (hb hby at_71)
      have V_b37_39 : Arv Z h39 b37 k37 .byte (5 : Int32) [(.int ((v0.toInt8.toInt32).toInt8.toInt32)), (.int (0 : Int32)), (.int (0 : Int32)), (.int (0 : Int32)), (.int (0 : Int32))] (.int (0 : Int32)) := Arv.set Ar38 q38 S38 M38 Hh38 G38 (fits_nar_byte _) W39 0 rfl (Nat.le_of_ble_eq_true rfl)
      have N39 := Fr.snoc X39 N0 g_b37
      have Z39 : n0 ≤ h39.size := Nat.le_trans Z37 (Keep.of_wr W39).1
      refine own_go st39 ?_
      show own_End p e below s (T39.setTop (mkF m 72 #[.val (.int p0), .val (.int p1), .val (.int p2), .val (.int p3), .val (.int p4), .val (.int p5), .val (.int (5 : Int32)), .val (.int v0), .val (.int v1), .val (.int v2), .val (.ref b37), .unset, .unset] [])) _ _ _
      refine own_go (fun t k => XS.iload X39.here hx rfl (hb hby at_72) rfl k) ?_
      show own_End p e below s (T39.setTop (mkF m 74 #[.val (.int p0), .val (.int p1), .val (.int p2), .val (.int p3), .val (.int p4), .val (.int p5), .val (.int (5 : Int32)), .val (.int v0), .val (.int v1), .val (.int v2), .val (.ref b37), .unset, .unset] [(.int (5 : Int32))])) _ _ _
      refine own_go (fun t k => XS.iconst X39.here hx rfl (hb hby at_74) k) ?_
      show own_End p e below s (T39.setTop (mkF m 75 #[.val (.int p0), .val (.int p1), .val (.int p2), .val (.int p3), .val (.int p4), .val (.int p5), .val (.int (5 : Int32)), .val (.int v0), .val (.int v1), .val (.int v2), .val (.ref b37), .unset, .unset] [(.int (1 : Int32)), (.int (5 : Int32))])) _ _ _
      refine own_go (fun t k => XS.icmpNo X39.here hx rfl (hb hby at_75) rfl (own_tlt (x := (1 : Int32)) (y := (5 : Int32)) (i := 1) (j := 5) rfl rfl (by decide)).2.2.2 k) ?_
      show own_End p e below s (T39.setTop (mkF m 78 #[.val (.int p0), .val (.int p1), .val (.int p2), .val (.int p3), .val (.int p4), .val (.int p5), .val (.int (5 : Int32)), .val (.int v0), .val (.int v1), .val (.int v2), .val (.ref b37), .unset, .unset] [])) _ _ _
      refine own_go (fun t k => XS.aload X39.here hx rfl (hb hby at_78) rfl rfl k) ?_
      show own_End p e below s (T39.setTop (mkF m 80 #[.val (.int p0), .val (.int p1), .val (.int p2), .val (.int p3), .val (.int p4), .val (.int p5), .val (.int (5 : Int32)), .val (.int v0), .val (.int v1), .val (.int v2), .val (.ref b37), .unset, .unset] [(.ref b37)])) _ _ _
      refine own_go (fun t k => XS.iconst X39.here hx rfl (hb hby at_80) k) ?_
      show own_End p e below s (T39.setTop (mkF m 81 #[.val (.int p0), .val (.int p1), .val (.int p2), .val (.int p3), .val (.int p4), .val (.int p5), .val (.int (5 : Int32)), .val (.int v0), .val (.int v1), .val (.int v2), .val (.ref b37), .unset, .unset] [(.int (1 : Int32)), (.ref b37)])) _ _ _
      refine own_go (fun t k => XS.iload X39.here hx rfl (hb hby at_81) rfl k) ?_
      show own_End p e below s (T39.setTop (mkF m 83 #[.val (.int p0), .val (.int p1), .val (.int p2), .val (.int p3), .val (.int p4), .val (.int p5), .val (.int (5 : Int32)), .val (.int v0), .val (.int v1), .val (.int v2), .val (.ref b37), .unset, .unset] [(.int v1), (.int (1 : Int32)), (.ref b37)])) _ _ _
      refine own_go (fun t k => XS.i2b X39.here hx rfl (hb hby at_83) rfl k) ?_
      show own_End p e below s (T39.setTop (mkF m 84 #[.val (.int p0), .val (.int p1), .val (.int p2), .val (.int p3), .val (.int p4), .val (.int p5), .val (.int (5 : Int32)), .val (.int v0), .val (.int v1), .val (.int v2), .val (.ref b37), .unset, .unset] [(.int (v1.toInt8.toInt32)), (.int (1 : Int32)), (.ref b37)])) _ _ _
      obtain ⟨cl40, Ar40, q40, S40, M40, Hh40, G40⟩ := id V_b37_39
      have hin40 : ¬ ((1 : Int32) < 0 ∨ cl40.slots.size ≤ ((1 : Int32)).toNatClampNeg) := inb_of S40 ⟨by decide, by decide⟩
      obtain ⟨T41, h41, X41, e41, W41, st41⟩ := stB X39 hx hZ e39 Ar40 (j := (1 : Int32)) hin40 (g := (mkF m 84 #[.val (.int p0), .val (.int p1), .val (.int p2), .val (.int p3), .val (.int p4), .val (.int p5), .val (.int (5 : Int32)), .val (.int v0), .val (.int v1), .val (.int v2), .val (.ref b37), .unset, .unset] [(.int (v1.toInt8.toInt32)), (.int (1 : Int32)), (.ref b37)])) rfl rfl (hb hby at_84)
      have V_b37_41 : Arv Z h41 b37 k37 .byte (5 : Int32) [(.int ((v0.toInt8.toInt32).toInt8.toInt32)), (.int ((v1.toInt8.toInt32).toInt8.toInt32)), (.int (0 : Int32)), (.int (0 : Int32)), (.int (0 : Int32))] (.int (0 : Int32)) := Arv.set Ar40 q40 S40 M40 Hh40 G40 (fits_nar_byte _) W41 1 rfl (Nat.le_of_ble_eq_true rfl)
      have N41 := Fr.snoc X41 N39 g_b37
      have Z41 : n0 ≤ h41.size := Nat.le_trans Z39 (Keep.of_wr W41).1
      refine own_go st41 ?_
      show own_End p e below s (T41.setTop (mkF m 85 #[.val (.int p0), .val (.int p1), .val (.int p2), .val (.int p3), .val (.int p4), .val (.int p5), .val (.int (5 : Int32)), .val (.int v0), .val (.int v1), .val (.int v2), .val (.ref b37), .unset, .unset] [])) _ _ _
      refine own_go (fun t k => XS.iload X41.here hx rfl (hb hby at_85) rfl k) ?_
      show own_End p e below s (T41.setTop (mkF m 87 #[.val (.int p0), .val (.int p1), .val (.int p2), .val (.int p3), .val (.int p4), .val (.int p5), .val (.int (5 : Int32)), .val (.int v0), .val (.int v1), .val (.int v2), .val (.ref b37), .unset, .unset] [(.int (5 : Int32))])) _ _ _
      refine own_go (fun t k => XS.iconst X41.here hx rfl (hb hby at_87) k) ?_
      show own_End p e below s (T41.setTop (mkF m 88 #[.val (.int p0), .val (.int p1), .val (.int p2), .val (.int p3), .val (.int p4), .val (.int p5), .val (.int (5 : Int32)), .val (.int v0), .val (.int v1), .val (.int v2), .val (.ref b37), .unset, .unset] [(.int (2 : Int32)), (.int (5 : Int32))])) _ _ _
      refine own_go (fun t k => XS.icmpNo X41.here hx rfl (hb hby at_88) rfl (own_tlt (x := (2 : Int32)) (y := (5 : Int32)) (i := 2) (j := 5) rfl rfl (by decide)).2.2.2 k) ?_
      show own_End p e below s (T41.setTop (mkF m 91 #[.val (.int p0), .val (.int p1), .val (.int p2), .val (.int p3), .val (.int p4), .val (.int p5), .val (.int (5 : Int32)), .val (.int v0), .val (.int v1), .val (.int v2), .val (.ref b37), .unset, .unset] [])) _ _ _
      refine own_go (fun t k => XS.aload X41.here hx rfl (hb hby at_91) rfl rfl k) ?_
      show own_End p e below s (T41.setTop (mkF m 93 #[.val (.int p0), .val (.int p1), .val (.int p2), .val (.int p3), .val (.int p4), .val (.int p5), .val (.int (5 : Int32)), .val (.int v0), .val (.int v1), .val (.int v2), .val (.ref b37), .unset, .unset] [(.ref b37)])) _ _ _
      refine own_go (fun t k => XS.iconst X41.here hx rfl (hb hby at_93) k) ?_
      show own_End p e below s (T41.setTop (mkF m 94 #[.val (.int p0), .val (.int p1), .val (.int p2), .val (.int p3), .val (.int p4), .val (.int p5), .val (.int (5 : Int32)), .val (.int v0), .val (.int v1), .val (.int v2), .val (.ref b37), .unset, .unset] [(.int (2 : Int32)), (.ref b37)])) _ _ _
      refine own_go (fun t k => XS.iload X41.here hx rfl (hb hby at_94) rfl k) ?_
      show own_End p e below s (T41.setTop (mkF m 96 #[.val (.int p0), .val (.int p1), .val (.int p2), .val (.int p3), .val (.int p4), .val (.int p5), .val (.int (5 : Int32)), .val (.int v0), .val (.int v1), .val (.int v2), .val (.ref b37), .unset, .unset] [(.int v2), (.int (2 : Int32)), (.ref b37)])) _ _ _
      refine own_go (fun t k => XS.i2b X41.here hx rfl (hb hby at_96) rfl k) ?_
      show own_End p e below s (T41.setTop (mkF m 97 #[.val (.int p0), .val (.int p1), .val (.int p2), .val (.int p3), .val (.int p4), .val (.int p5), .val (.int (5 : Int32)), .val (.int v0), .val (.int v1), .val (.int v2), .val (.ref b37), .unset, .unset] [(.int (v2.toInt8.toInt32)), (.int (2 : Int32)), (.ref b37)])) _ _ _
      obtain ⟨cl42, Ar42, q42, S42, M42, Hh42, G42⟩ := id V_b37_41
      have hin42 : ¬ ((2 : Int32) < 0 ∨ cl42.slots.size ≤ ((2 : Int32)).toNatClampNeg) := inb_of S42 ⟨by decide, by decide⟩
      obtain ⟨T43, h43, X43, e43, W43, st43⟩ := stB X41 hx hZ e41 Ar42 (j := (2 : Int32)) hin42 (g := (mkF m 97 #[.val (.int p0), .val (.int p1), .val (.int p2), .val (.int p3), .val (.int p4), .val (.int p5), .val (.int (5 : Int32)), .val (.int v0), .val (.int v1), .val (.int v2), .val (.ref b37), .unset, .unset] [(.int (v2.toInt8.toInt32)), (.int (2 : Int32)), (.ref b37)])) rfl rfl (hb hby at_97)
      have V_b37_43 : Arv Z h43 b37 k37 .byte (5 : Int32) [(.int ((v0.toInt8.toInt32).toInt8.toInt32)), (.int ((v1.toInt8.toInt32).toInt8.toInt32)), (.int ((v2.toInt8.toInt32).toInt8.toInt32)), (.int (0 : Int32)), (.int (0 : Int32))] (.int (0 : Int32)) := Arv.set Ar42 q42 S42 M42 Hh42 G42 (fits_nar_byte _) W43 2 rfl (Nat.le_of_ble_eq_true rfl)
      have N43 := Fr.snoc X43 N41 g_b37
      have Z43 : n0 ≤ h43.size := Nat.le_trans Z41 (Keep.of_wr W43).1
      refine own_go st43 ?_
      show own_End p e below s (T43.setTop (mkF m 98 #[.val (.int p0), .val (.int p1), .val (.int p2), .val (.int p3), .val (.int p4), .val (.int p5), .val (.int (5 : Int32)), .val (.int v0), .val (.int v1), .val (.int v2), .val (.ref b37), .unset, .unset] [])) _ _ _
      refine own_go (fun t k => XS.iload X43.here hx rfl (hb hby at_98) rfl k) ?_
      show own_End p e below s (T43.setTop (mkF m 100 #[.val (.int p0), .val (.int p1), .val (.int p2), .val (.int p3), .val (.int p4), .val (.int p5), .val (.int (5 : Int32)), .val (.int v0), .val (.int v1), .val (.int v2), .val (.ref b37), .unset, .unset] [(.int (5 : Int32))])) _ _ _
      refine own_go (fun t k => XS.iconst X43.here hx rfl (hb hby at_100) k) ?_
      show own_End p e below s (T43.setTop (mkF m 101 #[.val (.int p0), .val (.int p1), .val (.int p2), .val (.int p3), .val (.int p4), .val (.int p5), .val (.int (5 : Int32)), .val (.int v0), .val (.int v1), .val (.int v2), .val (.ref b37), .unset, .unset] [(.int (3 : Int32)), (.int (5 : Int32))])) _ _ _
      refine own_go (fun t k => XS.icmpNo X43.here hx rfl (hb hby at_101) rfl (own_tlt (x := (3 : Int32)) (y := (5 : Int32)) (i := 3) (j := 5) rfl rfl (by decide)).2.2.2 k) ?_
      show own_End p e below s (T43.setTop (mkF m 104 #[.val (.int p0), .val (.int p1), .val (.int p2), .val (.int p3), .val (.int p4), .val (.int p5), .val (.int (5 : Int32)), .val (.int v0), .val (.int v1), .val (.int v2), .val (.ref b37), .unset, .unset] [])) _ _ _
      refine own_go (fun t k => XS.aload X43.here hx rfl (hb hby at_104) rfl rfl k) ?_
      show own_End p e below s (T43.setTop (mkF m 106 #[.val (.int p0), .val (.int p1), .val (.int p2), .val (.int p3), .val (.int p4), .val (.int p5), .val (.int (5 : Int32)), .val (.int v0), .val (.int v1), .val (.int v2), .val (.ref b37), .unset, .unset] [(.ref b37)])) _ _ _
      refine own_go (fun t k => XS.iconst X43.here hx rfl (hb hby at_106) k) ?_
      show own_End p e below s (T43.setTop (mkF m 107 #[.val (.int p0), .val (.int p1), .val (.int p2), .val (.int p3), .val (.int p4), .val (.int p5), .val (.int (5 : Int32)), .val (.int v0), .val (.int v1), .val (.int v2), .val (.ref b37), .unset, .unset] [(.int (3 : Int32)), (.ref b37)])) _ _ _
      refine own_go (fun t k => XS.iload X43.here hx rfl (hb hby at_107) rfl k) ?_
      show own_End p e below s (T43.setTop (mkF m 109 #[.val (.int p0), .val (.int p1), .val (.int p2), .val (.int p3), .val (.int p4), .val (.int p5), .val (.int (5 : Int32)), .val (.int v0), .val (.int v1), .val (.int v2), .val (.ref b37), .unset, .unset] [(.int p5), (.int (3 : Int32)), (.ref b37)])) _ _ _
      refine own_go (fun t k => XS.i2b X43.here hx rfl (hb hby at_109) rfl k) ?_
      show own_End p e below s (T43.setTop (mkF m 110 #[.val (.int p0), .val (.int p1), .val (.int p2), .val (.int p3), .val (.int p4), .val (.int p5), .val (.int (5 : Int32)), .val (.int v0), .val (.int v1), .val (.int v2), .val (.ref b37), .unset, .unset] [(.int (p5.toInt8.toInt32)), (.int (3 : Int32)), (.ref b37)])) _ _ _
      obtain ⟨cl44, Ar44, q44, S44, M44, Hh44, G44⟩ := id V_b37_43
      have hin44 : ¬ ((3 : Int32) < 0 ∨ cl44.slots.size ≤ ((3 : Int32)).toNatClampNeg) := inb_of S44 ⟨by decide, by decide⟩
      obtain ⟨T45, h45, X45, e45, W45, st45⟩ := stB X43 hx hZ e43 Ar44 (j := (3 : Int32)) hin44 (g := (mkF m 110 #[.val (.int p0), .val (.int p1), .val (.int p2), .val (.int p3), .val (.int p4), .val (.int p5), .val (.int (5 : Int32)), .val (.int v0), .val (.int v1), .val (.int v2), .val (.ref b37), .unset, .unset] [(.int (p5.toInt8.toInt32)), (.int (3 : Int32)), (.ref b37)])) rfl rfl (hb hby at_110)
      have V_b37_45 : Arv Z h45 b37 k37 .byte (5 : Int32) [(.int ((v0.toInt8.toInt32).toInt8.toInt32)), (.int ((v1.toInt8.toInt32).toInt8.toInt32)), (.int ((v2.toInt8.toInt32).toInt8.toInt32)), (.int ((p5.toInt8.toInt32).toInt8.toInt32)), (.int (0 : Int32))] (.int (0 : Int32)) := Arv.set Ar44 q44 S44 M44 Hh44 G44 (fits_nar_byte _) W45 3 rfl (Nat.le_of_ble_eq_true rfl)
      have N45 := Fr.snoc X45 N43 g_b37
      have Z45 : n0 ≤ h45.size := Nat.le_trans Z43 (Keep.of_wr W45).1
      refine own_go st45 ?_
      show own_End p e below s (T45.setTop (mkF m 111 #[.val (.int p0), .val (.int p1), .val (.int p2), .val (.int p3), .val (.int p4), .val (.int p5), .val (.int (5 : Int32)), .val (.int v0), .val (.int v1), .val (.int v2), .val (.ref b37), .unset, .unset] [])) _ _ _
      refine own_go (fun t k => XS.iload X45.here hx rfl (hb hby at_111) rfl k) ?_
      show own_End p e below s (T45.setTop (mkF m 113 #[.val (.int p0), .val (.int p1), .val (.int p2), .val (.int p3), .val (.int p4), .val (.int p5), .val (.int (5 : Int32)), .val (.int v0), .val (.int v1), .val (.int v2), .val (.ref b37), .unset, .unset] [(.int (5 : Int32))])) _ _ _
      refine own_go (fun t k => XS.iconst X45.here hx rfl (hb hby at_113) k) ?_
      show own_End p e below s (T45.setTop (mkF m 114 #[.val (.int p0), .val (.int p1), .val (.int p2), .val (.int p3), .val (.int p4), .val (.int p5), .val (.int (5 : Int32)), .val (.int v0), .val (.int v1), .val (.int v2), .val (.ref b37), .unset, .unset] [(.int (4 : Int32)), (.int (5 : Int32))])) _ _ _
      refine own_go (fun t k => XS.icmpNo X45.here hx rfl (hb hby at_114) rfl (own_tlt (x := (4 : Int32)) (y := (5 : Int32)) (i := 4) (j := 5) rfl rfl (by decide)).2.2.2 k) ?_
      show own_End p e below s (T45.setTop (mkF m 117 #[.val (.int p0), .val (.int p1), .val (.int p2), .val (.int p3), .val (.int p4), .val (.int p5), .val (.int (5 : Int32)), .val (.int v0), .val (.int v1), .val (.int v2), .val (.ref b37), .unset, .unset] [])) _ _ _
      refine own_go (fun t k => XS.aload X45.here hx rfl (hb hby at_117) rfl rfl k) ?_
      show own_End p e below s (T45.setTop (mkF m 119 #[.val (.int p0), .val (.int p1), .val (.int p2), .val (.int p3), .val (.int p4), .val (.int p5), .val (.int (5 : Int32)), .val (.int v0), .val (.int v1), .val (.int v2), .val (.ref b37), .unset, .unset] [(.ref b37)])) _ _ _
      refine own_go (fun t k => XS.iconst X45.here hx rfl (hb hby at_119) k) ?_
      show own_End p e below s (T45.setTop (mkF m 120 #[.val (.int p0), .val (.int p1), .val (.int p2), .val (.int p3), .val (.int p4), .val (.int p5), .val (.int (5 : Int32)), .val (.int v0), .val (.int v1), .val (.int v2), .val (.ref b37), .unset, .unset] [(.int (4 : Int32)), (.ref b37)])) _ _ _
      refine own_go (fun t k => XS.iload X45.here hx rfl (hb hby at_120) rfl k) ?_
      show own_End p e below s (T45.setTop (mkF m 122 #[.val (.int p0), .val (.int p1), .val (.int p2), .val (.int p3), .val (.int p4), .val (.int p5), .val (.int (5 : Int32)), .val (.int v0), .val (.int v1), .val (.int v2), .val (.ref b37), .unset, .unset] [(.int p5), (.int (4 : Int32)), (.ref b37)])) _ _ _
      refine own_go (fun t k => XS.bipush X45.here hx rfl (hb hby at_122) k) ?_
      show own_End p e below s (T45.setTop (mkF m 124 #[.val (.int p0), .val (.int p1), .val (.int p2), .val (.int p3), .val (.int p4), .val (.int p5), .val (.int (5 : Int32)), .val (.int v0), .val (.int v1), .val (.int v2), .val (.ref b37), .unset, .unset] [(.int (8 : Int32)), (.int p5), (.int (4 : Int32)), (.ref b37)])) _ _ _
      refine own_go (fun t k => XS.ishr X45.here hx rfl (hb hby at_124) rfl k) ?_
      show own_End p e below s (T45.setTop (mkF m 125 #[.val (.int p0), .val (.int p1), .val (.int p2), .val (.int p3), .val (.int p4), .val (.int p5), .val (.int (5 : Int32)), .val (.int v0), .val (.int v1), .val (.int v2), .val (.ref b37), .unset, .unset] [(.int (p5 >>> ((8 : Int32) &&& 31))), (.int (4 : Int32)), (.ref b37)])) _ _ _
      refine own_go (fun t k => XS.i2b X45.here hx rfl (hb hby at_125) rfl k) ?_
      show own_End p e below s (T45.setTop (mkF m 126 #[.val (.int p0), .val (.int p1), .val (.int p2), .val (.int p3), .val (.int p4), .val (.int p5), .val (.int (5 : Int32)), .val (.int v0), .val (.int v1), .val (.int v2), .val (.ref b37), .unset, .unset] [(.int ((p5 >>> ((8 : Int32) &&& 31)).toInt8.toInt32)), (.int (4 : Int32)), (.ref b37)])) _ _ _
      obtain ⟨cl46, Ar46, q46, S46, M46, Hh46, G46⟩ := id V_b37_45
      have hin46 : ¬ ((4 : Int32) < 0 ∨ cl46.slots.size ≤ ((4 : Int32)).toNatClampNeg) := inb_of S46 ⟨by decide, by decide⟩
      obtain ⟨T47, h47, X47, e47, W47, st47⟩ := stB X45 hx hZ e45 Ar46 (j := (4 : Int32)) hin46 (g := (mkF m 126 #[.val (.int p0), .val (.int p1), .val (.int p2), .val (.int p3), .val (.int p4), .val (.int p5), .val (.int (5 : Int32)), .val (.int v0), .val (.int v1), .val (.int v2), .val (.ref b37), .unset, .unset] [(.int ((p5 >>> ((8 : Int32) &&& 31)).toInt8.toInt32)), (.int (4 : Int32)), (.ref b37)])) rfl rfl (hb hby at_126)
      have V_b37_47 : Arv Z h47 b37 k37 .byte (5 : Int32) [(.int ((v0.toInt8.toInt32).toInt8.toInt32)), (.int ((v1.toInt8.toInt32).toInt8.toInt32)), (.int ((v2.toInt8.toInt32).toInt8.toInt32)), (.int ((p5.toInt8.toInt32).toInt8.toInt32)), (.int (((p5 >>> ((8 : Int32) &&& 31)).toInt8.toInt32).toInt8.toInt32))] (.int (0 : Int32)) := Arv.set Ar46 q46 S46 M46 Hh46 G46 (fits_nar_byte _) W47 4 rfl (Nat.le_of_ble_eq_true rfl)
      have N47 := Fr.snoc X47 N45 g_b37
      have Z47 : n0 ≤ h47.size := Nat.le_trans Z45 (Keep.of_wr W47).1
      refine own_go st47 ?_
      show own_End p e below s (T47.setTop (mkF m 127 #[.val (.int p0), .val (.int p1), .val (.int p2), .val (.int p3), .val (.int p4), .val (.int p5), .val (.int (5 : Int32)), .val (.int v0), .val (.int v1), .val (.int v2), .val (.ref b37), .unset, .unset] [])) _ _ _
      refine own_go (fun t k => XS.iload X47.here hx rfl (hb hby at_127) rfl k) ?_
      show own_End p e below s (T47.setTop (mkF m 129 #[.val (.int p0), .val (.int p1), .val (.int p2), .val (.int p3), .val (.int p4), .val (.int p5), .val (.int (5 : Int32)), .val (.int v0), .val (.int v1), .val (.int v2), .val (.ref b37), .unset, .unset] [(.int (5 : Int32))])) _ _ _
      refine own_go (fun t k => XS.iconst X47.here hx rfl (hb hby at_129) k) ?_
      show own_End p e below s (T47.setTop (mkF m 130 #[.val (.int p0), .val (.int p1), .val (.int p2), .val (.int p3), .val (.int p4), .val (.int p5), .val (.int (5 : Int32)), .val (.int v0), .val (.int v1), .val (.int v2), .val (.ref b37), .unset, .unset] [(.int (5 : Int32)), (.int (5 : Int32))])) _ _ _
      refine own_go (fun t k => XS.icmpYes X47.here hx rfl (pc0 := 130) (pc' := 143) rfl (hb hby at_130) rfl (own_flt (x := (5 : Int32)) (y := (5 : Int32)) (i := 5) (j := 5) rfl rfl (by decide)).2.2.2 (by decide) (by decide) k) ?_
      show own_End p e below s (T47.setTop (mkF m 143 #[.val (.int p0), .val (.int p1), .val (.int p2), .val (.int p3), .val (.int p4), .val (.int p5), .val (.int (5 : Int32)), .val (.int v0), .val (.int v1), .val (.int v2), .val (.ref b37), .unset, .unset] [])) _ _ _
      refine own_go (fun t k => XS.iload X47.here hx rfl (hb hby at_143) rfl k) ?_
      show own_End p e below s (T47.setTop (mkF m 145 #[.val (.int p0), .val (.int p1), .val (.int p2), .val (.int p3), .val (.int p4), .val (.int p5), .val (.int (5 : Int32)), .val (.int v0), .val (.int v1), .val (.int v2), .val (.ref b37), .unset, .unset] [(.int (5 : Int32))])) _ _ _
      refine own_go (fun t k => XS.bipush X47.here hx rfl (hb hby at_145) k) ?_
      show own_End p e below s (T47.setTop (mkF m 147 #[.val (.int p0), .val (.int p1), .val (.int p2), .val (.int p3), .val (.int p4), .val (.int p5), .val (.int (5 : Int32)), .val (.int v0), .val (.int v1), .val (.int v2), .val (.ref b37), .unset, .unset] [(.int (6 : Int32)), (.int (5 : Int32))])) _ _ _
      refine own_go (fun t k => XS.icmpYes X47.here hx rfl (pc0 := 147) (pc' := 161) rfl (hb hby at_147) rfl (own_flt (x := (6 : Int32)) (y := (5 : Int32)) (i := 6) (j := 5) rfl rfl (by decide)).2.2.2 (by decide) (by decide) k) ?_
      show own_End p e below s (T47.setTop (mkF m 161 #[.val (.int p0), .val (.int p1), .val (.int p2), .val (.int p3), .val (.int p4), .val (.int p5), .val (.int (5 : Int32)), .val (.int v0), .val (.int v1), .val (.int v2), .val (.ref b37), .unset, .unset] [])) _ _ _
      refine own_go (fun t k => XS.iconst X47.here hx rfl (hb hby at_161) k) ?_
      show own_End p e below s (T47.setTop (mkF m 162 #[.val (.int p0), .val (.int p1), .val (.int p2), .val (.int p3), .val (.int p4), .val (.int p5), .val (.int (5 : Int32)), .val (.int v0), .val (.int v1), .val (.int v2), .val (.ref b37), .unset, .unset] [(.int (0 : Int32))])) _ _ _
      refine own_go (fun t k => XS.istore X47.here hx rfl (hb hby at_162) rfl (l' := #[.val (.int p0), .val (.int p1), .val (.int p2), .val (.int p3), .val (.int p4), .val (.int p5), .val (.int (5 : Int32)), .val (.int v0), .val (.int v1), .val (.int v2), .val (.ref b37), .val (.int (0 : Int32)), .unset]) rfl k) ?_
      show own_End p e below s (T47.setTop (mkF m 164 #[.val (.int p0), .val (.int p1), .val (.int p2), .val (.int p3), .val (.int p4), .val (.int p5), .val (.int (5 : Int32)), .val (.int v0), .val (.int v1), .val (.int v2), .val (.ref b37), .val (.int (0 : Int32)), .unset] [])) _ _ _
      refine own_go (fun t k => XS.iload X47.here hx rfl (hb hby at_164) rfl k) ?_
      show own_End p e below s (T47.setTop (mkF m 166 #[.val (.int p0), .val (.int p1), .val (.int p2), .val (.int p3), .val (.int p4), .val (.int p5), .val (.int (5 : Int32)), .val (.int v0), .val (.int v1), .val (.int v2), .val (.ref b37), .val (.int (0 : Int32)), .unset] [(.int (5 : Int32))])) _ _ _
      refine own_go (fun t k => XS.iconst X47.here hx rfl (hb hby at_166) k) ?_
      show own_End p e below s (T47.setTop (mkF m 167 #[.val (.int p0), .val (.int p1), .val (.int p2), .val (.int p3), .val (.int p4), .val (.int p5), .val (.int (5 : Int32)), .val (.int v0), .val (.int v1), .val (.int v2), .val (.ref b37), .val (.int (0 : Int32)), .unset] [(.int (3 : Int32)), (.int (5 : Int32))])) _ _ _
      refine own_go (fun t k => XS.icmpNo X47.here hx rfl (hb hby at_167) rfl (own_flt (x := (5 : Int32)) (y := (3 : Int32)) (i := 5) (j := 3) rfl rfl (by decide)).1 k) ?_
      show own_End p e below s (T47.setTop (mkF m 170 #[.val (.int p0), .val (.int p1), .val (.int p2), .val (.int p3), .val (.int p4), .val (.int p5), .val (.int (5 : Int32)), .val (.int v0), .val (.int v1), .val (.int v2), .val (.ref b37), .val (.int (0 : Int32)), .unset] [])) _ _ _
      have m0 : (v0 &&& (255 : Int32)).toInt = v0.toInt % 256 := c_mask v0 (255 : Int32) 8 (by decide) (by decide)
      have m1 : (v1 &&& (255 : Int32)).toInt = v1.toInt % 256 := c_mask v1 (255 : Int32) 8 (by decide) (by decide)
      have m2 : (v2 &&& (255 : Int32)).toInt = v2.toInt % 256 := c_mask v2 (255 : Int32) 8 (by decide) (by decide)
      have li3 : (3 : Int32).toInt = 3 := rfl
      have J209_5 : ∀ (ex : Int32) (hex : ex.toInt = 3 ∧ (v0.toInt % 256 = 239 ∧ v1.toInt % 256 = 187 ∧ v2.toInt % 256 = 191) ∨ ex.toInt = 0 ∧ ¬ (v0.toInt % 256 = 239 ∧ v1.toInt % 256 = 187 ∧ v2.toInt % 256 = 191)), own_End p e below s (T47.setTop (mkF m 209 #[.val (.int p0), .val (.int p1), .val (.int p2), .val (.int p3), .val (.int p4), .val (.int p5), .val (.int (5 : Int32)), .val (.int v0), .val (.int v1), .val (.int v2), .val (.ref b37), .val (.int ex), .unset] [])) (Q_rm0 Z p0 p1 p2 p3 p4 p5  h0 n0) room_1.cells room_1.slots := by
        intro ex hex
        show own_End p e below s (T47.setTop (mkF m 209 #[.val (.int p0), .val (.int p1), .val (.int p2), .val (.int p3), .val (.int p4), .val (.int p5), .val (.int (5 : Int32)), .val (.int v0), .val (.int v1), .val (.int v2), .val (.ref b37), .val (.int ex), .unset] [])) _ _ _
        refine own_go (fun t k => XS.aload X47.here hx rfl (hb hby at_209) rfl rfl k) ?_
        show own_End p e below s (T47.setTop (mkF m 211 #[.val (.int p0), .val (.int p1), .val (.int p2), .val (.int p3), .val (.int p4), .val (.int p5), .val (.int (5 : Int32)), .val (.int v0), .val (.int v1), .val (.int v2), .val (.ref b37), .val (.int ex), .unset] [(.ref b37)])) _ _ _
        obtain ⟨_, _, ⟨T48, L48, k48, n48⟩, -, X48, ⟨Lc48, hQ48, l48, y48, z48⟩, st48⟩ := Jvm.LawKit.callS X47 hx (y := (⟨"com/example/settings_by_rank/settingsbyrank/core/source/FileFormat", "byteOrderMarkLength", "([B)I"⟩ : MethodName)) hown (mvT hZ (hw _ (List.mem_of_getElem? (i := 1) rfl))) (mvT hZ (hw _ (List.mem_of_getElem? (i := 2) rfl))) (mvT hZ (hw _ (List.mem_of_getElem? (i := 3) rfl))) (mvT hZ (hw _ (List.mem_of_getElem? (i := 4) rfl))) (by decide) (backOf (W := 0) (rm2 l Z a0 hw [] b37 k37 (5 : Int32) [(.int ((v0.toInt8.toInt32).toInt8.toInt32)), (.int ((v1.toInt8.toInt32).toInt8.toInt32)), (.int ((v2.toInt8.toInt32).toInt8.toInt32)), (.int ((p5.toInt8.toInt32).toInt8.toInt32)), (.int (((p5 >>> ((8 : Int32) &&& 31)).toInt8.toInt32).toInt8.toInt32))] ((v0.toInt8.toInt32).toInt8.toInt32) ((v1.toInt8.toInt32).toInt8.toInt32) ((v2.toInt8.toInt32).toInt8.toInt32) h47 n0 Z47 V_b37_47 (by decide) rfl rfl rfl) hZ (hw _ (List.mem_of_getElem? (i := 4) rfl)) (hw _ (List.mem_of_getElem? (i := 3) rfl)) (by decide) (by decide)) (g := (mkF m 211 #[.val (.int p0), .val (.int p1), .val (.int p2), .val (.int p3), .val (.int p4), .val (.int p5), .val (.int (5 : Int32)), .val (.int v0), .val (.int v1), .val (.int v2), .val (.ref b37), .val (.int ex), .unset] [(.ref b37)])) rfl (by rw [hml]; rfl) (argsL := [(.ref b37)]) (rest := []) (lenOf own_pd0 rfl) rfl (by show 2 * 0 + _ ≤ _; exact Nat.le_of_eq rfl) (hb hby at_211) (fun _ _ => ⟨rfl, e47, (by decide : 1 + 0 ≤ _), (by decide : 5 + 0 ≤ _)⟩)
        dsimp only [Pt.U, Pt.locs, Pt.cells, Pt.slots] at X48 l48 y48 z48 st48 hQ48
        subst l48 y48 z48
        obtain ⟨⟨r48, rfl, hr48⟩, N48q, e48⟩ := hQ48
        have N48 := Fr.app N47 N48q
        refine own_go st48 ?_
        show own_End p e below s (T48.setTop (mkF m 214 #[.val (.int p0), .val (.int p1), .val (.int p2), .val (.int p3), .val (.int p4), .val (.int p5), .val (.int (5 : Int32)), .val (.int v0), .val (.int v1), .val (.int v2), .val (.ref b37), .val (.int ex), .unset] [(.int r48)])) _ _ _
        have b0 := c_i2b v0
        have bb0 := c_i2b v0.toInt8.toInt32
        have b1 := c_i2b v1
        have bb1 := c_i2b v1.toInt8.toInt32
        have b2 := c_i2b v2
        have bb2 := c_i2b v2.toInt8.toInt32
        refine own_go (fun t k => XS.istore X48.here hx rfl (hb hby at_214) rfl (l' := #[.val (.int p0), .val (.int p1), .val (.int p2), .val (.int p3), .val (.int p4), .val (.int p5), .val (.int (5 : Int32)), .val (.int v0), .val (.int v1), .val (.int v2), .val (.ref b37), .val (.int ex), .val (.int r48)]) rfl k) ?_
        show own_End p e below s (T48.setTop (mkF m 216 #[.val (.int p0), .val (.int p1), .val (.int p2), .val (.int p3), .val (.int p4), .val (.int p5), .val (.int (5 : Int32)), .val (.int v0), .val (.int v1), .val (.int v2), .val (.ref b37), .val (.int ex), .val (.int r48)] [])) _ _ _
        refine own_go (fun t k => XS.iload X48.here hx rfl (hb hby at_216) rfl k) ?_
        show own_End p e below s (T48.setTop (mkF m 218 #[.val (.int p0), .val (.int p1), .val (.int p2), .val (.int p3), .val (.int p4), .val (.int p5), .val (.int (5 : Int32)), .val (.int v0), .val (.int v1), .val (.int v2), .val (.ref b37), .val (.int ex), .val (.int r48)] [(.int r48)])) _ _ _
        refine own_go (fun t k => XS.iload X48.here hx rfl (hb hby at_218) rfl k) ?_
        show own_End p e below s (T48.setTop (mkF m 220 #[.val (.int p0), .val (.int p1), .val (.int p2), .val (.int p3), .val (.int p4), .val (.int p5), .val (.int (5 : Int32)), .val (.int v0), .val (.int v1), .val (.int v2), .val (.ref b37), .val (.int ex), .val (.int r48)] [(.int ex), (.int r48)])) _ _ _
        refine own_go (fun t k => XS.icmpNo X48.here hx rfl (hb hby at_220) rfl (own_eq (x := r48) (y := ex) (i := r48.toInt) (j := ex.toInt) rfl rfl (by omega)).2 k) ?_
        show own_End p e below s (T48.setTop (mkF m 223 #[.val (.int p0), .val (.int p1), .val (.int p2), .val (.int p3), .val (.int p4), .val (.int p5), .val (.int (5 : Int32)), .val (.int v0), .val (.int v1), .val (.int v2), .val (.ref b37), .val (.int ex), .val (.int r48)] [])) _ _ _
        refine own_go (fun t k => XS.iconst X48.here hx rfl (hb hby at_223) k) ?_
        show own_End p e below s (T48.setTop (mkF m 224 #[.val (.int p0), .val (.int p1), .val (.int p2), .val (.int p3), .val (.int p4), .val (.int p5), .val (.int (5 : Int32)), .val (.int v0), .val (.int v1), .val (.int v2), .val (.ref b37), .val (.int ex), .val (.int r48)] [(.int (1 : Int32))])) _ _ _
        refine own_go (fun t k => XS.goto X48.here hx rfl (pc0 := 224) (pc' := 228) rfl (hb hby at_224) (by decide) (by decide) k) ?_
        show own_End p e below s (T48.setTop (mkF m 228 #[.val (.int p0), .val (.int p1), .val (.int p2), .val (.int p3), .val (.int p4), .val (.int p5), .val (.int (5 : Int32)), .val (.int v0), .val (.int v1), .val (.int v2), .val (.ref b37), .val (.int ex), .val (.int r48)] [(.int (1 : Int32))])) _ _ _
        refine own_ret X48 (v := some (.int (1 : Int32))) (fun h => by rw [Bd.returns] at h; cases h) Bd.notSynchronized (fun fs hr => retN X48 hx (t := .boolean) Bd.returns (by simp) (hb hby at_228) hr) ?_ (by decide) (by decide)
        · exact ⟨rfl, N48⟩
      refine own_go (fun t k => XS.iload X47.here hx rfl (hb hby at_170) rfl k) ?_
      show own_End p e below s (T47.setTop (mkF m 172 #[.val (.int p0), .val (.int p1), .val (.int p2), .val (.int p3), .val (.int p4), .val (.int p5), .val (.int (5 : Int32)), .val (.int v0), .val (.int v1), .val (.int v2), .val (.ref b37), .val (.int (0 : Int32)), .unset] [(.int v0)])) _ _ _
      refine own_go (fun t k => XS.sipush X47.here hx rfl (hb hby at_172) k) ?_
      show own_End p e below s (T47.setTop (mkF m 175 #[.val (.int p0), .val (.int p1), .val (.int p2), .val (.int p3), .val (.int p4), .val (.int p5), .val (.int (5 : Int32)), .val (.int v0), .val (.int v1), .val (.int v2), .val (.ref b37), .val (.int (0 : Int32)), .unset] [(.int (255 : Int32)), (.int v0)])) _ _ _
      refine own_go (fun t k => XS.iand X47.here hx rfl (hb hby at_175) rfl k) ?_
      show own_End p e below s (T47.setTop (mkF m 176 #[.val (.int p0), .val (.int p1), .val (.int p2), .val (.int p3), .val (.int p4), .val (.int p5), .val (.int (5 : Int32)), .val (.int v0), .val (.int v1), .val (.int v2), .val (.ref b37), .val (.int (0 : Int32)), .unset] [(.int (v0 &&& (255 : Int32)))])) _ _ _
      refine own_go (fun t k => XS.sipush X47.here hx rfl (hb hby at_176) k) ?_
      show own_End p e below s (T47.setTop (mkF m 179 #[.val (.int p0), .val (.int p1), .val (.int p2), .val (.int p3), .val (.int p4), .val (.int p5), .val (.int (5 : Int32)), .val (.int v0), .val (.int v1), .val (.int v2), .val (.ref b37), .val (.int (0 : Int32)), .unset] [(.int (239 : Int32)), (.int (v0 &&& (255 : Int32)))])) _ _ _
      by_cases c179_49 : (v0 &&& (255 : Int32)).toInt = 239
      · skip
        refine own_go (fun t k => XS.icmpNo X47.here hx rfl (hb hby at_179) rfl (own_eq (x := (v0 &&& (255 : Int32))) (y := (239 : Int32)) (i := (v0 &&& (255 : Int32)).toInt) (j := 239) rfl rfl c179_49).2 k) ?_
        show own_End p e below s (T47.setTop (mkF m 182 #[.val (.int p0), .val (.int p1), .val (.int p2), .val (.int p3), .val (.int p4), .val (.int p5), .val (.int (5 : Int32)), .val (.int v0), .val (.int v1), .val (.int v2), .val (.ref b37), .val (.int (0 : Int32)), .unset] [])) _ _ _
        refine own_go (fun t k => XS.iload X47.here hx rfl (hb hby at_182) rfl k) ?_
        show own_End p e below s (T47.setTop (mkF m 184 #[.val (.int p0), .val (.int p1), .val (.int p2), .val (.int p3), .val (.int p4), .val (.int p5), .val (.int (5 : Int32)), .val (.int v0), .val (.int v1), .val (.int v2), .val (.ref b37), .val (.int (0 : Int32)), .unset] [(.int v1)])) _ _ _
        refine own_go (fun t k => XS.sipush X47.here hx rfl (hb hby at_184) k) ?_
        show own_End p e below s (T47.setTop (mkF m 187 #[.val (.int p0), .val (.int p1), .val (.int p2), .val (.int p3), .val (.int p4), .val (.int p5), .val (.int (5 : Int32)), .val (.int v0), .val (.int v1), .val (.int v2), .val (.ref b37), .val (.int (0 : Int32)), .unset] [(.int (255 : Int32)), (.int v1)])) _ _ _
        refine own_go (fun t k => XS.iand X47.here hx rfl (hb hby at_187) rfl k) ?_
        show own_End p e below s (T47.setTop (mkF m 188 #[.val (.int p0), .val (.int p1), .val (.int p2), .val (.int p3), .val (.int p4), .val (.int p5), .val (.int (5 : Int32)), .val (.int v0), .val (.int v1), .val (.int v2), .val (.ref b37), .val (.int (0 : Int32)), .unset] [(.int (v1 &&& (255 : Int32)))])) _ _ _
        refine own_go (fun t k => XS.sipush X47.here hx rfl (hb hby at_188) k) ?_
        show own_End p e below s (T47.setTop (mkF m 191 #[.val (.int p0), .val (.int p1), .val (.int p2), .val (.int p3), .val (.int p4), .val (.int p5), .val (.int (5 : Int32)), .val (.int v0), .val (.int v1), .val (.int v2), .val (.ref b37), .val (.int (0 : Int32)), .unset] [(.int (187 : Int32)), (.int (v1 &&& (255 : Int32)))])) _ _ _
        by_cases c191_50 : (v1 &&& (255 : Int32)).toInt = 187
        · skip
          refine own_go (fun t k => XS.icmpNo X47.here hx rfl (hb hby at_191) rfl (own_eq (x := (v1 &&& (255 : Int32))) (y := (187 : Int32)) (i := (v1 &&& (255 : Int32)).toInt) (j := 187) rfl rfl c191_50).2 k) ?_
          show own_End p e below s (T47.setTop (mkF m 194 #[.val (.int p0), .val (.int p1), .val (.int p2), .val (.int p3), .val (.int p4), .val (.int p5), .val (.int (5 : Int32)), .val (.int v0), .val (.int v1), .val (.int v2), .val (.ref b37), .val (.int (0 : Int32)), .unset] [])) _ _ _
          refine own_go (fun t k => XS.iload X47.here hx rfl (hb hby at_194) rfl k) ?_
          show own_End p e below s (T47.setTop (mkF m 196 #[.val (.int p0), .val (.int p1), .val (.int p2), .val (.int p3), .val (.int p4), .val (.int p5), .val (.int (5 : Int32)), .val (.int v0), .val (.int v1), .val (.int v2), .val (.ref b37), .val (.int (0 : Int32)), .unset] [(.int v2)])) _ _ _
          refine own_go (fun t k => XS.sipush X47.here hx rfl (hb hby at_196) k) ?_
          show own_End p e below s (T47.setTop (mkF m 199 #[.val (.int p0), .val (.int p1), .val (.int p2), .val (.int p3), .val (.int p4), .val (.int p5), .val (.int (5 : Int32)), .val (.int v0), .val (.int v1), .val (.int v2), .val (.ref b37), .val (.int (0 : Int32)), .unset] [(.int (255 : Int32)), (.int v2)])) _ _ _
          refine own_go (fun t k => XS.iand X47.here hx rfl (hb hby at_199) rfl k) ?_
          show own_End p e below s (T47.setTop (mkF m 200 #[.val (.int p0), .val (.int p1), .val (.int p2), .val (.int p3), .val (.int p4), .val (.int p5), .val (.int (5 : Int32)), .val (.int v0), .val (.int v1), .val (.int v2), .val (.ref b37), .val (.int (0 : Int32)), .unset] [(.int (v2 &&& (255 : Int32)))])) _ _ _
          refine own_go (fun t k => XS.sipush X47.here hx rfl (hb hby at_200) k) ?_
          show own_End p e below s (T47.setTop (mkF m 203 #[.val (.int p0), .val (.int p1), .val (.int p2), .val (.int p3), .val (.int p4), .val (.int p5), .val (.int (5 : Int32)), .val (.int v0), .val (.int v1), .val (.int v2), .val (.ref b37), .val (.int (0 : Int32)), .unset] [(.int (191 : Int32)), (.int (v2 &&& (255 : Int32)))])) _ _ _
          by_cases c203_51 : (v2 &&& (255 : Int32)).toInt = 191
          · skip
            refine own_go (fun t k => XS.icmpNo X47.here hx rfl (hb hby at_203) rfl (own_eq (x := (v2 &&& (255 : Int32))) (y := (191 : Int32)) (i := (v2 &&& (255 : Int32)).toInt) (j := 191) rfl rfl c203_51).2 k) ?_
            show own_End p e below s (T47.setTop (mkF m 206 #[.val (.int p0), .val (.int p1), .val (.int p2), .val (.int p3), .val (.int p4), .val (.int p5), .val (.int (5 : Int32)), .val (.int v0), .val (.int v1), .val (.int v2), .val (.ref b37), .val (.int (0 : Int32)), .unset] [])) _ _ _
            refine own_go (fun t k => XS.iconst X47.here hx rfl (hb hby at_206) k) ?_
            show own_End p e below s (T47.setTop (mkF m 207 #[.val (.int p0), .val (.int p1), .val (.int p2), .val (.int p3), .val (.int p4), .val (.int p5), .val (.int (5 : Int32)), .val (.int v0), .val (.int v1), .val (.int v2), .val (.ref b37), .val (.int (0 : Int32)), .unset] [(.int (3 : Int32))])) _ _ _
            refine own_go (fun t k => XS.istore X47.here hx rfl (hb hby at_207) rfl (l' := #[.val (.int p0), .val (.int p1), .val (.int p2), .val (.int p3), .val (.int p4), .val (.int p5), .val (.int (5 : Int32)), .val (.int v0), .val (.int v1), .val (.int v2), .val (.ref b37), .val (.int (3 : Int32)), .unset]) rfl k) ?_
            show own_End p e below s (T47.setTop (mkF m 209 #[.val (.int p0), .val (.int p1), .val (.int p2), .val (.int p3), .val (.int p4), .val (.int p5), .val (.int (5 : Int32)), .val (.int v0), .val (.int v1), .val (.int v2), .val (.ref b37), .val (.int (3 : Int32)), .unset] [])) _ _ _
            exact J209_5 _ (by omega)
          · skip
            refine own_go (fun t k => XS.icmpYes X47.here hx rfl (pc0 := 203) (pc' := 209) rfl (hb hby at_203) rfl (own_ne (x := (v2 &&& (255 : Int32))) (y := (191 : Int32)) (i := (v2 &&& (255 : Int32)).toInt) (j := 191) rfl rfl c203_51).2 (by decide) (by decide) k) ?_
            show own_End p e below s (T47.setTop (mkF m 209 #[.val (.int p0), .val (.int p1), .val (.int p2), .val (.int p3), .val (.int p4), .val (.int p5), .val (.int (5 : Int32)), .val (.int v0), .val (.int v1), .val (.int v2), .val (.ref b37), .val (.int (0 : Int32)), .unset] [])) _ _ _
            exact J209_5 _ (by omega)
        · skip
          refine own_go (fun t k => XS.icmpYes X47.here hx rfl (pc0 := 191) (pc' := 209) rfl (hb hby at_191) rfl (own_ne (x := (v1 &&& (255 : Int32))) (y := (187 : Int32)) (i := (v1 &&& (255 : Int32)).toInt) (j := 187) rfl rfl c191_50).2 (by decide) (by decide) k) ?_
          show own_End p e below s (T47.setTop (mkF m 209 #[.val (.int p0), .val (.int p1), .val (.int p2), .val (.int p3), .val (.int p4), .val (.int p5), .val (.int (5 : Int32)), .val (.int v0), .val (.int v1), .val (.int v2), .val (.ref b37), .val (.int (0 : Int32)), .unset] [])) _ _ _
          exact J209_5 _ (by omega)
      · skip
        refine own_go (fun t k => XS.icmpYes X47.here hx rfl (pc0 := 179) (pc' := 209) rfl (hb hby at_179) rfl (own_ne (x := (v0 &&& (255 : Int32))) (y := (239 : Int32)) (i := (v0 &&& (255 : Int32)).toInt) (j := 239) rfl rfl c179_49).2 (by decide) (by decide) k) ?_
        show own_End p e below s (T47.setTop (mkF m 209 #[.val (.int p0), .val (.int p1), .val (.int p2), .val (.int p3), .val (.int p4), .val (.int p5), .val (.int (5 : Int32)), .val (.int v0), .val (.int v1), .val (.int v2), .val (.ref b37), .val (.int (0 : Int32)), .unset] [])) _ _ _
        exact J209_5 _ (by omega)
    · skip
      rw [hm]
      show own_End p e below s (s₁.setTop (mkF m 54 #[.val (.int p0), .val (.int p1), .val (.int p2), .val (.int p3), .val (.int p4), .val (.int p5), .val (.int (6 : Int32)), .val (.int v0), .val (.int v1), .val (.int v2), .unset, .unset, .unset] [])) _ _ _
      refine own_go (fun t k => XS.iload X0.here hx rfl (hb hby at_54) rfl k) ?_
      show own_End p e below s (s₁.setTop (mkF m 56 #[.val (.int p0), .val (.int p1), .val (.int p2), .val (.int p3), .val (.int p4), .val (.int p5), .val (.int (6 : Int32)), .val (.int v0), .val (.int v1), .val (.int v2), .unset, .unset, .unset] [(.int (6 : Int32))])) _ _ _
      obtain ⟨T52, h52, k52, X52, e52, E52, A52, st52⟩ := newP X0 hx hZ (hw _ (List.mem_of_getElem? (i := 0) rfl)) e0 (g := (mkF m 56 #[.val (.int p0), .val (.int p1), .val (.int p2), .val (.int p3), .val (.int p4), .val (.int p5), .val (.int (6 : Int32)), .val (.int v0), .val (.int v1), .val (.int v2), .unset, .unset, .unset] [(.int (6 : Int32))])) rfl (hb hby at_56) rfl (by decide) (cap := 6) (by decide) (by decide) (by decide) (by decide)
      obtain ⟨b52, g52⟩ : ∃ z, z = h0.size := ⟨_, rfl⟩
      rw [← g52] at A52 st52
      have g_b52 : n0 ≤ b52 := Nat.le_trans Z0 (Nat.le_of_eq g52.symm)
      have Z52 : n0 ≤ h52.size := Nat.le_trans Z0 E52.1
      have V_b52 : Arv Z h52 b52 k52 .byte (6 : Int32) [(.int (0 : Int32)), (.int (0 : Int32)), (.int (0 : Int32)), (.int (0 : Int32)), (.int (0 : Int32)), (.int (0 : Int32))] (.int (0 : Int32)) := (Arv.new A52 (by decide)).pad (pad_rep [] (.int (0 : Int32)) 6)
      refine own_go st52 ?_
      show own_End p e below s (T52.setTop (mkF m 58 #[.val (.int p0), .val (.int p1), .val (.int p2), .val (.int p3), .val (.int p4), .val (.int p5), .val (.int (6 : Int32)), .val (.int v0), .val (.int v1), .val (.int v2), .unset, .unset, .unset] [(.ref b52)])) _ _ _
      refine own_go (fun t k => XS.astore X52.here hx rfl (hb hby at_58) rfl rfl (l' := #[.val (.int p0), .val (.int p1), .val (.int p2), .val (.int p3), .val (.int p4), .val (.int p5), .val (.int (6 : Int32)), .val (.int v0), .val (.int v1), .val (.int v2), .val (.ref b52), .unset, .unset]) rfl k) ?_
      show own_End p e below s (T52.setTop (mkF m 60 #[.val (.int p0), .val (.int p1), .val (.int p2), .val (.int p3), .val (.int p4), .val (.int p5), .val (.int (6 : Int32)), .val (.int v0), .val (.int v1), .val (.int v2), .val (.ref b52), .unset, .unset] [])) _ _ _
      refine own_go (fun t k => XS.iload X52.here hx rfl (hb hby at_60) rfl k) ?_
      show own_End p e below s (T52.setTop (mkF m 62 #[.val (.int p0), .val (.int p1), .val (.int p2), .val (.int p3), .val (.int p4), .val (.int p5), .val (.int (6 : Int32)), .val (.int v0), .val (.int v1), .val (.int v2), .val (.ref b52), .unset, .unset] [(.int (6 : Int32))])) _ _ _
      refine own_go (fun t k => XS.ifNo X52.here hx rfl (hb hby at_62) rfl ((if0 _ _).trans (own_tlt (x := (0 : Int32)) (y := (6 : Int32)) (i := 0) (j := 6) rfl rfl (by decide)).2.2.2) k) ?_
      show own_End p e below s (T52.setTop (mkF m 65 #[.val (.int p0), .val (.int p1), .val (.int p2), .val (.int p3), .val (.int p4), .val (.int p5), .val (.int (6 : Int32)), .val (.int v0), .val (.int v1), .val (.int v2), .val (.ref b52), .unset, .unset] [])) _ _ _
      refine own_go (fun t k => XS.aload X52.here hx rfl (hb hby at_65) rfl rfl k) ?_
      show own_End p e below s (T52.setTop (mkF m 67 #[.val (.int p0), .val (.int p1), .val (.int p2), .val (.int p3), .val (.int p4), .val (.int p5), .val (.int (6 : Int32)), .val (.int v0), .val (.int v1), .val (.int v2), .val (.ref b52), .unset, .unset] [(.ref b52)])) _ _ _
      refine own_go (fun t k => XS.iconst X52.here hx rfl (hb hby at_67) k) ?_
      show own_End p e below s (T52.setTop (mkF m 68 #[.val (.int p0), .val (.int p1), .val (.int p2), .val (.int p3), .val (.int p4), .val (.int p5), .val (.int (6 : Int32)), .val (.int v0), .val (.int v1), .val (.int v2), .val (.ref b52), .unset, .unset] [(.int (0 : Int32)), (.ref b52)])) _ _ _
      refine own_go (fun t k => XS.iload X52.here hx rfl (hb hby at_68) rfl k) ?_
      show own_End p e below s (T52.setTop (mkF m 70 #[.val (.int p0), .val (.int p1), .val (.int p2), .val (.int p3), .val (.int p4), .val (.int p5), .val (.int (6 : Int32)), .val (.int v0), .val (.int v1), .val (.int v2), .val (.ref b52), .unset, .unset] [(.int v0), (.int (0 : Int32)), (.ref b52)])) _ _ _
      refine own_go (fun t k => XS.i2b X52.here hx rfl (hb hby at_70) rfl k) ?_
      show own_End p e below s (T52.setTop (mkF m 71 #[.val (.int p0), .val (.int p1), .val (.int p2), .val (.int p3), .val (.int p4), .val (.int p5), .val (.int (6 : Int32)), .val (.int v0), .val (.int v1), .val (.int v2), .val (.ref b52), .unset, .unset] [(.int (v0.toInt8.toInt32)), (.int (0 : Int32)), (.ref b52)])) _ _ _
      obtain ⟨cl53, Ar53, q53, S53, M53, Hh53, G53⟩ := id V_b52
      have hin53 : ¬ ((0 : Int32) < 0 ∨ cl53.slots.size ≤ ((0 : Int32)).toNatClampNeg) := inb_of S53 ⟨by decide, by decide⟩
      obtain ⟨T54, h54, X54, e54, W54, st54⟩ := stB X52 hx hZ e52 Ar53 (j := (0 : Int32)) hin53 (g := (mkF m 71 #[.val (.int p0), .val (.int p1), .val (.int p2), .val (.int p3), .val (.int p4), .val (.int p5), .val (.int (6 : Int32)), .val (.int v0), .val (.int v1), .val (.int v2), .val (.ref b52), .unset, .unset] [(.int (v0.toInt8.toInt32)), (.int (0 : Int32)), (.ref b52)])) rfl rfl (hb hby at_71)
      have V_b52_54 : Arv Z h54 b52 k52 .byte (6 : Int32) [(.int ((v0.toInt8.toInt32).toInt8.toInt32)), (.int (0 : Int32)), (.int (0 : Int32)), (.int (0 : Int32)), (.int (0 : Int32)), (.int (0 : Int32))] (.int (0 : Int32)) := Arv.set Ar53 q53 S53 M53 Hh53 G53 (fits_nar_byte _) W54 0 rfl (Nat.le_of_ble_eq_true rfl)
      have N54 := Fr.snoc X54 N0 g_b52
      have Z54 : n0 ≤ h54.size := Nat.le_trans Z52 (Keep.of_wr W54).1
      refine own_go st54 ?_
      show own_End p e below s (T54.setTop (mkF m 72 #[.val (.int p0), .val (.int p1), .val (.int p2), .val (.int p3), .val (.int p4), .val (.int p5), .val (.int (6 : Int32)), .val (.int v0), .val (.int v1), .val (.int v2), .val (.ref b52), .unset, .unset] [])) _ _ _
      refine own_go (fun t k => XS.iload X54.here hx rfl (hb hby at_72) rfl k) ?_
      show own_End p e below s (T54.setTop (mkF m 74 #[.val (.int p0), .val (.int p1), .val (.int p2), .val (.int p3), .val (.int p4), .val (.int p5), .val (.int (6 : Int32)), .val (.int v0), .val (.int v1), .val (.int v2), .val (.ref b52), .unset, .unset] [(.int (6 : Int32))])) _ _ _
      refine own_go (fun t k => XS.iconst X54.here hx rfl (hb hby at_74) k) ?_
      show own_End p e below s (T54.setTop (mkF m 75 #[.val (.int p0), .val (.int p1), .val (.int p2), .val (.int p3), .val (.int p4), .val (.int p5), .val (.int (6 : Int32)), .val (.int v0), .val (.int v1), .val (.int v2), .val (.ref b52), .unset, .unset] [(.int (1 : Int32)), (.int (6 : Int32))])) _ _ _
      refine own_go (fun t k => XS.icmpNo X54.here hx rfl (hb hby at_75) rfl (own_tlt (x := (1 : Int32)) (y := (6 : Int32)) (i := 1) (j := 6) rfl rfl (by decide)).2.2.2 k) ?_
      show own_End p e below s (T54.setTop (mkF m 78 #[.val (.int p0), .val (.int p1), .val (.int p2), .val (.int p3), .val (.int p4), .val (.int p5), .val (.int (6 : Int32)), .val (.int v0), .val (.int v1), .val (.int v2), .val (.ref b52), .unset, .unset] [])) _ _ _
      refine own_go (fun t k => XS.aload X54.here hx rfl (hb hby at_78) rfl rfl k) ?_
      show own_End p e below s (T54.setTop (mkF m 80 #[.val (.int p0), .val (.int p1), .val (.int p2), .val (.int p3), .val (.int p4), .val (.int p5), .val (.int (6 : Int32)), .val (.int v0), .val (.int v1), .val (.int v2), .val (.ref b52), .unset, .unset] [(.ref b52)])) _ _ _
      refine own_go (fun t k => XS.iconst X54.here hx rfl (hb hby at_80) k) ?_
      show own_End p e below s (T54.setTop (mkF m 81 #[.val (.int p0), .val (.int p1), .val (.int p2), .val (.int p3), .val (.int p4), .val (.int p5), .val (.int (6 : Int32)), .val (.int v0), .val (.int v1), .val (.int v2), .val (.ref b52), .unset, .unset] [(.int (1 : Int32)), (.ref b52)])) _ _ _
      refine own_go (fun t k => XS.iload X54.here hx rfl (hb hby at_81) rfl k) ?_
      show own_End p e below s (T54.setTop (mkF m 83 #[.val (.int p0), .val (.int p1), .val (.int p2), .val (.int p3), .val (.int p4), .val (.int p5), .val (.int (6 : Int32)), .val (.int v0), .val (.int v1), .val (.int v2), .val (.ref b52), .unset, .unset] [(.int v1), (.int (1 : Int32)), (.ref b52)])) _ _ _
      refine own_go (fun t k => XS.i2b X54.here hx rfl (hb hby at_83) rfl k) ?_
      show own_End p e below s (T54.setTop (mkF m 84 #[.val (.int p0), .val (.int p1), .val (.int p2), .val (.int p3), .val (.int p4), .val (.int p5), .val (.int (6 : Int32)), .val (.int v0), .val (.int v1), .val (.int v2), .val (.ref b52), .unset, .unset] [(.int (v1.toInt8.toInt32)), (.int (1 : Int32)), (.ref b52)])) _ _ _
      obtain ⟨cl55, Ar55, q55, S55, M55, Hh55, G55⟩ := id V_b52_54
      have hin55 : ¬ ((1 : Int32) < 0 ∨ cl55.slots.size ≤ ((1 : Int32)).toNatClampNeg) := inb_of S55 ⟨by decide, by decide⟩
      obtain ⟨T56, h56, X56, e56, W56, st56⟩ := stB X54 hx hZ e54 Ar55 (j := (1 : Int32)) hin55 (g := (mkF m 84 #[.val (.int p0), .val (.int p1), .val (.int p2), .val (.int p3), .val (.int p4), .val (.int p5), .val (.int (6 : Int32)), .val (.int v0), .val (.int v1), .val (.int v2), .val (.ref b52), .unset, .unset] [(.int (v1.toInt8.toInt32)), (.int (1 : Int32)), (.ref b52)])) rfl rfl (hb hby at_84)
      have V_b52_56 : Arv Z h56 b52 k52 .byte (6 : Int32) [(.int ((v0.toInt8.toInt32).toInt8.toInt32)), (.int ((v1.toInt8.toInt32).toInt8.toInt32)), (.int (0 : Int32)), (.int (0 : Int32)), (.int (0 : Int32)), (.int (0 : Int32))] (.int (0 : Int32)) := Arv.set Ar55 q55 S55 M55 Hh55 G55 (fits_nar_byte _) W56 1 rfl (Nat.le_of_ble_eq_true rfl)
      have N56 := Fr.snoc X56 N54 g_b52
      have Z56 : n0 ≤ h56.size := Nat.le_trans Z54 (Keep.of_wr W56).1
      refine own_go st56 ?_
      show own_End p e below s (T56.setTop (mkF m 85 #[.val (.int p0), .val (.int p1), .val (.int p2), .val (.int p3), .val (.int p4), .val (.int p5), .val (.int (6 : Int32)), .val (.int v0), .val (.int v1), .val (.int v2), .val (.ref b52), .unset, .unset] [])) _ _ _
      refine own_go (fun t k => XS.iload X56.here hx rfl (hb hby at_85) rfl k) ?_
      show own_End p e below s (T56.setTop (mkF m 87 #[.val (.int p0), .val (.int p1), .val (.int p2), .val (.int p3), .val (.int p4), .val (.int p5), .val (.int (6 : Int32)), .val (.int v0), .val (.int v1), .val (.int v2), .val (.ref b52), .unset, .unset] [(.int (6 : Int32))])) _ _ _
      refine own_go (fun t k => XS.iconst X56.here hx rfl (hb hby at_87) k) ?_
      show own_End p e below s (T56.setTop (mkF m 88 #[.val (.int p0), .val (.int p1), .val (.int p2), .val (.int p3), .val (.int p4), .val (.int p5), .val (.int (6 : Int32)), .val (.int v0), .val (.int v1), .val (.int v2), .val (.ref b52), .unset, .unset] [(.int (2 : Int32)), (.int (6 : Int32))])) _ _ _
      refine own_go (fun t k => XS.icmpNo X56.here hx rfl (hb hby at_88) rfl (own_tlt (x := (2 : Int32)) (y := (6 : Int32)) (i := 2) (j := 6) rfl rfl (by decide)).2.2.2 k) ?_
      show own_End p e below s (T56.setTop (mkF m 91 #[.val (.int p0), .val (.int p1), .val (.int p2), .val (.int p3), .val (.int p4), .val (.int p5), .val (.int (6 : Int32)), .val (.int v0), .val (.int v1), .val (.int v2), .val (.ref b52), .unset, .unset] [])) _ _ _
      refine own_go (fun t k => XS.aload X56.here hx rfl (hb hby at_91) rfl rfl k) ?_
      show own_End p e below s (T56.setTop (mkF m 93 #[.val (.int p0), .val (.int p1), .val (.int p2), .val (.int p3), .val (.int p4), .val (.int p5), .val (.int (6 : Int32)), .val (.int v0), .val (.int v1), .val (.int v2), .val (.ref b52), .unset, .unset] [(.ref b52)])) _ _ _
      refine own_go (fun t k => XS.iconst X56.here hx rfl (hb hby at_93) k) ?_
      show own_End p e below s (T56.setTop (mkF m 94 #[.val (.int p0), .val (.int p1), .val (.int p2), .val (.int p3), .val (.int p4), .val (.int p5), .val (.int (6 : Int32)), .val (.int v0), .val (.int v1), .val (.int v2), .val (.ref b52), .unset, .unset] [(.int (2 : Int32)), (.ref b52)])) _ _ _
      refine own_go (fun t k => XS.iload X56.here hx rfl (hb hby at_94) rfl k) ?_
      show own_End p e below s (T56.setTop (mkF m 96 #[.val (.int p0), .val (.int p1), .val (.int p2), .val (.int p3), .val (.int p4), .val (.int p5), .val (.int (6 : Int32)), .val (.int v0), .val (.int v1), .val (.int v2), .val (.ref b52), .unset, .unset] [(.int v2), (.int (2 : Int32)), (.ref b52)])) _ _ _
      refine own_go (fun t k => XS.i2b X56.here hx rfl (hb hby at_96) rfl k) ?_
      show own_End p e below s (T56.setTop (mkF m 97 #[.val (.int p0), .val (.int p1), .val (.int p2), .val (.int p3), .val (.int p4), .val (.int p5), .val (.int (6 : Int32)), .val (.int v0), .val (.int v1), .val (.int v2), .val (.ref b52), .unset, .unset] [(.int (v2.toInt8.toInt32)), (.int (2 : Int32)), (.ref b52)])) _ _ _
      obtain ⟨cl57, Ar57, q57, S57, M57, Hh57, G57⟩ := id V_b52_56
      have hin57 : ¬ ((2 : Int32) < 0 ∨ cl57.slots.size ≤ ((2 : Int32)).toNatClampNeg) := inb_of S57 ⟨by decide, by decide⟩
      obtain ⟨T58, h58, X58, e58, W58, st58⟩ := stB X56 hx hZ e56 Ar57 (j := (2 : Int32)) hin57 (g := (mkF m 97 #[.val (.int p0), .val (.int p1), .val (.int p2), .val (.int p3), .val (.int p4), .val (.int p5), .val (.int (6 : Int32)), .val (.int v0), .val (.int v1), .val (.int v2), .val (.ref b52), .unset, .unset] [(.int (v2.toInt8.toInt32)), (.int (2 : Int32)), (.ref b52)])) rfl rfl (hb hby at_97)
      have V_b52_58 : Arv Z h58 b52 k52 .byte (6 : Int32) [(.int ((v0.toInt8.toInt32).toInt8.toInt32)), (.int ((v1.toInt8.toInt32).toInt8.toInt32)), (.int ((v2.toInt8.toInt32).toInt8.toInt32)), (.int (0 : Int32)), (.int (0 : Int32)), (.int (0 : Int32))] (.int (0 : Int32)) := Arv.set Ar57 q57 S57 M57 Hh57 G57 (fits_nar_byte _) W58 2 rfl (Nat.le_of_ble_eq_true rfl)
      have N58 := Fr.snoc X58 N56 g_b52
      have Z58 : n0 ≤ h58.size := Nat.le_trans Z56 (Keep.of_wr W58).1
      refine own_go st58 ?_
      show own_End p e below s (T58.setTop (mkF m 98 #[.val (.int p0), .val (.int p1), .val (.int p2), .val (.int p3), .val (.int p4), .val (.int p5), .val (.int (6 : Int32)), .val (.int v0), .val (.int v1), .val (.int v2), .val (.ref b52), .unset, .unset] [])) _ _ _
      refine own_go (fun t k => XS.iload X58.here hx rfl (hb hby at_98) rfl k) ?_
      show own_End p e below s (T58.setTop (mkF m 100 #[.val (.int p0), .val (.int p1), .val (.int p2), .val (.int p3), .val (.int p4), .val (.int p5), .val (.int (6 : Int32)), .val (.int v0), .val (.int v1), .val (.int v2), .val (.ref b52), .unset, .unset] [(.int (6 : Int32))])) _ _ _
      refine own_go (fun t k => XS.iconst X58.here hx rfl (hb hby at_100) k) ?_
      show own_End p e below s (T58.setTop (mkF m 101 #[.val (.int p0), .val (.int p1), .val (.int p2), .val (.int p3), .val (.int p4), .val (.int p5), .val (.int (6 : Int32)), .val (.int v0), .val (.int v1), .val (.int v2), .val (.ref b52), .unset, .unset] [(.int (3 : Int32)), (.int (6 : Int32))])) _ _ _
      refine own_go (fun t k => XS.icmpNo X58.here hx rfl (hb hby at_101) rfl (own_tlt (x := (3 : Int32)) (y := (6 : Int32)) (i := 3) (j := 6) rfl rfl (by decide)).2.2.2 k) ?_
      show own_End p e below s (T58.setTop (mkF m 104 #[.val (.int p0), .val (.int p1), .val (.int p2), .val (.int p3), .val (.int p4), .val (.int p5), .val (.int (6 : Int32)), .val (.int v0), .val (.int v1), .val (.int v2), .val (.ref b52), .unset, .unset] [])) _ _ _
      refine own_go (fun t k => XS.aload X58.here hx rfl (hb hby at_104) rfl rfl k) ?_
      show own_End p e below s (T58.setTop (mkF m 106 #[.val (.int p0), .val (.int p1), .val (.int p2), .val (.int p3), .val (.int p4), .val (.int p5), .val (.int (6 : Int32)), .val (.int v0), .val (.int v1), .val (.int v2), .val (.ref b52), .unset, .unset] [(.ref b52)])) _ _ _
      refine own_go (fun t k => XS.iconst X58.here hx rfl (hb hby at_106) k) ?_
      show own_End p e below s (T58.setTop (mkF m 107 #[.val (.int p0), .val (.int p1), .val (.int p2), .val (.int p3), .val (.int p4), .val (.int p5), .val (.int (6 : Int32)), .val (.int v0), .val (.int v1), .val (.int v2), .val (.ref b52), .unset, .unset] [(.int (3 : Int32)), (.ref b52)])) _ _ _
      refine own_go (fun t k => XS.iload X58.here hx rfl (hb hby at_107) rfl k) ?_
      show own_End p e below s (T58.setTop (mkF m 109 #[.val (.int p0), .val (.int p1), .val (.int p2), .val (.int p3), .val (.int p4), .val (.int p5), .val (.int (6 : Int32)), .val (.int v0), .val (.int v1), .val (.int v2), .val (.ref b52), .unset, .unset] [(.int p5), (.int (3 : Int32)), (.ref b52)])) _ _ _
      refine own_go (fun t k => XS.i2b X58.here hx rfl (hb hby at_109) rfl k) ?_
      show own_End p e below s (T58.setTop (mkF m 110 #[.val (.int p0), .val (.int p1), .val (.int p2), .val (.int p3), .val (.int p4), .val (.int p5), .val (.int (6 : Int32)), .val (.int v0), .val (.int v1), .val (.int v2), .val (.ref b52), .unset, .unset] [(.int (p5.toInt8.toInt32)), (.int (3 : Int32)), (.ref b52)])) _ _ _
      obtain ⟨cl59, Ar59, q59, S59, M59, Hh59, G59⟩ := id V_b52_58
      have hin59 : ¬ ((3 : Int32) < 0 ∨ cl59.slots.size ≤ ((3 : Int32)).toNatClampNeg) := inb_of S59 ⟨by decide, by decide⟩
      obtain ⟨T60, h60, X60, e60, W60, st60⟩ := stB X58 hx hZ e58 Ar59 (j := (3 : Int32)) hin59 (g := (mkF m 110 #[.val (.int p0), .val (.int p1), .val (.int p2), .val (.int p3), .val (.int p4), .val (.int p5), .val (.int (6 : Int32)), .val (.int v0), .val (.int v1), .val (.int v2), .val (.ref b52), .unset, .unset] [(.int (p5.toInt8.toInt32)), (.int (3 : Int32)), (.ref b52)])) rfl rfl (hb hby at_110)
      have V_b52_60 : Arv Z h60 b52 k52 .byte (6 : Int32) [(.int ((v0.toInt8.toInt32).toInt8.toInt32)), (.int ((v1.toInt8.toInt32).toInt8.toInt32)), (.int ((v2.toInt8.toInt32).toInt8.toInt32)), (.int ((p5.toInt8.toInt32).toInt8.toInt32)), (.int (0 : Int32)), (.int (0 : Int32))] (.int (0 : Int32)) := Arv.set Ar59 q59 S59 M59 Hh59 G59 (fits_nar_byte _) W60 3 rfl (Nat.le_of_ble_eq_true rfl)
      have N60 := Fr.snoc X60 N58 g_b52
      have Z60 : n0 ≤ h60.size := Nat.le_trans Z58 (Keep.of_wr W60).1
      refine own_go st60 ?_
      show own_End p e below s (T60.setTop (mkF m 111 #[.val (.int p0), .val (.int p1), .val (.int p2), .val (.int p3), .val (.int p4), .val (.int p5), .val (.int (6 : Int32)), .val (.int v0), .val (.int v1), .val (.int v2), .val (.ref b52), .unset, .unset] [])) _ _ _
      refine own_go (fun t k => XS.iload X60.here hx rfl (hb hby at_111) rfl k) ?_
      show own_End p e below s (T60.setTop (mkF m 113 #[.val (.int p0), .val (.int p1), .val (.int p2), .val (.int p3), .val (.int p4), .val (.int p5), .val (.int (6 : Int32)), .val (.int v0), .val (.int v1), .val (.int v2), .val (.ref b52), .unset, .unset] [(.int (6 : Int32))])) _ _ _
      refine own_go (fun t k => XS.iconst X60.here hx rfl (hb hby at_113) k) ?_
      show own_End p e below s (T60.setTop (mkF m 114 #[.val (.int p0), .val (.int p1), .val (.int p2), .val (.int p3), .val (.int p4), .val (.int p5), .val (.int (6 : Int32)), .val (.int v0), .val (.int v1), .val (.int v2), .val (.ref b52), .unset, .unset] [(.int (4 : Int32)), (.int (6 : Int32))])) _ _ _
      refine own_go (fun t k => XS.icmpNo X60.here hx rfl (hb hby at_114) rfl (own_tlt (x := (4 : Int32)) (y := (6 : Int32)) (i := 4) (j := 6) rfl rfl (by decide)).2.2.2 k) ?_
      show own_End p e below s (T60.setTop (mkF m 117 #[.val (.int p0), .val (.int p1), .val (.int p2), .val (.int p3), .val (.int p4), .val (.int p5), .val (.int (6 : Int32)), .val (.int v0), .val (.int v1), .val (.int v2), .val (.ref b52), .unset, .unset] [])) _ _ _
      refine own_go (fun t k => XS.aload X60.here hx rfl (hb hby at_117) rfl rfl k) ?_
      show own_End p e below s (T60.setTop (mkF m 119 #[.val (.int p0), .val (.int p1), .val (.int p2), .val (.int p3), .val (.int p4), .val (.int p5), .val (.int (6 : Int32)), .val (.int v0), .val (.int v1), .val (.int v2), .val (.ref b52), .unset, .unset] [(.ref b52)])) _ _ _
      refine own_go (fun t k => XS.iconst X60.here hx rfl (hb hby at_119) k) ?_
      show own_End p e below s (T60.setTop (mkF m 120 #[.val (.int p0), .val (.int p1), .val (.int p2), .val (.int p3), .val (.int p4), .val (.int p5), .val (.int (6 : Int32)), .val (.int v0), .val (.int v1), .val (.int v2), .val (.ref b52), .unset, .unset] [(.int (4 : Int32)), (.ref b52)])) _ _ _
      refine own_go (fun t k => XS.iload X60.here hx rfl (hb hby at_120) rfl k) ?_
      show own_End p e below s (T60.setTop (mkF m 122 #[.val (.int p0), .val (.int p1), .val (.int p2), .val (.int p3), .val (.int p4), .val (.int p5), .val (.int (6 : Int32)), .val (.int v0), .val (.int v1), .val (.int v2), .val (.ref b52), .unset, .unset] [(.int p5), (.int (4 : Int32)), (.ref b52)])) _ _ _
      refine own_go (fun t k => XS.bipush X60.here hx rfl (hb hby at_122) k) ?_
      show own_End p e below s (T60.setTop (mkF m 124 #[.val (.int p0), .val (.int p1), .val (.int p2), .val (.int p3), .val (.int p4), .val (.int p5), .val (.int (6 : Int32)), .val (.int v0), .val (.int v1), .val (.int v2), .val (.ref b52), .unset, .unset] [(.int (8 : Int32)), (.int p5), (.int (4 : Int32)), (.ref b52)])) _ _ _
      refine own_go (fun t k => XS.ishr X60.here hx rfl (hb hby at_124) rfl k) ?_
      show own_End p e below s (T60.setTop (mkF m 125 #[.val (.int p0), .val (.int p1), .val (.int p2), .val (.int p3), .val (.int p4), .val (.int p5), .val (.int (6 : Int32)), .val (.int v0), .val (.int v1), .val (.int v2), .val (.ref b52), .unset, .unset] [(.int (p5 >>> ((8 : Int32) &&& 31))), (.int (4 : Int32)), (.ref b52)])) _ _ _
      refine own_go (fun t k => XS.i2b X60.here hx rfl (hb hby at_125) rfl k) ?_
      show own_End p e below s (T60.setTop (mkF m 126 #[.val (.int p0), .val (.int p1), .val (.int p2), .val (.int p3), .val (.int p4), .val (.int p5), .val (.int (6 : Int32)), .val (.int v0), .val (.int v1), .val (.int v2), .val (.ref b52), .unset, .unset] [(.int ((p5 >>> ((8 : Int32) &&& 31)).toInt8.toInt32)), (.int (4 : Int32)), (.ref b52)])) _ _ _
      obtain ⟨cl61, Ar61, q61, S61, M61, Hh61, G61⟩ := id V_b52_60
      have hin61 : ¬ ((4 : Int32) < 0 ∨ cl61.slots.size ≤ ((4 : Int32)).toNatClampNeg) := inb_of S61 ⟨by decide, by decide⟩
      obtain ⟨T62, h62, X62, e62, W62, st62⟩ := stB X60 hx hZ e60 Ar61 (j := (4 : Int32)) hin61 (g := (mkF m 126 #[.val (.int p0), .val (.int p1), .val (.int p2), .val (.int p3), .val (.int p4), .val (.int p5), .val (.int (6 : Int32)), .val (.int v0), .val (.int v1), .val (.int v2), .val (.ref b52), .unset, .unset] [(.int ((p5 >>> ((8 : Int32) &&& 31)).toInt8.toInt32)), (.int (4 : Int32)), (.ref b52)])) rfl rfl (hb hby at_126)
      have V_b52_62 : Arv Z h62 b52 k52 .byte (6 : Int32) [(.int ((v0.toInt8.toInt32).toInt8.toInt32)), (.int ((v1.toInt8.toInt32).toInt8.toInt32)), (.int ((v2.toInt8.toInt32).toInt8.toInt32)), (.int ((p5.toInt8.toInt32).toInt8.toInt32)), (.int (((p5 >>> ((8 : Int32) &&& 31)).toInt8.toInt32).toInt8.toInt32)), (.int (0 : Int32))] (.int (0 : Int32)) := Arv.set Ar61 q61 S61 M61 Hh61 G61 (fits_nar_byte _) W62 4 rfl (Nat.le_of_ble_eq_true rfl)
      have N62 := Fr.snoc X62 N60 g_b52
      have Z62 : n0 ≤ h62.size := Nat.le_trans Z60 (Keep.of_wr W62).1
      refine own_go st62 ?_
      show own_End p e below s (T62.setTop (mkF m 127 #[.val (.int p0), .val (.int p1), .val (.int p2), .val (.int p3), .val (.int p4), .val (.int p5), .val (.int (6 : Int32)), .val (.int v0), .val (.int v1), .val (.int v2), .val (.ref b52), .unset, .unset] [])) _ _ _
      refine own_go (fun t k => XS.iload X62.here hx rfl (hb hby at_127) rfl k) ?_
      show own_End p e below s (T62.setTop (mkF m 129 #[.val (.int p0), .val (.int p1), .val (.int p2), .val (.int p3), .val (.int p4), .val (.int p5), .val (.int (6 : Int32)), .val (.int v0), .val (.int v1), .val (.int v2), .val (.ref b52), .unset, .unset] [(.int (6 : Int32))])) _ _ _
      refine own_go (fun t k => XS.iconst X62.here hx rfl (hb hby at_129) k) ?_
      show own_End p e below s (T62.setTop (mkF m 130 #[.val (.int p0), .val (.int p1), .val (.int p2), .val (.int p3), .val (.int p4), .val (.int p5), .val (.int (6 : Int32)), .val (.int v0), .val (.int v1), .val (.int v2), .val (.ref b52), .unset, .unset] [(.int (5 : Int32)), (.int (6 : Int32))])) _ _ _
      refine own_go (fun t k => XS.icmpNo X62.here hx rfl (hb hby at_130) rfl (own_tlt (x := (5 : Int32)) (y := (6 : Int32)) (i := 5) (j := 6) rfl rfl (by decide)).2.2.2 k) ?_
      show own_End p e below s (T62.setTop (mkF m 133 #[.val (.int p0), .val (.int p1), .val (.int p2), .val (.int p3), .val (.int p4), .val (.int p5), .val (.int (6 : Int32)), .val (.int v0), .val (.int v1), .val (.int v2), .val (.ref b52), .unset, .unset] [])) _ _ _
      refine own_go (fun t k => XS.aload X62.here hx rfl (hb hby at_133) rfl rfl k) ?_
      show own_End p e below s (T62.setTop (mkF m 135 #[.val (.int p0), .val (.int p1), .val (.int p2), .val (.int p3), .val (.int p4), .val (.int p5), .val (.int (6 : Int32)), .val (.int v0), .val (.int v1), .val (.int v2), .val (.ref b52), .unset, .unset] [(.ref b52)])) _ _ _
      refine own_go (fun t k => XS.iconst X62.here hx rfl (hb hby at_135) k) ?_
      show own_End p e below s (T62.setTop (mkF m 136 #[.val (.int p0), .val (.int p1), .val (.int p2), .val (.int p3), .val (.int p4), .val (.int p5), .val (.int (6 : Int32)), .val (.int v0), .val (.int v1), .val (.int v2), .val (.ref b52), .unset, .unset] [(.int (5 : Int32)), (.ref b52)])) _ _ _
      refine own_go (fun t k => XS.iload X62.here hx rfl (hb hby at_136) rfl k) ?_
      show own_End p e below s (T62.setTop (mkF m 138 #[.val (.int p0), .val (.int p1), .val (.int p2), .val (.int p3), .val (.int p4), .val (.int p5), .val (.int (6 : Int32)), .val (.int v0), .val (.int v1), .val (.int v2), .val (.ref b52), .unset, .unset] [(.int p5), (.int (5 : Int32)), (.ref b52)])) _ _ _
      refine own_go (fun t k => XS.bipush X62.here hx rfl (hb hby at_138) k) ?_
      show own_End p e below s (T62.setTop (mkF m 140 #[.val (.int p0), .val (.int p1), .val (.int p2), .val (.int p3), .val (.int p4), .val (.int p5), .val (.int (6 : Int32)), .val (.int v0), .val (.int v1), .val (.int v2), .val (.ref b52), .unset, .unset] [(.int (16 : Int32)), (.int p5), (.int (5 : Int32)), (.ref b52)])) _ _ _
      refine own_go (fun t k => XS.ishr X62.here hx rfl (hb hby at_140) rfl k) ?_
      show own_End p e below s (T62.setTop (mkF m 141 #[.val (.int p0), .val (.int p1), .val (.int p2), .val (.int p3), .val (.int p4), .val (.int p5), .val (.int (6 : Int32)), .val (.int v0), .val (.int v1), .val (.int v2), .val (.ref b52), .unset, .unset] [(.int (p5 >>> ((16 : Int32) &&& 31))), (.int (5 : Int32)), (.ref b52)])) _ _ _
      refine own_go (fun t k => XS.i2b X62.here hx rfl (hb hby at_141) rfl k) ?_
      show own_End p e below s (T62.setTop (mkF m 142 #[.val (.int p0), .val (.int p1), .val (.int p2), .val (.int p3), .val (.int p4), .val (.int p5), .val (.int (6 : Int32)), .val (.int v0), .val (.int v1), .val (.int v2), .val (.ref b52), .unset, .unset] [(.int ((p5 >>> ((16 : Int32) &&& 31)).toInt8.toInt32)), (.int (5 : Int32)), (.ref b52)])) _ _ _
      obtain ⟨cl63, Ar63, q63, S63, M63, Hh63, G63⟩ := id V_b52_62
      have hin63 : ¬ ((5 : Int32) < 0 ∨ cl63.slots.size ≤ ((5 : Int32)).toNatClampNeg) := inb_of S63 ⟨by decide, by decide⟩
      obtain ⟨T64, h64, X64, e64, W64, st64⟩ := stB X62 hx hZ e62 Ar63 (j := (5 : Int32)) hin63 (g := (mkF m 142 #[.val (.int p0), .val (.int p1), .val (.int p2), .val (.int p3), .val (.int p4), .val (.int p5), .val (.int (6 : Int32)), .val (.int v0), .val (.int v1), .val (.int v2), .val (.ref b52), .unset, .unset] [(.int ((p5 >>> ((16 : Int32) &&& 31)).toInt8.toInt32)), (.int (5 : Int32)), (.ref b52)])) rfl rfl (hb hby at_142)
      have V_b52_64 : Arv Z h64 b52 k52 .byte (6 : Int32) [(.int ((v0.toInt8.toInt32).toInt8.toInt32)), (.int ((v1.toInt8.toInt32).toInt8.toInt32)), (.int ((v2.toInt8.toInt32).toInt8.toInt32)), (.int ((p5.toInt8.toInt32).toInt8.toInt32)), (.int (((p5 >>> ((8 : Int32) &&& 31)).toInt8.toInt32).toInt8.toInt32)), (.int (((p5 >>> ((16 : Int32) &&& 31)).toInt8.toInt32).toInt8.toInt32))] (.int (0 : Int32)) := Arv.set Ar63 q63 S63 M63 Hh63 G63 (fits_nar_byte _) W64 5 rfl (Nat.le_of_ble_eq_true rfl)
      have N64 := Fr.snoc X64 N62 g_b52
      have Z64 : n0 ≤ h64.size := Nat.le_trans Z62 (Keep.of_wr W64).1
      refine own_go st64 ?_
      show own_End p e below s (T64.setTop (mkF m 143 #[.val (.int p0), .val (.int p1), .val (.int p2), .val (.int p3), .val (.int p4), .val (.int p5), .val (.int (6 : Int32)), .val (.int v0), .val (.int v1), .val (.int v2), .val (.ref b52), .unset, .unset] [])) _ _ _
      refine own_go (fun t k => XS.iload X64.here hx rfl (hb hby at_143) rfl k) ?_
      show own_End p e below s (T64.setTop (mkF m 145 #[.val (.int p0), .val (.int p1), .val (.int p2), .val (.int p3), .val (.int p4), .val (.int p5), .val (.int (6 : Int32)), .val (.int v0), .val (.int v1), .val (.int v2), .val (.ref b52), .unset, .unset] [(.int (6 : Int32))])) _ _ _
      refine own_go (fun t k => XS.bipush X64.here hx rfl (hb hby at_145) k) ?_
      show own_End p e below s (T64.setTop (mkF m 147 #[.val (.int p0), .val (.int p1), .val (.int p2), .val (.int p3), .val (.int p4), .val (.int p5), .val (.int (6 : Int32)), .val (.int v0), .val (.int v1), .val (.int v2), .val (.ref b52), .unset, .unset] [(.int (6 : Int32)), (.int (6 : Int32))])) _ _ _
      refine own_go (fun t k => XS.icmpYes X64.here hx rfl (pc0 := 147) (pc' := 161) rfl (hb hby at_147) rfl (own_flt (x := (6 : Int32)) (y := (6 : Int32)) (i := 6) (j := 6) rfl rfl (by decide)).2.2.2 (by decide) (by decide) k) ?_
      show own_End p e below s (T64.setTop (mkF m 161 #[.val (.int p0), .val (.int p1), .val (.int p2), .val (.int p3), .val (.int p4), .val (.int p5), .val (.int (6 : Int32)), .val (.int v0), .val (.int v1), .val (.int v2), .val (.ref b52), .unset, .unset] [])) _ _ _
      refine own_go (fun t k => XS.iconst X64.here hx rfl (hb hby at_161) k) ?_
      show own_End p e below s (T64.setTop (mkF m 162 #[.val (.int p0), .val (.int p1), .val (.int p2), .val (.int p3), .val (.int p4), .val (.int p5), .val (.int (6 : Int32)), .val (.int v0), .val (.int v1), .val (.int v2), .val (.ref b52), .unset, .unset] [(.int (0 : Int32))])) _ _ _
      refine own_go (fun t k => XS.istore X64.here hx rfl (hb hby at_162) rfl (l' := #[.val (.int p0), .val (.int p1), .val (.int p2), .val (.int p3), .val (.int p4), .val (.int p5), .val (.int (6 : Int32)), .val (.int v0), .val (.int v1), .val (.int v2), .val (.ref b52), .val (.int (0 : Int32)), .unset]) rfl k) ?_
      show own_End p e below s (T64.setTop (mkF m 164 #[.val (.int p0), .val (.int p1), .val (.int p2), .val (.int p3), .val (.int p4), .val (.int p5), .val (.int (6 : Int32)), .val (.int v0), .val (.int v1), .val (.int v2), .val (.ref b52), .val (.int (0 : Int32)), .unset] [])) _ _ _
      refine own_go (fun t k => XS.iload X64.here hx rfl (hb hby at_164) rfl k) ?_
      show own_End p e below s (T64.setTop (mkF m 166 #[.val (.int p0), .val (.int p1), .val (.int p2), .val (.int p3), .val (.int p4), .val (.int p5), .val (.int (6 : Int32)), .val (.int v0), .val (.int v1), .val (.int v2), .val (.ref b52), .val (.int (0 : Int32)), .unset] [(.int (6 : Int32))])) _ _ _
      refine own_go (fun t k => XS.iconst X64.here hx rfl (hb hby at_166) k) ?_
      show own_End p e below s (T64.setTop (mkF m 167 #[.val (.int p0), .val (.int p1), .val (.int p2), .val (.int p3), .val (.int p4), .val (.int p5), .val (.int (6 : Int32)), .val (.int v0), .val (.int v1), .val (.int v2), .val (.ref b52), .val (.int (0 : Int32)), .unset] [(.int (3 : Int32)), (.int (6 : Int32))])) _ _ _
      refine own_go (fun t k => XS.icmpNo X64.here hx rfl (hb hby at_167) rfl (own_flt (x := (6 : Int32)) (y := (3 : Int32)) (i := 6) (j := 3) rfl rfl (by decide)).1 k) ?_
      show own_End p e below s (T64.setTop (mkF m 170 #[.val (.int p0), .val (.int p1), .val (.int p2), .val (.int p3), .val (.int p4), .val (.int p5), .val (.int (6 : Int32)), .val (.int v0), .val (.int v1), .val (.int v2), .val (.ref b52), .val (.int (0 : Int32)), .unset] [])) _ _ _
      have m0 : (v0 &&& (255 : Int32)).toInt = v0.toInt % 256 := c_mask v0 (255 : Int32) 8 (by decide) (by decide)
      have m1 : (v1 &&& (255 : Int32)).toInt = v1.toInt % 256 := c_mask v1 (255 : Int32) 8 (by decide) (by decide)
      have m2 : (v2 &&& (255 : Int32)).toInt = v2.toInt % 256 := c_mask v2 (255 : Int32) 8 (by decide) (by decide)
      have li3 : (3 : Int32).toInt = 3 := rfl
      have J209_6 : ∀ (ex : Int32) (hex : ex.toInt = 3 ∧ (v0.toInt % 256 = 239 ∧ v1.toInt % 256 = 187 ∧ v2.toInt % 256 = 191) ∨ ex.toInt = 0 ∧ ¬ (v0.toInt % 256 = 239 ∧ v1.toInt % 256 = 187 ∧ v2.toInt % 256 = 191)), own_End p e below s (T64.setTop (mkF m 209 #[.val (.int p0), .val (.int p1), .val (.int p2), .val (.int p3), .val (.int p4), .val (.int p5), .val (.int (6 : Int32)), .val (.int v0), .val (.int v1), .val (.int v2), .val (.ref b52), .val (.int ex), .unset] [])) (Q_rm0 Z p0 p1 p2 p3 p4 p5  h0 n0) room_1.cells room_1.slots := by
        intro ex hex
        show own_End p e below s (T64.setTop (mkF m 209 #[.val (.int p0), .val (.int p1), .val (.int p2), .val (.int p3), .val (.int p4), .val (.int p5), .val (.int (6 : Int32)), .val (.int v0), .val (.int v1), .val (.int v2), .val (.ref b52), .val (.int ex), .unset] [])) _ _ _
        refine own_go (fun t k => XS.aload X64.here hx rfl (hb hby at_209) rfl rfl k) ?_
        show own_End p e below s (T64.setTop (mkF m 211 #[.val (.int p0), .val (.int p1), .val (.int p2), .val (.int p3), .val (.int p4), .val (.int p5), .val (.int (6 : Int32)), .val (.int v0), .val (.int v1), .val (.int v2), .val (.ref b52), .val (.int ex), .unset] [(.ref b52)])) _ _ _
        obtain ⟨_, _, ⟨T65, L65, k65, n65⟩, -, X65, ⟨Lc65, hQ65, l65, y65, z65⟩, st65⟩ := Jvm.LawKit.callS X64 hx (y := (⟨"com/example/settings_by_rank/settingsbyrank/core/source/FileFormat", "byteOrderMarkLength", "([B)I"⟩ : MethodName)) hown (mvT hZ (hw _ (List.mem_of_getElem? (i := 1) rfl))) (mvT hZ (hw _ (List.mem_of_getElem? (i := 2) rfl))) (mvT hZ (hw _ (List.mem_of_getElem? (i := 3) rfl))) (mvT hZ (hw _ (List.mem_of_getElem? (i := 4) rfl))) (by decide) (backOf (W := 0) (rm2 l Z a0 hw [] b52 k52 (6 : Int32) [(.int ((v0.toInt8.toInt32).toInt8.toInt32)), (.int ((v1.toInt8.toInt32).toInt8.toInt32)), (.int ((v2.toInt8.toInt32).toInt8.toInt32)), (.int ((p5.toInt8.toInt32).toInt8.toInt32)), (.int (((p5 >>> ((8 : Int32) &&& 31)).toInt8.toInt32).toInt8.toInt32)), (.int (((p5 >>> ((16 : Int32) &&& 31)).toInt8.toInt32).toInt8.toInt32))] ((v0.toInt8.toInt32).toInt8.toInt32) ((v1.toInt8.toInt32).toInt8.toInt32) ((v2.toInt8.toInt32).toInt8.toInt32) h64 n0 Z64 V_b52_64 (by decide) rfl rfl rfl) hZ (hw _ (List.mem_of_getElem? (i := 4) rfl)) (hw _ (List.mem_of_getElem? (i := 3) rfl)) (by decide) (by decide)) (g := (mkF m 211 #[.val (.int p0), .val (.int p1), .val (.int p2), .val (.int p3), .val (.int p4), .val (.int p5), .val (.int (6 : Int32)), .val (.int v0), .val (.int v1), .val (.int v2), .val (.ref b52), .val (.int ex), .unset] [(.ref b52)])) rfl (by rw [hml]; rfl) (argsL := [(.ref b52)]) (rest := []) (lenOf own_pd0 rfl) rfl (by show 2 * 0 + _ ≤ _; exact Nat.le_of_eq rfl) (hb hby at_211) (fun _ _ => ⟨rfl, e64, (by decide : 1 + 0 ≤ _), (by decide : 6 + 0 ≤ _)⟩)
        dsimp only [Pt.U, Pt.locs, Pt.cells, Pt.slots] at X65 l65 y65 z65 st65 hQ65
        subst l65 y65 z65
        obtain ⟨⟨r65, rfl, hr65⟩, N65q, e65⟩ := hQ65
        have N65 := Fr.app N64 N65q
        refine own_go st65 ?_
        show own_End p e below s (T65.setTop (mkF m 214 #[.val (.int p0), .val (.int p1), .val (.int p2), .val (.int p3), .val (.int p4), .val (.int p5), .val (.int (6 : Int32)), .val (.int v0), .val (.int v1), .val (.int v2), .val (.ref b52), .val (.int ex), .unset] [(.int r65)])) _ _ _
        have b0 := c_i2b v0
        have bb0 := c_i2b v0.toInt8.toInt32
        have b1 := c_i2b v1
        have bb1 := c_i2b v1.toInt8.toInt32
        have b2 := c_i2b v2
        have bb2 := c_i2b v2.toInt8.toInt32
        refine own_go (fun t k => XS.istore X65.here hx rfl (hb hby at_214) rfl (l' := #[.val (.int p0), .val (.int p1), .val (.int p2), .val (.int p3), .val (.int p4), .val (.int p5), .val (.int (6 : Int32)), .val (.int v0), .val (.int v1), .val (.int v2), .val (.ref b52), .val (.int ex), .val (.int r65)]) rfl k) ?_
        show own_End p e below s (T65.setTop (mkF m 216 #[.val (.int p0), .val (.int p1), .val (.int p2), .val (.int p3), .val (.int p4), .val (.int p5), .val (.int (6 : Int32)), .val (.int v0), .val (.int v1), .val (.int v2), .val (.ref b52), .val (.int ex), .val (.int r65)] [])) _ _ _
        refine own_go (fun t k => XS.iload X65.here hx rfl (hb hby at_216) rfl k) ?_
        show own_End p e below s (T65.setTop (mkF m 218 #[.val (.int p0), .val (.int p1), .val (.int p2), .val (.int p3), .val (.int p4), .val (.int p5), .val (.int (6 : Int32)), .val (.int v0), .val (.int v1), .val (.int v2), .val (.ref b52), .val (.int ex), .val (.int r65)] [(.int r65)])) _ _ _
        refine own_go (fun t k => XS.iload X65.here hx rfl (hb hby at_218) rfl k) ?_
        show own_End p e below s (T65.setTop (mkF m 220 #[.val (.int p0), .val (.int p1), .val (.int p2), .val (.int p3), .val (.int p4), .val (.int p5), .val (.int (6 : Int32)), .val (.int v0), .val (.int v1), .val (.int v2), .val (.ref b52), .val (.int ex), .val (.int r65)] [(.int ex), (.int r65)])) _ _ _
        refine own_go (fun t k => XS.icmpNo X65.here hx rfl (hb hby at_220) rfl (own_eq (x := r65) (y := ex) (i := r65.toInt) (j := ex.toInt) rfl rfl (by omega)).2 k) ?_
        show own_End p e below s (T65.setTop (mkF m 223 #[.val (.int p0), .val (.int p1), .val (.int p2), .val (.int p3), .val (.int p4), .val (.int p5), .val (.int (6 : Int32)), .val (.int v0), .val (.int v1), .val (.int v2), .val (.ref b52), .val (.int ex), .val (.int r65)] [])) _ _ _
        refine own_go (fun t k => XS.iconst X65.here hx rfl (hb hby at_223) k) ?_
        show own_End p e below s (T65.setTop (mkF m 224 #[.val (.int p0), .val (.int p1), .val (.int p2), .val (.int p3), .val (.int p4), .val (.int p5), .val (.int (6 : Int32)), .val (.int v0), .val (.int v1), .val (.int v2), .val (.ref b52), .val (.int ex), .val (.int r65)] [(.int (1 : Int32))])) _ _ _
        refine own_go (fun t k => XS.goto X65.here hx rfl (pc0 := 224) (pc' := 228) rfl (hb hby at_224) (by decide) (by decide) k) ?_
        show own_End p e below s (T65.setTop (mkF m 228 #[.val (.int p0), .val (.int p1), .val (.int p2), .val (.int p3), .val (.int p4), .val (.int p5), .val (.int (6 : Int32)), .val (.int v0), .val (.int v1), .val (.int v2), .val (.ref b52), .val (.int ex), .val (.int r65)] [(.int (1 : Int32))])) _ _ _
        refine own_ret X65 (v := some (.int (1 : Int32))) (fun h => by rw [Bd.returns] at h; cases h) Bd.notSynchronized (fun fs hr => retN X65 hx (t := .boolean) Bd.returns (by simp) (hb hby at_228) hr) ?_ (by decide) (by decide)
        · exact ⟨rfl, N65⟩
      refine own_go (fun t k => XS.iload X64.here hx rfl (hb hby at_170) rfl k) ?_
      show own_End p e below s (T64.setTop (mkF m 172 #[.val (.int p0), .val (.int p1), .val (.int p2), .val (.int p3), .val (.int p4), .val (.int p5), .val (.int (6 : Int32)), .val (.int v0), .val (.int v1), .val (.int v2), .val (.ref b52), .val (.int (0 : Int32)), .unset] [(.int v0)])) _ _ _
      refine own_go (fun t k => XS.sipush X64.here hx rfl (hb hby at_172) k) ?_
      show own_End p e below s (T64.setTop (mkF m 175 #[.val (.int p0), .val (.int p1), .val (.int p2), .val (.int p3), .val (.int p4), .val (.int p5), .val (.int (6 : Int32)), .val (.int v0), .val (.int v1), .val (.int v2), .val (.ref b52), .val (.int (0 : Int32)), .unset] [(.int (255 : Int32)), (.int v0)])) _ _ _
      refine own_go (fun t k => XS.iand X64.here hx rfl (hb hby at_175) rfl k) ?_
      show own_End p e below s (T64.setTop (mkF m 176 #[.val (.int p0), .val (.int p1), .val (.int p2), .val (.int p3), .val (.int p4), .val (.int p5), .val (.int (6 : Int32)), .val (.int v0), .val (.int v1), .val (.int v2), .val (.ref b52), .val (.int (0 : Int32)), .unset] [(.int (v0 &&& (255 : Int32)))])) _ _ _
      refine own_go (fun t k => XS.sipush X64.here hx rfl (hb hby at_176) k) ?_
      show own_End p e below s (T64.setTop (mkF m 179 #[.val (.int p0), .val (.int p1), .val (.int p2), .val (.int p3), .val (.int p4), .val (.int p5), .val (.int (6 : Int32)), .val (.int v0), .val (.int v1), .val (.int v2), .val (.ref b52), .val (.int (0 : Int32)), .unset] [(.int (239 : Int32)), (.int (v0 &&& (255 : Int32)))])) _ _ _
      by_cases c179_66 : (v0 &&& (255 : Int32)).toInt = 239
      · skip
        refine own_go (fun t k => XS.icmpNo X64.here hx rfl (hb hby at_179) rfl (own_eq (x := (v0 &&& (255 : Int32))) (y := (239 : Int32)) (i := (v0 &&& (255 : Int32)).toInt) (j := 239) rfl rfl c179_66).2 k) ?_
        show own_End p e below s (T64.setTop (mkF m 182 #[.val (.int p0), .val (.int p1), .val (.int p2), .val (.int p3), .val (.int p4), .val (.int p5), .val (.int (6 : Int32)), .val (.int v0), .val (.int v1), .val (.int v2), .val (.ref b52), .val (.int (0 : Int32)), .unset] [])) _ _ _
        refine own_go (fun t k => XS.iload X64.here hx rfl (hb hby at_182) rfl k) ?_
        show own_End p e below s (T64.setTop (mkF m 184 #[.val (.int p0), .val (.int p1), .val (.int p2), .val (.int p3), .val (.int p4), .val (.int p5), .val (.int (6 : Int32)), .val (.int v0), .val (.int v1), .val (.int v2), .val (.ref b52), .val (.int (0 : Int32)), .unset] [(.int v1)])) _ _ _
        refine own_go (fun t k => XS.sipush X64.here hx rfl (hb hby at_184) k) ?_
        show own_End p e below s (T64.setTop (mkF m 187 #[.val (.int p0), .val (.int p1), .val (.int p2), .val (.int p3), .val (.int p4), .val (.int p5), .val (.int (6 : Int32)), .val (.int v0), .val (.int v1), .val (.int v2), .val (.ref b52), .val (.int (0 : Int32)), .unset] [(.int (255 : Int32)), (.int v1)])) _ _ _
        refine own_go (fun t k => XS.iand X64.here hx rfl (hb hby at_187) rfl k) ?_
        show own_End p e below s (T64.setTop (mkF m 188 #[.val (.int p0), .val (.int p1), .val (.int p2), .val (.int p3), .val (.int p4), .val (.int p5), .val (.int (6 : Int32)), .val (.int v0), .val (.int v1), .val (.int v2), .val (.ref b52), .val (.int (0 : Int32)), .unset] [(.int (v1 &&& (255 : Int32)))])) _ _ _
        refine own_go (fun t k => XS.sipush X64.here hx rfl (hb hby at_188) k) ?_
        show own_End p e below s (T64.setTop (mkF m 191 #[.val (.int p0), .val (.int p1), .val (.int p2), .val (.int p3), .val (.int p4), .val (.int p5), .val (.int (6 : Int32)), .val (.int v0), .val (.int v1), .val (.int v2), .val (.ref b52), .val (.int (0 : Int32)), .unset] [(.int (187 : Int32)), (.int (v1 &&& (255 : Int32)))])) _ _ _
        by_cases c191_67 : (v1 &&& (255 : Int32)).toInt = 187
        · skip
          refine own_go (fun t k => XS.icmpNo X64.here hx rfl (hb hby at_191) rfl (own_eq (x := (v1 &&& (255 : Int32))) (y := (187 : Int32)) (i := (v1 &&& (255 : Int32)).toInt) (j := 187) rfl rfl c191_67).2 k) ?_
          show own_End p e below s (T64.setTop (mkF m 194 #[.val (.int p0), .val (.int p1), .val (.int p2), .val (.int p3), .val (.int p4), .val (.int p5), .val (.int (6 : Int32)), .val (.int v0), .val (.int v1), .val (.int v2), .val (.ref b52), .val (.int (0 : Int32)), .unset] [])) _ _ _
          refine own_go (fun t k => XS.iload X64.here hx rfl (hb hby at_194) rfl k) ?_
          show own_End p e below s (T64.setTop (mkF m 196 #[.val (.int p0), .val (.int p1), .val (.int p2), .val (.int p3), .val (.int p4), .val (.int p5), .val (.int (6 : Int32)), .val (.int v0), .val (.int v1), .val (.int v2), .val (.ref b52), .val (.int (0 : Int32)), .unset] [(.int v2)])) _ _ _
          refine own_go (fun t k => XS.sipush X64.here hx rfl (hb hby at_196) k) ?_
          show own_End p e below s (T64.setTop (mkF m 199 #[.val (.int p0), .val (.int p1), .val (.int p2), .val (.int p3), .val (.int p4), .val (.int p5), .val (.int (6 : Int32)), .val (.int v0), .val (.int v1), .val (.int v2), .val (.ref b52), .val (.int (0 : Int32)), .unset] [(.int (255 : Int32)), (.int v2)])) _ _ _
          refine own_go (fun t k => XS.iand X64.here hx rfl (hb hby at_199) rfl k) ?_
          show own_End p e below s (T64.setTop (mkF m 200 #[.val (.int p0), .val (.int p1), .val (.int p2), .val (.int p3), .val (.int p4), .val (.int p5), .val (.int (6 : Int32)), .val (.int v0), .val (.int v1), .val (.int v2), .val (.ref b52), .val (.int (0 : Int32)), .unset] [(.int (v2 &&& (255 : Int32)))])) _ _ _
          refine own_go (fun t k => XS.sipush X64.here hx rfl (hb hby at_200) k) ?_
          show own_End p e below s (T64.setTop (mkF m 203 #[.val (.int p0), .val (.int p1), .val (.int p2), .val (.int p3), .val (.int p4), .val (.int p5), .val (.int (6 : Int32)), .val (.int v0), .val (.int v1), .val (.int v2), .val (.ref b52), .val (.int (0 : Int32)), .unset] [(.int (191 : Int32)), (.int (v2 &&& (255 : Int32)))])) _ _ _
          by_cases c203_68 : (v2 &&& (255 : Int32)).toInt = 191
          · skip
            refine own_go (fun t k => XS.icmpNo X64.here hx rfl (hb hby at_203) rfl (own_eq (x := (v2 &&& (255 : Int32))) (y := (191 : Int32)) (i := (v2 &&& (255 : Int32)).toInt) (j := 191) rfl rfl c203_68).2 k) ?_
            show own_End p e below s (T64.setTop (mkF m 206 #[.val (.int p0), .val (.int p1), .val (.int p2), .val (.int p3), .val (.int p4), .val (.int p5), .val (.int (6 : Int32)), .val (.int v0), .val (.int v1), .val (.int v2), .val (.ref b52), .val (.int (0 : Int32)), .unset] [])) _ _ _
            refine own_go (fun t k => XS.iconst X64.here hx rfl (hb hby at_206) k) ?_
            show own_End p e below s (T64.setTop (mkF m 207 #[.val (.int p0), .val (.int p1), .val (.int p2), .val (.int p3), .val (.int p4), .val (.int p5), .val (.int (6 : Int32)), .val (.int v0), .val (.int v1), .val (.int v2), .val (.ref b52), .val (.int (0 : Int32)), .unset] [(.int (3 : Int32))])) _ _ _
            refine own_go (fun t k => XS.istore X64.here hx rfl (hb hby at_207) rfl (l' := #[.val (.int p0), .val (.int p1), .val (.int p2), .val (.int p3), .val (.int p4), .val (.int p5), .val (.int (6 : Int32)), .val (.int v0), .val (.int v1), .val (.int v2), .val (.ref b52), .val (.int (3 : Int32)), .unset]) rfl k) ?_
            show own_End p e below s (T64.setTop (mkF m 209 #[.val (.int p0), .val (.int p1), .val (.int p2), .val (.int p3), .val (.int p4), .val (.int p5), .val (.int (6 : Int32)), .val (.int v0), .val (.int v1), .val (.int v2), .val (.ref b52), .val (.int (3 : Int32)), .unset] [])) _ _ _
            exact J209_6 _ (by omega)
          · skip
            refine own_go (fun t k => XS.icmpYes X64.here hx rfl (pc0 := 203) (pc' := 209) rfl (hb hby at_203) rfl (own_ne (x := (v2 &&& (255 : Int32))) (y := (191 : Int32)) (i := (v2 &&& (255 : Int32)).toInt) (j := 191) rfl rfl c203_68).2 (by decide) (by decide) k) ?_
            show own_End p e below s (T64.setTop (mkF m 209 #[.val (.int p0), .val (.int p1), .val (.int p2), .val (.int p3), .val (.int p4), .val (.int p5), .val (.int (6 : Int32)), .val (.int v0), .val (.int v1), .val (.int v2), .val (.ref b52), .val (.int (0 : Int32)), .unset] [])) _ _ _
            exact J209_6 _ (by omega)
        · skip
          refine own_go (fun t k => XS.icmpYes X64.here hx rfl (pc0 := 191) (pc' := 209) rfl (hb hby at_191) rfl (own_ne (x := (v1 &&& (255 : Int32))) (y := (187 : Int32)) (i := (v1 &&& (255 : Int32)).toInt) (j := 187) rfl rfl c191_67).2 (by decide) (by decide) k) ?_
          show own_End p e below s (T64.setTop (mkF m 209 #[.val (.int p0), .val (.int p1), .val (.int p2), .val (.int p3), .val (.int p4), .val (.int p5), .val (.int (6 : Int32)), .val (.int v0), .val (.int v1), .val (.int v2), .val (.ref b52), .val (.int (0 : Int32)), .unset] [])) _ _ _
          exact J209_6 _ (by omega)
      · skip
        refine own_go (fun t k => XS.icmpYes X64.here hx rfl (pc0 := 179) (pc' := 209) rfl (hb hby at_179) rfl (own_ne (x := (v0 &&& (255 : Int32))) (y := (239 : Int32)) (i := (v0 &&& (255 : Int32)).toInt) (j := 239) rfl rfl c179_66).2 (by decide) (by decide) k) ?_
        show own_End p e below s (T64.setTop (mkF m 209 #[.val (.int p0), .val (.int p1), .val (.int p2), .val (.int p3), .val (.int p4), .val (.int p5), .val (.int (6 : Int32)), .val (.int v0), .val (.int v1), .val (.int v2), .val (.ref b52), .val (.int (0 : Int32)), .unset] [])) _ _ _
        exact J209_6 _ (by omega)
    · skip
      rw [hm]
      show own_End p e below s (s₁.setTop (mkF m 54 #[.val (.int p0), .val (.int p1), .val (.int p2), .val (.int p3), .val (.int p4), .val (.int p5), .val (.int (7 : Int32)), .val (.int v0), .val (.int v1), .val (.int v2), .unset, .unset, .unset] [])) _ _ _
      refine own_go (fun t k => XS.iload X0.here hx rfl (hb hby at_54) rfl k) ?_
      show own_End p e below s (s₁.setTop (mkF m 56 #[.val (.int p0), .val (.int p1), .val (.int p2), .val (.int p3), .val (.int p4), .val (.int p5), .val (.int (7 : Int32)), .val (.int v0), .val (.int v1), .val (.int v2), .unset, .unset, .unset] [(.int (7 : Int32))])) _ _ _
      obtain ⟨T69, h69, k69, X69, e69, E69, A69, st69⟩ := newP X0 hx hZ (hw _ (List.mem_of_getElem? (i := 0) rfl)) e0 (g := (mkF m 56 #[.val (.int p0), .val (.int p1), .val (.int p2), .val (.int p3), .val (.int p4), .val (.int p5), .val (.int (7 : Int32)), .val (.int v0), .val (.int v1), .val (.int v2), .unset, .unset, .unset] [(.int (7 : Int32))])) rfl (hb hby at_56) rfl (by decide) (cap := 7) (by decide) (by decide) (by decide) (by decide)
      obtain ⟨b69, g69⟩ : ∃ z, z = h0.size := ⟨_, rfl⟩
      rw [← g69] at A69 st69
      have g_b69 : n0 ≤ b69 := Nat.le_trans Z0 (Nat.le_of_eq g69.symm)
      have Z69 : n0 ≤ h69.size := Nat.le_trans Z0 E69.1
      have V_b69 : Arv Z h69 b69 k69 .byte (7 : Int32) [(.int (0 : Int32)), (.int (0 : Int32)), (.int (0 : Int32)), (.int (0 : Int32)), (.int (0 : Int32)), (.int (0 : Int32)), (.int (0 : Int32))] (.int (0 : Int32)) := (Arv.new A69 (by decide)).pad (pad_rep [] (.int (0 : Int32)) 7)
      refine own_go st69 ?_
      show own_End p e below s (T69.setTop (mkF m 58 #[.val (.int p0), .val (.int p1), .val (.int p2), .val (.int p3), .val (.int p4), .val (.int p5), .val (.int (7 : Int32)), .val (.int v0), .val (.int v1), .val (.int v2), .unset, .unset, .unset] [(.ref b69)])) _ _ _
      refine own_go (fun t k => XS.astore X69.here hx rfl (hb hby at_58) rfl rfl (l' := #[.val (.int p0), .val (.int p1), .val (.int p2), .val (.int p3), .val (.int p4), .val (.int p5), .val (.int (7 : Int32)), .val (.int v0), .val (.int v1), .val (.int v2), .val (.ref b69), .unset, .unset]) rfl k) ?_
      show own_End p e below s (T69.setTop (mkF m 60 #[.val (.int p0), .val (.int p1), .val (.int p2), .val (.int p3), .val (.int p4), .val (.int p5), .val (.int (7 : Int32)), .val (.int v0), .val (.int v1), .val (.int v2), .val (.ref b69), .unset, .unset] [])) _ _ _
      refine own_go (fun t k => XS.iload X69.here hx rfl (hb hby at_60) rfl k) ?_
      show own_End p e below s (T69.setTop (mkF m 62 #[.val (.int p0), .val (.int p1), .val (.int p2), .val (.int p3), .val (.int p4), .val (.int p5), .val (.int (7 : Int32)), .val (.int v0), .val (.int v1), .val (.int v2), .val (.ref b69), .unset, .unset] [(.int (7 : Int32))])) _ _ _
      refine own_go (fun t k => XS.ifNo X69.here hx rfl (hb hby at_62) rfl ((if0 _ _).trans (own_tlt (x := (0 : Int32)) (y := (7 : Int32)) (i := 0) (j := 7) rfl rfl (by decide)).2.2.2) k) ?_
      show own_End p e below s (T69.setTop (mkF m 65 #[.val (.int p0), .val (.int p1), .val (.int p2), .val (.int p3), .val (.int p4), .val (.int p5), .val (.int (7 : Int32)), .val (.int v0), .val (.int v1), .val (.int v2), .val (.ref b69), .unset, .unset] [])) _ _ _
      refine own_go (fun t k => XS.aload X69.here hx rfl (hb hby at_65) rfl rfl k) ?_
      show own_End p e below s (T69.setTop (mkF m 67 #[.val (.int p0), .val (.int p1), .val (.int p2), .val (.int p3), .val (.int p4), .val (.int p5), .val (.int (7 : Int32)), .val (.int v0), .val (.int v1), .val (.int v2), .val (.ref b69), .unset, .unset] [(.ref b69)])) _ _ _
      refine own_go (fun t k => XS.iconst X69.here hx rfl (hb hby at_67) k) ?_
      show own_End p e below s (T69.setTop (mkF m 68 #[.val (.int p0), .val (.int p1), .val (.int p2), .val (.int p3), .val (.int p4), .val (.int p5), .val (.int (7 : Int32)), .val (.int v0), .val (.int v1), .val (.int v2), .val (.ref b69), .unset, .unset] [(.int (0 : Int32)), (.ref b69)])) _ _ _
      refine own_go (fun t k => XS.iload X69.here hx rfl (hb hby at_68) rfl k) ?_
      show own_End p e below s (T69.setTop (mkF m 70 #[.val (.int p0), .val (.int p1), .val (.int p2), .val (.int p3), .val (.int p4), .val (.int p5), .val (.int (7 : Int32)), .val (.int v0), .val (.int v1), .val (.int v2), .val (.ref b69), .unset, .unset] [(.int v0), (.int (0 : Int32)), (.ref b69)])) _ _ _
      refine own_go (fun t k => XS.i2b X69.here hx rfl (hb hby at_70) rfl k) ?_
      show own_End p e below s (T69.setTop (mkF m 71 #[.val (.int p0), .val (.int p1), .val (.int p2), .val (.int p3), .val (.int p4), .val (.int p5), .val (.int (7 : Int32)), .val (.int v0), .val (.int v1), .val (.int v2), .val (.ref b69), .unset, .unset] [(.int (v0.toInt8.toInt32)), (.int (0 : Int32)), (.ref b69)])) _ _ _
      obtain ⟨cl70, Ar70, q70, S70, M70, Hh70, G70⟩ := id V_b69
      have hin70 : ¬ ((0 : Int32) < 0 ∨ cl70.slots.size ≤ ((0 : Int32)).toNatClampNeg) := inb_of S70 ⟨by decide, by decide⟩
      obtain ⟨T71, h71, X71, e71, W71, st71⟩ := stB X69 hx hZ e69 Ar70 (j := (0 : Int32)) hin70 (g := (mkF m 71 #[.val (.int p0), .val (.int p1), .val (.int p2), .val (.int p3), .val (.int p4), .val (.int p5), .val (.int (7 : Int32)), .val (.int v0), .val (.int v1), .val (.int v2), .val (.ref b69), .unset, .unset] [(.int (v0.toInt8.toInt32)), (.int (0 : Int32)), (.ref b69)])) rfl rfl (hb hby at_71)
      have V_b69_71 : Arv Z h71 b69 k69 .byte (7 : Int32) [(.int ((v0.toInt8.toInt32).toInt8.toInt32)), (.int (0 : Int32)), (.int (0 : Int32)), (.int (0 : Int32)), (.int (0 : Int32)), (.int (0 : Int32)), (.int (0 : Int32))] (.int (0 : Int32)) := Arv.set Ar70 q70 S70 M70 Hh70 G70 (fits_nar_byte _) W71 0 rfl (Nat.le_of_ble_eq_true rfl)
      have N71 := Fr.snoc X71 N0 g_b69
      have Z71 : n0 ≤ h71.size := Nat.le_trans Z69 (Keep.of_wr W71).1
      refine own_go st71 ?_
      show own_End p e below s (T71.setTop (mkF m 72 #[.val (.int p0), .val (.int p1), .val (.int p2), .val (.int p3), .val (.int p4), .val (.int p5), .val (.int (7 : Int32)), .val (.int v0), .val (.int v1), .val (.int v2), .val (.ref b69), .unset, .unset] [])) _ _ _
      refine own_go (fun t k => XS.iload X71.here hx rfl (hb hby at_72) rfl k) ?_
      show own_End p e below s (T71.setTop (mkF m 74 #[.val (.int p0), .val (.int p1), .val (.int p2), .val (.int p3), .val (.int p4), .val (.int p5), .val (.int (7 : Int32)), .val (.int v0), .val (.int v1), .val (.int v2), .val (.ref b69), .unset, .unset] [(.int (7 : Int32))])) _ _ _
      refine own_go (fun t k => XS.iconst X71.here hx rfl (hb hby at_74) k) ?_
      show own_End p e below s (T71.setTop (mkF m 75 #[.val (.int p0), .val (.int p1), .val (.int p2), .val (.int p3), .val (.int p4), .val (.int p5), .val (.int (7 : Int32)), .val (.int v0), .val (.int v1), .val (.int v2), .val (.ref b69), .unset, .unset] [(.int (1 : Int32)), (.int (7 : Int32))])) _ _ _
      refine own_go (fun t k => XS.icmpNo X71.here hx rfl (hb hby at_75) rfl (own_tlt (x := (1 : Int32)) (y := (7 : Int32)) (i := 1) (j := 7) rfl rfl (by decide)).2.2.2 k) ?_
      show own_End p e below s (T71.setTop (mkF m 78 #[.val (.int p0), .val (.int p1), .val (.int p2), .val (.int p3), .val (.int p4), .val (.int p5), .val (.int (7 : Int32)), .val (.int v0), .val (.int v1), .val (.int v2), .val (.ref b69), .unset, .unset] [])) _ _ _
      refine own_go (fun t k => XS.aload X71.here hx rfl (hb hby at_78) rfl rfl k) ?_
      show own_End p e below s (T71.setTop (mkF m 80 #[.val (.int p0), .val (.int p1), .val (.int p2), .val (.int p3), .val (.int p4), .val (.int p5), .val (.int (7 : Int32)), .val (.int v0), .val (.int v1), .val (.int v2), .val (.ref b69), .unset, .unset] [(.ref b69)])) _ _ _
      refine own_go (fun t k => XS.iconst X71.here hx rfl (hb hby at_80) k) ?_
      show own_End p e below s (T71.setTop (mkF m 81 #[.val (.int p0), .val (.int p1), .val (.int p2), .val (.int p3), .val (.int p4), .val (.int p5), .val (.int (7 : Int32)), .val (.int v0), .val (.int v1), .val (.int v2), .val (.ref b69), .unset, .unset] [(.int (1 : Int32)), (.ref b69)])) _ _ _
      refine own_go (fun t k => XS.iload X71.here hx rfl (hb hby at_81) rfl k) ?_
      show own_End p e below s (T71.setTop (mkF m 83 #[.val (.int p0), .val (.int p1), .val (.int p2), .val (.int p3), .val (.int p4), .val (.int p5), .val (.int (7 : Int32)), .val (.int v0), .val (.int v1), .val (.int v2), .val (.ref b69), .unset, .unset] [(.int v1), (.int (1 : Int32)), (.ref b69)])) _ _ _
      refine own_go (fun t k => XS.i2b X71.here hx rfl (hb hby at_83) rfl k) ?_
      show own_End p e below s (T71.setTop (mkF m 84 #[.val (.int p0), .val (.int p1), .val (.int p2), .val (.int p3), .val (.int p4), .val (.int p5), .val (.int (7 : Int32)), .val (.int v0), .val (.int v1), .val (.int v2), .val (.ref b69), .unset, .unset] [(.int (v1.toInt8.toInt32)), (.int (1 : Int32)), (.ref b69)])) _ _ _
      obtain ⟨cl72, Ar72, q72, S72, M72, Hh72, G72⟩ := id V_b69_71
      have hin72 : ¬ ((1 : Int32) < 0 ∨ cl72.slots.size ≤ ((1 : Int32)).toNatClampNeg) := inb_of S72 ⟨by decide, by decide⟩
      obtain ⟨T73, h73, X73, e73, W73, st73⟩ := stB X71 hx hZ e71 Ar72 (j := (1 : Int32)) hin72 (g := (mkF m 84 #[.val (.int p0), .val (.int p1), .val (.int p2), .val (.int p3), .val (.int p4), .val (.int p5), .val (.int (7 : Int32)), .val (.int v0), .val (.int v1), .val (.int v2), .val (.ref b69), .unset, .unset] [(.int (v1.toInt8.toInt32)), (.int (1 : Int32)), (.ref b69)])) rfl rfl (hb hby at_84)
      have V_b69_73 : Arv Z h73 b69 k69 .byte (7 : Int32) [(.int ((v0.toInt8.toInt32).toInt8.toInt32)), (.int ((v1.toInt8.toInt32).toInt8.toInt32)), (.int (0 : Int32)), (.int (0 : Int32)), (.int (0 : Int32)), (.int (0 : Int32)), (.int (0 : Int32))] (.int (0 : Int32)) := Arv.set Ar72 q72 S72 M72 Hh72 G72 (fits_nar_byte _) W73 1 rfl (Nat.le_of_ble_eq_true rfl)
      have N73 := Fr.snoc X73 N71 g_b69
      have Z73 : n0 ≤ h73.size := Nat.le_trans Z71 (Keep.of_wr W73).1
      refine own_go st73 ?_
      show own_End p e below s (T73.setTop (mkF m 85 #[.val (.int p0), .val (.int p1), .val (.int p2), .val (.int p3), .val (.int p4), .val (.int p5), .val (.int (7 : Int32)), .val (.int v0), .val (.int v1), .val (.int v2), .val (.ref b69), .unset, .unset] [])) _ _ _
      refine own_go (fun t k => XS.iload X73.here hx rfl (hb hby at_85) rfl k) ?_
      show own_End p e below s (T73.setTop (mkF m 87 #[.val (.int p0), .val (.int p1), .val (.int p2), .val (.int p3), .val (.int p4), .val (.int p5), .val (.int (7 : Int32)), .val (.int v0), .val (.int v1), .val (.int v2), .val (.ref b69), .unset, .unset] [(.int (7 : Int32))])) _ _ _
      refine own_go (fun t k => XS.iconst X73.here hx rfl (hb hby at_87) k) ?_
      show own_End p e below s (T73.setTop (mkF m 88 #[.val (.int p0), .val (.int p1), .val (.int p2), .val (.int p3), .val (.int p4), .val (.int p5), .val (.int (7 : Int32)), .val (.int v0), .val (.int v1), .val (.int v2), .val (.ref b69), .unset, .unset] [(.int (2 : Int32)), (.int (7 : Int32))])) _ _ _
      refine own_go (fun t k => XS.icmpNo X73.here hx rfl (hb hby at_88) rfl (own_tlt (x := (2 : Int32)) (y := (7 : Int32)) (i := 2) (j := 7) rfl rfl (by decide)).2.2.2 k) ?_
      show own_End p e below s (T73.setTop (mkF m 91 #[.val (.int p0), .val (.int p1), .val (.int p2), .val (.int p3), .val (.int p4), .val (.int p5), .val (.int (7 : Int32)), .val (.int v0), .val (.int v1), .val (.int v2), .val (.ref b69), .unset, .unset] [])) _ _ _
      refine own_go (fun t k => XS.aload X73.here hx rfl (hb hby at_91) rfl rfl k) ?_
      show own_End p e below s (T73.setTop (mkF m 93 #[.val (.int p0), .val (.int p1), .val (.int p2), .val (.int p3), .val (.int p4), .val (.int p5), .val (.int (7 : Int32)), .val (.int v0), .val (.int v1), .val (.int v2), .val (.ref b69), .unset, .unset] [(.ref b69)])) _ _ _
      refine own_go (fun t k => XS.iconst X73.here hx rfl (hb hby at_93) k) ?_
      show own_End p e below s (T73.setTop (mkF m 94 #[.val (.int p0), .val (.int p1), .val (.int p2), .val (.int p3), .val (.int p4), .val (.int p5), .val (.int (7 : Int32)), .val (.int v0), .val (.int v1), .val (.int v2), .val (.ref b69), .unset, .unset] [(.int (2 : Int32)), (.ref b69)])) _ _ _
      refine own_go (fun t k => XS.iload X73.here hx rfl (hb hby at_94) rfl k) ?_
      show own_End p e below s (T73.setTop (mkF m 96 #[.val (.int p0), .val (.int p1), .val (.int p2), .val (.int p3), .val (.int p4), .val (.int p5), .val (.int (7 : Int32)), .val (.int v0), .val (.int v1), .val (.int v2), .val (.ref b69), .unset, .unset] [(.int v2), (.int (2 : Int32)), (.ref b69)])) _ _ _
      refine own_go (fun t k => XS.i2b X73.here hx rfl (hb hby at_96) rfl k) ?_
      show own_End p e below s (T73.setTop (mkF m 97 #[.val (.int p0), .val (.int p1), .val (.int p2), .val (.int p3), .val (.int p4), .val (.int p5), .val (.int (7 : Int32)), .val (.int v0), .val (.int v1), .val (.int v2), .val (.ref b69), .unset, .unset] [(.int (v2.toInt8.toInt32)), (.int (2 : Int32)), (.ref b69)])) _ _ _
      obtain ⟨cl74, Ar74, q74, S74, M74, Hh74, G74⟩ := id V_b69_73
      have hin74 : ¬ ((2 : Int32) < 0 ∨ cl74.slots.size ≤ ((2 : Int32)).toNatClampNeg) := inb_of S74 ⟨by decide, by decide⟩
      obtain ⟨T75, h75, X75, e75, W75, st75⟩ := stB X73 hx hZ e73 Ar74 (j := (2 : Int32)) hin74 (g := (mkF m 97 #[.val (.int p0), .val (.int p1), .val (.int p2), .val (.int p3), .val (.int p4), .val (.int p5), .val (.int (7 : Int32)), .val (.int v0), .val (.int v1), .val (.int v2), .val (.ref b69), .unset, .unset] [(.int (v2.toInt8.toInt32)), (.int (2 : Int32)), (.ref b69)])) rfl rfl (hb hby at_97)
      have V_b69_75 : Arv Z h75 b69 k69 .byte (7 : Int32) [(.int ((v0.toInt8.toInt32).toInt8.toInt32)), (.int ((v1.toInt8.toInt32).toInt8.toInt32)), (.int ((v2.toInt8.toInt32).toInt8.toInt32)), (.int (0 : Int32)), (.int (0 : Int32)), (.int (0 : Int32)), (.int (0 : Int32))] (.int (0 : Int32)) := Arv.set Ar74 q74 S74 M74 Hh74 G74 (fits_nar_byte _) W75 2 rfl (Nat.le_of_ble_eq_true rfl)
      have N75 := Fr.snoc X75 N73 g_b69
      have Z75 : n0 ≤ h75.size := Nat.le_trans Z73 (Keep.of_wr W75).1
      refine own_go st75 ?_
      show own_End p e below s (T75.setTop (mkF m 98 #[.val (.int p0), .val (.int p1), .val (.int p2), .val (.int p3), .val (.int p4), .val (.int p5), .val (.int (7 : Int32)), .val (.int v0), .val (.int v1), .val (.int v2), .val (.ref b69), .unset, .unset] [])) _ _ _
      refine own_go (fun t k => XS.iload X75.here hx rfl (hb hby at_98) rfl k) ?_
      show own_End p e below s (T75.setTop (mkF m 100 #[.val (.int p0), .val (.int p1), .val (.int p2), .val (.int p3), .val (.int p4), .val (.int p5), .val (.int (7 : Int32)), .val (.int v0), .val (.int v1), .val (.int v2), .val (.ref b69), .unset, .unset] [(.int (7 : Int32))])) _ _ _
      refine own_go (fun t k => XS.iconst X75.here hx rfl (hb hby at_100) k) ?_
      show own_End p e below s (T75.setTop (mkF m 101 #[.val (.int p0), .val (.int p1), .val (.int p2), .val (.int p3), .val (.int p4), .val (.int p5), .val (.int (7 : Int32)), .val (.int v0), .val (.int v1), .val (.int v2), .val (.ref b69), .unset, .unset] [(.int (3 : Int32)), (.int (7 : Int32))])) _ _ _
      refine own_go (fun t k => XS.icmpNo X75.here hx rfl (hb hby at_101) rfl (own_tlt (x := (3 : Int32)) (y := (7 : Int32)) (i := 3) (j := 7) rfl rfl (by decide)).2.2.2 k) ?_
      show own_End p e below s (T75.setTop (mkF m 104 #[.val (.int p0), .val (.int p1), .val (.int p2), .val (.int p3), .val (.int p4), .val (.int p5), .val (.int (7 : Int32)), .val (.int v0), .val (.int v1), .val (.int v2), .val (.ref b69), .unset, .unset] [])) _ _ _
      refine own_go (fun t k => XS.aload X75.here hx rfl (hb hby at_104) rfl rfl k) ?_
      show own_End p e below s (T75.setTop (mkF m 106 #[.val (.int p0), .val (.int p1), .val (.int p2), .val (.int p3), .val (.int p4), .val (.int p5), .val (.int (7 : Int32)), .val (.int v0), .val (.int v1), .val (.int v2), .val (.ref b69), .unset, .unset] [(.ref b69)])) _ _ _
      refine own_go (fun t k => XS.iconst X75.here hx rfl (hb hby at_106) k) ?_
      show own_End p e below s (T75.setTop (mkF m 107 #[.val (.int p0), .val (.int p1), .val (.int p2), .val (.int p3), .val (.int p4), .val (.int p5), .val (.int (7 : Int32)), .val (.int v0), .val (.int v1), .val (.int v2), .val (.ref b69), .unset, .unset] [(.int (3 : Int32)), (.ref b69)])) _ _ _
      refine own_go (fun t k => XS.iload X75.here hx rfl (hb hby at_107) rfl k) ?_
      show own_End p e below s (T75.setTop (mkF m 109 #[.val (.int p0), .val (.int p1), .val (.int p2), .val (.int p3), .val (.int p4), .val (.int p5), .val (.int (7 : Int32)), .val (.int v0), .val (.int v1), .val (.int v2), .val (.ref b69), .unset, .unset] [(.int p5), (.int (3 : Int32)), (.ref b69)])) _ _ _
      refine own_go (fun t k => XS.i2b X75.here hx rfl (hb hby at_109) rfl k) ?_
      show own_End p e below s (T75.setTop (mkF m 110 #[.val (.int p0), .val (.int p1), .val (.int p2), .val (.int p3), .val (.int p4), .val (.int p5), .val (.int (7 : Int32)), .val (.int v0), .val (.int v1), .val (.int v2), .val (.ref b69), .unset, .unset] [(.int (p5.toInt8.toInt32)), (.int (3 : Int32)), (.ref b69)])) _ _ _
      obtain ⟨cl76, Ar76, q76, S76, M76, Hh76, G76⟩ := id V_b69_75
      have hin76 : ¬ ((3 : Int32) < 0 ∨ cl76.slots.size ≤ ((3 : Int32)).toNatClampNeg) := inb_of S76 ⟨by decide, by decide⟩
      obtain ⟨T77, h77, X77, e77, W77, st77⟩ := stB X75 hx hZ e75 Ar76 (j := (3 : Int32)) hin76 (g := (mkF m 110 #[.val (.int p0), .val (.int p1), .val (.int p2), .val (.int p3), .val (.int p4), .val (.int p5), .val (.int (7 : Int32)), .val (.int v0), .val (.int v1), .val (.int v2), .val (.ref b69), .unset, .unset] [(.int (p5.toInt8.toInt32)), (.int (3 : Int32)), (.ref b69)])) rfl rfl (hb hby at_110)
      have V_b69_77 : Arv Z h77 b69 k69 .byte (7 : Int32) [(.int ((v0.toInt8.toInt32).toInt8.toInt32)), (.int ((v1.toInt8.toInt32).toInt8.toInt32)), (.int ((v2.toInt8.toInt32).toInt8.toInt32)), (.int ((p5.toInt8.toInt32).toInt8.toInt32)), (.int (0 : Int32)), (.int (0 : Int32)), (.int (0 : Int32))] (.int (0 : Int32)) := Arv.set Ar76 q76 S76 M76 Hh76 G76 (fits_nar_byte _) W77 3 rfl (Nat.le_of_ble_eq_true rfl)
      have N77 := Fr.snoc X77 N75 g_b69
      have Z77 : n0 ≤ h77.size := Nat.le_trans Z75 (Keep.of_wr W77).1
      refine own_go st77 ?_
      show own_End p e below s (T77.setTop (mkF m 111 #[.val (.int p0), .val (.int p1), .val (.int p2), .val (.int p3), .val (.int p4), .val (.int p5), .val (.int (7 : Int32)), .val (.int v0), .val (.int v1), .val (.int v2), .val (.ref b69), .unset, .unset] [])) _ _ _
      refine own_go (fun t k => XS.iload X77.here hx rfl (hb hby at_111) rfl k) ?_
      show own_End p e below s (T77.setTop (mkF m 113 #[.val (.int p0), .val (.int p1), .val (.int p2), .val (.int p3), .val (.int p4), .val (.int p5), .val (.int (7 : Int32)), .val (.int v0), .val (.int v1), .val (.int v2), .val (.ref b69), .unset, .unset] [(.int (7 : Int32))])) _ _ _
      refine own_go (fun t k => XS.iconst X77.here hx rfl (hb hby at_113) k) ?_
      show own_End p e below s (T77.setTop (mkF m 114 #[.val (.int p0), .val (.int p1), .val (.int p2), .val (.int p3), .val (.int p4), .val (.int p5), .val (.int (7 : Int32)), .val (.int v0), .val (.int v1), .val (.int v2), .val (.ref b69), .unset, .unset] [(.int (4 : Int32)), (.int (7 : Int32))])) _ _ _
      refine own_go (fun t k => XS.icmpNo X77.here hx rfl (hb hby at_114) rfl (own_tlt (x := (4 : Int32)) (y := (7 : Int32)) (i := 4) (j := 7) rfl rfl (by decide)).2.2.2 k) ?_
      show own_End p e below s (T77.setTop (mkF m 117 #[.val (.int p0), .val (.int p1), .val (.int p2), .val (.int p3), .val (.int p4), .val (.int p5), .val (.int (7 : Int32)), .val (.int v0), .val (.int v1), .val (.int v2), .val (.ref b69), .unset, .unset] [])) _ _ _
      refine own_go (fun t k => XS.aload X77.here hx rfl (hb hby at_117) rfl rfl k) ?_
      show own_End p e below s (T77.setTop (mkF m 119 #[.val (.int p0), .val (.int p1), .val (.int p2), .val (.int p3), .val (.int p4), .val (.int p5), .val (.int (7 : Int32)), .val (.int v0), .val (.int v1), .val (.int v2), .val (.ref b69), .unset, .unset] [(.ref b69)])) _ _ _
      refine own_go (fun t k => XS.iconst X77.here hx rfl (hb hby at_119) k) ?_
      show own_End p e below s (T77.setTop (mkF m 120 #[.val (.int p0), .val (.int p1), .val (.int p2), .val (.int p3), .val (.int p4), .val (.int p5), .val (.int (7 : Int32)), .val (.int v0), .val (.int v1), .val (.int v2), .val (.ref b69), .unset, .unset] [(.int (4 : Int32)), (.ref b69)])) _ _ _
      refine own_go (fun t k => XS.iload X77.here hx rfl (hb hby at_120) rfl k) ?_
      show own_End p e below s (T77.setTop (mkF m 122 #[.val (.int p0), .val (.int p1), .val (.int p2), .val (.int p3), .val (.int p4), .val (.int p5), .val (.int (7 : Int32)), .val (.int v0), .val (.int v1), .val (.int v2), .val (.ref b69), .unset, .unset] [(.int p5), (.int (4 : Int32)), (.ref b69)])) _ _ _
      refine own_go (fun t k => XS.bipush X77.here hx rfl (hb hby at_122) k) ?_
      show own_End p e below s (T77.setTop (mkF m 124 #[.val (.int p0), .val (.int p1), .val (.int p2), .val (.int p3), .val (.int p4), .val (.int p5), .val (.int (7 : Int32)), .val (.int v0), .val (.int v1), .val (.int v2), .val (.ref b69), .unset, .unset] [(.int (8 : Int32)), (.int p5), (.int (4 : Int32)), (.ref b69)])) _ _ _
      refine own_go (fun t k => XS.ishr X77.here hx rfl (hb hby at_124) rfl k) ?_
      show own_End p e below s (T77.setTop (mkF m 125 #[.val (.int p0), .val (.int p1), .val (.int p2), .val (.int p3), .val (.int p4), .val (.int p5), .val (.int (7 : Int32)), .val (.int v0), .val (.int v1), .val (.int v2), .val (.ref b69), .unset, .unset] [(.int (p5 >>> ((8 : Int32) &&& 31))), (.int (4 : Int32)), (.ref b69)])) _ _ _
      refine own_go (fun t k => XS.i2b X77.here hx rfl (hb hby at_125) rfl k) ?_
      show own_End p e below s (T77.setTop (mkF m 126 #[.val (.int p0), .val (.int p1), .val (.int p2), .val (.int p3), .val (.int p4), .val (.int p5), .val (.int (7 : Int32)), .val (.int v0), .val (.int v1), .val (.int v2), .val (.ref b69), .unset, .unset] [(.int ((p5 >>> ((8 : Int32) &&& 31)).toInt8.toInt32)), (.int (4 : Int32)), (.ref b69)])) _ _ _
      obtain ⟨cl78, Ar78, q78, S78, M78, Hh78, G78⟩ := id V_b69_77
      have hin78 : ¬ ((4 : Int32) < 0 ∨ cl78.slots.size ≤ ((4 : Int32)).toNatClampNeg) := inb_of S78 ⟨by decide, by decide⟩
      obtain ⟨T79, h79, X79, e79, W79, st79⟩ := stB X77 hx hZ e77 Ar78 (j := (4 : Int32)) hin78 (g := (mkF m 126 #[.val (.int p0), .val (.int p1), .val (.int p2), .val (.int p3), .val (.int p4), .val (.int p5), .val (.int (7 : Int32)), .val (.int v0), .val (.int v1), .val (.int v2), .val (.ref b69), .unset, .unset] [(.int ((p5 >>> ((8 : Int32) &&& 31)).toInt8.toInt32)), (.int (4 : Int32)), (.ref b69)])) rfl rfl (hb hby at_126)
      have V_b69_79 : Arv Z h79 b69 k69 .byte (7 : Int32) [(.int ((v0.toInt8.toInt32).toInt8.toInt32)), (.int ((v1.toInt8.toInt32).toInt8.toInt32)), (.int ((v2.toInt8.toInt32).toInt8.toInt32)), (.int ((p5.toInt8.toInt32).toInt8.toInt32)), (.int (((p5 >>> ((8 : Int32) &&& 31)).toInt8.toInt32).toInt8.toInt32)), (.int (0 : Int32)), (.int (0 : Int32))] (.int (0 : Int32)) := Arv.set Ar78 q78 S78 M78 Hh78 G78 (fits_nar_byte _) W79 4 rfl (Nat.le_of_ble_eq_true rfl)
      have N79 := Fr.snoc X79 N77 g_b69
      have Z79 : n0 ≤ h79.size := Nat.le_trans Z77 (Keep.of_wr W79).1
      refine own_go st79 ?_
      show own_End p e below s (T79.setTop (mkF m 127 #[.val (.int p0), .val (.int p1), .val (.int p2), .val (.int p3), .val (.int p4), .val (.int p5), .val (.int (7 : Int32)), .val (.int v0), .val (.int v1), .val (.int v2), .val (.ref b69), .unset, .unset] [])) _ _ _
      refine own_go (fun t k => XS.iload X79.here hx rfl (hb hby at_127) rfl k) ?_
      show own_End p e below s (T79.setTop (mkF m 129 #[.val (.int p0), .val (.int p1), .val (.int p2), .val (.int p3), .val (.int p4), .val (.int p5), .val (.int (7 : Int32)), .val (.int v0), .val (.int v1), .val (.int v2), .val (.ref b69), .unset, .unset] [(.int (7 : Int32))])) _ _ _
      refine own_go (fun t k => XS.iconst X79.here hx rfl (hb hby at_129) k) ?_
      show own_End p e below s (T79.setTop (mkF m 130 #[.val (.int p0), .val (.int p1), .val (.int p2), .val (.int p3), .val (.int p4), .val (.int p5), .val (.int (7 : Int32)), .val (.int v0), .val (.int v1), .val (.int v2), .val (.ref b69), .unset, .unset] [(.int (5 : Int32)), (.int (7 : Int32))])) _ _ _
      refine own_go (fun t k => XS.icmpNo X79.here hx rfl (hb hby at_130) rfl (own_tlt (x := (5 : Int32)) (y := (7 : Int32)) (i := 5) (j := 7) rfl rfl (by decide)).2.2.2 k) ?_
      show own_End p e below s (T79.setTop (mkF m 133 #[.val (.int p0), .val (.int p1), .val (.int p2), .val (.int p3), .val (.int p4), .val (.int p5), .val (.int (7 : Int32)), .val (.int v0), .val (.int v1), .val (.int v2), .val (.ref b69), .unset, .unset] [])) _ _ _
      refine own_go (fun t k => XS.aload X79.here hx rfl (hb hby at_133) rfl rfl k) ?_
      show own_End p e below s (T79.setTop (mkF m 135 #[.val (.int p0), .val (.int p1), .val (.int p2), .val (.int p3), .val (.int p4), .val (.int p5), .val (.int (7 : Int32)), .val (.int v0), .val (.int v1), .val (.int v2), .val (.ref b69), .unset, .unset] [(.ref b69)])) _ _ _
      refine own_go (fun t k => XS.iconst X79.here hx rfl (hb hby at_135) k) ?_
      show own_End p e below s (T79.setTop (mkF m 136 #[.val (.int p0), .val (.int p1), .val (.int p2), .val (.int p3), .val (.int p4), .val (.int p5), .val (.int (7 : Int32)), .val (.int v0), .val (.int v1), .val (.int v2), .val (.ref b69), .unset, .unset] [(.int (5 : Int32)), (.ref b69)])) _ _ _
      refine own_go (fun t k => XS.iload X79.here hx rfl (hb hby at_136) rfl k) ?_
      show own_End p e below s (T79.setTop (mkF m 138 #[.val (.int p0), .val (.int p1), .val (.int p2), .val (.int p3), .val (.int p4), .val (.int p5), .val (.int (7 : Int32)), .val (.int v0), .val (.int v1), .val (.int v2), .val (.ref b69), .unset, .unset] [(.int p5), (.int (5 : Int32)), (.ref b69)])) _ _ _
      refine own_go (fun t k => XS.bipush X79.here hx rfl (hb hby at_138) k) ?_
      show own_End p e below s (T79.setTop (mkF m 140 #[.val (.int p0), .val (.int p1), .val (.int p2), .val (.int p3), .val (.int p4), .val (.int p5), .val (.int (7 : Int32)), .val (.int v0), .val (.int v1), .val (.int v2), .val (.ref b69), .unset, .unset] [(.int (16 : Int32)), (.int p5), (.int (5 : Int32)), (.ref b69)])) _ _ _
      refine own_go (fun t k => XS.ishr X79.here hx rfl (hb hby at_140) rfl k) ?_
      show own_End p e below s (T79.setTop (mkF m 141 #[.val (.int p0), .val (.int p1), .val (.int p2), .val (.int p3), .val (.int p4), .val (.int p5), .val (.int (7 : Int32)), .val (.int v0), .val (.int v1), .val (.int v2), .val (.ref b69), .unset, .unset] [(.int (p5 >>> ((16 : Int32) &&& 31))), (.int (5 : Int32)), (.ref b69)])) _ _ _
      refine own_go (fun t k => XS.i2b X79.here hx rfl (hb hby at_141) rfl k) ?_
      show own_End p e below s (T79.setTop (mkF m 142 #[.val (.int p0), .val (.int p1), .val (.int p2), .val (.int p3), .val (.int p4), .val (.int p5), .val (.int (7 : Int32)), .val (.int v0), .val (.int v1), .val (.int v2), .val (.ref b69), .unset, .unset] [(.int ((p5 >>> ((16 : Int32) &&& 31)).toInt8.toInt32)), (.int (5 : Int32)), (.ref b69)])) _ _ _
      obtain ⟨cl80, Ar80, q80, S80, M80, Hh80, G80⟩ := id V_b69_79
      have hin80 : ¬ ((5 : Int32) < 0 ∨ cl80.slots.size ≤ ((5 : Int32)).toNatClampNeg) := inb_of S80 ⟨by decide, by decide⟩
      obtain ⟨T81, h81, X81, e81, W81, st81⟩ := stB X79 hx hZ e79 Ar80 (j := (5 : Int32)) hin80 (g := (mkF m 142 #[.val (.int p0), .val (.int p1), .val (.int p2), .val (.int p3), .val (.int p4), .val (.int p5), .val (.int (7 : Int32)), .val (.int v0), .val (.int v1), .val (.int v2), .val (.ref b69), .unset, .unset] [(.int ((p5 >>> ((16 : Int32) &&& 31)).toInt8.toInt32)), (.int (5 : Int32)), (.ref b69)])) rfl rfl (hb hby at_142)
      have V_b69_81 : Arv Z h81 b69 k69 .byte (7 : Int32) [(.int ((v0.toInt8.toInt32).toInt8.toInt32)), (.int ((v1.toInt8.toInt32).toInt8.toInt32)), (.int ((v2.toInt8.toInt32).toInt8.toInt32)), (.int ((p5.toInt8.toInt32).toInt8.toInt32)), (.int (((p5 >>> ((8 : Int32) &&& 31)).toInt8.toInt32).toInt8.toInt32)), (.int (((p5 >>> ((16 : Int32) &&& 31)).toInt8.toInt32).toInt8.toInt32)), (.int (0 : Int32))] (.int (0 : Int32)) := Arv.set Ar80 q80 S80 M80 Hh80 G80 (fits_nar_byte _) W81 5 rfl (Nat.le_of_ble_eq_true rfl)
      have N81 := Fr.snoc X81 N79 g_b69
      have Z81 : n0 ≤ h81.size := Nat.le_trans Z79 (Keep.of_wr W81).1
      refine own_go st81 ?_
      show own_End p e below s (T81.setTop (mkF m 143 #[.val (.int p0), .val (.int p1), .val (.int p2), .val (.int p3), .val (.int p4), .val (.int p5), .val (.int (7 : Int32)), .val (.int v0), .val (.int v1), .val (.int v2), .val (.ref b69), .unset, .unset] [])) _ _ _
      refine own_go (fun t k => XS.iload X81.here hx rfl (hb hby at_143) rfl k) ?_
      show own_End p e below s (T81.setTop (mkF m 145 #[.val (.int p0), .val (.int p1), .val (.int p2), .val (.int p3), .val (.int p4), .val (.int p5), .val (.int (7 : Int32)), .val (.int v0), .val (.int v1), .val (.int v2), .val (.ref b69), .unset, .unset] [(.int (7 : Int32))])) _ _ _
      refine own_go (fun t k => XS.bipush X81.here hx rfl (hb hby at_145) k) ?_
      show own_End p e below s (T81.setTop (mkF m 147 #[.val (.int p0), .val (.int p1), .val (.int p2), .val (.int p3), .val (.int p4), .val (.int p5), .val (.int (7 : Int32)), .val (.int v0), .val (.int v1), .val (.int v2), .val (.ref b69), .unset, .unset] [(.int (6 : Int32)), (.int (7 : Int32))])) _ _ _
      refine own_go (fun t k => XS.icmpNo X81.here hx rfl (hb hby at_147) rfl (own_tlt (x := (6 : Int32)) (y := (7 : Int32)) (i := 6) (j := 7) rfl rfl (by decide)).2.2.2 k) ?_
      show own_End p e below s (T81.setTop (mkF m 150 #[.val (.int p0), .val (.int p1), .val (.int p2), .val (.int p3), .val (.int p4), .val (.int p5), .val (.int (7 : Int32)), .val (.int v0), .val (.int v1), .val (.int v2), .val (.ref b69), .unset, .unset] [])) _ _ _
      refine own_go (fun t k => XS.aload X81.here hx rfl (hb hby at_150) rfl rfl k) ?_
      show own_End p e below s (T81.setTop (mkF m 152 #[.val (.int p0), .val (.int p1), .val (.int p2), .val (.int p3), .val (.int p4), .val (.int p5), .val (.int (7 : Int32)), .val (.int v0), .val (.int v1), .val (.int v2), .val (.ref b69), .unset, .unset] [(.ref b69)])) _ _ _
      refine own_go (fun t k => XS.bipush X81.here hx rfl (hb hby at_152) k) ?_
      show own_End p e below s (T81.setTop (mkF m 154 #[.val (.int p0), .val (.int p1), .val (.int p2), .val (.int p3), .val (.int p4), .val (.int p5), .val (.int (7 : Int32)), .val (.int v0), .val (.int v1), .val (.int v2), .val (.ref b69), .unset, .unset] [(.int (6 : Int32)), (.ref b69)])) _ _ _
      refine own_go (fun t k => XS.iload X81.here hx rfl (hb hby at_154) rfl k) ?_
      show own_End p e below s (T81.setTop (mkF m 156 #[.val (.int p0), .val (.int p1), .val (.int p2), .val (.int p3), .val (.int p4), .val (.int p5), .val (.int (7 : Int32)), .val (.int v0), .val (.int v1), .val (.int v2), .val (.ref b69), .unset, .unset] [(.int p5), (.int (6 : Int32)), (.ref b69)])) _ _ _
      refine own_go (fun t k => XS.bipush X81.here hx rfl (hb hby at_156) k) ?_
      show own_End p e below s (T81.setTop (mkF m 158 #[.val (.int p0), .val (.int p1), .val (.int p2), .val (.int p3), .val (.int p4), .val (.int p5), .val (.int (7 : Int32)), .val (.int v0), .val (.int v1), .val (.int v2), .val (.ref b69), .unset, .unset] [(.int (24 : Int32)), (.int p5), (.int (6 : Int32)), (.ref b69)])) _ _ _
      refine own_go (fun t k => XS.ishr X81.here hx rfl (hb hby at_158) rfl k) ?_
      show own_End p e below s (T81.setTop (mkF m 159 #[.val (.int p0), .val (.int p1), .val (.int p2), .val (.int p3), .val (.int p4), .val (.int p5), .val (.int (7 : Int32)), .val (.int v0), .val (.int v1), .val (.int v2), .val (.ref b69), .unset, .unset] [(.int (p5 >>> ((24 : Int32) &&& 31))), (.int (6 : Int32)), (.ref b69)])) _ _ _
      refine own_go (fun t k => XS.i2b X81.here hx rfl (hb hby at_159) rfl k) ?_
      show own_End p e below s (T81.setTop (mkF m 160 #[.val (.int p0), .val (.int p1), .val (.int p2), .val (.int p3), .val (.int p4), .val (.int p5), .val (.int (7 : Int32)), .val (.int v0), .val (.int v1), .val (.int v2), .val (.ref b69), .unset, .unset] [(.int ((p5 >>> ((24 : Int32) &&& 31)).toInt8.toInt32)), (.int (6 : Int32)), (.ref b69)])) _ _ _
      obtain ⟨cl82, Ar82, q82, S82, M82, Hh82, G82⟩ := id V_b69_81
      have hin82 : ¬ ((6 : Int32) < 0 ∨ cl82.slots.size ≤ ((6 : Int32)).toNatClampNeg) := inb_of S82 ⟨by decide, by decide⟩
      obtain ⟨T83, h83, X83, e83, W83, st83⟩ := stB X81 hx hZ e81 Ar82 (j := (6 : Int32)) hin82 (g := (mkF m 160 #[.val (.int p0), .val (.int p1), .val (.int p2), .val (.int p3), .val (.int p4), .val (.int p5), .val (.int (7 : Int32)), .val (.int v0), .val (.int v1), .val (.int v2), .val (.ref b69), .unset, .unset] [(.int ((p5 >>> ((24 : Int32) &&& 31)).toInt8.toInt32)), (.int (6 : Int32)), (.ref b69)])) rfl rfl (hb hby at_160)
      have V_b69_83 : Arv Z h83 b69 k69 .byte (7 : Int32) [(.int ((v0.toInt8.toInt32).toInt8.toInt32)), (.int ((v1.toInt8.toInt32).toInt8.toInt32)), (.int ((v2.toInt8.toInt32).toInt8.toInt32)), (.int ((p5.toInt8.toInt32).toInt8.toInt32)), (.int (((p5 >>> ((8 : Int32) &&& 31)).toInt8.toInt32).toInt8.toInt32)), (.int (((p5 >>> ((16 : Int32) &&& 31)).toInt8.toInt32).toInt8.toInt32)), (.int (((p5 >>> ((24 : Int32) &&& 31)).toInt8.toInt32).toInt8.toInt32))] (.int (0 : Int32)) := Arv.set Ar82 q82 S82 M82 Hh82 G82 (fits_nar_byte _) W83 6 rfl (Nat.le_of_ble_eq_true rfl)
      have N83 := Fr.snoc X83 N81 g_b69
      have Z83 : n0 ≤ h83.size := Nat.le_trans Z81 (Keep.of_wr W83).1
      refine own_go st83 ?_
      show own_End p e below s (T83.setTop (mkF m 161 #[.val (.int p0), .val (.int p1), .val (.int p2), .val (.int p3), .val (.int p4), .val (.int p5), .val (.int (7 : Int32)), .val (.int v0), .val (.int v1), .val (.int v2), .val (.ref b69), .unset, .unset] [])) _ _ _
      refine own_go (fun t k => XS.iconst X83.here hx rfl (hb hby at_161) k) ?_
      show own_End p e below s (T83.setTop (mkF m 162 #[.val (.int p0), .val (.int p1), .val (.int p2), .val (.int p3), .val (.int p4), .val (.int p5), .val (.int (7 : Int32)), .val (.int v0), .val (.int v1), .val (.int v2), .val (.ref b69), .unset, .unset] [(.int (0 : Int32))])) _ _ _
      refine own_go (fun t k => XS.istore X83.here hx rfl (hb hby at_162) rfl (l' := #[.val (.int p0), .val (.int p1), .val (.int p2), .val (.int p3), .val (.int p4), .val (.int p5), .val (.int (7 : Int32)), .val (.int v0), .val (.int v1), .val (.int v2), .val (.ref b69), .val (.int (0 : Int32)), .unset]) rfl k) ?_
      show own_End p e below s (T83.setTop (mkF m 164 #[.val (.int p0), .val (.int p1), .val (.int p2), .val (.int p3), .val (.int p4), .val (.int p5), .val (.int (7 : Int32)), .val (.int v0), .val (.int v1), .val (.int v2), .val (.ref b69), .val (.int (0 : Int32)), .unset] [])) _ _ _
      refine own_go (fun t k => XS.iload X83.here hx rfl (hb hby at_164) rfl k) ?_
      show own_End p e below s (T83.setTop (mkF m 166 #[.val (.int p0), .val (.int p1), .val (.int p2), .val (.int p3), .val (.int p4), .val (.int p5), .val (.int (7 : Int32)), .val (.int v0), .val (.int v1), .val (.int v2), .val (.ref b69), .val (.int (0 : Int32)), .unset] [(.int (7 : Int32))])) _ _ _
      refine own_go (fun t k => XS.iconst X83.here hx rfl (hb hby at_166) k) ?_
      show own_End p e below s (T83.setTop (mkF m 167 #[.val (.int p0), .val (.int p1), .val (.int p2), .val (.int p3), .val (.int p4), .val (.int p5), .val (.int (7 : Int32)), .val (.int v0), .val (.int v1), .val (.int v2), .val (.ref b69), .val (.int (0 : Int32)), .unset] [(.int (3 : Int32)), (.int (7 : Int32))])) _ _ _
      refine own_go (fun t k => XS.icmpNo X83.here hx rfl (hb hby at_167) rfl (own_flt (x := (7 : Int32)) (y := (3 : Int32)) (i := 7) (j := 3) rfl rfl (by decide)).1 k) ?_
      show own_End p e below s (T83.setTop (mkF m 170 #[.val (.int p0), .val (.int p1), .val (.int p2), .val (.int p3), .val (.int p4), .val (.int p5), .val (.int (7 : Int32)), .val (.int v0), .val (.int v1), .val (.int v2), .val (.ref b69), .val (.int (0 : Int32)), .unset] [])) _ _ _
      have m0 : (v0 &&& (255 : Int32)).toInt = v0.toInt % 256 := c_mask v0 (255 : Int32) 8 (by decide) (by decide)
      have m1 : (v1 &&& (255 : Int32)).toInt = v1.toInt % 256 := c_mask v1 (255 : Int32) 8 (by decide) (by decide)
      have m2 : (v2 &&& (255 : Int32)).toInt = v2.toInt % 256 := c_mask v2 (255 : Int32) 8 (by decide) (by decide)
      have li3 : (3 : Int32).toInt = 3 := rfl
      have J209_7 : ∀ (ex : Int32) (hex : ex.toInt = 3 ∧ (v0.toInt % 256 = 239 ∧ v1.toInt % 256 = 187 ∧ v2.toInt % 256 = 191) ∨ ex.toInt = 0 ∧ ¬ (v0.toInt % 256 = 239 ∧ v1.toInt % 256 = 187 ∧ v2.toInt % 256 = 191)), own_End p e below s (T83.setTop (mkF m 209 #[.val (.int p0), .val (.int p1), .val (.int p2), .val (.int p3), .val (.int p4), .val (.int p5), .val (.int (7 : Int32)), .val (.int v0), .val (.int v1), .val (.int v2), .val (.ref b69), .val (.int ex), .unset] [])) (Q_rm0 Z p0 p1 p2 p3 p4 p5  h0 n0) room_1.cells room_1.slots := by
        intro ex hex
        show own_End p e below s (T83.setTop (mkF m 209 #[.val (.int p0), .val (.int p1), .val (.int p2), .val (.int p3), .val (.int p4), .val (.int p5), .val (.int (7 : Int32)), .val (.int v0), .val (.int v1), .val (.int v2), .val (.ref b69), .val (.int ex), .unset] [])) _ _ _
        refine own_go (fun t k => XS.aload X83.here hx rfl (hb hby at_209) rfl rfl k) ?_
        show own_End p e below s (T83.setTop (mkF m 211 #[.val (.int p0), .val (.int p1), .val (.int p2), .val (.int p3), .val (.int p4), .val (.int p5), .val (.int (7 : Int32)), .val (.int v0), .val (.int v1), .val (.int v2), .val (.ref b69), .val (.int ex), .unset] [(.ref b69)])) _ _ _
        obtain ⟨_, _, ⟨T84, L84, k84, n84⟩, -, X84, ⟨Lc84, hQ84, l84, y84, z84⟩, st84⟩ := Jvm.LawKit.callS X83 hx (y := (⟨"com/example/settings_by_rank/settingsbyrank/core/source/FileFormat", "byteOrderMarkLength", "([B)I"⟩ : MethodName)) hown (mvT hZ (hw _ (List.mem_of_getElem? (i := 1) rfl))) (mvT hZ (hw _ (List.mem_of_getElem? (i := 2) rfl))) (mvT hZ (hw _ (List.mem_of_getElem? (i := 3) rfl))) (mvT hZ (hw _ (List.mem_of_getElem? (i := 4) rfl))) (by decide) (backOf (W := 0) (rm2 l Z a0 hw [] b69 k69 (7 : Int32) [(.int ((v0.toInt8.toInt32).toInt8.toInt32)), (.int ((v1.toInt8.toInt32).toInt8.toInt32)), (.int ((v2.toInt8.toInt32).toInt8.toInt32)), (.int ((p5.toInt8.toInt32).toInt8.toInt32)), (.int (((p5 >>> ((8 : Int32) &&& 31)).toInt8.toInt32).toInt8.toInt32)), (.int (((p5 >>> ((16 : Int32) &&& 31)).toInt8.toInt32).toInt8.toInt32)), (.int (((p5 >>> ((24 : Int32) &&& 31)).toInt8.toInt32).toInt8.toInt32))] ((v0.toInt8.toInt32).toInt8.toInt32) ((v1.toInt8.toInt32).toInt8.toInt32) ((v2.toInt8.toInt32).toInt8.toInt32) h83 n0 Z83 V_b69_83 (by decide) rfl rfl rfl) hZ (hw _ (List.mem_of_getElem? (i := 4) rfl)) (hw _ (List.mem_of_getElem? (i := 3) rfl)) (by decide) (by decide)) (g := (mkF m 211 #[.val (.int p0), .val (.int p1), .val (.int p2), .val (.int p3), .val (.int p4), .val (.int p5), .val (.int (7 : Int32)), .val (.int v0), .val (.int v1), .val (.int v2), .val (.ref b69), .val (.int ex), .unset] [(.ref b69)])) rfl (by rw [hml]; rfl) (argsL := [(.ref b69)]) (rest := []) (lenOf own_pd0 rfl) rfl (by show 2 * 0 + _ ≤ _; exact Nat.le_of_eq rfl) (hb hby at_211) (fun _ _ => ⟨rfl, e83, (by decide : 1 + 0 ≤ _), (by decide : 7 + 0 ≤ _)⟩)
        dsimp only [Pt.U, Pt.locs, Pt.cells, Pt.slots] at X84 l84 y84 z84 st84 hQ84
        subst l84 y84 z84
        obtain ⟨⟨r84, rfl, hr84⟩, N84q, e84⟩ := hQ84
        have N84 := Fr.app N83 N84q
        refine own_go st84 ?_
        show own_End p e below s (T84.setTop (mkF m 214 #[.val (.int p0), .val (.int p1), .val (.int p2), .val (.int p3), .val (.int p4), .val (.int p5), .val (.int (7 : Int32)), .val (.int v0), .val (.int v1), .val (.int v2), .val (.ref b69), .val (.int ex), .unset] [(.int r84)])) _ _ _
        have b0 := c_i2b v0
        have bb0 := c_i2b v0.toInt8.toInt32
        have b1 := c_i2b v1
        have bb1 := c_i2b v1.toInt8.toInt32
        have b2 := c_i2b v2
        have bb2 := c_i2b v2.toInt8.toInt32
        refine own_go (fun t k => XS.istore X84.here hx rfl (hb hby at_214) rfl (l' := #[.val (.int p0), .val (.int p1), .val (.int p2), .val (.int p3), .val (.int p4), .val (.int p5), .val (.int (7 : Int32)), .val (.int v0), .val (.int v1), .val (.int v2), .val (.ref b69), .val (.int ex), .val (.int r84)]) rfl k) ?_
        show own_End p e below s (T84.setTop (mkF m 216 #[.val (.int p0), .val (.int p1), .val (.int p2), .val (.int p3), .val (.int p4), .val (.int p5), .val (.int (7 : Int32)), .val (.int v0), .val (.int v1), .val (.int v2), .val (.ref b69), .val (.int ex), .val (.int r84)] [])) _ _ _
        refine own_go (fun t k => XS.iload X84.here hx rfl (hb hby at_216) rfl k) ?_
        show own_End p e below s (T84.setTop (mkF m 218 #[.val (.int p0), .val (.int p1), .val (.int p2), .val (.int p3), .val (.int p4), .val (.int p5), .val (.int (7 : Int32)), .val (.int v0), .val (.int v1), .val (.int v2), .val (.ref b69), .val (.int ex), .val (.int r84)] [(.int r84)])) _ _ _
        refine own_go (fun t k => XS.iload X84.here hx rfl (hb hby at_218) rfl k) ?_
        show own_End p e below s (T84.setTop (mkF m 220 #[.val (.int p0), .val (.int p1), .val (.int p2), .val (.int p3), .val (.int p4), .val (.int p5), .val (.int (7 : Int32)), .val (.int v0), .val (.int v1), .val (.int v2), .val (.ref b69), .val (.int ex), .val (.int r84)] [(.int ex), (.int r84)])) _ _ _
        refine own_go (fun t k => XS.icmpNo X84.here hx rfl (hb hby at_220) rfl (own_eq (x := r84) (y := ex) (i := r84.toInt) (j := ex.toInt) rfl rfl (by omega)).2 k) ?_
        show own_End p e below s (T84.setTop (mkF m 223 #[.val (.int p0), .val (.int p1), .val (.int p2), .val (.int p3), .val (.int p4), .val (.int p5), .val (.int (7 : Int32)), .val (.int v0), .val (.int v1), .val (.int v2), .val (.ref b69), .val (.int ex), .val (.int r84)] [])) _ _ _
        refine own_go (fun t k => XS.iconst X84.here hx rfl (hb hby at_223) k) ?_
        show own_End p e below s (T84.setTop (mkF m 224 #[.val (.int p0), .val (.int p1), .val (.int p2), .val (.int p3), .val (.int p4), .val (.int p5), .val (.int (7 : Int32)), .val (.int v0), .val (.int v1), .val (.int v2), .val (.ref b69), .val (.int ex), .val (.int r84)] [(.int (1 : Int32))])) _ _ _
        refine own_go (fun t k => XS.goto X84.here hx rfl (pc0 := 224) (pc' := 228) rfl (hb hby at_224) (by decide) (by decide) k) ?_
        show own_End p e below s (T84.setTop (mkF m 228 #[.val (.int p0), .val (.int p1), .val (.int p2), .val (.int p3), .val (.int p4), .val (.int p5), .val (.int (7 : Int32)), .val (.int v0), .val (.int v1), .val (.int v2), .val (.ref b69), .val (.int ex), .val (.int r84)] [(.int (1 : Int32))])) _ _ _
        refine own_ret X84 (v := some (.int (1 : Int32))) (fun h => by rw [Bd.returns] at h; cases h) Bd.notSynchronized (fun fs hr => retN X84 hx (t := .boolean) Bd.returns (by simp) (hb hby at_228) hr) ?_ (by decide) (by decide)
        · exact ⟨rfl, N84⟩
      refine own_go (fun t k => XS.iload X83.here hx rfl (hb hby at_170) rfl k) ?_
      show own_End p e below s (T83.setTop (mkF m 172 #[.val (.int p0), .val (.int p1), .val (.int p2), .val (.int p3), .val (.int p4), .val (.int p5), .val (.int (7 : Int32)), .val (.int v0), .val (.int v1), .val (.int v2), .val (.ref b69), .val (.int (0 : Int32)), .unset] [(.int v0)])) _ _ _
      refine own_go (fun t k => XS.sipush X83.here hx rfl (hb hby at_172) k) ?_
      show own_End p e below s (T83.setTop (mkF m 175 #[.val (.int p0), .val (.int p1), .val (.int p2), .val (.int p3), .val (.int p4), .val (.int p5), .val (.int (7 : Int32)), .val (.int v0), .val (.int v1), .val (.int v2), .val (.ref b69), .val (.int (0 : Int32)), .unset] [(.int (255 : Int32)), (.int v0)])) _ _ _
      refine own_go (fun t k => XS.iand X83.here hx rfl (hb hby at_175) rfl k) ?_
      show own_End p e below s (T83.setTop (mkF m 176 #[.val (.int p0), .val (.int p1), .val (.int p2), .val (.int p3), .val (.int p4), .val (.int p5), .val (.int (7 : Int32)), .val (.int v0), .val (.int v1), .val (.int v2), .val (.ref b69), .val (.int (0 : Int32)), .unset] [(.int (v0 &&& (255 : Int32)))])) _ _ _
      refine own_go (fun t k => XS.sipush X83.here hx rfl (hb hby at_176) k) ?_
      show own_End p e below s (T83.setTop (mkF m 179 #[.val (.int p0), .val (.int p1), .val (.int p2), .val (.int p3), .val (.int p4), .val (.int p5), .val (.int (7 : Int32)), .val (.int v0), .val (.int v1), .val (.int v2), .val (.ref b69), .val (.int (0 : Int32)), .unset] [(.int (239 : Int32)), (.int (v0 &&& (255 : Int32)))])) _ _ _
      by_cases c179_85 : (v0 &&& (255 : Int32)).toInt = 239
      · skip
        refine own_go (fun t k => XS.icmpNo X83.here hx rfl (hb hby at_179) rfl (own_eq (x := (v0 &&& (255 : Int32))) (y := (239 : Int32)) (i := (v0 &&& (255 : Int32)).toInt) (j := 239) rfl rfl c179_85).2 k) ?_
        show own_End p e below s (T83.setTop (mkF m 182 #[.val (.int p0), .val (.int p1), .val (.int p2), .val (.int p3), .val (.int p4), .val (.int p5), .val (.int (7 : Int32)), .val (.int v0), .val (.int v1), .val (.int v2), .val (.ref b69), .val (.int (0 : Int32)), .unset] [])) _ _ _
        refine own_go (fun t k => XS.iload X83.here hx rfl (hb hby at_182) rfl k) ?_
        show own_End p e below s (T83.setTop (mkF m 184 #[.val (.int p0), .val (.int p1), .val (.int p2), .val (.int p3), .val (.int p4), .val (.int p5), .val (.int (7 : Int32)), .val (.int v0), .val (.int v1), .val (.int v2), .val (.ref b69), .val (.int (0 : Int32)), .unset] [(.int v1)])) _ _ _
        refine own_go (fun t k => XS.sipush X83.here hx rfl (hb hby at_184) k) ?_
        show own_End p e below s (T83.setTop (mkF m 187 #[.val (.int p0), .val (.int p1), .val (.int p2), .val (.int p3), .val (.int p4), .val (.int p5), .val (.int (7 : Int32)), .val (.int v0), .val (.int v1), .val (.int v2), .val (.ref b69), .val (.int (0 : Int32)), .unset] [(.int (255 : Int32)), (.int v1)])) _ _ _
        refine own_go (fun t k => XS.iand X83.here hx rfl (hb hby at_187) rfl k) ?_
        show own_End p e below s (T83.setTop (mkF m 188 #[.val (.int p0), .val (.int p1), .val (.int p2), .val (.int p3), .val (.int p4), .val (.int p5), .val (.int (7 : Int32)), .val (.int v0), .val (.int v1), .val (.int v2), .val (.ref b69), .val (.int (0 : Int32)), .unset] [(.int (v1 &&& (255 : Int32)))])) _ _ _
        refine own_go (fun t k => XS.sipush X83.here hx rfl (hb hby at_188) k) ?_
        show own_End p e below s (T83.setTop (mkF m 191 #[.val (.int p0), .val (.int p1), .val (.int p2), .val (.int p3), .val (.int p4), .val (.int p5), .val (.int (7 : Int32)), .val (.int v0), .val (.int v1), .val (.int v2), .val (.ref b69), .val (.int (0 : Int32)), .unset] [(.int (187 : Int32)), (.int (v1 &&& (255 : Int32)))])) _ _ _
        by_cases c191_86 : (v1 &&& (255 : Int32)).toInt = 187
        · skip
          refine own_go (fun t k => XS.icmpNo X83.here hx rfl (hb hby at_191) rfl (own_eq (x := (v1 &&& (255 : Int32))) (y := (187 : Int32)) (i := (v1 &&& (255 : Int32)).toInt) (j := 187) rfl rfl c191_86).2 k) ?_
          show own_End p e below s (T83.setTop (mkF m 194 #[.val (.int p0), .val (.int p1), .val (.int p2), .val (.int p3), .val (.int p4), .val (.int p5), .val (.int (7 : Int32)), .val (.int v0), .val (.int v1), .val (.int v2), .val (.ref b69), .val (.int (0 : Int32)), .unset] [])) _ _ _
          refine own_go (fun t k => XS.iload X83.here hx rfl (hb hby at_194) rfl k) ?_
          show own_End p e below s (T83.setTop (mkF m 196 #[.val (.int p0), .val (.int p1), .val (.int p2), .val (.int p3), .val (.int p4), .val (.int p5), .val (.int (7 : Int32)), .val (.int v0), .val (.int v1), .val (.int v2), .val (.ref b69), .val (.int (0 : Int32)), .unset] [(.int v2)])) _ _ _
          refine own_go (fun t k => XS.sipush X83.here hx rfl (hb hby at_196) k) ?_
          show own_End p e below s (T83.setTop (mkF m 199 #[.val (.int p0), .val (.int p1), .val (.int p2), .val (.int p3), .val (.int p4), .val (.int p5), .val (.int (7 : Int32)), .val (.int v0), .val (.int v1), .val (.int v2), .val (.ref b69), .val (.int (0 : Int32)), .unset] [(.int (255 : Int32)), (.int v2)])) _ _ _
          refine own_go (fun t k => XS.iand X83.here hx rfl (hb hby at_199) rfl k) ?_
          show own_End p e below s (T83.setTop (mkF m 200 #[.val (.int p0), .val (.int p1), .val (.int p2), .val (.int p3), .val (.int p4), .val (.int p5), .val (.int (7 : Int32)), .val (.int v0), .val (.int v1), .val (.int v2), .val (.ref b69), .val (.int (0 : Int32)), .unset] [(.int (v2 &&& (255 : Int32)))])) _ _ _
          refine own_go (fun t k => XS.sipush X83.here hx rfl (hb hby at_200) k) ?_
          show own_End p e below s (T83.setTop (mkF m 203 #[.val (.int p0), .val (.int p1), .val (.int p2), .val (.int p3), .val (.int p4), .val (.int p5), .val (.int (7 : Int32)), .val (.int v0), .val (.int v1), .val (.int v2), .val (.ref b69), .val (.int (0 : Int32)), .unset] [(.int (191 : Int32)), (.int (v2 &&& (255 : Int32)))])) _ _ _
          by_cases c203_87 : (v2 &&& (255 : Int32)).toInt = 191
          · skip
            refine own_go (fun t k => XS.icmpNo X83.here hx rfl (hb hby at_203) rfl (own_eq (x := (v2 &&& (255 : Int32))) (y := (191 : Int32)) (i := (v2 &&& (255 : Int32)).toInt) (j := 191) rfl rfl c203_87).2 k) ?_
            show own_End p e below s (T83.setTop (mkF m 206 #[.val (.int p0), .val (.int p1), .val (.int p2), .val (.int p3), .val (.int p4), .val (.int p5), .val (.int (7 : Int32)), .val (.int v0), .val (.int v1), .val (.int v2), .val (.ref b69), .val (.int (0 : Int32)), .unset] [])) _ _ _
            refine own_go (fun t k => XS.iconst X83.here hx rfl (hb hby at_206) k) ?_
            show own_End p e below s (T83.setTop (mkF m 207 #[.val (.int p0), .val (.int p1), .val (.int p2), .val (.int p3), .val (.int p4), .val (.int p5), .val (.int (7 : Int32)), .val (.int v0), .val (.int v1), .val (.int v2), .val (.ref b69), .val (.int (0 : Int32)), .unset] [(.int (3 : Int32))])) _ _ _
            refine own_go (fun t k => XS.istore X83.here hx rfl (hb hby at_207) rfl (l' := #[.val (.int p0), .val (.int p1), .val (.int p2), .val (.int p3), .val (.int p4), .val (.int p5), .val (.int (7 : Int32)), .val (.int v0), .val (.int v1), .val (.int v2), .val (.ref b69), .val (.int (3 : Int32)), .unset]) rfl k) ?_
            show own_End p e below s (T83.setTop (mkF m 209 #[.val (.int p0), .val (.int p1), .val (.int p2), .val (.int p3), .val (.int p4), .val (.int p5), .val (.int (7 : Int32)), .val (.int v0), .val (.int v1), .val (.int v2), .val (.ref b69), .val (.int (3 : Int32)), .unset] [])) _ _ _
            exact J209_7 _ (by omega)
          · skip
            refine own_go (fun t k => XS.icmpYes X83.here hx rfl (pc0 := 203) (pc' := 209) rfl (hb hby at_203) rfl (own_ne (x := (v2 &&& (255 : Int32))) (y := (191 : Int32)) (i := (v2 &&& (255 : Int32)).toInt) (j := 191) rfl rfl c203_87).2 (by decide) (by decide) k) ?_
            show own_End p e below s (T83.setTop (mkF m 209 #[.val (.int p0), .val (.int p1), .val (.int p2), .val (.int p3), .val (.int p4), .val (.int p5), .val (.int (7 : Int32)), .val (.int v0), .val (.int v1), .val (.int v2), .val (.ref b69), .val (.int (0 : Int32)), .unset] [])) _ _ _
            exact J209_7 _ (by omega)
        · skip
          refine own_go (fun t k => XS.icmpYes X83.here hx rfl (pc0 := 191) (pc' := 209) rfl (hb hby at_191) rfl (own_ne (x := (v1 &&& (255 : Int32))) (y := (187 : Int32)) (i := (v1 &&& (255 : Int32)).toInt) (j := 187) rfl rfl c191_86).2 (by decide) (by decide) k) ?_
          show own_End p e below s (T83.setTop (mkF m 209 #[.val (.int p0), .val (.int p1), .val (.int p2), .val (.int p3), .val (.int p4), .val (.int p5), .val (.int (7 : Int32)), .val (.int v0), .val (.int v1), .val (.int v2), .val (.ref b69), .val (.int (0 : Int32)), .unset] [])) _ _ _
          exact J209_7 _ (by omega)
      · skip
        refine own_go (fun t k => XS.icmpYes X83.here hx rfl (pc0 := 179) (pc' := 209) rfl (hb hby at_179) rfl (own_ne (x := (v0 &&& (255 : Int32))) (y := (239 : Int32)) (i := (v0 &&& (255 : Int32)).toInt) (j := 239) rfl rfl c179_85).2 (by decide) (by decide) k) ?_
        show own_End p e below s (T83.setTop (mkF m 209 #[.val (.int p0), .val (.int p1), .val (.int p2), .val (.int p3), .val (.int p4), .val (.int p5), .val (.int (7 : Int32)), .val (.int v0), .val (.int v1), .val (.int v2), .val (.ref b69), .val (.int (0 : Int32)), .unset] [])) _ _ _
        exact J209_7 _ (by omega)
  have J36 : ∀ (v0 v1 : Int32), own_End p e below s (s₁.setTop (mkF m 36 #[.val (.int p0), .val (.int p1), .val (.int p2), .val (.int p3), .val (.int p4), .val (.int p5), .val (.int (p0 &&& (7 : Int32))), .val (.int v0), .unset, .unset, .unset, .unset, .unset] [(.int v1)])) (Q_rm0 Z p0 p1 p2 p3 p4 p5  h0 n0) room_1.cells room_1.slots := by
    intro v0 v1
    show own_End p e below s (s₁.setTop (mkF m 36 #[.val (.int p0), .val (.int p1), .val (.int p2), .val (.int p3), .val (.int p4), .val (.int p5), .val (.int (p0 &&& (7 : Int32))), .val (.int v0), .unset, .unset, .unset, .unset, .unset] [(.int v1)])) _ _ _
    refine own_go (fun t k => XS.istore X0.here hx rfl (hb hby at_36) rfl (l' := #[.val (.int p0), .val (.int p1), .val (.int p2), .val (.int p3), .val (.int p4), .val (.int p5), .val (.int (p0 &&& (7 : Int32))), .val (.int v0), .val (.int v1), .unset, .unset, .unset, .unset]) rfl k) ?_
    show own_End p e below s (s₁.setTop (mkF m 38 #[.val (.int p0), .val (.int p1), .val (.int p2), .val (.int p3), .val (.int p4), .val (.int p5), .val (.int (p0 &&& (7 : Int32))), .val (.int v0), .val (.int v1), .unset, .unset, .unset, .unset] [])) _ _ _
    refine own_go (fun t k => XS.iload X0.here hx rfl (hb hby at_38) rfl k) ?_
    show own_End p e below s (s₁.setTop (mkF m 40 #[.val (.int p0), .val (.int p1), .val (.int p2), .val (.int p3), .val (.int p4), .val (.int p5), .val (.int (p0 &&& (7 : Int32))), .val (.int v0), .val (.int v1), .unset, .unset, .unset, .unset] [(.int p4)])) _ _ _
    refine own_go (fun t k => XS.iconst X0.here hx rfl (hb hby at_40) k) ?_
    show own_End p e below s (s₁.setTop (mkF m 41 #[.val (.int p0), .val (.int p1), .val (.int p2), .val (.int p3), .val (.int p4), .val (.int p5), .val (.int (p0 &&& (7 : Int32))), .val (.int v0), .val (.int v1), .unset, .unset, .unset, .unset] [(.int (4 : Int32)), (.int p4)])) _ _ _
    refine own_go (fun t k => XS.iand X0.here hx rfl (hb hby at_41) rfl k) ?_
    show own_End p e below s (s₁.setTop (mkF m 42 #[.val (.int p0), .val (.int p1), .val (.int p2), .val (.int p3), .val (.int p4), .val (.int p5), .val (.int (p0 &&& (7 : Int32))), .val (.int v0), .val (.int v1), .unset, .unset, .unset, .unset] [(.int (p4 &&& (4 : Int32)))])) _ _ _
    by_cases c42_88 : (p4 &&& (4 : Int32)).toInt = 0
    · skip
      refine own_go (fun t k => XS.ifYes X0.here hx rfl (pc0 := 42) (pc' := 51) rfl (hb hby at_42) rfl ((if0 _ _).trans (own_eq (x := (p4 &&& (4 : Int32))) (y := (0 : Int32)) (i := (p4 &&& (4 : Int32)).toInt) (j := 0) rfl rfl c42_88).1) (by decide) (by decide) k) ?_
      show own_End p e below s (s₁.setTop (mkF m 51 #[.val (.int p0), .val (.int p1), .val (.int p2), .val (.int p3), .val (.int p4), .val (.int p5), .val (.int (p0 &&& (7 : Int32))), .val (.int v0), .val (.int v1), .unset, .unset, .unset, .unset] [])) _ _ _
      refine own_go (fun t k => XS.iloadN X0.here hx rfl (hb hby at_51) rfl k) ?_
      show own_End p e below s (s₁.setTop (mkF m 52 #[.val (.int p0), .val (.int p1), .val (.int p2), .val (.int p3), .val (.int p4), .val (.int p5), .val (.int (p0 &&& (7 : Int32))), .val (.int v0), .val (.int v1), .unset, .unset, .unset, .unset] [(.int p3)])) _ _ _
      exact J52 _ _ _
    · skip
      refine own_go (fun t k => XS.ifNo X0.here hx rfl (hb hby at_42) rfl ((if0 _ _).trans (own_ne (x := (p4 &&& (4 : Int32))) (y := (0 : Int32)) (i := (p4 &&& (4 : Int32)).toInt) (j := 0) rfl rfl c42_88).1) k) ?_
      show own_End p e below s (s₁.setTop (mkF m 45 #[.val (.int p0), .val (.int p1), .val (.int p2), .val (.int p3), .val (.int p4), .val (.int p5), .val (.int (p0 &&& (7 : Int32))), .val (.int v0), .val (.int v1), .unset, .unset, .unset, .unset] [])) _ _ _
      refine own_go (fun t k => XS.sipush X0.here hx rfl (hb hby at_45) k) ?_
      show own_End p e below s (s₁.setTop (mkF m 48 #[.val (.int p0), .val (.int p1), .val (.int p2), .val (.int p3), .val (.int p4), .val (.int p5), .val (.int (p0 &&& (7 : Int32))), .val (.int v0), .val (.int v1), .unset, .unset, .unset, .unset] [(.int (191 : Int32))])) _ _ _
      refine own_go (fun t k => XS.goto X0.here hx rfl (pc0 := 48) (pc' := 52) rfl (hb hby at_48) (by decide) (by decide) k) ?_
      show own_End p e below s (s₁.setTop (mkF m 52 #[.val (.int p0), .val (.int p1), .val (.int p2), .val (.int p3), .val (.int p4), .val (.int p5), .val (.int (p0 &&& (7 : Int32))), .val (.int v0), .val (.int v1), .unset, .unset, .unset, .unset] [(.int (191 : Int32))])) _ _ _
      exact J52 _ _ _
  have J20 : ∀ (v0 : Int32), own_End p e below s (s₁.setTop (mkF m 20 #[.val (.int p0), .val (.int p1), .val (.int p2), .val (.int p3), .val (.int p4), .val (.int p5), .val (.int (p0 &&& (7 : Int32))), .unset, .unset, .unset, .unset, .unset, .unset] [(.int v0)])) (Q_rm0 Z p0 p1 p2 p3 p4 p5  h0 n0) room_1.cells room_1.slots := by
    intro v0
    show own_End p e below s (s₁.setTop (mkF m 20 #[.val (.int p0), .val (.int p1), .val (.int p2), .val (.int p3), .val (.int p4), .val (.int p5), .val (.int (p0 &&& (7 : Int32))), .unset, .unset, .unset, .unset, .unset, .unset] [(.int v0)])) _ _ _
    refine own_go (fun t k => XS.istore X0.here hx rfl (hb hby at_20) rfl (l' := #[.val (.int p0), .val (.int p1), .val (.int p2), .val (.int p3), .val (.int p4), .val (.int p5), .val (.int (p0 &&& (7 : Int32))), .val (.int v0), .unset, .unset, .unset, .unset, .unset]) rfl k) ?_
    show own_End p e below s (s₁.setTop (mkF m 22 #[.val (.int p0), .val (.int p1), .val (.int p2), .val (.int p3), .val (.int p4), .val (.int p5), .val (.int (p0 &&& (7 : Int32))), .val (.int v0), .unset, .unset, .unset, .unset, .unset] [])) _ _ _
    refine own_go (fun t k => XS.iload X0.here hx rfl (hb hby at_22) rfl k) ?_
    show own_End p e below s (s₁.setTop (mkF m 24 #[.val (.int p0), .val (.int p1), .val (.int p2), .val (.int p3), .val (.int p4), .val (.int p5), .val (.int (p0 &&& (7 : Int32))), .val (.int v0), .unset, .unset, .unset, .unset, .unset] [(.int p4)])) _ _ _
    refine own_go (fun t k => XS.iconst X0.here hx rfl (hb hby at_24) k) ?_
    show own_End p e below s (s₁.setTop (mkF m 25 #[.val (.int p0), .val (.int p1), .val (.int p2), .val (.int p3), .val (.int p4), .val (.int p5), .val (.int (p0 &&& (7 : Int32))), .val (.int v0), .unset, .unset, .unset, .unset, .unset] [(.int (2 : Int32)), (.int p4)])) _ _ _
    refine own_go (fun t k => XS.iand X0.here hx rfl (hb hby at_25) rfl k) ?_
    show own_End p e below s (s₁.setTop (mkF m 26 #[.val (.int p0), .val (.int p1), .val (.int p2), .val (.int p3), .val (.int p4), .val (.int p5), .val (.int (p0 &&& (7 : Int32))), .val (.int v0), .unset, .unset, .unset, .unset, .unset] [(.int (p4 &&& (2 : Int32)))])) _ _ _
    by_cases c26_89 : (p4 &&& (2 : Int32)).toInt = 0
    · skip
      refine own_go (fun t k => XS.ifYes X0.here hx rfl (pc0 := 26) (pc' := 35) rfl (hb hby at_26) rfl ((if0 _ _).trans (own_eq (x := (p4 &&& (2 : Int32))) (y := (0 : Int32)) (i := (p4 &&& (2 : Int32)).toInt) (j := 0) rfl rfl c26_89).1) (by decide) (by decide) k) ?_
      show own_End p e below s (s₁.setTop (mkF m 35 #[.val (.int p0), .val (.int p1), .val (.int p2), .val (.int p3), .val (.int p4), .val (.int p5), .val (.int (p0 &&& (7 : Int32))), .val (.int v0), .unset, .unset, .unset, .unset, .unset] [])) _ _ _
      refine own_go (fun t k => XS.iloadN X0.here hx rfl (hb hby at_35) rfl k) ?_
      show own_End p e below s (s₁.setTop (mkF m 36 #[.val (.int p0), .val (.int p1), .val (.int p2), .val (.int p3), .val (.int p4), .val (.int p5), .val (.int (p0 &&& (7 : Int32))), .val (.int v0), .unset, .unset, .unset, .unset, .unset] [(.int p2)])) _ _ _
      exact J36 _ _
    · skip
      refine own_go (fun t k => XS.ifNo X0.here hx rfl (hb hby at_26) rfl ((if0 _ _).trans (own_ne (x := (p4 &&& (2 : Int32))) (y := (0 : Int32)) (i := (p4 &&& (2 : Int32)).toInt) (j := 0) rfl rfl c26_89).1) k) ?_
      show own_End p e below s (s₁.setTop (mkF m 29 #[.val (.int p0), .val (.int p1), .val (.int p2), .val (.int p3), .val (.int p4), .val (.int p5), .val (.int (p0 &&& (7 : Int32))), .val (.int v0), .unset, .unset, .unset, .unset, .unset] [])) _ _ _
      refine own_go (fun t k => XS.sipush X0.here hx rfl (hb hby at_29) k) ?_
      show own_End p e below s (s₁.setTop (mkF m 32 #[.val (.int p0), .val (.int p1), .val (.int p2), .val (.int p3), .val (.int p4), .val (.int p5), .val (.int (p0 &&& (7 : Int32))), .val (.int v0), .unset, .unset, .unset, .unset, .unset] [(.int (187 : Int32))])) _ _ _
      refine own_go (fun t k => XS.goto X0.here hx rfl (pc0 := 32) (pc' := 36) rfl (hb hby at_32) (by decide) (by decide) k) ?_
      show own_End p e below s (s₁.setTop (mkF m 36 #[.val (.int p0), .val (.int p1), .val (.int p2), .val (.int p3), .val (.int p4), .val (.int p5), .val (.int (p0 &&& (7 : Int32))), .val (.int v0), .unset, .unset, .unset, .unset, .unset] [(.int (187 : Int32))])) _ _ _
      exact J36 _ _
  refine own_go (fun t k => XS.iload X0.here hx rfl (hb hby at_6) rfl k) ?_
  show own_End p e below s (s₁.setTop (mkF m 8 #[.val (.int p0), .val (.int p1), .val (.int p2), .val (.int p3), .val (.int p4), .val (.int p5), .val (.int (p0 &&& (7 : Int32))), .unset, .unset, .unset, .unset, .unset, .unset] [(.int p4)])) _ _ _
  refine own_go (fun t k => XS.iconst X0.here hx rfl (hb hby at_8) k) ?_
  show own_End p e below s (s₁.setTop (mkF m 9 #[.val (.int p0), .val (.int p1), .val (.int p2), .val (.int p3), .val (.int p4), .val (.int p5), .val (.int (p0 &&& (7 : Int32))), .unset, .unset, .unset, .unset, .unset, .unset] [(.int (1 : Int32)), (.int p4)])) _ _ _
  refine own_go (fun t k => XS.iand X0.here hx rfl (hb hby at_9) rfl k) ?_
  show own_End p e below s (s₁.setTop (mkF m 10 #[.val (.int p0), .val (.int p1), .val (.int p2), .val (.int p3), .val (.int p4), .val (.int p5), .val (.int (p0 &&& (7 : Int32))), .unset, .unset, .unset, .unset, .unset, .unset] [(.int (p4 &&& (1 : Int32)))])) _ _ _
  by_cases c10_90 : (p4 &&& (1 : Int32)).toInt = 0
  · skip
    refine own_go (fun t k => XS.ifYes X0.here hx rfl (pc0 := 10) (pc' := 19) rfl (hb hby at_10) rfl ((if0 _ _).trans (own_eq (x := (p4 &&& (1 : Int32))) (y := (0 : Int32)) (i := (p4 &&& (1 : Int32)).toInt) (j := 0) rfl rfl c10_90).1) (by decide) (by decide) k) ?_
    show own_End p e below s (s₁.setTop (mkF m 19 #[.val (.int p0), .val (.int p1), .val (.int p2), .val (.int p3), .val (.int p4), .val (.int p5), .val (.int (p0 &&& (7 : Int32))), .unset, .unset, .unset, .unset, .unset, .unset] [])) _ _ _
    refine own_go (fun t k => XS.iloadN X0.here hx rfl (hb hby at_19) rfl k) ?_
    show own_End p e below s (s₁.setTop (mkF m 20 #[.val (.int p0), .val (.int p1), .val (.int p2), .val (.int p3), .val (.int p4), .val (.int p5), .val (.int (p0 &&& (7 : Int32))), .unset, .unset, .unset, .unset, .unset, .unset] [(.int p1)])) _ _ _
    exact J20 _
  · skip
    refine own_go (fun t k => XS.ifNo X0.here hx rfl (hb hby at_10) rfl ((if0 _ _).trans (own_ne (x := (p4 &&& (1 : Int32))) (y := (0 : Int32)) (i := (p4 &&& (1 : Int32)).toInt) (j := 0) rfl rfl c10_90).1) k) ?_
    show own_End p e below s (s₁.setTop (mkF m 13 #[.val (.int p0), .val (.int p1), .val (.int p2), .val (.int p3), .val (.int p4), .val (.int p5), .val (.int (p0 &&& (7 : Int32))), .unset, .unset, .unset, .unset, .unset, .unset] [])) _ _ _
    refine own_go (fun t k => XS.sipush X0.here hx rfl (hb hby at_13) k) ?_
    show own_End p e below s (s₁.setTop (mkF m 16 #[.val (.int p0), .val (.int p1), .val (.int p2), .val (.int p3), .val (.int p4), .val (.int p5), .val (.int (p0 &&& (7 : Int32))), .unset, .unset, .unset, .unset, .unset, .unset] [(.int (239 : Int32))])) _ _ _
    refine own_go (fun t k => XS.goto X0.here hx rfl (pc0 := 16) (pc' := 20) rfl (hb hby at_16) (by decide) (by decide) k) ?_
    show own_End p e below s (s₁.setTop (mkF m 20 #[.val (.int p0), .val (.int p1), .val (.int p2), .val (.int p3), .val (.int p4), .val (.int p5), .val (.int (p0 &&& (7 : Int32))), .unset, .unset, .unset, .unset, .unset, .unset] [(.int (239 : Int32))])) _ _ _
    exact J20 _
set_option maxRecDepth 65536 in
set_option maxHeartbeats 40000000 in
theorem comes_1 {Post : Tables → Env → Array Value → State → Outcome → State → Prop} (hpost : ∀ tb e args s v u, (limb_1_1.after args s (.returned v) u = true ∧ limb_1_2.after args s (.returned v) u = true ∧ True) → FrameEnd s (.returned v) u (Jvm.fieldLocs frame_1_writes args s ++ Jvm.arrayLocs frame_1_arrays args s ++ Jvm.staticLocs frame_1_statics s) 16 128 → Post tb e args s (.returned v) u) :
    ArmFor flags0 classFile x code maxLocals ret World_1 tables_1 room_1 Calls_1 rest_1 Pre_1 Post := by
  intro l hfl _ _ p e ha hc hk s m args below hf hA hF happ hP
  obtain ⟨hcalls, hrest, hpre⟩ := hP
  obtain ⟨-, -, -, hnamed, -, -, -, hat⟩ := (Spec.applies_iff hf).mp happ
  obtain ⟨hg, hn⟩ := and_e (Cond.before_iff.mp (show (Jvm.Cond.and given_1 narrow_1).before args s = true from hpre))
  obtain ⟨gc, gr0⟩ := and_e hg
  obtain ⟨ga0, gr1⟩ := and_e gr0
  obtain ⟨ga1, gr2⟩ := and_e gr1
  obtain ⟨ga2, gr3⟩ := and_e gr2
  obtain ⟨ga3, gr4⟩ := and_e gr3
  obtain ⟨ga4, gr5⟩ := and_e gr4
  have ga5 := gr5
  obtain ⟨w0, w1, w2, w3, w4, w5, rfl⟩ : ∃ w0 w1 w2 w3 w4 w5 : Value, args = #[w0, w1, w2, w3, w4, w5] := by
    have hs : args.size = 6 := by simpa [Cond.value, given_1] using gc
    obtain ⟨L⟩ := args
    match L, hs with
    | [w0, w1, w2, w3, w4, w5], _ => exact ⟨w0, w1, w2, w3, w4, w5, rfl⟩
  have hw := fun d (hd : d ∈ tables_1) => atoms_spec (ws := Jvm.Cond.code x code maxLocals ret :: tables_1) hat d (List.mem_cons_of_mem _ hd)
  obtain ⟨i0, ei0⟩ := is_v ga0
  obtain rfl : w0 = (.int i0) := Option.some.inj ei0
  obtain ⟨i1, ei1⟩ := is_v ga1
  obtain rfl : w1 = (.int i1) := Option.some.inj ei1
  obtain ⟨i2, ei2⟩ := is_v ga2
  obtain rfl : w2 = (.int i2) := Option.some.inj ei2
  obtain ⟨i3, ei3⟩ := is_v ga3
  obtain rfl : w3 = (.int i3) := Option.some.inj ei3
  obtain ⟨i4, ei4⟩ := is_v ga4
  obtain rfl : w4 = (.int i4) := Option.some.inj ei4
  obtain ⟨i5, ei5⟩ := is_v ga5
  obtain rfl : w5 = (.int i5) := Option.some.inj ei5
  obtain ⟨n, o, h1, h2, h3, _, L, rfl, ⟨rfl, N⟩, hq⟩ := rm0 l s _ hw tables_1 i0 i1 i2 i3 i4 i5  s.heap s.heap.size (Nat.le_refl _)  p e ha hc hk s m _ below hf ((Spec.applies_iff_loose hf).mp happ).1 ⟨rfl, State.Warmed39.refl s, rfl⟩ trivial
  refine ⟨n, _, h1, h2, h3, hpost _ _ _ _ _ _ ⟨Cond.after_iff.mpr rfl, Cond.after_iff.mpr (eq_i res_at (Term.int_eval (1)) rfl), trivial⟩ ⟨hq.1, hq.2.1, (hq.2.2.sift fun y hy => Or.inr (N y hy)).mono (by decide) (by decide)⟩⟩
theorem main_1_1 : Claimed_1_1 := comes_1 fun _ _ _ _ _ _ h hF => ⟨h.1, hF⟩
theorem main_1_2 : Claimed_1_2 := comes_1 fun _ _ _ _ _ _ h hF => ⟨h.2.1, hF⟩
end Jvm.Pilot.@@N@@
namespace Jvm.Pilot.@@N@@
open Jvm Jvm.ClassFile Sem Op Lib Jvm.Free Jvm.Stand Jvm.Pilot.@@N@@.Jvm.D
/-! MADE BY PROGRAM (witnessworld.py) out of the Statement's table words and the real class files: 9 classes; the members and pool entries that the words name. The judged class is class 1, her method 1. -/
namespace start1
open Jvm.ClassFile
def u (s : String) : CpInfo := .utf8 (stringToUtf16 s)
/-- a pool by its gaps: so many unusable entries, then the entry; so many at the end -/
def gap : Nat → List CpInfo → List CpInfo
  | 0, r => r
  | n + 1, r => .unusable :: gap n r
def poolList (es : List (Nat × CpInfo)) (last : Nat) : List CpInfo := es.foldr (fun e r => gap e.1 (e.2 :: r)) (gap last [])
def pool (es : List (Nat × CpInfo)) (last : Nat) : Array CpInfo := ⟨poolList es last⟩
def fileOf (pool : Array CpInfo) (this : Nat) (attrs : Array Attribute := #[]) (ms : Array MethodInfo := #[]) (fl : Nat := 33) (sup : Nat := 0) (ifs : Array Nat := #[]) (fds : Array FieldInfo := #[]) : ClassFile where
  minorVersion := 0
  majorVersion := 65
  constantPool := pool
  accessFlags := fl
  thisClass := this
  superClass := sup
  interfaces := ifs
  fields := fds
  methods := ms
  attributes := attrs
def plain (name : String) (sup : Option ClassId) : Class where
  name := name
  kind := .ordinary
  loader := none
  accessFlags := 33
  super := sup
  interfaces := #[]
  cf := none
  fields := #[]
  methods := #[]
  instanceTypes := #[]
  staticTypes := #[]
  resolved := #[]
  callSites := []
  init := .initialized
  statics := none
  mirror := none

def pool0 : Array CpInfo := pool [(5, u "<init>"), (0, u "()V"), (1, .class_ 10), (1, u "java/lang/Object")] 113

def k0m0 : Method := { name := "<init>", desc := "()V", sig := { parameters := [], returnType := none }, accessFlags := 1, code := none }
/-- java/lang/Object -/
def k0 : Class := { plain "java/lang/Object" none with
  accessFlags := 33
  interfaces := #[]
  cf := some (fileOf pool0 8 #[] #[{ accessFlags := 1, nameIndex := 5, descriptorIndex := 6, attributes := #[] }] 33 0 #[] #[])
  fields := #[]
  methods := #[k0m0]
  instanceTypes := #[]
  staticTypes := #[]
  resolved := Array.replicate 124 none
  statics := none }

def pool1 : Array CpInfo := pool [(2, .class_ 4), (1, u "java/lang/Object"), (0, u "<init>"), (0, u "()V"), (0, .interfaceMethodref 8 9), (0, .class_ 10), (0, .nameAndType 11 12), (0, u "com/example/settings_by_rank/settingsbyrank/core/source/FileFormat"), (0, u "byteOrderMarkLength"), (0, u "([B)I"), (0, .class_ 14), (0, u "com/example/settings_by_rank/settingsbyrank/core/source/FileFormatByteOrderMarkLengthPinLaw"), (2, u "law"), (0, u "(IIIIII)Z")] 5

def k1m0 : Method := { name := "<init>", desc := "()V", sig := { parameters := [], returnType := none }, accessFlags := 1, code := none }
def k1c1 : Code := { maxStack := 4, maxLocals := 13, code := code, exceptionTable := #[], attributes := #[] }
def k1m1 : Method := { name := "law", desc := "(IIIIII)Z", sig := { parameters := [.int, .int, .int, .int, .int, .int], returnType := some .boolean }, accessFlags := 9, code := some k1c1 }
/-- com/example/settings_by_rank/settingsbyrank/core/source/FileFormatByteOrderMarkLengthPinLaw -/
def k1 : Class := { plain "com/example/settings_by_rank/settingsbyrank/core/source/FileFormatByteOrderMarkLengthPinLaw" (some 0) with
  accessFlags := 49
  interfaces := #[]
  cf := some (fileOf pool1 13 #[] #[{ accessFlags := 1, nameIndex := 5, descriptorIndex := 6, attributes := #[] }, { accessFlags := 9, nameIndex := 17, descriptorIndex := 18, attributes := #[] }] 49 2 #[] #[])
  fields := #[]
  methods := #[k1m0, k1m1]
  instanceTypes := #[]
  staticTypes := #[]
  resolved := Array.replicate 24 none
  statics := none }

def pool2 : Array CpInfo := pool [(1, .class_ 2), (0, u "com/example/settings_by_rank/settingsbyrank/core/source/FileFormat"), (0, .class_ 4), (0, u "java/lang/Object"), (16, u "byteOrderMarkLength"), (0, u "([B)I")] 5

def k2c0 : Code := { maxStack := 2, maxLocals := 2, code := prog_14_method_6_code, exceptionTable := #[], attributes := #[] }
def k2m0 : Method := { name := "byteOrderMarkLength", desc := "([B)I", sig := { parameters := [(.array .byte)], returnType := some .int }, accessFlags := 9, code := some k2c0 }
/-- com/example/settings_by_rank/settingsbyrank/core/source/FileFormat -/
def k2 : Class := { plain "com/example/settings_by_rank/settingsbyrank/core/source/FileFormat" (some 0) with
  accessFlags := 1537
  interfaces := #[]
  cf := some (fileOf pool2 1 #[] #[{ accessFlags := 9, nameIndex := 21, descriptorIndex := 22, attributes := #[] }] 1537 3 #[] #[])
  fields := #[]
  methods := #[k2m0]
  instanceTypes := #[]
  staticTypes := #[]
  resolved := Array.replicate 28 none
  statics := none }

def pool3 : Array CpInfo := pool [(1, u "java/lang/Cloneable"), (0, .class_ 1), (0, u "java/lang/Object"), (0, .class_ 3)] 3

/-- java/lang/Cloneable -/
def k3 : Class := { plain "java/lang/Cloneable" (some 0) with
  accessFlags := 1537
  interfaces := #[]
  cf := some (fileOf pool3 2 #[] #[] 1537 4 #[] #[])
  fields := #[]
  methods := #[]
  instanceTypes := #[]
  staticTypes := #[]
  resolved := Array.replicate 8 none
  statics := none }

def pool4 : Array CpInfo := pool [(1, u "java/io/Serializable"), (0, .class_ 1), (0, u "java/lang/Object"), (0, .class_ 3)] 3

/-- java/io/Serializable -/
def k4 : Class := { plain "java/io/Serializable" (some 0) with
  accessFlags := 1537
  interfaces := #[]
  cf := some (fileOf pool4 2 #[] #[] 1537 4 #[] #[])
  fields := #[]
  methods := #[]
  instanceTypes := #[]
  staticTypes := #[]
  resolved := Array.replicate 8 none
  statics := none }

/-- the primitive byte -/
def k5 : Class := { plain "byte" none with kind := .primitive 'B', accessFlags := 0x411 }
/-- [B -/
def k6 : Class := { plain "[B" (some 0) with kind := .array 5 .byte, interfaces := #[3, 4], accessFlags := 1041 }

/-- the primitive int -/
def k7 : Class := { plain "int" none with kind := .primitive 'I', accessFlags := 0x411 }
/-- [I -/
def k8 : Class := { plain "[I" (some 0) with kind := .array 7 .int, interfaces := #[3, 4], accessFlags := 1041 }

def heap : Heap := #[]
def classes : Array Class := #[k0, k1, k2, k3, k4, k5, k6, k7, k8]
def interned : List (Array UInt16 × Addr) := []
def slotsUsed : Nat := 0
def theMethod : MethodId := ⟨1, 1⟩
def args0 : Array Value := #[.int 3, .int 1, .int 7, .int 8, .int 9, .int 5]
def aboutOver (below : List Frame) : State where
  vm := { classes := classes, interned := interned.toArray }
  heap := heap
  slotsUsed := slotsUsed
  threads := #[{ frames := .invoking theMethod args0 :: below }]
def below0 : List Frame := [.native { method := ⟨0, 0⟩, args := #[] }]
def about1 : State := aboutOver below0
def p0 : Program := .bare "" "" ""
def e0 : Env := launch0.env 0 0 0
theorem w_frames : about1.frames = Frame.invoking theMethod args0 :: below0 := rfl
set_option maxRecDepth 65536 in
theorem w_args : argsFit about1.vm theMethod args0 = true := by decide +kernel
set_option maxRecDepth 65536 in
theorem w_heap : heapFits about1 = true := by decide +kernel
set_option maxRecDepth 65536 in
theorem w_runnable : about1.curStatus? = some .runnable := by decide +kernel
set_option maxRecDepth 65536 in
theorem w_alone : about1.alone = true := by decide +kernel
set_option maxRecDepth 65536 in
theorem w_named : about1.methodNamed? x = some theMethod := by decide +kernel
set_option maxRecDepth 65536 in
theorem w_hears : about1.hears theMethod below0 = true := by decide +kernel
set_option maxRecDepth 65536 in
theorem w_ripe : about1.ripe theMethod args0 below0 = true := by decide +kernel
theorem w_running : about1.status = .running := rfl
set_option maxRecDepth 65536 in
theorem w_room : about1.hasRoom e0.platform room_1 = true :=
  launch0.hasRoom_least _ room_1 (by decide +kernel) (by decide +kernel) (by decide +kernel) (by decide +kernel) (by decide +kernel) (by decide +kernel)
theorem allAtoms_all (ts : List Jvm.Cond) (a : Array Jvm.Value) (st : Jvm.State) : (allAtoms ts).before a st = ts.all (fun c => c.before a st) := by
  induction ts with
  | nil => rfl
  | cons c t ih =>
    show (Jvm.Cond.and c (allAtoms t)).before a st = _
    rw [Jvm.Cond.before_and, ih, List.all_cons]
def words1 : List Jvm.Cond := Jvm.Cond.code x code maxLocals ret :: tables_1
/-- a 'code' word, met by the world's own term for the bytes: nothing is compared byte by byte -/
theorem code_word {y : MethodName} {bytes : ByteArray} {mx : Nat} {rt : Option FieldType} {a : Array Value} {s : State} {m : MethodId} {meth : Method} {c : Code} (h1 : s.methodNamed? y = some m) (h2 : s.vm.method? m = some meth) (h3 : meth.code = some c) (h4 : c.code = bytes)
    (h5 : (c.maxLocals == mx && c.exceptionTable.isEmpty && decide (c.maxStack ≤ mostOperands) && decide (meth.sig.returnType = rt) && !meth.locks && decide (parseMethodDescriptor y.desc = some meth.sig)) = true) : (Jvm.Cond.code y bytes mx rt).before a s = true := by
  simp only [Bool.and_eq_true, beq_iff_eq, Bool.not_eq_true', decide_eq_true_eq] at h5
  obtain ⟨⟨⟨⟨⟨g1, g2⟩, g3⟩, g4⟩, g5⟩, g6⟩ := h5
  simp [Cond.before, Cond.holds, Cond.value, h1, h2, h3, h4, g1, g2, g3, g4, g5, g6]
def isCode : Jvm.Cond → Bool
  | .code _ _ _ _ => true
  | _ => false
theorem all_split {L : List Jvm.Cond} {P : Jvm.Cond → Bool} (h1 : L.all (fun c => isCode c || P c) = true) (h2 : ∀ c ∈ L.filter isCode, P c = true) : L.all P = true := by
  refine List.all_eq_true.mpr fun c hc => ?_
  have h := List.all_eq_true.mp h1 c hc
  rcases Bool.eq_false_or_eq_true (isCode c) with hi | hi
  · exact h2 c (List.mem_filter.mpr ⟨hc, hi⟩)
  · simpa [hi] using h
set_option maxRecDepth 65536 in
theorem w_c0 : (Jvm.Cond.code x code maxLocals ret).before args0 about1 = true := code_word (m := ⟨1, 1⟩) (meth := k1m1) (c := k1c1) (by decide +kernel) rfl rfl rfl (by decide +kernel)
set_option maxRecDepth 65536 in
theorem w_c1 : (Jvm.Cond.code ({ cls := "com/example/settings_by_rank/settingsbyrank/core/source/FileFormat", name := "byteOrderMarkLength", desc := "([B)I" } : Jvm.MethodName) prog_14_method_6_code (2 : Nat) (Option.some Jvm.ClassFile.FieldType.int)).before args0 about1 = true := code_word (m := ⟨2, 0⟩) (meth := k2m0) (c := k2c0) (by decide +kernel) rfl rfl rfl (by decide +kernel)
def codes1 : List Jvm.Cond := [Jvm.Cond.code x code maxLocals ret, Jvm.Cond.code ({ cls := "com/example/settings_by_rank/settingsbyrank/core/source/FileFormat", name := "byteOrderMarkLength", desc := "([B)I" } : Jvm.MethodName) prog_14_method_6_code (2 : Nat) (Option.some Jvm.ClassFile.FieldType.int)]
set_option maxRecDepth 65536 in
theorem codes_eq : words1.filter isCode = codes1 := rfl
theorem w_codes : ∀ c ∈ words1.filter isCode, c.before args0 about1 = true := by
  rw [codes_eq]
  intro c hc
  simp only [codes1, List.mem_cons, List.not_mem_nil, or_false] at hc
  rcases hc with rfl | rfl
  · exact w_c0
  · exact w_c1
set_option maxRecDepth 65536 in
theorem w_t1 : words1.all (fun c => isCode c || c.before args0 about1) = true := by decide +kernel
theorem w_tables : (allAtoms (Jvm.Cond.code x code maxLocals ret :: tables_1)).before args0 about1 = true := by
  rw [allAtoms_all]
  show words1.all (fun c => c.before args0 about1) = true
  refine all_split ?_ w_codes
  rw [w_t1]
set_option maxRecDepth 65536 in
theorem w_case : (Jvm.Cond.and given_1 narrow_1).before args0 about1 = true := by decide +kernel
theorem w_applies : (headSpec (Jvm.Cond.code x code maxLocals ret :: tables_1) room_1).applies x e0.platform about1 = true :=
  (Spec.applies_iff w_frames).mpr ⟨w_running, w_runnable, w_alone, w_named, w_hears, w_ripe, w_room, w_tables⟩
theorem atStart : AtStart classFile x code maxLocals ret World_1 tables_1 room_1 Calls_1 rest_1 Pre_1 launch0 p0 e0 about1 theMethod args0 below0 :=
  ⟨lists_1, trivial, launch0.admits_env _ _ _, launch0.least_env, fairChoices_fair.cas, fairChoices_fair.clock, w_frames, w_args, w_heap, w_applies, trivial, trivial, w_case⟩
end start1
theorem witness_1 : WitnessClaimed_1 := ⟨start1.p0, start1.e0, start1.about1, start1.theMethod, start1.args0, start1.below0, start1.atStart⟩
end Jvm.Pilot.@@N@@
