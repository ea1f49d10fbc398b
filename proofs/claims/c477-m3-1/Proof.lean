import JvmDerived
import JvmDerived.Pilot.@@N@@Statement
import JvmDerived.Pilot.@@N@@Code
set_option linter.unusedVariables false
set_option linter.unusedSimpArgs false
@@BLOCK:LamKit.lean.txt@@
namespace Jvm.RoadKit
open Sem ClassFile Op Lib Jvm.Stand Jvm.Free Jvm.LawKit
section New
variable {p : Program} {l : Launch} {e : Env} {R : Room} {s : State} {m : MethodId} {args : Array Value} {below : List Frame} {meth : Method} {c : Code} {T : State} {locs : List Loc} {cells slots : Nat}
theorem retI (X : Stand p l e R s m args below meth c T locs cells slots) (hx : p.tables.exec = Jvm.exec) {pc : Nat} {Ls : Array Slot} {z : Int32} {rest : List Value} (hret : meth.sig.returnType = some .int) (hd : decode c.code pc = .ok (.ireturn, 1)) {fs : List Frame}
    (hl : ∀ (f : JFrame) (acts : List Action), f.method = m → f.locked = none → f.entered = [] → (doReturn e (T.setTop f) acts (some (.int z))).1 = T.setFrames fs) : Steps p.tables e below (T.setTop (mkF m pc Ls (.int z :: rest))) (T.setFrames fs) := by
  have hm' : T.vm.method? m = some meth := X.method'
  have hn : narrow .int (.int z) = .int z := rfl
  show Steps p.tables e below (T.setTop { method := m, pc := pc, locals := Ls, stack := _ :: rest, locked := none }) _
  jvm_step X.here [X.here.top, hx, hd, hm', hret, hn]
  first | (intro acts; rw [hl _ acts rfl rfl rfl]) | rw [hl _ _ rfl rfl rfl]
  exact Steps.refl _
end New
end Jvm.RoadKit
namespace Jvm.Pilot.@@N@@
open Jvm Jvm.ClassFile Sem Op Lib Jvm.Free Jvm.Stand Jvm.LawKit Jvm.RoadKit Bundle Jvm.Pilot.@@N@@.Jvm.D
/-! OWN KIT: a walk's goal that can be forked and joined -/
section OwnKit
variable {p : Program} {l : Launch} {e : Env} {R : Room} {s : State} {m : MethodId} {args : Array Value} {below : List Frame} {meth : Method} {c : Code} {T : State} {locs : List Loc} {cells slots : Nat}
/-- from the state st the run comes to its end, having returned v over the heap and the places of which F speaks -/
def own_End (p : Program) (e : Env) (below : List Frame) (s st : State) (F : Option Value → Heap → List Loc → Prop) (k n : Nat) : Prop :=
  ∃ s₂ o, Steps p.tables e below st s₂ ∧ s₂.status = .running ∧ Ended s₂ below o ∧ ∃ v L, o = .returned v ∧ F v s₂.heap L ∧ FrameEnd s o s₂ L k n
theorem own_go {st st' : State} {F : Option Value → Heap → List Loc → Prop} {k n : Nat} (h : ∀ t, Steps p.tables e below st' t → Steps p.tables e below st t) (q : own_End p e below s st' F k n) : own_End p e below s st F k n := by
  obtain ⟨s₂, o, h1, h2⟩ := q
  exact ⟨s₂, o, h _ h1, h2⟩
theorem own_ret (X : Stand p l e R s m args below meth c T locs cells slots) {v : Option Value} {g : JFrame} {F : Option Value → Heap → List Loc → Prop} {k n : Nat} (hv : meth.sig.returnType = none → v = none) (hlocks : meth.locks = false)
    (hst : ∀ fs, (∀ (f : JFrame) (acts : List Action), f.method = m → f.locked = none → f.entered = [] → (doReturn e (T.setTop f) acts v).1 = T.setFrames fs) → Steps p.tables e below (T.setTop g) (T.setFrames fs))
    (hF : F v T.heap locs) (hc : cells ≤ k) (hs : slots ≤ n) : own_End p e below s (T.setTop g) F k n := by
  obtain ⟨fs, hr, hrun, hended, hW, hsame⟩ := X.leave (v := v) hv hlocks
  exact ⟨_, _, hst fs hr, hrun, hended, _, _, rfl, hF, ⟨_, rfl⟩, hW, hsame.mono hc hs⟩
/-- the same, where a String constant may have been booked meanwhile -/
def own_EndW (p : Program) (e : Env) (below : List Frame) (s st : State) (F : Option Value → Heap → List Loc → Prop) (k n : Nat) : Prop :=
  ∃ s₂ o, Steps p.tables e below st s₂ ∧ s₂.status = .running ∧ Ended s₂ below o ∧ ∃ v L, o = .returned v ∧ F v s₂.heap L ∧ ReturnedEndW s o s₂ L k n
theorem own_goW {st st' : State} {F : Option Value → Heap → List Loc → Prop} {k n : Nat} (h : ∀ t, Steps p.tables e below st' t → Steps p.tables e below st t) (q : own_EndW p e below s st' F k n) : own_EndW p e below s st F k n := by
  obtain ⟨s₂, o, h1, h2⟩ := q
  exact ⟨s₂, o, h _ h1, h2⟩
theorem own_retW {vm₁ : Vm} (X : Stand p l e R (s.setVm vm₁) m args below meth c T locs cells slots) {n' : Nat} (hS : s.Since vm₁ n') (hn : n' ≤ T.heap.size) {v : Option Value} {g : JFrame} {F : Option Value → Heap → List Loc → Prop} {k n : Nat} (hv : meth.sig.returnType = none → v = none) (hlocks : meth.locks = false)
    (hst : ∀ fs, (∀ (f : JFrame) (acts : List Action), f.method = m → f.locked = none → f.entered = [] → (doReturn e (T.setTop f) acts v).1 = T.setFrames fs) → Steps p.tables e below (T.setTop g) (T.setFrames fs))
    (hF : F v T.heap locs) (hc : cells ≤ k) (hs : slots ≤ n) : own_EndW p e below s (T.setTop g) F k n := by
  obtain ⟨fs, hr, hrun, hended, hW⟩ := X.leaveW hS hn (v := v) hv hlocks
  exact ⟨_, _, hst fs hr, hrun, hended, _, _, rfl, hF, hW.1, hW.2.1, hW.2.2.1, hW.2.2.2.mono hc hs⟩
/-- the places written so far, by a name alone -/
theorem own_abs (X : Stand p l e R s m args below meth c T locs cells slots) {k : Nat} (N : Fr k locs) : ∃ ls, Stand p l e R s m args below meth c T ls cells slots ∧ Fr k ls := ⟨_, X, N⟩
theorem own_retJ (X : Stand p l e R s m args below meth c T locs cells slots) (hx : p.tables.exec = Jvm.exec) {pc : Nat} {Ls : Array Slot} {z : Int64} {rest : List Value} (hret : meth.sig.returnType = some .long) (hd : decode c.code pc = .ok (.lreturn, 1)) {fs : List Frame}
    (hl : ∀ (f : JFrame) (acts : List Action), f.method = m → f.locked = none → f.entered = [] → (doReturn e (T.setTop f) acts (some (.long z))).1 = T.setFrames fs) : Steps p.tables e below (T.setTop (mkF m pc Ls (.long z :: rest))) (T.setFrames fs) := by
  have hm' : T.vm.method? m = some meth := X.method'
  have hn : narrow .long (.long z) = .long z := rfl
  show Steps p.tables e below (T.setTop { method := m, pc := pc, locals := Ls, stack := _ :: rest, locked := none }) _
  jvm_step X.here [X.here.top, hx, hd, hm', hret, hn]
  first | (intro acts; rw [hl _ acts rfl rfl rfl]) | rw [hl _ _ rfl rfl rfl]
  exact Steps.refl _
theorem own_retD (X : Stand p l e R s m args below meth c T locs cells slots) (hx : p.tables.exec = Jvm.exec) {pc : Nat} {Ls : Array Slot} {z : UInt64} {rest : List Value} (hret : meth.sig.returnType = some .double) (hd : decode c.code pc = .ok (.dreturn, 1)) {fs : List Frame}
    (hl : ∀ (f : JFrame) (acts : List Action), f.method = m → f.locked = none → f.entered = [] → (doReturn e (T.setTop f) acts (some (.double z))).1 = T.setFrames fs) : Steps p.tables e below (T.setTop (mkF m pc Ls (.double z :: rest))) (T.setFrames fs) := by
  have hm' : T.vm.method? m = some meth := X.method'
  have hn : narrow .double (.double z) = .double z := rfl
  show Steps p.tables e below (T.setTop { method := m, pc := pc, locals := Ls, stack := _ :: rest, locked := none }) _
  jvm_step X.here [X.here.top, hx, hd, hm', hret, hn]
  first | (intro acts; rw [hl _ acts rfl rfl rfl]) | rw [hl _ _ rfl rfl rfl]
  exact Steps.refl _
theorem own_tlt {x y : Int32} {i j : Int} (hx : x.toInt = i) (hy : y.toInt = j) (h : i < j) : if_icmp.holds .lt x y = true ∧ if_icmp.holds .ge x y = false ∧ if_icmp.holds .gt y x = true ∧ if_icmp.holds .le y x = false :=
  tlt (by rw [Int32.lt_iff_toInt_lt, hx, hy]; exact h)
theorem own_flt {x y : Int32} {i j : Int} (hx : x.toInt = i) (hy : y.toInt = j) (h : ¬ i < j) : if_icmp.holds .lt x y = false ∧ if_icmp.holds .ge x y = true ∧ if_icmp.holds .gt y x = false ∧ if_icmp.holds .le y x = true :=
  flt (by rw [Int32.lt_iff_toInt_lt, hx, hy]; exact h)
theorem own_eq {x y : Int32} {i j : Int} (hx : x.toInt = i) (hy : y.toInt = j) (h : i = j) : if_icmp.holds .eq x y = true ∧ if_icmp.holds .ne x y = false :=
  teq (Int32.toInt_inj.mp (by rw [hx, hy]; exact h))
theorem own_ne {x y : Int32} {i j : Int} (hx : x.toInt = i) (hy : y.toInt = j) (h : ¬ i = j) : if_icmp.holds .eq x y = false ∧ if_icmp.holds .ne x y = true :=
  feq (fun q => h (by rw [← hx, ← hy, q]))
theorem own_Llt {x y : Int64} {i j : Int} (hx : x.toInt = i) (hy : y.toInt = j) (h : i < j) : if_icmp.holds .lt (lcmpW x y) 0 = true ∧ if_icmp.holds .ge (lcmpW x y) 0 = false ∧ if_icmp.holds .gt 0 (lcmpW x y) = true ∧ if_icmp.holds .le 0 (lcmpW x y) = false :=
  tlt ((lw_lt x y).mpr (by rw [Int64.lt_iff_toInt_lt, hx, hy]; exact h))
theorem own_Llf {x y : Int64} {i j : Int} (hx : x.toInt = i) (hy : y.toInt = j) (h : ¬ i < j) : if_icmp.holds .lt (lcmpW x y) 0 = false ∧ if_icmp.holds .ge (lcmpW x y) 0 = true ∧ if_icmp.holds .gt 0 (lcmpW x y) = false ∧ if_icmp.holds .le 0 (lcmpW x y) = true :=
  flt (fun q => h (by have := (lw_lt x y).mp q; rw [Int64.lt_iff_toInt_lt, hx, hy] at this; exact this))
theorem own_Lgt {x y : Int64} {i j : Int} (hy : y.toInt = j) (hx : x.toInt = i) (h : j < i) : if_icmp.holds .lt 0 (lcmpW x y) = true ∧ if_icmp.holds .ge 0 (lcmpW x y) = false ∧ if_icmp.holds .gt (lcmpW x y) 0 = true ∧ if_icmp.holds .le (lcmpW x y) 0 = false :=
  tlt ((lw_gt x y).mpr (by rw [Int64.lt_iff_toInt_lt, hx, hy]; exact h))
theorem own_Lgf {x y : Int64} {i j : Int} (hy : y.toInt = j) (hx : x.toInt = i) (h : ¬ j < i) : if_icmp.holds .lt 0 (lcmpW x y) = false ∧ if_icmp.holds .ge 0 (lcmpW x y) = true ∧ if_icmp.holds .gt (lcmpW x y) 0 = false ∧ if_icmp.holds .le (lcmpW x y) 0 = true :=
  flt (fun q => h (by have := (lw_gt x y).mp q; rw [Int64.lt_iff_toInt_lt, hx, hy] at this; exact this))
theorem own_Let {x y : Int64} {i j : Int} (hx : x.toInt = i) (hy : y.toInt = j) (h : i = j) : if_icmp.holds .eq (lcmpW x y) 0 = true ∧ if_icmp.holds .ne (lcmpW x y) 0 = false :=
  teq ((lw_eq x y).mpr (Int64.toInt_inj.mp (by rw [hx, hy]; exact h)))
theorem own_Lef {x y : Int64} {i j : Int} (hx : x.toInt = i) (hy : y.toInt = j) (h : ¬ i = j) : if_icmp.holds .eq (lcmpW x y) 0 = false ∧ if_icmp.holds .ne (lcmpW x y) 0 = true :=
  feq (fun q => h (by rw [← hx, ← hy, (lw_eq x y).mp q]))
/-- (turned from the worked claim gauge-weight) the model's own selection picks a private method itself -/
theorem own_selP {y : MethodName} {s : State} {args : Array Value} {n : Nat} (hy : y.cls ≠ "java/lang/invoke/MethodHandle" ∧ y.cls ≠ "java/lang/invoke/VarHandle") (hins : (Cond.instantiable y.cls n).before args s = true) (hpriv : (Cond.privateMethod y).before args s = true) (hinst : (Cond.instanceMethod y).before args s = true) :
    (Cond.selects y.cls y y).before args s = true := by
  obtain ⟨c, k, hc, hk, -, hniab, -, -⟩ := Cond.instantiable_spec hins
  have hni : k.isInterface = false := (Bool.or_eq_false_iff.mp hniab).1
  obtain ⟨mk, methM, hnamed, hmethM, -, -⟩ := Cond.instanceMethod_spec hinst
  have hfound : s.methodFound? y.cls y.name y.desc = some mk := State.methodFound?_of_named hnamed hy
  have hcls : mk.cls = c := Option.some.inj ((findClass_of_methodNamed hnamed).symm.trans hc)
  have hsel : selectMethod {} s.vm c mk = .method mk := selectMethod_private hmethM (Cond.privateMethod_at hpriv mk methM hnamed hmethM)
  simp only [Cond.before, Cond.holds, Cond.value, hc, hfound, hnamed, hsel, hcls, hk]
  simp; exact hni
end OwnKit
/-! OWN: the steps over plain frames, by the library's laws -/
abbrev wI (x : Int32) : Slot := .val (.int x)
abbrev wR (a : Addr) : Slot := .val (.ref a)
abbrev wU : Slot := .unset
section OwnSteps
variable {p : Program} {l : Launch} {e : Env} {R : Room} {s Z : State} {m : MethodId} {args a0 : Array Value} {below : List Frame} {meth : Method} {c : Code} {T : State} {locs : List Loc} {cells slots : Nat} {h : Heap}
  {pc pc0 pc' : Nat} {L l' : Array Slot} {S : List Value} {F : Option Value → Heap → List Loc → Prop} {ko no : Nat} {bytes : ByteArray} {x y : Int32} {v : Value} {a : Addr}
theorem o_iloadN (X : Stand p l e R s m args below meth c T locs cells slots) (hx : p.tables.exec = Jvm.exec) (hby : c.code = bytes) {k : Fin 4} (hd : decode bytes pc = .ok (.iload_n k, 1)) (hl : L[k.val]? = some (.val (.int x))) (q : own_End p e below s (T.setTop (mkF m (pc + 1) L (.int x :: S))) F ko no) : own_End p e below s (T.setTop (mkF m pc L S)) F ko no := own_go (fun _ κ => XS.iloadN (g := mkF m pc L S) X.here hx rfl (hb hby hd) hl κ) q
theorem o_iload (X : Stand p l e R s m args below meth c T locs cells slots) (hx : p.tables.exec = Jvm.exec) (hby : c.code = bytes) {k : Nat} (hd : decode bytes pc = .ok (.iload k, 2)) (hl : L[k]? = some (.val (.int x))) (q : own_End p e below s (T.setTop (mkF m (pc + 2) L (.int x :: S))) F ko no) : own_End p e below s (T.setTop (mkF m pc L S)) F ko no := own_go (fun _ κ => XS.iload (g := mkF m pc L S) X.here hx rfl (hb hby hd) hl κ) q
theorem o_aloadN (X : Stand p l e R s m args below meth c T locs cells slots) (hx : p.tables.exec = Jvm.exec) (hby : c.code = bytes) {k : Fin 4} (hd : decode bytes pc = .ok (.aload_n k, 1)) (hl : L[k.val]? = some (.val (.ref a))) (q : own_End p e below s (T.setTop (mkF m (pc + 1) L (.ref a :: S))) F ko no) : own_End p e below s (T.setTop (mkF m pc L S)) F ko no := own_go (fun _ κ => XS.aloadN (g := mkF m pc L S) X.here hx rfl (hb hby hd) hl rfl κ) q
theorem o_aload (X : Stand p l e R s m args below meth c T locs cells slots) (hx : p.tables.exec = Jvm.exec) (hby : c.code = bytes) {k : Nat} (hd : decode bytes pc = .ok (.aload k, 2)) (hl : L[k]? = some (.val (.ref a))) (q : own_End p e below s (T.setTop (mkF m (pc + 2) L (.ref a :: S))) F ko no) : own_End p e below s (T.setTop (mkF m pc L S)) F ko no := own_go (fun _ κ => XS.aload (g := mkF m pc L S) X.here hx rfl (hb hby hd) hl rfl κ) q
theorem o_iconst (X : Stand p l e R s m args below meth c T locs cells slots) (hx : p.tables.exec = Jvm.exec) (hby : c.code = bytes) {i : Int} (hd : decode bytes pc = .ok (.iconst i, 1)) (hz : Int32.ofInt i = x) (q : own_End p e below s (T.setTop (mkF m (pc + 1) L (.int x :: S))) F ko no) : own_End p e below s (T.setTop (mkF m pc L S)) F ko no := by
  subst hz; exact own_go (fun _ κ => XS.iconst (g := mkF m pc L S) X.here hx rfl (hb hby hd) κ) q
theorem o_bipush (X : Stand p l e R s m args below meth c T locs cells slots) (hx : p.tables.exec = Jvm.exec) (hby : c.code = bytes) {i : Int} (hd : decode bytes pc = .ok (.bipush i, 2)) (hz : (Int8.ofInt i).toInt32 = x) (q : own_End p e below s (T.setTop (mkF m (pc + 2) L (.int x :: S))) F ko no) : own_End p e below s (T.setTop (mkF m pc L S)) F ko no := by
  subst hz; exact own_go (fun _ κ => XS.bipush (g := mkF m pc L S) X.here hx rfl (hb hby hd) κ) q
theorem o_istoreN (X : Stand p l e R s m args below meth c T locs cells slots) (hx : p.tables.exec = Jvm.exec) (hby : c.code = bytes) {k : Fin 4} (hd : decode bytes pc = .ok (.istore_n k, 1)) (hl : storeLocals L k.val (.int x) = some l') (q : own_End p e below s (T.setTop (mkF m (pc + 1) l' S)) F ko no) : own_End p e below s (T.setTop (mkF m pc L (.int x :: S))) F ko no := own_go (fun _ κ => XS.istoreN (g := mkF m pc L (.int x :: S)) X.here hx rfl (hb hby hd) rfl hl κ) q
theorem o_istore (X : Stand p l e R s m args below meth c T locs cells slots) (hx : p.tables.exec = Jvm.exec) (hby : c.code = bytes) {k : Nat} (hd : decode bytes pc = .ok (.istore k, 2)) (hl : storeLocals L k (.int x) = some l') (q : own_End p e below s (T.setTop (mkF m (pc + 2) l' S)) F ko no) : own_End p e below s (T.setTop (mkF m pc L (.int x :: S))) F ko no := own_go (fun _ κ => XS.istore (g := mkF m pc L (.int x :: S)) X.here hx rfl (hb hby hd) rfl hl κ) q
theorem o_astore (X : Stand p l e R s m args below meth c T locs cells slots) (hx : p.tables.exec = Jvm.exec) (hby : c.code = bytes) {k : Nat} (hd : decode bytes pc = .ok (.astore k, 2)) (hl : storeLocals L k (.ref a) = some l') (q : own_End p e below s (T.setTop (mkF m (pc + 2) l' S)) F ko no) : own_End p e below s (T.setTop (mkF m pc L (.ref a :: S))) F ko no := own_go (fun _ κ => XS.astore (g := mkF m pc L (.ref a :: S)) X.here hx rfl (hb hby hd) rfl rfl hl κ) q
theorem o_astoreN (X : Stand p l e R s m args below meth c T locs cells slots) (hx : p.tables.exec = Jvm.exec) (hby : c.code = bytes) {k : Fin 4} (hd : decode bytes pc = .ok (.astore_n k, 1)) (hl : storeLocals L k.val (.ref a) = some l') (q : own_End p e below s (T.setTop (mkF m (pc + 1) l' S)) F ko no) : own_End p e below s (T.setTop (mkF m pc L (.ref a :: S))) F ko no := own_go (fun _ κ => XS.astoreN (g := mkF m pc L (.ref a :: S)) X.here hx rfl (hb hby hd) rfl rfl hl κ) q
theorem o_iinc (X : Stand p l e R s m args below meth c T locs cells slots) (hx : p.tables.exec = Jvm.exec) (hby : c.code = bytes) {k : Nat} {i : Int} (hd : decode bytes pc = .ok (.iinc k i, 3)) (hl : L[k]? = some (.val (.int x))) (hl' : storeLocals L k (.int (x + Int32.ofInt i)) = some l') (q : own_End p e below s (T.setTop (mkF m (pc + 3) l' S)) F ko no) : own_End p e below s (T.setTop (mkF m pc L S)) F ko no := own_go (fun _ κ => XS.iinc (g := mkF m pc L S) X.here hx rfl (hb hby hd) hl hl' κ) q
theorem o_iadd (X : Stand p l e R s m args below meth c T locs cells slots) (hx : p.tables.exec = Jvm.exec) (hby : c.code = bytes) (hd : decode bytes pc = .ok (.iadd, 1)) (q : own_End p e below s (T.setTop (mkF m (pc + 1) L (.int (x + y) :: S))) F ko no) : own_End p e below s (T.setTop (mkF m pc L (.int y :: .int x :: S))) F ko no := own_go (fun _ κ => XS.iadd (g := mkF m pc L (.int y :: .int x :: S)) X.here hx rfl (hb hby hd) rfl κ) q
theorem o_isub (X : Stand p l e R s m args below meth c T locs cells slots) (hx : p.tables.exec = Jvm.exec) (hby : c.code = bytes) (hd : decode bytes pc = .ok (.isub, 1)) (q : own_End p e below s (T.setTop (mkF m (pc + 1) L (.int (x - y) :: S))) F ko no) : own_End p e below s (T.setTop (mkF m pc L (.int y :: .int x :: S))) F ko no := own_go (fun _ κ => XS.isub (g := mkF m pc L (.int y :: .int x :: S)) X.here hx rfl (hb hby hd) rfl κ) q
theorem o_imul (X : Stand p l e R s m args below meth c T locs cells slots) (hx : p.tables.exec = Jvm.exec) (hby : c.code = bytes) (hd : decode bytes pc = .ok (.imul, 1)) (q : own_End p e below s (T.setTop (mkF m (pc + 1) L (.int (x * y) :: S))) F ko no) : own_End p e below s (T.setTop (mkF m pc L (.int y :: .int x :: S))) F ko no := own_go (fun _ κ => XS.imul (g := mkF m pc L (.int y :: .int x :: S)) X.here hx rfl (hb hby hd) rfl κ) q
theorem o_iand (X : Stand p l e R s m args below meth c T locs cells slots) (hx : p.tables.exec = Jvm.exec) (hby : c.code = bytes) (hd : decode bytes pc = .ok (.iand, 1)) (q : own_End p e below s (T.setTop (mkF m (pc + 1) L (.int (x &&& y) :: S))) F ko no) : own_End p e below s (T.setTop (mkF m pc L (.int y :: .int x :: S))) F ko no := own_go (fun _ κ => XS.iand (g := mkF m pc L (.int y :: .int x :: S)) X.here hx rfl (hb hby hd) rfl κ) q
theorem o_iushr (X : Stand p l e R s m args below meth c T locs cells slots) (hx : p.tables.exec = Jvm.exec) (hby : c.code = bytes) (hd : decode bytes pc = .ok (.iushr, 1)) (q : own_End p e below s (T.setTop (mkF m (pc + 1) L (.int ((x.toUInt32 >>> (y &&& 31).toUInt32).toInt32) :: S))) F ko no) : own_End p e below s (T.setTop (mkF m pc L (.int y :: .int x :: S))) F ko no := own_go (fun _ κ => XS.iushr (g := mkF m pc L (.int y :: .int x :: S)) X.here hx rfl (hb hby hd) rfl κ) q
theorem o_dup (X : Stand p l e R s m args below meth c T locs cells slots) (hx : p.tables.exec = Jvm.exec) (hby : c.code = bytes) (hd : decode bytes pc = .ok (.dup, 1)) (hc : v.category = 1) (q : own_End p e below s (T.setTop (mkF m (pc + 1) L (v :: v :: S))) F ko no) : own_End p e below s (T.setTop (mkF m pc L (v :: S))) F ko no := own_go (fun _ κ => XS.dup (g := mkF m pc L (v :: S)) X.here hx rfl (hb hby hd) rfl hc κ) q
theorem o_goto (X : Stand p l e R s m args below meth c T locs cells slots) (hx : p.tables.exec = Jvm.exec) (hpc : pc = pc0) (hby : c.code = bytes) {o : Int} (hd : decode bytes pc0 = .ok (.goto o, 3)) (ho : 0 ≤ (pc0 : Int) + o) (hp : ((pc0 : Int) + o).toNat = pc') (q : own_End p e below s (T.setTop (mkF m pc' L S)) F ko no) : own_End p e below s (T.setTop (mkF m pc L S)) F ko no := by
  cases hpc; exact own_go (fun _ κ => XS.goto (g := mkF m _ L S) X.here hx rfl rfl (hb hby hd) ho hp κ) q
theorem o_icmpYes (X : Stand p l e R s m args below meth c T locs cells slots) (hx : p.tables.exec = Jvm.exec) (hpc : pc = pc0) (hby : c.code = bytes) {o : Int} {cd : ClassFile.Cond} (hd : decode bytes pc0 = .ok (.if_icmp cd o, 3)) (hc : if_icmp.holds cd x y = true) (ho : 0 ≤ (pc0 : Int) + o) (hp : ((pc0 : Int) + o).toNat = pc') (q : own_End p e below s (T.setTop (mkF m pc' L S)) F ko no) : own_End p e below s (T.setTop (mkF m pc L (.int y :: .int x :: S))) F ko no := by
  cases hpc; exact own_go (fun _ κ => XS.icmpYes (g := mkF m _ L (.int y :: .int x :: S)) X.here hx rfl rfl (hb hby hd) rfl hc ho hp κ) q
theorem o_icmpNo (X : Stand p l e R s m args below meth c T locs cells slots) (hx : p.tables.exec = Jvm.exec) (hby : c.code = bytes) {o : Int} {cd : ClassFile.Cond} (hd : decode bytes pc = .ok (.if_icmp cd o, 3)) (hc : if_icmp.holds cd x y = false) (q : own_End p e below s (T.setTop (mkF m (pc + 3) L S)) F ko no) : own_End p e below s (T.setTop (mkF m pc L (.int y :: .int x :: S))) F ko no := own_go (fun _ κ => XS.icmpNo (g := mkF m pc L (.int y :: .int x :: S)) X.here hx rfl (hb hby hd) rfl hc κ) q
theorem o_ifYes (X : Stand p l e R s m args below meth c T locs cells slots) (hx : p.tables.exec = Jvm.exec) (hpc : pc = pc0) (hby : c.code = bytes) {o : Int} {cd : ClassFile.Cond} (hd : decode bytes pc0 = .ok (.ifCond cd o, 3)) (hc : ifCond.holds cd x = true) (ho : 0 ≤ (pc0 : Int) + o) (hp : ((pc0 : Int) + o).toNat = pc') (q : own_End p e below s (T.setTop (mkF m pc' L S)) F ko no) : own_End p e below s (T.setTop (mkF m pc L (.int x :: S))) F ko no := by
  cases hpc; exact own_go (fun _ κ => XS.ifYes (g := mkF m _ L (.int x :: S)) X.here hx rfl rfl (hb hby hd) rfl hc ho hp κ) q
theorem o_ifNo (X : Stand p l e R s m args below meth c T locs cells slots) (hx : p.tables.exec = Jvm.exec) (hby : c.code = bytes) {o : Int} {cd : ClassFile.Cond} (hd : decode bytes pc = .ok (.ifCond cd o, 3)) (hc : ifCond.holds cd x = false) (q : own_End p e below s (T.setTop (mkF m (pc + 3) L S)) F ko no) : own_End p e below s (T.setTop (mkF m pc L (.int x :: S))) F ko no := own_go (fun _ κ => XS.ifNo (g := mkF m pc L (.int x :: S)) X.here hx rfl (hb hby hd) rfl hc κ) q
theorem o_getF (X : Stand p l e R s m args below meth c T locs cells slots) (hx : p.tables.exec = Jvm.exec) (hZ : Z.Warmed39 s.vm) {own R0 O n d host : String} {index : Nat} (hown : s.vm.findClass own = some m.cls) (w : (Cond.fieldLink own index R0 n d).before a0 Z = true ∨ (Cond.fieldLinkNest own index R0 n d host).before a0 Z = true) (via : Via Z R0 O n d) (eT : T.heap = h) (Fl : Fld Z h a O n d v)
    (hby : c.code = bytes) (hd : decode bytes pc = .ok (.getfield index, 3)) (q : ∀ T', Stand p l e R s m args below meth c T' locs cells slots → T'.heap = h → own_End p e below s (T'.setTop (mkF m (pc + 3) L (v :: S))) F ko no) : own_End p e below s (T.setTop (mkF m pc L (.ref a :: S))) F ko no := by
  obtain ⟨T', X', e', st⟩ := getF X hx hZ hown w via eT Fl (g := mkF m pc L (.ref a :: S)) rfl rfl (hb hby hd)
  exact own_go st (q T' X' e')
end OwnSteps
section OwnFs
variable {Z : State} {h h' : Heap} {x y : Addr} {k : ClassId} {n i j v : Int32} {w : Int64} {L L' : List Int32} {M M' : List Int64} {ws : List Addr} {sl : Nat} {u : Value} {cl : Cell}
/-! pure arrays -/
def own_get (L : List Int32) (i : Int32) : Option Int32 := if 0 ≤ i.toInt then L[i.toInt.toNat]? else none
def own_set (L : List Int32) (i v : Int32) : Option (List Int32) := if 0 ≤ i.toInt ∧ i.toInt < L.length then some (L.set i.toInt.toNat v) else none
def own_getJ (L : List Int64) (i : Int32) : Option Int64 := if 0 ≤ i.toInt then L[i.toInt.toNat]? else none
def own_setJ (L : List Int64) (i : Int32) (v : Int64) : Option (List Int64) := if 0 ≤ i.toInt ∧ i.toInt < L.length then some (L.set i.toInt.toNat v) else none
def own_iv (L : List Int32) : List Value := L.map Value.int
def own_jv (L : List Int64) : List Value := L.map Value.long
theorem own_bnd {α β : Type} {a : Option α} {f : α → Option β} {b : β} (H : a.bind f = some b) : ∃ z, a = some z ∧ f z = some b := Option.bind_eq_some_iff.mp H
theorem own_ifp {c : Prop} [Decidable c] {α : Type} {a b r : α} (q : c) (H : (if c then a else b) = r) : a = r := by rw [if_pos q] at H; exact H
theorem own_ifn {c : Prop} [Decidable c] {α : Type} {a b r : α} (q : ¬ c) (H : (if c then a else b) = r) : b = r := by rw [if_neg q] at H; exact H
def own_AI (Z : State) (h : Heap) (x : Addr) (k : ClassId) (n : Int32) (L : List Int32) : Prop := Arv Z h x k .int n (own_iv L) (.int 0) ∧ L.length = n.toNatClampNeg
def own_AJ (Z : State) (h : Heap) (x : Addr) (k : ClassId) (n : Int32) (M : List Int64) : Prop := Arv Z h x k .long n (own_jv M) (.long 0) ∧ M.length = n.toNatClampNeg
theorem own_AI.ext (F : own_AI Z h x k n L) (E : Ext h h') : own_AI Z h' x k n L := ⟨F.1.ext E, F.2⟩
theorem own_AI.keep (F : own_AI Z h x k n L) (K : Keep h h' ws) (q : x ∉ ws) : own_AI Z h' x k n L := ⟨F.1.keep K q, F.2⟩
theorem own_AI.other (F : own_AI Z h x k n L) (W : Wr h h' y sl u) (q : x ≠ y) : own_AI Z h' x k n L := ⟨F.1.other W q, F.2⟩
theorem own_AI.lt (F : own_AI Z h x k n L) : x < h.size := F.1.lt
theorem own_AJ.ext (F : own_AJ Z h x k n M) (E : Ext h h') : own_AJ Z h' x k n M := ⟨F.1.ext E, F.2⟩
theorem own_AJ.keep (F : own_AJ Z h x k n M) (K : Keep h h' ws) (q : x ∉ ws) : own_AJ Z h' x k n M := ⟨F.1.keep K q, F.2⟩
theorem own_AJ.other (F : own_AJ Z h x k n M) (W : Wr h h' y sl u) (q : x ≠ y) : own_AJ Z h' x k n M := ⟨F.1.other W q, F.2⟩
theorem own_AJ.lt (F : own_AJ Z h x k n M) : x < h.size := F.1.lt
theorem own_pos {i : Int32} (h : 0 ≤ i.toInt) : i.toInt.toNat = i.toNatClampNeg := (Int32.toNat_toInt i)
theorem own_lt_iff (hn : ¬ n < 0) (hi : 0 ≤ i.toInt) (hl : i.toNatClampNeg < n.toNatClampNeg) : ¬ i < 0 ∧ i < n := by
  have e0 : (0 : Int32).toInt = 0 := rfl
  rw [Int32.lt_iff_toInt_lt] at hn
  rw [Int32.lt_iff_toInt_lt, Int32.lt_iff_toInt_lt]
  have a := Int32.toNat_toInt i; have b := Int32.toNat_toInt n; omega
theorem own_gin (F : own_AI Z h x k n L) (hv : own_get L i = some v) : ¬ i < 0 ∧ i < n := by
  obtain ⟨⟨c, A, q, S, hn, -⟩, hl⟩ := F
  unfold own_get at hv; split at hv
  · rename_i h0
    have := (List.getElem?_eq_some_iff.mp hv).1
    rw [own_pos h0, hl] at this; exact own_lt_iff hn h0 this
  · cases hv
theorem own_gvl (hv : own_get L i = some v) : (own_iv L).getD i.toNatClampNeg (.int 0) = .int v := by
  unfold own_get at hv; split at hv
  · rename_i h0
    rw [own_pos h0] at hv
    rw [own_iv, List.getD_eq_getElem?_getD, List.getElem?_map, hv]; rfl
  · cases hv
theorem own_sin (F : own_AI Z h x k n L) (hs : own_set L i v = some L') : ¬ i < 0 ∧ i < n := by
  obtain ⟨⟨c, A, q, S, hn, -⟩, hl⟩ := F
  unfold own_set at hs; split at hs
  · rename_i h0
    refine own_lt_iff hn h0.1 ?_
    have a := Int32.toNat_toInt i; omega
  · cases hs
theorem own_AI.set (A : Arr Z h x cl .int) (q1 : cl.cls = k) (S : cl.slots.size = n.toNatClampNeg) (q3 : ¬ n < 0) (H : Has cl (own_iv L) (.int 0)) (G : ∀ i, i < cl.slots.size → fits .int ((own_iv L).getD i (.int 0)) = true) (hl : L.length = n.toNatClampNeg) (hs : own_set L i v = some L') (W : Wr h h' x i.toNatClampNeg (.int v)) : own_AI Z h' x k n L' := by
  unfold own_set at hs; split at hs
  · rename_i h0
    cases hs
    rw [own_pos h0.1]
    refine ⟨?_, by rw [List.length_set]; exact hl⟩
    have := Arv.set A q1 S q3 H G rfl W i.toNatClampNeg rfl (by rw [own_iv, List.length_map]; have a := Int32.toNat_toInt i; omega)
    rw [own_iv, List.map_set]; exact this
  · cases hs
theorem own_ginJ {w : Int64} (F : own_AJ Z h x k n M) (hv : own_getJ M i = some w) : ¬ i < 0 ∧ i < n := by
  obtain ⟨⟨c, A, q, S, hn, -⟩, hl⟩ := F
  unfold own_getJ at hv; split at hv
  · rename_i h0
    have := (List.getElem?_eq_some_iff.mp hv).1
    rw [own_pos h0, hl] at this; exact own_lt_iff hn h0 this
  · cases hv
theorem own_gvlJ {w : Int64} (hv : own_getJ M i = some w) : (own_jv M).getD i.toNatClampNeg (.long 0) = .long w := by
  unfold own_getJ at hv; split at hv
  · rename_i h0
    rw [own_pos h0] at hv
    rw [own_jv, List.getD_eq_getElem?_getD, List.getElem?_map, hv]; rfl
  · cases hv
theorem own_sinJ {w : Int64} (F : own_AJ Z h x k n M) (hs : own_setJ M i w = some M') : ¬ i < 0 ∧ i < n := by
  obtain ⟨⟨c, A, q, S, hn, -⟩, hl⟩ := F
  unfold own_setJ at hs; split at hs
  · rename_i h0
    refine own_lt_iff hn h0.1 ?_
    have a := Int32.toNat_toInt i; omega
  · cases hs
theorem own_AJ.set {w : Int64} (A : Arr Z h x cl .long) (q1 : cl.cls = k) (S : cl.slots.size = n.toNatClampNeg) (q3 : ¬ n < 0) (H : Has cl (own_jv M) (.long 0)) (G : ∀ i, i < cl.slots.size → fits .long ((own_jv M).getD i (.long 0)) = true) (hl : M.length = n.toNatClampNeg) (hs : own_setJ M i w = some M') (W : Wr h h' x i.toNatClampNeg (.long w)) : own_AJ Z h' x k n M' := by
  unfold own_setJ at hs; split at hs
  · rename_i h0
    cases hs
    rw [own_pos h0.1]
    refine ⟨?_, by rw [List.length_set]; exact hl⟩
    have := Arv.set A q1 S q3 H G rfl W i.toNatClampNeg rfl (by rw [own_jv, List.length_map]; have a := Int32.toNat_toInt i; omega)
    rw [own_jv, List.map_set]; exact this
  · cases hs
/-- a fresh array of ints, of longs -/
theorem own_AI.new (A : Arr Z h x (newA k .int n) .int) (q : ¬ n < 0) : own_AI Z h x k n (List.replicate n.toNatClampNeg 0) :=
  ⟨(Arv.new A q).pad (by intro i; rw [own_iv, List.map_replicate]; exact pad_rep [] (.int 0) _ i), by simp⟩
theorem own_AJ.new (A : Arr Z h x (newA k .long n) .long) (q : ¬ n < 0) : own_AJ Z h x k n (List.replicate n.toNatClampNeg 0) :=
  ⟨(Arv.new A q).pad (by intro i; rw [own_jv, List.map_replicate]; exact pad_rep [] (.long 0) _ i), by simp⟩
end OwnFs
section OwnGrd
variable {n : Int32} {c : Nat} {u : Unit}
def own_grd (n : Int32) (c : Nat) : Option Unit := if 0 ≤ n.toInt ∧ n.toInt ≤ c then some () else none
theorem own_grds (h : own_grd n c = some u) : 0 ≤ n.toInt ∧ n.toInt ≤ c := by unfold own_grd at h; split at h; assumption; cases h
theorem own_grdn (h : own_grd n c = some u) : ¬ n < 0 := by have := (own_grds h).1; rw [Int32.lt_iff_toInt_lt]; have e0 : (0 : Int32).toInt = 0 := rfl; omega
theorem own_grdc (h : own_grd n c = some u) : n.toNatClampNeg ≤ c := by have := own_grds h; have a := Int32.toNat_toInt n; omega
end OwnGrd
/-- a local that holds nothing or an int -/
def own_pl (s : Slot) : Prop := s = .unset ∨ ∃ z : Int32, s = .val (.int z)
section OwnBytes
variable {Z : State} {h h' : Heap} {x y : Addr} {k : ClassId} {n i v : Int32} {ws : List Addr} {sl : Nat} {u : Value} {B : List (Option Int32)}
/-- the bytes of a String of letters; of the letters that B leaves out nothing is said -/
def own_AB (Z : State) (h : Heap) (x : Addr) (k : ClassId) (n : Int32) (B : List (Option Int32)) : Prop := ∃ U : List Int32, Arv Z h x k .byte n (own_iv U) (.int 0) ∧ U.length = n.toNatClampNeg ∧ ∀ (i : Nat) (c : Int32), B[i]? = some (some c) → U[i]? = some c ∧ (c = 97 ∨ c = 98)
theorem own_AB.ext (F : own_AB Z h x k n B) (E : Ext h h') : own_AB Z h' x k n B := by obtain ⟨U, a, b⟩ := F; exact ⟨U, a.ext E, b⟩
theorem own_AB.keep (F : own_AB Z h x k n B) (K : Keep h h' ws) (q : x ∉ ws) : own_AB Z h' x k n B := by obtain ⟨U, a, b⟩ := F; exact ⟨U, a.keep K q, b⟩
theorem own_AB.other (F : own_AB Z h x k n B) (W : Wr h h' y sl u) (q : x ≠ y) : own_AB Z h' x k n B := by obtain ⟨U, a, b⟩ := F; exact ⟨U, a.other W q, b⟩
theorem own_AB.lt (F : own_AB Z h x k n B) : x < h.size := by obtain ⟨U, a, b⟩ := F; exact a.lt
def own_getB (B : List (Option Int32)) (i : Int32) : Option Int32 := if 0 ≤ i.toInt then (B[i.toInt.toNat]?).bind id else none
theorem own_letB (F : own_AB Z h x k n B) (hv : own_getB B i = some v) : (¬ i < 0 ∧ i < n) ∧ ∃ U, Arv Z h x k .byte n (own_iv U) (.int 0) ∧ (own_iv U).getD i.toNatClampNeg (.int 0) = .int v ∧ (v = 97 ∨ v = 98) := by
  obtain ⟨U, A, hl, hU⟩ := F
  unfold own_getB at hv; split at hv
  · rename_i h0
    obtain ⟨w, h1, h2⟩ := Option.bind_eq_some_iff.mp hv
    have h3 : w = some v := h2
    subst h3
    obtain ⟨g1, g2⟩ := hU _ _ h1
    rw [own_pos h0] at g1
    have hn : ¬ n < 0 := by obtain ⟨c, -, -, -, q, -⟩ := A; exact q
    refine ⟨own_lt_iff hn h0 (by have := (List.getElem?_eq_some_iff.mp g1).1; rw [hl] at this; exact this), U, A, ?_, g2⟩
    rw [own_iv, List.getD_eq_getElem?_getD, List.getElem?_map, g1]; rfl
  · cases hv
end OwnBytes
theorem own_i0 {i n : Int32} (h : ¬ i < 0 ∧ i < n) : ¬ i.toInt < 0 := by have := h.1; rw [Int32.lt_iff_toInt_lt] at this; exact this
theorem own_i1 {i n : Int32} (h : ¬ i < 0 ∧ i < n) : i.toInt < n.toInt := by have := h.2; rw [Int32.lt_iff_toInt_lt] at this; exact this
theorem own_let {v : Int32} (h : v = 97 ∨ v = 98) : (((v &&& (255 : Int32))).toUInt32.toUInt16.toUInt32.toInt32) = v := by rcases h with rfl | rfl <;> rfl
theorem own_chr {v : Int32} (h : v = 97 ∨ v = 98) : some (Value.int (v.toUInt32.toUInt16.toUInt32.toInt32)) = some (Value.int v) := by rcases h with rfl | rfl <;> rfl
theorem own_n37 {v : Int32} (h : v = 97 ∨ v = 98) : ¬ v.toInt = 37 := by rcases h with rfl | rfl <;> decide
section OwnLam

variable {p : Program} {l : Launch} {e : Env} {R : Room} {s Z : State} {m : MethodId} {args a0 : Array Value} {below : List Frame} {meth : Method} {c : Code} {T : State} {locs : List Loc} {cells slots : Nat} {h h' : Heap}
theorem own_madeMv {host : String} {σ : Lambda.Shape} {cK : ClassId} (hH : Z.WarmedH s.vm) (q : Jvm.LamKit.Made Z host σ cK) : Jvm.LamKit.Made s host σ cK := by
  obtain ⟨d, dk, h1, h2, h3, h4⟩ := q
  obtain ⟨dk', g1, g2⟩ := hH.alike.2.2 _ _ h1
  have hA := hH.alike
  refine ⟨d, dk', g1, by rw [g2]; exact h2, Lambda.isMade_warmer hH h3, ?_⟩
  have e1 : ∀ (U : State), U.lambdaCallable σ cK = ((U.vm.findClass σ.iface).any fun i => U.vm.assignable cK i && !((cK :: U.vm.superclasses cK).any fun k => (declaredIn U.vm σ.name σ.sam.toString k).any fun (_, x) => x.isPrivate || x.isStatic)) := fun _ => rfl
  rw [e1] at h4 ⊢
  simp only [hA.findClass, hA.assignable, hA.superclasses, hA.declaredIn]
  exact h4
/-- the object of a site that captures nothing, at a call below the start Z -/
theorem own_site (X : Stand p l e R s m args below meth c T locs cells slots) (hexec : p.tables.exec = Jvm.exec) (hH : Z.WarmedH s.vm) {x : MethodName} {pc index : Nat} {σ : Lambda.Shape} (hnamed : s.methodNamed? x = some m)
    (hsite : (Cond.lambdaSite x pc index σ).before a0 Z = true) (hcap : σ.captured = []) (eT : T.heap = h) (E : Ext Z.heap h) {g : JFrame} (hg : g.method = m) (hpc : g.pc = pc) (hsize : g.locals.size = c.maxLocals)
    (hdg : decode c.code g.pc = .ok (.invokedynamic index, 5)) (hwords : 2 * g.monitorRoom + (g.stack.map fun v => v.category).sum + 3072 ≤ R.locals) :
    ∃ (a : Addr) (cK : ClassId), Jvm.LamKit.Made Z x.cls σ cK ∧ Jvm.LamKit.FnAt h a cK ∧ ∀ target, Steps p.tables e below (T.setTop { g with pc := g.pc + 5, stack := .ref a :: g.stack }) target → Steps p.tables e below (T.setTop g) target := by
  obtain ⟨cK, one, hat⟩ := Cond.lambdaSite_spec hsite
  obtain ⟨mD, kD, cfD, i0, p0, lk, hmD, hkD, -, -, -, hfind, hmade, hcan, hl⟩ := State.lambdaAt?_spec hat
  have hn2 : Z.methodNamed? x = some m := by rw [← hnamed]; exact (State.methodNamed?_setVm hH.alike x).symm
  cases hn2.symm.trans hmD
  obtain ⟨kD', hkD', hnameD⟩ := className_of_methodNamed hn2
  cases hkD.symm.trans hkD'
  obtain ⟨k2, g1, g2⟩ := hH.alike.2.2 _ _ hkD
  rcases hl with ⟨a, cell, rfl, -, -, hcell, hcls, hvm, -⟩ | ⟨-, -, hne⟩
  · have hw : e.platform.lambdaLinkWords = 3072 := by rw [X.admits.platform]
    refine ⟨a, cK, ⟨_, kD, hkD, hnameD, hmade, hcan⟩, ⟨cell, E.2 _ _ hcell, hcls, hvm⟩, fun target q => ?_⟩
    exact X.lambdaConstant hexec hg hsize hdg g1 (by rw [hpc, g2]; exact hfind) (by rw [hw]; exact hwords) q
  · exact absurd hcap hne
/-- the object's cell, over writes and growth -/
theorem own_fnExt {a : Addr} {cK : ClassId} (F : Jvm.LamKit.FnAt h a cK) (E : Ext h h') : Jvm.LamKit.FnAt h' a cK := by obtain ⟨c, h1, h2⟩ := F; exact ⟨c, E.2 _ _ h1, h2⟩
theorem own_backH {y : MethodName} {bytes : ByteArray} {maxL : Nat} {ret : Option FieldType} {rm : Room} {len W : Nat} {as' : Array Value} {Q : Option Value → Heap → List Loc → Prop}
    (hM : MetFree l y (head1 [Cond.code y bytes maxL ret] rm) (fun a U => a = as' ∧ Z.WarmedH U.vm ∧ U.heap = h) (fun _ _ _ _ _ => True) (fun _ U o U' => ∃ v L, o = .returned v ∧ Q v U'.heap L ∧ FrameEnd U o U' L rm.cells rm.slots))
    (hH : Z.WarmedH s.vm) (wc : (Cond.code y bytes maxL ret).before a0 Z = true) (wz : (Cond.initialized y.cls).before a0 Z = true) (hf : rm.frames + 1 ≤ R.frames) (hl : W + (maxL + 11) + rm.locals ≤ R.locals) :
    Back l R p e below s args y len W (fun A a => a = as' ∧ A.U.heap = h ∧ A.cells + rm.cells ≤ R.cells ∧ A.slots + rm.slots ≤ R.slots)
      (fun A _ v B => ∃ L, Q v B.U.heap L ∧ B.locs = A.locs ++ L ∧ B.cells = A.cells + rm.cells ∧ B.slots = A.slots + rm.slots) :=
  Back.of_free (bytes := bytes) (maxL := maxL) (ret := ret) (E := fun _ _ o t L k n => k = rm.cells ∧ n = rm.slots ∧ ∃ v, o = .returned v ∧ Q v t.heap L) hM hf hl
    (fun m meth c A a Y hp => have hU : Z.Warmed39 A.U.vm := wtrans hH.wide Y.warmed
      ⟨by show (Cond.and _ .tt).before a A.U = true; rw [Cond.before_and, mv hU wc]; rfl, mv hU wc, mv hU wz, hp.2.2.1, hp.2.2.2⟩)
    (fun m meth c A a g mk Y hp => ⟨hp.1, hH.trans Y.warmed, hp.2.1⟩) (fun _ _ _ _ _ _ _ _ _ => trivial)
    (fun _ _ _ _ ⟨v, L, h1, h2, h3⟩ => ⟨L, _, _, h3, rfl, rfl, v, h1, h2⟩)
    (fun m meth c A a g mk v t L k n Y hp _ _ ⟨e1, e2, v', e3, e4⟩ => by cases e3; subst e1 e2; exact ⟨L, e4, rfl, rfl, rfl⟩)
end OwnLam
section OwnChars
variable {Z : State} {h h' : Heap} {x y : Addr} {k : ClassId} {n i v : Int32} {L : List Int32} {ws : List Addr} {sl : Nat} {u : Value}
/-- an array of chars -/
def own_AC (Z : State) (h : Heap) (x : Addr) (k : ClassId) (n : Int32) (L : List Int32) : Prop := Arv Z h x k .char n (own_iv L) (.int 0) ∧ L.length = n.toNatClampNeg
theorem own_AC.ext (F : own_AC Z h x k n L) (E : Ext h h') : own_AC Z h' x k n L := ⟨F.1.ext E, F.2⟩
theorem own_AC.keep (F : own_AC Z h x k n L) (K : Keep h h' ws) (q : x ∉ ws) : own_AC Z h' x k n L := ⟨F.1.keep K q, F.2⟩
theorem own_AC.other (F : own_AC Z h x k n L) (W : Wr h h' y sl u) (q : x ≠ y) : own_AC Z h' x k n L := ⟨F.1.other W q, F.2⟩
theorem own_AC.lt (F : own_AC Z h x k n L) : x < h.size := F.1.lt
theorem own_ginC (F : own_AC Z h x k n L) (hv : own_get L i = some v) : ¬ i < 0 ∧ i < n := by
  obtain ⟨⟨c, A, q, S, hn, -⟩, hl⟩ := F
  unfold own_get at hv; split at hv
  · rename_i h0
    have := (List.getElem?_eq_some_iff.mp hv).1
    rw [own_pos h0, hl] at this; exact own_lt_iff hn h0 this
  · cases hv
theorem own_nC {v : Int32} (h : v = 97 ∨ v = 98) : v.toUInt32.toUInt16.toUInt32.toInt32 = v := by rcases h with rfl | rfl <;> rfl
theorem own_nB {v : Int32} (h : v = 97 ∨ v = 98) : v.toInt8.toInt32.toInt8.toInt32 = v := by rcases h with rfl | rfl <;> rfl
theorem own_n255 {v : Int32} (h : v = 97 ∨ v = 98) : ¬ 255 < v.toInt := by rcases h with rfl | rfl <;> decide
theorem own_arh {ty : FieldType} {vs : List Value} {dv : Value} (F : Arv Z h x k ty n vs dv) : Arh Z h x k ty n [] vs dv := by obtain ⟨c, A, a, b, d, H, G⟩ := F; exact ⟨c, A, a, b, d, H, G⟩
theorem own_arv {ty : FieldType} {vs : List Value} {dv : Value} (F : Arh Z h x k ty n [] vs dv) : Arv Z h x k ty n vs dv := by obtain ⟨c, A, a, b, d, H, G⟩ := F; exact ⟨c, A, a, b, d, H, G⟩
/-- the letters of a String of ints: those that B names -/
theorem own_ABof {U : List Int32} {B : List (Option Int32)} (V : Arv Z h x k .byte n (own_iv U) (.int 0)) (hl : U.length = n.toNatClampNeg) (hB : ∀ (i : Nat) (c : Int32), B[i]? = some (some c) → U[i]? = some c) (hU : ∀ c ∈ U, c = 97 ∨ c = 98) : own_AB Z h x k n B :=
  ⟨U, V, hl, fun i c q => ⟨hB i c q, hU c (List.mem_of_getElem? (hB i c q))⟩⟩
def own_op (c : Bool) (u : Int32) : Option Int32 := if c then some u else none
theorem own_opS {c : Bool} {u w : Int32} (h : own_op c u = some w) : u = w := by unfold own_op at h; split at h; exact Option.some.inj h; cases h
/-- the letters of the three words (lengths a, b, c), of the text (length n) -/
def own_B9 (a b c u0 u1 u2 u3 u4 u5 u6 u7 u8 : Int32) : List (Option Int32) := [some u0, own_op (decide (1 < a.toInt)) u1, own_op (decide (2 < a.toInt)) u2, some u3, own_op (decide (1 < b.toInt)) u4, own_op (decide (2 < b.toInt)) u5, some u6, own_op (decide (1 < c.toInt)) u7, own_op (decide (2 < c.toInt)) u8]
def own_B3 (n u0 u1 u2 : Int32) : List (Option Int32) := [own_op (decide (0 < n.toInt)) u0, own_op (decide (1 < n.toInt)) u1, own_op (decide (2 < n.toInt)) u2]
theorem own_s9 (a b c u0 u1 u2 u3 u4 u5 u6 u7 u8 : Int32) : ∀ (i : Nat) (w : Int32), (own_B9 a b c u0 u1 u2 u3 u4 u5 u6 u7 u8)[i]? = some (some w) → [u0, u1, u2, u3, u4, u5, u6, u7, u8][i]? = some w := by
  intro i w h
  match i, h with
  | 0, h => exact congrArg some (Option.some.inj (Option.some.inj h))
  | 1, h => exact congrArg some (own_opS (Option.some.inj h))
  | 2, h => exact congrArg some (own_opS (Option.some.inj h))
  | 3, h => exact congrArg some (Option.some.inj (Option.some.inj h))
  | 4, h => exact congrArg some (own_opS (Option.some.inj h))
  | 5, h => exact congrArg some (own_opS (Option.some.inj h))
  | 6, h => exact congrArg some (Option.some.inj (Option.some.inj h))
  | 7, h => exact congrArg some (own_opS (Option.some.inj h))
  | 8, h => exact congrArg some (own_opS (Option.some.inj h))
  | n + 9, h => simp [own_B9] at h
theorem own_s3 (n u0 u1 u2 : Int32) : ∀ (i : Nat) (w : Int32), (own_B3 n u0 u1 u2)[i]? = some (some w) → [u0, u1, u2][i]? = some w := by
  intro i w h
  match i, h with
  | 0, h => exact congrArg some (own_opS (Option.some.inj h))
  | 1, h => exact congrArg some (own_opS (Option.some.inj h))
  | 2, h => exact congrArg some (own_opS (Option.some.inj h))
  | n + 3, h => simp [own_B3] at h
theorem own_all9 {u0 u1 u2 u3 u4 u5 u6 u7 u8 : Int32} (h0 : u0 = 97 ∨ u0 = 98) (h1 : u1 = 97 ∨ u1 = 98) (h2 : u2 = 97 ∨ u2 = 98) (h3 : u3 = 97 ∨ u3 = 98) (h4 : u4 = 97 ∨ u4 = 98) (h5 : u5 = 97 ∨ u5 = 98) (h6 : u6 = 97 ∨ u6 = 98) (h7 : u7 = 97 ∨ u7 = 98) (h8 : u8 = 97 ∨ u8 = 98) : ∀ c ∈ [u0, u1, u2, u3, u4, u5, u6, u7, u8], c = 97 ∨ c = 98 := by
  intro c hc
  simp only [List.mem_cons, List.not_mem_nil, or_false] at hc
  rcases hc with rfl | rfl | rfl | rfl | rfl | rfl | rfl | rfl | rfl <;> assumption
theorem own_all3 {u0 u1 u2 : Int32} (h0 : u0 = 97 ∨ u0 = 98) (h1 : u1 = 97 ∨ u1 = 98) (h2 : u2 = 97 ∨ u2 = 98) : ∀ c ∈ [u0, u1, u2], c = 97 ∨ c = 98 := by
  intro c hc
  simp only [List.mem_cons, List.not_mem_nil, or_false] at hc
  rcases hc with rfl | rfl | rfl <;> assumption
end OwnChars
section OwnLam2
variable {p : Program} {l : Launch} {e : Env} {R : Room} {s Z : State} {m : MethodId} {args a0 : Array Value} {below : List Frame} {meth : Method} {c : Code} {T : State} {locs : List Loc} {cells slots : Nat} {h h' : Heap}
/-- the function object's cell -/
def own_Fn (h : Heap) (a : Addr) (cK : ClassId) : Prop := Jvm.LamKit.FnAt h a cK
theorem own_Fn.ext {a : Addr} {cK : ClassId} (F : own_Fn h a cK) (E : Ext h h') : own_Fn h' a cK := own_fnExt F E
theorem own_Fn.keep {a : Addr} {cK : ClassId} {ws : List Addr} (F : own_Fn h a cK) (K : Keep h h' ws) : own_Fn h' a cK := by
  obtain ⟨c, h1, h2, h3⟩ := F
  obtain ⟨c', q, r1, r2, -⟩ := K.2.2 a c h1
  exact ⟨c', q, r1.trans h2, r2.trans h3⟩
theorem own_Fn.wr {a x : Addr} {cK : ClassId} {sl : Nat} {v : Value} (F : own_Fn h a cK) (W : Wr h h' x sl v) : own_Fn h' a cK := F.keep (Keep.of_wr W)
theorem own_Fn.lt {a : Addr} {cK : ClassId} (F : own_Fn h a cK) : a < h.size := by obtain ⟨c, h1, -⟩ := F; exact (Array.getElem?_eq_some_iff.mp h1).1
abbrev own_host : String := "com/example/portero/portero/matching/SegmentAutomaton"
abbrev own_sh : Lambda.Shape := Lambda.Shape.mk "java/util/function/IntUnaryOperator" "applyAsInt" ⟨[.int], some .int⟩ [] 6 "com/example/portero/portero/matching/SegmentAutomaton" "lambda$addSegments$0" ⟨[.int], some .int⟩ false ⟨[.int], some .int⟩
abbrev own_xi : MethodName := ⟨"java/util/function/IntUnaryOperator", "applyAsInt", "(I)I"⟩
abbrev own_y : MethodName := ⟨"com/example/portero/portero/matching/SegmentAutomaton", "lambda$addSegments$0", "(I)I"⟩
def own_fcode : ByteArray := ⟨#[0x1b, 0xb8, 0x00, 0x11, 0xac]⟩
theorem own_fwd : Jvm.LamKit.fwdOK own_sh own_host own_fcode 2 (some .int) 17 14 = true := by decide +kernel
theorem own_f0 : decode own_fcode 0 = .ok (.iload_n 1, 1) := by decide +kernel
theorem own_f1 : decode own_fcode 1 = .ok (.invokestatic 17, 3) := by decide +kernel
theorem own_f4 : decode own_fcode 4 = .ok (.ireturn, 1) := by decide +kernel
theorem own_g0 : decode prog_23_method_17_code 0 = .ok (.iload_n 0, 1) := by decide +kernel
theorem own_g1 : decode prog_23_method_17_code 1 = .ok (.ireturn, 1) := by decide +kernel
abbrev own_wsT : List Cond := [Cond.code own_y prog_23_method_17_code 1 (some .int)]
/-- the lambda's body: i -> i -/
theorem own_target (l : Launch) (v : Int32) : Met l own_y own_wsT { frames := 0, cells := 0, slots := 0, locals := 0 } (fun args _ => args = #[.int v]) (fun _ st o t => o = .returned (some (.int v)) ∧ t.heap = st.heap) 0 0 (fun _ => False) := by
  refine MetFree.of_bodyS (code := prog_23_method_17_code) (maxLocals := 1) (ret := some .int) (by decide) (Jvm.LamKit.hisOf (List.mem_singleton.mpr rfl)) ?_
  intro p e s m args below meth c s₁ Bd hml hP _
  obtain rfl : args = #[.int v] := hP
  have X := Stand.of_body Bd
  obtain ⟨fs, hr, hrun, hended, hW, hsame⟩ := X.leave (v := some (.int v)) (fun h => by rw [Bd.returns] at h; cases h)
  refine ⟨s₁.setFrames fs, _, ?_, hrun, hended, ⟨rfl, by show s₁.heap = s.heap; rw [Bd.state]; rfl⟩, [], ⟨⟨_, rfl⟩, hW, hsame⟩, fun q hq => nomatch hq⟩
  show Steps p.tables e below (s₁.setTop (mkF m 0 #[.val (.int v)] [])) _
  refine XS.iloadN X.here Bd.exec rfl (hb Bd.bytes own_g0) rfl ?_
  exact X.ireturnOut Bd.exec Bd.returns rfl (Or.inl rfl) (hb Bd.bytes own_g1) hr
/-- the call of the function object -/
theorem own_lam (X : Stand p l e R s m args below meth c T locs cells slots) (hx : p.tables.exec = Jvm.exec) (hH : Z.WarmedH s.vm) (hown : s.vm.findClass "java/util/Arrays" = some m.cls) (hw : ∀ d ∈ tables_1, d.before a0 Z = true) {a : Addr} {cK : ClassId}
    (hmd : Jvm.LamKit.Made Z own_host own_sh cK) (hfn : own_Fn h a cK) (eT : T.heap = h) {v : Int32} {g : JFrame} {rest : List Value} (hg : g.method = m) (hsize : g.locals.size = c.maxLocals) (hs : g.stack = .int v :: .ref a :: rest) (hd : decode c.code g.pc = .ok (.invokeinterface 582 2, 5))
    (hf : 2 ≤ R.frames) (hl : 2 * g.monitorRoom + (rest.map fun v => v.category).sum + (2 + 11) + ((1 + 11) + 0) ≤ R.locals) (hc : cells ≤ R.cells) (hsl : slots ≤ R.slots) :
    ∃ T', Stand p l e R s m args below meth c T' locs cells slots ∧ T'.heap = h ∧ ∀ target, Steps p.tables e below (T'.setTop { g with pc := g.pc + 5, stack := .int v :: rest }) target → Steps p.tables e below (T.setTop g) target := by
  have hZ : Z.Warmed39 s.vm := hH.wide
  have hcodeT : (Cond.code own_y prog_23_method_17_code 1 (some .int)).before args s = true := mvT hZ (hw _ (List.mem_of_getElem? (i := 95) rfl))
  obtain ⟨w, st, t, T', L, X', hL, e1, e2, hq, st8⟩ := Jvm.LamKit.callLamS X hx (own := "java/util/Arrays") (host := own_host) (index := 582) (count := 2) (xi := own_xi) (y := own_y) (σ := own_sh) (own_target l v) (fun _ _ _ _ h => h) rfl rfl
    (fun w hw' a' U hU => by rw [List.mem_singleton.mp hw']; exact word_at hU (Or.inl (by first | rfl | simp [Cond.onTables, Cond.keeps, Cond.steady])) hcodeT) (List.mem_singleton.mpr rfl)
    hown (mvT hZ (hw _ (List.mem_of_getElem? (i := 91) rfl))) (mvT hZ (hw _ (List.mem_of_getElem? (i := 92) rfl))) (mvT hZ (hw _ (List.mem_of_getElem? (i := 93) rfl))) hcodeT (mvT hZ (hw _ (List.mem_of_getElem? (i := 94) rfl))) (mvT hZ (hw _ (List.mem_of_getElem? (i := 37) rfl)))
    (by decide +kernel) (by decide +kernel) (by decide) (own_madeMv hH hmd) (by rw [eT]; exact hfn) own_fwd own_f1 own_f4
    (g := g) hg hsize (argsL := [.int v]) (argsT := [.int v]) (rest := rest) (L0 := #[.val (.ref a), .val (.int v)])
    (fun sig h => by cases (by decide +kernel : parseMethodDescriptor own_xi.desc = some ⟨[.int], some .int⟩).symm.trans h; rfl) (fun sig h => by cases (by decide +kernel : parseMethodDescriptor own_y.desc = some ⟨[.int], some .int⟩).symm.trans h; rfl)
    hs hd (fun _ => rfl) rfl
    (fun U ck bl target hU hck _ _ k => XS.iloadN hU hx rfl (hb hck own_f0) rfl k)
    (fun st w t h => by obtain ⟨h, -⟩ := h; cases h; exact Or.inl ⟨.int, _, rfl, Or.inl rfl, rfl, rfl, rfl⟩) hf hl hc hsl (fun _ _ _ => rfl)
  obtain ⟨q1, q2⟩ := hq
  cases q1
  exact ⟨T', Stand.forget (extra := L) X' (fun q hq => (hL q hq).elim), e1.trans (q2.trans (e2.trans eT)), st8⟩
end OwnLam2
section OwnArrSteps
variable {p : Program} {l : Launch} {e : Env} {R : Room} {s Z : State} {m : MethodId} {args a0 : Array Value} {below : List Frame} {meth : Method} {c : Code} {T : State} {locs : List Loc} {cells slots n0 : Nat} {h : Heap}
  {pc : Nat} {L : Array Slot} {S : List Value} {F : Option Value → Heap → List Loc → Prop} {ko no : Nat} {bytes : ByteArray} {j n v : Int32} {w : Int64} {a : Addr} {k : ClassId} {I I' : List Int32} {J J' : List Int64}
theorem o_ldI (X : Stand p l e R s m args below meth c T locs cells slots) (hx : p.tables.exec = Jvm.exec) (hZ : Z.Warmed39 s.vm) (eT : T.heap = h) (V : own_AI Z h a k n I) (hv : own_get I j = some v) (hby : c.code = bytes) (hd : decode bytes pc = .ok (.iaload, 1)) (q : own_End p e below s (T.setTop (mkF m (pc + 1) L (.int v :: S))) F ko no) : own_End p e below s (T.setTop (mkF m pc L (.int j :: .ref a :: S))) F ko no := by
  obtain ⟨cl, Ar, qa, Sq, Mq, Hh, Gq⟩ := id V.1
  have hin := inb_of Sq (own_gin V hv)
  exact own_go (fun _ κ => X.iaload hx (j := j) (v := .int v) (by rw [eT]; exact Ar.1) (State.isArrayOf_alike hZ.alike Ar.2.1) Ar.2.2 hin (Hh.at hin (own_gvl hv)) (g := mkF m pc L (.int j :: .ref a :: S)) rfl rfl (hb hby hd) _ κ) q
theorem o_ldJ (X : Stand p l e R s m args below meth c T locs cells slots) (hx : p.tables.exec = Jvm.exec) (hZ : Z.Warmed39 s.vm) (eT : T.heap = h) (V : own_AJ Z h a k n J) (hv : own_getJ J j = some w) (hby : c.code = bytes) (hd : decode bytes pc = .ok (.laload, 1)) (q : own_End p e below s (T.setTop (mkF m (pc + 1) L (.long w :: S))) F ko no) : own_End p e below s (T.setTop (mkF m pc L (.int j :: .ref a :: S))) F ko no := by
  obtain ⟨cl, Ar, qa, Sq, Mq, Hh, Gq⟩ := id V.1
  have hin := inb_of Sq (own_ginJ V hv)
  exact own_go (fun _ κ => X.laload hx (j := j) (v := .long w) (by rw [eT]; exact Ar.1) (State.isArrayOf_alike hZ.alike Ar.2.1) Ar.2.2 hin (Hh.at hin (own_gvlJ hv)) (g := mkF m pc L (.int j :: .ref a :: S)) rfl rfl (hb hby hd) _ κ) q
theorem o_ldC (X : Stand p l e R s m args below meth c T locs cells slots) (hx : p.tables.exec = Jvm.exec) (hZ : Z.Warmed39 s.vm) (eT : T.heap = h) (V : own_AC Z h a k n I) (hv : own_get I j = some v) (hby : c.code = bytes) (hd : decode bytes pc = .ok (.caload, 1)) (q : own_End p e below s (T.setTop (mkF m (pc + 1) L (.int v :: S))) F ko no) : own_End p e below s (T.setTop (mkF m pc L (.int j :: .ref a :: S))) F ko no := by
  obtain ⟨cl, Ar, qa, Sq, Mq, Hh, Gq⟩ := id V.1
  have hin := inb_of Sq (own_ginC V hv)
  exact own_go (fun _ κ => X.caload hx (j := j) (v := .int v) (by rw [eT]; exact Ar.1) (State.isArrayOf_alike hZ.alike Ar.2.1) Ar.2.2 hin (Hh.at hin (own_gvl hv)) (g := mkF m pc L (.int j :: .ref a :: S)) rfl rfl (hb hby hd) _ κ) q
theorem o_len {ty : FieldType} {vs : List Value} {dv : Value} (X : Stand p l e R s m args below meth c T locs cells slots) (hx : p.tables.exec = Jvm.exec) (hZ : Z.Warmed39 s.vm) (eT : T.heap = h) (V : Arv Z h a k ty n vs dv) (hby : c.code = bytes) (hd : decode bytes pc = .ok (.arraylength, 1)) (q : own_End p e below s (T.setTop (mkF m (pc + 1) L (.int n :: S))) F ko no) : own_End p e below s (T.setTop (mkF m pc L (.ref a :: S))) F ko no := by
  obtain ⟨cl, Ar, qa, Sq, Mq, Hh, Gq⟩ := id V
  exact own_go (fun _ κ => X.arraylength hx (by rw [eT]; exact Ar.1) (State.isArrayOf_alike hZ.alike Ar.2.1) (g := mkF m pc L (.ref a :: S)) rfl rfl (hb hby hd) _ (by rw [len_of Sq Mq]; exact κ)) q
theorem o_stI (X : Stand p l e R s m args below meth c T locs cells slots) (hx : p.tables.exec = Jvm.exec) (hZ : Z.Warmed39 s.vm) (eT : T.heap = h) (V : own_AI Z h a k n I) (hs : own_set I j v = some I') (N : Fr n0 locs) (ga : n0 ≤ a) (hby : c.code = bytes) (hd : decode bytes pc = .ok (.iastore, 1))
    (q : ∀ T' h' ls, Stand p l e R s m args below meth c T' ls cells slots → T'.heap = h' → Wr h h' a j.toNatClampNeg (.int v) → own_AI Z h' a k n I' → Fr n0 ls → own_End p e below s (T'.setTop (mkF m (pc + 1) L S)) F ko no) : own_End p e below s (T.setTop (mkF m pc L (.int v :: .int j :: .ref a :: S))) F ko no := by
  obtain ⟨cl, Ar, qa, Sq, Mq, Hh, Gq⟩ := id V.1
  obtain ⟨T', h', X', e', W, st⟩ := stI X hx hZ eT Ar (j := j) (inb_of Sq (own_sin V hs)) (g := mkF m pc L (.int v :: .int j :: .ref a :: S)) rfl rfl (hb hby hd)
  exact own_go st (q T' h' _ X' e' W (own_AI.set Ar qa Sq Mq Hh Gq V.2 hs W) (Fr.snoc X' N ga))
theorem o_stJ (X : Stand p l e R s m args below meth c T locs cells slots) (hx : p.tables.exec = Jvm.exec) (hZ : Z.Warmed39 s.vm) (eT : T.heap = h) (V : own_AJ Z h a k n J) (hs : own_setJ J j w = some J') (N : Fr n0 locs) (ga : n0 ≤ a) (hby : c.code = bytes) (hd : decode bytes pc = .ok (.lastore, 1))
    (q : ∀ T' h' ls, Stand p l e R s m args below meth c T' ls cells slots → T'.heap = h' → Wr h h' a j.toNatClampNeg (.long w) → own_AJ Z h' a k n J' → Fr n0 ls → own_End p e below s (T'.setTop (mkF m (pc + 1) L S)) F ko no) : own_End p e below s (T.setTop (mkF m pc L (.long w :: .int j :: .ref a :: S))) F ko no := by
  obtain ⟨cl, Ar, qa, Sq, Mq, Hh, Gq⟩ := id V.1
  obtain ⟨T', h', X', e', W, st⟩ := stJ X hx hZ eT Ar (j := j) (inb_of Sq (own_sinJ V hs)) (g := mkF m pc L (.long w :: .int j :: .ref a :: S)) rfl rfl (hb hby hd)
  exact own_go st (q T' h' _ X' e' W (own_AJ.set Ar qa Sq Mq Hh Gq V.2 hs W) (Fr.snoc X' N ga))
end OwnArrSteps
/-! OWN: the calls over plain frames -/
section OwnCalls
theorem own_hW {a0 : Array Value} {Z : State} (hw : ∀ d ∈ tables_1, d.before a0 Z = true) (i : Nat) {d : Jvm.Cond} (h : tables_1[i]? = some d) : d.before a0 Z = true := hw d (List.mem_of_getElem? h)
theorem own_nf {x z n : Nat} (h : x < n) (e : z = n) : x ≠ z := Nat.ne_of_lt (Nat.lt_of_lt_of_le h (Nat.le_of_eq e.symm))
theorem own_nb {x z n : Nat} (h : x < n) (e : n ≤ z) : x ≠ z := Nat.ne_of_lt (Nat.lt_of_lt_of_le h e)
theorem own_gf {x z n : Nat} (h : x ≤ n) (e : z = n) : x ≤ z := Nat.le_trans h (Nat.le_of_eq e.symm)
variable {p : Program} {l : Launch} {e : Env} {R rm : Room} {s Z : State} {m : MethodId} {args a0 as' : Array Value} {below : List Frame} {meth : Method} {c : Code} {T : State} {locs : List Loc} {cells slots n0 W maxL index pc ko no ni : Nat} {h : Heap}
  {L : Array Slot} {St argsL rest : List Value} {F Q : Option Value → Heap → List Loc → Prop} {by0 bytes : ByteArray} {a : Addr} {ret : Option FieldType} {y z : MethodName} {own C : String}
abbrev own_Pre (R rm : Room) (as' : Array Value) (h : Heap) : Pt → Array Value → Prop := fun A a => a = as' ∧ A.U.heap = h ∧ A.cells + rm.cells ≤ R.cells ∧ A.slots + rm.slots ≤ R.slots
abbrev own_Post (rm : Room) (Q : Option Value → Heap → List Loc → Prop) : Pt → Array Value → Option Value → Pt → Prop := fun A _ v B => ∃ L, Q v B.U.heap L ∧ B.locs = A.locs ++ L ∧ B.cells = A.cells + rm.cells ∧ B.slots = A.slots + rm.slots
theorem o_cS (X : Stand p l e R s m args below meth c T locs cells slots) (hx : p.tables.exec = Jvm.exec) (hZ : Z.Warmed39 s.vm) (hown : s.vm.findClass own = some m.cls) (w1 : (Cond.methodLink own index y).before a0 Z = true) (w2 : (Cond.static y).before a0 Z = true) (w3 : (Cond.initialized y.cls).before a0 Z = true) (w4 : (Cond.code y bytes maxL ret).before a0 Z = true)
    (hy : y.cls ≠ "java/lang/invoke/MethodHandle" ∧ y.cls ≠ "java/lang/invoke/VarHandle") (hK : Back l R p e below s args y 3 W (own_Pre R rm as' h) (own_Post rm Q)) (hsz : L.size = c.maxLocals) (hlen : ∀ sig, parseMethodDescriptor y.desc = some sig → argsL.length = sig.parameters.length) (hst : St = argsL.reverse ++ rest) (has : argsL.toArray = as') (hW : 2 * 0 + (rest.map fun v => v.category).sum ≤ W)
    (eT : T.heap = h) (hc : cells + rm.cells ≤ R.cells) (hs : slots + rm.slots ≤ R.slots) (hby : c.code = by0) (hd : decode by0 pc = .ok (.invokestatic index, 3)) (N : Fr n0 locs)
    (q : ∀ T' v Lc ls, Stand p l e R s m args below meth c T' ls (cells + rm.cells) (slots + rm.slots) → Q v T'.heap Lc → (Fr n0 Lc → Fr n0 ls) → own_End p e below s (T'.setTop (mkF m (pc + 3) L (v.toList ++ rest))) F ko no) : own_End p e below s (T.setTop (mkF m pc L St)) F ko no := by
  obtain ⟨v, vm₁, ⟨T', L', k', n'⟩, -, X', ⟨Lc, hQ, e1, e2, e3⟩, st⟩ := Jvm.LawKit.callS X hx hown (mvT hZ w1) (mvT hZ w2) (mvT hZ w3) (mvT hZ w4) hy hK (g := mkF m pc L St) rfl hsz hlen hst hW (hb hby hd) (fun _ _ => ⟨has, eT, hc, hs⟩)
  dsimp only [Pt.U, Pt.locs, Pt.cells, Pt.slots] at X' e1 e2 e3 st hQ
  subst e1 e2 e3
  exact own_go st (q T' v Lc _ X' hQ fun N' => Fr.app N N')
theorem o_cP (X : Stand p l e R s m args below meth c T locs cells slots) (hx : p.tables.exec = Jvm.exec) (hZ : Z.Warmed39 s.vm) (hown : s.vm.findClass own = some m.cls) (w1 : (Cond.methodLink own index y).before a0 Z = true) (w2 : (Cond.instantiable y.cls ni).before a0 Z = true) (w3 : (Cond.instanceMethod y).before a0 Z = true) (w5 : (Cond.privateMethod y).before a0 Z = true) (w4 : (Cond.code y bytes maxL ret).before a0 Z = true)
    (hy : y.cls ≠ "java/lang/invoke/MethodHandle" ∧ y.cls ≠ "java/lang/invoke/VarHandle") (E : Exa Z h a C) (hK : Back l R p e below s args y 3 W (own_Pre R rm as' h) (own_Post rm Q)) (hsz : L.size = c.maxLocals) (hlen : ∀ sig, parseMethodDescriptor y.desc = some sig → argsL.length = sig.parameters.length) (hst : St = argsL.reverse ++ .ref a :: rest) (has : (.ref a :: argsL).toArray = as') (hW : 2 * 0 + (rest.map fun v => v.category).sum ≤ W)
    (eT : T.heap = h) (hc : cells + rm.cells ≤ R.cells) (hs : slots + rm.slots ≤ R.slots) (hby : c.code = by0) (hd : decode by0 pc = .ok (.invokevirtual index, 3)) (N : Fr n0 locs)
    (q : ∀ T' v Lc ls, Stand p l e R s m args below meth c T' ls (cells + rm.cells) (slots + rm.slots) → Q v T'.heap Lc → (Fr n0 Lc → Fr n0 ls) → own_End p e below s (T'.setTop (mkF m (pc + 3) L (v.toList ++ rest))) F ko no) : own_End p e below s (T.setTop (mkF m pc L St)) F ko no := by
  obtain ⟨cq, qp, qp'⟩ := E.cell
  obtain ⟨v, vm₁, ⟨T', L', k', n'⟩, -, X', ⟨Lc, hQ, e1, e2, e3⟩, st⟩ := X.privateBack hx hown (mvT hZ w1) (mvT hZ w3) (own_selP hy (mvT hZ w2) (mvP hZ w5) (mvT hZ w3)) (Cond.privateMethod_at (mvP hZ w5 (args := #[]))) (mvT hZ w4) hy hK (g := mkF m pc L St) rfl hsz (Steps.refl _) (a := a) (by rw [eT]; exact qp) qp' hlen hst hW (hb hby hd) (fun _ _ => ⟨has, eT, hc, hs⟩)
  dsimp only [Pt.U, Pt.locs, Pt.cells, Pt.slots] at X' e1 e2 e3 st hQ
  subst e1 e2 e3
  exact own_go (fun τ κ => st.trans κ) (q T' v Lc _ X' hQ fun N' => Fr.app N N')
theorem o_cI (X : Stand p l e R s m args below meth c T locs cells slots) (hx : p.tables.exec = Jvm.exec) (hZ : Z.Warmed39 s.vm) (hown : s.vm.findClass own = some m.cls) (hi : y.name = "<init>") (w1 : (Cond.methodLink own index y).before a0 Z = true) (w3 : (Cond.instanceMethod y).before a0 Z = true) (w4 : (Cond.code y bytes maxL none).before a0 Z = true)
    (hy : y.cls ≠ "java/lang/invoke/MethodHandle" ∧ y.cls ≠ "java/lang/invoke/VarHandle") (hK : Back l R p e below s args y 3 W (own_Pre R rm as' h) (own_Post rm Q)) (hsz : L.size = c.maxLocals) (hlen : ∀ sig, parseMethodDescriptor y.desc = some sig → argsL.length = sig.parameters.length) (hst : St = argsL.reverse ++ .ref a :: rest) (has : (.ref a :: argsL).toArray = as') (hW : 2 * 0 + (rest.map fun v => v.category).sum ≤ W)
    (eT : T.heap = h) (hc : cells + rm.cells ≤ R.cells) (hs : slots + rm.slots ≤ R.slots) (hby : c.code = by0) (hd : decode by0 pc = .ok (.invokespecial index, 3)) (N : Fr n0 locs)
    (q : ∀ T' v Lc ls, Stand p l e R s m args below meth c T' ls (cells + rm.cells) (slots + rm.slots) → Q v T'.heap Lc → (Fr n0 Lc → Fr n0 ls) → own_End p e below s (T'.setTop (mkF m (pc + 3) L (v.toList ++ rest))) F ko no) : own_End p e below s (T.setTop (mkF m pc L St)) F ko no := by
  obtain ⟨v, vm₁, ⟨T', L', k', n'⟩, -, X', ⟨Lc, hQ, e1, e2, e3⟩, st⟩ := X.specialBack hx hi hown (mvT hZ w1) (mvT hZ w3) (mvT hZ w4) hy hK (g := mkF m pc L St) rfl hsz (Steps.refl _) (a := a) hlen hst hW (hb hby hd) (fun _ _ => ⟨has, eT, hc, hs⟩)
  dsimp only [Pt.U, Pt.locs, Pt.cells, Pt.slots] at X' e1 e2 e3 st hQ
  subst e1 e2 e3
  exact own_go (fun τ κ => st.trans κ) (q T' v Lc _ X' hQ fun N' => Fr.app N N')
theorem o_cV (X : Stand p l e R s m args below meth c T locs cells slots) (hx : p.tables.exec = Jvm.exec) (hZ : Z.Warmed39 s.vm) (hown : s.vm.findClass own = some m.cls) (w1 : (Cond.methodLink own index y).before a0 Z = true) (w2 : (Cond.declares y).before a0 Z = true) (w5 : (Cond.selects C y y).before a0 Z = true) (w3 : (Cond.instanceMethod y).before a0 Z = true)
    (hy : y.cls ≠ "java/lang/invoke/MethodHandle" ∧ y.cls ≠ "java/lang/invoke/VarHandle") (E : Exa Z h a C) (hK : Back l R p e below s args y 3 W (own_Pre R rm as' h) (own_Post rm Q)) (hsz : L.size = c.maxLocals) (hlen : ∀ sig, parseMethodDescriptor y.desc = some sig → argsL.length = sig.parameters.length) (hst : St = argsL.reverse ++ .ref a :: rest) (has : (.ref a :: argsL).toArray = as') (hW : 2 * 0 + (rest.map fun v => v.category).sum ≤ W)
    (eT : T.heap = h) (hc : cells + rm.cells ≤ R.cells) (hs : slots + rm.slots ≤ R.slots) (hby : c.code = by0) (hd : decode by0 pc = .ok (.invokevirtual index, 3)) (N : Fr n0 locs)
    (q : ∀ T' v Lc ls, Stand p l e R s m args below meth c T' ls (cells + rm.cells) (slots + rm.slots) → Q v T'.heap Lc → (Fr n0 Lc → Fr n0 ls) → own_End p e below s (T'.setTop (mkF m (pc + 3) L (v.toList ++ rest))) F ko no) : own_End p e below s (T.setTop (mkF m pc L St)) F ko no := by
  obtain ⟨cq, kq, qa, qb, qc⟩ := isOf hZ eT E
  obtain ⟨v, vm₁, ⟨T', L', k', n'⟩, -, X', ⟨Lc, hQ, e1, e2, e3⟩, st⟩ := X.virtualBack hx hown (mvT hZ w1) (mvT hZ w2) (notFace_of_selects (args := #[]) (mvT hZ w5)) (mvT hZ w5) (mvT hZ w3) hy hK qa qc (g := mkF m pc L St) rfl hsz (Steps.refl _) hlen hst hW (hb hby hd) (fun _ _ => ⟨has, eT, hc, hs⟩)
  dsimp only [Pt.U, Pt.locs, Pt.cells, Pt.slots] at X' e1 e2 e3 st hQ
  subst e1 e2 e3
  exact own_go (fun τ κ => st.trans κ) (q T' v Lc _ X' hQ fun N' => Fr.app N N')
/-- a char, a byte into an array of known values -/
theorem o_stC {k : ClassId} {n j x : Int32} {vs : List Value} {dv : Value} {i : Nat} {S : List Value} (X : Stand p l e R s m args below meth c T locs cells slots) (hx : p.tables.exec = Jvm.exec) (hZ : Z.Warmed39 s.vm) (eT : T.heap = h) (V : Arv Z h a k .char n vs dv) (hj : ¬ j < 0 ∧ j < n) (hi : j.toNatClampNeg = i) (hl : i < vs.length) (N : Fr n0 locs) (ga : n0 ≤ a) (hby : c.code = by0) (hd : decode by0 pc = .ok (.castore, 1))
    (q : ∀ T' h' ls, Stand p l e R s m args below meth c T' ls cells slots → T'.heap = h' → Wr h h' a j.toNatClampNeg (.int (x.toUInt32.toUInt16.toUInt32.toInt32)) → Arv Z h' a k .char n (vs.set i (.int (x.toUInt32.toUInt16.toUInt32.toInt32))) dv → Fr n0 ls → own_End p e below s (T'.setTop (mkF m (pc + 1) L S)) F ko no) : own_End p e below s (T.setTop (mkF m pc L (.int x :: .int j :: .ref a :: S))) F ko no := by
  obtain ⟨cl, Ar, qa, Sq, Mq, Hh, Gq⟩ := id V
  obtain ⟨T', h', X', e', W, st⟩ := stC X hx hZ eT Ar (j := j) (inb_of Sq hj) (g := mkF m pc L (.int x :: .int j :: .ref a :: S)) rfl rfl (hb hby hd)
  exact own_go st (q T' h' _ X' e' W (Arv.set Ar qa Sq Mq Hh Gq (fits_nar_char _) W i hi hl) (Fr.snoc X' N ga))
theorem o_stB {k : ClassId} {n j x : Int32} {vs : List Value} {dv : Value} {i : Nat} {S : List Value} (X : Stand p l e R s m args below meth c T locs cells slots) (hx : p.tables.exec = Jvm.exec) (hZ : Z.Warmed39 s.vm) (eT : T.heap = h) (V : Arv Z h a k .byte n vs dv) (hj : ¬ j < 0 ∧ j < n) (hi : j.toNatClampNeg = i) (hl : i < vs.length) (N : Fr n0 locs) (ga : n0 ≤ a) (hby : c.code = by0) (hd : decode by0 pc = .ok (.bastore, 1))
    (q : ∀ T' h' ls, Stand p l e R s m args below meth c T' ls cells slots → T'.heap = h' → Wr h h' a j.toNatClampNeg (.int (x.toInt8.toInt32)) → Arv Z h' a k .byte n (vs.set i (.int (x.toInt8.toInt32))) dv → Fr n0 ls → own_End p e below s (T'.setTop (mkF m (pc + 1) L S)) F ko no) : own_End p e below s (T.setTop (mkF m pc L (.int x :: .int j :: .ref a :: S))) F ko no := by
  obtain ⟨cl, Ar, qa, Sq, Mq, Hh, Gq⟩ := id V
  obtain ⟨T', h', X', e', W, st⟩ := stB X hx hZ eT Ar (j := j) (inb_of Sq hj) (g := mkF m pc L (.int x :: .int j :: .ref a :: S)) rfl rfl (hb hby hd)
  exact own_go st (q T' h' _ X' e' W (Arv.set Ar qa Sq Mq Hh Gq (fits_nar_byte _) W i hi hl) (Fr.snoc X' N ga))
theorem o_ldV {k : ClassId} {n j : Int32} {vs : List Value} {dv v : Value} {S : List Value} (X : Stand p l e R s m args below meth c T locs cells slots) (hx : p.tables.exec = Jvm.exec) (hZ : Z.Warmed39 s.vm) (eT : T.heap = h) (V : Arv Z h a k .char n vs dv) (hj : ¬ j < 0 ∧ j < n) (hv : vs.getD j.toNatClampNeg dv = v) (hby : c.code = by0) (hd : decode by0 pc = .ok (.caload, 1))
    (q : own_End p e below s (T.setTop (mkF m (pc + 1) L (v :: S))) F ko no) : own_End p e below s (T.setTop (mkF m pc L (.int j :: .ref a :: S))) F ko no := by
  obtain ⟨cl, Ar, qa, Sq, Mq, Hh, Gq⟩ := id V
  have hin := inb_of Sq hj
  exact own_go (fun _ κ => X.caload hx (j := j) (v := v) (by rw [eT]; exact Ar.1) (State.isArrayOf_alike hZ.alike Ar.2.1) Ar.2.2 hin (Hh.at hin hv) (g := mkF m pc L (.int j :: .ref a :: S)) rfl rfl (hb hby hd) _ κ) q
end OwnCalls
theorem own_pn0 : plainName "com/example/portero/portero/matching/SegmentAutomaton" = true := by first | (simp [plainName, overriddenIn]; done) | decide +kernel
theorem own_ef24_rmSlot (m : MethodId) (o0 : Addr) (q1 : Int64) : entryFrame m #[(.ref o0), (.long q1)] 3 = mkF m 0 #[.val (.ref o0), .val (.long q1), .second] [] := by first | (simp [entryFrame, mkF, argsToLocals, Value.category]; done) | rfl
def Q_rmSlot (Z : State) (o0 : Addr) (q1 : Int64) (sh : Int32) (out : Int32) (h0 : Heap) (n0 : Nat) (v : Option Value) (h : Heap) (L : List Loc) : Prop := (v = some (.int out)) ∧ Fr n0 L ∧ h = h0
abbrev wc24 : ByteArray := prog_23_method_15_code
theorem e24_0 : decode wc24 0 = .ok (.lload_n 1, 1) ∧ decode wc24 1 = .ok (.ldc2_w 124, 3) ∧ decode wc24 4 = .ok (.lmul, 1) ∧ decode wc24 5 = .ok (.aload_n 0, 1) ∧ decode wc24 6 = .ok (.getfield 35, 3) := by decide +kernel
theorem e24_9 : decode wc24 9 = .ok (.lushr, 1) ∧ decode wc24 10 = .ok (.l2i, 1) ∧ decode wc24 11 = .ok (.ireturn, 1) := by decide +kernel
def F_rmSlot (q1 : Int64) (sh : Int32) : Option (Int32) := some (((((q1 * (-7046029254386353131 : Int64)).toUInt64 >>> (sh &&& 0x3f).toInt64.toUInt64).toInt64).toInt32))
set_option maxRecDepth 65536 in
set_option maxHeartbeats 40000000 in
theorem rmSlot (l : Launch) (Z : State) (a0 : Array Value) (hw : ∀ d ∈ tables_1, d.before a0 Z = true) (ws : List Jvm.Cond) (o0 : Addr) (q1 : Int64) (sh : Int32) (out : Int32) (h0 : Heap) (n0 : Nat) (Z0 : n0 ≤ h0.size) (E_o0 : Exa Z h0 o0 "com/example/portero/portero/matching/SegmentAutomaton") (F_o0_slotShift : Fld Z h0 o0 "com/example/portero/portero/matching/SegmentAutomaton" "slotShift" "I" (.int sh)) (hF : F_rmSlot q1 sh = some out) :
  MetFree l (⟨"com/example/portero/portero/matching/SegmentAutomaton", "slot", "(J)I"⟩ : MethodName) (head1 (Jvm.Cond.code (⟨"com/example/portero/portero/matching/SegmentAutomaton", "slot", "(J)I"⟩ : MethodName) prog_23_method_15_code 3 (some .int) :: ws) ({ frames := 0, cells := 0, slots := 0, locals := 0 } : Room)) (fun a U => a = #[(.ref o0), (.long q1)] ∧ Z.Warmed39 U.vm ∧ U.heap = h0) (fun _ _ _ _ _ => True) (fun _ U o U' => ∃ v L, o = .returned v ∧ Q_rmSlot Z o0 q1 sh out h0 n0 v U'.heap L ∧ FrameEnd U o U' L ({ frames := 0, cells := 0, slots := 0, locals := 0 } : Room).cells ({ frames := 0, cells := 0, slots := 0, locals := 0 } : Room).slots) := by
 refine MetFree.of_bodySF (plainFor_of_name own_pn0) hisR ?_
 intro p e s m args below meth c s₁ Bd hml0 hP hK
 obtain ⟨rfl, hZ, hh⟩ := hP
 have hW := @own_hW a0 Z hw
 have hx := Bd.exec
 have hby := Bd.bytes
 have hml : c.maxLocals = 3 := hml0
 have hown : s.vm.findClass "com/example/portero/portero/matching/SegmentAutomaton" = some m.cls := findClass_of_methodNamed Bd.named
 have hnm := (name_of_methodNamed Bd.named Bd.method).1
 have X0 : Stand p l e ({ frames := 0, cells := 0, slots := 0, locals := 0 } : Room) s m #[(.ref o0), (.long q1)] below meth c s₁ [] 0 0 := Stand.of_body Bd
 have e0 : s₁.heap = h0 := by rw [← hh, Bd.state]; rfl
 have N0 := Fr.nil n0
 refine (show own_End p e below s (s₁.setTop (entryFrame m #[(.ref o0), (.long q1)] 3)) (Q_rmSlot Z o0 q1 sh out h0 n0) ({ frames := 0, cells := 0, slots := 0, locals := 0 } : Room).cells ({ frames := 0, cells := 0, slots := 0, locals := 0 } : Room).slots from ?_)
 refine own_go (fun τ κ => castTop (own_ef24_rmSlot m o0 q1) κ) ?_
 have li0 : (0 : Int32).toInt = 0 := rfl
 have li1 : (1 : Int32).toInt = 1 := rfl
 show own_End p e below s (s₁.setTop (mkF m 0 #[wR o0, .val (.long q1), .second] [])) _ _ _
 have H := hF
 refine own_go (fun τ κ => XS.lloadN X0.here hx rfl (hb hby e24_0.1) rfl κ) ?_
 show own_End p e below s (s₁.setTop (mkF m 1 _ [(.long q1)])) _ _ _
 refine own_go (fun τ κ => X0.ldc2Long hx hown (mvT hZ (hW 134 rfl)) (g := (mkF m 1 #[wR o0, .val (.long q1), .second] [(.long q1)])) rfl (hb hby e24_0.2.1) _ κ) ?_
 show own_End p e below s (s₁.setTop (mkF m 4 _ [(.long (-7046029254386353131 : Int64)), (.long q1)])) _ _ _
 refine own_go (fun τ κ => XS.lmul X0.here hx rfl (hb hby e24_0.2.2.1) rfl κ) ?_
 show own_End p e below s (s₁.setTop (mkF m 5 _ [(.long (q1 * (-7046029254386353131 : Int64)))])) _ _ _
 refine o_aloadN X0 hx hby e24_0.2.2.2.1 rfl ?_
 refine o_getF X0 hx hZ hown (host := "") (Or.inl (hW 57 rfl)) Via.refl e0 F_o0_slotShift hby e24_0.2.2.2.2 fun T1 X1 e1 => ?_
 refine own_go (fun τ κ => XS.lushr X1.here hx rfl (hb hby e24_9.1) rfl κ) ?_
 show own_End p e below s (T1.setTop (mkF m 10 _ [(.long (((q1 * (-7046029254386353131 : Int64)).toUInt64 >>> (sh &&& 0x3f).toInt64.toUInt64).toInt64))])) _ _ _
 refine own_go (fun τ κ => XS.l2i X1.here hx rfl (hb hby e24_9.2.1) rfl κ) ?_
 show own_End p e below s (T1.setTop (mkF m 11 _ [(.int ((((q1 * (-7046029254386353131 : Int64)).toUInt64 >>> (sh &&& 0x3f).toInt64.toUInt64).toInt64).toInt32))])) _ _ _
 obtain rfl := Option.some.inj H
 refine own_ret X1 (v := some (.int ((((q1 * (-7046029254386353131 : Int64)).toUInt64 >>> (sh &&& 0x3f).toInt64.toUInt64).toInt64).toInt32))) (fun h => by rw [Bd.returns] at h; cases h) Bd.notSynchronized (fun fs hr => retI X1 hx Bd.returns (hb hby e24_9.2.2) hr) ?_ (by decide) (by decide)
 ·rw [e1]; exact ⟨rfl, N0, rfl⟩
theorem own_ef23_rmTgt (m : MethodId) (o0 : Addr) (p1 : Int32) (p2 : Int32) : entryFrame m #[(.ref o0), (.int p1), (.int p2)] 6 = mkF m 0 #[.val (.ref o0), .val (.int p1), .val (.int p2), .unset, .unset, .unset] [] := by first | (simp [entryFrame, mkF, argsToLocals, Value.category]; done) | rfl
def Q_rmTgt (Z : State) (o0 : Addr) (p1 : Int32) (p2 : Int32) (sh : Int32) (nk : Int32) (ka : Addr) (kk : ClassId) (ta : Addr) (kt : ClassId) (K : List Int64) (T : List Int32) (out : Int32) (h0 : Heap) (n0 : Nat) (v : Option Value) (h : Heap) (L : List Loc) : Prop := (v = some (.int out)) ∧ Fr n0 L ∧ h = h0
abbrev wc23 : ByteArray := prog_23_method_13_code
theorem e23_0 : decode wc23 0 = .ok (.iload_n 1, 1) ∧ decode wc23 1 = .ok (.i2l, 1) ∧ decode wc23 2 = .ok (.bipush 9, 2) ∧ decode wc23 4 = .ok (.lshl, 1) ∧ decode wc23 5 = .ok (.iload_n 2, 1) := by decide +kernel
theorem e23_6 : decode wc23 6 = .ok (.i2l, 1) ∧ decode wc23 7 = .ok (.lor, 1) ∧ decode wc23 8 = .ok (.lstore_n 3, 1) ∧ decode wc23 9 = .ok (.aload_n 0, 1) ∧ decode wc23 10 = .ok (.lload_n 3, 1) := by decide +kernel
theorem e23_11 : decode wc23 11 = .ok (.invokevirtual 120, 3) ∧ decode wc23 14 = .ok (.istore 5, 2) ∧ decode wc23 16 = .ok (.aload_n 0, 1) ∧ decode wc23 17 = .ok (.getfield 15, 3) ∧ decode wc23 20 = .ok (.iload 5, 2) := by decide +kernel
theorem own_pd0 : parseMethodDescriptor "(J)I" = some ⟨[.long], some .int⟩ := by decide +kernel
abbrev wy24 : MethodName := (⟨"com/example/portero/portero/matching/SegmentAutomaton", "slot", "(J)I"⟩ : MethodName)
theorem e23_22 : decode wc23 22 = .ok (.laload, 1) ∧ decode wc23 23 = .ok (.lload_n 3, 1) ∧ decode wc23 24 = .ok (.lcmp, 1) ∧ decode wc23 25 = .ok (.ifCond .ne 11, 3) ∧ decode wc23 28 = .ok (.aload_n 0, 1) := by decide +kernel
theorem e23_29 : decode wc23 29 = .ok (.getfield 29, 3) ∧ decode wc23 32 = .ok (.iload 5, 2) ∧ decode wc23 34 = .ok (.iaload, 1) ∧ decode wc23 35 = .ok (.ireturn, 1) ∧ decode wc23 36 = .ok (.aload_n 0, 1) := by decide +kernel
theorem e23_37 : decode wc23 37 = .ok (.getfield 15, 3) ∧ decode wc23 40 = .ok (.iload 5, 2) ∧ decode wc23 42 = .ok (.laload, 1) ∧ decode wc23 43 = .ok (.ldc2_w 21, 3) ∧ decode wc23 46 = .ok (.lcmp, 1) := by decide +kernel
theorem e23_47 : decode wc23 47 = .ok (.ifCond .ne 5, 3) ∧ decode wc23 50 = .ok (.iconst (-1), 1) ∧ decode wc23 51 = .ok (.ireturn, 1) ∧ decode wc23 52 = .ok (.iload 5, 2) ∧ decode wc23 54 = .ok (.iconst 1, 1) := by decide +kernel
theorem e23_55 : decode wc23 55 = .ok (.iadd, 1) ∧ decode wc23 56 = .ok (.aload_n 0, 1) ∧ decode wc23 57 = .ok (.getfield 15, 3) ∧ decode wc23 60 = .ok (.arraylength, 1) ∧ decode wc23 61 = .ok (.iconst 1, 1) := by decide +kernel
theorem e23_62 : decode wc23 62 = .ok (.isub, 1) ∧ decode wc23 63 = .ok (.iand, 1) ∧ decode wc23 64 = .ok (.istore 5, 2) ∧ decode wc23 66 = .ok (.goto (-50), 3) := by decide +kernel
def S_rmTgt_0 (p1 : Int32) (p2 : Int32) (sh : Int32) (nk : Int32) (K : List Int64) (T : List Int32) : Nat → Nat → Int64 → Int32 → Option (Int32)
 | 0, _, _, _ => none
 | f0 + 1, _, ky, i => (own_getJ K i).bind fun v6 => ((if v6.toInt = ky.toInt then (own_get T i).bind fun v9 => (some (v9)) else (own_getJ K i).bind fun v11 => ((if v11.toInt = -1 then some ((-1 : Int32)) else S_rmTgt_0 p1 p2 sh nk K T f0 0 ky ((i + (1 : Int32)) &&& (nk - (1 : Int32)))))))
theorem S_rmTgt_0_0 (p1 : Int32) (p2 : Int32) (sh : Int32) (nk : Int32) (K : List Int64) (T : List Int32) (f0 : Nat) (ky : Int64) (i : Int32) : S_rmTgt_0 p1 p2 sh nk K T (f0 + 1) 0 ky i = (own_getJ K i).bind fun v6 => ((if v6.toInt = ky.toInt then (own_get T i).bind fun v9 => (some (v9)) else (own_getJ K i).bind fun v11 => ((if v11.toInt = -1 then some ((-1 : Int32)) else S_rmTgt_0 p1 p2 sh nk K T f0 0 ky ((i + (1 : Int32)) &&& (nk - (1 : Int32))))))) := rfl
def F_rmTgt (p1 : Int32) (p2 : Int32) (sh : Int32) (nk : Int32) (K : List Int64) (T : List Int32) : Option (Int32) := (F_rmSlot (((p1.toInt64) <<< ((9 : Int32) &&& 0x3f).toInt64) ||| (p2.toInt64)) sh).bind fun o1 => (S_rmTgt_0 p1 p2 sh nk K T 40 0 (((p1.toInt64) <<< ((9 : Int32) &&& 0x3f).toInt64) ||| (p2.toInt64)) o1)
set_option maxRecDepth 65536 in
set_option maxHeartbeats 40000000 in
theorem rmTgt (l : Launch) (Z : State) (a0 : Array Value) (hw : ∀ d ∈ tables_1, d.before a0 Z = true) (ws : List Jvm.Cond) (o0 : Addr) (p1 : Int32) (p2 : Int32) (sh : Int32) (nk : Int32) (ka : Addr) (kk : ClassId) (ta : Addr) (kt : ClassId) (K : List Int64) (T : List Int32) (out : Int32) (h0 : Heap) (n0 : Nat) (Z0 : n0 ≤ h0.size) (E_o0 : Exa Z h0 o0 "com/example/portero/portero/matching/SegmentAutomaton") (F_o0_slotShift : Fld Z h0 o0 "com/example/portero/portero/matching/SegmentAutomaton" "slotShift" "I" (.int sh)) (F_o0_edgeKeys : Fld Z h0 o0 "com/example/portero/portero/matching/SegmentAutomaton" "edgeKeys" "[J" (.ref ka)) (F_o0_edgeTargets : Fld Z h0 o0 "com/example/portero/portero/matching/SegmentAutomaton" "edgeTargets" "[I" (.ref ta)) (V_ka : own_AJ Z h0 ka kk nk K) (V_ta : own_AI Z h0 ta kt nk T) (hF : F_rmTgt p1 p2 sh nk K T = some out) :
  MetFree l (⟨"com/example/portero/portero/matching/SegmentAutomaton", "target", "(II)I"⟩ : MethodName) (head1 (Jvm.Cond.code (⟨"com/example/portero/portero/matching/SegmentAutomaton", "target", "(II)I"⟩ : MethodName) prog_23_method_13_code 6 (some .int) :: ws) ({ frames := 1, cells := 0, slots := 0, locals := 14 } : Room)) (fun a U => a = #[(.ref o0), (.int p1), (.int p2)] ∧ Z.Warmed39 U.vm ∧ U.heap = h0) (fun _ _ _ _ _ => True) (fun _ U o U' => ∃ v L, o = .returned v ∧ Q_rmTgt Z o0 p1 p2 sh nk ka kk ta kt K T out h0 n0 v U'.heap L ∧ FrameEnd U o U' L ({ frames := 1, cells := 0, slots := 0, locals := 14 } : Room).cells ({ frames := 1, cells := 0, slots := 0, locals := 14 } : Room).slots) := by
 refine MetFree.of_bodySF (plainFor_of_name own_pn0) hisR ?_
 intro p e s m args below meth c s₁ Bd hml0 hP hK
 obtain ⟨rfl, hZ, hh⟩ := hP
 have hW := @own_hW a0 Z hw
 have hx := Bd.exec
 have hby := Bd.bytes
 have hml : c.maxLocals = 6 := hml0
 have hown : s.vm.findClass "com/example/portero/portero/matching/SegmentAutomaton" = some m.cls := findClass_of_methodNamed Bd.named
 have hnm := (name_of_methodNamed Bd.named Bd.method).1
 have X0 : Stand p l e ({ frames := 1, cells := 0, slots := 0, locals := 14 } : Room) s m #[(.ref o0), (.int p1), (.int p2)] below meth c s₁ [] 0 0 := Stand.of_body Bd
 have e0 : s₁.heap = h0 := by rw [← hh, Bd.state]; rfl
 have N0 := Fr.nil n0
 refine (show own_End p e below s (s₁.setTop (entryFrame m #[(.ref o0), (.int p1), (.int p2)] 6)) (Q_rmTgt Z o0 p1 p2 sh nk ka kk ta kt K T out h0 n0) ({ frames := 1, cells := 0, slots := 0, locals := 14 } : Room).cells ({ frames := 1, cells := 0, slots := 0, locals := 14 } : Room).slots from ?_)
 refine own_go (fun τ κ => castTop (own_ef23_rmTgt m o0 p1 p2) κ) ?_
 have li0 : (0 : Int32).toInt = 0 := rfl
 have li1 : (1 : Int32).toInt = 1 := rfl
 show own_End p e below s (s₁.setTop (mkF m 0 #[wR o0, wI p1, wI p2, wU, wU, wU] [])) _ _ _
 have H := hF
 refine o_iloadN X0 hx hby e23_0.1 rfl ?_
 refine own_go (fun τ κ => XS.i2l X0.here hx rfl (hb hby e23_0.2.1) rfl κ) ?_
 show own_End p e below s (s₁.setTop (mkF m 2 _ [(.long (p1.toInt64))])) _ _ _
 refine o_bipush X0 hx hby e23_0.2.2.1 (x := 9) rfl ?_
 refine own_go (fun τ κ => XS.lshl X0.here hx rfl (hb hby e23_0.2.2.2.1) rfl κ) ?_
 show own_End p e below s (s₁.setTop (mkF m 5 _ [(.long ((p1.toInt64) <<< ((9 : Int32) &&& 0x3f).toInt64))])) _ _ _
 refine o_iloadN X0 hx hby e23_0.2.2.2.2 rfl ?_
 refine own_go (fun τ κ => XS.i2l X0.here hx rfl (hb hby e23_6.1) rfl κ) ?_
 show own_End p e below s (s₁.setTop (mkF m 7 _ [(.long (p2.toInt64)), (.long ((p1.toInt64) <<< ((9 : Int32) &&& 0x3f).toInt64))])) _ _ _
 refine own_go (fun τ κ => XS.lor X0.here hx rfl (hb hby e23_6.2.1) rfl κ) ?_
 show own_End p e below s (s₁.setTop (mkF m 8 _ [(.long (((p1.toInt64) <<< ((9 : Int32) &&& 0x3f).toInt64) ||| (p2.toInt64)))])) _ _ _
 refine own_go (fun τ κ => XS.lstoreN X0.here hx rfl (hb hby e23_6.2.2.1) rfl (l' := #[wR o0, wI p1, wI p2, .val (.long (((p1.toInt64) <<< ((9 : Int32) &&& 0x3f).toInt64) ||| (p2.toInt64))), .second, wU]) rfl κ) ?_
 show own_End p e below s (s₁.setTop (mkF m 9 _ [])) _ _ _
 refine o_aloadN X0 hx hby e23_6.2.2.2.1 rfl ?_
 refine own_go (fun τ κ => XS.lloadN X0.here hx rfl (hb hby e23_6.2.2.2.2) rfl κ) ?_
 show own_End p e below s (s₁.setTop (mkF m 11 _ [(.long (((p1.toInt64) <<< ((9 : Int32) &&& 0x3f).toInt64) ||| (p2.toInt64))), (.ref o0)])) _ _ _
 obtain ⟨o1, ho1, H⟩ := own_bnd H
 refine o_cP X0 hx hZ hown (y := wy24) (hW 130 rfl) (hW 36 rfl) (hW 131 rfl) (hW 132 rfl) (hW 133 rfl) (by decide) E_o0 (backOf (W := 0) (rmSlot l Z a0 hw [] o0 (((p1.toInt64) <<< ((9 : Int32) &&& 0x3f).toInt64) ||| (p2.toInt64)) sh o1 h0 n0 Z0 E_o0 F_o0_slotShift ho1) hZ (hW 133 rfl) (hW 37 rfl) (by decide) (by decide)) (by rw [hml]; rfl) (argsL := [(.long (((p1.toInt64) <<< ((9 : Int32) &&& 0x3f).toInt64) ||| (p2.toInt64)))]) (rest := []) (lenOf own_pd0 rfl) rfl rfl (Nat.le_of_eq rfl) e0 (by decide) (by decide) hby e23_11.1 N0 fun T2 v2 Lc2 ls2 X2 hQ2 nq2 => ?_
 obtain ⟨rfl, N2q, e2⟩ := hQ2
 have N2 := nq2 N2q
 show own_End p e below s (T2.setTop (mkF m 14 _ [(.int o1)])) _ _ _
 refine o_istore X2 hx hby e23_11.2.1 (l' := #[wR o0, wI p1, wI p2, .val (.long (((p1.toInt64) <<< ((9 : Int32) &&& 0x3f).toInt64) ||| (p2.toInt64))), .second, wI o1]) rfl ?_
 obtain ⟨IV3, hIV3⟩ : ∃ I : Heap → Prop, ∀ (hh : Heap) , I hh  ↔ (Exa Z hh o0 "com/example/portero/portero/matching/SegmentAutomaton" ∧ Fld Z hh o0 "com/example/portero/portero/matching/SegmentAutomaton" "slotShift" "I" (.int sh) ∧ Fld Z hh o0 "com/example/portero/portero/matching/SegmentAutomaton" "edgeKeys" "[J" (.ref ka) ∧ Fld Z hh o0 "com/example/portero/portero/matching/SegmentAutomaton" "edgeTargets" "[I" (.ref ta) ∧ own_AJ Z hh ka kk nk K ∧ own_AI Z hh ta kt nk T) := ⟨_, fun _  => Iff.rfl⟩
 have J0 : ∀ f0 : Nat, (∀ (ky : Int64) (i : Int32) (T4 : State) (h4 : Heap) (ls4 : List Loc) (X4 : Stand p l e ({ frames := 1, cells := 0, slots := 0, locals := 14 } : Room) s m #[(.ref o0), (.int p1), (.int p2)] below meth c T4 ls4 0 0) (e4 : T4.heap = h4) (N4 : Fr n0 ls4) (Z4 : n0 ≤ h4.size) (KP4 : h4 = h0) (FF4 : IV3 h4 )  , S_rmTgt_0 p1 p2 sh nk K T f0 0 ky i = some out → own_End p e below s (T4.setTop (mkF m 16 #[wR o0, wI p1, wI p2, .val (.long ky), .second, wI i] [])) (Q_rmTgt Z o0 p1 p2 sh nk ka kk ta kt K T out h0 n0) ({ frames := 1, cells := 0, slots := 0, locals := 14 } : Room).cells ({ frames := 1, cells := 0, slots := 0, locals := 14 } : Room).slots) := by
  intro f0
  induction f0 with
  | zero => (intros; rename_i H; exact nomatch (show (none : Option (Int32)) = some _ from H))
  | succ f0 IH0 =>
   intro ky i T4 h4 ls4 X4 e4 N4 Z4 KP4 FF4   H
   obtain ⟨Fa4_0, Fa4_1, Fa4_2, Fa4_3, Fa4_4, Fa4_5⟩ := (hIV3 _).mp FF4
   replace H := (S_rmTgt_0_0 _ _ _ _ _ _ _ _ _).symm.trans H
   show own_End p e below s (T4.setTop (mkF m 16 _ [])) _ _ _
   refine o_aloadN X4 hx hby e23_11.2.2.1 rfl ?_
   refine o_getF X4 hx hZ hown (host := "") (Or.inl (hW 48 rfl)) Via.refl e4 Fa4_2 hby e23_11.2.2.2.1 fun T5 X5 e5 => ?_
   refine o_iload X5 hx hby e23_11.2.2.2.2 rfl ?_
   obtain ⟨v6, hv6, H⟩ := own_bnd H
   refine o_ldJ X5 hx hZ e5 Fa4_4 hv6 hby e23_22.1 ?_
   refine own_go (fun τ κ => XS.lloadN X5.here hx rfl (hb hby e23_22.2.1) rfl κ) ?_
   show own_End p e below s (T5.setTop (mkF m 24 _ [(.long ky), (.long v6)])) _ _ _
   refine own_go (fun τ κ => XS.lcmp X5.here hx rfl (hb hby e23_22.2.2.1) rfl κ) ?_
   show own_End p e below s (T5.setTop (mkF m 25 _ [(.int (lcmpW v6 ky))])) _ _ _
   by_cases c25_7 : v6.toInt = ky.toInt
   ·skip
    replace H := own_ifp c25_7 H
    refine o_ifNo X5 hx hby e23_22.2.2.2.1 ((if0 _ _).trans (own_Let (x := v6) (y := ky) (i := v6.toInt) (j := ky.toInt) rfl rfl c25_7).2) ?_
    refine o_aloadN X5 hx hby e23_22.2.2.2.2 rfl ?_
    refine o_getF X5 hx hZ hown (host := "") (Or.inl (hW 55 rfl)) Via.refl e5 Fa4_3 hby e23_29.1 fun T8 X8 e8 => ?_
    refine o_iload X8 hx hby e23_29.2.1 rfl ?_
    obtain ⟨v9, hv9, H⟩ := own_bnd H
    refine o_ldI X8 hx hZ e8 Fa4_5 hv9 hby e23_29.2.2.1 ?_
    obtain rfl := Option.some.inj H
    refine own_ret X8 (v := some (.int v9)) (fun h => by rw [Bd.returns] at h; cases h) Bd.notSynchronized (fun fs hr => retI X8 hx Bd.returns (hb hby e23_29.2.2.2.1) hr) ?_ (by decide) (by decide)
    ·rw [e8]; exact ⟨rfl, N4, KP4⟩
   ·skip
    replace H := own_ifn c25_7 H
    refine o_ifYes X5 hx (pc0 := 25) (pc' := 36) rfl hby e23_22.2.2.2.1 ((if0 _ _).trans (own_Lef (x := v6) (y := ky) (i := v6.toInt) (j := ky.toInt) rfl rfl c25_7).2) (by decide) (by decide) ?_
    refine o_aloadN X5 hx hby e23_29.2.2.2.2 rfl ?_
    refine o_getF X5 hx hZ hown (host := "") (Or.inl (hW 48 rfl)) Via.refl e5 Fa4_2 hby e23_37.1 fun T10 X10 e10 => ?_
    refine o_iload X10 hx hby e23_37.2.1 rfl ?_
    obtain ⟨v11, hv11, H⟩ := own_bnd H
    refine o_ldJ X10 hx hZ e10 Fa4_4 hv11 hby e23_37.2.2.1 ?_
    refine own_go (fun τ κ => X10.ldc2Long hx hown (mvT hZ (hW 50 rfl)) (g := (mkF m 43 #[wR o0, wI p1, wI p2, .val (.long ky), .second, wI i] [(.long v11)])) rfl (hb hby e23_37.2.2.2.1) _ κ) ?_
    show own_End p e below s (T10.setTop (mkF m 46 _ [(.long (-1 : Int64)), (.long v11)])) _ _ _
    refine own_go (fun τ κ => XS.lcmp X10.here hx rfl (hb hby e23_37.2.2.2.2) rfl κ) ?_
    show own_End p e below s (T10.setTop (mkF m 47 _ [(.int (lcmpW v11 (-1 : Int64)))])) _ _ _
    by_cases c47_12 : v11.toInt = -1
    ·skip
     replace H := own_ifp c47_12 H
     refine o_ifNo X10 hx hby e23_47.1 ((if0 _ _).trans (own_Let (x := v11) (y := (-1 : Int64)) (i := v11.toInt) (j := -1) rfl rfl c47_12).2) ?_
     refine o_iconst X10 hx hby e23_47.2.1 (x := (-1)) rfl ?_
     obtain rfl := Option.some.inj H
     refine own_ret X10 (v := some (.int (-1))) (fun h => by rw [Bd.returns] at h; cases h) Bd.notSynchronized (fun fs hr => retI X10 hx Bd.returns (hb hby e23_47.2.2.1) hr) ?_ (by decide) (by decide)
     ·rw [e10]; exact ⟨rfl, N4, KP4⟩
    ·skip
     replace H := own_ifn c47_12 H
     refine o_ifYes X10 hx (pc0 := 47) (pc' := 52) rfl hby e23_47.1 ((if0 _ _).trans (own_Lef (x := v11) (y := (-1 : Int64)) (i := v11.toInt) (j := -1) rfl rfl c47_12).2) (by decide) (by decide) ?_
     refine o_iload X10 hx hby e23_47.2.2.2.1 rfl ?_
     refine o_iconst X10 hx hby e23_47.2.2.2.2 (x := 1) rfl ?_
     refine o_iadd X10 hx hby e23_55.1 ?_
     refine o_aloadN X10 hx hby e23_55.2.1 rfl ?_
     refine o_getF X10 hx hZ hown (host := "") (Or.inl (hW 48 rfl)) Via.refl e10 Fa4_2 hby e23_55.2.2.1 fun T13 X13 e13 => ?_
     refine o_len X13 hx hZ e13 Fa4_4.1 hby e23_55.2.2.2.1 ?_
     refine o_iconst X13 hx hby e23_55.2.2.2.2 (x := 1) rfl ?_
     refine o_isub X13 hx hby e23_62.1 ?_
     refine o_iand X13 hx hby e23_62.2.1 ?_
     refine o_istore X13 hx hby e23_62.2.2.1 (l' := #[wR o0, wI p1, wI p2, .val (.long ky), .second, wI ((i + (1 : Int32)) &&& (nk - (1 : Int32)))]) rfl ?_
     refine o_goto X13 hx (pc0 := 66) (pc' := 16) rfl hby e23_62.2.2.2 (by decide) (by decide) ?_
     exact IH0 ky ((i + (1 : Int32)) &&& (nk - (1 : Int32))) T13 h4 _ X13 e13 N4 Z4 KP4 ((hIV3 _).mpr ⟨Fa4_0, Fa4_1, Fa4_2, Fa4_3, Fa4_4, Fa4_5⟩)   H
 exact (J0 40) (((p1.toInt64) <<< ((9 : Int32) &&& 0x3f).toInt64) ||| (p2.toInt64)) o1 T2 h0 _ X2 e2 N2 Z0 rfl ((hIV3 _).mpr ⟨E_o0, F_o0_slotShift, F_o0_edgeKeys, F_o0_edgeTargets, V_ka, V_ta⟩)   H
theorem own_ef25_rmAdd (m : MethodId) (o0 : Addr) (p1 : Int32) (p2 : Int32) (p3 : Int32) : entryFrame m #[(.ref o0), (.int p1), (.int p2), (.int p3)] 7 = mkF m 0 #[.val (.ref o0), .val (.int p1), .val (.int p2), .val (.int p3), .unset, .unset, .unset] [] := by first | (simp [entryFrame, mkF, argsToLocals, Value.category]; done) | rfl
def Q_rmAdd (Z : State) (o0 : Addr) (p1 : Int32) (p2 : Int32) (p3 : Int32) (sh : Int32) (nk : Int32) (ka : Addr) (kk : ClassId) (ta : Addr) (kt : ClassId) (K : List Int64) (T : List Int32) (out : List Int64 × List Int32) (h0 : Heap) (n0 : Nat) (v : Option Value) (h : Heap) (L : List Loc) : Prop := (v = none ∧ own_AJ Z h ka kk nk (out.1) ∧ own_AI Z h ta kt nk (out.2)) ∧ Fr n0 L ∧ Keep h0 h [ka, ta]
abbrev wc25 : ByteArray := prog_23_method_14_code
theorem e25_0 : decode wc25 0 = .ok (.iload_n 1, 1) ∧ decode wc25 1 = .ok (.i2l, 1) ∧ decode wc25 2 = .ok (.bipush 9, 2) ∧ decode wc25 4 = .ok (.lshl, 1) ∧ decode wc25 5 = .ok (.iload_n 2, 1) := by decide +kernel
theorem e25_6 : decode wc25 6 = .ok (.i2l, 1) ∧ decode wc25 7 = .ok (.lor, 1) ∧ decode wc25 8 = .ok (.lstore 4, 2) ∧ decode wc25 10 = .ok (.aload_n 0, 1) ∧ decode wc25 11 = .ok (.lload 4, 2) := by decide +kernel
theorem e25_13 : decode wc25 13 = .ok (.invokevirtual 120, 3) ∧ decode wc25 16 = .ok (.istore 6, 2) ∧ decode wc25 18 = .ok (.aload_n 0, 1) ∧ decode wc25 19 = .ok (.getfield 15, 3) ∧ decode wc25 22 = .ok (.iload 6, 2) := by decide +kernel
theorem e25_24 : decode wc25 24 = .ok (.laload, 1) ∧ decode wc25 25 = .ok (.ldc2_w 21, 3) ∧ decode wc25 28 = .ok (.lcmp, 1) ∧ decode wc25 29 = .ok (.ifCond .eq 20, 3) ∧ decode wc25 32 = .ok (.iload 6, 2) := by decide +kernel
theorem e25_49 : decode wc25 49 = .ok (.aload_n 0, 1) ∧ decode wc25 50 = .ok (.getfield 15, 3) ∧ decode wc25 53 = .ok (.iload 6, 2) ∧ decode wc25 55 = .ok (.lload 4, 2) ∧ decode wc25 57 = .ok (.lastore, 1) := by decide +kernel
theorem e25_58 : decode wc25 58 = .ok (.aload_n 0, 1) ∧ decode wc25 59 = .ok (.getfield 29, 3) ∧ decode wc25 62 = .ok (.iload 6, 2) ∧ decode wc25 64 = .ok (.iload_n 3, 1) ∧ decode wc25 65 = .ok (.iastore, 1) := by decide +kernel
theorem e25_66 : decode wc25 66 = .ok (.return_, 1) := by decide +kernel
theorem e25_34 : decode wc25 34 = .ok (.iconst 1, 1) ∧ decode wc25 35 = .ok (.iadd, 1) ∧ decode wc25 36 = .ok (.aload_n 0, 1) ∧ decode wc25 37 = .ok (.getfield 15, 3) ∧ decode wc25 40 = .ok (.arraylength, 1) := by decide +kernel
theorem e25_41 : decode wc25 41 = .ok (.iconst 1, 1) ∧ decode wc25 42 = .ok (.isub, 1) ∧ decode wc25 43 = .ok (.iand, 1) ∧ decode wc25 44 = .ok (.istore 6, 2) ∧ decode wc25 46 = .ok (.goto (-28), 3) := by decide +kernel
def S_rmAdd_0 (p1 : Int32) (p2 : Int32) (p3 : Int32) (sh : Int32) (nk : Int32) : Nat → Nat → Int64 → Int32 → List Int64 → List Int32 → Option (List Int64 × List Int32)
 | 0, _, _, _, _, _ => none
 | f0 + 1, _, ky, i, K, T => (own_getJ K i).bind fun v6 => ((if v6.toInt = -1 then (own_setJ K i ky).bind fun L9' => ((own_set T i p3).bind fun L14' => (some (L9', L14'))) else S_rmAdd_0 p1 p2 p3 sh nk f0 0 ky ((i + (1 : Int32)) &&& (nk - (1 : Int32))) K T))
theorem S_rmAdd_0_0 (p1 : Int32) (p2 : Int32) (p3 : Int32) (sh : Int32) (nk : Int32) (f0 : Nat) (ky : Int64) (i : Int32) (K : List Int64) (T : List Int32) : S_rmAdd_0 p1 p2 p3 sh nk (f0 + 1) 0 ky i K T = (own_getJ K i).bind fun v6 => ((if v6.toInt = -1 then (own_setJ K i ky).bind fun L9' => ((own_set T i p3).bind fun L14' => (some (L9', L14'))) else S_rmAdd_0 p1 p2 p3 sh nk f0 0 ky ((i + (1 : Int32)) &&& (nk - (1 : Int32))) K T)) := rfl
def F_rmAdd (p1 : Int32) (p2 : Int32) (p3 : Int32) (sh : Int32) (nk : Int32) (K : List Int64) (T : List Int32) : Option (List Int64 × List Int32) := (F_rmSlot (((p1.toInt64) <<< ((9 : Int32) &&& 0x3f).toInt64) ||| (p2.toInt64)) sh).bind fun o1 => (S_rmAdd_0 p1 p2 p3 sh nk 40 0 (((p1.toInt64) <<< ((9 : Int32) &&& 0x3f).toInt64) ||| (p2.toInt64)) o1 K T)
set_option maxRecDepth 65536 in
set_option maxHeartbeats 40000000 in
theorem rmAdd (l : Launch) (Z : State) (a0 : Array Value) (hw : ∀ d ∈ tables_1, d.before a0 Z = true) (ws : List Jvm.Cond) (o0 : Addr) (p1 : Int32) (p2 : Int32) (p3 : Int32) (sh : Int32) (nk : Int32) (ka : Addr) (kk : ClassId) (ta : Addr) (kt : ClassId) (K : List Int64) (T : List Int32) (out : List Int64 × List Int32) (h0 : Heap) (n0 : Nat) (Z0 : n0 ≤ h0.size) (E_o0 : Exa Z h0 o0 "com/example/portero/portero/matching/SegmentAutomaton") (F_o0_slotShift : Fld Z h0 o0 "com/example/portero/portero/matching/SegmentAutomaton" "slotShift" "I" (.int sh)) (F_o0_edgeKeys : Fld Z h0 o0 "com/example/portero/portero/matching/SegmentAutomaton" "edgeKeys" "[J" (.ref ka)) (F_o0_edgeTargets : Fld Z h0 o0 "com/example/portero/portero/matching/SegmentAutomaton" "edgeTargets" "[I" (.ref ta)) (V_ka : own_AJ Z h0 ka kk nk K) (V_ta : own_AI Z h0 ta kt nk T) (g_ka : n0 ≤ ka) (g_ta : n0 ≤ ta) (ne_ka_ta : ka ≠ ta) (ne_ka_o0 : ka ≠ o0) (ne_ta_o0 : ta ≠ o0) (hF : F_rmAdd p1 p2 p3 sh nk K T = some out) :
  MetFree l (⟨"com/example/portero/portero/matching/SegmentAutomaton", "addEdge", "(III)V"⟩ : MethodName) (head1 (Jvm.Cond.code (⟨"com/example/portero/portero/matching/SegmentAutomaton", "addEdge", "(III)V"⟩ : MethodName) prog_23_method_14_code 7 none :: ws) ({ frames := 1, cells := 0, slots := 0, locals := 14 } : Room)) (fun a U => a = #[(.ref o0), (.int p1), (.int p2), (.int p3)] ∧ Z.Warmed39 U.vm ∧ U.heap = h0) (fun _ _ _ _ _ => True) (fun _ U o U' => ∃ v L, o = .returned v ∧ Q_rmAdd Z o0 p1 p2 p3 sh nk ka kk ta kt K T out h0 n0 v U'.heap L ∧ FrameEnd U o U' L ({ frames := 1, cells := 0, slots := 0, locals := 14 } : Room).cells ({ frames := 1, cells := 0, slots := 0, locals := 14 } : Room).slots) := by
 refine MetFree.of_bodySF (plainFor_of_name own_pn0) hisR ?_
 intro p e s m args below meth c s₁ Bd hml0 hP hK
 obtain ⟨rfl, hZ, hh⟩ := hP
 have hW := @own_hW a0 Z hw
 have hx := Bd.exec
 have hby := Bd.bytes
 have hml : c.maxLocals = 7 := hml0
 have hown : s.vm.findClass "com/example/portero/portero/matching/SegmentAutomaton" = some m.cls := findClass_of_methodNamed Bd.named
 have hnm := (name_of_methodNamed Bd.named Bd.method).1
 have X0 : Stand p l e ({ frames := 1, cells := 0, slots := 0, locals := 14 } : Room) s m #[(.ref o0), (.int p1), (.int p2), (.int p3)] below meth c s₁ [] 0 0 := Stand.of_body Bd
 have e0 : s₁.heap = h0 := by rw [← hh, Bd.state]; rfl
 have N0 := Fr.nil n0
 refine (show own_End p e below s (s₁.setTop (entryFrame m #[(.ref o0), (.int p1), (.int p2), (.int p3)] 7)) (Q_rmAdd Z o0 p1 p2 p3 sh nk ka kk ta kt K T out h0 n0) ({ frames := 1, cells := 0, slots := 0, locals := 14 } : Room).cells ({ frames := 1, cells := 0, slots := 0, locals := 14 } : Room).slots from ?_)
 refine own_go (fun τ κ => castTop (own_ef25_rmAdd m o0 p1 p2 p3) κ) ?_
 have li0 : (0 : Int32).toInt = 0 := rfl
 have li1 : (1 : Int32).toInt = 1 := rfl
 show own_End p e below s (s₁.setTop (mkF m 0 #[wR o0, wI p1, wI p2, wI p3, wU, wU, wU] [])) _ _ _
 have H := hF
 refine o_iloadN X0 hx hby e25_0.1 rfl ?_
 refine own_go (fun τ κ => XS.i2l X0.here hx rfl (hb hby e25_0.2.1) rfl κ) ?_
 show own_End p e below s (s₁.setTop (mkF m 2 _ [(.long (p1.toInt64))])) _ _ _
 refine o_bipush X0 hx hby e25_0.2.2.1 (x := 9) rfl ?_
 refine own_go (fun τ κ => XS.lshl X0.here hx rfl (hb hby e25_0.2.2.2.1) rfl κ) ?_
 show own_End p e below s (s₁.setTop (mkF m 5 _ [(.long ((p1.toInt64) <<< ((9 : Int32) &&& 0x3f).toInt64))])) _ _ _
 refine o_iloadN X0 hx hby e25_0.2.2.2.2 rfl ?_
 refine own_go (fun τ κ => XS.i2l X0.here hx rfl (hb hby e25_6.1) rfl κ) ?_
 show own_End p e below s (s₁.setTop (mkF m 7 _ [(.long (p2.toInt64)), (.long ((p1.toInt64) <<< ((9 : Int32) &&& 0x3f).toInt64))])) _ _ _
 refine own_go (fun τ κ => XS.lor X0.here hx rfl (hb hby e25_6.2.1) rfl κ) ?_
 show own_End p e below s (s₁.setTop (mkF m 8 _ [(.long (((p1.toInt64) <<< ((9 : Int32) &&& 0x3f).toInt64) ||| (p2.toInt64)))])) _ _ _
 refine own_go (fun τ κ => XS.lstore X0.here hx rfl (hb hby e25_6.2.2.1) rfl (l' := #[wR o0, wI p1, wI p2, wI p3, .val (.long (((p1.toInt64) <<< ((9 : Int32) &&& 0x3f).toInt64) ||| (p2.toInt64))), .second, wU]) rfl κ) ?_
 show own_End p e below s (s₁.setTop (mkF m 10 _ [])) _ _ _
 refine o_aloadN X0 hx hby e25_6.2.2.2.1 rfl ?_
 refine own_go (fun τ κ => XS.lload X0.here hx rfl (hb hby e25_6.2.2.2.2) rfl κ) ?_
 show own_End p e below s (s₁.setTop (mkF m 13 _ [(.long (((p1.toInt64) <<< ((9 : Int32) &&& 0x3f).toInt64) ||| (p2.toInt64))), (.ref o0)])) _ _ _
 obtain ⟨o1, ho1, H⟩ := own_bnd H
 refine o_cP X0 hx hZ hown (y := wy24) (hW 130 rfl) (hW 36 rfl) (hW 131 rfl) (hW 132 rfl) (hW 133 rfl) (by decide) E_o0 (backOf (W := 0) (rmSlot l Z a0 hw [] o0 (((p1.toInt64) <<< ((9 : Int32) &&& 0x3f).toInt64) ||| (p2.toInt64)) sh o1 h0 n0 Z0 E_o0 F_o0_slotShift ho1) hZ (hW 133 rfl) (hW 37 rfl) (by decide) (by decide)) (by rw [hml]; rfl) (argsL := [(.long (((p1.toInt64) <<< ((9 : Int32) &&& 0x3f).toInt64) ||| (p2.toInt64)))]) (rest := []) (lenOf own_pd0 rfl) rfl rfl (Nat.le_of_eq rfl) e0 (by decide) (by decide) hby e25_13.1 N0 fun T2 v2 Lc2 ls2 X2 hQ2 nq2 => ?_
 obtain ⟨rfl, N2q, e2⟩ := hQ2
 have N2 := nq2 N2q
 show own_End p e below s (T2.setTop (mkF m 16 _ [(.int o1)])) _ _ _
 refine o_istore X2 hx hby e25_13.2.1 (l' := #[wR o0, wI p1, wI p2, wI p3, .val (.long (((p1.toInt64) <<< ((9 : Int32) &&& 0x3f).toInt64) ||| (p2.toInt64))), .second, wI o1]) rfl ?_
 obtain ⟨IV3, hIV3⟩ : ∃ I : Heap → List Int64 → List Int32 → Prop, ∀ (hh : Heap) (K : List Int64) (T : List Int32), I hh K T ↔ (Exa Z hh o0 "com/example/portero/portero/matching/SegmentAutomaton" ∧ Fld Z hh o0 "com/example/portero/portero/matching/SegmentAutomaton" "slotShift" "I" (.int sh) ∧ Fld Z hh o0 "com/example/portero/portero/matching/SegmentAutomaton" "edgeKeys" "[J" (.ref ka) ∧ Fld Z hh o0 "com/example/portero/portero/matching/SegmentAutomaton" "edgeTargets" "[I" (.ref ta) ∧ own_AJ Z hh ka kk nk K ∧ own_AI Z hh ta kt nk T) := ⟨_, fun _ _ _ => Iff.rfl⟩
 have J0 : ∀ f0 : Nat, (∀ (ky : Int64) (i : Int32) (K : List Int64) (T : List Int32) (T4 : State) (h4 : Heap) (ls4 : List Loc) (X4 : Stand p l e ({ frames := 1, cells := 0, slots := 0, locals := 14 } : Room) s m #[(.ref o0), (.int p1), (.int p2), (.int p3)] below meth c T4 ls4 0 0) (e4 : T4.heap = h4) (N4 : Fr n0 ls4) (Z4 : n0 ≤ h4.size) (KP4 : Keep h0 h4 [ka, ta]) (FF4 : IV3 h4 K T)  , S_rmAdd_0 p1 p2 p3 sh nk f0 0 ky i K T = some out → own_End p e below s (T4.setTop (mkF m 18 #[wR o0, wI p1, wI p2, wI p3, .val (.long ky), .second, wI i] [])) (Q_rmAdd Z o0 p1 p2 p3 sh nk ka kk ta kt K T out h0 n0) ({ frames := 1, cells := 0, slots := 0, locals := 14 } : Room).cells ({ frames := 1, cells := 0, slots := 0, locals := 14 } : Room).slots) := by
  intro f0
  induction f0 with
  | zero => (intros; rename_i H; exact nomatch (show (none : Option (List Int64 × List Int32)) = some _ from H))
  | succ f0 IH0 =>
   intro ky i K T T4 h4 ls4 X4 e4 N4 Z4 KP4 FF4   H
   obtain ⟨Fa4_0, Fa4_1, Fa4_2, Fa4_3, Fa4_4, Fa4_5⟩ := (hIV3 _ _ _).mp FF4
   replace H := (S_rmAdd_0_0 _ _ _ _ _ _ _ _ _ _).symm.trans H
   show own_End p e below s (T4.setTop (mkF m 18 _ [])) _ _ _
   refine o_aloadN X4 hx hby e25_13.2.2.1 rfl ?_
   refine o_getF X4 hx hZ hown (host := "") (Or.inl (hW 48 rfl)) Via.refl e4 Fa4_2 hby e25_13.2.2.2.1 fun T5 X5 e5 => ?_
   refine o_iload X5 hx hby e25_13.2.2.2.2 rfl ?_
   obtain ⟨v6, hv6, H⟩ := own_bnd H
   refine o_ldJ X5 hx hZ e5 Fa4_4 hv6 hby e25_24.1 ?_
   refine own_go (fun τ κ => X5.ldc2Long hx hown (mvT hZ (hW 50 rfl)) (g := (mkF m 25 #[wR o0, wI p1, wI p2, wI p3, .val (.long ky), .second, wI i] [(.long v6)])) rfl (hb hby e25_24.2.1) _ κ) ?_
   show own_End p e below s (T5.setTop (mkF m 28 _ [(.long (-1 : Int64)), (.long v6)])) _ _ _
   refine own_go (fun τ κ => XS.lcmp X5.here hx rfl (hb hby e25_24.2.2.1) rfl κ) ?_
   show own_End p e below s (T5.setTop (mkF m 29 _ [(.int (lcmpW v6 (-1 : Int64)))])) _ _ _
   by_cases c29_7 : v6.toInt = -1
   ·skip
    replace H := own_ifp c29_7 H
    refine o_ifYes X5 hx (pc0 := 29) (pc' := 49) rfl hby e25_24.2.2.2.1 ((if0 _ _).trans (own_Let (x := v6) (y := (-1 : Int64)) (i := v6.toInt) (j := -1) rfl rfl c29_7).1) (by decide) (by decide) ?_
    refine o_aloadN X5 hx hby e25_49.1 rfl ?_
    refine o_getF X5 hx hZ hown (host := "") (Or.inl (hW 48 rfl)) Via.refl e5 Fa4_2 hby e25_49.2.1 fun T8 X8 e8 => ?_
    refine o_iload X8 hx hby e25_49.2.2.1 rfl ?_
    refine own_go (fun τ κ => XS.lload X8.here hx rfl (hb hby e25_49.2.2.2.1) rfl κ) ?_
    show own_End p e below s (T8.setTop (mkF m 57 _ [(.long ky), (.int i), (.ref ka)])) _ _ _
    obtain ⟨L9', hs9, H⟩ := own_bnd H
    refine o_stJ X8 hx hZ e8 Fa4_4 hs9 N4 g_ka hby e25_49.2.2.2.2 fun T10 h10 ls10 X10 e10 W10 V_ka_10 N10 => ?_
    have Z10 := Nat.le_trans Z4 (Keep.of_wr W10).1
    have KP10 := KP4.wr W10 (Or.inl (List.mem_of_getElem? (i := 0) rfl))
    refine o_aloadN X10 hx hby e25_58.1 rfl ?_
    have U11 := (Fa4_3.other W10 (Or.inl (Ne.symm ne_ka_o0)))
    refine o_getF X10 hx hZ hown (host := "") (Or.inl (hW 55 rfl)) Via.refl e10 U11 hby e25_58.2.1 fun T12 X12 e12 => ?_
    refine o_iload X12 hx hby e25_58.2.2.1 rfl ?_
    refine o_iloadN X12 hx hby e25_58.2.2.2.1 rfl ?_
    have U13 := (Fa4_5.other W10 (Ne.symm ne_ka_ta))
    obtain ⟨L14', hs14, H⟩ := own_bnd H
    refine o_stI X12 hx hZ e12 U13 hs14 N10 g_ta hby e25_58.2.2.2.2 fun T15 h15 ls15 X15 e15 W15 V_ta_15 N15 => ?_
    have Z15 := Nat.le_trans Z10 (Keep.of_wr W15).1
    have KP15 := KP10.wr W15 (Or.inl (List.mem_of_getElem? (i := 1) rfl))
    obtain rfl := Option.some.inj H
    refine own_ret X15 (v := none) (fun _ => rfl) Bd.notSynchronized (fun fs hr => X15.returnOut hx Bd.returns (hb hby e25_66) hr) ?_ (by decide) (by decide)
    have U16 := (V_ka_10.other W15 ne_ka_ta)
    ·rw [e15]; exact ⟨⟨rfl, U16, V_ta_15⟩, N15, KP15⟩
   ·skip
    replace H := own_ifn c29_7 H
    refine o_ifNo X5 hx hby e25_24.2.2.2.1 ((if0 _ _).trans (own_Lef (x := v6) (y := (-1 : Int64)) (i := v6.toInt) (j := -1) rfl rfl c29_7).1) ?_
    refine o_iload X5 hx hby e25_24.2.2.2.2 rfl ?_
    refine o_iconst X5 hx hby e25_34.1 (x := 1) rfl ?_
    refine o_iadd X5 hx hby e25_34.2.1 ?_
    refine o_aloadN X5 hx hby e25_34.2.2.1 rfl ?_
    refine o_getF X5 hx hZ hown (host := "") (Or.inl (hW 48 rfl)) Via.refl e5 Fa4_2 hby e25_34.2.2.2.1 fun T17 X17 e17 => ?_
    refine o_len X17 hx hZ e17 Fa4_4.1 hby e25_34.2.2.2.2 ?_
    refine o_iconst X17 hx hby e25_41.1 (x := 1) rfl ?_
    refine o_isub X17 hx hby e25_41.2.1 ?_
    refine o_iand X17 hx hby e25_41.2.2.1 ?_
    refine o_istore X17 hx hby e25_41.2.2.2.1 (l' := #[wR o0, wI p1, wI p2, wI p3, .val (.long ky), .second, wI ((i + (1 : Int32)) &&& (nk - (1 : Int32)))]) rfl ?_
    refine o_goto X17 hx (pc0 := 46) (pc' := 18) rfl hby e25_41.2.2.2.2 (by decide) (by decide) ?_
    exact IH0 ky ((i + (1 : Int32)) &&& (nk - (1 : Int32))) K T T17 h4 _ X17 e17 N4 Z4 KP4 ((hIV3 _ _ _).mpr ⟨Fa4_0, Fa4_1, Fa4_2, Fa4_3, Fa4_4, Fa4_5⟩)   H
 exact (J0 40) (((p1.toInt64) <<< ((9 : Int32) &&& 0x3f).toInt64) ||| (p2.toInt64)) o1 K T T2 h0 _ X2 e2 N2 Z0 (Keep.refl h0 [ka, ta]) ((hIV3 _ _ _).mpr ⟨E_o0, F_o0_slotShift, F_o0_edgeKeys, F_o0_edgeTargets, V_ka, V_ta⟩)   H
theorem own_ef33_rmNxt (m : MethodId) (o0 : Addr) (p1 : Int32) (p2 : Int32) : entryFrame m #[(.ref o0), (.int p1), (.int p2)] 5 = mkF m 0 #[.val (.ref o0), .val (.int p1), .val (.int p2), .unset, .unset] [] := by first | (simp [entryFrame, mkF, argsToLocals, Value.category]; done) | rfl
def Q_rmNxt (Z : State) (o0 : Addr) (p1 : Int32) (p2 : Int32) (sh : Int32) (nk : Int32) (ka : Addr) (kk : ClassId) (ta : Addr) (kt : ClassId) (K : List Int64) (T : List Int32) (fa : Addr) (kf : ClassId) (ms : Int32) (Fa : List Int32) (out : Int32) (h0 : Heap) (n0 : Nat) (v : Option Value) (h : Heap) (L : List Loc) : Prop := (v = some (.int out)) ∧ Fr n0 L ∧ h = h0
abbrev wc33 : ByteArray := prog_23_method_12_code
theorem e33_0 : decode wc33 0 = .ok (.iload_n 1, 1) ∧ decode wc33 1 = .ok (.istore_n 3, 1) ∧ decode wc33 2 = .ok (.aload_n 0, 1) ∧ decode wc33 3 = .ok (.iload_n 3, 1) ∧ decode wc33 4 = .ok (.iload_n 2, 1) := by decide +kernel
theorem e33_5 : decode wc33 5 = .ok (.invokevirtual 104, 3) ∧ decode wc33 8 = .ok (.istore 4, 2) ∧ decode wc33 10 = .ok (.iload 4, 2) ∧ decode wc33 12 = .ok (.iconst (-1), 1) ∧ decode wc33 13 = .ok (.if_icmp .eq 6, 3) := by decide +kernel
theorem own_pd1 : parseMethodDescriptor "(II)I" = some ⟨[.int, .int], some .int⟩ := by decide +kernel
abbrev wy23 : MethodName := (⟨"com/example/portero/portero/matching/SegmentAutomaton", "target", "(II)I"⟩ : MethodName)
theorem e33_16 : decode wc33 16 = .ok (.iload 4, 2) ∧ decode wc33 18 = .ok (.ireturn, 1) ∧ decode wc33 19 = .ok (.iload_n 3, 1) ∧ decode wc33 20 = .ok (.ifCond .ne 5, 3) ∧ decode wc33 23 = .ok (.iconst 0, 1) := by decide +kernel
theorem e33_24 : decode wc33 24 = .ok (.ireturn, 1) ∧ decode wc33 25 = .ok (.aload_n 0, 1) ∧ decode wc33 26 = .ok (.getfield 39, 3) ∧ decode wc33 29 = .ok (.iload_n 3, 1) ∧ decode wc33 30 = .ok (.iaload, 1) := by decide +kernel
theorem e33_31 : decode wc33 31 = .ok (.istore_n 3, 1) ∧ decode wc33 32 = .ok (.goto (-30), 3) := by decide +kernel
def S_rmNxt_0 (p1 : Int32) (p2 : Int32) (sh : Int32) (nk : Int32) (K : List Int64) (T : List Int32) (Fa : List Int32) : Nat → Nat → Int32 → Option (Int32)
 | 0, _, _ => none
 | f0 + 1, _, i => (F_rmTgt i p2 sh nk K T).bind fun o3 => ((if o3.toInt = -1 then (if i.toInt = 0 then some ((0 : Int32)) else (own_get Fa i).bind fun v8 => (S_rmNxt_0 p1 p2 sh nk K T Fa f0 0 v8)) else some (o3)))
theorem S_rmNxt_0_0 (p1 : Int32) (p2 : Int32) (sh : Int32) (nk : Int32) (K : List Int64) (T : List Int32) (Fa : List Int32) (f0 : Nat) (i : Int32) : S_rmNxt_0 p1 p2 sh nk K T Fa (f0 + 1) 0 i = (F_rmTgt i p2 sh nk K T).bind fun o3 => ((if o3.toInt = -1 then (if i.toInt = 0 then some ((0 : Int32)) else (own_get Fa i).bind fun v8 => (S_rmNxt_0 p1 p2 sh nk K T Fa f0 0 v8)) else some (o3))) := rfl
def F_rmNxt (p1 : Int32) (p2 : Int32) (sh : Int32) (nk : Int32) (K : List Int64) (T : List Int32) (Fa : List Int32) : Option (Int32) := S_rmNxt_0 p1 p2 sh nk K T Fa 40 0 p1
set_option maxRecDepth 65536 in
set_option maxHeartbeats 40000000 in
theorem rmNxt (l : Launch) (Z : State) (a0 : Array Value) (hw : ∀ d ∈ tables_1, d.before a0 Z = true) (ws : List Jvm.Cond) (o0 : Addr) (p1 : Int32) (p2 : Int32) (sh : Int32) (nk : Int32) (ka : Addr) (kk : ClassId) (ta : Addr) (kt : ClassId) (K : List Int64) (T : List Int32) (fa : Addr) (kf : ClassId) (ms : Int32) (Fa : List Int32) (out : Int32) (h0 : Heap) (n0 : Nat) (Z0 : n0 ≤ h0.size) (E_o0 : Exa Z h0 o0 "com/example/portero/portero/matching/SegmentAutomaton") (F_o0_slotShift : Fld Z h0 o0 "com/example/portero/portero/matching/SegmentAutomaton" "slotShift" "I" (.int sh)) (F_o0_edgeKeys : Fld Z h0 o0 "com/example/portero/portero/matching/SegmentAutomaton" "edgeKeys" "[J" (.ref ka)) (F_o0_edgeTargets : Fld Z h0 o0 "com/example/portero/portero/matching/SegmentAutomaton" "edgeTargets" "[I" (.ref ta)) (V_ka : own_AJ Z h0 ka kk nk K) (V_ta : own_AI Z h0 ta kt nk T) (F_o0_failures : Fld Z h0 o0 "com/example/portero/portero/matching/SegmentAutomaton" "failures" "[I" (.ref fa)) (V_fa : own_AI Z h0 fa kf ms Fa) (hF : F_rmNxt p1 p2 sh nk K T Fa = some out) :
  MetFree l (⟨"com/example/portero/portero/matching/SegmentAutomaton", "next", "(II)I"⟩ : MethodName) (head1 (Jvm.Cond.code (⟨"com/example/portero/portero/matching/SegmentAutomaton", "next", "(II)I"⟩ : MethodName) prog_23_method_12_code 5 (some .int) :: ws) ({ frames := 2, cells := 0, slots := 0, locals := 31 } : Room)) (fun a U => a = #[(.ref o0), (.int p1), (.int p2)] ∧ Z.Warmed39 U.vm ∧ U.heap = h0) (fun _ _ _ _ _ => True) (fun _ U o U' => ∃ v L, o = .returned v ∧ Q_rmNxt Z o0 p1 p2 sh nk ka kk ta kt K T fa kf ms Fa out h0 n0 v U'.heap L ∧ FrameEnd U o U' L ({ frames := 2, cells := 0, slots := 0, locals := 31 } : Room).cells ({ frames := 2, cells := 0, slots := 0, locals := 31 } : Room).slots) := by
 refine MetFree.of_bodySF (plainFor_of_name own_pn0) hisR ?_
 intro p e s m args below meth c s₁ Bd hml0 hP hK
 obtain ⟨rfl, hZ, hh⟩ := hP
 have hW := @own_hW a0 Z hw
 have hx := Bd.exec
 have hby := Bd.bytes
 have hml : c.maxLocals = 5 := hml0
 have hown : s.vm.findClass "com/example/portero/portero/matching/SegmentAutomaton" = some m.cls := findClass_of_methodNamed Bd.named
 have hnm := (name_of_methodNamed Bd.named Bd.method).1
 have X0 : Stand p l e ({ frames := 2, cells := 0, slots := 0, locals := 31 } : Room) s m #[(.ref o0), (.int p1), (.int p2)] below meth c s₁ [] 0 0 := Stand.of_body Bd
 have e0 : s₁.heap = h0 := by rw [← hh, Bd.state]; rfl
 have N0 := Fr.nil n0
 refine (show own_End p e below s (s₁.setTop (entryFrame m #[(.ref o0), (.int p1), (.int p2)] 5)) (Q_rmNxt Z o0 p1 p2 sh nk ka kk ta kt K T fa kf ms Fa out h0 n0) ({ frames := 2, cells := 0, slots := 0, locals := 31 } : Room).cells ({ frames := 2, cells := 0, slots := 0, locals := 31 } : Room).slots from ?_)
 refine own_go (fun τ κ => castTop (own_ef33_rmNxt m o0 p1 p2) κ) ?_
 have li0 : (0 : Int32).toInt = 0 := rfl
 have li1 : (1 : Int32).toInt = 1 := rfl
 show own_End p e below s (s₁.setTop (mkF m 0 #[wR o0, wI p1, wI p2, wU, wU] [])) _ _ _
 have H := hF
 refine o_iloadN X0 hx hby e33_0.1 rfl ?_
 refine o_istoreN X0 hx hby e33_0.2.1 (l' := #[wR o0, wI p1, wI p2, wI p1, wU]) rfl ?_
 obtain ⟨IV1, hIV1⟩ : ∃ I : Heap → Prop, ∀ (hh : Heap) , I hh  ↔ (Exa Z hh o0 "com/example/portero/portero/matching/SegmentAutomaton" ∧ Fld Z hh o0 "com/example/portero/portero/matching/SegmentAutomaton" "slotShift" "I" (.int sh) ∧ Fld Z hh o0 "com/example/portero/portero/matching/SegmentAutomaton" "edgeKeys" "[J" (.ref ka) ∧ Fld Z hh o0 "com/example/portero/portero/matching/SegmentAutomaton" "edgeTargets" "[I" (.ref ta) ∧ own_AJ Z hh ka kk nk K ∧ own_AI Z hh ta kt nk T ∧ Fld Z hh o0 "com/example/portero/portero/matching/SegmentAutomaton" "failures" "[I" (.ref fa) ∧ own_AI Z hh fa kf ms Fa) := ⟨_, fun _  => Iff.rfl⟩
 have J0 : ∀ f0 : Nat, (∀ (i : Int32) (T2 : State) (h2 : Heap) (ls2 : List Loc) (X2 : Stand p l e ({ frames := 2, cells := 0, slots := 0, locals := 31 } : Room) s m #[(.ref o0), (.int p1), (.int p2)] below meth c T2 ls2 0 0) (e2 : T2.heap = h2) (N2 : Fr n0 ls2) (Z2 : n0 ≤ h2.size) (KP2 : h2 = h0) (FF2 : IV1 h2 ) (sl4 : Slot) (hsl4 : own_pl sl4), S_rmNxt_0 p1 p2 sh nk K T Fa f0 0 i = some out → own_End p e below s (T2.setTop (mkF m 2 #[wR o0, wI p1, wI p2, wI i, sl4] [])) (Q_rmNxt Z o0 p1 p2 sh nk ka kk ta kt K T fa kf ms Fa out h0 n0) ({ frames := 2, cells := 0, slots := 0, locals := 31 } : Room).cells ({ frames := 2, cells := 0, slots := 0, locals := 31 } : Room).slots) := by
  intro f0
  induction f0 with
  | zero => (intros; rename_i H; exact nomatch (show (none : Option (Int32)) = some _ from H))
  | succ f0 IH0 =>
   intro i T2 h2 ls2 X2 e2 N2 Z2 KP2 FF2 sl4 hsl4 H
   obtain ⟨Fa2_0, Fa2_1, Fa2_2, Fa2_3, Fa2_4, Fa2_5, Fa2_6, Fa2_7⟩ := (hIV1 _).mp FF2
   replace H := (S_rmNxt_0_0 _ _ _ _ _ _ _ _ _).symm.trans H
   show own_End p e below s (T2.setTop (mkF m 2 _ [])) _ _ _
   refine o_aloadN X2 hx hby e33_0.2.2.1 rfl ?_
   refine o_iloadN X2 hx hby e33_0.2.2.2.1 rfl ?_
   refine o_iloadN X2 hx hby e33_0.2.2.2.2 rfl ?_
   obtain ⟨o3, ho3, H⟩ := own_bnd H
   refine o_cP X2 hx hZ hown (y := wy23) (hW 126 rfl) (hW 36 rfl) (hW 127 rfl) (hW 128 rfl) (hW 129 rfl) (by decide) Fa2_0 (backOf (W := 0) (rmTgt l Z a0 hw [] o0 i p2 sh nk ka kk ta kt K T o3 h2 n0 Z2 Fa2_0 Fa2_1 Fa2_2 Fa2_3 Fa2_4 Fa2_5 ho3) hZ (hW 129 rfl) (hW 37 rfl) (by decide) (by decide)) (by rw [hml]; rfl) (argsL := [(.int i), (.int p2)]) (rest := []) (lenOf own_pd1 rfl) rfl rfl (Nat.le_of_eq rfl) e2 (by decide) (by decide) hby e33_5.1 N2 fun T4 v4 Lc4 ls4 X4 hQ4 nq4 => ?_
   obtain ⟨rfl, N4q, e4⟩ := hQ4
   have N4 := nq4 N4q
   show own_End p e below s (T4.setTop (mkF m 8 _ [(.int o3)])) _ _ _
   refine o_istore X4 hx hby e33_5.2.1 (l' := #[wR o0, wI p1, wI p2, wI i, wI o3]) (by rcases hsl4 with rfl | ⟨_, rfl⟩ <;> rfl) ?_
   refine o_iload X4 hx hby e33_5.2.2.1 rfl ?_
   refine o_iconst X4 hx hby e33_5.2.2.2.1 (x := (-1)) rfl ?_
   by_cases c13_5 : o3.toInt = -1
   ·skip
    replace H := own_ifp c13_5 H
    refine o_icmpYes X4 hx (pc0 := 13) (pc' := 19) rfl hby e33_5.2.2.2.2 (own_eq (x := o3) (y := (-1)) (i := o3.toInt) (j := -1) rfl rfl c13_5).1 (by decide) (by decide) ?_
    refine o_iloadN X4 hx hby e33_16.2.2.1 rfl ?_
    by_cases c20_6 : i.toInt = 0
    ·skip
     replace H := own_ifp c20_6 H
     refine o_ifNo X4 hx hby e33_16.2.2.2.1 ((if0 _ _).trans (own_eq (x := i) (y := 0) (i := i.toInt) (j := 0) rfl rfl c20_6).2) ?_
     refine o_iconst X4 hx hby e33_16.2.2.2.2 (x := 0) rfl ?_
     obtain rfl := Option.some.inj H
     refine own_ret X4 (v := some (.int 0)) (fun h => by rw [Bd.returns] at h; cases h) Bd.notSynchronized (fun fs hr => retI X4 hx Bd.returns (hb hby e33_24.1) hr) ?_ (by decide) (by decide)
     ·rw [e4]; exact ⟨rfl, N4, KP2⟩
    ·skip
     replace H := own_ifn c20_6 H
     refine o_ifYes X4 hx (pc0 := 20) (pc' := 25) rfl hby e33_16.2.2.2.1 ((if0 _ _).trans (own_ne (x := i) (y := 0) (i := i.toInt) (j := 0) rfl rfl c20_6).2) (by decide) (by decide) ?_
     refine o_aloadN X4 hx hby e33_24.2.1 rfl ?_
     refine o_getF X4 hx hZ hown (host := "") (Or.inl (hW 59 rfl)) Via.refl e4 Fa2_6 hby e33_24.2.2.1 fun T7 X7 e7 => ?_
     refine o_iloadN X7 hx hby e33_24.2.2.2.1 rfl ?_
     obtain ⟨v8, hv8, H⟩ := own_bnd H
     refine o_ldI X7 hx hZ e7 Fa2_7 hv8 hby e33_24.2.2.2.2 ?_
     refine o_istoreN X7 hx hby e33_31.1 (l' := #[wR o0, wI p1, wI p2, wI v8, wI o3]) rfl ?_
     refine o_goto X7 hx (pc0 := 32) (pc' := 2) rfl hby e33_31.2 (by decide) (by decide) ?_
     exact IH0 v8 T7 h2 _ X7 e7 N4 Z2 KP2 ((hIV1 _).mpr ⟨Fa2_0, Fa2_1, Fa2_2, Fa2_3, Fa2_4, Fa2_5, Fa2_6, Fa2_7⟩) (wI o3) (Or.inr ⟨_, rfl⟩) H
   ·skip
    replace H := own_ifn c13_5 H
    refine o_icmpNo X4 hx hby e33_5.2.2.2.2 (own_ne (x := o3) (y := (-1)) (i := o3.toInt) (j := -1) rfl rfl c13_5).1 ?_
    refine o_iload X4 hx hby e33_16.1 rfl ?_
    obtain rfl := Option.some.inj H
    refine own_ret X4 (v := some (.int o3)) (fun h => by rw [Bd.returns] at h; cases h) Bd.notSynchronized (fun fs hr => retI X4 hx Bd.returns (hb hby e33_16.2.1) hr) ?_ (by decide) (by decide)
    ·rw [e4]; exact ⟨rfl, N4, KP2⟩
 exact (J0 40) p1 s₁ h0 _ X0 e0 N0 Z0 rfl ((hIV1 _).mpr ⟨E_o0, F_o0_slotShift, F_o0_edgeKeys, F_o0_edgeTargets, V_ka, V_ta, F_o0_failures, V_fa⟩) (wU) (Or.inl rfl) H
theorem own_ef28_rmMax (m : MethodId) (p0 : Int32) (p1 : Int32) : entryFrame m #[(.int p0), (.int p1)] 2 = mkF m 0 #[.val (.int p0), .val (.int p1)] [] := by first | (simp [entryFrame, mkF, argsToLocals, Value.category]; done) | rfl
def Q_rmMax (Z : State) (p0 : Int32) (p1 : Int32)  (h0 : Heap) (n0 : Nat) (v : Option Value) (h : Heap) (L : List Loc) : Prop := (v = some (.int (if p0.toInt < p1.toInt then p1 else p0))) ∧ Fr n0 L ∧ h = h0
abbrev wc28 : ByteArray := jdk_29_method_65_code
theorem e28_0 : decode wc28 0 = .ok (.iload_n 0, 1) ∧ decode wc28 1 = .ok (.iload_n 1, 1) ∧ decode wc28 2 = .ok (.if_icmp .lt 7, 3) ∧ decode wc28 5 = .ok (.iload_n 0, 1) ∧ decode wc28 6 = .ok (.goto 4, 3) := by decide +kernel
theorem e28_9 : decode wc28 9 = .ok (.iload_n 1, 1) ∧ decode wc28 10 = .ok (.ireturn, 1) := by decide +kernel
set_option maxRecDepth 65536 in
set_option maxHeartbeats 40000000 in
theorem rmMax (l : Launch) (Z : State) (a0 : Array Value) (hw : ∀ d ∈ tables_1, d.before a0 Z = true) (ws : List Jvm.Cond) (p0 : Int32) (p1 : Int32)  (h0 : Heap) (n0 : Nat) (Z0 : n0 ≤ h0.size)  :
  MetFree l (⟨"java/lang/Math", "max", "(II)I"⟩ : MethodName) (head1 (Jvm.Cond.code (⟨"java/lang/Math", "max", "(II)I"⟩ : MethodName) jdk_29_method_65_code 2 (some .int) :: ws) ({ frames := 0, cells := 0, slots := 0, locals := 0 } : Room)) (fun a U => a = #[(.int p0), (.int p1)] ∧ Z.Warmed39 U.vm ∧ U.heap = h0) (fun _ _ _ _ _ => True) (fun _ U o U' => ∃ v L, o = .returned v ∧ Q_rmMax Z p0 p1  h0 n0 v U'.heap L ∧ FrameEnd U o U' L ({ frames := 0, cells := 0, slots := 0, locals := 0 } : Room).cells ({ frames := 0, cells := 0, slots := 0, locals := 0 } : Room).slots) := by
 refine MetFree.of_bodySF (Jvm.Free.JP.mathPlain rfl (by decide +kernel)) hisR ?_
 intro p e s m args below meth c s₁ Bd hml0 hP hK
 obtain ⟨rfl, hZ, hh⟩ := hP
 have hW := @own_hW a0 Z hw
 have hx := Bd.exec
 have hby := Bd.bytes
 have hml : c.maxLocals = 2 := hml0
 have hown : s.vm.findClass "java/lang/Math" = some m.cls := findClass_of_methodNamed Bd.named
 have hnm := (name_of_methodNamed Bd.named Bd.method).1
 have X0 : Stand p l e ({ frames := 0, cells := 0, slots := 0, locals := 0 } : Room) s m #[(.int p0), (.int p1)] below meth c s₁ [] 0 0 := Stand.of_body Bd
 have e0 : s₁.heap = h0 := by rw [← hh, Bd.state]; rfl
 have N0 := Fr.nil n0
 refine (show own_End p e below s (s₁.setTop (entryFrame m #[(.int p0), (.int p1)] 2)) (Q_rmMax Z p0 p1  h0 n0) ({ frames := 0, cells := 0, slots := 0, locals := 0 } : Room).cells ({ frames := 0, cells := 0, slots := 0, locals := 0 } : Room).slots from ?_)
 refine own_go (fun τ κ => castTop (own_ef28_rmMax m p0 p1) κ) ?_
 have li0 : (0 : Int32).toInt = 0 := rfl
 have li1 : (1 : Int32).toInt = 1 := rfl
 show own_End p e below s (s₁.setTop (mkF m 0 #[wI p0, wI p1] [])) _ _ _
 refine o_iloadN X0 hx hby e28_0.1 rfl ?_
 refine o_iloadN X0 hx hby e28_0.2.1 rfl ?_
 by_cases cM : p0.toInt < p1.toInt
 ·skip
  refine o_icmpYes X0 hx (pc0 := 2) (pc' := 9) rfl hby e28_0.2.2.1 (own_tlt (x := p0) (y := p1) (i := p0.toInt) (j := p1.toInt) rfl rfl cM).1 (by decide) (by decide) ?_
  refine o_iloadN X0 hx hby e28_9.1 rfl ?_
  refine own_ret X0 (v := some (.int p1)) (fun h => by rw [Bd.returns] at h; cases h) Bd.notSynchronized (fun fs hr => retI X0 hx Bd.returns (hb hby e28_9.2) hr) ?_ (by decide) (by decide)
  ·rw [e0]; exact ⟨(by rw [if_pos cM]), N0, rfl⟩
 ·skip
  refine o_icmpNo X0 hx hby e28_0.2.2.1 (own_flt (x := p0) (y := p1) (i := p0.toInt) (j := p1.toInt) rfl rfl cM).1 ?_
  refine o_iloadN X0 hx hby e28_0.2.2.2.1 rfl ?_
  refine o_goto X0 hx (pc0 := 6) (pc' := 10) rfl hby e28_0.2.2.2.2 (by decide) (by decide) ?_
  refine own_ret X0 (v := some (.int p0)) (fun h => by rw [Bd.returns] at h; cases h) Bd.notSynchronized (fun fs hr => retI X0 hx Bd.returns (hb hby e28_9.2) hr) ?_ (by decide) (by decide)
  ·rw [e0]; exact ⟨(by rw [if_neg cM]), N0, rfl⟩
theorem own_pn1 : plainName "java/util/Arrays" = true := by first | (simp [plainName, overriddenIn]; done) | decide +kernel
theorem own_ef27_rmFillI (m : MethodId) (o0 : Addr) (p1 : Int32) : entryFrame m #[(.ref o0), (.int p1)] 4 = mkF m 0 #[.val (.ref o0), .val (.int p1), .unset, .unset] [] := by first | (simp [entryFrame, mkF, argsToLocals, Value.category]; done) | rfl
def Q_rmFillI (Z : State) (o0 : Addr) (p1 : Int32) (k : ClassId) (n : Int32) (LL : List Int32) (out : List Int32) (h0 : Heap) (n0 : Nat) (v : Option Value) (h : Heap) (L : List Loc) : Prop := (v = none ∧ own_AI Z h o0 k n out) ∧ Fr n0 L ∧ Keep h0 h [o0]
abbrev wc27 : ByteArray := jdk_65_method_103_code
theorem e27_0 : decode wc27 0 = .ok (.iconst 0, 1) ∧ decode wc27 1 = .ok (.istore_n 2, 1) ∧ decode wc27 2 = .ok (.aload_n 0, 1) ∧ decode wc27 3 = .ok (.arraylength, 1) ∧ decode wc27 4 = .ok (.istore_n 3, 1) := by decide +kernel
theorem e27_5 : decode wc27 5 = .ok (.iload_n 2, 1) ∧ decode wc27 6 = .ok (.iload_n 3, 1) ∧ decode wc27 7 = .ok (.if_icmp .ge 13, 3) ∧ decode wc27 10 = .ok (.aload_n 0, 1) ∧ decode wc27 11 = .ok (.iload_n 2, 1) := by decide +kernel
theorem e27_12 : decode wc27 12 = .ok (.iload_n 1, 1) ∧ decode wc27 13 = .ok (.iastore, 1) ∧ decode wc27 14 = .ok (.iinc 2 1, 3) ∧ decode wc27 17 = .ok (.goto (-12), 3) ∧ decode wc27 20 = .ok (.return_, 1) := by decide +kernel
def S_rmFillI_0 (p1 : Int32) (n : Int32) : Nat → Nat → Int32 → List Int32 → Option (List Int32)
 | 0, _, _, _ => none
 | f0 + 1, _, i, LL => (if i.toInt < n.toInt then (own_set LL i p1).bind fun L3' => (S_rmFillI_0 p1 n f0 0 (i + (1 : Int32)) L3') else some (LL))
theorem S_rmFillI_0_0 (p1 : Int32) (n : Int32) (f0 : Nat) (i : Int32) (LL : List Int32) : S_rmFillI_0 p1 n (f0 + 1) 0 i LL = (if i.toInt < n.toInt then (own_set LL i p1).bind fun L3' => (S_rmFillI_0 p1 n f0 0 (i + (1 : Int32)) L3') else some (LL)) := rfl
def F_rmFillI (p1 : Int32) (n : Int32) (LL : List Int32) : Option (List Int32) := S_rmFillI_0 p1 n 40 0 (0 : Int32) LL
set_option maxRecDepth 65536 in
set_option maxHeartbeats 40000000 in
theorem rmFillI (l : Launch) (Z : State) (a0 : Array Value) (hw : ∀ d ∈ tables_1, d.before a0 Z = true) (ws : List Jvm.Cond) (o0 : Addr) (p1 : Int32) (k : ClassId) (n : Int32) (LL : List Int32) (out : List Int32) (h0 : Heap) (n0 : Nat) (Z0 : n0 ≤ h0.size) (V_o0 : own_AI Z h0 o0 k n LL) (g_o0 : n0 ≤ o0) (hF : F_rmFillI p1 n LL = some out) :
  MetFree l (⟨"java/util/Arrays", "fill", "([II)V"⟩ : MethodName) (head1 (Jvm.Cond.code (⟨"java/util/Arrays", "fill", "([II)V"⟩ : MethodName) jdk_65_method_103_code 4 none :: ws) ({ frames := 0, cells := 0, slots := 0, locals := 0 } : Room)) (fun a U => a = #[(.ref o0), (.int p1)] ∧ Z.Warmed39 U.vm ∧ U.heap = h0) (fun _ _ _ _ _ => True) (fun _ U o U' => ∃ v L, o = .returned v ∧ Q_rmFillI Z o0 p1 k n LL out h0 n0 v U'.heap L ∧ FrameEnd U o U' L ({ frames := 0, cells := 0, slots := 0, locals := 0 } : Room).cells ({ frames := 0, cells := 0, slots := 0, locals := 0 } : Room).slots) := by
 refine MetFree.of_bodySF (plainFor_of_name own_pn1) hisR ?_
 intro p e s m args below meth c s₁ Bd hml0 hP hK
 obtain ⟨rfl, hZ, hh⟩ := hP
 have hW := @own_hW a0 Z hw
 have hx := Bd.exec
 have hby := Bd.bytes
 have hml : c.maxLocals = 4 := hml0
 have hown : s.vm.findClass "java/util/Arrays" = some m.cls := findClass_of_methodNamed Bd.named
 have hnm := (name_of_methodNamed Bd.named Bd.method).1
 have X0 : Stand p l e ({ frames := 0, cells := 0, slots := 0, locals := 0 } : Room) s m #[(.ref o0), (.int p1)] below meth c s₁ [] 0 0 := Stand.of_body Bd
 have e0 : s₁.heap = h0 := by rw [← hh, Bd.state]; rfl
 have N0 := Fr.nil n0
 refine (show own_End p e below s (s₁.setTop (entryFrame m #[(.ref o0), (.int p1)] 4)) (Q_rmFillI Z o0 p1 k n LL out h0 n0) ({ frames := 0, cells := 0, slots := 0, locals := 0 } : Room).cells ({ frames := 0, cells := 0, slots := 0, locals := 0 } : Room).slots from ?_)
 refine own_go (fun τ κ => castTop (own_ef27_rmFillI m o0 p1) κ) ?_
 have li0 : (0 : Int32).toInt = 0 := rfl
 have li1 : (1 : Int32).toInt = 1 := rfl
 show own_End p e below s (s₁.setTop (mkF m 0 #[wR o0, wI p1, wU, wU] [])) _ _ _
 have H := hF
 refine o_iconst X0 hx hby e27_0.1 (x := 0) rfl ?_
 refine o_istoreN X0 hx hby e27_0.2.1 (l' := #[wR o0, wI p1, wI 0, wU]) rfl ?_
 refine o_aloadN X0 hx hby e27_0.2.2.1 rfl ?_
 refine o_len X0 hx hZ e0 V_o0.1 hby e27_0.2.2.2.1 ?_
 refine o_istoreN X0 hx hby e27_0.2.2.2.2 (l' := #[wR o0, wI p1, wI 0, wI n]) rfl ?_
 have J0 : ∀ f0 : Nat, (∀ (i : Int32) (LL : List Int32) (T1 : State) (h1 : Heap) (ls1 : List Loc) (X1 : Stand p l e ({ frames := 0, cells := 0, slots := 0, locals := 0 } : Room) s m #[(.ref o0), (.int p1)] below meth c T1 ls1 0 0) (e1 : T1.heap = h1) (N1 : Fr n0 ls1) (Z1 : n0 ≤ h1.size) (KP1 : Keep h0 h1 [o0]) (Fa1_0 : own_AI Z h1 o0 k n LL)  , S_rmFillI_0 p1 n f0 0 i LL = some out → own_End p e below s (T1.setTop (mkF m 5 #[wR o0, wI p1, wI i, wI n] [])) (Q_rmFillI Z o0 p1 k n LL out h0 n0) ({ frames := 0, cells := 0, slots := 0, locals := 0 } : Room).cells ({ frames := 0, cells := 0, slots := 0, locals := 0 } : Room).slots) := by
  intro f0
  induction f0 with
  | zero => (intros; rename_i H; exact nomatch (show (none : Option (List Int32)) = some _ from H))
  | succ f0 IH0 =>
   intro i LL T1 h1 ls1 X1 e1 N1 Z1 KP1 Fa1_0   H
   replace H := (S_rmFillI_0_0 _ _ _ _ _).symm.trans H
   show own_End p e below s (T1.setTop (mkF m 5 _ [])) _ _ _
   refine o_iloadN X1 hx hby e27_5.1 rfl ?_
   refine o_iloadN X1 hx hby e27_5.2.1 rfl ?_
   by_cases c7_2 : i.toInt < n.toInt
   ·skip
    replace H := own_ifp c7_2 H
    refine o_icmpNo X1 hx hby e27_5.2.2.1 (own_tlt (x := i) (y := n) (i := i.toInt) (j := n.toInt) rfl rfl c7_2).2.1 ?_
    refine o_aloadN X1 hx hby e27_5.2.2.2.1 rfl ?_
    refine o_iloadN X1 hx hby e27_5.2.2.2.2 rfl ?_
    refine o_iloadN X1 hx hby e27_12.1 rfl ?_
    obtain ⟨L3', hs3, H⟩ := own_bnd H
    refine o_stI X1 hx hZ e1 Fa1_0 hs3 N1 g_o0 hby e27_12.2.1 fun T4 h4 ls4 X4 e4 W4 V_o0_4 N4 => ?_
    have Z4 := Nat.le_trans Z1 (Keep.of_wr W4).1
    have KP4 := KP1.wr W4 (Or.inl (List.mem_of_getElem? (i := 0) rfl))
    refine o_iinc X4 hx hby e27_12.2.2.1 rfl (l' := #[wR o0, wI p1, wI (i + (1 : Int32)), wI n]) rfl ?_
    refine o_goto X4 hx (pc0 := 17) (pc' := 5) rfl hby e27_12.2.2.2.1 (by decide) (by decide) ?_
    exact IH0 (i + (1 : Int32)) L3' T4 h4 _ X4 e4 N4 Z4 KP4 V_o0_4   H
   ·skip
    replace H := own_ifn c7_2 H
    refine o_icmpYes X1 hx (pc0 := 7) (pc' := 20) rfl hby e27_5.2.2.1 (own_flt (x := i) (y := n) (i := i.toInt) (j := n.toInt) rfl rfl c7_2).2.1 (by decide) (by decide) ?_
    obtain rfl := Option.some.inj H
    refine own_ret X1 (v := none) (fun _ => rfl) Bd.notSynchronized (fun fs hr => X1.returnOut hx Bd.returns (hb hby e27_12.2.2.2.2) hr) ?_ (by decide) (by decide)
    ·rw [e1]; exact ⟨⟨rfl, Fa1_0⟩, N1, KP1⟩
 exact (J0 40) (0 : Int32) LL s₁ h0 _ X0 e0 N0 Z0 (Keep.refl h0 [o0]) V_o0   H
theorem own_ef10_rmFillJ (m : MethodId) (o0 : Addr) (q1 : Int64) : entryFrame m #[(.ref o0), (.long q1)] 5 = mkF m 0 #[.val (.ref o0), .val (.long q1), .second, .unset, .unset] [] := by first | (simp [entryFrame, mkF, argsToLocals, Value.category]; done) | rfl
def Q_rmFillJ (Z : State) (o0 : Addr) (q1 : Int64) (k : ClassId) (n : Int32) (LL : List Int64) (out : List Int64) (h0 : Heap) (n0 : Nat) (v : Option Value) (h : Heap) (L : List Loc) : Prop := (v = none ∧ own_AJ Z h o0 k n out) ∧ Fr n0 L ∧ Keep h0 h [o0]
abbrev wc10 : ByteArray := jdk_65_method_101_code
theorem e10_0 : decode wc10 0 = .ok (.iconst 0, 1) ∧ decode wc10 1 = .ok (.istore_n 3, 1) ∧ decode wc10 2 = .ok (.aload_n 0, 1) ∧ decode wc10 3 = .ok (.arraylength, 1) ∧ decode wc10 4 = .ok (.istore 4, 2) := by decide +kernel
theorem e10_6 : decode wc10 6 = .ok (.iload_n 3, 1) ∧ decode wc10 7 = .ok (.iload 4, 2) ∧ decode wc10 9 = .ok (.if_icmp .ge 13, 3) ∧ decode wc10 12 = .ok (.aload_n 0, 1) ∧ decode wc10 13 = .ok (.iload_n 3, 1) := by decide +kernel
theorem e10_14 : decode wc10 14 = .ok (.lload_n 1, 1) ∧ decode wc10 15 = .ok (.lastore, 1) ∧ decode wc10 16 = .ok (.iinc 3 1, 3) ∧ decode wc10 19 = .ok (.goto (-13), 3) ∧ decode wc10 22 = .ok (.return_, 1) := by decide +kernel
def S_rmFillJ_0 (q1 : Int64) (n : Int32) : Nat → Nat → Int32 → List Int64 → Option (List Int64)
 | 0, _, _, _ => none
 | f0 + 1, _, i, LL => (if i.toInt < n.toInt then (own_setJ LL i q1).bind fun L3' => (S_rmFillJ_0 q1 n f0 0 (i + (1 : Int32)) L3') else some (LL))
theorem S_rmFillJ_0_0 (q1 : Int64) (n : Int32) (f0 : Nat) (i : Int32) (LL : List Int64) : S_rmFillJ_0 q1 n (f0 + 1) 0 i LL = (if i.toInt < n.toInt then (own_setJ LL i q1).bind fun L3' => (S_rmFillJ_0 q1 n f0 0 (i + (1 : Int32)) L3') else some (LL)) := rfl
def F_rmFillJ (q1 : Int64) (n : Int32) (LL : List Int64) : Option (List Int64) := S_rmFillJ_0 q1 n 40 0 (0 : Int32) LL
set_option maxRecDepth 65536 in
set_option maxHeartbeats 40000000 in
theorem rmFillJ (l : Launch) (Z : State) (a0 : Array Value) (hw : ∀ d ∈ tables_1, d.before a0 Z = true) (ws : List Jvm.Cond) (o0 : Addr) (q1 : Int64) (k : ClassId) (n : Int32) (LL : List Int64) (out : List Int64) (h0 : Heap) (n0 : Nat) (Z0 : n0 ≤ h0.size) (V_o0 : own_AJ Z h0 o0 k n LL) (g_o0 : n0 ≤ o0) (hF : F_rmFillJ q1 n LL = some out) :
  MetFree l (⟨"java/util/Arrays", "fill", "([JJ)V"⟩ : MethodName) (head1 (Jvm.Cond.code (⟨"java/util/Arrays", "fill", "([JJ)V"⟩ : MethodName) jdk_65_method_101_code 5 none :: ws) ({ frames := 0, cells := 0, slots := 0, locals := 0 } : Room)) (fun a U => a = #[(.ref o0), (.long q1)] ∧ Z.Warmed39 U.vm ∧ U.heap = h0) (fun _ _ _ _ _ => True) (fun _ U o U' => ∃ v L, o = .returned v ∧ Q_rmFillJ Z o0 q1 k n LL out h0 n0 v U'.heap L ∧ FrameEnd U o U' L ({ frames := 0, cells := 0, slots := 0, locals := 0 } : Room).cells ({ frames := 0, cells := 0, slots := 0, locals := 0 } : Room).slots) := by
 refine MetFree.of_bodySF (plainFor_of_name own_pn1) hisR ?_
 intro p e s m args below meth c s₁ Bd hml0 hP hK
 obtain ⟨rfl, hZ, hh⟩ := hP
 have hW := @own_hW a0 Z hw
 have hx := Bd.exec
 have hby := Bd.bytes
 have hml : c.maxLocals = 5 := hml0
 have hown : s.vm.findClass "java/util/Arrays" = some m.cls := findClass_of_methodNamed Bd.named
 have hnm := (name_of_methodNamed Bd.named Bd.method).1
 have X0 : Stand p l e ({ frames := 0, cells := 0, slots := 0, locals := 0 } : Room) s m #[(.ref o0), (.long q1)] below meth c s₁ [] 0 0 := Stand.of_body Bd
 have e0 : s₁.heap = h0 := by rw [← hh, Bd.state]; rfl
 have N0 := Fr.nil n0
 refine (show own_End p e below s (s₁.setTop (entryFrame m #[(.ref o0), (.long q1)] 5)) (Q_rmFillJ Z o0 q1 k n LL out h0 n0) ({ frames := 0, cells := 0, slots := 0, locals := 0 } : Room).cells ({ frames := 0, cells := 0, slots := 0, locals := 0 } : Room).slots from ?_)
 refine own_go (fun τ κ => castTop (own_ef10_rmFillJ m o0 q1) κ) ?_
 have li0 : (0 : Int32).toInt = 0 := rfl
 have li1 : (1 : Int32).toInt = 1 := rfl
 show own_End p e below s (s₁.setTop (mkF m 0 #[wR o0, .val (.long q1), .second, wU, wU] [])) _ _ _
 have H := hF
 refine o_iconst X0 hx hby e10_0.1 (x := 0) rfl ?_
 refine o_istoreN X0 hx hby e10_0.2.1 (l' := #[wR o0, .val (.long q1), .second, wI 0, wU]) rfl ?_
 refine o_aloadN X0 hx hby e10_0.2.2.1 rfl ?_
 refine o_len X0 hx hZ e0 V_o0.1 hby e10_0.2.2.2.1 ?_
 refine o_istore X0 hx hby e10_0.2.2.2.2 (l' := #[wR o0, .val (.long q1), .second, wI 0, wI n]) rfl ?_
 have J0 : ∀ f0 : Nat, (∀ (i : Int32) (LL : List Int64) (T1 : State) (h1 : Heap) (ls1 : List Loc) (X1 : Stand p l e ({ frames := 0, cells := 0, slots := 0, locals := 0 } : Room) s m #[(.ref o0), (.long q1)] below meth c T1 ls1 0 0) (e1 : T1.heap = h1) (N1 : Fr n0 ls1) (Z1 : n0 ≤ h1.size) (KP1 : Keep h0 h1 [o0]) (Fa1_0 : own_AJ Z h1 o0 k n LL)  , S_rmFillJ_0 q1 n f0 0 i LL = some out → own_End p e below s (T1.setTop (mkF m 6 #[wR o0, .val (.long q1), .second, wI i, wI n] [])) (Q_rmFillJ Z o0 q1 k n LL out h0 n0) ({ frames := 0, cells := 0, slots := 0, locals := 0 } : Room).cells ({ frames := 0, cells := 0, slots := 0, locals := 0 } : Room).slots) := by
  intro f0
  induction f0 with
  | zero => (intros; rename_i H; exact nomatch (show (none : Option (List Int64)) = some _ from H))
  | succ f0 IH0 =>
   intro i LL T1 h1 ls1 X1 e1 N1 Z1 KP1 Fa1_0   H
   replace H := (S_rmFillJ_0_0 _ _ _ _ _).symm.trans H
   show own_End p e below s (T1.setTop (mkF m 6 _ [])) _ _ _
   refine o_iloadN X1 hx hby e10_6.1 rfl ?_
   refine o_iload X1 hx hby e10_6.2.1 rfl ?_
   by_cases c9_2 : i.toInt < n.toInt
   ·skip
    replace H := own_ifp c9_2 H
    refine o_icmpNo X1 hx hby e10_6.2.2.1 (own_tlt (x := i) (y := n) (i := i.toInt) (j := n.toInt) rfl rfl c9_2).2.1 ?_
    refine o_aloadN X1 hx hby e10_6.2.2.2.1 rfl ?_
    refine o_iloadN X1 hx hby e10_6.2.2.2.2 rfl ?_
    refine own_go (fun τ κ => XS.lloadN X1.here hx rfl (hb hby e10_14.1) rfl κ) ?_
    show own_End p e below s (T1.setTop (mkF m 15 _ [(.long q1), (.int i), (.ref o0)])) _ _ _
    obtain ⟨L3', hs3, H⟩ := own_bnd H
    refine o_stJ X1 hx hZ e1 Fa1_0 hs3 N1 g_o0 hby e10_14.2.1 fun T4 h4 ls4 X4 e4 W4 V_o0_4 N4 => ?_
    have Z4 := Nat.le_trans Z1 (Keep.of_wr W4).1
    have KP4 := KP1.wr W4 (Or.inl (List.mem_of_getElem? (i := 0) rfl))
    refine o_iinc X4 hx hby e10_14.2.2.1 rfl (l' := #[wR o0, .val (.long q1), .second, wI (i + (1 : Int32)), wI n]) rfl ?_
    refine o_goto X4 hx (pc0 := 19) (pc' := 6) rfl hby e10_14.2.2.2.1 (by decide) (by decide) ?_
    exact IH0 (i + (1 : Int32)) L3' T4 h4 _ X4 e4 N4 Z4 KP4 V_o0_4   H
   ·skip
    replace H := own_ifn c9_2 H
    refine o_icmpYes X1 hx (pc0 := 9) (pc' := 22) rfl hby e10_6.2.2.1 (own_flt (x := i) (y := n) (i := i.toInt) (j := n.toInt) rfl rfl c9_2).2.1 (by decide) (by decide) ?_
    obtain rfl := Option.some.inj H
    refine own_ret X1 (v := none) (fun _ => rfl) Bd.notSynchronized (fun fs hr => X1.returnOut hx Bd.returns (hb hby e10_14.2.2.2.2) hr) ?_ (by decide) (by decide)
    ·rw [e1]; exact ⟨⟨rfl, Fa1_0⟩, N1, KP1⟩
 exact (J0 40) (0 : Int32) LL s₁ h0 _ X0 e0 N0 Z0 (Keep.refl h0 [o0]) V_o0   H
theorem own_pn2 : plainName "java/lang/Integer" = true := by first | (simp [plainName, overriddenIn]; done) | decide +kernel
theorem own_ef9_rmNlz (m : MethodId) (p0 : Int32) : entryFrame m #[(.int p0)] 2 = mkF m 0 #[.val (.int p0), .unset] [] := by first | (simp [entryFrame, mkF, argsToLocals, Value.category]; done) | rfl
def Q_rmNlz (Z : State) (p0 : Int32) (out : Int32) (h0 : Heap) (n0 : Nat) (v : Option Value) (h : Heap) (L : List Loc) : Prop := (v = some (.int out)) ∧ Fr n0 L ∧ h = h0
abbrev wc9 : ByteArray := jdk_33_method_47_code
theorem e9_0 : decode wc9 0 = .ok (.iload_n 0, 1) ∧ decode wc9 1 = .ok (.ifCond .gt 14, 3) ∧ decode wc9 4 = .ok (.iload_n 0, 1) ∧ decode wc9 5 = .ok (.ifCond .ne 8, 3) ∧ decode wc9 8 = .ok (.bipush 32, 2) := by decide +kernel
theorem e9_10 : decode wc9 10 = .ok (.goto 4, 3) ∧ decode wc9 13 = .ok (.iconst 0, 1) ∧ decode wc9 14 = .ok (.ireturn, 1) ∧ decode wc9 15 = .ok (.bipush 31, 2) ∧ decode wc9 17 = .ok (.istore_n 1, 1) := by decide +kernel
theorem e9_18 : decode wc9 18 = .ok (.iload_n 0, 1) ∧ decode wc9 19 = .ok (.ldc_w 264, 3) ∧ decode wc9 22 = .ok (.if_icmp .lt 11, 3) ∧ decode wc9 25 = .ok (.iinc 1 (-16), 3) ∧ decode wc9 28 = .ok (.iload_n 0, 1) := by decide +kernel
theorem e9_29 : decode wc9 29 = .ok (.bipush 16, 2) ∧ decode wc9 31 = .ok (.iushr, 1) ∧ decode wc9 32 = .ok (.istore_n 0, 1) ∧ decode wc9 33 = .ok (.iload_n 0, 1) ∧ decode wc9 34 = .ok (.sipush 256, 3) := by decide +kernel
theorem e9_37 : decode wc9 37 = .ok (.if_icmp .lt 11, 3) ∧ decode wc9 40 = .ok (.iinc 1 (-8), 3) ∧ decode wc9 43 = .ok (.iload_n 0, 1) ∧ decode wc9 44 = .ok (.bipush 8, 2) ∧ decode wc9 46 = .ok (.iushr, 1) := by decide +kernel
theorem e9_47 : decode wc9 47 = .ok (.istore_n 0, 1) ∧ decode wc9 48 = .ok (.iload_n 0, 1) ∧ decode wc9 49 = .ok (.bipush 16, 2) ∧ decode wc9 51 = .ok (.if_icmp .lt 10, 3) ∧ decode wc9 54 = .ok (.iinc 1 (-4), 3) := by decide +kernel
theorem e9_57 : decode wc9 57 = .ok (.iload_n 0, 1) ∧ decode wc9 58 = .ok (.iconst 4, 1) ∧ decode wc9 59 = .ok (.iushr, 1) ∧ decode wc9 60 = .ok (.istore_n 0, 1) ∧ decode wc9 61 = .ok (.iload_n 0, 1) := by decide +kernel
theorem e9_62 : decode wc9 62 = .ok (.iconst 4, 1) ∧ decode wc9 63 = .ok (.if_icmp .lt 10, 3) ∧ decode wc9 66 = .ok (.iinc 1 (-2), 3) ∧ decode wc9 69 = .ok (.iload_n 0, 1) ∧ decode wc9 70 = .ok (.iconst 2, 1) := by decide +kernel
theorem e9_71 : decode wc9 71 = .ok (.iushr, 1) ∧ decode wc9 72 = .ok (.istore_n 0, 1) ∧ decode wc9 73 = .ok (.iload_n 1, 1) ∧ decode wc9 74 = .ok (.iload_n 0, 1) ∧ decode wc9 75 = .ok (.iconst 1, 1) := by decide +kernel
theorem e9_76 : decode wc9 76 = .ok (.iushr, 1) ∧ decode wc9 77 = .ok (.isub, 1) ∧ decode wc9 78 = .ok (.ireturn, 1) := by decide +kernel
def S_rmNlz_0 (p0 : Int32) : Nat → Nat → Int32 → Int32 → Option (Int32)
 | 0, _, _, _ => none
 | f0 + 1, 0, i, nz => (if i.toInt < 65536 then S_rmNlz_0 p0 f0 1 i nz else S_rmNlz_0 p0 f0 1 ((i.toUInt32 >>> ((16 : Int32) &&& 31).toUInt32).toInt32) (nz + (-16 : Int32)))
 | f0 + 1, 1, i, nz => (if i.toInt < 256 then S_rmNlz_0 p0 f0 2 i nz else S_rmNlz_0 p0 f0 2 ((i.toUInt32 >>> ((8 : Int32) &&& 31).toUInt32).toInt32) (nz + (-8 : Int32)))
 | f0 + 1, 2, i, nz => (if i.toInt < 16 then S_rmNlz_0 p0 f0 3 i nz else S_rmNlz_0 p0 f0 3 ((i.toUInt32 >>> ((4 : Int32) &&& 31).toUInt32).toInt32) (nz + (-4 : Int32)))
 | f0 + 1, 3, i, nz => (if i.toInt < 4 then S_rmNlz_0 p0 f0 4 i nz else S_rmNlz_0 p0 f0 4 ((i.toUInt32 >>> ((2 : Int32) &&& 31).toUInt32).toInt32) (nz + (-2 : Int32)))
 | f0 + 1, _, i, nz => some ((nz - ((i.toUInt32 >>> ((1 : Int32) &&& 31).toUInt32).toInt32)))
theorem S_rmNlz_0_0 (p0 : Int32) (f0 : Nat) (i : Int32) (nz : Int32) : S_rmNlz_0 p0 (f0 + 1) 0 i nz = (if i.toInt < 65536 then S_rmNlz_0 p0 f0 1 i nz else S_rmNlz_0 p0 f0 1 ((i.toUInt32 >>> ((16 : Int32) &&& 31).toUInt32).toInt32) (nz + (-16 : Int32))) := rfl
theorem S_rmNlz_0_1 (p0 : Int32) (f0 : Nat) (i : Int32) (nz : Int32) : S_rmNlz_0 p0 (f0 + 1) 1 i nz = (if i.toInt < 256 then S_rmNlz_0 p0 f0 2 i nz else S_rmNlz_0 p0 f0 2 ((i.toUInt32 >>> ((8 : Int32) &&& 31).toUInt32).toInt32) (nz + (-8 : Int32))) := rfl
theorem S_rmNlz_0_2 (p0 : Int32) (f0 : Nat) (i : Int32) (nz : Int32) : S_rmNlz_0 p0 (f0 + 1) 2 i nz = (if i.toInt < 16 then S_rmNlz_0 p0 f0 3 i nz else S_rmNlz_0 p0 f0 3 ((i.toUInt32 >>> ((4 : Int32) &&& 31).toUInt32).toInt32) (nz + (-4 : Int32))) := rfl
theorem S_rmNlz_0_3 (p0 : Int32) (f0 : Nat) (i : Int32) (nz : Int32) : S_rmNlz_0 p0 (f0 + 1) 3 i nz = (if i.toInt < 4 then S_rmNlz_0 p0 f0 4 i nz else S_rmNlz_0 p0 f0 4 ((i.toUInt32 >>> ((2 : Int32) &&& 31).toUInt32).toInt32) (nz + (-2 : Int32))) := rfl
theorem S_rmNlz_0_4 (p0 : Int32) (f0 : Nat) (i : Int32) (nz : Int32) : S_rmNlz_0 p0 (f0 + 1) 4 i nz = some ((nz - ((i.toUInt32 >>> ((1 : Int32) &&& 31).toUInt32).toInt32))) := rfl
def F_rmNlz (p0 : Int32) : Option (Int32) := (if 0 < p0.toInt then S_rmNlz_0 p0 6 0 p0 (31 : Int32) else (if p0.toInt = 0 then some ((32 : Int32)) else some ((0 : Int32))))
set_option maxRecDepth 65536 in
set_option maxHeartbeats 40000000 in
theorem rmNlz (l : Launch) (Z : State) (a0 : Array Value) (hw : ∀ d ∈ tables_1, d.before a0 Z = true) (ws : List Jvm.Cond) (p0 : Int32) (out : Int32) (h0 : Heap) (n0 : Nat) (Z0 : n0 ≤ h0.size) (hF : F_rmNlz p0 = some out) :
  MetFree l (⟨"java/lang/Integer", "numberOfLeadingZeros", "(I)I"⟩ : MethodName) (head1 (Jvm.Cond.code (⟨"java/lang/Integer", "numberOfLeadingZeros", "(I)I"⟩ : MethodName) jdk_33_method_47_code 2 (some .int) :: ws) ({ frames := 0, cells := 0, slots := 0, locals := 0 } : Room)) (fun a U => a = #[(.int p0)] ∧ Z.Warmed39 U.vm ∧ U.heap = h0) (fun _ _ _ _ _ => True) (fun _ U o U' => ∃ v L, o = .returned v ∧ Q_rmNlz Z p0 out h0 n0 v U'.heap L ∧ FrameEnd U o U' L ({ frames := 0, cells := 0, slots := 0, locals := 0 } : Room).cells ({ frames := 0, cells := 0, slots := 0, locals := 0 } : Room).slots) := by
 refine MetFree.of_bodySF (plainFor_of_name own_pn2) hisR ?_
 intro p e s m args below meth c s₁ Bd hml0 hP hK
 obtain ⟨rfl, hZ, hh⟩ := hP
 have hW := @own_hW a0 Z hw
 have hx := Bd.exec
 have hby := Bd.bytes
 have hml : c.maxLocals = 2 := hml0
 have hown : s.vm.findClass "java/lang/Integer" = some m.cls := findClass_of_methodNamed Bd.named
 have hnm := (name_of_methodNamed Bd.named Bd.method).1
 have X0 : Stand p l e ({ frames := 0, cells := 0, slots := 0, locals := 0 } : Room) s m #[(.int p0)] below meth c s₁ [] 0 0 := Stand.of_body Bd
 have e0 : s₁.heap = h0 := by rw [← hh, Bd.state]; rfl
 have N0 := Fr.nil n0
 refine (show own_End p e below s (s₁.setTop (entryFrame m #[(.int p0)] 2)) (Q_rmNlz Z p0 out h0 n0) ({ frames := 0, cells := 0, slots := 0, locals := 0 } : Room).cells ({ frames := 0, cells := 0, slots := 0, locals := 0 } : Room).slots from ?_)
 refine own_go (fun τ κ => castTop (own_ef9_rmNlz m p0) κ) ?_
 have li0 : (0 : Int32).toInt = 0 := rfl
 have li1 : (1 : Int32).toInt = 1 := rfl
 show own_End p e below s (s₁.setTop (mkF m 0 #[wI p0, wU] [])) _ _ _
 have H := hF
 refine o_iloadN X0 hx hby e9_0.1 rfl ?_
 by_cases c1_1 : 0 < p0.toInt
 ·skip
  replace H := own_ifp c1_1 H
  refine o_ifYes X0 hx (pc0 := 1) (pc' := 15) rfl hby e9_0.2.1 ((if0 _ _).trans (own_tlt (x := 0) (y := p0) (i := 0) (j := p0.toInt) rfl rfl c1_1).2.2.1) (by decide) (by decide) ?_
  refine o_bipush X0 hx hby e9_10.2.2.2.1 (x := 31) rfl ?_
  refine o_istoreN X0 hx hby e9_10.2.2.2.2 (l' := #[wI p0, wI 31]) rfl ?_
  have J0 : ∀ f0 : Nat, (∀ (i : Int32) (nz : Int32) (T2 : State) (h2 : Heap) (ls2 : List Loc) (X2 : Stand p l e ({ frames := 0, cells := 0, slots := 0, locals := 0 } : Room) s m #[(.int p0)] below meth c T2 ls2 0 0) (e2 : T2.heap = h2) (N2 : Fr n0 ls2) (Z2 : n0 ≤ h2.size) (KP2 : h2 = h0)   , S_rmNlz_0 p0 f0 0 i nz = some out → own_End p e below s (T2.setTop (mkF m 18 #[wI i, wI nz] [])) (Q_rmNlz Z p0 out h0 n0) ({ frames := 0, cells := 0, slots := 0, locals := 0 } : Room).cells ({ frames := 0, cells := 0, slots := 0, locals := 0 } : Room).slots) ∧ (∀ (i : Int32) (nz : Int32) (T4 : State) (h4 : Heap) (ls4 : List Loc) (X4 : Stand p l e ({ frames := 0, cells := 0, slots := 0, locals := 0 } : Room) s m #[(.int p0)] below meth c T4 ls4 0 0) (e4 : T4.heap = h4) (N4 : Fr n0 ls4) (Z4 : n0 ≤ h4.size) (KP4 : h4 = h0)   , S_rmNlz_0 p0 f0 1 i nz = some out → own_End p e below s (T4.setTop (mkF m 33 #[wI i, wI nz] [])) (Q_rmNlz Z p0 out h0 n0) ({ frames := 0, cells := 0, slots := 0, locals := 0 } : Room).cells ({ frames := 0, cells := 0, slots := 0, locals := 0 } : Room).slots) ∧ (∀ (i : Int32) (nz : Int32) (T6 : State) (h6 : Heap) (ls6 : List Loc) (X6 : Stand p l e ({ frames := 0, cells := 0, slots := 0, locals := 0 } : Room) s m #[(.int p0)] below meth c T6 ls6 0 0) (e6 : T6.heap = h6) (N6 : Fr n0 ls6) (Z6 : n0 ≤ h6.size) (KP6 : h6 = h0)   , S_rmNlz_0 p0 f0 2 i nz = some out → own_End p e below s (T6.setTop (mkF m 48 #[wI i, wI nz] [])) (Q_rmNlz Z p0 out h0 n0) ({ frames := 0, cells := 0, slots := 0, locals := 0 } : Room).cells ({ frames := 0, cells := 0, slots := 0, locals := 0 } : Room).slots) ∧ (∀ (i : Int32) (nz : Int32) (T8 : State) (h8 : Heap) (ls8 : List Loc) (X8 : Stand p l e ({ frames := 0, cells := 0, slots := 0, locals := 0 } : Room) s m #[(.int p0)] below meth c T8 ls8 0 0) (e8 : T8.heap = h8) (N8 : Fr n0 ls8) (Z8 : n0 ≤ h8.size) (KP8 : h8 = h0)   , S_rmNlz_0 p0 f0 3 i nz = some out → own_End p e below s (T8.setTop (mkF m 61 #[wI i, wI nz] [])) (Q_rmNlz Z p0 out h0 n0) ({ frames := 0, cells := 0, slots := 0, locals := 0 } : Room).cells ({ frames := 0, cells := 0, slots := 0, locals := 0 } : Room).slots) ∧ (∀ (i : Int32) (nz : Int32) (T10 : State) (h10 : Heap) (ls10 : List Loc) (X10 : Stand p l e ({ frames := 0, cells := 0, slots := 0, locals := 0 } : Room) s m #[(.int p0)] below meth c T10 ls10 0 0) (e10 : T10.heap = h10) (N10 : Fr n0 ls10) (Z10 : n0 ≤ h10.size) (KP10 : h10 = h0)   , S_rmNlz_0 p0 f0 4 i nz = some out → own_End p e below s (T10.setTop (mkF m 73 #[wI i, wI nz] [])) (Q_rmNlz Z p0 out h0 n0) ({ frames := 0, cells := 0, slots := 0, locals := 0 } : Room).cells ({ frames := 0, cells := 0, slots := 0, locals := 0 } : Room).slots) := by
   intro f0
   induction f0 with
   | zero => refine ⟨?_, ?_, ?_, ?_, ?_⟩ <;> (intros; rename_i H; exact nomatch (show (none : Option (Int32)) = some _ from H))
   | succ f0 IH0 =>
    refine ⟨?_, ?_, ?_, ?_, ?_⟩
    ·skip
     intro i nz T2 h2 ls2 X2 e2 N2 Z2 KP2    H
     replace H := (S_rmNlz_0_0 _ _ _ _).symm.trans H
     show own_End p e below s (T2.setTop (mkF m 18 _ [])) _ _ _
     refine o_iloadN X2 hx hby e9_18.1 rfl ?_
     refine own_go (fun τ κ => X2.ldcWInt hx hown (mvT hZ (hW 46 rfl)) (g := (mkF m 19 #[wI i, wI nz] [(.int i)])) rfl (hb hby e9_18.2.1) _ κ) ?_
     show own_End p e below s (T2.setTop (mkF m 22 _ [(.int 65536), (.int i)])) _ _ _
     by_cases c22_3 : i.toInt < 65536
     ·skip
      replace H := own_ifp c22_3 H
      refine o_icmpYes X2 hx (pc0 := 22) (pc' := 33) rfl hby e9_18.2.2.1 (own_tlt (x := i) (y := 65536) (i := i.toInt) (j := 65536) rfl rfl c22_3).1 (by decide) (by decide) ?_
      exact IH0.2.1 i nz T2 h2 _ X2 e2 N2 Z2 KP2    H
     ·skip
      replace H := own_ifn c22_3 H
      refine o_icmpNo X2 hx hby e9_18.2.2.1 (own_flt (x := i) (y := 65536) (i := i.toInt) (j := 65536) rfl rfl c22_3).1 ?_
      refine o_iinc X2 hx hby e9_18.2.2.2.1 rfl (l' := #[wI i, wI (nz + (-16 : Int32))]) rfl ?_
      refine o_iloadN X2 hx hby e9_18.2.2.2.2 rfl ?_
      refine o_bipush X2 hx hby e9_29.1 (x := 16) rfl ?_
      refine o_iushr X2 hx hby e9_29.2.1 ?_
      refine o_istoreN X2 hx hby e9_29.2.2.1 (l' := #[wI ((i.toUInt32 >>> ((16 : Int32) &&& 31).toUInt32).toInt32), wI (nz + (-16 : Int32))]) rfl ?_
      exact IH0.2.1 ((i.toUInt32 >>> ((16 : Int32) &&& 31).toUInt32).toInt32) (nz + (-16 : Int32)) T2 h2 _ X2 e2 N2 Z2 KP2    H
    ·skip
     intro i nz T4 h4 ls4 X4 e4 N4 Z4 KP4    H
     replace H := (S_rmNlz_0_1 _ _ _ _).symm.trans H
     show own_End p e below s (T4.setTop (mkF m 33 _ [])) _ _ _
     refine o_iloadN X4 hx hby e9_29.2.2.2.1 rfl ?_
     refine own_go (fun τ κ => XS.sipush X4.here hx rfl (hb hby e9_29.2.2.2.2) κ) ?_
     show own_End p e below s (T4.setTop (mkF m 37 _ [(.int 256), (.int i)])) _ _ _
     by_cases c37_5 : i.toInt < 256
     ·skip
      replace H := own_ifp c37_5 H
      refine o_icmpYes X4 hx (pc0 := 37) (pc' := 48) rfl hby e9_37.1 (own_tlt (x := i) (y := 256) (i := i.toInt) (j := 256) rfl rfl c37_5).1 (by decide) (by decide) ?_
      exact IH0.2.2.1 i nz T4 h4 _ X4 e4 N4 Z4 KP4    H
     ·skip
      replace H := own_ifn c37_5 H
      refine o_icmpNo X4 hx hby e9_37.1 (own_flt (x := i) (y := 256) (i := i.toInt) (j := 256) rfl rfl c37_5).1 ?_
      refine o_iinc X4 hx hby e9_37.2.1 rfl (l' := #[wI i, wI (nz + (-8 : Int32))]) rfl ?_
      refine o_iloadN X4 hx hby e9_37.2.2.1 rfl ?_
      refine o_bipush X4 hx hby e9_37.2.2.2.1 (x := 8) rfl ?_
      refine o_iushr X4 hx hby e9_37.2.2.2.2 ?_
      refine o_istoreN X4 hx hby e9_47.1 (l' := #[wI ((i.toUInt32 >>> ((8 : Int32) &&& 31).toUInt32).toInt32), wI (nz + (-8 : Int32))]) rfl ?_
      exact IH0.2.2.1 ((i.toUInt32 >>> ((8 : Int32) &&& 31).toUInt32).toInt32) (nz + (-8 : Int32)) T4 h4 _ X4 e4 N4 Z4 KP4    H
    ·skip
     intro i nz T6 h6 ls6 X6 e6 N6 Z6 KP6    H
     replace H := (S_rmNlz_0_2 _ _ _ _).symm.trans H
     show own_End p e below s (T6.setTop (mkF m 48 _ [])) _ _ _
     refine o_iloadN X6 hx hby e9_47.2.1 rfl ?_
     refine o_bipush X6 hx hby e9_47.2.2.1 (x := 16) rfl ?_
     by_cases c51_7 : i.toInt < 16
     ·skip
      replace H := own_ifp c51_7 H
      refine o_icmpYes X6 hx (pc0 := 51) (pc' := 61) rfl hby e9_47.2.2.2.1 (own_tlt (x := i) (y := 16) (i := i.toInt) (j := 16) rfl rfl c51_7).1 (by decide) (by decide) ?_
      exact IH0.2.2.2.1 i nz T6 h6 _ X6 e6 N6 Z6 KP6    H
     ·skip
      replace H := own_ifn c51_7 H
      refine o_icmpNo X6 hx hby e9_47.2.2.2.1 (own_flt (x := i) (y := 16) (i := i.toInt) (j := 16) rfl rfl c51_7).1 ?_
      refine o_iinc X6 hx hby e9_47.2.2.2.2 rfl (l' := #[wI i, wI (nz + (-4 : Int32))]) rfl ?_
      refine o_iloadN X6 hx hby e9_57.1 rfl ?_
      refine o_iconst X6 hx hby e9_57.2.1 (x := 4) rfl ?_
      refine o_iushr X6 hx hby e9_57.2.2.1 ?_
      refine o_istoreN X6 hx hby e9_57.2.2.2.1 (l' := #[wI ((i.toUInt32 >>> ((4 : Int32) &&& 31).toUInt32).toInt32), wI (nz + (-4 : Int32))]) rfl ?_
      exact IH0.2.2.2.1 ((i.toUInt32 >>> ((4 : Int32) &&& 31).toUInt32).toInt32) (nz + (-4 : Int32)) T6 h6 _ X6 e6 N6 Z6 KP6    H
    ·skip
     intro i nz T8 h8 ls8 X8 e8 N8 Z8 KP8    H
     replace H := (S_rmNlz_0_3 _ _ _ _).symm.trans H
     show own_End p e below s (T8.setTop (mkF m 61 _ [])) _ _ _
     refine o_iloadN X8 hx hby e9_57.2.2.2.2 rfl ?_
     refine o_iconst X8 hx hby e9_62.1 (x := 4) rfl ?_
     by_cases c63_9 : i.toInt < 4
     ·skip
      replace H := own_ifp c63_9 H
      refine o_icmpYes X8 hx (pc0 := 63) (pc' := 73) rfl hby e9_62.2.1 (own_tlt (x := i) (y := 4) (i := i.toInt) (j := 4) rfl rfl c63_9).1 (by decide) (by decide) ?_
      exact IH0.2.2.2.2 i nz T8 h8 _ X8 e8 N8 Z8 KP8    H
     ·skip
      replace H := own_ifn c63_9 H
      refine o_icmpNo X8 hx hby e9_62.2.1 (own_flt (x := i) (y := 4) (i := i.toInt) (j := 4) rfl rfl c63_9).1 ?_
      refine o_iinc X8 hx hby e9_62.2.2.1 rfl (l' := #[wI i, wI (nz + (-2 : Int32))]) rfl ?_
      refine o_iloadN X8 hx hby e9_62.2.2.2.1 rfl ?_
      refine o_iconst X8 hx hby e9_62.2.2.2.2 (x := 2) rfl ?_
      refine o_iushr X8 hx hby e9_71.1 ?_
      refine o_istoreN X8 hx hby e9_71.2.1 (l' := #[wI ((i.toUInt32 >>> ((2 : Int32) &&& 31).toUInt32).toInt32), wI (nz + (-2 : Int32))]) rfl ?_
      exact IH0.2.2.2.2 ((i.toUInt32 >>> ((2 : Int32) &&& 31).toUInt32).toInt32) (nz + (-2 : Int32)) T8 h8 _ X8 e8 N8 Z8 KP8    H
    ·skip
     intro i nz T10 h10 ls10 X10 e10 N10 Z10 KP10    H
     replace H := (S_rmNlz_0_4 _ _ _ _).symm.trans H
     show own_End p e below s (T10.setTop (mkF m 73 _ [])) _ _ _
     refine o_iloadN X10 hx hby e9_71.2.2.1 rfl ?_
     refine o_iloadN X10 hx hby e9_71.2.2.2.1 rfl ?_
     refine o_iconst X10 hx hby e9_71.2.2.2.2 (x := 1) rfl ?_
     refine o_iushr X10 hx hby e9_76.1 ?_
     refine o_isub X10 hx hby e9_76.2.1 ?_
     obtain rfl := Option.some.inj H
     refine own_ret X10 (v := some (.int (nz - ((i.toUInt32 >>> ((1 : Int32) &&& 31).toUInt32).toInt32)))) (fun h => by rw [Bd.returns] at h; cases h) Bd.notSynchronized (fun fs hr => retI X10 hx Bd.returns (hb hby e9_76.2.2) hr) ?_ (by decide) (by decide)
     ·rw [e10]; exact ⟨rfl, N10, KP10⟩
  exact (J0 6).1 p0 (31 : Int32) s₁ h0 _ X0 e0 N0 Z0 rfl    H
 ·skip
  replace H := own_ifn c1_1 H
  refine o_ifNo X0 hx hby e9_0.2.1 ((if0 _ _).trans (own_flt (x := 0) (y := p0) (i := 0) (j := p0.toInt) rfl rfl c1_1).2.2.1) ?_
  refine o_iloadN X0 hx hby e9_0.2.2.1 rfl ?_
  by_cases c5_11 : p0.toInt = 0
  ·skip
   replace H := own_ifp c5_11 H
   refine o_ifNo X0 hx hby e9_0.2.2.2.1 ((if0 _ _).trans (own_eq (x := p0) (y := 0) (i := p0.toInt) (j := 0) rfl rfl c5_11).2) ?_
   refine o_bipush X0 hx hby e9_0.2.2.2.2 (x := 32) rfl ?_
   refine o_goto X0 hx (pc0 := 10) (pc' := 14) rfl hby e9_10.1 (by decide) (by decide) ?_
   obtain rfl := Option.some.inj H
   refine own_ret X0 (v := some (.int 32)) (fun h => by rw [Bd.returns] at h; cases h) Bd.notSynchronized (fun fs hr => retI X0 hx Bd.returns (hb hby e9_10.2.2.1) hr) ?_ (by decide) (by decide)
   ·rw [e0]; exact ⟨rfl, N0, rfl⟩
  ·skip
   replace H := own_ifn c5_11 H
   refine o_ifYes X0 hx (pc0 := 5) (pc' := 13) rfl hby e9_0.2.2.2.1 ((if0 _ _).trans (own_ne (x := p0) (y := 0) (i := p0.toInt) (j := 0) rfl rfl c5_11).2) (by decide) (by decide) ?_
   refine o_iconst X0 hx hby e9_10.2.1 (x := 0) rfl ?_
   obtain rfl := Option.some.inj H
   refine own_ret X0 (v := some (.int 0)) (fun h => by rw [Bd.returns] at h; cases h) Bd.notSynchronized (fun fs hr => retI X0 hx Bd.returns (hb hby e9_10.2.2.1) hr) ?_ (by decide) (by decide)
   ·rw [e0]; exact ⟨rfl, N0, rfl⟩
theorem own_ef29_rmHob (m : MethodId) (p0 : Int32) : entryFrame m #[(.int p0)] 1 = mkF m 0 #[.val (.int p0)] [] := by first | (simp [entryFrame, mkF, argsToLocals, Value.category]; done) | rfl
def Q_rmHob (Z : State) (p0 : Int32) (out : Int32) (h0 : Heap) (n0 : Nat) (v : Option Value) (h : Heap) (L : List Loc) : Prop := (v = some (.int out)) ∧ Fr n0 L ∧ h = h0
abbrev wc29 : ByteArray := jdk_33_method_45_code
theorem e29_0 : decode wc29 0 = .ok (.iload_n 0, 1) ∧ decode wc29 1 = .ok (.ldc 127, 2) ∧ decode wc29 3 = .ok (.iload_n 0, 1) ∧ decode wc29 4 = .ok (.invokestatic 51, 3) ∧ decode wc29 7 = .ok (.iushr, 1) := by decide +kernel
theorem own_pd2 : parseMethodDescriptor "(I)I" = some ⟨[.int], some .int⟩ := by decide +kernel
abbrev wy9 : MethodName := (⟨"java/lang/Integer", "numberOfLeadingZeros", "(I)I"⟩ : MethodName)
theorem e29_8 : decode wc29 8 = .ok (.iand, 1) ∧ decode wc29 9 = .ok (.ireturn, 1) := by decide +kernel
def F_rmHob (p0 : Int32) : Option (Int32) := (F_rmNlz p0).bind fun o1 => (some ((p0 &&& (((-2147483648 : Int32).toUInt32 >>> (o1 &&& 31).toUInt32).toInt32))))
set_option maxRecDepth 65536 in
set_option maxHeartbeats 40000000 in
theorem rmHob (l : Launch) (Z : State) (a0 : Array Value) (hw : ∀ d ∈ tables_1, d.before a0 Z = true) (ws : List Jvm.Cond) (p0 : Int32) (out : Int32) (h0 : Heap) (n0 : Nat) (Z0 : n0 ≤ h0.size) (hF : F_rmHob p0 = some out) :
  MetFree l (⟨"java/lang/Integer", "highestOneBit", "(I)I"⟩ : MethodName) (head1 (Jvm.Cond.code (⟨"java/lang/Integer", "highestOneBit", "(I)I"⟩ : MethodName) jdk_33_method_45_code 1 (some .int) :: ws) ({ frames := 1, cells := 0, slots := 0, locals := 15 } : Room)) (fun a U => a = #[(.int p0)] ∧ Z.Warmed39 U.vm ∧ U.heap = h0) (fun _ _ _ _ _ => True) (fun _ U o U' => ∃ v L, o = .returned v ∧ Q_rmHob Z p0 out h0 n0 v U'.heap L ∧ FrameEnd U o U' L ({ frames := 1, cells := 0, slots := 0, locals := 15 } : Room).cells ({ frames := 1, cells := 0, slots := 0, locals := 15 } : Room).slots) := by
 refine MetFree.of_bodySF (plainFor_of_name own_pn2) hisR ?_
 intro p e s m args below meth c s₁ Bd hml0 hP hK
 obtain ⟨rfl, hZ, hh⟩ := hP
 have hW := @own_hW a0 Z hw
 have hx := Bd.exec
 have hby := Bd.bytes
 have hml : c.maxLocals = 1 := hml0
 have hown : s.vm.findClass "java/lang/Integer" = some m.cls := findClass_of_methodNamed Bd.named
 have hnm := (name_of_methodNamed Bd.named Bd.method).1
 have X0 : Stand p l e ({ frames := 1, cells := 0, slots := 0, locals := 15 } : Room) s m #[(.int p0)] below meth c s₁ [] 0 0 := Stand.of_body Bd
 have e0 : s₁.heap = h0 := by rw [← hh, Bd.state]; rfl
 have N0 := Fr.nil n0
 refine (show own_End p e below s (s₁.setTop (entryFrame m #[(.int p0)] 1)) (Q_rmHob Z p0 out h0 n0) ({ frames := 1, cells := 0, slots := 0, locals := 15 } : Room).cells ({ frames := 1, cells := 0, slots := 0, locals := 15 } : Room).slots from ?_)
 refine own_go (fun τ κ => castTop (own_ef29_rmHob m p0) κ) ?_
 have li0 : (0 : Int32).toInt = 0 := rfl
 have li1 : (1 : Int32).toInt = 1 := rfl
 show own_End p e below s (s₁.setTop (mkF m 0 #[wI p0] [])) _ _ _
 have H := hF
 refine o_iloadN X0 hx hby e29_0.1 rfl ?_
 refine own_go (fun τ κ => X0.ldcInt hx hown (mvT hZ (hW 159 rfl)) (g := (mkF m 1 #[wI p0] [(.int p0)])) rfl (hb hby e29_0.2.1) _ κ) ?_
 show own_End p e below s (s₁.setTop (mkF m 3 _ [(.int (-2147483648)), (.int p0)])) _ _ _
 refine o_iloadN X0 hx hby e29_0.2.2.1 rfl ?_
 obtain ⟨o1, ho1, H⟩ := own_bnd H
 refine o_cS X0 hx hZ hown (y := wy9) (hW 160 rfl) (hW 43 rfl) (hW 44 rfl) (hW 45 rfl) (by decide) (backOf (W := 2) (rmNlz l Z a0 hw [] p0 o1 h0 n0 Z0 ho1) hZ (hW 45 rfl) (hW 44 rfl) (by decide) (by decide)) (by rw [hml]; rfl) (argsL := [(.int p0)]) (rest := [(.int (-2147483648)), (.int p0)]) (lenOf own_pd2 rfl) rfl rfl (Nat.le_of_eq rfl) e0 (by decide) (by decide) hby e29_0.2.2.2.1 N0 fun T2 v2 Lc2 ls2 X2 hQ2 nq2 => ?_
 obtain ⟨rfl, N2q, e2⟩ := hQ2
 have N2 := nq2 N2q
 show own_End p e below s (T2.setTop (mkF m 7 _ [(.int o1), (.int (-2147483648)), (.int p0)])) _ _ _
 refine o_iushr X2 hx hby e29_0.2.2.2.2 ?_
 refine o_iand X2 hx hby e29_8.1 ?_
 obtain rfl := Option.some.inj H
 refine own_ret X2 (v := some (.int (p0 &&& (((-2147483648 : Int32).toUInt32 >>> (o1 &&& 31).toUInt32).toInt32)))) (fun h => by rw [Bd.returns] at h; cases h) Bd.notSynchronized (fun fs hr => retI X2 hx Bd.returns (hb hby e29_8.2) hr) ?_ (by decide) (by decide)
 ·rw [e2]; exact ⟨rfl, N2, rfl⟩
theorem own_ef31_rmMark (m : MethodId) (o0 : Addr) (p1 : Int32) : entryFrame m #[(.ref o0), (.int p1), (.int 1)] 4 = mkF m 0 #[.val (.ref o0), .val (.int p1), .val (.int 1), .unset] [] := by first | (simp [entryFrame, mkF, argsToLocals, Value.category]; done) | rfl
def Q_rmMark (Z : State) (o0 : Addr) (p1 : Int32) (fl : Int32) (ma : Addr) (km : ClassId) (nm : Int32) (M : List Int32) (pa : Addr) (kp : ClassId) (wc : Int32) (Pl : List Int32) (la : Addr) (kl : ClassId) (La : List Int32) (out : List Int32) (h0 : Heap) (n0 : Nat) (v : Option Value) (h : Heap) (L : List Loc) : Prop := (v = none ∧ own_AI Z h ma km nm out) ∧ Fr n0 L ∧ Keep h0 h [ma]
abbrev wc31 : ByteArray := prog_23_method_5_code
theorem e31_0 : decode wc31 0 = .ok (.aload_n 0, 1) ∧ decode wc31 1 = .ok (.getfield 74, 3) ∧ decode wc31 4 = .ok (.aload_n 0, 1) ∧ decode wc31 5 = .ok (.getfield 52, 3) ∧ decode wc31 8 = .ok (.iload_n 1, 1) := by decide +kernel
theorem e31_9 : decode wc31 9 = .ok (.iaload, 1) ∧ decode wc31 10 = .ok (.iadd, 1) ∧ decode wc31 11 = .ok (.istore_n 3, 1) ∧ decode wc31 12 = .ok (.aload_n 0, 1) ∧ decode wc31 13 = .ok (.getfield 77, 3) := by decide +kernel
theorem e31_16 : decode wc31 16 = .ok (.iload_n 3, 1) ∧ decode wc31 17 = .ok (.iload_n 2, 1) ∧ decode wc31 18 = .ok (.ifCond .eq 12, 3) ∧ decode wc31 21 = .ok (.aload_n 0, 1) ∧ decode wc31 22 = .ok (.getfield 55, 3) := by decide +kernel
theorem e31_25 : decode wc31 25 = .ok (.iload_n 1, 1) ∧ decode wc31 26 = .ok (.iaload, 1) ∧ decode wc31 27 = .ok (.goto 4, 3) ∧ decode wc31 31 = .ok (.iastore, 1) ∧ decode wc31 32 = .ok (.iload_n 3, 1) := by decide +kernel
theorem e31_33 : decode wc31 33 = .ok (.iconst 2, 1) ∧ decode wc31 34 = .ok (.idiv, 1) ∧ decode wc31 35 = .ok (.istore_n 3, 1) ∧ decode wc31 36 = .ok (.iload_n 3, 1) ∧ decode wc31 37 = .ok (.ifCond .le 37, 3) := by decide +kernel
theorem e31_40 : decode wc31 40 = .ok (.aload_n 0, 1) ∧ decode wc31 41 = .ok (.getfield 77, 3) ∧ decode wc31 44 = .ok (.iload_n 3, 1) ∧ decode wc31 45 = .ok (.aload_n 0, 1) ∧ decode wc31 46 = .ok (.getfield 77, 3) := by decide +kernel
theorem e31_49 : decode wc31 49 = .ok (.iconst 2, 1) ∧ decode wc31 50 = .ok (.iload_n 3, 1) ∧ decode wc31 51 = .ok (.imul, 1) ∧ decode wc31 52 = .ok (.iaload, 1) ∧ decode wc31 53 = .ok (.aload_n 0, 1) := by decide +kernel
theorem e31_54 : decode wc31 54 = .ok (.getfield 77, 3) ∧ decode wc31 57 = .ok (.iconst 2, 1) ∧ decode wc31 58 = .ok (.iload_n 3, 1) ∧ decode wc31 59 = .ok (.imul, 1) ∧ decode wc31 60 = .ok (.iconst 1, 1) := by decide +kernel
theorem e31_61 : decode wc31 61 = .ok (.iadd, 1) ∧ decode wc31 62 = .ok (.iaload, 1) ∧ decode wc31 63 = .ok (.invokestatic 65, 3) ∧ decode wc31 66 = .ok (.iastore, 1) ∧ decode wc31 67 = .ok (.iload_n 3, 1) := by decide +kernel
abbrev wy28 : MethodName := (⟨"java/lang/Math", "max", "(II)I"⟩ : MethodName)
theorem e31_68 : decode wc31 68 = .ok (.iconst 2, 1) ∧ decode wc31 69 = .ok (.idiv, 1) ∧ decode wc31 70 = .ok (.istore_n 3, 1) ∧ decode wc31 71 = .ok (.goto (-35), 3) ∧ decode wc31 74 = .ok (.return_, 1) := by decide +kernel
def S_rmMark_0 (p1 : Int32) (fl : Int32) (Pl : List Int32) (La : List Int32) : Nat → Nat → Int32 → List Int32 → Option (List Int32)
 | 0, _, _, _ => none
 | f0 + 1, _, nd, M => (if 0 < nd.toInt then (own_get M ((2 : Int32) * nd)).bind fun v14 => ((own_get M (((2 : Int32) * nd) + (1 : Int32))).bind fun v16 => ((own_set M nd (if v14.toInt < v16.toInt then v16 else v14)).bind fun L18' => (S_rmMark_0 p1 fl Pl La f0 0 (nd / (2 : Int32)) L18'))) else some (M))
theorem S_rmMark_0_0 (p1 : Int32) (fl : Int32) (Pl : List Int32) (La : List Int32) (f0 : Nat) (nd : Int32) (M : List Int32) : S_rmMark_0 p1 fl Pl La (f0 + 1) 0 nd M = (if 0 < nd.toInt then (own_get M ((2 : Int32) * nd)).bind fun v14 => ((own_get M (((2 : Int32) * nd) + (1 : Int32))).bind fun v16 => ((own_set M nd (if v14.toInt < v16.toInt then v16 else v14)).bind fun L18' => (S_rmMark_0 p1 fl Pl La f0 0 (nd / (2 : Int32)) L18'))) else some (M)) := rfl
def F_rmMark (p1 : Int32) (fl : Int32) (Pl : List Int32) (La : List Int32) (M : List Int32) : Option (List Int32) := (own_get Pl p1).bind fun v3 => ((own_get La p1).bind fun v6 => ((own_set M (fl + v3) v6).bind fun L7' => (S_rmMark_0 p1 fl Pl La 8 0 ((fl + v3) / (2 : Int32)) L7')))
set_option maxRecDepth 65536 in
set_option maxHeartbeats 40000000 in
theorem rmMark (l : Launch) (Z : State) (a0 : Array Value) (hw : ∀ d ∈ tables_1, d.before a0 Z = true) (ws : List Jvm.Cond) (o0 : Addr) (p1 : Int32) (fl : Int32) (ma : Addr) (km : ClassId) (nm : Int32) (M : List Int32) (pa : Addr) (kp : ClassId) (wc : Int32) (Pl : List Int32) (la : Addr) (kl : ClassId) (La : List Int32) (out : List Int32) (h0 : Heap) (n0 : Nat) (Z0 : n0 ≤ h0.size) (E_o0 : Exa Z h0 o0 "com/example/portero/portero/matching/SegmentAutomaton") (F_o0_firstLeaf : Fld Z h0 o0 "com/example/portero/portero/matching/SegmentAutomaton" "firstLeaf" "I" (.int fl)) (F_o0_marks : Fld Z h0 o0 "com/example/portero/portero/matching/SegmentAutomaton" "marks" "[I" (.ref ma)) (V_ma : own_AI Z h0 ma km nm M) (F_o0_places : Fld Z h0 o0 "com/example/portero/portero/matching/SegmentAutomaton" "places" "[I" (.ref pa)) (V_pa : own_AI Z h0 pa kp wc Pl) (F_o0_lastPlaces : Fld Z h0 o0 "com/example/portero/portero/matching/SegmentAutomaton" "lastPlaces" "[I" (.ref la)) (V_la : own_AI Z h0 la kl wc La) (g_ma : n0 ≤ ma) (ne_ma_o0 : ma ≠ o0) (ne_ma_pa : ma ≠ pa) (ne_ma_la : ma ≠ la) (hF : F_rmMark p1 fl Pl La M = some out) :
  MetFree l (⟨"com/example/portero/portero/matching/SegmentAutomaton", "mark", "(IZ)V"⟩ : MethodName) (head1 (Jvm.Cond.code (⟨"com/example/portero/portero/matching/SegmentAutomaton", "mark", "(IZ)V"⟩ : MethodName) prog_23_method_5_code 4 none :: ws) ({ frames := 1, cells := 0, slots := 0, locals := 15 } : Room)) (fun a U => a = #[(.ref o0), (.int p1), (.int 1)] ∧ Z.Warmed39 U.vm ∧ U.heap = h0) (fun _ _ _ _ _ => True) (fun _ U o U' => ∃ v L, o = .returned v ∧ Q_rmMark Z o0 p1 fl ma km nm M pa kp wc Pl la kl La out h0 n0 v U'.heap L ∧ FrameEnd U o U' L ({ frames := 1, cells := 0, slots := 0, locals := 15 } : Room).cells ({ frames := 1, cells := 0, slots := 0, locals := 15 } : Room).slots) := by
 refine MetFree.of_bodySF (plainFor_of_name own_pn0) hisR ?_
 intro p e s m args below meth c s₁ Bd hml0 hP hK
 obtain ⟨rfl, hZ, hh⟩ := hP
 have hW := @own_hW a0 Z hw
 have hx := Bd.exec
 have hby := Bd.bytes
 have hml : c.maxLocals = 4 := hml0
 have hown : s.vm.findClass "com/example/portero/portero/matching/SegmentAutomaton" = some m.cls := findClass_of_methodNamed Bd.named
 have hnm := (name_of_methodNamed Bd.named Bd.method).1
 have X0 : Stand p l e ({ frames := 1, cells := 0, slots := 0, locals := 15 } : Room) s m #[(.ref o0), (.int p1), (.int 1)] below meth c s₁ [] 0 0 := Stand.of_body Bd
 have e0 : s₁.heap = h0 := by rw [← hh, Bd.state]; rfl
 have N0 := Fr.nil n0
 refine (show own_End p e below s (s₁.setTop (entryFrame m #[(.ref o0), (.int p1), (.int 1)] 4)) (Q_rmMark Z o0 p1 fl ma km nm M pa kp wc Pl la kl La out h0 n0) ({ frames := 1, cells := 0, slots := 0, locals := 15 } : Room).cells ({ frames := 1, cells := 0, slots := 0, locals := 15 } : Room).slots from ?_)
 refine own_go (fun τ κ => castTop (own_ef31_rmMark m o0 p1) κ) ?_
 have li0 : (0 : Int32).toInt = 0 := rfl
 have li1 : (1 : Int32).toInt = 1 := rfl
 show own_End p e below s (s₁.setTop (mkF m 0 #[wR o0, wI p1, wI 1, wU] [])) _ _ _
 have H := hF
 refine o_aloadN X0 hx hby e31_0.1 rfl ?_
 refine o_getF X0 hx hZ hown (host := "") (Or.inl (hW 161 rfl)) Via.refl e0 F_o0_firstLeaf hby e31_0.2.1 fun T1 X1 e1 => ?_
 refine o_aloadN X1 hx hby e31_0.2.2.1 rfl ?_
 refine o_getF X1 hx hZ hown (host := "") (Or.inl (hW 139 rfl)) Via.refl e1 F_o0_places hby e31_0.2.2.2.1 fun T2 X2 e2 => ?_
 refine o_iloadN X2 hx hby e31_0.2.2.2.2 rfl ?_
 obtain ⟨v3, hv3, H⟩ := own_bnd H
 refine o_ldI X2 hx hZ e2 V_pa hv3 hby e31_9.1 ?_
 refine o_iadd X2 hx hby e31_9.2.1 ?_
 refine o_istoreN X2 hx hby e31_9.2.2.1 (l' := #[wR o0, wI p1, wI 1, wI (fl + v3)]) rfl ?_
 refine o_aloadN X2 hx hby e31_9.2.2.2.1 rfl ?_
 refine o_getF X2 hx hZ hown (host := "") (Or.inl (hW 163 rfl)) Via.refl e2 F_o0_marks hby e31_9.2.2.2.2 fun T4 X4 e4 => ?_
 refine o_iloadN X4 hx hby e31_16.1 rfl ?_
 refine o_iloadN X4 hx hby e31_16.2.1 rfl ?_
 refine o_ifNo X4 hx hby e31_16.2.2.1 ((if0 _ _).trans (own_ne (x := 1) (y := 0) (i := 1) (j := 0) rfl rfl (by decide)).1) ?_
 refine o_aloadN X4 hx hby e31_16.2.2.2.1 rfl ?_
 refine o_getF X4 hx hZ hown (host := "") (Or.inl (hW 141 rfl)) Via.refl e4 F_o0_lastPlaces hby e31_16.2.2.2.2 fun T5 X5 e5 => ?_
 refine o_iloadN X5 hx hby e31_25.1 rfl ?_
 obtain ⟨v6, hv6, H⟩ := own_bnd H
 refine o_ldI X5 hx hZ e5 V_la hv6 hby e31_25.2.1 ?_
 refine o_goto X5 hx (pc0 := 27) (pc' := 31) rfl hby e31_25.2.2.1 (by decide) (by decide) ?_
 obtain ⟨L7', hs7, H⟩ := own_bnd H
 refine o_stI X5 hx hZ e5 V_ma hs7 N0 g_ma hby e31_25.2.2.2.1 fun T8 h8 ls8 X8 e8 W8 V_ma_8 N8 => ?_
 have Z8 := Nat.le_trans Z0 (Keep.of_wr W8).1
 have KP8 := (Keep.refl h0 [ma]).wr W8 (Or.inl (List.mem_of_getElem? (i := 0) rfl))
 refine o_iloadN X8 hx hby e31_25.2.2.2.2 rfl ?_
 refine o_iconst X8 hx hby e31_33.1 (x := 2) rfl ?_
 refine own_go (fun τ κ => XS.idiv X8.here hx rfl (hb hby e31_33.2.1) rfl (by decide) κ) ?_
 show own_End p e below s (T8.setTop (mkF m 35 _ [(.int ((fl + v3) / (2 : Int32)))])) _ _ _
 refine o_istoreN X8 hx hby e31_33.2.2.1 (l' := #[wR o0, wI p1, wI 1, wI ((fl + v3) / (2 : Int32))]) rfl ?_
 obtain ⟨IV9, hIV9⟩ : ∃ I : Heap → List Int32 → Prop, ∀ (hh : Heap) (M : List Int32), I hh M ↔ (Exa Z hh o0 "com/example/portero/portero/matching/SegmentAutomaton" ∧ Fld Z hh o0 "com/example/portero/portero/matching/SegmentAutomaton" "firstLeaf" "I" (.int fl) ∧ Fld Z hh o0 "com/example/portero/portero/matching/SegmentAutomaton" "marks" "[I" (.ref ma) ∧ Fld Z hh o0 "com/example/portero/portero/matching/SegmentAutomaton" "places" "[I" (.ref pa) ∧ own_AI Z hh pa kp wc Pl ∧ Fld Z hh o0 "com/example/portero/portero/matching/SegmentAutomaton" "lastPlaces" "[I" (.ref la) ∧ own_AI Z hh la kl wc La ∧ own_AI Z hh ma km nm M) := ⟨_, fun _ _ => Iff.rfl⟩
 have J0 : ∀ f0 : Nat, (∀ (nd : Int32) (M : List Int32) (T10 : State) (h10 : Heap) (ls10 : List Loc) (X10 : Stand p l e ({ frames := 1, cells := 0, slots := 0, locals := 15 } : Room) s m #[(.ref o0), (.int p1), (.int 1)] below meth c T10 ls10 0 0) (e10 : T10.heap = h10) (N10 : Fr n0 ls10) (Z10 : n0 ≤ h10.size) (KP10 : Keep h0 h10 [ma]) (FF10 : IV9 h10 M)  , S_rmMark_0 p1 fl Pl La f0 0 nd M = some out → own_End p e below s (T10.setTop (mkF m 36 #[wR o0, wI p1, wI 1, wI nd] [])) (Q_rmMark Z o0 p1 fl ma km nm M pa kp wc Pl la kl La out h0 n0) ({ frames := 1, cells := 0, slots := 0, locals := 15 } : Room).cells ({ frames := 1, cells := 0, slots := 0, locals := 15 } : Room).slots) := by
  intro f0
  induction f0 with
  | zero => (intros; rename_i H; exact nomatch (show (none : Option (List Int32)) = some _ from H))
  | succ f0 IH0 =>
   intro nd M T10 h10 ls10 X10 e10 N10 Z10 KP10 FF10   H
   obtain ⟨Fa10_0, Fa10_1, Fa10_2, Fa10_3, Fa10_4, Fa10_5, Fa10_6, Fa10_7⟩ := (hIV9 _ _).mp FF10
   replace H := (S_rmMark_0_0 _ _ _ _ _ _ _).symm.trans H
   show own_End p e below s (T10.setTop (mkF m 36 _ [])) _ _ _
   refine o_iloadN X10 hx hby e31_33.2.2.2.1 rfl ?_
   by_cases c37_11 : 0 < nd.toInt
   ·skip
    replace H := own_ifp c37_11 H
    refine o_ifNo X10 hx hby e31_33.2.2.2.2 ((if0 _ _).trans (own_tlt (x := 0) (y := nd) (i := 0) (j := nd.toInt) rfl rfl c37_11).2.2.2) ?_
    refine o_aloadN X10 hx hby e31_40.1 rfl ?_
    refine o_getF X10 hx hZ hown (host := "") (Or.inl (hW 163 rfl)) Via.refl e10 Fa10_2 hby e31_40.2.1 fun T12 X12 e12 => ?_
    refine o_iloadN X12 hx hby e31_40.2.2.1 rfl ?_
    refine o_aloadN X12 hx hby e31_40.2.2.2.1 rfl ?_
    refine o_getF X12 hx hZ hown (host := "") (Or.inl (hW 163 rfl)) Via.refl e12 Fa10_2 hby e31_40.2.2.2.2 fun T13 X13 e13 => ?_
    refine o_iconst X13 hx hby e31_49.1 (x := 2) rfl ?_
    refine o_iloadN X13 hx hby e31_49.2.1 rfl ?_
    refine o_imul X13 hx hby e31_49.2.2.1 ?_
    obtain ⟨v14, hv14, H⟩ := own_bnd H
    refine o_ldI X13 hx hZ e13 Fa10_7 hv14 hby e31_49.2.2.2.1 ?_
    refine o_aloadN X13 hx hby e31_49.2.2.2.2 rfl ?_
    refine o_getF X13 hx hZ hown (host := "") (Or.inl (hW 163 rfl)) Via.refl e13 Fa10_2 hby e31_54.1 fun T15 X15 e15 => ?_
    refine o_iconst X15 hx hby e31_54.2.1 (x := 2) rfl ?_
    refine o_iloadN X15 hx hby e31_54.2.2.1 rfl ?_
    refine o_imul X15 hx hby e31_54.2.2.2.1 ?_
    refine o_iconst X15 hx hby e31_54.2.2.2.2 (x := 1) rfl ?_
    refine o_iadd X15 hx hby e31_61.1 ?_
    obtain ⟨v16, hv16, H⟩ := own_bnd H
    refine o_ldI X15 hx hZ e15 Fa10_7 hv16 hby e31_61.2.1 ?_
    refine o_cS X15 hx hZ hown (y := wy28) (hW 152 rfl) (hW 153 rfl) (hW 154 rfl) (hW 155 rfl) (by decide) (backOf (W := 2) (rmMax l Z a0 hw [] v14 v16 h10 n0 Z10 ) hZ (hW 155 rfl) (hW 154 rfl) (by decide) (by decide)) (by rw [hml]; rfl) (argsL := [(.int v14), (.int v16)]) (rest := [(.int nd), (.ref ma)]) (lenOf own_pd1 rfl) rfl rfl (Nat.le_of_eq rfl) e15 (by decide) (by decide) hby e31_61.2.2.1 N10 fun T17 v17 Lc17 ls17 X17 hQ17 nq17 => ?_
    obtain ⟨rfl, N17q, e17⟩ := hQ17
    have N17 := nq17 N17q
    show own_End p e below s (T17.setTop (mkF m 66 _ [(.int (if v14.toInt < v16.toInt then v16 else v14)), (.int nd), (.ref ma)])) _ _ _
    obtain ⟨L18', hs18, H⟩ := own_bnd H
    refine o_stI X17 hx hZ e17 Fa10_7 hs18 N17 g_ma hby e31_61.2.2.2.1 fun T19 h19 ls19 X19 e19 W19 V_ma_19 N19 => ?_
    have Z19 := Nat.le_trans Z10 (Keep.of_wr W19).1
    have KP19 := KP10.wr W19 (Or.inl (List.mem_of_getElem? (i := 0) rfl))
    refine o_iloadN X19 hx hby e31_61.2.2.2.2 rfl ?_
    refine o_iconst X19 hx hby e31_68.1 (x := 2) rfl ?_
    refine own_go (fun τ κ => XS.idiv X19.here hx rfl (hb hby e31_68.2.1) rfl (by decide) κ) ?_
    show own_End p e below s (T19.setTop (mkF m 70 _ [(.int (nd / (2 : Int32)))])) _ _ _
    refine o_istoreN X19 hx hby e31_68.2.2.1 (l' := #[wR o0, wI p1, wI 1, wI (nd / (2 : Int32))]) rfl ?_
    refine o_goto X19 hx (pc0 := 71) (pc' := 36) rfl hby e31_68.2.2.2.1 (by decide) (by decide) ?_
    have U20 := (Fa10_0.wr W19)
    have U21 := (Fa10_1.other W19 (Or.inl (Ne.symm ne_ma_o0)))
    have U22 := (Fa10_2.other W19 (Or.inl (Ne.symm ne_ma_o0)))
    have U23 := (Fa10_3.other W19 (Or.inl (Ne.symm ne_ma_o0)))
    have U24 := (Fa10_4.other W19 (Ne.symm ne_ma_pa))
    have U25 := (Fa10_5.other W19 (Or.inl (Ne.symm ne_ma_o0)))
    have U26 := (Fa10_6.other W19 (Ne.symm ne_ma_la))
    exact IH0 (nd / (2 : Int32)) L18' T19 h19 _ X19 e19 N19 Z19 KP19 ((hIV9 _ _).mpr ⟨U20, U21, U22, U23, U24, U25, U26, V_ma_19⟩)   H
   ·skip
    replace H := own_ifn c37_11 H
    refine o_ifYes X10 hx (pc0 := 37) (pc' := 74) rfl hby e31_33.2.2.2.2 ((if0 _ _).trans (own_flt (x := 0) (y := nd) (i := 0) (j := nd.toInt) rfl rfl c37_11).2.2.2) (by decide) (by decide) ?_
    obtain rfl := Option.some.inj H
    refine own_ret X10 (v := none) (fun _ => rfl) Bd.notSynchronized (fun fs hr => X10.returnOut hx Bd.returns (hb hby e31_68.2.2.2.2) hr) ?_ (by decide) (by decide)
    ·rw [e10]; exact ⟨⟨rfl, Fa10_7⟩, N10, KP10⟩
 have U27 := (E_o0.wr W8)
 have U28 := (F_o0_firstLeaf.other W8 (Or.inl (Ne.symm ne_ma_o0)))
 have U29 := (F_o0_marks.other W8 (Or.inl (Ne.symm ne_ma_o0)))
 have U30 := (F_o0_places.other W8 (Or.inl (Ne.symm ne_ma_o0)))
 have U31 := (V_pa.other W8 (Ne.symm ne_ma_pa))
 have U32 := (F_o0_lastPlaces.other W8 (Or.inl (Ne.symm ne_ma_o0)))
 have U33 := (V_la.other W8 (Ne.symm ne_ma_la))
 exact (J0 8) ((fl + v3) / (2 : Int32)) L7' T8 h8 _ X8 e8 N8 Z8 KP8 ((hIV9 _ _).mpr ⟨U27, U28, U29, U30, U31, U32, U33, V_ma_8⟩)   H
theorem own_ef37_rmLM0 (m : MethodId) (o0 : Addr) (p1 : Int32) (p2 : Int32) (p3 : Int32) (p4 : Int32) (p5 : Int32) : entryFrame m #[(.ref o0), (.int p1), (.int p2), (.int p3), (.int p4), (.int p5)] 8 = mkF m 0 #[.val (.ref o0), .val (.int p1), .val (.int p2), .val (.int p3), .val (.int p4), .val (.int p5), .unset, .unset] [] := by first | (simp [entryFrame, mkF, argsToLocals, Value.category]; done) | rfl
def Q_rmLM0 (Z : State) (o0 : Addr) (p1 : Int32) (p2 : Int32) (p3 : Int32) (p4 : Int32) (p5 : Int32) (ma : Addr) (km : ClassId) (nm : Int32) (M : List Int32) (out : Int32) (h0 : Heap) (n0 : Nat) (v : Option Value) (h : Heap) (L : List Loc) : Prop := (v = some (.int out)) ∧ Fr n0 L ∧ h = h0
abbrev wc37 : ByteArray := prog_23_method_11_code
theorem e37_0 : decode wc37 0 = .ok (.iload_n 2, 1) ∧ decode wc37 1 = .ok (.iload 4, 2) ∧ decode wc37 3 = .ok (.if_icmp .gt 14, 3) ∧ decode wc37 6 = .ok (.aload_n 0, 1) ∧ decode wc37 7 = .ok (.getfield 77, 3) := by decide +kernel
theorem e37_10 : decode wc37 10 = .ok (.iload_n 1, 1) ∧ decode wc37 11 = .ok (.iaload, 1) ∧ decode wc37 12 = .ok (.iload 5, 2) ∧ decode wc37 14 = .ok (.if_icmp .ge 5, 3) ∧ decode wc37 17 = .ok (.iconst (-1), 1) := by decide +kernel
theorem e37_18 : decode wc37 18 = .ok (.ireturn, 1) ∧ decode wc37 19 = .ok (.iload_n 2, 1) ∧ decode wc37 20 = .ok (.iload_n 3, 1) ∧ decode wc37 21 = .ok (.if_icmp .ne 5, 3) ∧ decode wc37 24 = .ok (.iload_n 2, 1) := by decide +kernel
theorem e37_25 : decode wc37 25 = .ok (.ireturn, 1) ∧ decode wc37 26 = .ok (.iload_n 2, 1) ∧ decode wc37 27 = .ok (.iload_n 3, 1) ∧ decode wc37 28 = .ok (.iadd, 1) ∧ decode wc37 29 = .ok (.iconst 1, 1) := by decide +kernel
theorem e37_30 : decode wc37 30 = .ok (.iushr, 1) ∧ decode wc37 31 = .ok (.istore 6, 2) ∧ decode wc37 33 = .ok (.aload_n 0, 1) ∧ decode wc37 34 = .ok (.iconst 2, 1) ∧ decode wc37 35 = .ok (.iload_n 1, 1) := by decide +kernel
theorem e37_36 : decode wc37 36 = .ok (.imul, 1) ∧ decode wc37 37 = .ok (.iconst 1, 1) ∧ decode wc37 38 = .ok (.iadd, 1) ∧ decode wc37 39 = .ok (.iload 6, 2) ∧ decode wc37 41 = .ok (.iconst 1, 1) := by decide +kernel
theorem e37_42 : decode wc37 42 = .ok (.iadd, 1) ∧ decode wc37 43 = .ok (.iload_n 3, 1) ∧ decode wc37 44 = .ok (.iload 4, 2) ∧ decode wc37 46 = .ok (.iload 5, 2) := by decide +kernel
def F_rmLM0 (p1 : Int32) (p2 : Int32) (p3 : Int32) (p4 : Int32) (p5 : Int32) (M : List Int32) : Option (Int32) := (if p4.toInt < p2.toInt then some ((-1 : Int32)) else (own_get M p1).bind fun v3 => ((if v3.toInt < p5.toInt then some ((-1 : Int32)) else (if p2.toInt = p3.toInt then some (p2) else none))))
set_option maxRecDepth 65536 in
set_option maxHeartbeats 40000000 in
theorem rmLM0 (l : Launch) (Z : State) (a0 : Array Value) (hw : ∀ d ∈ tables_1, d.before a0 Z = true) (ws : List Jvm.Cond) (o0 : Addr) (p1 : Int32) (p2 : Int32) (p3 : Int32) (p4 : Int32) (p5 : Int32) (ma : Addr) (km : ClassId) (nm : Int32) (M : List Int32) (out : Int32) (h0 : Heap) (n0 : Nat) (Z0 : n0 ≤ h0.size) (E_o0 : Exa Z h0 o0 "com/example/portero/portero/matching/SegmentAutomaton") (F_o0_marks : Fld Z h0 o0 "com/example/portero/portero/matching/SegmentAutomaton" "marks" "[I" (.ref ma)) (V_ma : own_AI Z h0 ma km nm M) (hF : F_rmLM0 p1 p2 p3 p4 p5 M = some out) :
  MetFree l (⟨"com/example/portero/portero/matching/SegmentAutomaton", "latestMarked", "(IIIII)I"⟩ : MethodName) (head1 (Jvm.Cond.code (⟨"com/example/portero/portero/matching/SegmentAutomaton", "latestMarked", "(IIIII)I"⟩ : MethodName) prog_23_method_11_code 8 (some .int) :: ws) ({ frames := 0, cells := 0, slots := 0, locals := 0 } : Room)) (fun a U => a = #[(.ref o0), (.int p1), (.int p2), (.int p3), (.int p4), (.int p5)] ∧ Z.Warmed39 U.vm ∧ U.heap = h0) (fun _ _ _ _ _ => True) (fun _ U o U' => ∃ v L, o = .returned v ∧ Q_rmLM0 Z o0 p1 p2 p3 p4 p5 ma km nm M out h0 n0 v U'.heap L ∧ FrameEnd U o U' L ({ frames := 0, cells := 0, slots := 0, locals := 0 } : Room).cells ({ frames := 0, cells := 0, slots := 0, locals := 0 } : Room).slots) := by
 refine MetFree.of_bodySF (plainFor_of_name own_pn0) hisR ?_
 intro p e s m args below meth c s₁ Bd hml0 hP hK
 obtain ⟨rfl, hZ, hh⟩ := hP
 have hW := @own_hW a0 Z hw
 have hx := Bd.exec
 have hby := Bd.bytes
 have hml : c.maxLocals = 8 := hml0
 have hown : s.vm.findClass "com/example/portero/portero/matching/SegmentAutomaton" = some m.cls := findClass_of_methodNamed Bd.named
 have hnm := (name_of_methodNamed Bd.named Bd.method).1
 have X0 : Stand p l e ({ frames := 0, cells := 0, slots := 0, locals := 0 } : Room) s m #[(.ref o0), (.int p1), (.int p2), (.int p3), (.int p4), (.int p5)] below meth c s₁ [] 0 0 := Stand.of_body Bd
 have e0 : s₁.heap = h0 := by rw [← hh, Bd.state]; rfl
 have N0 := Fr.nil n0
 refine (show own_End p e below s (s₁.setTop (entryFrame m #[(.ref o0), (.int p1), (.int p2), (.int p3), (.int p4), (.int p5)] 8)) (Q_rmLM0 Z o0 p1 p2 p3 p4 p5 ma km nm M out h0 n0) ({ frames := 0, cells := 0, slots := 0, locals := 0 } : Room).cells ({ frames := 0, cells := 0, slots := 0, locals := 0 } : Room).slots from ?_)
 refine own_go (fun τ κ => castTop (own_ef37_rmLM0 m o0 p1 p2 p3 p4 p5) κ) ?_
 have li0 : (0 : Int32).toInt = 0 := rfl
 have li1 : (1 : Int32).toInt = 1 := rfl
 show own_End p e below s (s₁.setTop (mkF m 0 #[wR o0, wI p1, wI p2, wI p3, wI p4, wI p5, wU, wU] [])) _ _ _
 have H := hF
 refine o_iloadN X0 hx hby e37_0.1 rfl ?_
 refine o_iload X0 hx hby e37_0.2.1 rfl ?_
 by_cases c3_1 : p4.toInt < p2.toInt
 ·skip
  replace H := own_ifp c3_1 H
  refine o_icmpYes X0 hx (pc0 := 3) (pc' := 17) rfl hby e37_0.2.2.1 (own_tlt (x := p4) (y := p2) (i := p4.toInt) (j := p2.toInt) rfl rfl c3_1).2.2.1 (by decide) (by decide) ?_
  refine o_iconst X0 hx hby e37_10.2.2.2.2 (x := (-1)) rfl ?_
  obtain rfl := Option.some.inj H
  refine own_ret X0 (v := some (.int (-1))) (fun h => by rw [Bd.returns] at h; cases h) Bd.notSynchronized (fun fs hr => retI X0 hx Bd.returns (hb hby e37_18.1) hr) ?_ (by decide) (by decide)
  ·rw [e0]; exact ⟨rfl, N0, rfl⟩
 ·skip
  replace H := own_ifn c3_1 H
  refine o_icmpNo X0 hx hby e37_0.2.2.1 (own_flt (x := p4) (y := p2) (i := p4.toInt) (j := p2.toInt) rfl rfl c3_1).2.2.1 ?_
  refine o_aloadN X0 hx hby e37_0.2.2.2.1 rfl ?_
  refine o_getF X0 hx hZ hown (host := "") (Or.inl (hW 163 rfl)) Via.refl e0 F_o0_marks hby e37_0.2.2.2.2 fun T2 X2 e2 => ?_
  refine o_iloadN X2 hx hby e37_10.1 rfl ?_
  obtain ⟨v3, hv3, H⟩ := own_bnd H
  refine o_ldI X2 hx hZ e2 V_ma hv3 hby e37_10.2.1 ?_
  refine o_iload X2 hx hby e37_10.2.2.1 rfl ?_
  by_cases c14_4 : v3.toInt < p5.toInt
  ·skip
   replace H := own_ifp c14_4 H
   refine o_icmpNo X2 hx hby e37_10.2.2.2.1 (own_tlt (x := v3) (y := p5) (i := v3.toInt) (j := p5.toInt) rfl rfl c14_4).2.1 ?_
   refine o_iconst X2 hx hby e37_10.2.2.2.2 (x := (-1)) rfl ?_
   obtain rfl := Option.some.inj H
   refine own_ret X2 (v := some (.int (-1))) (fun h => by rw [Bd.returns] at h; cases h) Bd.notSynchronized (fun fs hr => retI X2 hx Bd.returns (hb hby e37_18.1) hr) ?_ (by decide) (by decide)
   ·rw [e2]; exact ⟨rfl, N0, rfl⟩
  ·skip
   replace H := own_ifn c14_4 H
   refine o_icmpYes X2 hx (pc0 := 14) (pc' := 19) rfl hby e37_10.2.2.2.1 (own_flt (x := v3) (y := p5) (i := v3.toInt) (j := p5.toInt) rfl rfl c14_4).2.1 (by decide) (by decide) ?_
   refine o_iloadN X2 hx hby e37_18.2.1 rfl ?_
   refine o_iloadN X2 hx hby e37_18.2.2.1 rfl ?_
   by_cases c21_5 : p2.toInt = p3.toInt
   ·skip
    replace H := own_ifp c21_5 H
    refine o_icmpNo X2 hx hby e37_18.2.2.2.1 (own_eq (x := p2) (y := p3) (i := p2.toInt) (j := p3.toInt) rfl rfl c21_5).2 ?_
    refine o_iloadN X2 hx hby e37_18.2.2.2.2 rfl ?_
    obtain rfl := Option.some.inj H
    refine own_ret X2 (v := some (.int p2)) (fun h => by rw [Bd.returns] at h; cases h) Bd.notSynchronized (fun fs hr => retI X2 hx Bd.returns (hb hby e37_25.1) hr) ?_ (by decide) (by decide)
    ·rw [e2]; exact ⟨rfl, N0, rfl⟩
   ·skip
    replace H := own_ifn c21_5 H
    refine o_icmpYes X2 hx (pc0 := 21) (pc' := 26) rfl hby e37_18.2.2.2.1 (own_ne (x := p2) (y := p3) (i := p2.toInt) (j := p3.toInt) rfl rfl c21_5).2 (by decide) (by decide) ?_
    refine o_iloadN X2 hx hby e37_25.2.1 rfl ?_
    refine o_iloadN X2 hx hby e37_25.2.2.1 rfl ?_
    refine o_iadd X2 hx hby e37_25.2.2.2.1 ?_
    refine o_iconst X2 hx hby e37_25.2.2.2.2 (x := 1) rfl ?_
    refine o_iushr X2 hx hby e37_30.1 ?_
    refine o_istore X2 hx hby e37_30.2.1 (l' := #[wR o0, wI p1, wI p2, wI p3, wI p4, wI p5, wI (((p2 + p3).toUInt32 >>> ((1 : Int32) &&& 31).toUInt32).toInt32), wU]) rfl ?_
    refine o_aloadN X2 hx hby e37_30.2.2.1 rfl ?_
    refine o_iconst X2 hx hby e37_30.2.2.2.1 (x := 2) rfl ?_
    refine o_iloadN X2 hx hby e37_30.2.2.2.2 rfl ?_
    refine o_imul X2 hx hby e37_36.1 ?_
    refine o_iconst X2 hx hby e37_36.2.1 (x := 1) rfl ?_
    refine o_iadd X2 hx hby e37_36.2.2.1 ?_
    refine o_iload X2 hx hby e37_36.2.2.2.1 rfl ?_
    refine o_iconst X2 hx hby e37_36.2.2.2.2 (x := 1) rfl ?_
    refine o_iadd X2 hx hby e37_42.1 ?_
    refine o_iloadN X2 hx hby e37_42.2.1 rfl ?_
    refine o_iload X2 hx hby e37_42.2.2.1 rfl ?_
    refine o_iload X2 hx hby e37_42.2.2.2 rfl ?_
    exact nomatch H
theorem own_ef37_rmLM1 (m : MethodId) (o0 : Addr) (p1 : Int32) (p2 : Int32) (p3 : Int32) (p4 : Int32) (p5 : Int32) : entryFrame m #[(.ref o0), (.int p1), (.int p2), (.int p3), (.int p4), (.int p5)] 8 = mkF m 0 #[.val (.ref o0), .val (.int p1), .val (.int p2), .val (.int p3), .val (.int p4), .val (.int p5), .unset, .unset] [] := by first | (simp [entryFrame, mkF, argsToLocals, Value.category]; done) | rfl
def Q_rmLM1 (Z : State) (o0 : Addr) (p1 : Int32) (p2 : Int32) (p3 : Int32) (p4 : Int32) (p5 : Int32) (ma : Addr) (km : ClassId) (nm : Int32) (M : List Int32) (out : Int32) (h0 : Heap) (n0 : Nat) (v : Option Value) (h : Heap) (L : List Loc) : Prop := (v = some (.int out)) ∧ Fr n0 L ∧ h = h0
theorem d37_48 : decode wc37 48 = .ok (.invokevirtual 116, 3) := by decide +kernel
theorem own_pd3 : parseMethodDescriptor "(IIIII)I" = some ⟨[.int, .int, .int, .int, .int], some .int⟩ := by decide +kernel
abbrev wy37 : MethodName := (⟨"com/example/portero/portero/matching/SegmentAutomaton", "latestMarked", "(IIIII)I"⟩ : MethodName)
theorem d37_51 : decode wc37 51 = .ok (.istore 7, 2) := by decide +kernel
theorem d37_53 : decode wc37 53 = .ok (.iload 7, 2) := by decide +kernel
theorem d37_55 : decode wc37 55 = .ok (.iconst (-1), 1) := by decide +kernel
theorem d37_56 : decode wc37 56 = .ok (.if_icmp .eq 8, 3) := by decide +kernel
theorem d37_64 : decode wc37 64 = .ok (.aload_n 0, 1) := by decide +kernel
theorem d37_65 : decode wc37 65 = .ok (.iconst 2, 1) := by decide +kernel
theorem d37_66 : decode wc37 66 = .ok (.iload_n 1, 1) := by decide +kernel
theorem d37_67 : decode wc37 67 = .ok (.imul, 1) := by decide +kernel
theorem d37_68 : decode wc37 68 = .ok (.iload_n 2, 1) := by decide +kernel
theorem d37_69 : decode wc37 69 = .ok (.iload 6, 2) := by decide +kernel
theorem d37_71 : decode wc37 71 = .ok (.iload 4, 2) := by decide +kernel
theorem d37_73 : decode wc37 73 = .ok (.iload 5, 2) := by decide +kernel
theorem d37_75 : decode wc37 75 = .ok (.invokevirtual 116, 3) := by decide +kernel
theorem d37_78 : decode wc37 78 = .ok (.ireturn, 1) := by decide +kernel
theorem d37_59 : decode wc37 59 = .ok (.iload 7, 2) := by decide +kernel
theorem d37_61 : decode wc37 61 = .ok (.goto 17, 3) := by decide +kernel
def F_rmLM1 (p1 : Int32) (p2 : Int32) (p3 : Int32) (p4 : Int32) (p5 : Int32) (M : List Int32) : Option (Int32) := (if p4.toInt < p2.toInt then some ((-1 : Int32)) else (own_get M p1).bind fun v3 => ((if v3.toInt < p5.toInt then some ((-1 : Int32)) else (if p2.toInt = p3.toInt then some (p2) else (F_rmLM0 (((2 : Int32) * p1) + (1 : Int32)) ((((p2 + p3).toUInt32 >>> ((1 : Int32) &&& 31).toUInt32).toInt32) + (1 : Int32)) p3 p4 p5 M).bind fun o6 => ((if o6.toInt = -1 then (F_rmLM0 ((2 : Int32) * p1) p2 (((p2 + p3).toUInt32 >>> ((1 : Int32) &&& 31).toUInt32).toInt32) p4 p5 M).bind fun o9 => (some (o9)) else some (o6)))))))
set_option maxRecDepth 65536 in
set_option maxHeartbeats 40000000 in
theorem rmLM1 (l : Launch) (Z : State) (a0 : Array Value) (hw : ∀ d ∈ tables_1, d.before a0 Z = true) (ws : List Jvm.Cond) (o0 : Addr) (p1 : Int32) (p2 : Int32) (p3 : Int32) (p4 : Int32) (p5 : Int32) (ma : Addr) (km : ClassId) (nm : Int32) (M : List Int32) (out : Int32) (h0 : Heap) (n0 : Nat) (Z0 : n0 ≤ h0.size) (E_o0 : Exa Z h0 o0 "com/example/portero/portero/matching/SegmentAutomaton") (F_o0_marks : Fld Z h0 o0 "com/example/portero/portero/matching/SegmentAutomaton" "marks" "[I" (.ref ma)) (V_ma : own_AI Z h0 ma km nm M) (hF : F_rmLM1 p1 p2 p3 p4 p5 M = some out) :
  MetFree l (⟨"com/example/portero/portero/matching/SegmentAutomaton", "latestMarked", "(IIIII)I"⟩ : MethodName) (head1 (Jvm.Cond.code (⟨"com/example/portero/portero/matching/SegmentAutomaton", "latestMarked", "(IIIII)I"⟩ : MethodName) prog_23_method_11_code 8 (some .int) :: ws) ({ frames := 1, cells := 0, slots := 0, locals := 19 } : Room)) (fun a U => a = #[(.ref o0), (.int p1), (.int p2), (.int p3), (.int p4), (.int p5)] ∧ Z.Warmed39 U.vm ∧ U.heap = h0) (fun _ _ _ _ _ => True) (fun _ U o U' => ∃ v L, o = .returned v ∧ Q_rmLM1 Z o0 p1 p2 p3 p4 p5 ma km nm M out h0 n0 v U'.heap L ∧ FrameEnd U o U' L ({ frames := 1, cells := 0, slots := 0, locals := 19 } : Room).cells ({ frames := 1, cells := 0, slots := 0, locals := 19 } : Room).slots) := by
 refine MetFree.of_bodySF (plainFor_of_name own_pn0) hisR ?_
 intro p e s m args below meth c s₁ Bd hml0 hP hK
 obtain ⟨rfl, hZ, hh⟩ := hP
 have hW := @own_hW a0 Z hw
 have hx := Bd.exec
 have hby := Bd.bytes
 have hml : c.maxLocals = 8 := hml0
 have hown : s.vm.findClass "com/example/portero/portero/matching/SegmentAutomaton" = some m.cls := findClass_of_methodNamed Bd.named
 have hnm := (name_of_methodNamed Bd.named Bd.method).1
 have X0 : Stand p l e ({ frames := 1, cells := 0, slots := 0, locals := 19 } : Room) s m #[(.ref o0), (.int p1), (.int p2), (.int p3), (.int p4), (.int p5)] below meth c s₁ [] 0 0 := Stand.of_body Bd
 have e0 : s₁.heap = h0 := by rw [← hh, Bd.state]; rfl
 have N0 := Fr.nil n0
 refine (show own_End p e below s (s₁.setTop (entryFrame m #[(.ref o0), (.int p1), (.int p2), (.int p3), (.int p4), (.int p5)] 8)) (Q_rmLM1 Z o0 p1 p2 p3 p4 p5 ma km nm M out h0 n0) ({ frames := 1, cells := 0, slots := 0, locals := 19 } : Room).cells ({ frames := 1, cells := 0, slots := 0, locals := 19 } : Room).slots from ?_)
 refine own_go (fun τ κ => castTop (own_ef37_rmLM1 m o0 p1 p2 p3 p4 p5) κ) ?_
 have li0 : (0 : Int32).toInt = 0 := rfl
 have li1 : (1 : Int32).toInt = 1 := rfl
 show own_End p e below s (s₁.setTop (mkF m 0 #[wR o0, wI p1, wI p2, wI p3, wI p4, wI p5, wU, wU] [])) _ _ _
 have H := hF
 refine o_iloadN X0 hx hby e37_0.1 rfl ?_
 refine o_iload X0 hx hby e37_0.2.1 rfl ?_
 by_cases c3_1 : p4.toInt < p2.toInt
 ·skip
  replace H := own_ifp c3_1 H
  refine o_icmpYes X0 hx (pc0 := 3) (pc' := 17) rfl hby e37_0.2.2.1 (own_tlt (x := p4) (y := p2) (i := p4.toInt) (j := p2.toInt) rfl rfl c3_1).2.2.1 (by decide) (by decide) ?_
  refine o_iconst X0 hx hby e37_10.2.2.2.2 (x := (-1)) rfl ?_
  obtain rfl := Option.some.inj H
  refine own_ret X0 (v := some (.int (-1))) (fun h => by rw [Bd.returns] at h; cases h) Bd.notSynchronized (fun fs hr => retI X0 hx Bd.returns (hb hby e37_18.1) hr) ?_ (by decide) (by decide)
  ·rw [e0]; exact ⟨rfl, N0, rfl⟩
 ·skip
  replace H := own_ifn c3_1 H
  refine o_icmpNo X0 hx hby e37_0.2.2.1 (own_flt (x := p4) (y := p2) (i := p4.toInt) (j := p2.toInt) rfl rfl c3_1).2.2.1 ?_
  refine o_aloadN X0 hx hby e37_0.2.2.2.1 rfl ?_
  refine o_getF X0 hx hZ hown (host := "") (Or.inl (hW 163 rfl)) Via.refl e0 F_o0_marks hby e37_0.2.2.2.2 fun T2 X2 e2 => ?_
  refine o_iloadN X2 hx hby e37_10.1 rfl ?_
  obtain ⟨v3, hv3, H⟩ := own_bnd H
  refine o_ldI X2 hx hZ e2 V_ma hv3 hby e37_10.2.1 ?_
  refine o_iload X2 hx hby e37_10.2.2.1 rfl ?_
  by_cases c14_4 : v3.toInt < p5.toInt
  ·skip
   replace H := own_ifp c14_4 H
   refine o_icmpNo X2 hx hby e37_10.2.2.2.1 (own_tlt (x := v3) (y := p5) (i := v3.toInt) (j := p5.toInt) rfl rfl c14_4).2.1 ?_
   refine o_iconst X2 hx hby e37_10.2.2.2.2 (x := (-1)) rfl ?_
   obtain rfl := Option.some.inj H
   refine own_ret X2 (v := some (.int (-1))) (fun h => by rw [Bd.returns] at h; cases h) Bd.notSynchronized (fun fs hr => retI X2 hx Bd.returns (hb hby e37_18.1) hr) ?_ (by decide) (by decide)
   ·rw [e2]; exact ⟨rfl, N0, rfl⟩
  ·skip
   replace H := own_ifn c14_4 H
   refine o_icmpYes X2 hx (pc0 := 14) (pc' := 19) rfl hby e37_10.2.2.2.1 (own_flt (x := v3) (y := p5) (i := v3.toInt) (j := p5.toInt) rfl rfl c14_4).2.1 (by decide) (by decide) ?_
   refine o_iloadN X2 hx hby e37_18.2.1 rfl ?_
   refine o_iloadN X2 hx hby e37_18.2.2.1 rfl ?_
   by_cases c21_5 : p2.toInt = p3.toInt
   ·skip
    replace H := own_ifp c21_5 H
    refine o_icmpNo X2 hx hby e37_18.2.2.2.1 (own_eq (x := p2) (y := p3) (i := p2.toInt) (j := p3.toInt) rfl rfl c21_5).2 ?_
    refine o_iloadN X2 hx hby e37_18.2.2.2.2 rfl ?_
    obtain rfl := Option.some.inj H
    refine own_ret X2 (v := some (.int p2)) (fun h => by rw [Bd.returns] at h; cases h) Bd.notSynchronized (fun fs hr => retI X2 hx Bd.returns (hb hby e37_25.1) hr) ?_ (by decide) (by decide)
    ·rw [e2]; exact ⟨rfl, N0, rfl⟩
   ·skip
    replace H := own_ifn c21_5 H
    refine o_icmpYes X2 hx (pc0 := 21) (pc' := 26) rfl hby e37_18.2.2.2.1 (own_ne (x := p2) (y := p3) (i := p2.toInt) (j := p3.toInt) rfl rfl c21_5).2 (by decide) (by decide) ?_
    refine o_iloadN X2 hx hby e37_25.2.1 rfl ?_
    refine o_iloadN X2 hx hby e37_25.2.2.1 rfl ?_
    refine o_iadd X2 hx hby e37_25.2.2.2.1 ?_
    refine o_iconst X2 hx hby e37_25.2.2.2.2 (x := 1) rfl ?_
    refine o_iushr X2 hx hby e37_30.1 ?_
    refine o_istore X2 hx hby e37_30.2.1 (l' := #[wR o0, wI p1, wI p2, wI p3, wI p4, wI p5, wI (((p2 + p3).toUInt32 >>> ((1 : Int32) &&& 31).toUInt32).toInt32), wU]) rfl ?_
    refine o_aloadN X2 hx hby e37_30.2.2.1 rfl ?_
    refine o_iconst X2 hx hby e37_30.2.2.2.1 (x := 2) rfl ?_
    refine o_iloadN X2 hx hby e37_30.2.2.2.2 rfl ?_
    refine o_imul X2 hx hby e37_36.1 ?_
    refine o_iconst X2 hx hby e37_36.2.1 (x := 1) rfl ?_
    refine o_iadd X2 hx hby e37_36.2.2.1 ?_
    refine o_iload X2 hx hby e37_36.2.2.2.1 rfl ?_
    refine o_iconst X2 hx hby e37_36.2.2.2.2 (x := 1) rfl ?_
    refine o_iadd X2 hx hby e37_42.1 ?_
    refine o_iloadN X2 hx hby e37_42.2.1 rfl ?_
    refine o_iload X2 hx hby e37_42.2.2.1 rfl ?_
    refine o_iload X2 hx hby e37_42.2.2.2 rfl ?_
    obtain ⟨o6, ho6, H⟩ := own_bnd H
    refine o_cP X2 hx hZ hown (y := wy37) (hW 196 rfl) (hW 36 rfl) (hW 197 rfl) (hW 198 rfl) (hW 199 rfl) (by decide) E_o0 (backOf (W := 0) (rmLM0 l Z a0 hw [] o0 (((2 : Int32) * p1) + (1 : Int32)) ((((p2 + p3).toUInt32 >>> ((1 : Int32) &&& 31).toUInt32).toInt32) + (1 : Int32)) p3 p4 p5 ma km nm M o6 h0 n0 Z0 E_o0 F_o0_marks V_ma ho6) hZ (hW 199 rfl) (hW 37 rfl) (by decide) (by decide)) (by rw [hml]; rfl) (argsL := [(.int (((2 : Int32) * p1) + (1 : Int32))), (.int ((((p2 + p3).toUInt32 >>> ((1 : Int32) &&& 31).toUInt32).toInt32) + (1 : Int32))), (.int p3), (.int p4), (.int p5)]) (rest := []) (lenOf own_pd3 rfl) rfl rfl (Nat.le_of_eq rfl) e2 (by decide) (by decide) hby d37_48 N0 fun T7 v7 Lc7 ls7 X7 hQ7 nq7 => ?_
    obtain ⟨rfl, N7q, e7⟩ := hQ7
    have N7 := nq7 N7q
    show own_End p e below s (T7.setTop (mkF m 51 _ [(.int o6)])) _ _ _
    refine o_istore X7 hx hby d37_51 (l' := #[wR o0, wI p1, wI p2, wI p3, wI p4, wI p5, wI (((p2 + p3).toUInt32 >>> ((1 : Int32) &&& 31).toUInt32).toInt32), wI o6]) rfl ?_
    refine o_iload X7 hx hby d37_53 rfl ?_
    refine o_iconst X7 hx hby d37_55 (x := (-1)) rfl ?_
    by_cases c56_8 : o6.toInt = -1
    ·skip
     replace H := own_ifp c56_8 H
     refine o_icmpYes X7 hx (pc0 := 56) (pc' := 64) rfl hby d37_56 (own_eq (x := o6) (y := (-1)) (i := o6.toInt) (j := -1) rfl rfl c56_8).1 (by decide) (by decide) ?_
     refine o_aloadN X7 hx hby d37_64 rfl ?_
     refine o_iconst X7 hx hby d37_65 (x := 2) rfl ?_
     refine o_iloadN X7 hx hby d37_66 rfl ?_
     refine o_imul X7 hx hby d37_67 ?_
     refine o_iloadN X7 hx hby d37_68 rfl ?_
     refine o_iload X7 hx hby d37_69 rfl ?_
     refine o_iload X7 hx hby d37_71 rfl ?_
     refine o_iload X7 hx hby d37_73 rfl ?_
     obtain ⟨o9, ho9, H⟩ := own_bnd H
     refine o_cP X7 hx hZ hown (y := wy37) (hW 196 rfl) (hW 36 rfl) (hW 197 rfl) (hW 198 rfl) (hW 199 rfl) (by decide) E_o0 (backOf (W := 0) (rmLM0 l Z a0 hw [] o0 ((2 : Int32) * p1) p2 (((p2 + p3).toUInt32 >>> ((1 : Int32) &&& 31).toUInt32).toInt32) p4 p5 ma km nm M o9 h0 n0 Z0 E_o0 F_o0_marks V_ma ho9) hZ (hW 199 rfl) (hW 37 rfl) (by decide) (by decide)) (by rw [hml]; rfl) (argsL := [(.int ((2 : Int32) * p1)), (.int p2), (.int (((p2 + p3).toUInt32 >>> ((1 : Int32) &&& 31).toUInt32).toInt32)), (.int p4), (.int p5)]) (rest := []) (lenOf own_pd3 rfl) rfl rfl (Nat.le_of_eq rfl) e7 (by decide) (by decide) hby d37_75 N7 fun T10 v10 Lc10 ls10 X10 hQ10 nq10 => ?_
     obtain ⟨rfl, N10q, e10⟩ := hQ10
     have N10 := nq10 N10q
     show own_End p e below s (T10.setTop (mkF m 78 _ [(.int o9)])) _ _ _
     obtain rfl := Option.some.inj H
     refine own_ret X10 (v := some (.int o9)) (fun h => by rw [Bd.returns] at h; cases h) Bd.notSynchronized (fun fs hr => retI X10 hx Bd.returns (hb hby d37_78) hr) ?_ (by decide) (by decide)
     ·rw [e10]; exact ⟨rfl, N10, rfl⟩
    ·skip
     replace H := own_ifn c56_8 H
     refine o_icmpNo X7 hx hby d37_56 (own_ne (x := o6) (y := (-1)) (i := o6.toInt) (j := -1) rfl rfl c56_8).1 ?_
     refine o_iload X7 hx hby d37_59 rfl ?_
     refine o_goto X7 hx (pc0 := 61) (pc' := 78) rfl hby d37_61 (by decide) (by decide) ?_
     obtain rfl := Option.some.inj H
     refine own_ret X7 (v := some (.int o6)) (fun h => by rw [Bd.returns] at h; cases h) Bd.notSynchronized (fun fs hr => retI X7 hx Bd.returns (hb hby d37_78) hr) ?_ (by decide) (by decide)
     ·rw [e7]; exact ⟨rfl, N7, rfl⟩
theorem own_ef37_rmLM2 (m : MethodId) (o0 : Addr) (p1 : Int32) (p2 : Int32) (p3 : Int32) (p4 : Int32) (p5 : Int32) : entryFrame m #[(.ref o0), (.int p1), (.int p2), (.int p3), (.int p4), (.int p5)] 8 = mkF m 0 #[.val (.ref o0), .val (.int p1), .val (.int p2), .val (.int p3), .val (.int p4), .val (.int p5), .unset, .unset] [] := by first | (simp [entryFrame, mkF, argsToLocals, Value.category]; done) | rfl
def Q_rmLM2 (Z : State) (o0 : Addr) (p1 : Int32) (p2 : Int32) (p3 : Int32) (p4 : Int32) (p5 : Int32) (ma : Addr) (km : ClassId) (nm : Int32) (M : List Int32) (out : Int32) (h0 : Heap) (n0 : Nat) (v : Option Value) (h : Heap) (L : List Loc) : Prop := (v = some (.int out)) ∧ Fr n0 L ∧ h = h0
def F_rmLM2 (p1 : Int32) (p2 : Int32) (p3 : Int32) (p4 : Int32) (p5 : Int32) (M : List Int32) : Option (Int32) := (if p4.toInt < p2.toInt then some ((-1 : Int32)) else (own_get M p1).bind fun v3 => ((if v3.toInt < p5.toInt then some ((-1 : Int32)) else (if p2.toInt = p3.toInt then some (p2) else (F_rmLM1 (((2 : Int32) * p1) + (1 : Int32)) ((((p2 + p3).toUInt32 >>> ((1 : Int32) &&& 31).toUInt32).toInt32) + (1 : Int32)) p3 p4 p5 M).bind fun o6 => ((if o6.toInt = -1 then (F_rmLM1 ((2 : Int32) * p1) p2 (((p2 + p3).toUInt32 >>> ((1 : Int32) &&& 31).toUInt32).toInt32) p4 p5 M).bind fun o9 => (some (o9)) else some (o6)))))))
set_option maxRecDepth 65536 in
set_option maxHeartbeats 40000000 in
theorem rmLM2 (l : Launch) (Z : State) (a0 : Array Value) (hw : ∀ d ∈ tables_1, d.before a0 Z = true) (ws : List Jvm.Cond) (o0 : Addr) (p1 : Int32) (p2 : Int32) (p3 : Int32) (p4 : Int32) (p5 : Int32) (ma : Addr) (km : ClassId) (nm : Int32) (M : List Int32) (out : Int32) (h0 : Heap) (n0 : Nat) (Z0 : n0 ≤ h0.size) (E_o0 : Exa Z h0 o0 "com/example/portero/portero/matching/SegmentAutomaton") (F_o0_marks : Fld Z h0 o0 "com/example/portero/portero/matching/SegmentAutomaton" "marks" "[I" (.ref ma)) (V_ma : own_AI Z h0 ma km nm M) (hF : F_rmLM2 p1 p2 p3 p4 p5 M = some out) :
  MetFree l (⟨"com/example/portero/portero/matching/SegmentAutomaton", "latestMarked", "(IIIII)I"⟩ : MethodName) (head1 (Jvm.Cond.code (⟨"com/example/portero/portero/matching/SegmentAutomaton", "latestMarked", "(IIIII)I"⟩ : MethodName) prog_23_method_11_code 8 (some .int) :: ws) ({ frames := 2, cells := 0, slots := 0, locals := 38 } : Room)) (fun a U => a = #[(.ref o0), (.int p1), (.int p2), (.int p3), (.int p4), (.int p5)] ∧ Z.Warmed39 U.vm ∧ U.heap = h0) (fun _ _ _ _ _ => True) (fun _ U o U' => ∃ v L, o = .returned v ∧ Q_rmLM2 Z o0 p1 p2 p3 p4 p5 ma km nm M out h0 n0 v U'.heap L ∧ FrameEnd U o U' L ({ frames := 2, cells := 0, slots := 0, locals := 38 } : Room).cells ({ frames := 2, cells := 0, slots := 0, locals := 38 } : Room).slots) := by
 refine MetFree.of_bodySF (plainFor_of_name own_pn0) hisR ?_
 intro p e s m args below meth c s₁ Bd hml0 hP hK
 obtain ⟨rfl, hZ, hh⟩ := hP
 have hW := @own_hW a0 Z hw
 have hx := Bd.exec
 have hby := Bd.bytes
 have hml : c.maxLocals = 8 := hml0
 have hown : s.vm.findClass "com/example/portero/portero/matching/SegmentAutomaton" = some m.cls := findClass_of_methodNamed Bd.named
 have hnm := (name_of_methodNamed Bd.named Bd.method).1
 have X0 : Stand p l e ({ frames := 2, cells := 0, slots := 0, locals := 38 } : Room) s m #[(.ref o0), (.int p1), (.int p2), (.int p3), (.int p4), (.int p5)] below meth c s₁ [] 0 0 := Stand.of_body Bd
 have e0 : s₁.heap = h0 := by rw [← hh, Bd.state]; rfl
 have N0 := Fr.nil n0
 refine (show own_End p e below s (s₁.setTop (entryFrame m #[(.ref o0), (.int p1), (.int p2), (.int p3), (.int p4), (.int p5)] 8)) (Q_rmLM2 Z o0 p1 p2 p3 p4 p5 ma km nm M out h0 n0) ({ frames := 2, cells := 0, slots := 0, locals := 38 } : Room).cells ({ frames := 2, cells := 0, slots := 0, locals := 38 } : Room).slots from ?_)
 refine own_go (fun τ κ => castTop (own_ef37_rmLM2 m o0 p1 p2 p3 p4 p5) κ) ?_
 have li0 : (0 : Int32).toInt = 0 := rfl
 have li1 : (1 : Int32).toInt = 1 := rfl
 show own_End p e below s (s₁.setTop (mkF m 0 #[wR o0, wI p1, wI p2, wI p3, wI p4, wI p5, wU, wU] [])) _ _ _
 have H := hF
 refine o_iloadN X0 hx hby e37_0.1 rfl ?_
 refine o_iload X0 hx hby e37_0.2.1 rfl ?_
 by_cases c3_1 : p4.toInt < p2.toInt
 ·skip
  replace H := own_ifp c3_1 H
  refine o_icmpYes X0 hx (pc0 := 3) (pc' := 17) rfl hby e37_0.2.2.1 (own_tlt (x := p4) (y := p2) (i := p4.toInt) (j := p2.toInt) rfl rfl c3_1).2.2.1 (by decide) (by decide) ?_
  refine o_iconst X0 hx hby e37_10.2.2.2.2 (x := (-1)) rfl ?_
  obtain rfl := Option.some.inj H
  refine own_ret X0 (v := some (.int (-1))) (fun h => by rw [Bd.returns] at h; cases h) Bd.notSynchronized (fun fs hr => retI X0 hx Bd.returns (hb hby e37_18.1) hr) ?_ (by decide) (by decide)
  ·rw [e0]; exact ⟨rfl, N0, rfl⟩
 ·skip
  replace H := own_ifn c3_1 H
  refine o_icmpNo X0 hx hby e37_0.2.2.1 (own_flt (x := p4) (y := p2) (i := p4.toInt) (j := p2.toInt) rfl rfl c3_1).2.2.1 ?_
  refine o_aloadN X0 hx hby e37_0.2.2.2.1 rfl ?_
  refine o_getF X0 hx hZ hown (host := "") (Or.inl (hW 163 rfl)) Via.refl e0 F_o0_marks hby e37_0.2.2.2.2 fun T2 X2 e2 => ?_
  refine o_iloadN X2 hx hby e37_10.1 rfl ?_
  obtain ⟨v3, hv3, H⟩ := own_bnd H
  refine o_ldI X2 hx hZ e2 V_ma hv3 hby e37_10.2.1 ?_
  refine o_iload X2 hx hby e37_10.2.2.1 rfl ?_
  by_cases c14_4 : v3.toInt < p5.toInt
  ·skip
   replace H := own_ifp c14_4 H
   refine o_icmpNo X2 hx hby e37_10.2.2.2.1 (own_tlt (x := v3) (y := p5) (i := v3.toInt) (j := p5.toInt) rfl rfl c14_4).2.1 ?_
   refine o_iconst X2 hx hby e37_10.2.2.2.2 (x := (-1)) rfl ?_
   obtain rfl := Option.some.inj H
   refine own_ret X2 (v := some (.int (-1))) (fun h => by rw [Bd.returns] at h; cases h) Bd.notSynchronized (fun fs hr => retI X2 hx Bd.returns (hb hby e37_18.1) hr) ?_ (by decide) (by decide)
   ·rw [e2]; exact ⟨rfl, N0, rfl⟩
  ·skip
   replace H := own_ifn c14_4 H
   refine o_icmpYes X2 hx (pc0 := 14) (pc' := 19) rfl hby e37_10.2.2.2.1 (own_flt (x := v3) (y := p5) (i := v3.toInt) (j := p5.toInt) rfl rfl c14_4).2.1 (by decide) (by decide) ?_
   refine o_iloadN X2 hx hby e37_18.2.1 rfl ?_
   refine o_iloadN X2 hx hby e37_18.2.2.1 rfl ?_
   by_cases c21_5 : p2.toInt = p3.toInt
   ·skip
    replace H := own_ifp c21_5 H
    refine o_icmpNo X2 hx hby e37_18.2.2.2.1 (own_eq (x := p2) (y := p3) (i := p2.toInt) (j := p3.toInt) rfl rfl c21_5).2 ?_
    refine o_iloadN X2 hx hby e37_18.2.2.2.2 rfl ?_
    obtain rfl := Option.some.inj H
    refine own_ret X2 (v := some (.int p2)) (fun h => by rw [Bd.returns] at h; cases h) Bd.notSynchronized (fun fs hr => retI X2 hx Bd.returns (hb hby e37_25.1) hr) ?_ (by decide) (by decide)
    ·rw [e2]; exact ⟨rfl, N0, rfl⟩
   ·skip
    replace H := own_ifn c21_5 H
    refine o_icmpYes X2 hx (pc0 := 21) (pc' := 26) rfl hby e37_18.2.2.2.1 (own_ne (x := p2) (y := p3) (i := p2.toInt) (j := p3.toInt) rfl rfl c21_5).2 (by decide) (by decide) ?_
    refine o_iloadN X2 hx hby e37_25.2.1 rfl ?_
    refine o_iloadN X2 hx hby e37_25.2.2.1 rfl ?_
    refine o_iadd X2 hx hby e37_25.2.2.2.1 ?_
    refine o_iconst X2 hx hby e37_25.2.2.2.2 (x := 1) rfl ?_
    refine o_iushr X2 hx hby e37_30.1 ?_
    refine o_istore X2 hx hby e37_30.2.1 (l' := #[wR o0, wI p1, wI p2, wI p3, wI p4, wI p5, wI (((p2 + p3).toUInt32 >>> ((1 : Int32) &&& 31).toUInt32).toInt32), wU]) rfl ?_
    refine o_aloadN X2 hx hby e37_30.2.2.1 rfl ?_
    refine o_iconst X2 hx hby e37_30.2.2.2.1 (x := 2) rfl ?_
    refine o_iloadN X2 hx hby e37_30.2.2.2.2 rfl ?_
    refine o_imul X2 hx hby e37_36.1 ?_
    refine o_iconst X2 hx hby e37_36.2.1 (x := 1) rfl ?_
    refine o_iadd X2 hx hby e37_36.2.2.1 ?_
    refine o_iload X2 hx hby e37_36.2.2.2.1 rfl ?_
    refine o_iconst X2 hx hby e37_36.2.2.2.2 (x := 1) rfl ?_
    refine o_iadd X2 hx hby e37_42.1 ?_
    refine o_iloadN X2 hx hby e37_42.2.1 rfl ?_
    refine o_iload X2 hx hby e37_42.2.2.1 rfl ?_
    refine o_iload X2 hx hby e37_42.2.2.2 rfl ?_
    obtain ⟨o6, ho6, H⟩ := own_bnd H
    refine o_cP X2 hx hZ hown (y := wy37) (hW 196 rfl) (hW 36 rfl) (hW 197 rfl) (hW 198 rfl) (hW 199 rfl) (by decide) E_o0 (backOf (W := 0) (rmLM1 l Z a0 hw [] o0 (((2 : Int32) * p1) + (1 : Int32)) ((((p2 + p3).toUInt32 >>> ((1 : Int32) &&& 31).toUInt32).toInt32) + (1 : Int32)) p3 p4 p5 ma km nm M o6 h0 n0 Z0 E_o0 F_o0_marks V_ma ho6) hZ (hW 199 rfl) (hW 37 rfl) (by decide) (by decide)) (by rw [hml]; rfl) (argsL := [(.int (((2 : Int32) * p1) + (1 : Int32))), (.int ((((p2 + p3).toUInt32 >>> ((1 : Int32) &&& 31).toUInt32).toInt32) + (1 : Int32))), (.int p3), (.int p4), (.int p5)]) (rest := []) (lenOf own_pd3 rfl) rfl rfl (Nat.le_of_eq rfl) e2 (by decide) (by decide) hby d37_48 N0 fun T7 v7 Lc7 ls7 X7 hQ7 nq7 => ?_
    obtain ⟨rfl, N7q, e7⟩ := hQ7
    have N7 := nq7 N7q
    show own_End p e below s (T7.setTop (mkF m 51 _ [(.int o6)])) _ _ _
    refine o_istore X7 hx hby d37_51 (l' := #[wR o0, wI p1, wI p2, wI p3, wI p4, wI p5, wI (((p2 + p3).toUInt32 >>> ((1 : Int32) &&& 31).toUInt32).toInt32), wI o6]) rfl ?_
    refine o_iload X7 hx hby d37_53 rfl ?_
    refine o_iconst X7 hx hby d37_55 (x := (-1)) rfl ?_
    by_cases c56_8 : o6.toInt = -1
    ·skip
     replace H := own_ifp c56_8 H
     refine o_icmpYes X7 hx (pc0 := 56) (pc' := 64) rfl hby d37_56 (own_eq (x := o6) (y := (-1)) (i := o6.toInt) (j := -1) rfl rfl c56_8).1 (by decide) (by decide) ?_
     refine o_aloadN X7 hx hby d37_64 rfl ?_
     refine o_iconst X7 hx hby d37_65 (x := 2) rfl ?_
     refine o_iloadN X7 hx hby d37_66 rfl ?_
     refine o_imul X7 hx hby d37_67 ?_
     refine o_iloadN X7 hx hby d37_68 rfl ?_
     refine o_iload X7 hx hby d37_69 rfl ?_
     refine o_iload X7 hx hby d37_71 rfl ?_
     refine o_iload X7 hx hby d37_73 rfl ?_
     obtain ⟨o9, ho9, H⟩ := own_bnd H
     refine o_cP X7 hx hZ hown (y := wy37) (hW 196 rfl) (hW 36 rfl) (hW 197 rfl) (hW 198 rfl) (hW 199 rfl) (by decide) E_o0 (backOf (W := 0) (rmLM1 l Z a0 hw [] o0 ((2 : Int32) * p1) p2 (((p2 + p3).toUInt32 >>> ((1 : Int32) &&& 31).toUInt32).toInt32) p4 p5 ma km nm M o9 h0 n0 Z0 E_o0 F_o0_marks V_ma ho9) hZ (hW 199 rfl) (hW 37 rfl) (by decide) (by decide)) (by rw [hml]; rfl) (argsL := [(.int ((2 : Int32) * p1)), (.int p2), (.int (((p2 + p3).toUInt32 >>> ((1 : Int32) &&& 31).toUInt32).toInt32)), (.int p4), (.int p5)]) (rest := []) (lenOf own_pd3 rfl) rfl rfl (Nat.le_of_eq rfl) e7 (by decide) (by decide) hby d37_75 N7 fun T10 v10 Lc10 ls10 X10 hQ10 nq10 => ?_
     obtain ⟨rfl, N10q, e10⟩ := hQ10
     have N10 := nq10 N10q
     show own_End p e below s (T10.setTop (mkF m 78 _ [(.int o9)])) _ _ _
     obtain rfl := Option.some.inj H
     refine own_ret X10 (v := some (.int o9)) (fun h => by rw [Bd.returns] at h; cases h) Bd.notSynchronized (fun fs hr => retI X10 hx Bd.returns (hb hby d37_78) hr) ?_ (by decide) (by decide)
     ·rw [e10]; exact ⟨rfl, N10, rfl⟩
    ·skip
     replace H := own_ifn c56_8 H
     refine o_icmpNo X7 hx hby d37_56 (own_ne (x := o6) (y := (-1)) (i := o6.toInt) (j := -1) rfl rfl c56_8).1 ?_
     refine o_iload X7 hx hby d37_59 rfl ?_
     refine o_goto X7 hx (pc0 := 61) (pc' := 78) rfl hby d37_61 (by decide) (by decide) ?_
     obtain rfl := Option.some.inj H
     refine own_ret X7 (v := some (.int o6)) (fun h => by rw [Bd.returns] at h; cases h) Bd.notSynchronized (fun fs hr => retI X7 hx Bd.returns (hb hby d37_78) hr) ?_ (by decide) (by decide)
     ·rw [e7]; exact ⟨rfl, N7, rfl⟩
theorem own_ef36_rmMA (m : MethodId) (o0 : Addr) (p1 : Int32) (p2 : Int32) : entryFrame m #[(.ref o0), (.int p1), (.int p2)] 4 = mkF m 0 #[.val (.ref o0), .val (.int p1), .val (.int p2), .unset] [] := by first | (simp [entryFrame, mkF, argsToLocals, Value.category]; done) | rfl
def Q_rmMA (Z : State) (o0 : Addr) (p1 : Int32) (p2 : Int32) (fl : Int32) (ma : Addr) (km : ClassId) (nm : Int32) (M : List Int32) (wa : Addr) (kw : ClassId) (wc : Int32) (Wa : List Int32) (out : Int32) (h0 : Heap) (n0 : Nat) (v : Option Value) (h : Heap) (L : List Loc) : Prop := (v = some (.int out)) ∧ Fr n0 L ∧ h = h0
abbrev wc36 : ByteArray := prog_23_method_10_code
theorem e36_0 : decode wc36 0 = .ok (.aload_n 0, 1) ∧ decode wc36 1 = .ok (.iconst 1, 1) ∧ decode wc36 2 = .ok (.iconst 0, 1) ∧ decode wc36 3 = .ok (.aload_n 0, 1) ∧ decode wc36 4 = .ok (.getfield 74, 3) := by decide +kernel
theorem e36_7 : decode wc36 7 = .ok (.iconst 1, 1) ∧ decode wc36 8 = .ok (.isub, 1) ∧ decode wc36 9 = .ok (.iload_n 1, 1) ∧ decode wc36 10 = .ok (.iload_n 2, 1) ∧ decode wc36 11 = .ok (.invokevirtual 116, 3) := by decide +kernel
theorem e36_14 : decode wc36 14 = .ok (.istore_n 3, 1) ∧ decode wc36 15 = .ok (.iload_n 3, 1) ∧ decode wc36 16 = .ok (.iconst (-1), 1) ∧ decode wc36 17 = .ok (.if_icmp .ne 7, 3) ∧ decode wc36 20 = .ok (.iconst (-1), 1) := by decide +kernel
theorem e36_21 : decode wc36 21 = .ok (.goto 9, 3) ∧ decode wc36 24 = .ok (.aload_n 0, 1) ∧ decode wc36 25 = .ok (.getfield 58, 3) ∧ decode wc36 28 = .ok (.iload_n 3, 1) ∧ decode wc36 29 = .ok (.iaload, 1) := by decide +kernel
theorem e36_30 : decode wc36 30 = .ok (.ireturn, 1) := by decide +kernel
def F_rmMA (p1 : Int32) (p2 : Int32) (fl : Int32) (M : List Int32) (Wa : List Int32) : Option (Int32) := (F_rmLM2 (1 : Int32) (0 : Int32) (fl - (1 : Int32)) p1 p2 M).bind fun o2 => ((if o2.toInt = -1 then some ((-1 : Int32)) else (own_get Wa o2).bind fun v6 => (some (v6))))
set_option maxRecDepth 65536 in
set_option maxHeartbeats 40000000 in
theorem rmMA (l : Launch) (Z : State) (a0 : Array Value) (hw : ∀ d ∈ tables_1, d.before a0 Z = true) (ws : List Jvm.Cond) (o0 : Addr) (p1 : Int32) (p2 : Int32) (fl : Int32) (ma : Addr) (km : ClassId) (nm : Int32) (M : List Int32) (wa : Addr) (kw : ClassId) (wc : Int32) (Wa : List Int32) (out : Int32) (h0 : Heap) (n0 : Nat) (Z0 : n0 ≤ h0.size) (E_o0 : Exa Z h0 o0 "com/example/portero/portero/matching/SegmentAutomaton") (F_o0_firstLeaf : Fld Z h0 o0 "com/example/portero/portero/matching/SegmentAutomaton" "firstLeaf" "I" (.int fl)) (F_o0_marks : Fld Z h0 o0 "com/example/portero/portero/matching/SegmentAutomaton" "marks" "[I" (.ref ma)) (V_ma : own_AI Z h0 ma km nm M) (F_o0_wordsAt : Fld Z h0 o0 "com/example/portero/portero/matching/SegmentAutomaton" "wordsAt" "[I" (.ref wa)) (V_wa : own_AI Z h0 wa kw wc Wa) (hF : F_rmMA p1 p2 fl M Wa = some out) :
  MetFree l (⟨"com/example/portero/portero/matching/SegmentAutomaton", "markedAbove", "(II)I"⟩ : MethodName) (head1 (Jvm.Cond.code (⟨"com/example/portero/portero/matching/SegmentAutomaton", "markedAbove", "(II)I"⟩ : MethodName) prog_23_method_10_code 4 (some .int) :: ws) ({ frames := 3, cells := 0, slots := 0, locals := 57 } : Room)) (fun a U => a = #[(.ref o0), (.int p1), (.int p2)] ∧ Z.Warmed39 U.vm ∧ U.heap = h0) (fun _ _ _ _ _ => True) (fun _ U o U' => ∃ v L, o = .returned v ∧ Q_rmMA Z o0 p1 p2 fl ma km nm M wa kw wc Wa out h0 n0 v U'.heap L ∧ FrameEnd U o U' L ({ frames := 3, cells := 0, slots := 0, locals := 57 } : Room).cells ({ frames := 3, cells := 0, slots := 0, locals := 57 } : Room).slots) := by
 refine MetFree.of_bodySF (plainFor_of_name own_pn0) hisR ?_
 intro p e s m args below meth c s₁ Bd hml0 hP hK
 obtain ⟨rfl, hZ, hh⟩ := hP
 have hW := @own_hW a0 Z hw
 have hx := Bd.exec
 have hby := Bd.bytes
 have hml : c.maxLocals = 4 := hml0
 have hown : s.vm.findClass "com/example/portero/portero/matching/SegmentAutomaton" = some m.cls := findClass_of_methodNamed Bd.named
 have hnm := (name_of_methodNamed Bd.named Bd.method).1
 have X0 : Stand p l e ({ frames := 3, cells := 0, slots := 0, locals := 57 } : Room) s m #[(.ref o0), (.int p1), (.int p2)] below meth c s₁ [] 0 0 := Stand.of_body Bd
 have e0 : s₁.heap = h0 := by rw [← hh, Bd.state]; rfl
 have N0 := Fr.nil n0
 refine (show own_End p e below s (s₁.setTop (entryFrame m #[(.ref o0), (.int p1), (.int p2)] 4)) (Q_rmMA Z o0 p1 p2 fl ma km nm M wa kw wc Wa out h0 n0) ({ frames := 3, cells := 0, slots := 0, locals := 57 } : Room).cells ({ frames := 3, cells := 0, slots := 0, locals := 57 } : Room).slots from ?_)
 refine own_go (fun τ κ => castTop (own_ef36_rmMA m o0 p1 p2) κ) ?_
 have li0 : (0 : Int32).toInt = 0 := rfl
 have li1 : (1 : Int32).toInt = 1 := rfl
 show own_End p e below s (s₁.setTop (mkF m 0 #[wR o0, wI p1, wI p2, wU] [])) _ _ _
 have H := hF
 refine o_aloadN X0 hx hby e36_0.1 rfl ?_
 refine o_iconst X0 hx hby e36_0.2.1 (x := 1) rfl ?_
 refine o_iconst X0 hx hby e36_0.2.2.1 (x := 0) rfl ?_
 refine o_aloadN X0 hx hby e36_0.2.2.2.1 rfl ?_
 refine o_getF X0 hx hZ hown (host := "") (Or.inl (hW 161 rfl)) Via.refl e0 F_o0_firstLeaf hby e36_0.2.2.2.2 fun T1 X1 e1 => ?_
 refine o_iconst X1 hx hby e36_7.1 (x := 1) rfl ?_
 refine o_isub X1 hx hby e36_7.2.1 ?_
 refine o_iloadN X1 hx hby e36_7.2.2.1 rfl ?_
 refine o_iloadN X1 hx hby e36_7.2.2.2.1 rfl ?_
 obtain ⟨o2, ho2, H⟩ := own_bnd H
 refine o_cP X1 hx hZ hown (y := wy37) (hW 196 rfl) (hW 36 rfl) (hW 197 rfl) (hW 198 rfl) (hW 199 rfl) (by decide) E_o0 (backOf (W := 0) (rmLM2 l Z a0 hw [] o0 (1 : Int32) (0 : Int32) (fl - (1 : Int32)) p1 p2 ma km nm M o2 h0 n0 Z0 E_o0 F_o0_marks V_ma ho2) hZ (hW 199 rfl) (hW 37 rfl) (by decide) (by decide)) (by rw [hml]; rfl) (argsL := [(.int 1), (.int 0), (.int (fl - (1 : Int32))), (.int p1), (.int p2)]) (rest := []) (lenOf own_pd3 rfl) rfl rfl (Nat.le_of_eq rfl) e1 (by decide) (by decide) hby e36_7.2.2.2.2 N0 fun T3 v3 Lc3 ls3 X3 hQ3 nq3 => ?_
 obtain ⟨rfl, N3q, e3⟩ := hQ3
 have N3 := nq3 N3q
 show own_End p e below s (T3.setTop (mkF m 14 _ [(.int o2)])) _ _ _
 refine o_istoreN X3 hx hby e36_14.1 (l' := #[wR o0, wI p1, wI p2, wI o2]) rfl ?_
 refine o_iloadN X3 hx hby e36_14.2.1 rfl ?_
 refine o_iconst X3 hx hby e36_14.2.2.1 (x := (-1)) rfl ?_
 by_cases c17_4 : o2.toInt = -1
 ·skip
  replace H := own_ifp c17_4 H
  refine o_icmpNo X3 hx hby e36_14.2.2.2.1 (own_eq (x := o2) (y := (-1)) (i := o2.toInt) (j := -1) rfl rfl c17_4).2 ?_
  refine o_iconst X3 hx hby e36_14.2.2.2.2 (x := (-1)) rfl ?_
  refine o_goto X3 hx (pc0 := 21) (pc' := 30) rfl hby e36_21.1 (by decide) (by decide) ?_
  obtain rfl := Option.some.inj H
  refine own_ret X3 (v := some (.int (-1))) (fun h => by rw [Bd.returns] at h; cases h) Bd.notSynchronized (fun fs hr => retI X3 hx Bd.returns (hb hby e36_30) hr) ?_ (by decide) (by decide)
  ·rw [e3]; exact ⟨rfl, N3, rfl⟩
 ·skip
  replace H := own_ifn c17_4 H
  refine o_icmpYes X3 hx (pc0 := 17) (pc' := 24) rfl hby e36_14.2.2.2.1 (own_ne (x := o2) (y := (-1)) (i := o2.toInt) (j := -1) rfl rfl c17_4).2 (by decide) (by decide) ?_
  refine o_aloadN X3 hx hby e36_21.2.1 rfl ?_
  refine o_getF X3 hx hZ hown (host := "") (Or.inl (hW 143 rfl)) Via.refl e3 F_o0_wordsAt hby e36_21.2.2.1 fun T5 X5 e5 => ?_
  refine o_iloadN X5 hx hby e36_21.2.2.2.1 rfl ?_
  obtain ⟨v6, hv6, H⟩ := own_bnd H
  refine o_ldI X5 hx hZ e5 V_wa hv6 hby e36_21.2.2.2.2 ?_
  obtain rfl := Option.some.inj H
  refine own_ret X5 (v := some (.int v6)) (fun h => by rw [Bd.returns] at h; cases h) Bd.notSynchronized (fun fs hr => retI X5 hx Bd.returns (hb hby e36_30) hr) ?_ (by decide) (by decide)
  ·rw [e5]; exact ⟨rfl, N3, rfl⟩
theorem own_ef35_rmLo (m : MethodId) (o0 : Addr) (p1 : Int32) : entryFrame m #[(.ref o0), (.int p1)] 3 = mkF m 0 #[.val (.ref o0), .val (.int p1), .unset] [] := by first | (simp [entryFrame, mkF, argsToLocals, Value.category]; done) | rfl
def Q_rmLo (Z : State) (o0 : Addr) (p1 : Int32) (fl : Int32) (ma : Addr) (km : ClassId) (nm : Int32) (M : List Int32) (wa : Addr) (kw : ClassId) (wc : Int32) (Wa : List Int32) (su : Addr) (ks : ClassId) (ms : Int32) (Su : List Int32) (pa : Addr) (kp : ClassId) (Pl : List Int32) (out : Int32) (h0 : Heap) (n0 : Nat) (v : Option Value) (h : Heap) (L : List Loc) : Prop := (v = some (.int out)) ∧ Fr n0 L ∧ h = h0
abbrev wc35 : ByteArray := prog_23_method_6_code
theorem e35_0 : decode wc35 0 = .ok (.aload_n 0, 1) ∧ decode wc35 1 = .ok (.getfield 42, 3) ∧ decode wc35 4 = .ok (.iload_n 1, 1) ∧ decode wc35 5 = .ok (.iaload, 1) ∧ decode wc35 6 = .ok (.istore_n 2, 1) := by decide +kernel
theorem e35_7 : decode wc35 7 = .ok (.iload_n 2, 1) ∧ decode wc35 8 = .ok (.iconst (-1), 1) ∧ decode wc35 9 = .ok (.if_icmp .ne 7, 3) ∧ decode wc35 12 = .ok (.iconst (-1), 1) ∧ decode wc35 13 = .ok (.goto 19, 3) := by decide +kernel
theorem e35_32 : decode wc35 32 = .ok (.ireturn, 1) := by decide +kernel
theorem e35_16 : decode wc35 16 = .ok (.aload_n 0, 1) ∧ decode wc35 17 = .ok (.aload_n 0, 1) ∧ decode wc35 18 = .ok (.getfield 52, 3) ∧ decode wc35 21 = .ok (.iload_n 2, 1) ∧ decode wc35 22 = .ok (.iaload, 1) := by decide +kernel
theorem e35_23 : decode wc35 23 = .ok (.aload_n 0, 1) ∧ decode wc35 24 = .ok (.getfield 52, 3) ∧ decode wc35 27 = .ok (.iload_n 2, 1) ∧ decode wc35 28 = .ok (.iaload, 1) ∧ decode wc35 29 = .ok (.invokevirtual 89, 3) := by decide +kernel
abbrev wy36 : MethodName := (⟨"com/example/portero/portero/matching/SegmentAutomaton", "markedAbove", "(II)I"⟩ : MethodName)
def F_rmLo (p1 : Int32) (fl : Int32) (M : List Int32) (Wa : List Int32) (Su : List Int32) (Pl : List Int32) : Option (Int32) := (own_get Su p1).bind fun v2 => ((if v2.toInt = -1 then some ((-1 : Int32)) else (own_get Pl v2).bind fun v5 => ((own_get Pl v2).bind fun v7 => ((F_rmMA v5 v7 fl M Wa).bind fun o8 => (some (o8))))))
set_option maxRecDepth 65536 in
set_option maxHeartbeats 40000000 in
theorem rmLo (l : Launch) (Z : State) (a0 : Array Value) (hw : ∀ d ∈ tables_1, d.before a0 Z = true) (ws : List Jvm.Cond) (o0 : Addr) (p1 : Int32) (fl : Int32) (ma : Addr) (km : ClassId) (nm : Int32) (M : List Int32) (wa : Addr) (kw : ClassId) (wc : Int32) (Wa : List Int32) (su : Addr) (ks : ClassId) (ms : Int32) (Su : List Int32) (pa : Addr) (kp : ClassId) (Pl : List Int32) (out : Int32) (h0 : Heap) (n0 : Nat) (Z0 : n0 ≤ h0.size) (E_o0 : Exa Z h0 o0 "com/example/portero/portero/matching/SegmentAutomaton") (F_o0_firstLeaf : Fld Z h0 o0 "com/example/portero/portero/matching/SegmentAutomaton" "firstLeaf" "I" (.int fl)) (F_o0_marks : Fld Z h0 o0 "com/example/portero/portero/matching/SegmentAutomaton" "marks" "[I" (.ref ma)) (V_ma : own_AI Z h0 ma km nm M) (F_o0_wordsAt : Fld Z h0 o0 "com/example/portero/portero/matching/SegmentAutomaton" "wordsAt" "[I" (.ref wa)) (V_wa : own_AI Z h0 wa kw wc Wa) (F_o0_suffixes : Fld Z h0 o0 "com/example/portero/portero/matching/SegmentAutomaton" "suffixes" "[I" (.ref su)) (V_su : own_AI Z h0 su ks ms Su) (F_o0_places : Fld Z h0 o0 "com/example/portero/portero/matching/SegmentAutomaton" "places" "[I" (.ref pa)) (V_pa : own_AI Z h0 pa kp wc Pl) (hF : F_rmLo p1 fl M Wa Su Pl = some out) :
  MetFree l (⟨"com/example/portero/portero/matching/SegmentAutomaton", "longestMarked", "(I)I"⟩ : MethodName) (head1 (Jvm.Cond.code (⟨"com/example/portero/portero/matching/SegmentAutomaton", "longestMarked", "(I)I"⟩ : MethodName) prog_23_method_6_code 3 (some .int) :: ws) ({ frames := 4, cells := 0, slots := 0, locals := 72 } : Room)) (fun a U => a = #[(.ref o0), (.int p1)] ∧ Z.Warmed39 U.vm ∧ U.heap = h0) (fun _ _ _ _ _ => True) (fun _ U o U' => ∃ v L, o = .returned v ∧ Q_rmLo Z o0 p1 fl ma km nm M wa kw wc Wa su ks ms Su pa kp Pl out h0 n0 v U'.heap L ∧ FrameEnd U o U' L ({ frames := 4, cells := 0, slots := 0, locals := 72 } : Room).cells ({ frames := 4, cells := 0, slots := 0, locals := 72 } : Room).slots) := by
 refine MetFree.of_bodySF (plainFor_of_name own_pn0) hisR ?_
 intro p e s m args below meth c s₁ Bd hml0 hP hK
 obtain ⟨rfl, hZ, hh⟩ := hP
 have hW := @own_hW a0 Z hw
 have hx := Bd.exec
 have hby := Bd.bytes
 have hml : c.maxLocals = 3 := hml0
 have hown : s.vm.findClass "com/example/portero/portero/matching/SegmentAutomaton" = some m.cls := findClass_of_methodNamed Bd.named
 have hnm := (name_of_methodNamed Bd.named Bd.method).1
 have X0 : Stand p l e ({ frames := 4, cells := 0, slots := 0, locals := 72 } : Room) s m #[(.ref o0), (.int p1)] below meth c s₁ [] 0 0 := Stand.of_body Bd
 have e0 : s₁.heap = h0 := by rw [← hh, Bd.state]; rfl
 have N0 := Fr.nil n0
 refine (show own_End p e below s (s₁.setTop (entryFrame m #[(.ref o0), (.int p1)] 3)) (Q_rmLo Z o0 p1 fl ma km nm M wa kw wc Wa su ks ms Su pa kp Pl out h0 n0) ({ frames := 4, cells := 0, slots := 0, locals := 72 } : Room).cells ({ frames := 4, cells := 0, slots := 0, locals := 72 } : Room).slots from ?_)
 refine own_go (fun τ κ => castTop (own_ef35_rmLo m o0 p1) κ) ?_
 have li0 : (0 : Int32).toInt = 0 := rfl
 have li1 : (1 : Int32).toInt = 1 := rfl
 show own_End p e below s (s₁.setTop (mkF m 0 #[wR o0, wI p1, wU] [])) _ _ _
 have H := hF
 refine o_aloadN X0 hx hby e35_0.1 rfl ?_
 refine o_getF X0 hx hZ hown (host := "") (Or.inl (hW 61 rfl)) Via.refl e0 F_o0_suffixes hby e35_0.2.1 fun T1 X1 e1 => ?_
 refine o_iloadN X1 hx hby e35_0.2.2.1 rfl ?_
 obtain ⟨v2, hv2, H⟩ := own_bnd H
 refine o_ldI X1 hx hZ e1 V_su hv2 hby e35_0.2.2.2.1 ?_
 refine o_istoreN X1 hx hby e35_0.2.2.2.2 (l' := #[wR o0, wI p1, wI v2]) rfl ?_
 refine o_iloadN X1 hx hby e35_7.1 rfl ?_
 refine o_iconst X1 hx hby e35_7.2.1 (x := (-1)) rfl ?_
 by_cases c9_3 : v2.toInt = -1
 ·skip
  replace H := own_ifp c9_3 H
  refine o_icmpNo X1 hx hby e35_7.2.2.1 (own_eq (x := v2) (y := (-1)) (i := v2.toInt) (j := -1) rfl rfl c9_3).2 ?_
  refine o_iconst X1 hx hby e35_7.2.2.2.1 (x := (-1)) rfl ?_
  refine o_goto X1 hx (pc0 := 13) (pc' := 32) rfl hby e35_7.2.2.2.2 (by decide) (by decide) ?_
  obtain rfl := Option.some.inj H
  refine own_ret X1 (v := some (.int (-1))) (fun h => by rw [Bd.returns] at h; cases h) Bd.notSynchronized (fun fs hr => retI X1 hx Bd.returns (hb hby e35_32) hr) ?_ (by decide) (by decide)
  ·rw [e1]; exact ⟨rfl, N0, rfl⟩
 ·skip
  replace H := own_ifn c9_3 H
  refine o_icmpYes X1 hx (pc0 := 9) (pc' := 16) rfl hby e35_7.2.2.1 (own_ne (x := v2) (y := (-1)) (i := v2.toInt) (j := -1) rfl rfl c9_3).2 (by decide) (by decide) ?_
  refine o_aloadN X1 hx hby e35_16.1 rfl ?_
  refine o_aloadN X1 hx hby e35_16.2.1 rfl ?_
  refine o_getF X1 hx hZ hown (host := "") (Or.inl (hW 139 rfl)) Via.refl e1 F_o0_places hby e35_16.2.2.1 fun T4 X4 e4 => ?_
  refine o_iloadN X4 hx hby e35_16.2.2.2.1 rfl ?_
  obtain ⟨v5, hv5, H⟩ := own_bnd H
  refine o_ldI X4 hx hZ e4 V_pa hv5 hby e35_16.2.2.2.2 ?_
  refine o_aloadN X4 hx hby e35_23.1 rfl ?_
  refine o_getF X4 hx hZ hown (host := "") (Or.inl (hW 139 rfl)) Via.refl e4 F_o0_places hby e35_23.2.1 fun T6 X6 e6 => ?_
  refine o_iloadN X6 hx hby e35_23.2.2.1 rfl ?_
  obtain ⟨v7, hv7, H⟩ := own_bnd H
  refine o_ldI X6 hx hZ e6 V_pa hv7 hby e35_23.2.2.2.1 ?_
  obtain ⟨o8, ho8, H⟩ := own_bnd H
  refine o_cP X6 hx hZ hown (y := wy36) (hW 192 rfl) (hW 36 rfl) (hW 193 rfl) (hW 194 rfl) (hW 195 rfl) (by decide) E_o0 (backOf (W := 0) (rmMA l Z a0 hw [] o0 v5 v7 fl ma km nm M wa kw wc Wa o8 h0 n0 Z0 E_o0 F_o0_firstLeaf F_o0_marks V_ma F_o0_wordsAt V_wa ho8) hZ (hW 195 rfl) (hW 37 rfl) (by decide) (by decide)) (by rw [hml]; rfl) (argsL := [(.int v5), (.int v7)]) (rest := []) (lenOf own_pd1 rfl) rfl rfl (Nat.le_of_eq rfl) e6 (by decide) (by decide) hby e35_23.2.2.2.2 N0 fun T9 v9 Lc9 ls9 X9 hQ9 nq9 => ?_
  obtain ⟨rfl, N9q, e9⟩ := hQ9
  have N9 := nq9 N9q
  show own_End p e below s (T9.setTop (mkF m 32 _ [(.int o8)])) _ _ _
  obtain rfl := Option.some.inj H
  refine own_ret X9 (v := some (.int o8)) (fun h => by rw [Bd.returns] at h; cases h) Bd.notSynchronized (fun fs hr => retI X9 hx Bd.returns (hb hby e35_32) hr) ?_ (by decide) (by decide)
  ·rw [e9]; exact ⟨rfl, N9, rfl⟩
theorem own_ef30_rmWd (m : MethodId) (o0 : Addr) (p1 : Int32) : entryFrame m #[(.ref o0), (.int p1)] 2 = mkF m 0 #[.val (.ref o0), .val (.int p1)] [] := by first | (simp [entryFrame, mkF, argsToLocals, Value.category]; done) | rfl
def Q_rmWd (Z : State) (o0 : Addr) (p1 : Int32) (wo : Addr) (kw : ClassId) (Wo : List Int32) (out : Int32) (h0 : Heap) (n0 : Nat) (v : Option Value) (h : Heap) (L : List Loc) : Prop := (v = some (.int out)) ∧ Fr n0 L ∧ h = h0
abbrev wc30 : ByteArray := prog_23_method_3_code
theorem e30_0 : decode wc30 0 = .ok (.aload_n 0, 1) ∧ decode wc30 1 = .ok (.getfield 45, 3) ∧ decode wc30 4 = .ok (.iload_n 1, 1) ∧ decode wc30 5 = .ok (.iaload, 1) ∧ decode wc30 6 = .ok (.ireturn, 1) := by decide +kernel
def F_rmWd (p1 : Int32) (Wo : List Int32) : Option (Int32) := (own_get Wo p1).bind fun v2 => (some (v2))
set_option maxRecDepth 65536 in
set_option maxHeartbeats 40000000 in
theorem rmWd (l : Launch) (Z : State) (a0 : Array Value) (hw : ∀ d ∈ tables_1, d.before a0 Z = true) (ws : List Jvm.Cond) (o0 : Addr) (p1 : Int32) (wo : Addr) (kw : ClassId) (Wo : List Int32) (out : Int32) (h0 : Heap) (n0 : Nat) (Z0 : n0 ≤ h0.size) (E_o0 : Exa Z h0 o0 "com/example/portero/portero/matching/SegmentAutomaton") (F_o0_words : Fld Z h0 o0 "com/example/portero/portero/matching/SegmentAutomaton" "words" "[I" (.ref wo)) (V_wo : own_AI Z h0 wo kw (3 : Int32) Wo) (hF : F_rmWd p1 Wo = some out) :
  MetFree l (⟨"com/example/portero/portero/matching/SegmentAutomaton", "word", "(I)I"⟩ : MethodName) (head1 (Jvm.Cond.code (⟨"com/example/portero/portero/matching/SegmentAutomaton", "word", "(I)I"⟩ : MethodName) prog_23_method_3_code 2 (some .int) :: ws) ({ frames := 0, cells := 0, slots := 0, locals := 0 } : Room)) (fun a U => a = #[(.ref o0), (.int p1)] ∧ Z.Warmed39 U.vm ∧ U.heap = h0) (fun _ _ _ _ _ => True) (fun _ U o U' => ∃ v L, o = .returned v ∧ Q_rmWd Z o0 p1 wo kw Wo out h0 n0 v U'.heap L ∧ FrameEnd U o U' L ({ frames := 0, cells := 0, slots := 0, locals := 0 } : Room).cells ({ frames := 0, cells := 0, slots := 0, locals := 0 } : Room).slots) := by
 refine MetFree.of_bodySF (plainFor_of_name own_pn0) hisR ?_
 intro p e s m args below meth c s₁ Bd hml0 hP hK
 obtain ⟨rfl, hZ, hh⟩ := hP
 have hW := @own_hW a0 Z hw
 have hx := Bd.exec
 have hby := Bd.bytes
 have hml : c.maxLocals = 2 := hml0
 have hown : s.vm.findClass "com/example/portero/portero/matching/SegmentAutomaton" = some m.cls := findClass_of_methodNamed Bd.named
 have hnm := (name_of_methodNamed Bd.named Bd.method).1
 have X0 : Stand p l e ({ frames := 0, cells := 0, slots := 0, locals := 0 } : Room) s m #[(.ref o0), (.int p1)] below meth c s₁ [] 0 0 := Stand.of_body Bd
 have e0 : s₁.heap = h0 := by rw [← hh, Bd.state]; rfl
 have N0 := Fr.nil n0
 refine (show own_End p e below s (s₁.setTop (entryFrame m #[(.ref o0), (.int p1)] 2)) (Q_rmWd Z o0 p1 wo kw Wo out h0 n0) ({ frames := 0, cells := 0, slots := 0, locals := 0 } : Room).cells ({ frames := 0, cells := 0, slots := 0, locals := 0 } : Room).slots from ?_)
 refine own_go (fun τ κ => castTop (own_ef30_rmWd m o0 p1) κ) ?_
 have li0 : (0 : Int32).toInt = 0 := rfl
 have li1 : (1 : Int32).toInt = 1 := rfl
 show own_End p e below s (s₁.setTop (mkF m 0 #[wR o0, wI p1] [])) _ _ _
 have H := hF
 refine o_aloadN X0 hx hby e30_0.1 rfl ?_
 refine o_getF X0 hx hZ hown (host := "") (Or.inl (hW 63 rfl)) Via.refl e0 F_o0_words hby e30_0.2.1 fun T1 X1 e1 => ?_
 refine o_iloadN X1 hx hby e30_0.2.2.1 rfl ?_
 obtain ⟨v2, hv2, H⟩ := own_bnd H
 refine o_ldI X1 hx hZ e1 V_wo hv2 hby e30_0.2.2.2.1 ?_
 obtain rfl := Option.some.inj H
 refine own_ret X1 (v := some (.int v2)) (fun h => by rw [Bd.returns] at h; cases h) Bd.notSynchronized (fun fs hr => retI X1 hx Bd.returns (hb hby e30_0.2.2.2.2) hr) ?_ (by decide) (by decide)
 ·rw [e1]; exact ⟨rfl, N0, rfl⟩
theorem own_pn3 : plainName "jdk/internal/util/Preconditions" = true := by first | (simp [plainName, overriddenIn]; done) | decide +kernel
theorem own_ef22_rmCkN (m : MethodId) (p0 : Int32) (p1 : Int32) : entryFrame m #[(.int p0), (.int p1), .null] 3 = mkF m 0 #[.val (.int p0), .val (.int p1), .val .null] [] := by first | (simp [entryFrame, mkF, argsToLocals, Value.category]; done) | rfl
def Q_rmCkN (Z : State) (p0 : Int32) (p1 : Int32)  (h0 : Heap) (n0 : Nat) (v : Option Value) (h : Heap) (L : List Loc) : Prop := (v = some (.int p0)) ∧ Fr n0 L ∧ h = h0
abbrev wc22 : ByteArray := jdk_41_method_11_code
theorem e22_0 : decode wc22 0 = .ok (.iload_n 0, 1) ∧ decode wc22 1 = .ok (.ifCond .lt 8, 3) ∧ decode wc22 4 = .ok (.iload_n 0, 1) ∧ decode wc22 5 = .ok (.iload_n 1, 1) ∧ decode wc22 6 = .ok (.if_icmp .lt 10, 3) := by decide +kernel
theorem e22_16 : decode wc22 16 = .ok (.iload_n 0, 1) ∧ decode wc22 17 = .ok (.ireturn, 1) := by decide +kernel
set_option maxRecDepth 65536 in
set_option maxHeartbeats 40000000 in
theorem rmCkN (l : Launch) (Z : State) (a0 : Array Value) (hw : ∀ d ∈ tables_1, d.before a0 Z = true) (ws : List Jvm.Cond) (p0 : Int32) (p1 : Int32)  (h0 : Heap) (n0 : Nat) (Z0 : n0 ≤ h0.size) (hi0 : ¬ p0.toInt < 0) (hi1 : p0.toInt < p1.toInt) :
  MetFree l (⟨"jdk/internal/util/Preconditions", "checkIndex", "(IILjava/util/function/BiFunction;)I"⟩ : MethodName) (head1 (Jvm.Cond.code (⟨"jdk/internal/util/Preconditions", "checkIndex", "(IILjava/util/function/BiFunction;)I"⟩ : MethodName) jdk_41_method_11_code 3 (some .int) :: ws) ({ frames := 0, cells := 0, slots := 0, locals := 0 } : Room)) (fun a U => a = #[(.int p0), (.int p1), .null] ∧ Z.Warmed39 U.vm ∧ U.heap = h0) (fun _ _ _ _ _ => True) (fun _ U o U' => ∃ v L, o = .returned v ∧ Q_rmCkN Z p0 p1  h0 n0 v U'.heap L ∧ FrameEnd U o U' L ({ frames := 0, cells := 0, slots := 0, locals := 0 } : Room).cells ({ frames := 0, cells := 0, slots := 0, locals := 0 } : Room).slots) := by
 refine MetFree.of_bodySF (plainFor_of_name own_pn3) hisR ?_
 intro p e s m args below meth c s₁ Bd hml0 hP hK
 obtain ⟨rfl, hZ, hh⟩ := hP
 have hW := @own_hW a0 Z hw
 have hx := Bd.exec
 have hby := Bd.bytes
 have hml : c.maxLocals = 3 := hml0
 have hown : s.vm.findClass "jdk/internal/util/Preconditions" = some m.cls := findClass_of_methodNamed Bd.named
 have hnm := (name_of_methodNamed Bd.named Bd.method).1
 have X0 : Stand p l e ({ frames := 0, cells := 0, slots := 0, locals := 0 } : Room) s m #[(.int p0), (.int p1), .null] below meth c s₁ [] 0 0 := Stand.of_body Bd
 have e0 : s₁.heap = h0 := by rw [← hh, Bd.state]; rfl
 have N0 := Fr.nil n0
 refine (show own_End p e below s (s₁.setTop (entryFrame m #[(.int p0), (.int p1), .null] 3)) (Q_rmCkN Z p0 p1  h0 n0) ({ frames := 0, cells := 0, slots := 0, locals := 0 } : Room).cells ({ frames := 0, cells := 0, slots := 0, locals := 0 } : Room).slots from ?_)
 refine own_go (fun τ κ => castTop (own_ef22_rmCkN m p0 p1) κ) ?_
 have li0 : (0 : Int32).toInt = 0 := rfl
 have li1 : (1 : Int32).toInt = 1 := rfl
 show own_End p e below s (s₁.setTop (mkF m 0 #[wI p0, wI p1, .val .null] [])) _ _ _
 refine o_iloadN X0 hx hby e22_0.1 rfl ?_
 refine o_ifNo X0 hx hby e22_0.2.1 ((if0 _ _).trans (own_flt (x := p0) (y := 0) (i := p0.toInt) (j := 0) rfl rfl hi0).1) ?_
 refine o_iloadN X0 hx hby e22_0.2.2.1 rfl ?_
 refine o_iloadN X0 hx hby e22_0.2.2.2.1 rfl ?_
 refine o_icmpYes X0 hx (pc0 := 6) (pc' := 16) rfl hby e22_0.2.2.2.2 (own_tlt (x := p0) (y := p1) (i := p0.toInt) (j := p1.toInt) rfl rfl hi1).1 (by decide) (by decide) ?_
 refine o_iloadN X0 hx hby e22_16.1 rfl ?_
 refine own_ret X0 (v := some (.int p0)) (fun h => by rw [Bd.returns] at h; cases h) Bd.notSynchronized (fun fs hr => retI X0 hx Bd.returns (hb hby e22_16.2) hr) ?_ (by decide) (by decide)
 ·rw [e0]; exact ⟨rfl, N0, rfl⟩
theorem own_ef22_rmCkR (m : MethodId) (p0 : Int32) (p1 : Int32) (o2 : Addr) : entryFrame m #[(.int p0), (.int p1), (.ref o2)] 3 = mkF m 0 #[.val (.int p0), .val (.int p1), .val (.ref o2)] [] := by first | (simp [entryFrame, mkF, argsToLocals, Value.category]; done) | rfl
def Q_rmCkR (Z : State) (p0 : Int32) (p1 : Int32) (o2 : Addr)  (h0 : Heap) (n0 : Nat) (v : Option Value) (h : Heap) (L : List Loc) : Prop := (v = some (.int p0)) ∧ Fr n0 L ∧ h = h0
set_option maxRecDepth 65536 in
set_option maxHeartbeats 40000000 in
theorem rmCkR (l : Launch) (Z : State) (a0 : Array Value) (hw : ∀ d ∈ tables_1, d.before a0 Z = true) (ws : List Jvm.Cond) (p0 : Int32) (p1 : Int32) (o2 : Addr)  (h0 : Heap) (n0 : Nat) (Z0 : n0 ≤ h0.size) (hi0 : ¬ p0.toInt < 0) (hi1 : p0.toInt < p1.toInt) :
  MetFree l (⟨"jdk/internal/util/Preconditions", "checkIndex", "(IILjava/util/function/BiFunction;)I"⟩ : MethodName) (head1 (Jvm.Cond.code (⟨"jdk/internal/util/Preconditions", "checkIndex", "(IILjava/util/function/BiFunction;)I"⟩ : MethodName) jdk_41_method_11_code 3 (some .int) :: ws) ({ frames := 0, cells := 0, slots := 0, locals := 0 } : Room)) (fun a U => a = #[(.int p0), (.int p1), (.ref o2)] ∧ Z.Warmed39 U.vm ∧ U.heap = h0) (fun _ _ _ _ _ => True) (fun _ U o U' => ∃ v L, o = .returned v ∧ Q_rmCkR Z p0 p1 o2  h0 n0 v U'.heap L ∧ FrameEnd U o U' L ({ frames := 0, cells := 0, slots := 0, locals := 0 } : Room).cells ({ frames := 0, cells := 0, slots := 0, locals := 0 } : Room).slots) := by
 refine MetFree.of_bodySF (plainFor_of_name own_pn3) hisR ?_
 intro p e s m args below meth c s₁ Bd hml0 hP hK
 obtain ⟨rfl, hZ, hh⟩ := hP
 have hW := @own_hW a0 Z hw
 have hx := Bd.exec
 have hby := Bd.bytes
 have hml : c.maxLocals = 3 := hml0
 have hown : s.vm.findClass "jdk/internal/util/Preconditions" = some m.cls := findClass_of_methodNamed Bd.named
 have hnm := (name_of_methodNamed Bd.named Bd.method).1
 have X0 : Stand p l e ({ frames := 0, cells := 0, slots := 0, locals := 0 } : Room) s m #[(.int p0), (.int p1), (.ref o2)] below meth c s₁ [] 0 0 := Stand.of_body Bd
 have e0 : s₁.heap = h0 := by rw [← hh, Bd.state]; rfl
 have N0 := Fr.nil n0
 refine (show own_End p e below s (s₁.setTop (entryFrame m #[(.int p0), (.int p1), (.ref o2)] 3)) (Q_rmCkR Z p0 p1 o2  h0 n0) ({ frames := 0, cells := 0, slots := 0, locals := 0 } : Room).cells ({ frames := 0, cells := 0, slots := 0, locals := 0 } : Room).slots from ?_)
 refine own_go (fun τ κ => castTop (own_ef22_rmCkR m p0 p1 o2) κ) ?_
 have li0 : (0 : Int32).toInt = 0 := rfl
 have li1 : (1 : Int32).toInt = 1 := rfl
 show own_End p e below s (s₁.setTop (mkF m 0 #[wI p0, wI p1, wR o2] [])) _ _ _
 refine o_iloadN X0 hx hby e22_0.1 rfl ?_
 refine o_ifNo X0 hx hby e22_0.2.1 ((if0 _ _).trans (own_flt (x := p0) (y := 0) (i := p0.toInt) (j := 0) rfl rfl hi0).1) ?_
 refine o_iloadN X0 hx hby e22_0.2.2.1 rfl ?_
 refine o_iloadN X0 hx hby e22_0.2.2.2.1 rfl ?_
 refine o_icmpYes X0 hx (pc0 := 6) (pc' := 16) rfl hby e22_0.2.2.2.2 (own_tlt (x := p0) (y := p1) (i := p0.toInt) (j := p1.toInt) rfl rfl hi1).1 (by decide) (by decide) ?_
 refine o_iloadN X0 hx hby e22_16.1 rfl ?_
 refine own_ret X0 (v := some (.int p0)) (fun h => by rw [Bd.returns] at h; cases h) Bd.notSynchronized (fun fs hr => retI X0 hx Bd.returns (hb hby e22_16.2) hr) ?_ (by decide) (by decide)
 ·rw [e0]; exact ⟨rfl, N0, rfl⟩
theorem own_pn4 : plainName "java/lang/String" = true := by first | (simp [plainName, overriddenIn]; done) | decide +kernel
theorem own_ef21_rmCk (m : MethodId) (p0 : Int32) (p1 : Int32) : entryFrame m #[(.int p0), (.int p1)] 2 = mkF m 0 #[.val (.int p0), .val (.int p1)] [] := by first | (simp [entryFrame, mkF, argsToLocals, Value.category]; done) | rfl
def Q_rmCk (Z : State) (p0 : Int32) (p1 : Int32) (sv : Value) (h0 : Heap) (n0 : Nat) (v : Option Value) (h : Heap) (L : List Loc) : Prop := (v = none) ∧ Fr n0 L ∧ h = h0
abbrev wc21 : ByteArray := jdk_42_method_155_code
theorem e21_0 : decode wc21 0 = .ok (.iload_n 0, 1) ∧ decode wc21 1 = .ok (.iload_n 1, 1) ∧ decode wc21 2 = .ok (.getstatic 1053, 3) ∧ decode wc21 5 = .ok (.invokestatic 1059, 3) ∧ decode wc21 8 = .ok (.pop, 1) := by decide +kernel
theorem own_pd4 : parseMethodDescriptor "(IILjava/util/function/BiFunction;)I" = some ⟨[.int, .int, (.object "java/util/function/BiFunction")], some .int⟩ := by decide +kernel
abbrev wy22 : MethodName := (⟨"jdk/internal/util/Preconditions", "checkIndex", "(IILjava/util/function/BiFunction;)I"⟩ : MethodName)
theorem e21_9 : decode wc21 9 = .ok (.return_, 1) := by decide +kernel
set_option maxRecDepth 65536 in
set_option maxHeartbeats 40000000 in
theorem rmCk (l : Launch) (Z : State) (a0 : Array Value) (hw : ∀ d ∈ tables_1, d.before a0 Z = true) (ws : List Jvm.Cond) (p0 : Int32) (p1 : Int32) (sv : Value) (h0 : Heap) (n0 : Nat) (Z0 : n0 ≤ h0.size) (hi0 : ¬ p0.toInt < 0) (hi1 : p0.toInt < p1.toInt) (Ol : Old Z n0 h0) (S_SF : Sta Z Z.heap "jdk/internal/util/Preconditions" "SIOOBE_FORMATTER" "Ljava/util/function/BiFunction;" sv) (hsv : sv = .null ∨ ∃ a : Addr, sv = .ref a) :
  MetFree l (⟨"java/lang/String", "checkIndex", "(II)V"⟩ : MethodName) (head1 (Jvm.Cond.code (⟨"java/lang/String", "checkIndex", "(II)V"⟩ : MethodName) jdk_42_method_155_code 2 none :: ws) ({ frames := 1, cells := 0, slots := 0, locals := 14 } : Room)) (fun a U => a = #[(.int p0), (.int p1)] ∧ Z.Warmed39 U.vm ∧ U.heap = h0) (fun _ _ _ _ _ => True) (fun _ U o U' => ∃ v L, o = .returned v ∧ Q_rmCk Z p0 p1 sv h0 n0 v U'.heap L ∧ FrameEnd U o U' L ({ frames := 1, cells := 0, slots := 0, locals := 14 } : Room).cells ({ frames := 1, cells := 0, slots := 0, locals := 14 } : Room).slots) := by
 refine MetFree.of_bodySF (plainFor_of_name own_pn4) hisR ?_
 intro p e s m args below meth c s₁ Bd hml0 hP hK
 obtain ⟨rfl, hZ, hh⟩ := hP
 have hW := @own_hW a0 Z hw
 have hx := Bd.exec
 have hby := Bd.bytes
 have hml : c.maxLocals = 2 := hml0
 have hown : s.vm.findClass "java/lang/String" = some m.cls := findClass_of_methodNamed Bd.named
 have hnm := (name_of_methodNamed Bd.named Bd.method).1
 have X0 : Stand p l e ({ frames := 1, cells := 0, slots := 0, locals := 14 } : Room) s m #[(.int p0), (.int p1)] below meth c s₁ [] 0 0 := Stand.of_body Bd
 have e0 : s₁.heap = h0 := by rw [← hh, Bd.state]; rfl
 have N0 := Fr.nil n0
 refine (show own_End p e below s (s₁.setTop (entryFrame m #[(.int p0), (.int p1)] 2)) (Q_rmCk Z p0 p1 sv h0 n0) ({ frames := 1, cells := 0, slots := 0, locals := 14 } : Room).cells ({ frames := 1, cells := 0, slots := 0, locals := 14 } : Room).slots from ?_)
 refine own_go (fun τ κ => castTop (own_ef21_rmCk m p0 p1) κ) ?_
 have li0 : (0 : Int32).toInt = 0 := rfl
 have li1 : (1 : Int32).toInt = 1 := rfl
 show own_End p e below s (s₁.setTop (mkF m 0 #[wI p0, wI p1] [])) _ _ _
 rcases hsv with rfl | ⟨sva, rfl⟩
 ·skip
  refine o_iloadN X0 hx hby e21_0.1 rfl ?_
  refine o_iloadN X0 hx hby e21_0.2.1 rfl ?_
  obtain ⟨T1, X1, e1, st1⟩ := getS2 X0 hx hZ hown (host := "") (Or.inl (hW 120 rfl)) Via.refl e0 (S_SF.ext Ol.2) (g := (mkF m 2 #[wI p0, wI p1] [(.int p1), (.int p0)])) rfl (hb hby e21_0.2.2.1)
  refine own_go st1 ?_
  show own_End p e below s (T1.setTop (mkF m 5 _ [.null, (.int p1), (.int p0)])) _ _ _
  refine o_cS X1 hx hZ hown (y := wy22) (hW 122 rfl) (hW 123 rfl) (hW 121 rfl) (hW 124 rfl) (by decide) (backOf (W := 0) (rmCkN l Z a0 hw [] p0 p1 h0 n0 Z0 hi0 hi1) hZ (hW 124 rfl) (hW 121 rfl) (by decide) (by decide)) (by rw [hml]; rfl) (argsL := [(.int p0), (.int p1), .null]) (rest := []) (lenOf own_pd4 rfl) rfl rfl (Nat.le_of_eq rfl) e1 (by decide) (by decide) hby e21_0.2.2.2.1 N0 fun T2 v2 Lc2 ls2 X2 hQ2 nq2 => ?_
  obtain ⟨rfl, N2q, e2⟩ := hQ2
  have N2 := nq2 N2q
  show own_End p e below s (T2.setTop (mkF m 8 _ [(.int p0)])) _ _ _
  refine own_go (fun τ κ => XS.pop X2.here hx rfl (hb hby e21_0.2.2.2.2) rfl rfl κ) ?_
  show own_End p e below s (T2.setTop (mkF m 9 _ [])) _ _ _
  refine own_ret X2 (v := none) (fun _ => rfl) Bd.notSynchronized (fun fs hr => X2.returnOut hx Bd.returns (hb hby e21_9) hr) ?_ (by decide) (by decide)
  ·rw [e2]; exact ⟨rfl, N2, rfl⟩
 ·skip
  refine o_iloadN X0 hx hby e21_0.1 rfl ?_
  refine o_iloadN X0 hx hby e21_0.2.1 rfl ?_
  obtain ⟨T3, X3, e3, st3⟩ := getS2 X0 hx hZ hown (host := "") (Or.inl (hW 120 rfl)) Via.refl e0 (S_SF.ext Ol.2) (g := (mkF m 2 #[wI p0, wI p1] [(.int p1), (.int p0)])) rfl (hb hby e21_0.2.2.1)
  refine own_go st3 ?_
  show own_End p e below s (T3.setTop (mkF m 5 _ [(.ref sva), (.int p1), (.int p0)])) _ _ _
  refine o_cS X3 hx hZ hown (y := wy22) (hW 122 rfl) (hW 123 rfl) (hW 121 rfl) (hW 124 rfl) (by decide) (backOf (W := 0) (rmCkR l Z a0 hw [] p0 p1 sva h0 n0 Z0 hi0 hi1) hZ (hW 124 rfl) (hW 121 rfl) (by decide) (by decide)) (by rw [hml]; rfl) (argsL := [(.int p0), (.int p1), (.ref sva)]) (rest := []) (lenOf own_pd4 rfl) rfl rfl (Nat.le_of_eq rfl) e3 (by decide) (by decide) hby e21_0.2.2.2.1 N0 fun T4 v4 Lc4 ls4 X4 hQ4 nq4 => ?_
  obtain ⟨rfl, N4q, e4⟩ := hQ4
  have N4 := nq4 N4q
  show own_End p e below s (T4.setTop (mkF m 8 _ [(.int p0)])) _ _ _
  refine own_go (fun τ κ => XS.pop X4.here hx rfl (hb hby e21_0.2.2.2.2) rfl rfl κ) ?_
  show own_End p e below s (T4.setTop (mkF m 9 _ [])) _ _ _
  refine own_ret X4 (v := none) (fun _ => rfl) Bd.notSynchronized (fun fs hr => X4.returnOut hx Bd.returns (hb hby e21_9) hr) ?_ (by decide) (by decide)
  ·rw [e4]; exact ⟨rfl, N4, rfl⟩
theorem own_pn5 : plainName "java/lang/StringLatin1" = true := by first | (simp [plainName, overriddenIn]; done) | decide +kernel
theorem own_ef20_rmCh1 (m : MethodId) (o0 : Addr) (p1 : Int32) : entryFrame m #[(.ref o0), (.int p1)] 2 = mkF m 0 #[.val (.ref o0), .val (.int p1)] [] := by first | (simp [entryFrame, mkF, argsToLocals, Value.category]; done) | rfl
def Q_rmCh1 (Z : State) (o0 : Addr) (p1 : Int32) (kb : ClassId) (nb : Int32) (B : List (Option Int32)) (sv : Value) (out : Int32) (h0 : Heap) (n0 : Nat) (v : Option Value) (h : Heap) (L : List Loc) : Prop := (v = some (.int out) ∧ (out = 97 ∨ out = 98)) ∧ Fr n0 L ∧ h = h0
abbrev wc20 : ByteArray := jdk_43_method_2_code
theorem e20_0 : decode wc20 0 = .ok (.iload_n 1, 1) ∧ decode wc20 1 = .ok (.aload_n 0, 1) ∧ decode wc20 2 = .ok (.arraylength, 1) ∧ decode wc20 3 = .ok (.invokestatic 9, 3) ∧ decode wc20 6 = .ok (.aload_n 0, 1) := by decide +kernel
theorem own_pd5 : parseMethodDescriptor "(II)V" = some ⟨[.int, .int], none⟩ := by decide +kernel
abbrev wy21 : MethodName := (⟨"java/lang/String", "checkIndex", "(II)V"⟩ : MethodName)
theorem e20_7 : decode wc20 7 = .ok (.iload_n 1, 1) ∧ decode wc20 8 = .ok (.baload, 1) ∧ decode wc20 9 = .ok (.sipush 255, 3) ∧ decode wc20 12 = .ok (.iand, 1) ∧ decode wc20 13 = .ok (.i2c, 1) := by decide +kernel
theorem e20_14 : decode wc20 14 = .ok (.ireturn, 1) := by decide +kernel
def F_rmCh1 (p1 : Int32) (B : List (Option Int32)) : Option (Int32) := (own_getB B p1).bind fun v1 => (some (v1))
set_option maxRecDepth 65536 in
set_option maxHeartbeats 40000000 in
theorem rmCh1 (l : Launch) (Z : State) (a0 : Array Value) (hw : ∀ d ∈ tables_1, d.before a0 Z = true) (ws : List Jvm.Cond) (o0 : Addr) (p1 : Int32) (kb : ClassId) (nb : Int32) (B : List (Option Int32)) (sv : Value) (out : Int32) (h0 : Heap) (n0 : Nat) (Z0 : n0 ≤ h0.size) (V_o0 : own_AB Z h0 o0 kb nb B) (Ol : Old Z n0 h0) (S_SF : Sta Z Z.heap "jdk/internal/util/Preconditions" "SIOOBE_FORMATTER" "Ljava/util/function/BiFunction;" sv) (hsv : sv = .null ∨ ∃ a : Addr, sv = .ref a) (hF : F_rmCh1 p1 B = some out) :
  MetFree l (⟨"java/lang/StringLatin1", "charAt", "([BI)C"⟩ : MethodName) (head1 (Jvm.Cond.code (⟨"java/lang/StringLatin1", "charAt", "([BI)C"⟩ : MethodName) jdk_43_method_2_code 2 (some .char) :: ws) ({ frames := 2, cells := 0, slots := 0, locals := 27 } : Room)) (fun a U => a = #[(.ref o0), (.int p1)] ∧ Z.Warmed39 U.vm ∧ U.heap = h0) (fun _ _ _ _ _ => True) (fun _ U o U' => ∃ v L, o = .returned v ∧ Q_rmCh1 Z o0 p1 kb nb B sv out h0 n0 v U'.heap L ∧ FrameEnd U o U' L ({ frames := 2, cells := 0, slots := 0, locals := 27 } : Room).cells ({ frames := 2, cells := 0, slots := 0, locals := 27 } : Room).slots) := by
 refine MetFree.of_bodySF (plainFor_of_name own_pn5) hisR ?_
 intro p e s m args below meth c s₁ Bd hml0 hP hK
 obtain ⟨rfl, hZ, hh⟩ := hP
 have hW := @own_hW a0 Z hw
 have hx := Bd.exec
 have hby := Bd.bytes
 have hml : c.maxLocals = 2 := hml0
 have hown : s.vm.findClass "java/lang/StringLatin1" = some m.cls := findClass_of_methodNamed Bd.named
 have hnm := (name_of_methodNamed Bd.named Bd.method).1
 have X0 : Stand p l e ({ frames := 2, cells := 0, slots := 0, locals := 27 } : Room) s m #[(.ref o0), (.int p1)] below meth c s₁ [] 0 0 := Stand.of_body Bd
 have e0 : s₁.heap = h0 := by rw [← hh, Bd.state]; rfl
 have N0 := Fr.nil n0
 refine (show own_End p e below s (s₁.setTop (entryFrame m #[(.ref o0), (.int p1)] 2)) (Q_rmCh1 Z o0 p1 kb nb B sv out h0 n0) ({ frames := 2, cells := 0, slots := 0, locals := 27 } : Room).cells ({ frames := 2, cells := 0, slots := 0, locals := 27 } : Room).slots from ?_)
 refine own_go (fun τ κ => castTop (own_ef20_rmCh1 m o0 p1) κ) ?_
 have li0 : (0 : Int32).toInt = 0 := rfl
 have li1 : (1 : Int32).toInt = 1 := rfl
 show own_End p e below s (s₁.setTop (mkF m 0 #[wR o0, wI p1] [])) _ _ _
 have H := hF
 obtain ⟨v1, hv1, H⟩ := own_bnd H
 obtain ⟨hin1, U, VU, hU, hcc⟩ := own_letB V_o0 hv1
 refine o_iloadN X0 hx hby e20_0.1 rfl ?_
 refine o_aloadN X0 hx hby e20_0.2.1 rfl ?_
 obtain ⟨cl1, Ar1, qa1, Sq1, Mq1, Hh1, Gq1⟩ := id VU
 refine own_go (fun τ κ => X0.arraylength hx (by rw [e0]; exact Ar1.1) (State.isArrayOf_alike hZ.alike Ar1.2.1) (g := (mkF m 2 #[wR o0, wI p1] [(.ref o0), (.int p1)])) rfl rfl (hb hby e20_0.2.2.1) _ (by rw [len_of Sq1 Mq1]; exact κ)) ?_
 show own_End p e below s (s₁.setTop (mkF m 3 _ [(.int nb), (.int p1)])) _ _ _
 refine o_cS X0 hx hZ hown (y := wy21) (hW 117 rfl) (hW 118 rfl) (hW 7 rfl) (hW 119 rfl) (by decide) (backOf (W := 0) (rmCk l Z a0 hw [] p1 nb sv h0 n0 Z0 (own_i0 hin1) (own_i1 hin1) Ol S_SF hsv) hZ (hW 119 rfl) (hW 7 rfl) (by decide) (by decide)) (by rw [hml]; rfl) (argsL := [(.int p1), (.int nb)]) (rest := []) (lenOf own_pd5 rfl) rfl rfl (Nat.le_of_eq rfl) e0 (by decide) (by decide) hby e20_0.2.2.2.1 N0 fun T2 v2 Lc2 ls2 X2 hQ2 nq2 => ?_
 obtain ⟨rfl, N2q, e2⟩ := hQ2
 have N2 := nq2 N2q
 show own_End p e below s (T2.setTop (mkF m 6 _ [])) _ _ _
 refine o_aloadN X2 hx hby e20_0.2.2.2.2 rfl ?_
 refine o_iloadN X2 hx hby e20_7.1 rfl ?_
 obtain ⟨cl3, Ar3, qa3, Sq3, Mq3, Hh3, Gq3⟩ := id VU
 have hin3 := inb_of Sq3 hin1
 refine own_go (fun τ κ => X2.baloadBytes hx (j := p1) (v := (.int v1)) (by rw [e2]; exact Ar3.1) (State.isArrayOf_alike hZ.alike Ar3.2.1) Ar3.2.2 hin3 (Hh3.at hin3 hU) (g := (mkF m 8 #[wR o0, wI p1] [(.int p1), (.ref o0)])) rfl rfl (hb hby e20_7.2.1) _ κ) ?_
 show own_End p e below s (T2.setTop (mkF m 9 _ [(.int v1)])) _ _ _
 refine own_go (fun τ κ => XS.sipush X2.here hx rfl (hb hby e20_7.2.2.1) κ) ?_
 show own_End p e below s (T2.setTop (mkF m 12 _ [(.int 255), (.int v1)])) _ _ _
 refine o_iand X2 hx hby e20_7.2.2.2.1 ?_
 refine own_go (fun τ κ => XS.i2c X2.here hx rfl (hb hby e20_7.2.2.2.2) rfl κ) ?_
 show own_End p e below s (T2.setTop (mkF m 14 _ [(.int ((v1 &&& (255 : Int32)).toUInt32.toUInt16.toUInt32.toInt32))])) _ _ _
 have hw1 : ((v1 &&& (255 : Int32)).toUInt32.toUInt16.toUInt32.toInt32) = v1 := own_let hcc
 rw [hw1]
 show own_End p e below s (T2.setTop (mkF m 14 _ [(.int v1)])) _ _ _
 obtain rfl := Option.some.inj H
 refine own_ret X2 (v := some (.int (v1.toUInt32.toUInt16.toUInt32.toInt32))) (fun h => by rw [Bd.returns] at h; cases h) Bd.notSynchronized (fun fs hr => retN X2 hx (t := .char) Bd.returns (by simp) (hb hby e20_14) hr) ?_ (by decide) (by decide)
 ·rw [e2]; exact ⟨⟨(own_chr hcc), hcc⟩, N2, rfl⟩
theorem own_ef19_rmLa (m : MethodId) (o0 : Addr) : entryFrame m #[(.ref o0)] 1 = mkF m 0 #[.val (.ref o0)] [] := by first | (simp [entryFrame, mkF, argsToLocals, Value.category]; done) | rfl
def Q_rmLa (Z : State) (o0 : Addr) (cz : Int32) (h0 : Heap) (n0 : Nat) (v : Option Value) (h : Heap) (L : List Loc) : Prop := (v = some (.int 1)) ∧ Fr n0 L ∧ h = h0
abbrev wc19 : ByteArray := jdk_42_method_154_code
theorem e19_0 : decode wc19 0 = .ok (.getstatic 38, 3) ∧ decode wc19 3 = .ok (.ifCond .eq 14, 3) ∧ decode wc19 6 = .ok (.aload_n 0, 1) ∧ decode wc19 7 = .ok (.getfield 15, 3) ∧ decode wc19 10 = .ok (.ifCond .ne 7, 3) := by decide +kernel
theorem e19_13 : decode wc19 13 = .ok (.iconst 1, 1) ∧ decode wc19 14 = .ok (.goto 4, 3) ∧ decode wc19 18 = .ok (.ireturn, 1) := by decide +kernel
set_option maxRecDepth 65536 in
set_option maxHeartbeats 40000000 in
theorem rmLa (l : Launch) (Z : State) (a0 : Array Value) (hw : ∀ d ∈ tables_1, d.before a0 Z = true) (ws : List Jvm.Cond) (o0 : Addr) (cz : Int32) (h0 : Heap) (n0 : Nat) (Z0 : n0 ≤ h0.size) (F_o0_coder : Fld Z h0 o0 "java/lang/String" "coder" "B" (.int 0)) (Ol : Old Z n0 h0) (S_C : Sta Z Z.heap "java/lang/String" "COMPACT_STRINGS" "Z" (.int cz)) (hcz : ¬ cz.toInt = 0) :
  MetFree l (⟨"java/lang/String", "isLatin1", "()Z"⟩ : MethodName) (head1 (Jvm.Cond.code (⟨"java/lang/String", "isLatin1", "()Z"⟩ : MethodName) jdk_42_method_154_code 1 (some .boolean) :: ws) ({ frames := 0, cells := 0, slots := 0, locals := 0 } : Room)) (fun a U => a = #[(.ref o0)] ∧ Z.Warmed39 U.vm ∧ U.heap = h0) (fun _ _ _ _ _ => True) (fun _ U o U' => ∃ v L, o = .returned v ∧ Q_rmLa Z o0 cz h0 n0 v U'.heap L ∧ FrameEnd U o U' L ({ frames := 0, cells := 0, slots := 0, locals := 0 } : Room).cells ({ frames := 0, cells := 0, slots := 0, locals := 0 } : Room).slots) := by
 refine MetFree.of_bodySF (plainFor_of_name own_pn4) hisR ?_
 intro p e s m args below meth c s₁ Bd hml0 hP hK
 obtain ⟨rfl, hZ, hh⟩ := hP
 have hW := @own_hW a0 Z hw
 have hx := Bd.exec
 have hby := Bd.bytes
 have hml : c.maxLocals = 1 := hml0
 have hown : s.vm.findClass "java/lang/String" = some m.cls := findClass_of_methodNamed Bd.named
 have hnm := (name_of_methodNamed Bd.named Bd.method).1
 have X0 : Stand p l e ({ frames := 0, cells := 0, slots := 0, locals := 0 } : Room) s m #[(.ref o0)] below meth c s₁ [] 0 0 := Stand.of_body Bd
 have e0 : s₁.heap = h0 := by rw [← hh, Bd.state]; rfl
 have N0 := Fr.nil n0
 refine (show own_End p e below s (s₁.setTop (entryFrame m #[(.ref o0)] 1)) (Q_rmLa Z o0 cz h0 n0) ({ frames := 0, cells := 0, slots := 0, locals := 0 } : Room).cells ({ frames := 0, cells := 0, slots := 0, locals := 0 } : Room).slots from ?_)
 refine own_go (fun τ κ => castTop (own_ef19_rmLa m o0) κ) ?_
 have li0 : (0 : Int32).toInt = 0 := rfl
 have li1 : (1 : Int32).toInt = 1 := rfl
 show own_End p e below s (s₁.setTop (mkF m 0 #[wR o0] [])) _ _ _
 obtain ⟨T1, X1, e1, st1⟩ := getS2 X0 hx hZ hown (host := "") (Or.inl (hW 18 rfl)) Via.refl e0 (S_C.ext Ol.2) (g := (mkF m 0 #[wR o0] [])) rfl (hb hby e19_0.1)
 refine own_go st1 ?_
 show own_End p e below s (T1.setTop (mkF m 3 _ [(.int cz)])) _ _ _
 refine o_ifNo X1 hx hby e19_0.2.1 ((if0 _ _).trans (own_ne (x := cz) (y := 0) (i := cz.toInt) (j := 0) rfl rfl hcz).1) ?_
 refine o_aloadN X1 hx hby e19_0.2.2.1 rfl ?_
 refine o_getF X1 hx hZ hown (host := "") (Or.inl (hW 30 rfl)) Via.refl e1 F_o0_coder hby e19_0.2.2.2.1 fun T2 X2 e2 => ?_
 refine o_ifNo X2 hx hby e19_0.2.2.2.2 ((if0 _ _).trans (own_eq (x := 0) (y := 0) (i := 0) (j := 0) rfl rfl (by decide)).2) ?_
 refine o_iconst X2 hx hby e19_13.1 (x := 1) rfl ?_
 refine o_goto X2 hx (pc0 := 14) (pc' := 18) rfl hby e19_13.2.1 (by decide) (by decide) ?_
 refine own_ret X2 (v := some (.int 1)) (fun h => by rw [Bd.returns] at h; cases h) Bd.notSynchronized (fun fs hr => retN X2 hx (t := .boolean) Bd.returns (by simp) (hb hby e19_13.2.2) hr) ?_ (by decide) (by decide)
 ·rw [e2]; exact ⟨rfl, N0, rfl⟩
theorem own_ef18_rmChr (m : MethodId) (o0 : Addr) (p1 : Int32) : entryFrame m #[(.ref o0), (.int p1)] 2 = mkF m 0 #[.val (.ref o0), .val (.int p1)] [] := by first | (simp [entryFrame, mkF, argsToLocals, Value.category]; done) | rfl
def Q_rmChr (Z : State) (o0 : Addr) (p1 : Int32) (b : Addr) (kb : ClassId) (nb : Int32) (B : List (Option Int32)) (sv : Value) (out : Int32) (cz : Int32) (h0 : Heap) (n0 : Nat) (v : Option Value) (h : Heap) (L : List Loc) : Prop := (v = some (.int out) ∧ (out = 97 ∨ out = 98)) ∧ Fr n0 L ∧ h = h0
abbrev wc18 : ByteArray := jdk_42_method_56_code
theorem e18_0 : decode wc18 0 = .ok (.aload_n 0, 1) ∧ decode wc18 1 = .ok (.invokevirtual 492, 3) ∧ decode wc18 4 = .ok (.ifCond .eq 12, 3) ∧ decode wc18 7 = .ok (.aload_n 0, 1) ∧ decode wc18 8 = .ok (.getfield 9, 3) := by decide +kernel
theorem own_pd6 : parseMethodDescriptor "()Z" = some ⟨[], some .boolean⟩ := by decide +kernel
abbrev wy19 : MethodName := (⟨"java/lang/String", "isLatin1", "()Z"⟩ : MethodName)
theorem e18_11 : decode wc18 11 = .ok (.iload_n 1, 1) ∧ decode wc18 12 = .ok (.invokestatic 495, 3) ∧ decode wc18 15 = .ok (.ireturn, 1) := by decide +kernel
theorem own_pd7 : parseMethodDescriptor "([BI)C" = some ⟨[(.array .byte), .int], some .char⟩ := by decide +kernel
abbrev wy20 : MethodName := (⟨"java/lang/StringLatin1", "charAt", "([BI)C"⟩ : MethodName)
def F_rmChr (p1 : Int32) (B : List (Option Int32)) : Option (Int32) := (F_rmCh1 p1 B).bind fun o3 => (some (o3))
set_option maxRecDepth 65536 in
set_option maxHeartbeats 40000000 in
theorem rmChr (l : Launch) (Z : State) (a0 : Array Value) (hw : ∀ d ∈ tables_1, d.before a0 Z = true) (ws : List Jvm.Cond) (o0 : Addr) (p1 : Int32) (b : Addr) (kb : ClassId) (nb : Int32) (B : List (Option Int32)) (sv : Value) (out : Int32) (cz : Int32) (h0 : Heap) (n0 : Nat) (Z0 : n0 ≤ h0.size) (E_o0 : Exa Z h0 o0 "java/lang/String") (F_o0_value : Fld Z h0 o0 "java/lang/String" "value" "[B" (.ref b)) (F_o0_coder : Fld Z h0 o0 "java/lang/String" "coder" "B" (.int 0)) (V_b : own_AB Z h0 b kb nb B) (S_C : Sta Z Z.heap "java/lang/String" "COMPACT_STRINGS" "Z" (.int cz)) (hcz : ¬ cz.toInt = 0) (Ol : Old Z n0 h0) (S_SF : Sta Z Z.heap "jdk/internal/util/Preconditions" "SIOOBE_FORMATTER" "Ljava/util/function/BiFunction;" sv) (hsv : sv = .null ∨ ∃ a : Addr, sv = .ref a) (hF : F_rmChr p1 B = some out) :
  MetFree l (⟨"java/lang/String", "charAt", "(I)C"⟩ : MethodName) (head1 (Jvm.Cond.code (⟨"java/lang/String", "charAt", "(I)C"⟩ : MethodName) jdk_42_method_56_code 2 (some .char) :: ws) ({ frames := 3, cells := 0, slots := 0, locals := 40 } : Room)) (fun a U => a = #[(.ref o0), (.int p1)] ∧ Z.Warmed39 U.vm ∧ U.heap = h0) (fun _ _ _ _ _ => True) (fun _ U o U' => ∃ v L, o = .returned v ∧ Q_rmChr Z o0 p1 b kb nb B sv out cz h0 n0 v U'.heap L ∧ FrameEnd U o U' L ({ frames := 3, cells := 0, slots := 0, locals := 40 } : Room).cells ({ frames := 3, cells := 0, slots := 0, locals := 40 } : Room).slots) := by
 refine MetFree.of_bodySF (plainFor_of_name own_pn4) hisR ?_
 intro p e s m args below meth c s₁ Bd hml0 hP hK
 obtain ⟨rfl, hZ, hh⟩ := hP
 have hW := @own_hW a0 Z hw
 have hx := Bd.exec
 have hby := Bd.bytes
 have hml : c.maxLocals = 2 := hml0
 have hown : s.vm.findClass "java/lang/String" = some m.cls := findClass_of_methodNamed Bd.named
 have hnm := (name_of_methodNamed Bd.named Bd.method).1
 have X0 : Stand p l e ({ frames := 3, cells := 0, slots := 0, locals := 40 } : Room) s m #[(.ref o0), (.int p1)] below meth c s₁ [] 0 0 := Stand.of_body Bd
 have e0 : s₁.heap = h0 := by rw [← hh, Bd.state]; rfl
 have N0 := Fr.nil n0
 refine (show own_End p e below s (s₁.setTop (entryFrame m #[(.ref o0), (.int p1)] 2)) (Q_rmChr Z o0 p1 b kb nb B sv out cz h0 n0) ({ frames := 3, cells := 0, slots := 0, locals := 40 } : Room).cells ({ frames := 3, cells := 0, slots := 0, locals := 40 } : Room).slots from ?_)
 refine own_go (fun τ κ => castTop (own_ef18_rmChr m o0 p1) κ) ?_
 have li0 : (0 : Int32).toInt = 0 := rfl
 have li1 : (1 : Int32).toInt = 1 := rfl
 show own_End p e below s (s₁.setTop (mkF m 0 #[wR o0, wI p1] [])) _ _ _
 have H := hF
 refine o_aloadN X0 hx hby e18_0.1 rfl ?_
 refine o_cV X0 hx hZ hown (y := wy19) (hW 108 rfl) (hW 109 rfl) (hW 111 rfl) (hW 110 rfl) (by decide) E_o0 (backOf (W := 0) (rmLa l Z a0 hw [] o0 cz h0 n0 Z0 F_o0_coder Ol S_C hcz) hZ (hW 112 rfl) (hW 7 rfl) (by decide) (by decide)) (by rw [hml]; rfl) (argsL := []) (rest := []) (lenOf own_pd6 rfl) rfl rfl (Nat.le_of_eq rfl) e0 (by decide) (by decide) hby e18_0.2.1 N0 fun T1 v1 Lc1 ls1 X1 hQ1 nq1 => ?_
 obtain ⟨rfl, N1q, e1⟩ := hQ1
 have N1 := nq1 N1q
 show own_End p e below s (T1.setTop (mkF m 4 _ [(.int 1)])) _ _ _
 refine o_ifNo X1 hx hby e18_0.2.2.1 ((if0 _ _).trans (own_ne (x := 1) (y := 0) (i := 1) (j := 0) rfl rfl (by decide)).1) ?_
 refine o_aloadN X1 hx hby e18_0.2.2.2.1 rfl ?_
 refine o_getF X1 hx hZ hown (host := "") (Or.inl (hW 32 rfl)) Via.refl e1 F_o0_value hby e18_0.2.2.2.2 fun T2 X2 e2 => ?_
 refine o_iloadN X2 hx hby e18_11.1 rfl ?_
 obtain ⟨o3, ho3, H⟩ := own_bnd H
 refine o_cS X2 hx hZ hown (y := wy20) (hW 113 rfl) (hW 114 rfl) (hW 115 rfl) (hW 116 rfl) (by decide) (backOf (W := 0) (rmCh1 l Z a0 hw [] b p1 kb nb B sv o3 h0 n0 Z0 V_b Ol S_SF hsv ho3) hZ (hW 116 rfl) (hW 115 rfl) (by decide) (by decide)) (by rw [hml]; rfl) (argsL := [(.ref b), (.int p1)]) (rest := []) (lenOf own_pd7 rfl) rfl rfl (Nat.le_of_eq rfl) e2 (by decide) (by decide) hby e18_11.2.1 N1 fun T4 v4 Lc4 ls4 X4 hQ4 nq4 => ?_
 obtain ⟨⟨rfl, P0_4⟩, N4q, e4⟩ := hQ4
 have N4 := nq4 N4q
 show own_End p e below s (T4.setTop (mkF m 15 _ [(.int o3)])) _ _ _
 obtain rfl := Option.some.inj H
 refine own_ret X4 (v := some (.int (o3.toUInt32.toUInt16.toUInt32.toInt32))) (fun h => by rw [Bd.returns] at h; cases h) Bd.notSynchronized (fun fs hr => retN X4 hx (t := .char) Bd.returns (by simp) (hb hby e18_11.2.2) hr) ?_ (by decide) (by decide)
 ·rw [e4]; exact ⟨⟨(own_chr P0_4), P0_4⟩, N4, rfl⟩
theorem own_pn6 : plainName "com/example/portero/portero/matching/PercentEncoding" = true := by first | (simp [plainName, overriddenIn]; done) | decide +kernel
theorem own_ef17_rmOct (m : MethodId) (o0 : Addr) (p1 : Int32) : entryFrame m #[(.ref o0), (.int p1)] 2 = mkF m 0 #[.val (.ref o0), .val (.int p1)] [] := by first | (simp [entryFrame, mkF, argsToLocals, Value.category]; done) | rfl
def Q_rmOct (Z : State) (o0 : Addr) (p1 : Int32) (b : Addr) (kb : ClassId) (nb : Int32) (B : List (Option Int32)) (sv : Value) (out : Int32) (cz : Int32) (h0 : Heap) (n0 : Nat) (v : Option Value) (h : Heap) (L : List Loc) : Prop := (v = some (.int out)) ∧ Fr n0 L ∧ h = h0
abbrev wc17 : ByteArray := prog_19_method_5_code
theorem e17_0 : decode wc17 0 = .ok (.aload_n 0, 1) ∧ decode wc17 1 = .ok (.iload_n 1, 1) ∧ decode wc17 2 = .ok (.invokevirtual 13, 3) ∧ decode wc17 5 = .ok (.bipush 37, 2) ∧ decode wc17 7 = .ok (.if_icmp .ne 9, 3) := by decide +kernel
theorem own_pd8 : parseMethodDescriptor "(I)C" = some ⟨[.int], some .char⟩ := by decide +kernel
abbrev wy18 : MethodName := (⟨"java/lang/String", "charAt", "(I)C"⟩ : MethodName)
theorem e17_16 : decode wc17 16 = .ok (.iload_n 1, 1) ∧ decode wc17 17 = .ok (.iconst 1, 1) ∧ decode wc17 18 = .ok (.iadd, 1) ∧ decode wc17 19 = .ok (.ireturn, 1) := by decide +kernel
def F_rmOct (p1 : Int32) (B : List (Option Int32)) : Option (Int32) := (F_rmChr p1 B).bind fun o1 => (some ((p1 + (1 : Int32))))
set_option maxRecDepth 65536 in
set_option maxHeartbeats 40000000 in
theorem rmOct (l : Launch) (Z : State) (a0 : Array Value) (hw : ∀ d ∈ tables_1, d.before a0 Z = true) (ws : List Jvm.Cond) (o0 : Addr) (p1 : Int32) (b : Addr) (kb : ClassId) (nb : Int32) (B : List (Option Int32)) (sv : Value) (out : Int32) (cz : Int32) (h0 : Heap) (n0 : Nat) (Z0 : n0 ≤ h0.size) (E_o0 : Exa Z h0 o0 "java/lang/String") (F_o0_value : Fld Z h0 o0 "java/lang/String" "value" "[B" (.ref b)) (F_o0_coder : Fld Z h0 o0 "java/lang/String" "coder" "B" (.int 0)) (V_b : own_AB Z h0 b kb nb B) (S_C : Sta Z Z.heap "java/lang/String" "COMPACT_STRINGS" "Z" (.int cz)) (hcz : ¬ cz.toInt = 0) (Ol : Old Z n0 h0) (S_SF : Sta Z Z.heap "jdk/internal/util/Preconditions" "SIOOBE_FORMATTER" "Ljava/util/function/BiFunction;" sv) (hsv : sv = .null ∨ ∃ a : Addr, sv = .ref a) (hF : F_rmOct p1 B = some out) :
  MetFree l (⟨"com/example/portero/portero/matching/PercentEncoding", "octetEnd", "(Ljava/lang/String;I)I"⟩ : MethodName) (head1 (Jvm.Cond.code (⟨"com/example/portero/portero/matching/PercentEncoding", "octetEnd", "(Ljava/lang/String;I)I"⟩ : MethodName) prog_19_method_5_code 2 (some .int) :: ws) ({ frames := 4, cells := 0, slots := 0, locals := 53 } : Room)) (fun a U => a = #[(.ref o0), (.int p1)] ∧ Z.Warmed39 U.vm ∧ U.heap = h0) (fun _ _ _ _ _ => True) (fun _ U o U' => ∃ v L, o = .returned v ∧ Q_rmOct Z o0 p1 b kb nb B sv out cz h0 n0 v U'.heap L ∧ FrameEnd U o U' L ({ frames := 4, cells := 0, slots := 0, locals := 53 } : Room).cells ({ frames := 4, cells := 0, slots := 0, locals := 53 } : Room).slots) := by
 refine MetFree.of_bodySF (plainFor_of_name own_pn6) hisR ?_
 intro p e s m args below meth c s₁ Bd hml0 hP hK
 obtain ⟨rfl, hZ, hh⟩ := hP
 have hW := @own_hW a0 Z hw
 have hx := Bd.exec
 have hby := Bd.bytes
 have hml : c.maxLocals = 2 := hml0
 have hown : s.vm.findClass "com/example/portero/portero/matching/PercentEncoding" = some m.cls := findClass_of_methodNamed Bd.named
 have hnm := (name_of_methodNamed Bd.named Bd.method).1
 have X0 : Stand p l e ({ frames := 4, cells := 0, slots := 0, locals := 53 } : Room) s m #[(.ref o0), (.int p1)] below meth c s₁ [] 0 0 := Stand.of_body Bd
 have e0 : s₁.heap = h0 := by rw [← hh, Bd.state]; rfl
 have N0 := Fr.nil n0
 refine (show own_End p e below s (s₁.setTop (entryFrame m #[(.ref o0), (.int p1)] 2)) (Q_rmOct Z o0 p1 b kb nb B sv out cz h0 n0) ({ frames := 4, cells := 0, slots := 0, locals := 53 } : Room).cells ({ frames := 4, cells := 0, slots := 0, locals := 53 } : Room).slots from ?_)
 refine own_go (fun τ κ => castTop (own_ef17_rmOct m o0 p1) κ) ?_
 have li0 : (0 : Int32).toInt = 0 := rfl
 have li1 : (1 : Int32).toInt = 1 := rfl
 show own_End p e below s (s₁.setTop (mkF m 0 #[wR o0, wI p1] [])) _ _ _
 have H := hF
 refine o_aloadN X0 hx hby e17_0.1 rfl ?_
 refine o_iloadN X0 hx hby e17_0.2.1 rfl ?_
 obtain ⟨o1, ho1, H⟩ := own_bnd H
 refine o_cV X0 hx hZ hown (y := wy18) (hW 103 rfl) (hW 104 rfl) (hW 106 rfl) (hW 105 rfl) (by decide) E_o0 (backOf (W := 0) (rmChr l Z a0 hw [] o0 p1 b kb nb B sv o1 cz h0 n0 Z0 E_o0 F_o0_value F_o0_coder V_b S_C hcz Ol S_SF hsv ho1) hZ (hW 107 rfl) (hW 7 rfl) (by decide) (by decide)) (by rw [hml]; rfl) (argsL := [(.int p1)]) (rest := []) (lenOf own_pd8 rfl) rfl rfl (Nat.le_of_eq rfl) e0 (by decide) (by decide) hby e17_0.2.2.1 N0 fun T2 v2 Lc2 ls2 X2 hQ2 nq2 => ?_
 obtain ⟨⟨rfl, P0_2⟩, N2q, e2⟩ := hQ2
 have N2 := nq2 N2q
 show own_End p e below s (T2.setTop (mkF m 5 _ [(.int o1)])) _ _ _
 refine o_bipush X2 hx hby e17_0.2.2.2.1 (x := 37) rfl ?_
 refine o_icmpYes X2 hx (pc0 := 7) (pc' := 16) rfl hby e17_0.2.2.2.2 (own_ne (x := o1) (y := 37) (i := o1.toInt) (j := 37) rfl rfl (own_n37 P0_2)).2 (by decide) (by decide) ?_
 refine o_iloadN X2 hx hby e17_16.1 rfl ?_
 refine o_iconst X2 hx hby e17_16.2.1 (x := 1) rfl ?_
 refine o_iadd X2 hx hby e17_16.2.2.1 ?_
 obtain rfl := Option.some.inj H
 refine own_ret X2 (v := some (.int (p1 + (1 : Int32)))) (fun h => by rw [Bd.returns] at h; cases h) Bd.notSynchronized (fun fs hr => retI X2 hx Bd.returns (hb hby e17_16.2.2.2) hr) ?_ (by decide) (by decide)
 ·rw [e2]; exact ⟨rfl, N2, rfl⟩
theorem own_ef16_rmSym (m : MethodId) (o0 : Addr) (p1 : Int32) : entryFrame m #[(.ref o0), (.int p1)] 2 = mkF m 0 #[.val (.ref o0), .val (.int p1)] [] := by first | (simp [entryFrame, mkF, argsToLocals, Value.category]; done) | rfl
def Q_rmSym (Z : State) (o0 : Addr) (p1 : Int32) (b : Addr) (kb : ClassId) (nb : Int32) (B : List (Option Int32)) (sv : Value) (out : Int32) (cz : Int32) (h0 : Heap) (n0 : Nat) (v : Option Value) (h : Heap) (L : List Loc) : Prop := (v = some (.int out)) ∧ Fr n0 L ∧ h = h0
abbrev wc16 : ByteArray := prog_23_method_16_code
theorem e16_0 : decode wc16 0 = .ok (.aload_n 0, 1) ∧ decode wc16 1 = .ok (.iload_n 1, 1) ∧ decode wc16 2 = .ok (.invokestatic 111, 3) ∧ decode wc16 5 = .ok (.iload_n 1, 1) ∧ decode wc16 6 = .ok (.iconst 1, 1) := by decide +kernel
theorem own_pd9 : parseMethodDescriptor "(Ljava/lang/String;I)I" = some ⟨[(.object "java/lang/String"), .int], some .int⟩ := by decide +kernel
abbrev wy17 : MethodName := (⟨"com/example/portero/portero/matching/PercentEncoding", "octetEnd", "(Ljava/lang/String;I)I"⟩ : MethodName)
theorem e16_7 : decode wc16 7 = .ok (.iadd, 1) ∧ decode wc16 8 = .ok (.if_icmp .ne 9, 3) ∧ decode wc16 11 = .ok (.aload_n 0, 1) ∧ decode wc16 12 = .ok (.iload_n 1, 1) ∧ decode wc16 13 = .ok (.invokevirtual 126, 3) := by decide +kernel
theorem e16_16 : decode wc16 16 = .ok (.ireturn, 1) := by decide +kernel
def F_rmSym (p1 : Int32) (B : List (Option Int32)) : Option (Int32) := (F_rmOct p1 B).bind fun o1 => ((if o1.toInt = (p1 + (1 : Int32)).toInt then (F_rmChr p1 B).bind fun o4 => (some (o4)) else none))
set_option maxRecDepth 65536 in
set_option maxHeartbeats 40000000 in
theorem rmSym (l : Launch) (Z : State) (a0 : Array Value) (hw : ∀ d ∈ tables_1, d.before a0 Z = true) (ws : List Jvm.Cond) (o0 : Addr) (p1 : Int32) (b : Addr) (kb : ClassId) (nb : Int32) (B : List (Option Int32)) (sv : Value) (out : Int32) (cz : Int32) (h0 : Heap) (n0 : Nat) (Z0 : n0 ≤ h0.size) (E_o0 : Exa Z h0 o0 "java/lang/String") (F_o0_value : Fld Z h0 o0 "java/lang/String" "value" "[B" (.ref b)) (F_o0_coder : Fld Z h0 o0 "java/lang/String" "coder" "B" (.int 0)) (V_b : own_AB Z h0 b kb nb B) (S_C : Sta Z Z.heap "java/lang/String" "COMPACT_STRINGS" "Z" (.int cz)) (hcz : ¬ cz.toInt = 0) (Ol : Old Z n0 h0) (S_SF : Sta Z Z.heap "jdk/internal/util/Preconditions" "SIOOBE_FORMATTER" "Ljava/util/function/BiFunction;" sv) (hsv : sv = .null ∨ ∃ a : Addr, sv = .ref a) (hF : F_rmSym p1 B = some out) :
  MetFree l (⟨"com/example/portero/portero/matching/SegmentAutomaton", "symbol", "(Ljava/lang/String;I)I"⟩ : MethodName) (head1 (Jvm.Cond.code (⟨"com/example/portero/portero/matching/SegmentAutomaton", "symbol", "(Ljava/lang/String;I)I"⟩ : MethodName) prog_23_method_16_code 2 (some .int) :: ws) ({ frames := 5, cells := 0, slots := 0, locals := 66 } : Room)) (fun a U => a = #[(.ref o0), (.int p1)] ∧ Z.Warmed39 U.vm ∧ U.heap = h0) (fun _ _ _ _ _ => True) (fun _ U o U' => ∃ v L, o = .returned v ∧ Q_rmSym Z o0 p1 b kb nb B sv out cz h0 n0 v U'.heap L ∧ FrameEnd U o U' L ({ frames := 5, cells := 0, slots := 0, locals := 66 } : Room).cells ({ frames := 5, cells := 0, slots := 0, locals := 66 } : Room).slots) := by
 refine MetFree.of_bodySF (plainFor_of_name own_pn0) hisR ?_
 intro p e s m args below meth c s₁ Bd hml0 hP hK
 obtain ⟨rfl, hZ, hh⟩ := hP
 have hW := @own_hW a0 Z hw
 have hx := Bd.exec
 have hby := Bd.bytes
 have hml : c.maxLocals = 2 := hml0
 have hown : s.vm.findClass "com/example/portero/portero/matching/SegmentAutomaton" = some m.cls := findClass_of_methodNamed Bd.named
 have hnm := (name_of_methodNamed Bd.named Bd.method).1
 have X0 : Stand p l e ({ frames := 5, cells := 0, slots := 0, locals := 66 } : Room) s m #[(.ref o0), (.int p1)] below meth c s₁ [] 0 0 := Stand.of_body Bd
 have e0 : s₁.heap = h0 := by rw [← hh, Bd.state]; rfl
 have N0 := Fr.nil n0
 refine (show own_End p e below s (s₁.setTop (entryFrame m #[(.ref o0), (.int p1)] 2)) (Q_rmSym Z o0 p1 b kb nb B sv out cz h0 n0) ({ frames := 5, cells := 0, slots := 0, locals := 66 } : Room).cells ({ frames := 5, cells := 0, slots := 0, locals := 66 } : Room).slots from ?_)
 refine own_go (fun τ κ => castTop (own_ef16_rmSym m o0 p1) κ) ?_
 have li0 : (0 : Int32).toInt = 0 := rfl
 have li1 : (1 : Int32).toInt = 1 := rfl
 show own_End p e below s (s₁.setTop (mkF m 0 #[wR o0, wI p1] [])) _ _ _
 have H := hF
 refine o_aloadN X0 hx hby e16_0.1 rfl ?_
 refine o_iloadN X0 hx hby e16_0.2.1 rfl ?_
 obtain ⟨o1, ho1, H⟩ := own_bnd H
 refine o_cS X0 hx hZ hown (y := wy17) (hW 99 rfl) (hW 100 rfl) (hW 101 rfl) (hW 102 rfl) (by decide) (backOf (W := 0) (rmOct l Z a0 hw [] o0 p1 b kb nb B sv o1 cz h0 n0 Z0 E_o0 F_o0_value F_o0_coder V_b S_C hcz Ol S_SF hsv ho1) hZ (hW 102 rfl) (hW 101 rfl) (by decide) (by decide)) (by rw [hml]; rfl) (argsL := [(.ref o0), (.int p1)]) (rest := []) (lenOf own_pd9 rfl) rfl rfl (Nat.le_of_eq rfl) e0 (by decide) (by decide) hby e16_0.2.2.1 N0 fun T2 v2 Lc2 ls2 X2 hQ2 nq2 => ?_
 obtain ⟨rfl, N2q, e2⟩ := hQ2
 have N2 := nq2 N2q
 show own_End p e below s (T2.setTop (mkF m 5 _ [(.int o1)])) _ _ _
 refine o_iloadN X2 hx hby e16_0.2.2.2.1 rfl ?_
 refine o_iconst X2 hx hby e16_0.2.2.2.2 (x := 1) rfl ?_
 refine o_iadd X2 hx hby e16_7.1 ?_
 by_cases c8_3 : o1.toInt = (p1 + (1 : Int32)).toInt
 ·skip
  replace H := own_ifp c8_3 H
  refine o_icmpNo X2 hx hby e16_7.2.1 (own_eq (x := o1) (y := (p1 + (1 : Int32))) (i := o1.toInt) (j := (p1 + (1 : Int32)).toInt) rfl rfl c8_3).2 ?_
  refine o_aloadN X2 hx hby e16_7.2.2.1 rfl ?_
  refine o_iloadN X2 hx hby e16_7.2.2.2.1 rfl ?_
  obtain ⟨o4, ho4, H⟩ := own_bnd H
  refine o_cV X2 hx hZ hown (y := wy18) (hW 125 rfl) (hW 104 rfl) (hW 106 rfl) (hW 105 rfl) (by decide) E_o0 (backOf (W := 0) (rmChr l Z a0 hw [] o0 p1 b kb nb B sv o4 cz h0 n0 Z0 E_o0 F_o0_value F_o0_coder V_b S_C hcz Ol S_SF hsv ho4) hZ (hW 107 rfl) (hW 7 rfl) (by decide) (by decide)) (by rw [hml]; rfl) (argsL := [(.int p1)]) (rest := []) (lenOf own_pd8 rfl) rfl rfl (Nat.le_of_eq rfl) e2 (by decide) (by decide) hby e16_7.2.2.2.2 N2 fun T5 v5 Lc5 ls5 X5 hQ5 nq5 => ?_
  obtain ⟨⟨rfl, P0_5⟩, N5q, e5⟩ := hQ5
  have N5 := nq5 N5q
  show own_End p e below s (T5.setTop (mkF m 16 _ [(.int o4)])) _ _ _
  obtain rfl := Option.some.inj H
  refine own_ret X5 (v := some (.int o4)) (fun h => by rw [Bd.returns] at h; cases h) Bd.notSynchronized (fun fs hr => retI X5 hx Bd.returns (hb hby e16_16) hr) ?_ (by decide) (by decide)
  ·rw [e5]; exact ⟨rfl, N5, rfl⟩
 ·skip
  replace H := own_ifn c8_3 H
  refine o_icmpYes X2 hx (pc0 := 8) (pc' := 17) rfl hby e16_7.2.1 (own_ne (x := o1) (y := (p1 + (1 : Int32))) (i := o1.toInt) (j := (p1 + (1 : Int32)).toInt) rfl rfl c8_3).2 (by decide) (by decide) ?_
  exact nomatch H
theorem own_ef32_rmRd (m : MethodId) (o0 : Addr) (p1 : Int32) (o2 : Addr) (p3 : Int32) : entryFrame m #[(.ref o0), (.int p1), (.ref o2), (.int p3)] 4 = mkF m 0 #[.val (.ref o0), .val (.int p1), .val (.ref o2), .val (.int p3)] [] := by first | (simp [entryFrame, mkF, argsToLocals, Value.category]; done) | rfl
def Q_rmRd (Z : State) (o0 : Addr) (p1 : Int32) (o2 : Addr) (p3 : Int32) (sh : Int32) (nk : Int32) (ka : Addr) (kk : ClassId) (ta : Addr) (kt : ClassId) (K : List Int64) (T : List Int32) (fa : Addr) (kf : ClassId) (ms : Int32) (Fa : List Int32) (b : Addr) (kb : ClassId) (nb : Int32) (B : List (Option Int32)) (sv : Value) (out : Int32) (cz : Int32) (h0 : Heap) (n0 : Nat) (v : Option Value) (h : Heap) (L : List Loc) : Prop := (v = some (.int out)) ∧ Fr n0 L ∧ h = h0
abbrev wc32 : ByteArray := prog_23_method_4_code
theorem e32_0 : decode wc32 0 = .ok (.aload_n 0, 1) ∧ decode wc32 1 = .ok (.iload_n 1, 1) ∧ decode wc32 2 = .ok (.aload_n 2, 1) ∧ decode wc32 3 = .ok (.iload_n 3, 1) ∧ decode wc32 4 = .ok (.invokestatic 82, 3) := by decide +kernel
abbrev wy16 : MethodName := (⟨"com/example/portero/portero/matching/SegmentAutomaton", "symbol", "(Ljava/lang/String;I)I"⟩ : MethodName)
theorem e32_7 : decode wc32 7 = .ok (.invokevirtual 86, 3) ∧ decode wc32 10 = .ok (.ireturn, 1) := by decide +kernel
abbrev wy33 : MethodName := (⟨"com/example/portero/portero/matching/SegmentAutomaton", "next", "(II)I"⟩ : MethodName)
def F_rmRd (p1 : Int32) (p3 : Int32) (sh : Int32) (nk : Int32) (K : List Int64) (T : List Int32) (Fa : List Int32) (B : List (Option Int32)) : Option (Int32) := (F_rmSym p3 B).bind fun o1 => ((F_rmNxt p1 o1 sh nk K T Fa).bind fun o3 => (some (o3)))
set_option maxRecDepth 65536 in
set_option maxHeartbeats 40000000 in
theorem rmRd (l : Launch) (Z : State) (a0 : Array Value) (hw : ∀ d ∈ tables_1, d.before a0 Z = true) (ws : List Jvm.Cond) (o0 : Addr) (p1 : Int32) (o2 : Addr) (p3 : Int32) (sh : Int32) (nk : Int32) (ka : Addr) (kk : ClassId) (ta : Addr) (kt : ClassId) (K : List Int64) (T : List Int32) (fa : Addr) (kf : ClassId) (ms : Int32) (Fa : List Int32) (b : Addr) (kb : ClassId) (nb : Int32) (B : List (Option Int32)) (sv : Value) (out : Int32) (cz : Int32) (h0 : Heap) (n0 : Nat) (Z0 : n0 ≤ h0.size) (E_o0 : Exa Z h0 o0 "com/example/portero/portero/matching/SegmentAutomaton") (F_o0_slotShift : Fld Z h0 o0 "com/example/portero/portero/matching/SegmentAutomaton" "slotShift" "I" (.int sh)) (F_o0_edgeKeys : Fld Z h0 o0 "com/example/portero/portero/matching/SegmentAutomaton" "edgeKeys" "[J" (.ref ka)) (F_o0_edgeTargets : Fld Z h0 o0 "com/example/portero/portero/matching/SegmentAutomaton" "edgeTargets" "[I" (.ref ta)) (V_ka : own_AJ Z h0 ka kk nk K) (V_ta : own_AI Z h0 ta kt nk T) (F_o0_failures : Fld Z h0 o0 "com/example/portero/portero/matching/SegmentAutomaton" "failures" "[I" (.ref fa)) (V_fa : own_AI Z h0 fa kf ms Fa) (E_o2 : Exa Z h0 o2 "java/lang/String") (F_o2_value : Fld Z h0 o2 "java/lang/String" "value" "[B" (.ref b)) (F_o2_coder : Fld Z h0 o2 "java/lang/String" "coder" "B" (.int 0)) (V_b : own_AB Z h0 b kb nb B) (S_C : Sta Z Z.heap "java/lang/String" "COMPACT_STRINGS" "Z" (.int cz)) (hcz : ¬ cz.toInt = 0) (Ol : Old Z n0 h0) (S_SF : Sta Z Z.heap "jdk/internal/util/Preconditions" "SIOOBE_FORMATTER" "Ljava/util/function/BiFunction;" sv) (hsv : sv = .null ∨ ∃ a : Addr, sv = .ref a) (hF : F_rmRd p1 p3 sh nk K T Fa B = some out) :
  MetFree l (⟨"com/example/portero/portero/matching/SegmentAutomaton", "read", "(ILjava/lang/String;I)I"⟩ : MethodName) (head1 (Jvm.Cond.code (⟨"com/example/portero/portero/matching/SegmentAutomaton", "read", "(ILjava/lang/String;I)I"⟩ : MethodName) prog_23_method_4_code 4 (some .int) :: ws) ({ frames := 6, cells := 0, slots := 0, locals := 81 } : Room)) (fun a U => a = #[(.ref o0), (.int p1), (.ref o2), (.int p3)] ∧ Z.Warmed39 U.vm ∧ U.heap = h0) (fun _ _ _ _ _ => True) (fun _ U o U' => ∃ v L, o = .returned v ∧ Q_rmRd Z o0 p1 o2 p3 sh nk ka kk ta kt K T fa kf ms Fa b kb nb B sv out cz h0 n0 v U'.heap L ∧ FrameEnd U o U' L ({ frames := 6, cells := 0, slots := 0, locals := 81 } : Room).cells ({ frames := 6, cells := 0, slots := 0, locals := 81 } : Room).slots) := by
 refine MetFree.of_bodySF (plainFor_of_name own_pn0) hisR ?_
 intro p e s m args below meth c s₁ Bd hml0 hP hK
 obtain ⟨rfl, hZ, hh⟩ := hP
 have hW := @own_hW a0 Z hw
 have hx := Bd.exec
 have hby := Bd.bytes
 have hml : c.maxLocals = 4 := hml0
 have hown : s.vm.findClass "com/example/portero/portero/matching/SegmentAutomaton" = some m.cls := findClass_of_methodNamed Bd.named
 have hnm := (name_of_methodNamed Bd.named Bd.method).1
 have X0 : Stand p l e ({ frames := 6, cells := 0, slots := 0, locals := 81 } : Room) s m #[(.ref o0), (.int p1), (.ref o2), (.int p3)] below meth c s₁ [] 0 0 := Stand.of_body Bd
 have e0 : s₁.heap = h0 := by rw [← hh, Bd.state]; rfl
 have N0 := Fr.nil n0
 refine (show own_End p e below s (s₁.setTop (entryFrame m #[(.ref o0), (.int p1), (.ref o2), (.int p3)] 4)) (Q_rmRd Z o0 p1 o2 p3 sh nk ka kk ta kt K T fa kf ms Fa b kb nb B sv out cz h0 n0) ({ frames := 6, cells := 0, slots := 0, locals := 81 } : Room).cells ({ frames := 6, cells := 0, slots := 0, locals := 81 } : Room).slots from ?_)
 refine own_go (fun τ κ => castTop (own_ef32_rmRd m o0 p1 o2 p3) κ) ?_
 have li0 : (0 : Int32).toInt = 0 := rfl
 have li1 : (1 : Int32).toInt = 1 := rfl
 show own_End p e below s (s₁.setTop (mkF m 0 #[wR o0, wI p1, wR o2, wI p3] [])) _ _ _
 have H := hF
 refine o_aloadN X0 hx hby e32_0.1 rfl ?_
 refine o_iloadN X0 hx hby e32_0.2.1 rfl ?_
 refine o_aloadN X0 hx hby e32_0.2.2.1 rfl ?_
 refine o_iloadN X0 hx hby e32_0.2.2.2.1 rfl ?_
 obtain ⟨o1, ho1, H⟩ := own_bnd H
 refine o_cS X0 hx hZ hown (y := wy16) (hW 96 rfl) (hW 97 rfl) (hW 37 rfl) (hW 98 rfl) (by decide) (backOf (W := 2) (rmSym l Z a0 hw [] o2 p3 b kb nb B sv o1 cz h0 n0 Z0 E_o2 F_o2_value F_o2_coder V_b S_C hcz Ol S_SF hsv ho1) hZ (hW 98 rfl) (hW 37 rfl) (by decide) (by decide)) (by rw [hml]; rfl) (argsL := [(.ref o2), (.int p3)]) (rest := [(.int p1), (.ref o0)]) (lenOf own_pd9 rfl) rfl rfl (Nat.le_of_eq rfl) e0 (by decide) (by decide) hby e32_0.2.2.2.2 N0 fun T2 v2 Lc2 ls2 X2 hQ2 nq2 => ?_
 obtain ⟨rfl, N2q, e2⟩ := hQ2
 have N2 := nq2 N2q
 show own_End p e below s (T2.setTop (mkF m 7 _ [(.int o1), (.int p1), (.ref o0)])) _ _ _
 obtain ⟨o3, ho3, H⟩ := own_bnd H
 refine o_cP X2 hx hZ hown (y := wy33) (hW 180 rfl) (hW 36 rfl) (hW 181 rfl) (hW 182 rfl) (hW 183 rfl) (by decide) E_o0 (backOf (W := 0) (rmNxt l Z a0 hw [] o0 p1 o1 sh nk ka kk ta kt K T fa kf ms Fa o3 h0 n0 Z0 E_o0 F_o0_slotShift F_o0_edgeKeys F_o0_edgeTargets V_ka V_ta F_o0_failures V_fa ho3) hZ (hW 183 rfl) (hW 37 rfl) (by decide) (by decide)) (by rw [hml]; rfl) (argsL := [(.int p1), (.int o1)]) (rest := []) (lenOf own_pd1 rfl) rfl rfl (Nat.le_of_eq rfl) e2 (by decide) (by decide) hby e32_7.1 N2 fun T4 v4 Lc4 ls4 X4 hQ4 nq4 => ?_
 obtain ⟨rfl, N4q, e4⟩ := hQ4
 have N4 := nq4 N4q
 show own_End p e below s (T4.setTop (mkF m 10 _ [(.int o3)])) _ _ _
 obtain rfl := Option.some.inj H
 refine own_ret X4 (v := some (.int o3)) (fun h => by rw [Bd.returns] at h; cases h) Bd.notSynchronized (fun fs hr => retI X4 hx Bd.returns (hb hby e32_7.2) hr) ?_ (by decide) (by decide)
 ·rw [e4]; exact ⟨rfl, N4, rfl⟩
theorem own_ef26_rmTree (m : MethodId) (o0 : Addr) (o1 : Addr) (p2 : Int32) : entryFrame m #[(.ref o0), (.ref o1), (.int p2)] 11 = mkF m 0 #[.val (.ref o0), .val (.ref o1), .val (.int p2), .unset, .unset, .unset, .unset, .unset, .unset, .unset, .unset] [] := by first | (simp [entryFrame, mkF, argsToLocals, Value.category]; done) | rfl
def Q_rmTree (Z : State) (o0 : Addr) (o1 : Addr) (p2 : Int32) (k1 : ClassId) (Ws : List Int32) (su : Addr) (ks : ClassId) (ms : Int32) (Su : List Int32) (fa : Addr) (kf : ClassId) (Fa : List Int32) (pa : Addr) (kp : ClassId) (wc : Int32) (Pl : List Int32) (la : Addr) (kl : ClassId) (La : List Int32) (wa : Addr) (kw : ClassId) (Wa : List Int32) (out : List Int32 × List Int32 × List Int32) (h0 : Heap) (n0 : Nat) (v : Option Value) (h : Heap) (L : List Loc) : Prop := (v = none ∧ own_AI Z h pa kp wc (out.1) ∧ own_AI Z h la kl wc (out.2.1) ∧ own_AI Z h wa kw wc (out.2.2)) ∧ Fr n0 L ∧ Keep h0 h [pa, la, wa]
abbrev wc26 : ByteArray := prog_23_method_9_code
theorem e26_0 : decode wc26 0 = .ok (.iload_n 2, 1) ∧ decode wc26 1 = .ok (.istore_n 3, 1) ∧ decode wc26 2 = .ok (.iload_n 2, 1) ∧ decode wc26 3 = .ok (.iconst 1, 1) ∧ decode wc26 4 = .ok (.iadd, 1) := by decide +kernel
theorem e26_5 : decode wc26 5 = .ok (.newarray .int, 2) ∧ decode wc26 7 = .ok (.astore 4, 2) ∧ decode wc26 9 = .ok (.aload 4, 2) ∧ decode wc26 11 = .ok (.iconst (-1), 1) ∧ decode wc26 12 = .ok (.invokestatic 80, 3) := by decide +kernel
theorem own_pd10 : parseMethodDescriptor "([II)V" = some ⟨[(.array .int), .int], none⟩ := by decide +kernel
abbrev wy27 : MethodName := (⟨"java/util/Arrays", "fill", "([II)V"⟩ : MethodName)
theorem e26_15 : decode wc26 15 = .ok (.iload_n 2, 1) ∧ decode wc26 16 = .ok (.newarray .int, 2) ∧ decode wc26 18 = .ok (.astore 5, 2) ∧ decode wc26 20 = .ok (.iconst 0, 1) ∧ decode wc26 21 = .ok (.istore 6, 2) := by decide +kernel
theorem e26_23 : decode wc26 23 = .ok (.iload 6, 2) ∧ decode wc26 25 = .ok (.iload_n 2, 1) ∧ decode wc26 26 = .ok (.if_icmp .ge 56, 3) ∧ decode wc26 29 = .ok (.aload_n 0, 1) ∧ decode wc26 30 = .ok (.getfield 42, 3) := by decide +kernel
theorem e26_33 : decode wc26 33 = .ok (.aload_n 0, 1) ∧ decode wc26 34 = .ok (.getfield 39, 3) ∧ decode wc26 37 = .ok (.aload_n 1, 1) ∧ decode wc26 38 = .ok (.iload 6, 2) ∧ decode wc26 40 = .ok (.iaload, 1) := by decide +kernel
theorem e26_41 : decode wc26 41 = .ok (.iaload, 1) ∧ decode wc26 42 = .ok (.iaload, 1) ∧ decode wc26 43 = .ok (.istore 7, 2) ∧ decode wc26 45 = .ok (.iload 7, 2) ∧ decode wc26 47 = .ok (.iconst (-1), 1) := by decide +kernel
theorem e26_48 : decode wc26 48 = .ok (.if_icmp .ne 7, 3) ∧ decode wc26 51 = .ok (.iload_n 3, 1) ∧ decode wc26 52 = .ok (.goto 5, 3) ∧ decode wc26 55 = .ok (.iload 7, 2) ∧ decode wc26 57 = .ok (.istore 8, 2) := by decide +kernel
theorem e26_59 : decode wc26 59 = .ok (.aload 5, 2) ∧ decode wc26 61 = .ok (.iload 6, 2) ∧ decode wc26 63 = .ok (.aload 4, 2) ∧ decode wc26 65 = .ok (.iload 8, 2) ∧ decode wc26 67 = .ok (.iaload, 1) := by decide +kernel
theorem e26_68 : decode wc26 68 = .ok (.iastore, 1) ∧ decode wc26 69 = .ok (.aload 4, 2) ∧ decode wc26 71 = .ok (.iload 8, 2) ∧ decode wc26 73 = .ok (.iload 6, 2) ∧ decode wc26 75 = .ok (.iastore, 1) := by decide +kernel
theorem e26_76 : decode wc26 76 = .ok (.iinc 6 1, 3) ∧ decode wc26 79 = .ok (.goto (-56), 3) ∧ decode wc26 82 = .ok (.iload_n 2, 1) ∧ decode wc26 83 = .ok (.iconst 1, 1) ∧ decode wc26 84 = .ok (.iadd, 1) := by decide +kernel
theorem e26_85 : decode wc26 85 = .ok (.newarray .int, 2) ∧ decode wc26 87 = .ok (.astore 6, 2) ∧ decode wc26 89 = .ok (.iconst 0, 1) ∧ decode wc26 90 = .ok (.istore 7, 2) ∧ decode wc26 92 = .ok (.iconst 0, 1) := by decide +kernel
theorem e26_93 : decode wc26 93 = .ok (.istore 8, 2) ∧ decode wc26 95 = .ok (.aload 6, 2) ∧ decode wc26 97 = .ok (.iconst 0, 1) ∧ decode wc26 98 = .ok (.iload_n 3, 1) ∧ decode wc26 99 = .ok (.iastore, 1) := by decide +kernel
theorem e26_100 : decode wc26 100 = .ok (.iload 7, 2) ∧ decode wc26 102 = .ok (.ifCond .lt 90, 3) ∧ decode wc26 105 = .ok (.aload 6, 2) ∧ decode wc26 107 = .ok (.iload 7, 2) ∧ decode wc26 109 = .ok (.iaload, 1) := by decide +kernel
theorem e26_186 : decode wc26 186 = .ok (.iload 10, 2) ∧ decode wc26 188 = .ok (.iastore, 1) ∧ decode wc26 189 = .ok (.goto (-89), 3) ∧ decode wc26 192 = .ok (.return_, 1) := by decide +kernel
theorem e26_110 : decode wc26 110 = .ok (.istore 9, 2) ∧ decode wc26 112 = .ok (.aload 4, 2) ∧ decode wc26 114 = .ok (.iload 9, 2) ∧ decode wc26 116 = .ok (.iaload, 1) ∧ decode wc26 117 = .ok (.istore 10, 2) := by decide +kernel
theorem e26_119 : decode wc26 119 = .ok (.iload 10, 2) ∧ decode wc26 121 = .ok (.iconst (-1), 1) ∧ decode wc26 122 = .ok (.if_icmp .ne 26, 3) ∧ decode wc26 125 = .ok (.iload 9, 2) ∧ decode wc26 127 = .ok (.iload_n 3, 1) := by decide +kernel
theorem e26_128 : decode wc26 128 = .ok (.if_icmp .eq 14, 3) ∧ decode wc26 131 = .ok (.aload_n 0, 1) ∧ decode wc26 132 = .ok (.getfield 55, 3) ∧ decode wc26 135 = .ok (.iload 9, 2) ∧ decode wc26 137 = .ok (.iload 8, 2) := by decide +kernel
theorem e26_139 : decode wc26 139 = .ok (.iconst 1, 1) ∧ decode wc26 140 = .ok (.isub, 1) ∧ decode wc26 141 = .ok (.iastore, 1) ∧ decode wc26 142 = .ok (.iinc 7 (-1), 3) ∧ decode wc26 145 = .ok (.goto 44, 3) := by decide +kernel
theorem e26_148 : decode wc26 148 = .ok (.aload 4, 2) ∧ decode wc26 150 = .ok (.iload 9, 2) ∧ decode wc26 152 = .ok (.aload 5, 2) ∧ decode wc26 154 = .ok (.iload 10, 2) ∧ decode wc26 156 = .ok (.iaload, 1) := by decide +kernel
theorem e26_157 : decode wc26 157 = .ok (.iastore, 1) ∧ decode wc26 158 = .ok (.aload_n 0, 1) ∧ decode wc26 159 = .ok (.getfield 52, 3) ∧ decode wc26 162 = .ok (.iload 10, 2) ∧ decode wc26 164 = .ok (.iload 8, 2) := by decide +kernel
theorem e26_166 : decode wc26 166 = .ok (.iastore, 1) ∧ decode wc26 167 = .ok (.aload_n 0, 1) ∧ decode wc26 168 = .ok (.getfield 58, 3) ∧ decode wc26 171 = .ok (.iload 8, 2) ∧ decode wc26 173 = .ok (.iinc 8 1, 3) := by decide +kernel
theorem e26_176 : decode wc26 176 = .ok (.iload 10, 2) ∧ decode wc26 178 = .ok (.iastore, 1) ∧ decode wc26 179 = .ok (.aload 6, 2) ∧ decode wc26 181 = .ok (.iinc 7 1, 3) ∧ decode wc26 184 = .ok (.iload 7, 2) := by decide +kernel
def S_rmTree_1 (p2 : Int32) (Ws : List Int32) (Su : List Int32) (Fa : List Int32) : Nat → Nat → Int32 → Int32 → List Int32 → List Int32 → List Int32 → List Int32 → List Int32 → List Int32 → Option (List Int32 × List Int32 × List Int32)
 | 0, _, _, _, _, _, _, _, _, _ => none
 | f1 + 1, _, d, pl, Fc, Ns, Pt, Pl, La, Wa => (if d.toInt < 0 then some (Pl, La, Wa) else (own_get Pt d).bind fun v68 => ((own_get Fc v68).bind fun v69 => ((if v69.toInt = -1 then (if v68.toInt = p2.toInt then S_rmTree_1 p2 Ws Su Fa f1 0 (d + (-1 : Int32)) pl Fc Ns Pt Pl La Wa else (own_set La v68 (pl - (1 : Int32))).bind fun L73' => (S_rmTree_1 p2 Ws Su Fa f1 0 (d + (-1 : Int32)) pl Fc Ns Pt Pl L73' Wa)) else (own_get Ns v69).bind fun v89 => ((own_set Fc v68 v89).bind fun L90' => ((own_set Pl v69 pl).bind fun L95' => ((own_set Wa pl v69).bind fun L100' => ((own_set Pt (d + (1 : Int32)) v69).bind fun L103' => (S_rmTree_1 p2 Ws Su Fa f1 0 (d + (1 : Int32)) (pl + (1 : Int32)) L90' Ns L103' L95' La L100')))))))))
theorem S_rmTree_1_0 (p2 : Int32) (Ws : List Int32) (Su : List Int32) (Fa : List Int32) (f1 : Nat) (d : Int32) (pl : Int32) (Fc : List Int32) (Ns : List Int32) (Pt : List Int32) (Pl : List Int32) (La : List Int32) (Wa : List Int32) : S_rmTree_1 p2 Ws Su Fa (f1 + 1) 0 d pl Fc Ns Pt Pl La Wa = (if d.toInt < 0 then some (Pl, La, Wa) else (own_get Pt d).bind fun v68 => ((own_get Fc v68).bind fun v69 => ((if v69.toInt = -1 then (if v68.toInt = p2.toInt then S_rmTree_1 p2 Ws Su Fa f1 0 (d + (-1 : Int32)) pl Fc Ns Pt Pl La Wa else (own_set La v68 (pl - (1 : Int32))).bind fun L73' => (S_rmTree_1 p2 Ws Su Fa f1 0 (d + (-1 : Int32)) pl Fc Ns Pt Pl L73' Wa)) else (own_get Ns v69).bind fun v89 => ((own_set Fc v68 v89).bind fun L90' => ((own_set Pl v69 pl).bind fun L95' => ((own_set Wa pl v69).bind fun L100' => ((own_set Pt (d + (1 : Int32)) v69).bind fun L103' => (S_rmTree_1 p2 Ws Su Fa f1 0 (d + (1 : Int32)) (pl + (1 : Int32)) L90' Ns L103' L95' La L100'))))))))) := rfl
def S_rmTree_0 (p2 : Int32) (Ws : List Int32) (Su : List Int32) (Fa : List Int32) : Nat → Nat → Int32 → List Int32 → List Int32 → List Int32 → List Int32 → List Int32 → Option (List Int32 × List Int32 × List Int32)
 | 0, _, _, _, _, _, _, _ => none
 | f0 + 1, _, i, Fc, Ns, Pl, La, Wa => (if i.toInt < p2.toInt then (own_get Ws i).bind fun v19 => ((own_get Fa v19).bind fun v20 => ((own_get Su v20).bind fun v21 => ((if v21.toInt = -1 then (own_get Fc p2).bind fun v23 => ((own_set Ns i v23).bind fun L24' => ((own_set Fc p2 i).bind fun L27' => (S_rmTree_0 p2 Ws Su Fa f0 0 (i + (1 : Int32)) L27' L24' Pl La Wa))) else (own_get Fc v21).bind fun v42 => ((own_set Ns i v42).bind fun L43' => ((own_set Fc v21 i).bind fun L46' => (S_rmTree_0 p2 Ws Su Fa f0 0 (i + (1 : Int32)) L46' L43' Pl La Wa))))))) else (own_grd (p2 + (1 : Int32)) 4).bind fun _ => ((own_set (List.replicate ((p2 + (1 : Int32))).toNatClampNeg 0) (0 : Int32) p2).bind fun L63' => (S_rmTree_1 p2 Ws Su Fa 20 0 (0 : Int32) (0 : Int32) Fc Ns L63' Pl La Wa)))
theorem S_rmTree_0_0 (p2 : Int32) (Ws : List Int32) (Su : List Int32) (Fa : List Int32) (f0 : Nat) (i : Int32) (Fc : List Int32) (Ns : List Int32) (Pl : List Int32) (La : List Int32) (Wa : List Int32) : S_rmTree_0 p2 Ws Su Fa (f0 + 1) 0 i Fc Ns Pl La Wa = (if i.toInt < p2.toInt then (own_get Ws i).bind fun v19 => ((own_get Fa v19).bind fun v20 => ((own_get Su v20).bind fun v21 => ((if v21.toInt = -1 then (own_get Fc p2).bind fun v23 => ((own_set Ns i v23).bind fun L24' => ((own_set Fc p2 i).bind fun L27' => (S_rmTree_0 p2 Ws Su Fa f0 0 (i + (1 : Int32)) L27' L24' Pl La Wa))) else (own_get Fc v21).bind fun v42 => ((own_set Ns i v42).bind fun L43' => ((own_set Fc v21 i).bind fun L46' => (S_rmTree_0 p2 Ws Su Fa f0 0 (i + (1 : Int32)) L46' L43' Pl La Wa))))))) else (own_grd (p2 + (1 : Int32)) 4).bind fun _ => ((own_set (List.replicate ((p2 + (1 : Int32))).toNatClampNeg 0) (0 : Int32) p2).bind fun L63' => (S_rmTree_1 p2 Ws Su Fa 20 0 (0 : Int32) (0 : Int32) Fc Ns L63' Pl La Wa))) := rfl
def F_rmTree (p2 : Int32) (Ws : List Int32) (Su : List Int32) (Fa : List Int32) (Pl : List Int32) (La : List Int32) (Wa : List Int32) : Option (List Int32 × List Int32 × List Int32) := (own_grd (p2 + (1 : Int32)) 4).bind fun _ => ((F_rmFillI (-1 : Int32) (p2 + (1 : Int32)) (List.replicate ((p2 + (1 : Int32))).toNatClampNeg 0)).bind fun o3 => ((own_grd p2 4).bind fun _ => (S_rmTree_0 p2 Ws Su Fa 8 0 (0 : Int32) o3 (List.replicate (p2).toNatClampNeg 0) Pl La Wa)))
set_option maxRecDepth 65536 in
set_option maxHeartbeats 40000000 in
theorem rmTree (l : Launch) (Z : State) (a0 : Array Value) (hw : ∀ d ∈ tables_1, d.before a0 Z = true) (ws : List Jvm.Cond) (o0 : Addr) (o1 : Addr) (p2 : Int32) (k1 : ClassId) (Ws : List Int32) (su : Addr) (ks : ClassId) (ms : Int32) (Su : List Int32) (fa : Addr) (kf : ClassId) (Fa : List Int32) (pa : Addr) (kp : ClassId) (wc : Int32) (Pl : List Int32) (la : Addr) (kl : ClassId) (La : List Int32) (wa : Addr) (kw : ClassId) (Wa : List Int32) (out : List Int32 × List Int32 × List Int32) (h0 : Heap) (n0 : Nat) (Z0 : n0 ≤ h0.size) (E_o0 : Exa Z h0 o0 "com/example/portero/portero/matching/SegmentAutomaton") (V_o1 : own_AI Z h0 o1 k1 (3 : Int32) Ws) (F_o0_suffixes : Fld Z h0 o0 "com/example/portero/portero/matching/SegmentAutomaton" "suffixes" "[I" (.ref su)) (V_su : own_AI Z h0 su ks ms Su) (F_o0_failures : Fld Z h0 o0 "com/example/portero/portero/matching/SegmentAutomaton" "failures" "[I" (.ref fa)) (V_fa : own_AI Z h0 fa kf ms Fa) (F_o0_places : Fld Z h0 o0 "com/example/portero/portero/matching/SegmentAutomaton" "places" "[I" (.ref pa)) (V_pa : own_AI Z h0 pa kp wc Pl) (F_o0_lastPlaces : Fld Z h0 o0 "com/example/portero/portero/matching/SegmentAutomaton" "lastPlaces" "[I" (.ref la)) (V_la : own_AI Z h0 la kl wc La) (F_o0_wordsAt : Fld Z h0 o0 "com/example/portero/portero/matching/SegmentAutomaton" "wordsAt" "[I" (.ref wa)) (V_wa : own_AI Z h0 wa kw wc Wa) (g_pa : n0 ≤ pa) (g_la : n0 ≤ la) (g_wa : n0 ≤ wa) (ne_pa_o0 : pa ≠ o0) (ne_pa_o1 : pa ≠ o1) (ne_pa_su : pa ≠ su) (ne_pa_fa : pa ≠ fa) (ne_la_o0 : la ≠ o0) (ne_la_o1 : la ≠ o1) (ne_la_su : la ≠ su) (ne_la_fa : la ≠ fa) (ne_wa_o0 : wa ≠ o0) (ne_wa_o1 : wa ≠ o1) (ne_wa_su : wa ≠ su) (ne_wa_fa : wa ≠ fa) (ne_pa_la : pa ≠ la) (ne_pa_wa : pa ≠ wa) (ne_la_wa : la ≠ wa) (hF : F_rmTree p2 Ws Su Fa Pl La Wa = some out) :
  MetFree l (⟨"com/example/portero/portero/matching/SegmentAutomaton", "walkTreeOfWords", "([II)V"⟩ : MethodName) (head1 (Jvm.Cond.code (⟨"com/example/portero/portero/matching/SegmentAutomaton", "walkTreeOfWords", "([II)V"⟩ : MethodName) prog_23_method_9_code 11 none :: ws) ({ frames := 1, cells := 3, slots := 12, locals := 15 } : Room)) (fun a U => a = #[(.ref o0), (.ref o1), (.int p2)] ∧ Z.Warmed39 U.vm ∧ U.heap = h0) (fun _ _ _ _ _ => True) (fun _ U o U' => ∃ v L, o = .returned v ∧ Q_rmTree Z o0 o1 p2 k1 Ws su ks ms Su fa kf Fa pa kp wc Pl la kl La wa kw Wa out h0 n0 v U'.heap L ∧ FrameEnd U o U' L ({ frames := 1, cells := 3, slots := 12, locals := 15 } : Room).cells ({ frames := 1, cells := 3, slots := 12, locals := 15 } : Room).slots) := by
 refine MetFree.of_bodySF (plainFor_of_name own_pn0) hisR ?_
 intro p e s m args below meth c s₁ Bd hml0 hP hK
 obtain ⟨rfl, hZ, hh⟩ := hP
 have hW := @own_hW a0 Z hw
 have hx := Bd.exec
 have hby := Bd.bytes
 have hml : c.maxLocals = 11 := hml0
 have hown : s.vm.findClass "com/example/portero/portero/matching/SegmentAutomaton" = some m.cls := findClass_of_methodNamed Bd.named
 have hnm := (name_of_methodNamed Bd.named Bd.method).1
 have X0 : Stand p l e ({ frames := 1, cells := 3, slots := 12, locals := 15 } : Room) s m #[(.ref o0), (.ref o1), (.int p2)] below meth c s₁ [] 0 0 := Stand.of_body Bd
 have e0 : s₁.heap = h0 := by rw [← hh, Bd.state]; rfl
 have N0 := Fr.nil n0
 refine (show own_End p e below s (s₁.setTop (entryFrame m #[(.ref o0), (.ref o1), (.int p2)] 11)) (Q_rmTree Z o0 o1 p2 k1 Ws su ks ms Su fa kf Fa pa kp wc Pl la kl La wa kw Wa out h0 n0) ({ frames := 1, cells := 3, slots := 12, locals := 15 } : Room).cells ({ frames := 1, cells := 3, slots := 12, locals := 15 } : Room).slots from ?_)
 refine own_go (fun τ κ => castTop (own_ef26_rmTree m o0 o1 p2) κ) ?_
 have li0 : (0 : Int32).toInt = 0 := rfl
 have li1 : (1 : Int32).toInt = 1 := rfl
 show own_End p e below s (s₁.setTop (mkF m 0 #[wR o0, wR o1, wI p2, wU, wU, wU, wU, wU, wU, wU, wU] [])) _ _ _
 have H := hF
 refine o_iloadN X0 hx hby e26_0.1 rfl ?_
 refine o_istoreN X0 hx hby e26_0.2.1 (l' := #[wR o0, wR o1, wI p2, wI p2, wU, wU, wU, wU, wU, wU, wU]) rfl ?_
 refine o_iloadN X0 hx hby e26_0.2.2.1 rfl ?_
 refine o_iconst X0 hx hby e26_0.2.2.2.1 (x := 1) rfl ?_
 refine o_iadd X0 hx hby e26_0.2.2.2.2 ?_
 obtain ⟨_, hg1, H⟩ := own_bnd H
 obtain ⟨T2, h2, k2, X2, e2, E2, A2, st2⟩ := newP X0 hx hZ (hW 34 rfl) e0 (g := (mkF m 5 #[wR o0, wR o1, wI p2, wI p2, wU, wU, wU, wU, wU, wU, wU] [(.int (p2 + (1 : Int32)))])) rfl (hb hby e26_5.1) rfl (own_grdn hg1) (cap := 4) (own_grdc hg1) (by decide) (by decide) (by decide)
 obtain ⟨b2, g2⟩ : ∃ z, z = h0.size := ⟨_, rfl⟩
 rw [← g2] at A2 st2
 have g_b2 := own_gf Z0 g2
 have ne_o0_b2 := own_nf E_o0.lt g2
 have ne_o1_b2 := own_nf V_o1.lt g2
 have ne_su_b2 := own_nf V_su.lt g2
 have ne_fa_b2 := own_nf V_fa.lt g2
 have ne_pa_b2 := own_nf V_pa.lt g2
 have ne_la_b2 := own_nf V_la.lt g2
 have ne_wa_b2 := own_nf V_wa.lt g2
 have Z2 := Nat.le_trans Z0 E2.1
 have KP2 := (Keep.refl h0 [pa, la, wa]).ext E2
 have sz_b2 := own_gf (Keep.refl h0 [pa, la, wa]).1 g2
 have V_b2 := own_AI.new A2 (own_grdn hg1)
 refine own_go st2 ?_
 show own_End p e below s (T2.setTop (mkF m 7 _ [(.ref b2)])) _ _ _
 refine o_astore X2 hx hby e26_5.2.1 (l' := #[wR o0, wR o1, wI p2, wI p2, wR b2, wU, wU, wU, wU, wU, wU]) rfl ?_
 refine o_aload X2 hx hby e26_5.2.2.1 rfl ?_
 refine o_iconst X2 hx hby e26_5.2.2.2.1 (x := (-1)) rfl ?_
 obtain ⟨o3, ho3, H⟩ := own_bnd H
 refine o_cS X2 hx hZ hown (y := wy27) (hW 149 rfl) (hW 150 rfl) (hW 53 rfl) (hW 151 rfl) (by decide) (backOf (W := 0) (rmFillI l Z a0 hw [] b2 (-1 : Int32) k2 (p2 + (1 : Int32)) (List.replicate ((p2 + (1 : Int32))).toNatClampNeg 0) o3 h2 n0 Z2 V_b2 g_b2 ho3) hZ (hW 151 rfl) (hW 53 rfl) (by decide) (by decide)) (by rw [hml]; rfl) (argsL := [(.ref b2), (.int (-1))]) (rest := []) (lenOf own_pd10 rfl) rfl rfl (Nat.le_of_eq rfl) e2 (by decide) (by decide) hby e26_5.2.2.2.2 N0 fun T4 v4 Lc4 ls4 X4 hQ4 nq4 => ?_
 obtain ⟨⟨rfl, P0_4⟩, N4q, K4⟩ := hQ4
 have N4 := nq4 N4q
 have Z4 := Nat.le_trans Z2 K4.1
 show own_End p e below s (T4.setTop (mkF m 15 _ [])) _ _ _
 have KP4 := KP2.trans K4 (allS (Or.inr sz_b2) all0)
 refine o_iloadN X4 hx hby e26_15.1 rfl ?_
 obtain ⟨_, hg5, H⟩ := own_bnd H
 obtain ⟨T6, h6, k6, X6, e6, E6, A6, st6⟩ := newP X4 hx hZ (hW 34 rfl) rfl (g := (mkF m 16 #[wR o0, wR o1, wI p2, wI p2, wR b2, wU, wU, wU, wU, wU, wU] [(.int p2)])) rfl (hb hby e26_15.2.1) rfl (own_grdn hg5) (cap := 4) (own_grdc hg5) (by decide) (by decide) (by decide)
 obtain ⟨b6, g6⟩ : ∃ z, z = T4.heap.size := ⟨_, rfl⟩
 rw [← g6] at A6 st6
 have g_b6 := own_gf Z4 g6
 have U7 := ((E_o0.ext E2).keep K4)
 have ne_o0_b6 := own_nf U7.lt g6
 have U8 := ((V_o1.ext E2).keep K4 (ninS ne_o1_b2 nin0))
 have ne_o1_b6 := own_nf U8.lt g6
 have U9 := ((V_su.ext E2).keep K4 (ninS ne_su_b2 nin0))
 have ne_su_b6 := own_nf U9.lt g6
 have U10 := ((V_fa.ext E2).keep K4 (ninS ne_fa_b2 nin0))
 have ne_fa_b6 := own_nf U10.lt g6
 have U11 := ((V_pa.ext E2).keep K4 (ninS ne_pa_b2 nin0))
 have ne_pa_b6 := own_nf U11.lt g6
 have U12 := ((V_la.ext E2).keep K4 (ninS ne_la_b2 nin0))
 have ne_la_b6 := own_nf U12.lt g6
 have U13 := ((V_wa.ext E2).keep K4 (ninS ne_wa_b2 nin0))
 have ne_wa_b6 := own_nf U13.lt g6
 have ne_b2_b6 := own_nf P0_4.lt g6
 have Z6 := Nat.le_trans Z4 E6.1
 have KP6 := KP4.ext E6
 have sz_b6 := own_gf KP4.1 g6
 have V_b6 := own_AI.new A6 (own_grdn hg5)
 refine own_go st6 ?_
 show own_End p e below s (T6.setTop (mkF m 18 _ [(.ref b6)])) _ _ _
 refine o_astore X6 hx hby e26_15.2.2.1 (l' := #[wR o0, wR o1, wI p2, wI p2, wR b2, wR b6, wU, wU, wU, wU, wU]) rfl ?_
 refine o_iconst X6 hx hby e26_15.2.2.2.1 (x := 0) rfl ?_
 refine o_istore X6 hx hby e26_15.2.2.2.2 (l' := #[wR o0, wR o1, wI p2, wI p2, wR b2, wR b6, wI 0, wU, wU, wU, wU]) rfl ?_
 obtain ⟨IV14, hIV14⟩ : ∃ I : Heap → List Int32 → List Int32 → List Int32 → List Int32 → List Int32 → Prop, ∀ (hh : Heap) (Fc : List Int32) (Ns : List Int32) (Pl : List Int32) (La : List Int32) (Wa : List Int32), I hh Fc Ns Pl La Wa ↔ (Exa Z hh o0 "com/example/portero/portero/matching/SegmentAutomaton" ∧ own_AI Z hh o1 k1 (3 : Int32) Ws ∧ Fld Z hh o0 "com/example/portero/portero/matching/SegmentAutomaton" "suffixes" "[I" (.ref su) ∧ own_AI Z hh su ks ms Su ∧ Fld Z hh o0 "com/example/portero/portero/matching/SegmentAutomaton" "failures" "[I" (.ref fa) ∧ own_AI Z hh fa kf ms Fa ∧ Fld Z hh o0 "com/example/portero/portero/matching/SegmentAutomaton" "places" "[I" (.ref pa) ∧ own_AI Z hh pa kp wc Pl ∧ Fld Z hh o0 "com/example/portero/portero/matching/SegmentAutomaton" "lastPlaces" "[I" (.ref la) ∧ own_AI Z hh la kl wc La ∧ Fld Z hh o0 "com/example/portero/portero/matching/SegmentAutomaton" "wordsAt" "[I" (.ref wa) ∧ own_AI Z hh wa kw wc Wa ∧ own_AI Z hh b2 k2 (p2 + (1 : Int32)) Fc ∧ own_AI Z hh b6 k6 p2 Ns) := ⟨_, fun _ _ _ _ _ _ => Iff.rfl⟩
 have J0 : ∀ f0 : Nat, (∀ (i : Int32) (Fc : List Int32) (Ns : List Int32) (Pl : List Int32) (La : List Int32) (Wa : List Int32) (T15 : State) (h15 : Heap) (ls15 : List Loc) (X15 : Stand p l e ({ frames := 1, cells := 3, slots := 12, locals := 15 } : Room) s m #[(.ref o0), (.ref o1), (.int p2)] below meth c T15 ls15 2 8) (e15 : T15.heap = h15) (N15 : Fr n0 ls15) (Z15 : n0 ≤ h15.size) (KP15 : Keep h0 h15 [pa, la, wa]) (FF15 : IV14 h15 Fc Ns Pl La Wa) (sl7 sl8 sl9 sl10 : Slot) (hsl7 : own_pl sl7) (hsl8 : own_pl sl8) (hsl9 : own_pl sl9) (hsl10 : own_pl sl10), S_rmTree_0 p2 Ws Su Fa f0 0 i Fc Ns Pl La Wa = some out → own_End p e below s (T15.setTop (mkF m 23 #[wR o0, wR o1, wI p2, wI p2, wR b2, wR b6, wI i, sl7, sl8, sl9, sl10] [])) (Q_rmTree Z o0 o1 p2 k1 Ws su ks ms Su fa kf Fa pa kp wc Pl la kl La wa kw Wa out h0 n0) ({ frames := 1, cells := 3, slots := 12, locals := 15 } : Room).cells ({ frames := 1, cells := 3, slots := 12, locals := 15 } : Room).slots) := by
  intro f0
  induction f0 with
  | zero => (intros; rename_i H; exact nomatch (show (none : Option (List Int32 × List Int32 × List Int32)) = some _ from H))
  | succ f0 IH0 =>
   intro i Fc Ns Pl La Wa T15 h15 ls15 X15 e15 N15 Z15 KP15 FF15 sl7 sl8 sl9 sl10 hsl7 hsl8 hsl9 hsl10 H
   obtain ⟨Fa15_0, Fa15_1, Fa15_2, Fa15_3, Fa15_4, Fa15_5, Fa15_6, Fa15_7, Fa15_8, Fa15_9, Fa15_10, Fa15_11, Fa15_12, Fa15_13⟩ := (hIV14 _ _ _ _ _ _).mp FF15
   replace H := (S_rmTree_0_0 _ _ _ _ _ _ _ _ _ _ _).symm.trans H
   show own_End p e below s (T15.setTop (mkF m 23 _ [])) _ _ _
   refine o_iload X15 hx hby e26_23.1 rfl ?_
   refine o_iloadN X15 hx hby e26_23.2.1 rfl ?_
   by_cases c26_16 : i.toInt < p2.toInt
   ·skip
    replace H := own_ifp c26_16 H
    refine o_icmpNo X15 hx hby e26_23.2.2.1 (own_tlt (x := i) (y := p2) (i := i.toInt) (j := p2.toInt) rfl rfl c26_16).2.1 ?_
    refine o_aloadN X15 hx hby e26_23.2.2.2.1 rfl ?_
    refine o_getF X15 hx hZ hown (host := "") (Or.inl (hW 61 rfl)) Via.refl e15 Fa15_2 hby e26_23.2.2.2.2 fun T17 X17 e17 => ?_
    refine o_aloadN X17 hx hby e26_33.1 rfl ?_
    refine o_getF X17 hx hZ hown (host := "") (Or.inl (hW 59 rfl)) Via.refl e17 Fa15_4 hby e26_33.2.1 fun T18 X18 e18 => ?_
    refine o_aloadN X18 hx hby e26_33.2.2.1 rfl ?_
    refine o_iload X18 hx hby e26_33.2.2.2.1 rfl ?_
    obtain ⟨v19, hv19, H⟩ := own_bnd H
    refine o_ldI X18 hx hZ e18 Fa15_1 hv19 hby e26_33.2.2.2.2 ?_
    obtain ⟨v20, hv20, H⟩ := own_bnd H
    refine o_ldI X18 hx hZ e18 Fa15_5 hv20 hby e26_41.1 ?_
    obtain ⟨v21, hv21, H⟩ := own_bnd H
    refine o_ldI X18 hx hZ e18 Fa15_3 hv21 hby e26_41.2.1 ?_
    refine o_istore X18 hx hby e26_41.2.2.1 (l' := #[wR o0, wR o1, wI p2, wI p2, wR b2, wR b6, wI i, wI v21, sl8, sl9, sl10]) (by rcases hsl7 with rfl | ⟨_, rfl⟩ <;> rfl) ?_
    refine o_iload X18 hx hby e26_41.2.2.2.1 rfl ?_
    refine o_iconst X18 hx hby e26_41.2.2.2.2 (x := (-1)) rfl ?_
    by_cases c48_22 : v21.toInt = -1
    ·skip
     replace H := own_ifp c48_22 H
     refine o_icmpNo X18 hx hby e26_48.1 (own_eq (x := v21) (y := (-1)) (i := v21.toInt) (j := -1) rfl rfl c48_22).2 ?_
     refine o_iloadN X18 hx hby e26_48.2.1 rfl ?_
     refine o_goto X18 hx (pc0 := 52) (pc' := 57) rfl hby e26_48.2.2.1 (by decide) (by decide) ?_
     refine o_istore X18 hx hby e26_48.2.2.2.2 (l' := #[wR o0, wR o1, wI p2, wI p2, wR b2, wR b6, wI i, wI v21, wI p2, sl9, sl10]) (by rcases hsl8 with rfl | ⟨_, rfl⟩ <;> rfl) ?_
     refine o_aload X18 hx hby e26_59.1 rfl ?_
     refine o_iload X18 hx hby e26_59.2.1 rfl ?_
     refine o_aload X18 hx hby e26_59.2.2.1 rfl ?_
     refine o_iload X18 hx hby e26_59.2.2.2.1 rfl ?_
     obtain ⟨v23, hv23, H⟩ := own_bnd H
     refine o_ldI X18 hx hZ e18 Fa15_12 hv23 hby e26_59.2.2.2.2 ?_
     obtain ⟨L24', hs24, H⟩ := own_bnd H
     refine o_stI X18 hx hZ e18 Fa15_13 hs24 N15 g_b6 hby e26_68.1 fun T25 h25 ls25 X25 e25 W25 V_b6_25 N25 => ?_
     have Z25 := Nat.le_trans Z15 (Keep.of_wr W25).1
     have KP25 := KP15.wr W25 (Or.inr sz_b6)
     refine o_aload X25 hx hby e26_68.2.1 rfl ?_
     refine o_iload X25 hx hby e26_68.2.2.1 rfl ?_
     refine o_iload X25 hx hby e26_68.2.2.2.1 rfl ?_
     have U26 := (Fa15_12.other W25 ne_b2_b6)
     obtain ⟨L27', hs27, H⟩ := own_bnd H
     refine o_stI X25 hx hZ e25 U26 hs27 N25 g_b2 hby e26_68.2.2.2.2 fun T28 h28 ls28 X28 e28 W28 V_b2_28 N28 => ?_
     have Z28 := Nat.le_trans Z25 (Keep.of_wr W28).1
     have KP28 := KP25.wr W28 (Or.inr sz_b2)
     refine o_iinc X28 hx hby e26_76.1 rfl (l' := #[wR o0, wR o1, wI p2, wI p2, wR b2, wR b6, wI (i + (1 : Int32)), wI v21, wI p2, sl9, sl10]) rfl ?_
     refine o_goto X28 hx (pc0 := 79) (pc' := 23) rfl hby e26_76.2.1 (by decide) (by decide) ?_
     have U29 := ((Fa15_0.wr W25).wr W28)
     have U30 := ((Fa15_1.other W25 ne_o1_b6).other W28 ne_o1_b2)
     have U31 := ((Fa15_2.other W25 (Or.inl ne_o0_b6)).other W28 (Or.inl ne_o0_b2))
     have U32 := ((Fa15_3.other W25 ne_su_b6).other W28 ne_su_b2)
     have U33 := ((Fa15_4.other W25 (Or.inl ne_o0_b6)).other W28 (Or.inl ne_o0_b2))
     have U34 := ((Fa15_5.other W25 ne_fa_b6).other W28 ne_fa_b2)
     have U35 := ((Fa15_6.other W25 (Or.inl ne_o0_b6)).other W28 (Or.inl ne_o0_b2))
     have U36 := ((Fa15_7.other W25 ne_pa_b6).other W28 ne_pa_b2)
     have U37 := ((Fa15_8.other W25 (Or.inl ne_o0_b6)).other W28 (Or.inl ne_o0_b2))
     have U38 := ((Fa15_9.other W25 ne_la_b6).other W28 ne_la_b2)
     have U39 := ((Fa15_10.other W25 (Or.inl ne_o0_b6)).other W28 (Or.inl ne_o0_b2))
     have U40 := ((Fa15_11.other W25 ne_wa_b6).other W28 ne_wa_b2)
     have U41 := (V_b6_25.other W28 (Ne.symm ne_b2_b6))
     exact IH0 (i + (1 : Int32)) L27' L24' Pl La Wa T28 h28 _ X28 e28 N28 Z28 KP28 ((hIV14 _ _ _ _ _ _).mpr ⟨U29, U30, U31, U32, U33, U34, U35, U36, U37, U38, U39, U40, V_b2_28, U41⟩) (wI v21) (wI p2) (sl9) (sl10) (Or.inr ⟨_, rfl⟩) (Or.inr ⟨_, rfl⟩) hsl9 hsl10 H
    ·skip
     replace H := own_ifn c48_22 H
     refine o_icmpYes X18 hx (pc0 := 48) (pc' := 55) rfl hby e26_48.1 (own_ne (x := v21) (y := (-1)) (i := v21.toInt) (j := -1) rfl rfl c48_22).2 (by decide) (by decide) ?_
     refine o_iload X18 hx hby e26_48.2.2.2.1 rfl ?_
     refine o_istore X18 hx hby e26_48.2.2.2.2 (l' := #[wR o0, wR o1, wI p2, wI p2, wR b2, wR b6, wI i, wI v21, wI v21, sl9, sl10]) (by rcases hsl8 with rfl | ⟨_, rfl⟩ <;> rfl) ?_
     refine o_aload X18 hx hby e26_59.1 rfl ?_
     refine o_iload X18 hx hby e26_59.2.1 rfl ?_
     refine o_aload X18 hx hby e26_59.2.2.1 rfl ?_
     refine o_iload X18 hx hby e26_59.2.2.2.1 rfl ?_
     obtain ⟨v42, hv42, H⟩ := own_bnd H
     refine o_ldI X18 hx hZ e18 Fa15_12 hv42 hby e26_59.2.2.2.2 ?_
     obtain ⟨L43', hs43, H⟩ := own_bnd H
     refine o_stI X18 hx hZ e18 Fa15_13 hs43 N15 g_b6 hby e26_68.1 fun T44 h44 ls44 X44 e44 W44 V_b6_44 N44 => ?_
     have Z44 := Nat.le_trans Z15 (Keep.of_wr W44).1
     have KP44 := KP15.wr W44 (Or.inr sz_b6)
     refine o_aload X44 hx hby e26_68.2.1 rfl ?_
     refine o_iload X44 hx hby e26_68.2.2.1 rfl ?_
     refine o_iload X44 hx hby e26_68.2.2.2.1 rfl ?_
     have U45 := (Fa15_12.other W44 ne_b2_b6)
     obtain ⟨L46', hs46, H⟩ := own_bnd H
     refine o_stI X44 hx hZ e44 U45 hs46 N44 g_b2 hby e26_68.2.2.2.2 fun T47 h47 ls47 X47 e47 W47 V_b2_47 N47 => ?_
     have Z47 := Nat.le_trans Z44 (Keep.of_wr W47).1
     have KP47 := KP44.wr W47 (Or.inr sz_b2)
     refine o_iinc X47 hx hby e26_76.1 rfl (l' := #[wR o0, wR o1, wI p2, wI p2, wR b2, wR b6, wI (i + (1 : Int32)), wI v21, wI v21, sl9, sl10]) rfl ?_
     refine o_goto X47 hx (pc0 := 79) (pc' := 23) rfl hby e26_76.2.1 (by decide) (by decide) ?_
     have U48 := ((Fa15_0.wr W44).wr W47)
     have U49 := ((Fa15_1.other W44 ne_o1_b6).other W47 ne_o1_b2)
     have U50 := ((Fa15_2.other W44 (Or.inl ne_o0_b6)).other W47 (Or.inl ne_o0_b2))
     have U51 := ((Fa15_3.other W44 ne_su_b6).other W47 ne_su_b2)
     have U52 := ((Fa15_4.other W44 (Or.inl ne_o0_b6)).other W47 (Or.inl ne_o0_b2))
     have U53 := ((Fa15_5.other W44 ne_fa_b6).other W47 ne_fa_b2)
     have U54 := ((Fa15_6.other W44 (Or.inl ne_o0_b6)).other W47 (Or.inl ne_o0_b2))
     have U55 := ((Fa15_7.other W44 ne_pa_b6).other W47 ne_pa_b2)
     have U56 := ((Fa15_8.other W44 (Or.inl ne_o0_b6)).other W47 (Or.inl ne_o0_b2))
     have U57 := ((Fa15_9.other W44 ne_la_b6).other W47 ne_la_b2)
     have U58 := ((Fa15_10.other W44 (Or.inl ne_o0_b6)).other W47 (Or.inl ne_o0_b2))
     have U59 := ((Fa15_11.other W44 ne_wa_b6).other W47 ne_wa_b2)
     have U60 := (V_b6_44.other W47 (Ne.symm ne_b2_b6))
     exact IH0 (i + (1 : Int32)) L46' L43' Pl La Wa T47 h47 _ X47 e47 N47 Z47 KP47 ((hIV14 _ _ _ _ _ _).mpr ⟨U48, U49, U50, U51, U52, U53, U54, U55, U56, U57, U58, U59, V_b2_47, U60⟩) (wI v21) (wI v21) (sl9) (sl10) (Or.inr ⟨_, rfl⟩) (Or.inr ⟨_, rfl⟩) hsl9 hsl10 H
   ·skip
    replace H := own_ifn c26_16 H
    refine o_icmpYes X15 hx (pc0 := 26) (pc' := 82) rfl hby e26_23.2.2.1 (own_flt (x := i) (y := p2) (i := i.toInt) (j := p2.toInt) rfl rfl c26_16).2.1 (by decide) (by decide) ?_
    refine o_iloadN X15 hx hby e26_76.2.2.1 rfl ?_
    refine o_iconst X15 hx hby e26_76.2.2.2.1 (x := 1) rfl ?_
    refine o_iadd X15 hx hby e26_76.2.2.2.2 ?_
    obtain ⟨_, hg61, H⟩ := own_bnd H
    obtain ⟨T62, h62, k62, X62, e62, E62, A62, st62⟩ := newP X15 hx hZ (hW 34 rfl) e15 (g := (mkF m 85 #[wR o0, wR o1, wI p2, wI p2, wR b2, wR b6, wI i, sl7, sl8, sl9, sl10] [(.int (p2 + (1 : Int32)))])) rfl (hb hby e26_85.1) rfl (own_grdn hg61) (cap := 4) (own_grdc hg61) (by decide) (by decide) (by decide)
    obtain ⟨b62, g62⟩ : ∃ z, z = h15.size := ⟨_, rfl⟩
    rw [← g62] at A62 st62
    have g_b62 := own_gf Z15 g62
    have ne_o0_b62 := own_nf Fa15_0.lt g62
    have ne_o1_b62 := own_nf Fa15_1.lt g62
    have ne_su_b62 := own_nf Fa15_3.lt g62
    have ne_fa_b62 := own_nf Fa15_5.lt g62
    have ne_pa_b62 := own_nf Fa15_7.lt g62
    have ne_la_b62 := own_nf Fa15_9.lt g62
    have ne_wa_b62 := own_nf Fa15_11.lt g62
    have ne_b2_b62 := own_nf Fa15_12.lt g62
    have ne_b6_b62 := own_nf Fa15_13.lt g62
    have Z62 := Nat.le_trans Z15 E62.1
    have KP62 := KP15.ext E62
    have sz_b62 := own_gf KP15.1 g62
    have V_b62 := own_AI.new A62 (own_grdn hg61)
    refine own_go st62 ?_
    show own_End p e below s (T62.setTop (mkF m 87 _ [(.ref b62)])) _ _ _
    refine o_astore X62 hx hby e26_85.2.1 (l' := #[wR o0, wR o1, wI p2, wI p2, wR b2, wR b6, wR b62, sl7, sl8, sl9, sl10]) rfl ?_
    refine o_iconst X62 hx hby e26_85.2.2.1 (x := 0) rfl ?_
    refine o_istore X62 hx hby e26_85.2.2.2.1 (l' := #[wR o0, wR o1, wI p2, wI p2, wR b2, wR b6, wR b62, wI 0, sl8, sl9, sl10]) (by rcases hsl7 with rfl | ⟨_, rfl⟩ <;> rfl) ?_
    refine o_iconst X62 hx hby e26_85.2.2.2.2 (x := 0) rfl ?_
    refine o_istore X62 hx hby e26_93.1 (l' := #[wR o0, wR o1, wI p2, wI p2, wR b2, wR b6, wR b62, wI 0, wI 0, sl9, sl10]) (by rcases hsl8 with rfl | ⟨_, rfl⟩ <;> rfl) ?_
    refine o_aload X62 hx hby e26_93.2.1 rfl ?_
    refine o_iconst X62 hx hby e26_93.2.2.1 (x := 0) rfl ?_
    refine o_iloadN X62 hx hby e26_93.2.2.2.1 rfl ?_
    obtain ⟨L63', hs63, H⟩ := own_bnd H
    refine o_stI X62 hx hZ e62 V_b62 hs63 N15 g_b62 hby e26_93.2.2.2.2 fun T64 h64 ls64 X64 e64 W64 V_b62_64 N64 => ?_
    have Z64 := Nat.le_trans Z62 (Keep.of_wr W64).1
    have KP64 := KP62.wr W64 (Or.inr sz_b62)
    obtain ⟨IV65, hIV65⟩ : ∃ I : Heap → List Int32 → List Int32 → List Int32 → List Int32 → List Int32 → List Int32 → Prop, ∀ (hh : Heap) (Fc : List Int32) (Ns : List Int32) (Pt : List Int32) (Pl : List Int32) (La : List Int32) (Wa : List Int32), I hh Fc Ns Pt Pl La Wa ↔ (Exa Z hh o0 "com/example/portero/portero/matching/SegmentAutomaton" ∧ own_AI Z hh o1 k1 (3 : Int32) Ws ∧ Fld Z hh o0 "com/example/portero/portero/matching/SegmentAutomaton" "suffixes" "[I" (.ref su) ∧ own_AI Z hh su ks ms Su ∧ Fld Z hh o0 "com/example/portero/portero/matching/SegmentAutomaton" "failures" "[I" (.ref fa) ∧ own_AI Z hh fa kf ms Fa ∧ Fld Z hh o0 "com/example/portero/portero/matching/SegmentAutomaton" "places" "[I" (.ref pa) ∧ own_AI Z hh pa kp wc Pl ∧ Fld Z hh o0 "com/example/portero/portero/matching/SegmentAutomaton" "lastPlaces" "[I" (.ref la) ∧ own_AI Z hh la kl wc La ∧ Fld Z hh o0 "com/example/portero/portero/matching/SegmentAutomaton" "wordsAt" "[I" (.ref wa) ∧ own_AI Z hh wa kw wc Wa ∧ own_AI Z hh b2 k2 (p2 + (1 : Int32)) Fc ∧ own_AI Z hh b6 k6 p2 Ns ∧ own_AI Z hh b62 k62 (p2 + (1 : Int32)) Pt) := ⟨_, fun _ _ _ _ _ _ _ => Iff.rfl⟩
    have J1 : ∀ f1 : Nat, (∀ (d : Int32) (pl : Int32) (Fc : List Int32) (Ns : List Int32) (Pt : List Int32) (Pl : List Int32) (La : List Int32) (Wa : List Int32) (T66 : State) (h66 : Heap) (ls66 : List Loc) (X66 : Stand p l e ({ frames := 1, cells := 3, slots := 12, locals := 15 } : Room) s m #[(.ref o0), (.ref o1), (.int p2)] below meth c T66 ls66 3 12) (e66 : T66.heap = h66) (N66 : Fr n0 ls66) (Z66 : n0 ≤ h66.size) (KP66 : Keep h0 h66 [pa, la, wa]) (FF66 : IV65 h66 Fc Ns Pt Pl La Wa) (sl9 sl10 : Slot) (hsl9 : own_pl sl9) (hsl10 : own_pl sl10), S_rmTree_1 p2 Ws Su Fa f1 0 d pl Fc Ns Pt Pl La Wa = some out → own_End p e below s (T66.setTop (mkF m 100 #[wR o0, wR o1, wI p2, wI p2, wR b2, wR b6, wR b62, wI d, wI pl, sl9, sl10] [])) (Q_rmTree Z o0 o1 p2 k1 Ws su ks ms Su fa kf Fa pa kp wc Pl la kl La wa kw Wa out h0 n0) ({ frames := 1, cells := 3, slots := 12, locals := 15 } : Room).cells ({ frames := 1, cells := 3, slots := 12, locals := 15 } : Room).slots) := by
     intro f1
     induction f1 with
     | zero => (intros; rename_i H; exact nomatch (show (none : Option (List Int32 × List Int32 × List Int32)) = some _ from H))
     | succ f1 IH1 =>
      intro d pl Fc Ns Pt Pl La Wa T66 h66 ls66 X66 e66 N66 Z66 KP66 FF66 sl9 sl10 hsl9 hsl10 H
      obtain ⟨Fa66_0, Fa66_1, Fa66_2, Fa66_3, Fa66_4, Fa66_5, Fa66_6, Fa66_7, Fa66_8, Fa66_9, Fa66_10, Fa66_11, Fa66_12, Fa66_13, Fa66_14⟩ := (hIV65 _ _ _ _ _ _ _).mp FF66
      replace H := (S_rmTree_1_0 _ _ _ _ _ _ _ _ _ _ _ _ _).symm.trans H
      show own_End p e below s (T66.setTop (mkF m 100 _ [])) _ _ _
      refine o_iload X66 hx hby e26_100.1 rfl ?_
      by_cases c102_67 : d.toInt < 0
      ·skip
       replace H := own_ifp c102_67 H
       refine o_ifYes X66 hx (pc0 := 102) (pc' := 192) rfl hby e26_100.2.1 ((if0 _ _).trans (own_tlt (x := d) (y := 0) (i := d.toInt) (j := 0) rfl rfl c102_67).1) (by decide) (by decide) ?_
       obtain rfl := Option.some.inj H
       refine own_ret X66 (v := none) (fun _ => rfl) Bd.notSynchronized (fun fs hr => X66.returnOut hx Bd.returns (hb hby e26_186.2.2.2) hr) ?_ (by decide) (by decide)
       ·rw [e66]; exact ⟨⟨rfl, Fa66_7, Fa66_9, Fa66_11⟩, N66, KP66⟩
      ·skip
       replace H := own_ifn c102_67 H
       refine o_ifNo X66 hx hby e26_100.2.1 ((if0 _ _).trans (own_flt (x := d) (y := 0) (i := d.toInt) (j := 0) rfl rfl c102_67).1) ?_
       refine o_aload X66 hx hby e26_100.2.2.1 rfl ?_
       refine o_iload X66 hx hby e26_100.2.2.2.1 rfl ?_
       obtain ⟨v68, hv68, H⟩ := own_bnd H
       refine o_ldI X66 hx hZ e66 Fa66_14 hv68 hby e26_100.2.2.2.2 ?_
       refine o_istore X66 hx hby e26_110.1 (l' := #[wR o0, wR o1, wI p2, wI p2, wR b2, wR b6, wR b62, wI d, wI pl, wI v68, sl10]) (by rcases hsl9 with rfl | ⟨_, rfl⟩ <;> rfl) ?_
       refine o_aload X66 hx hby e26_110.2.1 rfl ?_
       refine o_iload X66 hx hby e26_110.2.2.1 rfl ?_
       obtain ⟨v69, hv69, H⟩ := own_bnd H
       refine o_ldI X66 hx hZ e66 Fa66_12 hv69 hby e26_110.2.2.2.1 ?_
       refine o_istore X66 hx hby e26_110.2.2.2.2 (l' := #[wR o0, wR o1, wI p2, wI p2, wR b2, wR b6, wR b62, wI d, wI pl, wI v68, wI v69]) (by rcases hsl10 with rfl | ⟨_, rfl⟩ <;> rfl) ?_
       refine o_iload X66 hx hby e26_119.1 rfl ?_
       refine o_iconst X66 hx hby e26_119.2.1 (x := (-1)) rfl ?_
       by_cases c122_70 : v69.toInt = -1
       ·skip
        replace H := own_ifp c122_70 H
        refine o_icmpNo X66 hx hby e26_119.2.2.1 (own_eq (x := v69) (y := (-1)) (i := v69.toInt) (j := -1) rfl rfl c122_70).2 ?_
        refine o_iload X66 hx hby e26_119.2.2.2.1 rfl ?_
        refine o_iloadN X66 hx hby e26_119.2.2.2.2 rfl ?_
        by_cases c128_71 : v68.toInt = p2.toInt
        ·skip
         replace H := own_ifp c128_71 H
         refine o_icmpYes X66 hx (pc0 := 128) (pc' := 142) rfl hby e26_128.1 (own_eq (x := v68) (y := p2) (i := v68.toInt) (j := p2.toInt) rfl rfl c128_71).1 (by decide) (by decide) ?_
         refine o_iinc X66 hx hby e26_139.2.2.2.1 rfl (l' := #[wR o0, wR o1, wI p2, wI p2, wR b2, wR b6, wR b62, wI (d + (-1 : Int32)), wI pl, wI v68, wI v69]) rfl ?_
         refine o_goto X66 hx (pc0 := 145) (pc' := 189) rfl hby e26_139.2.2.2.2 (by decide) (by decide) ?_
         refine o_goto X66 hx (pc0 := 189) (pc' := 100) rfl hby e26_186.2.2.1 (by decide) (by decide) ?_
         exact IH1 (d + (-1 : Int32)) pl Fc Ns Pt Pl La Wa T66 h66 _ X66 e66 N66 Z66 KP66 ((hIV65 _ _ _ _ _ _ _).mpr ⟨Fa66_0, Fa66_1, Fa66_2, Fa66_3, Fa66_4, Fa66_5, Fa66_6, Fa66_7, Fa66_8, Fa66_9, Fa66_10, Fa66_11, Fa66_12, Fa66_13, Fa66_14⟩) (wI v68) (wI v69) (Or.inr ⟨_, rfl⟩) (Or.inr ⟨_, rfl⟩) H
        ·skip
         replace H := own_ifn c128_71 H
         refine o_icmpNo X66 hx hby e26_128.1 (own_ne (x := v68) (y := p2) (i := v68.toInt) (j := p2.toInt) rfl rfl c128_71).1 ?_
         refine o_aloadN X66 hx hby e26_128.2.1 rfl ?_
         refine o_getF X66 hx hZ hown (host := "") (Or.inl (hW 141 rfl)) Via.refl e66 Fa66_8 hby e26_128.2.2.1 fun T72 X72 e72 => ?_
         refine o_iload X72 hx hby e26_128.2.2.2.1 rfl ?_
         refine o_iload X72 hx hby e26_128.2.2.2.2 rfl ?_
         refine o_iconst X72 hx hby e26_139.1 (x := 1) rfl ?_
         refine o_isub X72 hx hby e26_139.2.1 ?_
         obtain ⟨L73', hs73, H⟩ := own_bnd H
         refine o_stI X72 hx hZ e72 Fa66_9 hs73 N66 g_la hby e26_139.2.2.1 fun T74 h74 ls74 X74 e74 W74 V_la_74 N74 => ?_
         have Z74 := Nat.le_trans Z66 (Keep.of_wr W74).1
         have KP74 := KP66.wr W74 (Or.inl (List.mem_of_getElem? (i := 1) rfl))
         refine o_iinc X74 hx hby e26_139.2.2.2.1 rfl (l' := #[wR o0, wR o1, wI p2, wI p2, wR b2, wR b6, wR b62, wI (d + (-1 : Int32)), wI pl, wI v68, wI v69]) rfl ?_
         refine o_goto X74 hx (pc0 := 145) (pc' := 189) rfl hby e26_139.2.2.2.2 (by decide) (by decide) ?_
         refine o_goto X74 hx (pc0 := 189) (pc' := 100) rfl hby e26_186.2.2.1 (by decide) (by decide) ?_
         have U75 := (Fa66_0.wr W74)
         have U76 := (Fa66_1.other W74 (Ne.symm ne_la_o1))
         have U77 := (Fa66_2.other W74 (Or.inl (Ne.symm ne_la_o0)))
         have U78 := (Fa66_3.other W74 (Ne.symm ne_la_su))
         have U79 := (Fa66_4.other W74 (Or.inl (Ne.symm ne_la_o0)))
         have U80 := (Fa66_5.other W74 (Ne.symm ne_la_fa))
         have U81 := (Fa66_6.other W74 (Or.inl (Ne.symm ne_la_o0)))
         have U82 := (Fa66_7.other W74 ne_pa_la)
         have U83 := (Fa66_8.other W74 (Or.inl (Ne.symm ne_la_o0)))
         have U84 := (Fa66_10.other W74 (Or.inl (Ne.symm ne_la_o0)))
         have U85 := (Fa66_11.other W74 (Ne.symm ne_la_wa))
         have U86 := (Fa66_12.other W74 (Ne.symm ne_la_b2))
         have U87 := (Fa66_13.other W74 (Ne.symm ne_la_b6))
         have U88 := (Fa66_14.other W74 (Ne.symm ne_la_b62))
         exact IH1 (d + (-1 : Int32)) pl Fc Ns Pt Pl L73' Wa T74 h74 _ X74 e74 N74 Z74 KP74 ((hIV65 _ _ _ _ _ _ _).mpr ⟨U75, U76, U77, U78, U79, U80, U81, U82, U83, V_la_74, U84, U85, U86, U87, U88⟩) (wI v68) (wI v69) (Or.inr ⟨_, rfl⟩) (Or.inr ⟨_, rfl⟩) H
       ·skip
        replace H := own_ifn c122_70 H
        refine o_icmpYes X66 hx (pc0 := 122) (pc' := 148) rfl hby e26_119.2.2.1 (own_ne (x := v69) (y := (-1)) (i := v69.toInt) (j := -1) rfl rfl c122_70).2 (by decide) (by decide) ?_
        refine o_aload X66 hx hby e26_148.1 rfl ?_
        refine o_iload X66 hx hby e26_148.2.1 rfl ?_
        refine o_aload X66 hx hby e26_148.2.2.1 rfl ?_
        refine o_iload X66 hx hby e26_148.2.2.2.1 rfl ?_
        obtain ⟨v89, hv89, H⟩ := own_bnd H
        refine o_ldI X66 hx hZ e66 Fa66_13 hv89 hby e26_148.2.2.2.2 ?_
        obtain ⟨L90', hs90, H⟩ := own_bnd H
        refine o_stI X66 hx hZ e66 Fa66_12 hs90 N66 g_b2 hby e26_157.1 fun T91 h91 ls91 X91 e91 W91 V_b2_91 N91 => ?_
        have Z91 := Nat.le_trans Z66 (Keep.of_wr W91).1
        have KP91 := KP66.wr W91 (Or.inr sz_b2)
        refine o_aloadN X91 hx hby e26_157.2.1 rfl ?_
        have U92 := (Fa66_6.other W91 (Or.inl ne_o0_b2))
        refine o_getF X91 hx hZ hown (host := "") (Or.inl (hW 139 rfl)) Via.refl e91 U92 hby e26_157.2.2.1 fun T93 X93 e93 => ?_
        refine o_iload X93 hx hby e26_157.2.2.2.1 rfl ?_
        refine o_iload X93 hx hby e26_157.2.2.2.2 rfl ?_
        have U94 := (Fa66_7.other W91 ne_pa_b2)
        obtain ⟨L95', hs95, H⟩ := own_bnd H
        refine o_stI X93 hx hZ e93 U94 hs95 N91 g_pa hby e26_166.1 fun T96 h96 ls96 X96 e96 W96 V_pa_96 N96 => ?_
        have Z96 := Nat.le_trans Z91 (Keep.of_wr W96).1
        have KP96 := KP91.wr W96 (Or.inl (List.mem_of_getElem? (i := 0) rfl))
        refine o_aloadN X96 hx hby e26_166.2.1 rfl ?_
        have U97 := ((Fa66_10.other W91 (Or.inl ne_o0_b2)).other W96 (Or.inl (Ne.symm ne_pa_o0)))
        refine o_getF X96 hx hZ hown (host := "") (Or.inl (hW 143 rfl)) Via.refl e96 U97 hby e26_166.2.2.1 fun T98 X98 e98 => ?_
        refine o_iload X98 hx hby e26_166.2.2.2.1 rfl ?_
        refine o_iinc X98 hx hby e26_166.2.2.2.2 rfl (l' := #[wR o0, wR o1, wI p2, wI p2, wR b2, wR b6, wR b62, wI d, wI (pl + (1 : Int32)), wI v68, wI v69]) rfl ?_
        refine o_iload X98 hx hby e26_176.1 rfl ?_
        have U99 := ((Fa66_11.other W91 ne_wa_b2).other W96 (Ne.symm ne_pa_wa))
        obtain ⟨L100', hs100, H⟩ := own_bnd H
        refine o_stI X98 hx hZ e98 U99 hs100 N96 g_wa hby e26_176.2.1 fun T101 h101 ls101 X101 e101 W101 V_wa_101 N101 => ?_
        have Z101 := Nat.le_trans Z96 (Keep.of_wr W101).1
        have KP101 := KP96.wr W101 (Or.inl (List.mem_of_getElem? (i := 2) rfl))
        refine o_aload X101 hx hby e26_176.2.2.1 rfl ?_
        refine o_iinc X101 hx hby e26_176.2.2.2.1 rfl (l' := #[wR o0, wR o1, wI p2, wI p2, wR b2, wR b6, wR b62, wI (d + (1 : Int32)), wI (pl + (1 : Int32)), wI v68, wI v69]) rfl ?_
        refine o_iload X101 hx hby e26_176.2.2.2.2 rfl ?_
        refine o_iload X101 hx hby e26_186.1 rfl ?_
        have U102 := (((Fa66_14.other W91 (Ne.symm ne_b2_b62)).other W96 (Ne.symm ne_pa_b62)).other W101 (Ne.symm ne_wa_b62))
        obtain ⟨L103', hs103, H⟩ := own_bnd H
        refine o_stI X101 hx hZ e101 U102 hs103 N101 g_b62 hby e26_186.2.1 fun T104 h104 ls104 X104 e104 W104 V_b62_104 N104 => ?_
        have Z104 := Nat.le_trans Z101 (Keep.of_wr W104).1
        have KP104 := KP101.wr W104 (Or.inr sz_b62)
        refine o_goto X104 hx (pc0 := 189) (pc' := 100) rfl hby e26_186.2.2.1 (by decide) (by decide) ?_
        have U105 := ((((Fa66_0.wr W91).wr W96).wr W101).wr W104)
        have U106 := ((((Fa66_1.other W91 ne_o1_b2).other W96 (Ne.symm ne_pa_o1)).other W101 (Ne.symm ne_wa_o1)).other W104 ne_o1_b62)
        have U107 := ((((Fa66_2.other W91 (Or.inl ne_o0_b2)).other W96 (Or.inl (Ne.symm ne_pa_o0))).other W101 (Or.inl (Ne.symm ne_wa_o0))).other W104 (Or.inl ne_o0_b62))
        have U108 := ((((Fa66_3.other W91 ne_su_b2).other W96 (Ne.symm ne_pa_su)).other W101 (Ne.symm ne_wa_su)).other W104 ne_su_b62)
        have U109 := ((((Fa66_4.other W91 (Or.inl ne_o0_b2)).other W96 (Or.inl (Ne.symm ne_pa_o0))).other W101 (Or.inl (Ne.symm ne_wa_o0))).other W104 (Or.inl ne_o0_b62))
        have U110 := ((((Fa66_5.other W91 ne_fa_b2).other W96 (Ne.symm ne_pa_fa)).other W101 (Ne.symm ne_wa_fa)).other W104 ne_fa_b62)
        have U111 := (((U92.other W96 (Or.inl (Ne.symm ne_pa_o0))).other W101 (Or.inl (Ne.symm ne_wa_o0))).other W104 (Or.inl ne_o0_b62))
        have U112 := ((V_pa_96.other W101 ne_pa_wa).other W104 ne_pa_b62)
        have U113 := ((((Fa66_8.other W91 (Or.inl ne_o0_b2)).other W96 (Or.inl (Ne.symm ne_pa_o0))).other W101 (Or.inl (Ne.symm ne_wa_o0))).other W104 (Or.inl ne_o0_b62))
        have U114 := ((((Fa66_9.other W91 ne_la_b2).other W96 (Ne.symm ne_pa_la)).other W101 ne_la_wa).other W104 ne_la_b62)
        have U115 := ((U97.other W101 (Or.inl (Ne.symm ne_wa_o0))).other W104 (Or.inl ne_o0_b62))
        have U116 := (V_wa_101.other W104 ne_wa_b62)
        have U117 := (((V_b2_91.other W96 (Ne.symm ne_pa_b2)).other W101 (Ne.symm ne_wa_b2)).other W104 ne_b2_b62)
        have U118 := ((((Fa66_13.other W91 (Ne.symm ne_b2_b6)).other W96 (Ne.symm ne_pa_b6)).other W101 (Ne.symm ne_wa_b6)).other W104 ne_b6_b62)
        exact IH1 (d + (1 : Int32)) (pl + (1 : Int32)) L90' Ns L103' L95' La L100' T104 h104 _ X104 e104 N104 Z104 KP104 ((hIV65 _ _ _ _ _ _ _).mpr ⟨U105, U106, U107, U108, U109, U110, U111, U112, U113, U114, U115, U116, U117, U118, V_b62_104⟩) (wI v68) (wI v69) (Or.inr ⟨_, rfl⟩) (Or.inr ⟨_, rfl⟩) H
    have U119 := ((Fa15_0.ext E62).wr W64)
    have U120 := ((Fa15_1.ext E62).other W64 ne_o1_b62)
    have U121 := ((Fa15_2.ext E62).other W64 (Or.inl ne_o0_b62))
    have U122 := ((Fa15_3.ext E62).other W64 ne_su_b62)
    have U123 := ((Fa15_4.ext E62).other W64 (Or.inl ne_o0_b62))
    have U124 := ((Fa15_5.ext E62).other W64 ne_fa_b62)
    have U125 := ((Fa15_6.ext E62).other W64 (Or.inl ne_o0_b62))
    have U126 := ((Fa15_7.ext E62).other W64 ne_pa_b62)
    have U127 := ((Fa15_8.ext E62).other W64 (Or.inl ne_o0_b62))
    have U128 := ((Fa15_9.ext E62).other W64 ne_la_b62)
    have U129 := ((Fa15_10.ext E62).other W64 (Or.inl ne_o0_b62))
    have U130 := ((Fa15_11.ext E62).other W64 ne_wa_b62)
    have U131 := ((Fa15_12.ext E62).other W64 ne_b2_b62)
    have U132 := ((Fa15_13.ext E62).other W64 ne_b6_b62)
    exact (J1 20) (0 : Int32) (0 : Int32) Fc Ns L63' Pl La Wa T64 h64 _ X64 e64 N64 Z64 KP64 ((hIV65 _ _ _ _ _ _ _).mpr ⟨U119, U120, U121, U122, U123, U124, U125, U126, U127, U128, U129, U130, U131, U132, V_b62_64⟩) (sl9) (sl10) hsl9 hsl10 H
 have U133 := (U7.ext E6)
 have U134 := (U8.ext E6)
 have U135 := (((F_o0_suffixes.ext E2).keep K4 (ninS ne_o0_b2 nin0)).ext E6)
 have U136 := (U9.ext E6)
 have U137 := (((F_o0_failures.ext E2).keep K4 (ninS ne_o0_b2 nin0)).ext E6)
 have U138 := (U10.ext E6)
 have U139 := (((F_o0_places.ext E2).keep K4 (ninS ne_o0_b2 nin0)).ext E6)
 have U140 := (U11.ext E6)
 have U141 := (((F_o0_lastPlaces.ext E2).keep K4 (ninS ne_o0_b2 nin0)).ext E6)
 have U142 := (U12.ext E6)
 have U143 := (((F_o0_wordsAt.ext E2).keep K4 (ninS ne_o0_b2 nin0)).ext E6)
 have U144 := (U13.ext E6)
 have U145 := (P0_4.ext E6)
 exact (J0 8) (0 : Int32) o3 (List.replicate (p2).toNatClampNeg 0) Pl La Wa T6 h6 _ X6 e6 N4 Z6 KP6 ((hIV14 _ _ _ _ _ _).mpr ⟨U133, U134, U135, U136, U137, U138, U139, U140, U141, U142, U143, U144, U145, V_b6⟩) (wU) (wU) (wU) (wU) (Or.inl rfl) (Or.inl rfl) (Or.inl rfl) (Or.inl rfl) H
theorem own_ef12_rmCopy (m : MethodId) (o0 : Addr) : entryFrame m #[(.ref o0), (.int 3)] 3 = mkF m 0 #[.val (.ref o0), .val (.int 3), .unset] [] := by first | (simp [entryFrame, mkF, argsToLocals, Value.category]; done) | rfl
def Q_rmCopy (Z : State) (o0 : Addr) (k : ClassId) (LL : List Int32) (h0 : Heap) (n0 : Nat) (v : Option Value) (h : Heap) (L : List Loc) : Prop := (∃ (c1 : Addr), v = some (.ref c1) ∧ h0.size ≤ c1 ∧ own_AI Z h c1 k (3 : Int32) LL) ∧ Fr n0 L ∧ Keep h0 h []
abbrev wc12 : ByteArray := jdk_65_method_123_code
theorem e12_0 : decode wc12 0 = .ok (.iload_n 1, 1) ∧ decode wc12 1 = .ok (.aload_n 0, 1) ∧ decode wc12 2 = .ok (.arraylength, 1) ∧ decode wc12 3 = .ok (.if_icmp .ne 11, 3) ∧ decode wc12 6 = .ok (.aload_n 0, 1) := by decide +kernel
theorem e12_7 : decode wc12 7 = .ok (.invokevirtual 316, 3) ∧ decode wc12 10 = .ok (.checkcast 317, 3) ∧ decode wc12 13 = .ok (.areturn, 1) := by decide +kernel
set_option maxRecDepth 65536 in
set_option maxHeartbeats 40000000 in
theorem rmCopy (l : Launch) (Z : State) (a0 : Array Value) (hw : ∀ d ∈ tables_1, d.before a0 Z = true) (ws : List Jvm.Cond) (o0 : Addr) (k : ClassId) (LL : List Int32) (h0 : Heap) (n0 : Nat) (Z0 : n0 ≤ h0.size) (V_o0 : own_AI Z h0 o0 k (3 : Int32) LL) (E_o0 : Exa Z h0 o0 "[I") :
  MetFree l (⟨"java/util/Arrays", "copyOf", "([II)[I"⟩ : MethodName) (head1 (Jvm.Cond.code (⟨"java/util/Arrays", "copyOf", "([II)[I"⟩ : MethodName) jdk_65_method_123_code 3 (some (.array .int)) :: ws) ({ frames := 1, cells := 1, slots := 3, locals := 14 } : Room)) (fun a U => a = #[(.ref o0), (.int 3)] ∧ Z.Warmed39 U.vm ∧ U.heap = h0) (fun _ _ _ _ _ => True) (fun _ U o U' => ∃ v L, o = .returned v ∧ Q_rmCopy Z o0 k LL h0 n0 v U'.heap L ∧ FrameEnd U o U' L ({ frames := 1, cells := 1, slots := 3, locals := 14 } : Room).cells ({ frames := 1, cells := 1, slots := 3, locals := 14 } : Room).slots) := by
 refine MetFree.of_bodySF (plainFor_of_name own_pn1) hisR ?_
 intro p e s m args below meth c s₁ Bd hml0 hP hK
 obtain ⟨rfl, hZ, hh⟩ := hP
 have hW := @own_hW a0 Z hw
 have hx := Bd.exec
 have hby := Bd.bytes
 have hml : c.maxLocals = 3 := hml0
 have hown : s.vm.findClass "java/util/Arrays" = some m.cls := findClass_of_methodNamed Bd.named
 have hnm := (name_of_methodNamed Bd.named Bd.method).1
 have X0 : Stand p l e ({ frames := 1, cells := 1, slots := 3, locals := 14 } : Room) s m #[(.ref o0), (.int 3)] below meth c s₁ [] 0 0 := Stand.of_body Bd
 have e0 : s₁.heap = h0 := by rw [← hh, Bd.state]; rfl
 have N0 := Fr.nil n0
 refine (show own_End p e below s (s₁.setTop (entryFrame m #[(.ref o0), (.int 3)] 3)) (Q_rmCopy Z o0 k LL h0 n0) ({ frames := 1, cells := 1, slots := 3, locals := 14 } : Room).cells ({ frames := 1, cells := 1, slots := 3, locals := 14 } : Room).slots from ?_)
 refine own_go (fun τ κ => castTop (own_ef12_rmCopy m o0) κ) ?_
 have li0 : (0 : Int32).toInt = 0 := rfl
 have li1 : (1 : Int32).toInt = 1 := rfl
 show own_End p e below s (s₁.setTop (mkF m 0 #[wR o0, wI 3, wU] [])) _ _ _
 refine o_iloadN X0 hx hby e12_0.1 rfl ?_
 refine o_aloadN X0 hx hby e12_0.2.1 rfl ?_
 refine o_len X0 hx hZ e0 V_o0.1 hby e12_0.2.2.1 ?_
 refine o_icmpNo X0 hx hby e12_0.2.2.2.1 (own_eq (x := 3) (y := 3) (i := 3) (j := 3) rfl rfl (by decide)).2 ?_
 refine o_aloadN X0 hx hby e12_0.2.2.2.2 rfl ?_
 obtain ⟨T1, h1, X1, e1, E1, A1, Ex1, st1⟩ := cloneH X0 hx hZ hown (hW 72 rfl) (hW 73 rfl) (hW 77 rfl) (hW 75 rfl) (hW 76 rfl) (hW 78 rfl) e0 (own_arh V_o0.1) E_o0 (g := (mkF m 7 #[wR o0, wI 3, wU] [(.ref o0)])) rfl (by rw [hml]; rfl) rfl (hb hby e12_7.1) (by decide) (W := 0) (by show 2 * 0 + _ ≤ _; exact Nat.le_of_eq rfl) (by decide) (cap := 3) (by decide) (by decide) (by decide)
 obtain ⟨b1, g1⟩ : ∃ z, z = h0.size := ⟨_, rfl⟩
 rw [← g1] at A1 Ex1 st1
 have g_b1 := own_gf Z0 g1
 have ne_o0_b1 := own_nf V_o0.lt g1
 have Z1 := Nat.le_trans Z0 E1.1
 have KP1 := (Keep.refl h0 []).ext E1
 have sz_b1 := own_gf (Keep.refl h0 []).1 g1
 have V_b1 : own_AI Z h1 b1 k (3 : Int32) LL := ⟨own_arv A1, V_o0.2⟩
 refine own_go st1 ?_
 show own_End p e below s (T1.setTop (mkF m 10 _ [(.ref b1)])) _ _ _
 obtain ⟨T2, X2, e2, st2⟩ := castY X1 hx hZ hown (hW 79 rfl) e1 (Ins.self Ex1) (g := (mkF m 10 #[wR o0, wI 3, wU] [(.ref b1)])) rfl rfl (hb hby e12_7.2.1)
 refine own_go st2 ?_
 show own_End p e below s (T2.setTop (mkF m 13 _ [(.ref b1)])) _ _ _
 refine own_ret X2 (v := some (.ref b1)) (fun h => by rw [Bd.returns] at h; cases h) Bd.notSynchronized (fun fs hr => retOut X2 hx (w := (.ref b1)) Bd.returns rfl (Or.inr (Or.inr (Or.inr (Or.inr ⟨rfl, rfl, rfl⟩)))) (hb hby e12_7.2.2) hr) ?_ (by decide) (by decide)
 ·rw [e2]; exact ⟨⟨_, rfl, sz_b1, V_b1⟩, N0, KP1⟩
theorem own_pn7 : plainName "java/util/Objects" = true := by first | (simp [plainName, overriddenIn]; done) | decide +kernel
theorem own_ef14_rmRnn (m : MethodId) (o0 : Addr) : entryFrame m #[(.ref o0)] 1 = mkF m 0 #[.val (.ref o0)] [] := by first | (simp [entryFrame, mkF, argsToLocals, Value.category]; done) | rfl
def Q_rmRnn (Z : State) (o0 : Addr)  (h0 : Heap) (n0 : Nat) (v : Option Value) (h : Heap) (L : List Loc) : Prop := (v = some (.ref o0)) ∧ Fr n0 L ∧ h = h0
abbrev wc14 : ByteArray := jdk_31_method_10_code
theorem e14_0 : decode wc14 0 = .ok (.aload_n 0, 1) ∧ decode wc14 1 = .ok (.ifnonnull 11, 3) ∧ decode wc14 12 = .ok (.aload_n 0, 1) ∧ decode wc14 13 = .ok (.areturn, 1) := by decide +kernel
set_option maxRecDepth 65536 in
set_option maxHeartbeats 40000000 in
theorem rmRnn (l : Launch) (Z : State) (a0 : Array Value) (hw : ∀ d ∈ tables_1, d.before a0 Z = true) (ws : List Jvm.Cond) (o0 : Addr)  (h0 : Heap) (n0 : Nat) (Z0 : n0 ≤ h0.size)  :
  MetFree l (⟨"java/util/Objects", "requireNonNull", "(Ljava/lang/Object;)Ljava/lang/Object;"⟩ : MethodName) (head1 (Jvm.Cond.code (⟨"java/util/Objects", "requireNonNull", "(Ljava/lang/Object;)Ljava/lang/Object;"⟩ : MethodName) jdk_31_method_10_code 1 (some (.object "java/lang/Object")) :: ws) ({ frames := 0, cells := 0, slots := 0, locals := 0 } : Room)) (fun a U => a = #[(.ref o0)] ∧ Z.Warmed39 U.vm ∧ U.heap = h0) (fun _ _ _ _ _ => True) (fun _ U o U' => ∃ v L, o = .returned v ∧ Q_rmRnn Z o0  h0 n0 v U'.heap L ∧ FrameEnd U o U' L ({ frames := 0, cells := 0, slots := 0, locals := 0 } : Room).cells ({ frames := 0, cells := 0, slots := 0, locals := 0 } : Room).slots) := by
 refine MetFree.of_bodySF (plainFor_of_name own_pn7) hisR ?_
 intro p e s m args below meth c s₁ Bd hml0 hP hK
 obtain ⟨rfl, hZ, hh⟩ := hP
 have hW := @own_hW a0 Z hw
 have hx := Bd.exec
 have hby := Bd.bytes
 have hml : c.maxLocals = 1 := hml0
 have hown : s.vm.findClass "java/util/Objects" = some m.cls := findClass_of_methodNamed Bd.named
 have hnm := (name_of_methodNamed Bd.named Bd.method).1
 have X0 : Stand p l e ({ frames := 0, cells := 0, slots := 0, locals := 0 } : Room) s m #[(.ref o0)] below meth c s₁ [] 0 0 := Stand.of_body Bd
 have e0 : s₁.heap = h0 := by rw [← hh, Bd.state]; rfl
 have N0 := Fr.nil n0
 refine (show own_End p e below s (s₁.setTop (entryFrame m #[(.ref o0)] 1)) (Q_rmRnn Z o0  h0 n0) ({ frames := 0, cells := 0, slots := 0, locals := 0 } : Room).cells ({ frames := 0, cells := 0, slots := 0, locals := 0 } : Room).slots from ?_)
 refine own_go (fun τ κ => castTop (own_ef14_rmRnn m o0) κ) ?_
 have li0 : (0 : Int32).toInt = 0 := rfl
 have li1 : (1 : Int32).toInt = 1 := rfl
 show own_End p e below s (s₁.setTop (mkF m 0 #[wR o0] [])) _ _ _
 refine o_aloadN X0 hx hby e14_0.1 rfl ?_
 refine own_go (fun τ κ => XS.ifnonnullYes X0.here hx rfl (pc0 := 1) (pc' := 12) rfl (hb hby e14_0.2.1) rfl (by decide) (by decide) κ) ?_
 show own_End p e below s (s₁.setTop (mkF m 12 _ [])) _ _ _
 refine o_aloadN X0 hx hby e14_0.2.2.1 rfl ?_
 refine own_ret X0 (v := some (.ref o0)) (fun h => by rw [Bd.returns] at h; cases h) Bd.notSynchronized (fun fs hr => retOut X0 hx (w := (.ref o0)) Bd.returns rfl (Or.inr (Or.inr (Or.inr (Or.inr ⟨rfl, rfl, rfl⟩)))) (hb hby e14_0.2.2.2) hr) ?_ (by decide) (by decide)
 ·rw [e0]; exact ⟨rfl, N0, rfl⟩
theorem own_ef13_rmSetAll (m : MethodId) (o0 : Addr) (o1 : Addr) : entryFrame m #[(.ref o0), (.ref o1)] 3 = mkF m 0 #[.val (.ref o0), .val (.ref o1), .unset] [] := by first | (simp [entryFrame, mkF, argsToLocals, Value.category]; done) | rfl
def Q_rmSetAll (Z : State) (o0 : Addr) (o1 : Addr) (cK : ClassId) (k : ClassId) (x0 : Int32) (x1 : Int32) (x2 : Int32) (h0 : Heap) (n0 : Nat) (v : Option Value) (h : Heap) (L : List Loc) : Prop := (v = none ∧ Arv Z h o0 k .int (3 : Int32) [(.int 0), (.int 1), (.int 2)] (.int 0)) ∧ Fr n0 L ∧ Keep h0 h [o0]
abbrev wc13 : ByteArray := jdk_65_method_175_code
theorem e13_0 : decode wc13 0 = .ok (.aload_n 1, 1) ∧ decode wc13 1 = .ok (.invokestatic 175, 3) ∧ decode wc13 4 = .ok (.pop, 1) ∧ decode wc13 5 = .ok (.iconst 0, 1) ∧ decode wc13 6 = .ok (.istore_n 2, 1) := by decide +kernel
theorem own_pd11 : parseMethodDescriptor "(Ljava/lang/Object;)Ljava/lang/Object;" = some ⟨[(.object "java/lang/Object")], some (.object "java/lang/Object")⟩ := by decide +kernel
abbrev wy14 : MethodName := (⟨"java/util/Objects", "requireNonNull", "(Ljava/lang/Object;)Ljava/lang/Object;"⟩ : MethodName)
theorem e13_7 : decode wc13 7 = .ok (.iload_n 2, 1) ∧ decode wc13 8 = .ok (.aload_n 0, 1) ∧ decode wc13 9 = .ok (.arraylength, 1) ∧ decode wc13 10 = .ok (.if_icmp .ge 19, 3) ∧ decode wc13 13 = .ok (.aload_n 0, 1) := by decide +kernel
theorem e13_14 : decode wc13 14 = .ok (.iload_n 2, 1) ∧ decode wc13 15 = .ok (.aload_n 1, 1) ∧ decode wc13 16 = .ok (.iload_n 2, 1) ∧ decode wc13 17 = .ok (.invokeinterface 582 2, 5) ∧ decode wc13 22 = .ok (.iastore, 1) := by decide +kernel
theorem e13_23 : decode wc13 23 = .ok (.iinc 2 1, 3) ∧ decode wc13 26 = .ok (.goto (-19), 3) ∧ decode wc13 29 = .ok (.return_, 1) := by decide +kernel
set_option maxRecDepth 65536 in
set_option maxHeartbeats 40000000 in
theorem rmSetAll (l : Launch) (Z : State) (a0 : Array Value) (hw : ∀ d ∈ tables_1, d.before a0 Z = true) (ws : List Jvm.Cond) (o0 : Addr) (o1 : Addr) (cK : ClassId) (k : ClassId) (x0 : Int32) (x1 : Int32) (x2 : Int32) (h0 : Heap) (n0 : Nat) (Z0 : n0 ≤ h0.size) (hmd : Jvm.LamKit.Made Z own_host own_sh cK) (hfn : own_Fn h0 o1 cK) (V_o0 : Arv Z h0 o0 k .int (3 : Int32) [(.int x0), (.int x1), (.int x2)] (.int 0)) (g_o0 : n0 ≤ o0) :
  MetFree l (⟨"java/util/Arrays", "setAll", "([ILjava/util/function/IntUnaryOperator;)V"⟩ : MethodName) (head1 (Jvm.Cond.code (⟨"java/util/Arrays", "setAll", "([ILjava/util/function/IntUnaryOperator;)V"⟩ : MethodName) jdk_65_method_175_code 3 none :: ws) ({ frames := 2, cells := 0, slots := 0, locals := 27 } : Room)) (fun a U => a = #[(.ref o0), (.ref o1)] ∧ Z.WarmedH U.vm ∧ U.heap = h0) (fun _ _ _ _ _ => True) (fun _ U o U' => ∃ v L, o = .returned v ∧ Q_rmSetAll Z o0 o1 cK k x0 x1 x2 h0 n0 v U'.heap L ∧ FrameEnd U o U' L ({ frames := 2, cells := 0, slots := 0, locals := 27 } : Room).cells ({ frames := 2, cells := 0, slots := 0, locals := 27 } : Room).slots) := by
 refine MetFree.of_bodySF (plainFor_of_name own_pn1) hisR ?_
 intro p e s m args below meth c s₁ Bd hml0 hP hK
 obtain ⟨rfl, hH, hh⟩ := hP
 have hZ : Z.Warmed39 s.vm := hH.wide
 have hW := @own_hW a0 Z hw
 have hx := Bd.exec
 have hby := Bd.bytes
 have hml : c.maxLocals = 3 := hml0
 have hown : s.vm.findClass "java/util/Arrays" = some m.cls := findClass_of_methodNamed Bd.named
 have hnm := (name_of_methodNamed Bd.named Bd.method).1
 have X0 : Stand p l e ({ frames := 2, cells := 0, slots := 0, locals := 27 } : Room) s m #[(.ref o0), (.ref o1)] below meth c s₁ [] 0 0 := Stand.of_body Bd
 have e0 : s₁.heap = h0 := by rw [← hh, Bd.state]; rfl
 have N0 := Fr.nil n0
 refine (show own_End p e below s (s₁.setTop (entryFrame m #[(.ref o0), (.ref o1)] 3)) (Q_rmSetAll Z o0 o1 cK k x0 x1 x2 h0 n0) ({ frames := 2, cells := 0, slots := 0, locals := 27 } : Room).cells ({ frames := 2, cells := 0, slots := 0, locals := 27 } : Room).slots from ?_)
 refine own_go (fun τ κ => castTop (own_ef13_rmSetAll m o0 o1) κ) ?_
 have li0 : (0 : Int32).toInt = 0 := rfl
 have li1 : (1 : Int32).toInt = 1 := rfl
 show own_End p e below s (s₁.setTop (mkF m 0 #[wR o0, wR o1, wU] [])) _ _ _
 refine o_aloadN X0 hx hby e13_0.1 rfl ?_
 refine o_cS X0 hx hZ hown (y := wy14) (hW 87 rfl) (hW 88 rfl) (hW 89 rfl) (hW 90 rfl) (by decide) (backOf (W := 0) (rmRnn l Z a0 hw [] o1 h0 n0 Z0 ) hZ (hW 90 rfl) (hW 89 rfl) (by decide) (by decide)) (by rw [hml]; rfl) (argsL := [(.ref o1)]) (rest := []) (lenOf own_pd11 rfl) rfl rfl (Nat.le_of_eq rfl) e0 (by decide) (by decide) hby e13_0.2.1 N0 fun T1 v1 Lc1 ls1 X1 hQ1 nq1 => ?_
 obtain ⟨rfl, N1q, e1⟩ := hQ1
 have N1 := nq1 N1q
 show own_End p e below s (T1.setTop (mkF m 4 _ [(.ref o1)])) _ _ _
 refine own_go (fun τ κ => XS.pop X1.here hx rfl (hb hby e13_0.2.2.1) rfl rfl κ) ?_
 show own_End p e below s (T1.setTop (mkF m 5 _ [])) _ _ _
 refine o_iconst X1 hx hby e13_0.2.2.2.1 (x := 0) rfl ?_
 refine o_istoreN X1 hx hby e13_0.2.2.2.2 (l' := #[wR o0, wR o1, wI 0]) rfl ?_
 refine o_iloadN X1 hx hby e13_7.1 rfl ?_
 refine o_aloadN X1 hx hby e13_7.2.1 rfl ?_
 obtain ⟨cl2, Ar2, qa2, Sq2, Mq2, Hh2, Gq2⟩ := id V_o0
 refine own_go (fun τ κ => X1.arraylength hx (by rw [e1]; exact Ar2.1) (State.isArrayOf_alike hZ.alike Ar2.2.1) (g := (mkF m 9 #[wR o0, wR o1, wI 0] [(.ref o0), (.int 0)])) rfl rfl (hb hby e13_7.2.2.1) _ (by rw [len_of Sq2 Mq2]; exact κ)) ?_
 show own_End p e below s (T1.setTop (mkF m 10 _ [(.int 3), (.int 0)])) _ _ _
 refine o_icmpNo X1 hx hby e13_7.2.2.2.1 (own_tlt (x := 0) (y := 3) (i := 0) (j := 3) rfl rfl (by decide)).2.1 ?_
 refine o_aloadN X1 hx hby e13_7.2.2.2.2 rfl ?_
 refine o_iloadN X1 hx hby e13_14.1 rfl ?_
 refine o_aloadN X1 hx hby e13_14.2.1 rfl ?_
 refine o_iloadN X1 hx hby e13_14.2.2.1 rfl ?_
 obtain ⟨T3, X3, e3, st3⟩ := own_lam X1 hx hH hown hw hmd hfn e1 (g := (mkF m 17 #[wR o0, wR o1, wI 0] [(.int 0), (.ref o1), (.int 0), (.ref o0)])) rfl (by rw [hml]; rfl) rfl (hb hby e13_14.2.2.2.1) (by decide) (by show 2 * 0 + _ + _ + _ ≤ _; exact Nat.le_of_ble_eq_true rfl) (by decide) (by decide)
 refine own_go st3 ?_
 show own_End p e below s (T3.setTop (mkF m 22 _ [(.int 0), (.int 0), (.ref o0)])) _ _ _
 obtain ⟨cl4, Ar4, qa4, Sq4, Mq4, Hh4, Gq4⟩ := id V_o0
 have hin4 : ¬ ((0 : Int32) < 0 ∨ cl4.slots.size ≤ ((0 : Int32)).toNatClampNeg) := inb_of Sq4 ⟨by decide, by decide⟩
 obtain ⟨T5, h5, X5, e5, W5, st5⟩ := stI X3 hx hZ e3 Ar4 (j := 0) hin4 (g := (mkF m 22 #[wR o0, wR o1, wI 0] [(.int 0), (.int 0), (.ref o0)])) rfl rfl (hb hby e13_14.2.2.2.2)
 have V_o0_5 : Arv Z h5 o0 k .int (3 : Int32) [(.int 0), (.int x1), (.int x2)] (.int 0) := Arv.set Ar4 qa4 Sq4 Mq4 Hh4 Gq4 rfl W5 0 rfl (Nat.le_of_ble_eq_true rfl)
 have N5 := Fr.snoc X5 N1 g_o0
 obtain ⟨ls5, Xl5, Nl5⟩ := own_abs X5 N5
 have Z5 := Nat.le_trans Z0 (Keep.of_wr W5).1
 have KP5 := (Keep.refl h0 [o0]).wr W5 (Or.inl (List.mem_of_getElem? (i := 0) rfl))
 refine own_go st5 ?_
 show own_End p e below s (T5.setTop (mkF m 23 _ [])) _ _ _
 refine o_iinc Xl5 hx hby e13_23.1 rfl (l' := #[wR o0, wR o1, wI 1]) rfl ?_
 refine o_goto Xl5 hx (pc0 := 26) (pc' := 7) rfl hby e13_23.2.1 (by decide) (by decide) ?_
 refine o_iloadN Xl5 hx hby e13_7.1 rfl ?_
 refine o_aloadN Xl5 hx hby e13_7.2.1 rfl ?_
 obtain ⟨cl6, Ar6, qa6, Sq6, Mq6, Hh6, Gq6⟩ := id V_o0_5
 refine own_go (fun τ κ => Xl5.arraylength hx (by rw [e5]; exact Ar6.1) (State.isArrayOf_alike hZ.alike Ar6.2.1) (g := (mkF m 9 #[wR o0, wR o1, wI 1] [(.ref o0), (.int 1)])) rfl rfl (hb hby e13_7.2.2.1) _ (by rw [len_of Sq6 Mq6]; exact κ)) ?_
 show own_End p e below s (T5.setTop (mkF m 10 _ [(.int 3), (.int 1)])) _ _ _
 refine o_icmpNo Xl5 hx hby e13_7.2.2.2.1 (own_tlt (x := 1) (y := 3) (i := 1) (j := 3) rfl rfl (by decide)).2.1 ?_
 refine o_aloadN Xl5 hx hby e13_7.2.2.2.2 rfl ?_
 refine o_iloadN Xl5 hx hby e13_14.1 rfl ?_
 refine o_aloadN Xl5 hx hby e13_14.2.1 rfl ?_
 refine o_iloadN Xl5 hx hby e13_14.2.2.1 rfl ?_
 have U7 := (hfn.wr W5)
 obtain ⟨T8, X8, e8, st8⟩ := own_lam Xl5 hx hH hown hw hmd U7 e5 (g := (mkF m 17 #[wR o0, wR o1, wI 1] [(.int 1), (.ref o1), (.int 1), (.ref o0)])) rfl (by rw [hml]; rfl) rfl (hb hby e13_14.2.2.2.1) (by decide) (by show 2 * 0 + _ + _ + _ ≤ _; exact Nat.le_of_ble_eq_true rfl) (by decide) (by decide)
 refine own_go st8 ?_
 show own_End p e below s (T8.setTop (mkF m 22 _ [(.int 1), (.int 1), (.ref o0)])) _ _ _
 obtain ⟨cl9, Ar9, qa9, Sq9, Mq9, Hh9, Gq9⟩ := id V_o0_5
 have hin9 : ¬ ((1 : Int32) < 0 ∨ cl9.slots.size ≤ ((1 : Int32)).toNatClampNeg) := inb_of Sq9 ⟨by decide, by decide⟩
 obtain ⟨T10, h10, X10, e10, W10, st10⟩ := stI X8 hx hZ e8 Ar9 (j := 1) hin9 (g := (mkF m 22 #[wR o0, wR o1, wI 1] [(.int 1), (.int 1), (.ref o0)])) rfl rfl (hb hby e13_14.2.2.2.2)
 have V_o0_10 : Arv Z h10 o0 k .int (3 : Int32) [(.int 0), (.int 1), (.int x2)] (.int 0) := Arv.set Ar9 qa9 Sq9 Mq9 Hh9 Gq9 rfl W10 1 rfl (Nat.le_of_ble_eq_true rfl)
 have N10 := Fr.snoc X10 Nl5 g_o0
 obtain ⟨ls10, Xl10, Nl10⟩ := own_abs X10 N10
 have Z10 := Nat.le_trans Z5 (Keep.of_wr W10).1
 have KP10 := KP5.wr W10 (Or.inl (List.mem_of_getElem? (i := 0) rfl))
 refine own_go st10 ?_
 show own_End p e below s (T10.setTop (mkF m 23 _ [])) _ _ _
 refine o_iinc Xl10 hx hby e13_23.1 rfl (l' := #[wR o0, wR o1, wI 2]) rfl ?_
 refine o_goto Xl10 hx (pc0 := 26) (pc' := 7) rfl hby e13_23.2.1 (by decide) (by decide) ?_
 refine o_iloadN Xl10 hx hby e13_7.1 rfl ?_
 refine o_aloadN Xl10 hx hby e13_7.2.1 rfl ?_
 obtain ⟨cl11, Ar11, qa11, Sq11, Mq11, Hh11, Gq11⟩ := id V_o0_10
 refine own_go (fun τ κ => Xl10.arraylength hx (by rw [e10]; exact Ar11.1) (State.isArrayOf_alike hZ.alike Ar11.2.1) (g := (mkF m 9 #[wR o0, wR o1, wI 2] [(.ref o0), (.int 2)])) rfl rfl (hb hby e13_7.2.2.1) _ (by rw [len_of Sq11 Mq11]; exact κ)) ?_
 show own_End p e below s (T10.setTop (mkF m 10 _ [(.int 3), (.int 2)])) _ _ _
 refine o_icmpNo Xl10 hx hby e13_7.2.2.2.1 (own_tlt (x := 2) (y := 3) (i := 2) (j := 3) rfl rfl (by decide)).2.1 ?_
 refine o_aloadN Xl10 hx hby e13_7.2.2.2.2 rfl ?_
 refine o_iloadN Xl10 hx hby e13_14.1 rfl ?_
 refine o_aloadN Xl10 hx hby e13_14.2.1 rfl ?_
 refine o_iloadN Xl10 hx hby e13_14.2.2.1 rfl ?_
 have U12 := (U7.wr W10)
 obtain ⟨T13, X13, e13, st13⟩ := own_lam Xl10 hx hH hown hw hmd U12 e10 (g := (mkF m 17 #[wR o0, wR o1, wI 2] [(.int 2), (.ref o1), (.int 2), (.ref o0)])) rfl (by rw [hml]; rfl) rfl (hb hby e13_14.2.2.2.1) (by decide) (by show 2 * 0 + _ + _ + _ ≤ _; exact Nat.le_of_ble_eq_true rfl) (by decide) (by decide)
 refine own_go st13 ?_
 show own_End p e below s (T13.setTop (mkF m 22 _ [(.int 2), (.int 2), (.ref o0)])) _ _ _
 obtain ⟨cl14, Ar14, qa14, Sq14, Mq14, Hh14, Gq14⟩ := id V_o0_10
 have hin14 : ¬ ((2 : Int32) < 0 ∨ cl14.slots.size ≤ ((2 : Int32)).toNatClampNeg) := inb_of Sq14 ⟨by decide, by decide⟩
 obtain ⟨T15, h15, X15, e15, W15, st15⟩ := stI X13 hx hZ e13 Ar14 (j := 2) hin14 (g := (mkF m 22 #[wR o0, wR o1, wI 2] [(.int 2), (.int 2), (.ref o0)])) rfl rfl (hb hby e13_14.2.2.2.2)
 have V_o0_15 : Arv Z h15 o0 k .int (3 : Int32) [(.int 0), (.int 1), (.int 2)] (.int 0) := Arv.set Ar14 qa14 Sq14 Mq14 Hh14 Gq14 rfl W15 2 rfl (Nat.le_of_ble_eq_true rfl)
 have N15 := Fr.snoc X15 Nl10 g_o0
 obtain ⟨ls15, Xl15, Nl15⟩ := own_abs X15 N15
 have Z15 := Nat.le_trans Z10 (Keep.of_wr W15).1
 have KP15 := KP10.wr W15 (Or.inl (List.mem_of_getElem? (i := 0) rfl))
 refine own_go st15 ?_
 show own_End p e below s (T15.setTop (mkF m 23 _ [])) _ _ _
 refine o_iinc Xl15 hx hby e13_23.1 rfl (l' := #[wR o0, wR o1, wI 3]) rfl ?_
 refine o_goto Xl15 hx (pc0 := 26) (pc' := 7) rfl hby e13_23.2.1 (by decide) (by decide) ?_
 refine o_iloadN Xl15 hx hby e13_7.1 rfl ?_
 refine o_aloadN Xl15 hx hby e13_7.2.1 rfl ?_
 obtain ⟨cl16, Ar16, qa16, Sq16, Mq16, Hh16, Gq16⟩ := id V_o0_15
 refine own_go (fun τ κ => Xl15.arraylength hx (by rw [e15]; exact Ar16.1) (State.isArrayOf_alike hZ.alike Ar16.2.1) (g := (mkF m 9 #[wR o0, wR o1, wI 3] [(.ref o0), (.int 3)])) rfl rfl (hb hby e13_7.2.2.1) _ (by rw [len_of Sq16 Mq16]; exact κ)) ?_
 show own_End p e below s (T15.setTop (mkF m 10 _ [(.int 3), (.int 3)])) _ _ _
 refine o_icmpYes Xl15 hx (pc0 := 10) (pc' := 29) rfl hby e13_7.2.2.2.1 (own_flt (x := 3) (y := 3) (i := 3) (j := 3) rfl rfl (by decide)).2.1 (by decide) (by decide) ?_
 refine own_ret Xl15 (v := none) (fun _ => rfl) Bd.notSynchronized (fun fs hr => Xl15.returnOut hx Bd.returns (hb hby e13_23.2.2) hr) ?_ (by decide) (by decide)
 ·rw [e15]; exact ⟨⟨rfl, V_o0_15⟩, Nl15, KP15⟩
theorem own_ef11_rmSeg (m : MethodId) (o0 : Addr) (o1 : Addr) (o2 : Addr) (o3 : Addr) (o5 : Addr) : entryFrame m #[(.ref o0), (.ref o1), (.ref o2), (.ref o3), (.int 3), (.ref o5)] 20 = mkF m 0 #[.val (.ref o0), .val (.ref o1), .val (.ref o2), .val (.ref o3), .val (.int 3), .val (.ref o5), .unset, .unset, .unset, .unset, .unset, .unset, .unset, .unset, .unset, .unset, .unset, .unset, .unset, .unset] [] := by first | (simp [entryFrame, mkF, argsToLocals, Value.category]; done) | rfl
def Q_rmSeg (Z : State) (o0 : Addr) (o1 : Addr) (o2 : Addr) (o3 : Addr) (o5 : Addr) (sh : Int32) (nk : Int32) (ms : Int32) (ka : Addr) (kk : ClassId) (K : List Int64) (ta : Addr) (kt : ClassId) (T : List Int32) (fa : Addr) (kf : ClassId) (Fa : List Int32) (su : Addr) (ks : ClassId) (Su : List Int32) (wo : Addr) (kw : ClassId) (Wo : List Int32) (kws : ClassId) (Ws : List Int32) (kst : ClassId) (St : List Int32) (ken : ClassId) (En : List Int32) (b : Addr) (kb : ClassId) (nb : Int32) (B : List (Option Int32)) (sv : Value) (out : Int32 × List Int64 × List Int32 × List Int32 × List Int32 × List Int32 × List Int32) (cz : Int32) (h0 : Heap) (n0 : Nat) (v : Option Value) (h : Heap) (L : List Loc) : Prop := (v = some (.int out.1) ∧ own_AJ Z h ka kk nk (out.2.1) ∧ own_AI Z h ta kt nk (out.2.2.1) ∧ own_AI Z h fa kf ms (out.2.2.2.1) ∧ own_AI Z h su ks ms (out.2.2.2.2.1) ∧ own_AI Z h wo kw (3 : Int32) (out.2.2.2.2.2.1) ∧ own_AI Z h o5 kws (3 : Int32) (out.2.2.2.2.2.2)) ∧ Fr n0 L ∧ Keep h0 h [ka, ta, fa, su, wo, o5]
abbrev wc11 : ByteArray := prog_23_method_8_code
theorem e11_0 : decode wc11 0 = .ok (.aload_n 2, 1) ∧ decode wc11 1 = .ok (.iload 4, 2) ∧ decode wc11 3 = .ok (.invokestatic 92, 3) ∧ decode wc11 6 = .ok (.astore 6, 2) ∧ decode wc11 8 = .ok (.iload 4, 2) := by decide +kernel
theorem own_pd12 : parseMethodDescriptor "([II)[I" = some ⟨[(.array .int), .int], some (.array .int)⟩ := by decide +kernel
abbrev wy12 : MethodName := (⟨"java/util/Arrays", "copyOf", "([II)[I"⟩ : MethodName)
theorem e11_10 : decode wc11 10 = .ok (.newarray .int, 2) ∧ decode wc11 12 = .ok (.astore 7, 2) ∧ decode wc11 14 = .ok (.iload 4, 2) ∧ decode wc11 16 = .ok (.newarray .int, 2) ∧ decode wc11 18 = .ok (.astore 8, 2) := by decide +kernel
theorem e11_20 : decode wc11 20 = .ok (.iload 4, 2) ∧ decode wc11 22 = .ok (.newarray .int, 2) ∧ decode wc11 24 = .ok (.astore 9, 2) ∧ decode wc11 26 = .ok (.iload 4, 2) ∧ decode wc11 28 = .ok (.newarray .int, 2) := by decide +kernel
theorem e11_30 : decode wc11 30 = .ok (.astore 10, 2) ∧ decode wc11 32 = .ok (.aload 8, 2) ∧ decode wc11 34 = .ok (.invokedynamic 96, 5) ∧ decode wc11 39 = .ok (.invokestatic 100, 3) ∧ decode wc11 42 = .ok (.aload_n 0, 1) := by decide +kernel
theorem own_pd13 : parseMethodDescriptor "([ILjava/util/function/IntUnaryOperator;)V" = some ⟨[(.array .int), (.object "java/util/function/IntUnaryOperator")], none⟩ := by decide +kernel
abbrev wy13 : MethodName := (⟨"java/util/Arrays", "setAll", "([ILjava/util/function/IntUnaryOperator;)V"⟩ : MethodName)
theorem e11_43 : decode wc11 43 = .ok (.getfield 42, 3) ∧ decode wc11 46 = .ok (.iconst 0, 1) ∧ decode wc11 47 = .ok (.iconst (-1), 1) ∧ decode wc11 48 = .ok (.iastore, 1) ∧ decode wc11 49 = .ok (.iconst 1, 1) := by decide +kernel
theorem e11_50 : decode wc11 50 = .ok (.istore 11, 2) ∧ decode wc11 52 = .ok (.iconst 0, 1) ∧ decode wc11 53 = .ok (.istore 12, 2) ∧ decode wc11 55 = .ok (.iload 4, 2) ∧ decode wc11 57 = .ok (.istore 13, 2) := by decide +kernel
theorem e11_59 : decode wc11 59 = .ok (.iload 13, 2) ∧ decode wc11 61 = .ok (.ifCond .le 303, 3) ∧ decode wc11 64 = .ok (.iload 11, 2) ∧ decode wc11 66 = .ok (.istore 14, 2) ∧ decode wc11 68 = .ok (.iconst 0, 1) := by decide +kernel
theorem e11_69 : decode wc11 69 = .ok (.istore 15, 2) ∧ decode wc11 71 = .ok (.iconst 0, 1) ∧ decode wc11 72 = .ok (.istore 16, 2) ∧ decode wc11 74 = .ok (.iload 16, 2) ∧ decode wc11 76 = .ok (.iload 13, 2) := by decide +kernel
theorem e11_355 : decode wc11 355 = .ok (.iinc 16 1, 3) ∧ decode wc11 358 = .ok (.goto (-85), 3) ∧ decode wc11 361 = .ok (.goto (-302), 3) ∧ decode wc11 364 = .ok (.iload 12, 2) ∧ decode wc11 366 = .ok (.ireturn, 1) := by decide +kernel
theorem e11_78 : decode wc11 78 = .ok (.if_icmp .ge 187, 3) ∧ decode wc11 81 = .ok (.aload 8, 2) ∧ decode wc11 83 = .ok (.iload 16, 2) ∧ decode wc11 85 = .ok (.iaload, 1) ∧ decode wc11 86 = .ok (.istore 17, 2) := by decide +kernel
theorem e11_88 : decode wc11 88 = .ok (.aload_n 1, 1) ∧ decode wc11 89 = .ok (.aload 6, 2) ∧ decode wc11 91 = .ok (.iload 17, 2) ∧ decode wc11 93 = .ok (.iaload, 1) ∧ decode wc11 94 = .ok (.invokestatic 82, 3) := by decide +kernel
theorem e11_97 : decode wc11 97 = .ok (.istore 18, 2) ∧ decode wc11 99 = .ok (.aload_n 0, 1) ∧ decode wc11 100 = .ok (.aload 7, 2) ∧ decode wc11 102 = .ok (.iload 17, 2) ∧ decode wc11 104 = .ok (.iaload, 1) := by decide +kernel
theorem e11_105 : decode wc11 105 = .ok (.iload 18, 2) ∧ decode wc11 107 = .ok (.invokevirtual 104, 3) ∧ decode wc11 110 = .ok (.istore 19, 2) ∧ decode wc11 112 = .ok (.iload 19, 2) ∧ decode wc11 114 = .ok (.iconst (-1), 1) := by decide +kernel
theorem e11_115 : decode wc11 115 = .ok (.if_icmp .ne 54, 3) ∧ decode wc11 118 = .ok (.iload 11, 2) ∧ decode wc11 120 = .ok (.iinc 11 1, 3) ∧ decode wc11 123 = .ok (.istore 19, 2) ∧ decode wc11 125 = .ok (.aload_n 0, 1) := by decide +kernel
theorem e11_126 : decode wc11 126 = .ok (.aload 7, 2) ∧ decode wc11 128 = .ok (.iload 17, 2) ∧ decode wc11 130 = .ok (.iaload, 1) ∧ decode wc11 131 = .ok (.iload 18, 2) ∧ decode wc11 133 = .ok (.iload 19, 2) := by decide +kernel
theorem e11_135 : decode wc11 135 = .ok (.invokevirtual 107, 3) ∧ decode wc11 138 = .ok (.aload 9, 2) ∧ decode wc11 140 = .ok (.iload 19, 2) ∧ decode wc11 142 = .ok (.iload 14, 2) ∧ decode wc11 144 = .ok (.isub, 1) := by decide +kernel
theorem own_pd14 : parseMethodDescriptor "(III)V" = some ⟨[.int, .int, .int], none⟩ := by decide +kernel
abbrev wy25 : MethodName := (⟨"com/example/portero/portero/matching/SegmentAutomaton", "addEdge", "(III)V"⟩ : MethodName)
theorem e11_145 : decode wc11 145 = .ok (.aload 7, 2) ∧ decode wc11 147 = .ok (.iload 17, 2) ∧ decode wc11 149 = .ok (.iaload, 1) ∧ decode wc11 150 = .ok (.iastore, 1) ∧ decode wc11 151 = .ok (.aload 10, 2) := by decide +kernel
theorem e11_153 : decode wc11 153 = .ok (.iload 19, 2) ∧ decode wc11 155 = .ok (.iload 14, 2) ∧ decode wc11 157 = .ok (.isub, 1) ∧ decode wc11 158 = .ok (.iload 18, 2) ∧ decode wc11 160 = .ok (.iastore, 1) := by decide +kernel
theorem e11_161 : decode wc11 161 = .ok (.aload_n 0, 1) ∧ decode wc11 162 = .ok (.getfield 42, 3) ∧ decode wc11 165 = .ok (.iload 19, 2) ∧ decode wc11 167 = .ok (.iconst (-1), 1) ∧ decode wc11 168 = .ok (.iastore, 1) := by decide +kernel
theorem e11_169 : decode wc11 169 = .ok (.aload 7, 2) ∧ decode wc11 171 = .ok (.iload 17, 2) ∧ decode wc11 173 = .ok (.iload 19, 2) ∧ decode wc11 175 = .ok (.iastore, 1) ∧ decode wc11 176 = .ok (.aload 6, 2) := by decide +kernel
theorem e11_178 : decode wc11 178 = .ok (.iload 17, 2) ∧ decode wc11 180 = .ok (.aload_n 1, 1) ∧ decode wc11 181 = .ok (.aload 6, 2) ∧ decode wc11 183 = .ok (.iload 17, 2) ∧ decode wc11 185 = .ok (.iaload, 1) := by decide +kernel
theorem e11_186 : decode wc11 186 = .ok (.invokestatic 111, 3) ∧ decode wc11 189 = .ok (.iastore, 1) ∧ decode wc11 190 = .ok (.aload 6, 2) ∧ decode wc11 192 = .ok (.iload 17, 2) ∧ decode wc11 194 = .ok (.iaload, 1) := by decide +kernel
theorem e11_195 : decode wc11 195 = .ok (.aload_n 3, 1) ∧ decode wc11 196 = .ok (.iload 17, 2) ∧ decode wc11 198 = .ok (.iaload, 1) ∧ decode wc11 199 = .ok (.if_icmp .ge 16, 3) ∧ decode wc11 202 = .ok (.aload 8, 2) := by decide +kernel
theorem e11_204 : decode wc11 204 = .ok (.iload 15, 2) ∧ decode wc11 206 = .ok (.iinc 15 1, 3) ∧ decode wc11 209 = .ok (.iload 17, 2) ∧ decode wc11 211 = .ok (.iastore, 1) ∧ decode wc11 212 = .ok (.goto 47, 3) := by decide +kernel
theorem e11_252 : decode wc11 252 = .ok (.getfield 42, 3) ∧ decode wc11 255 = .ok (.iload 19, 2) ∧ decode wc11 257 = .ok (.iaload, 1) ∧ decode wc11 258 = .ok (.iastore, 1) ∧ decode wc11 259 = .ok (.iinc 16 1, 3) := by decide +kernel
theorem e11_262 : decode wc11 262 = .ok (.goto (-188), 3) ∧ decode wc11 265 = .ok (.iload 15, 2) ∧ decode wc11 267 = .ok (.istore 13, 2) ∧ decode wc11 269 = .ok (.iload 14, 2) ∧ decode wc11 271 = .ok (.istore 16, 2) := by decide +kernel
theorem e11_215 : decode wc11 215 = .ok (.aload_n 0, 1) ∧ decode wc11 216 = .ok (.getfield 42, 3) ∧ decode wc11 219 = .ok (.iload 19, 2) ∧ decode wc11 221 = .ok (.iaload, 1) ∧ decode wc11 222 = .ok (.iconst (-1), 1) := by decide +kernel
theorem e11_223 : decode wc11 223 = .ok (.if_icmp .ne 22, 3) ∧ decode wc11 226 = .ok (.aload 5, 2) ∧ decode wc11 228 = .ok (.iload 12, 2) ∧ decode wc11 230 = .ok (.iload 19, 2) ∧ decode wc11 232 = .ok (.iastore, 1) := by decide +kernel
theorem e11_233 : decode wc11 233 = .ok (.aload_n 0, 1) ∧ decode wc11 234 = .ok (.getfield 42, 3) ∧ decode wc11 237 = .ok (.iload 19, 2) ∧ decode wc11 239 = .ok (.iload 12, 2) ∧ decode wc11 241 = .ok (.iinc 12 1, 3) := by decide +kernel
theorem e11_244 : decode wc11 244 = .ok (.iastore, 1) ∧ decode wc11 245 = .ok (.aload_n 0, 1) ∧ decode wc11 246 = .ok (.getfield 45, 3) ∧ decode wc11 249 = .ok (.iload 17, 2) ∧ decode wc11 251 = .ok (.aload_n 0, 1) := by decide +kernel
theorem e11_273 : decode wc11 273 = .ok (.iload 16, 2) ∧ decode wc11 275 = .ok (.iload 11, 2) ∧ decode wc11 277 = .ok (.if_icmp .ge 84, 3) ∧ decode wc11 280 = .ok (.aload 9, 2) ∧ decode wc11 282 = .ok (.iload 16, 2) := by decide +kernel
theorem e11_284 : decode wc11 284 = .ok (.iload 14, 2) ∧ decode wc11 286 = .ok (.isub, 1) ∧ decode wc11 287 = .ok (.iaload, 1) ∧ decode wc11 288 = .ok (.istore 17, 2) ∧ decode wc11 290 = .ok (.aload_n 0, 1) := by decide +kernel
theorem e11_291 : decode wc11 291 = .ok (.getfield 39, 3) ∧ decode wc11 294 = .ok (.iload 16, 2) ∧ decode wc11 296 = .ok (.iload 17, 2) ∧ decode wc11 298 = .ok (.ifCond .ne 7, 3) ∧ decode wc11 301 = .ok (.iconst 0, 1) := by decide +kernel
theorem e11_302 : decode wc11 302 = .ok (.goto 22, 3) ∧ decode wc11 305 = .ok (.aload_n 0, 1) ∧ decode wc11 306 = .ok (.aload_n 0, 1) ∧ decode wc11 307 = .ok (.getfield 39, 3) ∧ decode wc11 310 = .ok (.iload 17, 2) := by decide +kernel
theorem e11_320 : decode wc11 320 = .ok (.iaload, 1) ∧ decode wc11 321 = .ok (.invokevirtual 86, 3) ∧ decode wc11 324 = .ok (.iastore, 1) ∧ decode wc11 325 = .ok (.aload_n 0, 1) ∧ decode wc11 326 = .ok (.getfield 42, 3) := by decide +kernel
theorem e11_329 : decode wc11 329 = .ok (.iload 16, 2) ∧ decode wc11 331 = .ok (.iaload, 1) ∧ decode wc11 332 = .ok (.iconst (-1), 1) ∧ decode wc11 333 = .ok (.if_icmp .ne 22, 3) ∧ decode wc11 336 = .ok (.aload_n 0, 1) := by decide +kernel
theorem e11_337 : decode wc11 337 = .ok (.getfield 42, 3) ∧ decode wc11 340 = .ok (.iload 16, 2) ∧ decode wc11 342 = .ok (.aload_n 0, 1) ∧ decode wc11 343 = .ok (.getfield 42, 3) ∧ decode wc11 346 = .ok (.aload_n 0, 1) := by decide +kernel
theorem e11_347 : decode wc11 347 = .ok (.getfield 39, 3) ∧ decode wc11 350 = .ok (.iload 16, 2) ∧ decode wc11 352 = .ok (.iaload, 1) ∧ decode wc11 353 = .ok (.iaload, 1) ∧ decode wc11 354 = .ok (.iastore, 1) := by decide +kernel
theorem e11_312 : decode wc11 312 = .ok (.iaload, 1) ∧ decode wc11 313 = .ok (.aload 10, 2) ∧ decode wc11 315 = .ok (.iload 16, 2) ∧ decode wc11 317 = .ok (.iload 14, 2) ∧ decode wc11 319 = .ok (.isub, 1) := by decide +kernel
def S_rmSeg_0 (sh : Int32) (nk : Int32) (St : List Int32) (En : List Int32) (B : List (Option Int32)) : Nat → Nat → Int32 → Int32 → Int32 → Int32 → Int32 → Int32 → List Int64 → List Int32 → List Int32 → List Int32 → List Int32 → List Int32 → List Int32 → List Int32 → List Int32 → List Int32 → List Int32 → Option (Int32 × List Int64 × List Int32 × List Int32 × List Int32 × List Int32 × List Int32)
 | 0, _, _, _, _, _, _, _, _, _, _, _, _, _, _, _, _, _, _ => none
 | f0 + 1, 0, sc, wn, lf, fi, kp, i, K, T, Fa, Su, Wo, Ws, Rd, Re, Un, Pa, Sy => (if 0 < lf.toInt then S_rmSeg_0 sh nk St En B f0 1 sc wn lf sc (0 : Int32) (0 : Int32) K T Fa Su Wo Ws Rd Re Un Pa Sy else some (wn, K, T, Fa, Su, Wo, Ws))
 | f0 + 1, 1, sc, wn, lf, fi, kp, i, K, T, Fa, Su, Wo, Ws, Rd, Re, Un, Pa, Sy => (if i.toInt < lf.toInt then (own_get Un i).bind fun v76 => ((own_get Rd v76).bind fun v77 => ((F_rmSym v77 B).bind fun o78 => ((own_get Re v76).bind fun v80 => ((F_rmTgt v80 o78 sh nk K T).bind fun o81 => ((if o81.toInt = -1 then (own_get Re v76).bind fun v84 => ((F_rmAdd v84 o78 sc sh nk K T).bind fun o85 => ((own_get Re v76).bind fun v88 => ((own_set Pa (sc - fi) v88).bind fun L90' => ((own_set Sy (sc - fi) o78).bind fun L93' => ((own_set Su sc (-1 : Int32)).bind fun L98' => ((own_set Re v76 sc).bind fun L101' => ((own_get Rd v76).bind fun v104 => ((F_rmOct v104 B).bind fun o105 => ((own_set Rd v76 o105).bind fun L112' => ((own_get L112' v76).bind fun v114 => ((own_get En v76).bind fun v116 => ((if v114.toInt < v116.toInt then (own_set Un kp v76).bind fun L119' => (S_rmSeg_0 sh nk St En B f0 1 (sc + (1 : Int32)) wn lf fi (kp + (1 : Int32)) (i + (1 : Int32)) o85.1 o85.2 Fa L98' Wo Ws L112' L101' L119' L90' L93') else (own_get L98' sc).bind fun v147 => ((if v147.toInt = -1 then (own_set Ws wn sc).bind fun L150' => ((own_set L98' sc wn).bind fun L155' => ((own_get L155' sc).bind fun v161 => ((own_set Wo v76 v161).bind fun L163' => (S_rmSeg_0 sh nk St En B f0 1 (sc + (1 : Int32)) (wn + (1 : Int32)) lf fi kp (i + (1 : Int32)) o85.1 o85.2 Fa L155' L163' L150' L112' L101' Un L90' L93')))) else (own_get L98' sc).bind fun v191 => ((own_set Wo v76 v191).bind fun L193' => (S_rmSeg_0 sh nk St En B f0 1 (sc + (1 : Int32)) wn lf fi kp (i + (1 : Int32)) o85.1 o85.2 Fa L98' L193' Ws L112' L101' Un L90' L93'))))))))))))))))) else (own_set Re v76 o81).bind fun L218' => ((own_get Rd v76).bind fun v221 => ((F_rmOct v221 B).bind fun o222 => ((own_set Rd v76 o222).bind fun L229' => ((own_get L229' v76).bind fun v231 => ((own_get En v76).bind fun v233 => ((if v231.toInt < v233.toInt then (own_set Un kp v76).bind fun L236' => (S_rmSeg_0 sh nk St En B f0 1 sc wn lf fi (kp + (1 : Int32)) (i + (1 : Int32)) K T Fa Su Wo Ws L229' L218' L236' Pa Sy) else (own_get Su o81).bind fun v264 => ((if v264.toInt = -1 then (own_set Ws wn o81).bind fun L267' => ((own_set Su o81 wn).bind fun L272' => ((own_get L272' o81).bind fun v278 => ((own_set Wo v76 v278).bind fun L280' => (S_rmSeg_0 sh nk St En B f0 1 sc (wn + (1 : Int32)) lf fi kp (i + (1 : Int32)) K T Fa L272' L280' L267' L229' L218' Un Pa Sy)))) else (own_get Su o81).bind fun v308 => ((own_set Wo v76 v308).bind fun L310' => (S_rmSeg_0 sh nk St En B f0 1 sc wn lf fi kp (i + (1 : Int32)) K T Fa Su L310' Ws L229' L218' Un Pa Sy))))))))))))))))) else S_rmSeg_0 sh nk St En B f0 2 sc wn kp fi 0 fi K T Fa Su Wo Ws Rd Re Un Pa Sy)
 | f0 + 1, _, sc, wn, lf, fi, kp, i, K, T, Fa, Su, Wo, Ws, Rd, Re, Un, Pa, Sy => (if i.toInt < sc.toInt then (own_get Pa (i - fi)).bind fun v337 => ((if v337.toInt = 0 then (own_set Fa i (0 : Int32)).bind fun L340' => ((own_get Su i).bind fun v345 => ((if v345.toInt = -1 then (own_get L340' i).bind fun v351 => ((own_get Su v351).bind fun v352 => ((own_set Su i v352).bind fun L353' => (S_rmSeg_0 sh nk St En B f0 2 sc wn lf fi 0 (i + (1 : Int32)) K T L340' L353' Wo Ws Rd Re Un Pa Sy))) else S_rmSeg_0 sh nk St En B f0 2 sc wn lf fi 0 (i + (1 : Int32)) K T L340' Su Wo Ws Rd Re Un Pa Sy))) else (own_get Fa v337).bind fun v400 => ((own_get Sy (i - fi)).bind fun v401 => ((F_rmNxt v400 v401 sh nk K T Fa).bind fun o402 => ((own_set Fa i o402).bind fun L404' => ((own_get Su i).bind fun v409 => ((if v409.toInt = -1 then (own_get L404' i).bind fun v415 => ((own_get Su v415).bind fun v416 => ((own_set Su i v416).bind fun L417' => (S_rmSeg_0 sh nk St En B f0 2 sc wn lf fi 0 (i + (1 : Int32)) K T L404' L417' Wo Ws Rd Re Un Pa Sy))) else S_rmSeg_0 sh nk St En B f0 2 sc wn lf fi 0 (i + (1 : Int32)) K T L404' Su Wo Ws Rd Re Un Pa Sy)))))))) else S_rmSeg_0 sh nk St En B f0 0 sc wn lf 0 0 0 K T Fa Su Wo Ws Rd Re Un Pa Sy)
theorem S_rmSeg_0_0 (sh : Int32) (nk : Int32) (St : List Int32) (En : List Int32) (B : List (Option Int32)) (f0 : Nat) (sc : Int32) (wn : Int32) (lf : Int32) (fi : Int32) (kp : Int32) (i : Int32) (K : List Int64) (T : List Int32) (Fa : List Int32) (Su : List Int32) (Wo : List Int32) (Ws : List Int32) (Rd : List Int32) (Re : List Int32) (Un : List Int32) (Pa : List Int32) (Sy : List Int32) : S_rmSeg_0 sh nk St En B (f0 + 1) 0 sc wn lf fi kp i K T Fa Su Wo Ws Rd Re Un Pa Sy = (if 0 < lf.toInt then S_rmSeg_0 sh nk St En B f0 1 sc wn lf sc (0 : Int32) (0 : Int32) K T Fa Su Wo Ws Rd Re Un Pa Sy else some (wn, K, T, Fa, Su, Wo, Ws)) := rfl
theorem S_rmSeg_0_1 (sh : Int32) (nk : Int32) (St : List Int32) (En : List Int32) (B : List (Option Int32)) (f0 : Nat) (sc : Int32) (wn : Int32) (lf : Int32) (fi : Int32) (kp : Int32) (i : Int32) (K : List Int64) (T : List Int32) (Fa : List Int32) (Su : List Int32) (Wo : List Int32) (Ws : List Int32) (Rd : List Int32) (Re : List Int32) (Un : List Int32) (Pa : List Int32) (Sy : List Int32) : S_rmSeg_0 sh nk St En B (f0 + 1) 1 sc wn lf fi kp i K T Fa Su Wo Ws Rd Re Un Pa Sy = (if i.toInt < lf.toInt then (own_get Un i).bind fun v76 => ((own_get Rd v76).bind fun v77 => ((F_rmSym v77 B).bind fun o78 => ((own_get Re v76).bind fun v80 => ((F_rmTgt v80 o78 sh nk K T).bind fun o81 => ((if o81.toInt = -1 then (own_get Re v76).bind fun v84 => ((F_rmAdd v84 o78 sc sh nk K T).bind fun o85 => ((own_get Re v76).bind fun v88 => ((own_set Pa (sc - fi) v88).bind fun L90' => ((own_set Sy (sc - fi) o78).bind fun L93' => ((own_set Su sc (-1 : Int32)).bind fun L98' => ((own_set Re v76 sc).bind fun L101' => ((own_get Rd v76).bind fun v104 => ((F_rmOct v104 B).bind fun o105 => ((own_set Rd v76 o105).bind fun L112' => ((own_get L112' v76).bind fun v114 => ((own_get En v76).bind fun v116 => ((if v114.toInt < v116.toInt then (own_set Un kp v76).bind fun L119' => (S_rmSeg_0 sh nk St En B f0 1 (sc + (1 : Int32)) wn lf fi (kp + (1 : Int32)) (i + (1 : Int32)) o85.1 o85.2 Fa L98' Wo Ws L112' L101' L119' L90' L93') else (own_get L98' sc).bind fun v147 => ((if v147.toInt = -1 then (own_set Ws wn sc).bind fun L150' => ((own_set L98' sc wn).bind fun L155' => ((own_get L155' sc).bind fun v161 => ((own_set Wo v76 v161).bind fun L163' => (S_rmSeg_0 sh nk St En B f0 1 (sc + (1 : Int32)) (wn + (1 : Int32)) lf fi kp (i + (1 : Int32)) o85.1 o85.2 Fa L155' L163' L150' L112' L101' Un L90' L93')))) else (own_get L98' sc).bind fun v191 => ((own_set Wo v76 v191).bind fun L193' => (S_rmSeg_0 sh nk St En B f0 1 (sc + (1 : Int32)) wn lf fi kp (i + (1 : Int32)) o85.1 o85.2 Fa L98' L193' Ws L112' L101' Un L90' L93'))))))))))))))))) else (own_set Re v76 o81).bind fun L218' => ((own_get Rd v76).bind fun v221 => ((F_rmOct v221 B).bind fun o222 => ((own_set Rd v76 o222).bind fun L229' => ((own_get L229' v76).bind fun v231 => ((own_get En v76).bind fun v233 => ((if v231.toInt < v233.toInt then (own_set Un kp v76).bind fun L236' => (S_rmSeg_0 sh nk St En B f0 1 sc wn lf fi (kp + (1 : Int32)) (i + (1 : Int32)) K T Fa Su Wo Ws L229' L218' L236' Pa Sy) else (own_get Su o81).bind fun v264 => ((if v264.toInt = -1 then (own_set Ws wn o81).bind fun L267' => ((own_set Su o81 wn).bind fun L272' => ((own_get L272' o81).bind fun v278 => ((own_set Wo v76 v278).bind fun L280' => (S_rmSeg_0 sh nk St En B f0 1 sc (wn + (1 : Int32)) lf fi kp (i + (1 : Int32)) K T Fa L272' L280' L267' L229' L218' Un Pa Sy)))) else (own_get Su o81).bind fun v308 => ((own_set Wo v76 v308).bind fun L310' => (S_rmSeg_0 sh nk St En B f0 1 sc wn lf fi kp (i + (1 : Int32)) K T Fa Su L310' Ws L229' L218' Un Pa Sy))))))))))))))))) else S_rmSeg_0 sh nk St En B f0 2 sc wn kp fi 0 fi K T Fa Su Wo Ws Rd Re Un Pa Sy) := rfl
theorem S_rmSeg_0_2 (sh : Int32) (nk : Int32) (St : List Int32) (En : List Int32) (B : List (Option Int32)) (f0 : Nat) (sc : Int32) (wn : Int32) (lf : Int32) (fi : Int32) (kp : Int32) (i : Int32) (K : List Int64) (T : List Int32) (Fa : List Int32) (Su : List Int32) (Wo : List Int32) (Ws : List Int32) (Rd : List Int32) (Re : List Int32) (Un : List Int32) (Pa : List Int32) (Sy : List Int32) : S_rmSeg_0 sh nk St En B (f0 + 1) 2 sc wn lf fi kp i K T Fa Su Wo Ws Rd Re Un Pa Sy = (if i.toInt < sc.toInt then (own_get Pa (i - fi)).bind fun v337 => ((if v337.toInt = 0 then (own_set Fa i (0 : Int32)).bind fun L340' => ((own_get Su i).bind fun v345 => ((if v345.toInt = -1 then (own_get L340' i).bind fun v351 => ((own_get Su v351).bind fun v352 => ((own_set Su i v352).bind fun L353' => (S_rmSeg_0 sh nk St En B f0 2 sc wn lf fi 0 (i + (1 : Int32)) K T L340' L353' Wo Ws Rd Re Un Pa Sy))) else S_rmSeg_0 sh nk St En B f0 2 sc wn lf fi 0 (i + (1 : Int32)) K T L340' Su Wo Ws Rd Re Un Pa Sy))) else (own_get Fa v337).bind fun v400 => ((own_get Sy (i - fi)).bind fun v401 => ((F_rmNxt v400 v401 sh nk K T Fa).bind fun o402 => ((own_set Fa i o402).bind fun L404' => ((own_get Su i).bind fun v409 => ((if v409.toInt = -1 then (own_get L404' i).bind fun v415 => ((own_get Su v415).bind fun v416 => ((own_set Su i v416).bind fun L417' => (S_rmSeg_0 sh nk St En B f0 2 sc wn lf fi 0 (i + (1 : Int32)) K T L404' L417' Wo Ws Rd Re Un Pa Sy))) else S_rmSeg_0 sh nk St En B f0 2 sc wn lf fi 0 (i + (1 : Int32)) K T L404' Su Wo Ws Rd Re Un Pa Sy)))))))) else S_rmSeg_0 sh nk St En B f0 0 sc wn lf 0 0 0 K T Fa Su Wo Ws Rd Re Un Pa Sy) := rfl
def F_rmSeg (sh : Int32) (nk : Int32) (St : List Int32) (En : List Int32) (B : List (Option Int32)) (K : List Int64) (T : List Int32) (Fa : List Int32) (Su : List Int32) (Wo : List Int32) (Ws : List Int32) : Option (Int32 × List Int64 × List Int32 × List Int32 × List Int32 × List Int32 × List Int32) := (own_grd (3 : Int32) 3).bind fun _ => ((own_grd (3 : Int32) 3).bind fun _ => ((own_grd (3 : Int32) 3).bind fun _ => ((own_grd (3 : Int32) 3).bind fun _ => ((own_set Su (0 : Int32) (-1 : Int32)).bind fun L69' => (S_rmSeg_0 sh nk St En B 45 0 (1 : Int32) (0 : Int32) (3 : Int32) 0 0 0 K T Fa L69' Wo Ws St (List.replicate ((3 : Int32)).toNatClampNeg 0) ([0, 1, 2]) (List.replicate ((3 : Int32)).toNatClampNeg 0) (List.replicate ((3 : Int32)).toNatClampNeg 0))))))
set_option maxRecDepth 65536 in
set_option maxHeartbeats 40000000 in
theorem rmSeg (l : Launch) (Z : State) (a0 : Array Value) (hw : ∀ d ∈ tables_1, d.before a0 Z = true) (ws : List Jvm.Cond) (o0 : Addr) (o1 : Addr) (o2 : Addr) (o3 : Addr) (o5 : Addr) (sh : Int32) (nk : Int32) (ms : Int32) (ka : Addr) (kk : ClassId) (K : List Int64) (ta : Addr) (kt : ClassId) (T : List Int32) (fa : Addr) (kf : ClassId) (Fa : List Int32) (su : Addr) (ks : ClassId) (Su : List Int32) (wo : Addr) (kw : ClassId) (Wo : List Int32) (kws : ClassId) (Ws : List Int32) (kst : ClassId) (St : List Int32) (ken : ClassId) (En : List Int32) (b : Addr) (kb : ClassId) (nb : Int32) (B : List (Option Int32)) (sv : Value) (out : Int32 × List Int64 × List Int32 × List Int32 × List Int32 × List Int32 × List Int32) (cz : Int32) (h0 : Heap) (n0 : Nat) (Z0 : n0 ≤ h0.size) (E_o0 : Exa Z h0 o0 "com/example/portero/portero/matching/SegmentAutomaton") (F_o0_slotShift : Fld Z h0 o0 "com/example/portero/portero/matching/SegmentAutomaton" "slotShift" "I" (.int sh)) (F_o0_edgeKeys : Fld Z h0 o0 "com/example/portero/portero/matching/SegmentAutomaton" "edgeKeys" "[J" (.ref ka)) (F_o0_edgeTargets : Fld Z h0 o0 "com/example/portero/portero/matching/SegmentAutomaton" "edgeTargets" "[I" (.ref ta)) (F_o0_failures : Fld Z h0 o0 "com/example/portero/portero/matching/SegmentAutomaton" "failures" "[I" (.ref fa)) (F_o0_suffixes : Fld Z h0 o0 "com/example/portero/portero/matching/SegmentAutomaton" "suffixes" "[I" (.ref su)) (F_o0_words : Fld Z h0 o0 "com/example/portero/portero/matching/SegmentAutomaton" "words" "[I" (.ref wo)) (V_ka : own_AJ Z h0 ka kk nk K) (V_ta : own_AI Z h0 ta kt nk T) (V_fa : own_AI Z h0 fa kf ms Fa) (V_su : own_AI Z h0 su ks ms Su) (V_wo : own_AI Z h0 wo kw (3 : Int32) Wo) (E_o2 : Exa Z h0 o2 "[I") (V_o2 : own_AI Z h0 o2 kst (3 : Int32) St) (V_o3 : own_AI Z h0 o3 ken (3 : Int32) En) (V_o5 : own_AI Z h0 o5 kws (3 : Int32) Ws) (E_o1 : Exa Z h0 o1 "java/lang/String") (F_o1_value : Fld Z h0 o1 "java/lang/String" "value" "[B" (.ref b)) (F_o1_coder : Fld Z h0 o1 "java/lang/String" "coder" "B" (.int 0)) (V_b : own_AB Z h0 b kb nb B) (S_C : Sta Z Z.heap "java/lang/String" "COMPACT_STRINGS" "Z" (.int cz)) (hcz : ¬ cz.toInt = 0) (Ol : Old Z n0 h0) (S_SF : Sta Z Z.heap "jdk/internal/util/Preconditions" "SIOOBE_FORMATTER" "Ljava/util/function/BiFunction;" sv) (hsv : sv = .null ∨ ∃ a : Addr, sv = .ref a) (g_ka : n0 ≤ ka) (g_ta : n0 ≤ ta) (g_fa : n0 ≤ fa) (g_su : n0 ≤ su) (g_wo : n0 ≤ wo) (g_o5 : n0 ≤ o5) (ne_ka_o0 : ka ≠ o0) (ne_ka_o1 : ka ≠ o1) (ne_ka_o2 : ka ≠ o2) (ne_ka_o3 : ka ≠ o3) (ne_ka_b : ka ≠ b) (ne_ta_o0 : ta ≠ o0) (ne_ta_o1 : ta ≠ o1) (ne_ta_o2 : ta ≠ o2) (ne_ta_o3 : ta ≠ o3) (ne_ta_b : ta ≠ b) (ne_fa_o0 : fa ≠ o0) (ne_fa_o1 : fa ≠ o1) (ne_fa_o2 : fa ≠ o2) (ne_fa_o3 : fa ≠ o3) (ne_fa_b : fa ≠ b) (ne_su_o0 : su ≠ o0) (ne_su_o1 : su ≠ o1) (ne_su_o2 : su ≠ o2) (ne_su_o3 : su ≠ o3) (ne_su_b : su ≠ b) (ne_wo_o0 : wo ≠ o0) (ne_wo_o1 : wo ≠ o1) (ne_wo_o2 : wo ≠ o2) (ne_wo_o3 : wo ≠ o3) (ne_wo_b : wo ≠ b) (ne_o5_o0 : o5 ≠ o0) (ne_o5_o1 : o5 ≠ o1) (ne_o5_o2 : o5 ≠ o2) (ne_o5_o3 : o5 ≠ o3) (ne_o5_b : o5 ≠ b) (ne_ka_ta : ka ≠ ta) (ne_ka_fa : ka ≠ fa) (ne_ka_su : ka ≠ su) (ne_ka_wo : ka ≠ wo) (ne_ka_o5 : ka ≠ o5) (ne_ta_fa : ta ≠ fa) (ne_ta_su : ta ≠ su) (ne_ta_wo : ta ≠ wo) (ne_ta_o5 : ta ≠ o5) (ne_fa_su : fa ≠ su) (ne_fa_wo : fa ≠ wo) (ne_fa_o5 : fa ≠ o5) (ne_su_wo : su ≠ wo) (ne_su_o5 : su ≠ o5) (ne_wo_o5 : wo ≠ o5) (hF : F_rmSeg sh nk St En B K T Fa Su Wo Ws = some out) :
  MetFree l (⟨"com/example/portero/portero/matching/SegmentAutomaton", "addSegments", "(Ljava/lang/String;[I[II[I)I"⟩ : MethodName) (head1 (Jvm.Cond.code (⟨"com/example/portero/portero/matching/SegmentAutomaton", "addSegments", "(Ljava/lang/String;[I[II[I)I"⟩ : MethodName) prog_23_method_8_code 20 (some .int) :: ws) ({ frames := 6, cells := 5, slots := 15, locals := 3073 } : Room)) (fun a U => a = #[(.ref o0), (.ref o1), (.ref o2), (.ref o3), (.int 3), (.ref o5)] ∧ Z.WarmedH U.vm ∧ U.heap = h0) (fun _ _ _ _ _ => True) (fun _ U o U' => ∃ v L, o = .returned v ∧ Q_rmSeg Z o0 o1 o2 o3 o5 sh nk ms ka kk K ta kt T fa kf Fa su ks Su wo kw Wo kws Ws kst St ken En b kb nb B sv out cz h0 n0 v U'.heap L ∧ FrameEnd U o U' L ({ frames := 6, cells := 5, slots := 15, locals := 3073 } : Room).cells ({ frames := 6, cells := 5, slots := 15, locals := 3073 } : Room).slots) := by
 refine MetFree.of_bodySF (plainFor_of_name own_pn0) hisR ?_
 intro p e s m args below meth c s₁ Bd hml0 hP hK
 obtain ⟨rfl, hH, hh⟩ := hP
 have hZ : Z.Warmed39 s.vm := hH.wide
 have hW := @own_hW a0 Z hw
 have hx := Bd.exec
 have hby := Bd.bytes
 have hml : c.maxLocals = 20 := hml0
 have hown : s.vm.findClass "com/example/portero/portero/matching/SegmentAutomaton" = some m.cls := findClass_of_methodNamed Bd.named
 have hnm := (name_of_methodNamed Bd.named Bd.method).1
 have X0 : Stand p l e ({ frames := 6, cells := 5, slots := 15, locals := 3073 } : Room) s m #[(.ref o0), (.ref o1), (.ref o2), (.ref o3), (.int 3), (.ref o5)] below meth c s₁ [] 0 0 := Stand.of_body Bd
 have e0 : s₁.heap = h0 := by rw [← hh, Bd.state]; rfl
 have N0 := Fr.nil n0
 refine (show own_End p e below s (s₁.setTop (entryFrame m #[(.ref o0), (.ref o1), (.ref o2), (.ref o3), (.int 3), (.ref o5)] 20)) (Q_rmSeg Z o0 o1 o2 o3 o5 sh nk ms ka kk K ta kt T fa kf Fa su ks Su wo kw Wo kws Ws kst St ken En b kb nb B sv out cz h0 n0) ({ frames := 6, cells := 5, slots := 15, locals := 3073 } : Room).cells ({ frames := 6, cells := 5, slots := 15, locals := 3073 } : Room).slots from ?_)
 refine own_go (fun τ κ => castTop (own_ef11_rmSeg m o0 o1 o2 o3 o5) κ) ?_
 have li0 : (0 : Int32).toInt = 0 := rfl
 have li1 : (1 : Int32).toInt = 1 := rfl
 show own_End p e below s (s₁.setTop (mkF m 0 #[wR o0, wR o1, wR o2, wR o3, wI 3, wR o5, wU, wU, wU, wU, wU, wU, wU, wU, wU, wU, wU, wU, wU, wU] [])) _ _ _
 have H := hF
 refine o_aloadN X0 hx hby e11_0.1 rfl ?_
 refine o_iload X0 hx hby e11_0.2.1 rfl ?_
 refine o_cS X0 hx hZ hown (y := wy12) (hW 69 rfl) (hW 70 rfl) (hW 53 rfl) (hW 71 rfl) (by decide) (backOf (W := 0) (rmCopy l Z a0 hw [] o2 kst St h0 n0 Z0 V_o2 E_o2) hZ (hW 71 rfl) (hW 53 rfl) (by decide) (by decide)) (by rw [hml]; rfl) (argsL := [(.ref o2), (.int 3)]) (rest := []) (lenOf own_pd12 rfl) rfl rfl (Nat.le_of_eq rfl) e0 (by decide) (by decide) hby e11_0.2.2.1 N0 fun T1 v1 Lc1 ls1 X1 hQ1 nq1 => ?_
 obtain ⟨⟨c11, rfl, z_c11, P0_1⟩, N1q, K1⟩ := hQ1
 have N1 := nq1 N1q
 have Z1 := Nat.le_trans Z0 K1.1
 show own_End p e below s (T1.setTop (mkF m 6 _ [(.ref c11)])) _ _ _
 have g_c11 : n0 ≤ c11 := Nat.le_trans Z0 z_c11
 have sz_c11 : h0.size ≤ c11 := Nat.le_trans (Keep.refl h0 [ka, ta, fa, su, wo, o5]).1 z_c11
 have ne_o0_c11 := own_nb E_o0.lt z_c11
 have ne_ka_c11 := own_nb V_ka.lt z_c11
 have ne_ta_c11 := own_nb V_ta.lt z_c11
 have ne_fa_c11 := own_nb V_fa.lt z_c11
 have ne_su_c11 := own_nb V_su.lt z_c11
 have ne_wo_c11 := own_nb V_wo.lt z_c11
 have ne_o2_c11 := own_nb E_o2.lt z_c11
 have ne_o3_c11 := own_nb V_o3.lt z_c11
 have ne_o5_c11 := own_nb V_o5.lt z_c11
 have ne_o1_c11 := own_nb E_o1.lt z_c11
 have ne_b_c11 := own_nb V_b.lt z_c11
 have KP1 := (Keep.refl h0 [ka, ta, fa, su, wo, o5]).trans K1 all0
 refine o_astore X1 hx hby e11_0.2.2.2.1 (l' := #[wR o0, wR o1, wR o2, wR o3, wI 3, wR o5, wR c11, wU, wU, wU, wU, wU, wU, wU, wU, wU, wU, wU, wU, wU]) rfl ?_
 refine o_iload X1 hx hby e11_0.2.2.2.2 rfl ?_
 obtain ⟨_, hg2, H⟩ := own_bnd H
 obtain ⟨T3, h3, k3, X3, e3, E3, A3, st3⟩ := newP X1 hx hZ (hW 34 rfl) rfl (g := (mkF m 10 #[wR o0, wR o1, wR o2, wR o3, wI 3, wR o5, wR c11, wU, wU, wU, wU, wU, wU, wU, wU, wU, wU, wU, wU, wU] [(.int 3)])) rfl (hb hby e11_10.1) rfl (own_grdn hg2) (cap := 3) (own_grdc hg2) (by decide) (by decide) (by decide)
 obtain ⟨b3, g3⟩ : ∃ z, z = T1.heap.size := ⟨_, rfl⟩
 rw [← g3] at A3 st3
 have g_b3 := own_gf Z1 g3
 have U4 := (E_o0.keep K1)
 have ne_o0_b3 := own_nf U4.lt g3
 have U5 := (V_ka.keep K1 nin0)
 have ne_ka_b3 := own_nf U5.lt g3
 have U6 := (V_ta.keep K1 nin0)
 have ne_ta_b3 := own_nf U6.lt g3
 have U7 := (V_fa.keep K1 nin0)
 have ne_fa_b3 := own_nf U7.lt g3
 have U8 := (V_su.keep K1 nin0)
 have ne_su_b3 := own_nf U8.lt g3
 have U9 := (V_wo.keep K1 nin0)
 have ne_wo_b3 := own_nf U9.lt g3
 have U10 := (E_o2.keep K1)
 have ne_o2_b3 := own_nf U10.lt g3
 have U11 := (V_o3.keep K1 nin0)
 have ne_o3_b3 := own_nf U11.lt g3
 have U12 := (V_o5.keep K1 nin0)
 have ne_o5_b3 := own_nf U12.lt g3
 have U13 := (E_o1.keep K1)
 have ne_o1_b3 := own_nf U13.lt g3
 have U14 := (V_b.keep K1 nin0)
 have ne_b_b3 := own_nf U14.lt g3
 have ne_c11_b3 := own_nf P0_1.lt g3
 have Z3 := Nat.le_trans Z1 E3.1
 have KP3 := KP1.ext E3
 have sz_b3 := own_gf KP1.1 g3
 have V_b3 := own_AI.new A3 (own_grdn hg2)
 refine own_go st3 ?_
 show own_End p e below s (T3.setTop (mkF m 12 _ [(.ref b3)])) _ _ _
 refine o_astore X3 hx hby e11_10.2.1 (l' := #[wR o0, wR o1, wR o2, wR o3, wI 3, wR o5, wR c11, wR b3, wU, wU, wU, wU, wU, wU, wU, wU, wU, wU, wU, wU]) rfl ?_
 refine o_iload X3 hx hby e11_10.2.2.1 rfl ?_
 obtain ⟨_, hg15, H⟩ := own_bnd H
 obtain ⟨T16, h16, k16, X16, e16, E16, A16, st16⟩ := newP X3 hx hZ (hW 34 rfl) e3 (g := (mkF m 16 #[wR o0, wR o1, wR o2, wR o3, wI 3, wR o5, wR c11, wR b3, wU, wU, wU, wU, wU, wU, wU, wU, wU, wU, wU, wU] [(.int 3)])) rfl (hb hby e11_10.2.2.2.1) rfl (own_grdn hg15) (cap := 3) (own_grdc hg15) (by decide) (by decide) (by decide)
 obtain ⟨b16, g16⟩ : ∃ z, z = h3.size := ⟨_, rfl⟩
 rw [← g16] at A16 st16
 have g_b16 := own_gf Z3 g16
 have U17 := (U4.ext E3)
 have ne_o0_b16 := own_nf U17.lt g16
 have U18 := (U5.ext E3)
 have ne_ka_b16 := own_nf U18.lt g16
 have U19 := (U6.ext E3)
 have ne_ta_b16 := own_nf U19.lt g16
 have U20 := (U7.ext E3)
 have ne_fa_b16 := own_nf U20.lt g16
 have U21 := (U8.ext E3)
 have ne_su_b16 := own_nf U21.lt g16
 have U22 := (U9.ext E3)
 have ne_wo_b16 := own_nf U22.lt g16
 have U23 := (U10.ext E3)
 have ne_o2_b16 := own_nf U23.lt g16
 have U24 := (U11.ext E3)
 have ne_o3_b16 := own_nf U24.lt g16
 have U25 := (U12.ext E3)
 have ne_o5_b16 := own_nf U25.lt g16
 have U26 := (U13.ext E3)
 have ne_o1_b16 := own_nf U26.lt g16
 have U27 := (U14.ext E3)
 have ne_b_b16 := own_nf U27.lt g16
 have U28 := (P0_1.ext E3)
 have ne_c11_b16 := own_nf U28.lt g16
 have ne_b3_b16 := own_nf V_b3.lt g16
 have Z16 := Nat.le_trans Z3 E16.1
 have KP16 := KP3.ext E16
 have sz_b16 := own_gf KP3.1 g16
 have V_b16 := own_AI.new A16 (own_grdn hg15)
 refine own_go st16 ?_
 show own_End p e below s (T16.setTop (mkF m 18 _ [(.ref b16)])) _ _ _
 refine o_astore X16 hx hby e11_10.2.2.2.2 (l' := #[wR o0, wR o1, wR o2, wR o3, wI 3, wR o5, wR c11, wR b3, wR b16, wU, wU, wU, wU, wU, wU, wU, wU, wU, wU, wU]) rfl ?_
 refine o_iload X16 hx hby e11_20.1 rfl ?_
 obtain ⟨_, hg29, H⟩ := own_bnd H
 obtain ⟨T30, h30, k30, X30, e30, E30, A30, st30⟩ := newP X16 hx hZ (hW 34 rfl) e16 (g := (mkF m 22 #[wR o0, wR o1, wR o2, wR o3, wI 3, wR o5, wR c11, wR b3, wR b16, wU, wU, wU, wU, wU, wU, wU, wU, wU, wU, wU] [(.int 3)])) rfl (hb hby e11_20.2.1) rfl (own_grdn hg29) (cap := 3) (own_grdc hg29) (by decide) (by decide) (by decide)
 obtain ⟨b30, g30⟩ : ∃ z, z = h16.size := ⟨_, rfl⟩
 rw [← g30] at A30 st30
 have g_b30 := own_gf Z16 g30
 have U31 := (U17.ext E16)
 have ne_o0_b30 := own_nf U31.lt g30
 have U32 := (U18.ext E16)
 have ne_ka_b30 := own_nf U32.lt g30
 have U33 := (U19.ext E16)
 have ne_ta_b30 := own_nf U33.lt g30
 have U34 := (U20.ext E16)
 have ne_fa_b30 := own_nf U34.lt g30
 have U35 := (U21.ext E16)
 have ne_su_b30 := own_nf U35.lt g30
 have U36 := (U22.ext E16)
 have ne_wo_b30 := own_nf U36.lt g30
 have U37 := (U23.ext E16)
 have ne_o2_b30 := own_nf U37.lt g30
 have U38 := (U24.ext E16)
 have ne_o3_b30 := own_nf U38.lt g30
 have U39 := (U25.ext E16)
 have ne_o5_b30 := own_nf U39.lt g30
 have U40 := (U26.ext E16)
 have ne_o1_b30 := own_nf U40.lt g30
 have U41 := (U27.ext E16)
 have ne_b_b30 := own_nf U41.lt g30
 have U42 := (U28.ext E16)
 have ne_c11_b30 := own_nf U42.lt g30
 have U43 := (V_b3.ext E16)
 have ne_b3_b30 := own_nf U43.lt g30
 have ne_b16_b30 := own_nf V_b16.lt g30
 have Z30 := Nat.le_trans Z16 E30.1
 have KP30 := KP16.ext E30
 have sz_b30 := own_gf KP16.1 g30
 have V_b30 := own_AI.new A30 (own_grdn hg29)
 refine own_go st30 ?_
 show own_End p e below s (T30.setTop (mkF m 24 _ [(.ref b30)])) _ _ _
 refine o_astore X30 hx hby e11_20.2.2.1 (l' := #[wR o0, wR o1, wR o2, wR o3, wI 3, wR o5, wR c11, wR b3, wR b16, wR b30, wU, wU, wU, wU, wU, wU, wU, wU, wU, wU]) rfl ?_
 refine o_iload X30 hx hby e11_20.2.2.2.1 rfl ?_
 obtain ⟨_, hg44, H⟩ := own_bnd H
 obtain ⟨T45, h45, k45, X45, e45, E45, A45, st45⟩ := newP X30 hx hZ (hW 34 rfl) e30 (g := (mkF m 28 #[wR o0, wR o1, wR o2, wR o3, wI 3, wR o5, wR c11, wR b3, wR b16, wR b30, wU, wU, wU, wU, wU, wU, wU, wU, wU, wU] [(.int 3)])) rfl (hb hby e11_20.2.2.2.2) rfl (own_grdn hg44) (cap := 3) (own_grdc hg44) (by decide) (by decide) (by decide)
 obtain ⟨b45, g45⟩ : ∃ z, z = h30.size := ⟨_, rfl⟩
 rw [← g45] at A45 st45
 have g_b45 := own_gf Z30 g45
 have U46 := (U31.ext E30)
 have ne_o0_b45 := own_nf U46.lt g45
 have U47 := (U32.ext E30)
 have ne_ka_b45 := own_nf U47.lt g45
 have U48 := (U33.ext E30)
 have ne_ta_b45 := own_nf U48.lt g45
 have U49 := (U34.ext E30)
 have ne_fa_b45 := own_nf U49.lt g45
 have U50 := (U35.ext E30)
 have ne_su_b45 := own_nf U50.lt g45
 have U51 := (U36.ext E30)
 have ne_wo_b45 := own_nf U51.lt g45
 have U52 := (U37.ext E30)
 have ne_o2_b45 := own_nf U52.lt g45
 have U53 := (U38.ext E30)
 have ne_o3_b45 := own_nf U53.lt g45
 have U54 := (U39.ext E30)
 have ne_o5_b45 := own_nf U54.lt g45
 have U55 := (U40.ext E30)
 have ne_o1_b45 := own_nf U55.lt g45
 have U56 := (U41.ext E30)
 have ne_b_b45 := own_nf U56.lt g45
 have U57 := (U42.ext E30)
 have ne_c11_b45 := own_nf U57.lt g45
 have U58 := (U43.ext E30)
 have ne_b3_b45 := own_nf U58.lt g45
 have U59 := (V_b16.ext E30)
 have ne_b16_b45 := own_nf U59.lt g45
 have ne_b30_b45 := own_nf V_b30.lt g45
 have Z45 := Nat.le_trans Z30 E45.1
 have KP45 := KP30.ext E45
 have sz_b45 := own_gf KP30.1 g45
 have V_b45 := own_AI.new A45 (own_grdn hg44)
 refine own_go st45 ?_
 show own_End p e below s (T45.setTop (mkF m 30 _ [(.ref b45)])) _ _ _
 refine o_astore X45 hx hby e11_30.1 (l' := #[wR o0, wR o1, wR o2, wR o3, wI 3, wR o5, wR c11, wR b3, wR b16, wR b30, wR b45, wU, wU, wU, wU, wU, wU, wU, wU, wU]) rfl ?_
 refine o_aload X45 hx hby e11_30.2.1 rfl ?_
 have U60 := (((((Ol.keep K1 all0).ext E3).ext E16).ext E30).ext E45)
 obtain ⟨la61, cK61, hmd61, hfn61, st61⟩ := own_site (σ := own_sh) X45 hx hH Bd.named (hW 81 rfl) rfl e45 U60.2 (g := (mkF m 34 #[wR o0, wR o1, wR o2, wR o3, wI 3, wR o5, wR c11, wR b3, wR b16, wR b30, wR b45, wU, wU, wU, wU, wU, wU, wU, wU, wU] [(.ref b16)])) rfl rfl (by rw [hml]; rfl) (hb hby e11_30.2.2.1) (by show 2 * 0 + 1 + 3072 ≤ _; exact Nat.le_of_ble_eq_true rfl)
 replace hfn61 : own_Fn h45 la61 cK61 := hfn61
 refine own_go st61 ?_
 show own_End p e below s (T45.setTop (mkF m 39 _ [(.ref la61), (.ref b16)])) _ _ _
 have U62 := (U59.ext E45)
 have Vp63 : Arv Z h45 b16 k16 .int (3 : Int32) [.int 0, .int 0, .int 0] (.int 0) := U62.1
 refine o_cS X45 hx hZ hown (y := wy13) (hW 84 rfl) (hW 85 rfl) (hW 53 rfl) (hW 86 rfl) (by decide) (own_backH (W := 0) (rmSetAll l Z a0 hw [] b16 la61 cK61 k16 (0 : Int32) (0 : Int32) (0 : Int32) h45 n0 Z45 hmd61 hfn61 Vp63 g_b16) hH (hW 86 rfl) (hW 53 rfl) (by decide) (by decide)) (by rw [hml]; rfl) (argsL := [(.ref b16), (.ref la61)]) (rest := []) (lenOf own_pd13 rfl) rfl rfl (Nat.le_of_eq rfl) e45 (by decide) (by decide) hby e11_30.2.2.2.1 N1 fun T64 v64 Lc64 ls64 X64 hQ64 nq64 => ?_
 obtain ⟨⟨rfl, P0_64⟩, N64q, K64⟩ := hQ64
 have N64 := nq64 N64q
 have Z64 := Nat.le_trans Z45 K64.1
 show own_End p e below s (T64.setTop (mkF m 42 _ [])) _ _ _
 have KP64 := KP45.trans K64 (allS (Or.inr sz_b16) all0)
 have Vp65 : own_AI Z T64.heap b16 k16 (3 : Int32) [0, 1, 2] := ⟨P0_64, rfl⟩
 refine o_aloadN X64 hx hby e11_30.2.2.2.2 rfl ?_
 have U66 := ((((((F_o0_suffixes.keep K1 nin0).ext E3).ext E16).ext E30).ext E45).keep K64 (ninS ne_o0_b16 nin0))
 refine o_getF X64 hx hZ hown (host := "") (Or.inl (hW 61 rfl)) Via.refl rfl U66 hby e11_43.1 fun T67 X67 e67 => ?_
 refine o_iconst X67 hx hby e11_43.2.1 (x := 0) rfl ?_
 refine o_iconst X67 hx hby e11_43.2.2.1 (x := (-1)) rfl ?_
 have U68 := ((U50.ext E45).keep K64 (ninS ne_su_b16 nin0))
 obtain ⟨L69', hs69, H⟩ := own_bnd H
 refine o_stI X67 hx hZ e67 U68 hs69 N64 g_su hby e11_43.2.2.2.1 fun T70 h70 ls70 X70 e70 W70 V_su_70 N70 => ?_
 have Z70 := Nat.le_trans Z64 (Keep.of_wr W70).1
 have KP70 := KP64.wr W70 (Or.inl (List.mem_of_getElem? (i := 3) rfl))
 refine o_iconst X70 hx hby e11_43.2.2.2.2 (x := 1) rfl ?_
 refine o_istore X70 hx hby e11_50.1 (l' := #[wR o0, wR o1, wR o2, wR o3, wI 3, wR o5, wR c11, wR b3, wR b16, wR b30, wR b45, wI 1, wU, wU, wU, wU, wU, wU, wU, wU]) rfl ?_
 refine o_iconst X70 hx hby e11_50.2.1 (x := 0) rfl ?_
 refine o_istore X70 hx hby e11_50.2.2.1 (l' := #[wR o0, wR o1, wR o2, wR o3, wI 3, wR o5, wR c11, wR b3, wR b16, wR b30, wR b45, wI 1, wI 0, wU, wU, wU, wU, wU, wU, wU]) rfl ?_
 refine o_iload X70 hx hby e11_50.2.2.2.1 rfl ?_
 refine o_istore X70 hx hby e11_50.2.2.2.2 (l' := #[wR o0, wR o1, wR o2, wR o3, wI 3, wR o5, wR c11, wR b3, wR b16, wR b30, wR b45, wI 1, wI 0, wI 3, wU, wU, wU, wU, wU, wU]) rfl ?_
 obtain ⟨IV71, hIV71⟩ : ∃ I : Heap → List Int64 → List Int32 → List Int32 → List Int32 → List Int32 → List Int32 → List Int32 → List Int32 → List Int32 → List Int32 → List Int32 → Prop, ∀ (hh : Heap) (K : List Int64) (T : List Int32) (Fa : List Int32) (Su : List Int32) (Wo : List Int32) (Ws : List Int32) (Rd : List Int32) (Re : List Int32) (Un : List Int32) (Pa : List Int32) (Sy : List Int32), I hh K T Fa Su Wo Ws Rd Re Un Pa Sy ↔ (Exa Z hh o0 "com/example/portero/portero/matching/SegmentAutomaton" ∧ Fld Z hh o0 "com/example/portero/portero/matching/SegmentAutomaton" "slotShift" "I" (.int sh) ∧ Fld Z hh o0 "com/example/portero/portero/matching/SegmentAutomaton" "edgeKeys" "[J" (.ref ka) ∧ Fld Z hh o0 "com/example/portero/portero/matching/SegmentAutomaton" "edgeTargets" "[I" (.ref ta) ∧ Fld Z hh o0 "com/example/portero/portero/matching/SegmentAutomaton" "failures" "[I" (.ref fa) ∧ Fld Z hh o0 "com/example/portero/portero/matching/SegmentAutomaton" "suffixes" "[I" (.ref su) ∧ Fld Z hh o0 "com/example/portero/portero/matching/SegmentAutomaton" "words" "[I" (.ref wo) ∧ own_AJ Z hh ka kk nk K ∧ own_AI Z hh ta kt nk T ∧ own_AI Z hh fa kf ms Fa ∧ own_AI Z hh wo kw (3 : Int32) Wo ∧ own_AI Z hh o3 ken (3 : Int32) En ∧ own_AI Z hh o5 kws (3 : Int32) Ws ∧ Exa Z hh o1 "java/lang/String" ∧ Fld Z hh o1 "java/lang/String" "value" "[B" (.ref b) ∧ Fld Z hh o1 "java/lang/String" "coder" "B" (.int 0) ∧ own_AB Z hh b kb nb B ∧ Old Z n0 hh ∧ own_AI Z hh c11 kst (3 : Int32) Rd ∧ own_AI Z hh b3 k3 (3 : Int32) Re ∧ own_AI Z hh b30 k30 (3 : Int32) Pa ∧ own_AI Z hh b45 k45 (3 : Int32) Sy ∧ own_AI Z hh b16 k16 (3 : Int32) Un ∧ own_AI Z hh su ks ms Su) := ⟨_, fun _ _ _ _ _ _ _ _ _ _ _ _ => Iff.rfl⟩
 have J0 : ∀ f0 : Nat, (∀ (sc : Int32) (wn : Int32) (lf : Int32) (fi : Int32) (kp : Int32) (i : Int32) (K : List Int64) (T : List Int32) (Fa : List Int32) (Su : List Int32) (Wo : List Int32) (Ws : List Int32) (Rd : List Int32) (Re : List Int32) (Un : List Int32) (Pa : List Int32) (Sy : List Int32) (T72 : State) (h72 : Heap) (ls72 : List Loc) (X72 : Stand p l e ({ frames := 6, cells := 5, slots := 15, locals := 3073 } : Room) s m #[(.ref o0), (.ref o1), (.ref o2), (.ref o3), (.int 3), (.ref o5)] below meth c T72 ls72 5 15) (e72 : T72.heap = h72) (N72 : Fr n0 ls72) (Z72 : n0 ≤ h72.size) (KP72 : Keep h0 h72 [ka, ta, fa, su, wo, o5]) (FF72 : IV71 h72 K T Fa Su Wo Ws Rd Re Un Pa Sy) (sl14 sl15 sl16 sl17 sl18 sl19 : Slot) (hsl14 : own_pl sl14) (hsl15 : own_pl sl15) (hsl16 : own_pl sl16) (hsl17 : own_pl sl17) (hsl18 : own_pl sl18) (hsl19 : own_pl sl19), S_rmSeg_0 sh nk St En B f0 0 sc wn lf fi kp i K T Fa Su Wo Ws Rd Re Un Pa Sy = some out → own_End p e below s (T72.setTop (mkF m 59 #[wR o0, wR o1, wR o2, wR o3, wI 3, wR o5, wR c11, wR b3, wR b16, wR b30, wR b45, wI sc, wI wn, wI lf, sl14, sl15, sl16, sl17, sl18, sl19] [])) (Q_rmSeg Z o0 o1 o2 o3 o5 sh nk ms ka kk K ta kt T fa kf Fa su ks Su wo kw Wo kws Ws kst St ken En b kb nb B sv out cz h0 n0) ({ frames := 6, cells := 5, slots := 15, locals := 3073 } : Room).cells ({ frames := 6, cells := 5, slots := 15, locals := 3073 } : Room).slots) ∧ (∀ (sc : Int32) (wn : Int32) (lf : Int32) (fi : Int32) (kp : Int32) (i : Int32) (K : List Int64) (T : List Int32) (Fa : List Int32) (Su : List Int32) (Wo : List Int32) (Ws : List Int32) (Rd : List Int32) (Re : List Int32) (Un : List Int32) (Pa : List Int32) (Sy : List Int32) (T74 : State) (h74 : Heap) (ls74 : List Loc) (X74 : Stand p l e ({ frames := 6, cells := 5, slots := 15, locals := 3073 } : Room) s m #[(.ref o0), (.ref o1), (.ref o2), (.ref o3), (.int 3), (.ref o5)] below meth c T74 ls74 5 15) (e74 : T74.heap = h74) (N74 : Fr n0 ls74) (Z74 : n0 ≤ h74.size) (KP74 : Keep h0 h74 [ka, ta, fa, su, wo, o5]) (FF74 : IV71 h74 K T Fa Su Wo Ws Rd Re Un Pa Sy) (sl17 sl18 sl19 : Slot) (hsl17 : own_pl sl17) (hsl18 : own_pl sl18) (hsl19 : own_pl sl19), S_rmSeg_0 sh nk St En B f0 1 sc wn lf fi kp i K T Fa Su Wo Ws Rd Re Un Pa Sy = some out → own_End p e below s (T74.setTop (mkF m 74 #[wR o0, wR o1, wR o2, wR o3, wI 3, wR o5, wR c11, wR b3, wR b16, wR b30, wR b45, wI sc, wI wn, wI lf, wI fi, wI kp, wI i, sl17, sl18, sl19] [])) (Q_rmSeg Z o0 o1 o2 o3 o5 sh nk ms ka kk K ta kt T fa kf Fa su ks Su wo kw Wo kws Ws kst St ken En b kb nb B sv out cz h0 n0) ({ frames := 6, cells := 5, slots := 15, locals := 3073 } : Room).cells ({ frames := 6, cells := 5, slots := 15, locals := 3073 } : Room).slots) ∧ (∀ (sc : Int32) (wn : Int32) (lf : Int32) (fi : Int32) (kp : Int32) (i : Int32) (K : List Int64) (T : List Int32) (Fa : List Int32) (Su : List Int32) (Wo : List Int32) (Ws : List Int32) (Rd : List Int32) (Re : List Int32) (Un : List Int32) (Pa : List Int32) (Sy : List Int32) (T335 : State) (h335 : Heap) (ls335 : List Loc) (X335 : Stand p l e ({ frames := 6, cells := 5, slots := 15, locals := 3073 } : Room) s m #[(.ref o0), (.ref o1), (.ref o2), (.ref o3), (.int 3), (.ref o5)] below meth c T335 ls335 5 15) (e335 : T335.heap = h335) (N335 : Fr n0 ls335) (Z335 : n0 ≤ h335.size) (KP335 : Keep h0 h335 [ka, ta, fa, su, wo, o5]) (FF335 : IV71 h335 K T Fa Su Wo Ws Rd Re Un Pa Sy) (sl15 sl17 sl18 sl19 : Slot) (hsl15 : own_pl sl15) (hsl17 : own_pl sl17) (hsl18 : own_pl sl18) (hsl19 : own_pl sl19), S_rmSeg_0 sh nk St En B f0 2 sc wn lf fi kp i K T Fa Su Wo Ws Rd Re Un Pa Sy = some out → own_End p e below s (T335.setTop (mkF m 273 #[wR o0, wR o1, wR o2, wR o3, wI 3, wR o5, wR c11, wR b3, wR b16, wR b30, wR b45, wI sc, wI wn, wI lf, wI fi, sl15, wI i, sl17, sl18, sl19] [])) (Q_rmSeg Z o0 o1 o2 o3 o5 sh nk ms ka kk K ta kt T fa kf Fa su ks Su wo kw Wo kws Ws kst St ken En b kb nb B sv out cz h0 n0) ({ frames := 6, cells := 5, slots := 15, locals := 3073 } : Room).cells ({ frames := 6, cells := 5, slots := 15, locals := 3073 } : Room).slots) := by
  intro f0
  induction f0 with
  | zero => refine ⟨?_, ?_, ?_⟩ <;> (intros; rename_i H; exact nomatch (show (none : Option (Int32 × List Int64 × List Int32 × List Int32 × List Int32 × List Int32 × List Int32)) = some _ from H))
  | succ f0 IH0 =>
   refine ⟨?_, ?_, ?_⟩
   ·skip
    intro sc wn lf fi kp i K T Fa Su Wo Ws Rd Re Un Pa Sy T72 h72 ls72 X72 e72 N72 Z72 KP72 FF72 sl14 sl15 sl16 sl17 sl18 sl19 hsl14 hsl15 hsl16 hsl17 hsl18 hsl19 H
    obtain ⟨Fa72_0, Fa72_1, Fa72_2, Fa72_3, Fa72_4, Fa72_5, Fa72_6, Fa72_7, Fa72_8, Fa72_9, Fa72_10, Fa72_11, Fa72_12, Fa72_13, Fa72_14, Fa72_15, Fa72_16, Fa72_17, Fa72_18, Fa72_19, Fa72_20, Fa72_21, Fa72_22, Fa72_23⟩ := (hIV71 _ _ _ _ _ _ _ _ _ _ _ _).mp FF72
    replace H := (S_rmSeg_0_0 _ _ _ _ _ _ _ _ _ _ _ _ _ _ _ _ _ _ _ _ _ _ _).symm.trans H
    show own_End p e below s (T72.setTop (mkF m 59 _ [])) _ _ _
    refine o_iload X72 hx hby e11_59.1 rfl ?_
    by_cases c61_73 : 0 < lf.toInt
    ·skip
     replace H := own_ifp c61_73 H
     refine o_ifNo X72 hx hby e11_59.2.1 ((if0 _ _).trans (own_tlt (x := 0) (y := lf) (i := 0) (j := lf.toInt) rfl rfl c61_73).2.2.2) ?_
     refine o_iload X72 hx hby e11_59.2.2.1 rfl ?_
     refine o_istore X72 hx hby e11_59.2.2.2.1 (l' := #[wR o0, wR o1, wR o2, wR o3, wI 3, wR o5, wR c11, wR b3, wR b16, wR b30, wR b45, wI sc, wI wn, wI lf, wI sc, sl15, sl16, sl17, sl18, sl19]) (by rcases hsl14 with rfl | ⟨_, rfl⟩ <;> rfl) ?_
     refine o_iconst X72 hx hby e11_59.2.2.2.2 (x := 0) rfl ?_
     refine o_istore X72 hx hby e11_69.1 (l' := #[wR o0, wR o1, wR o2, wR o3, wI 3, wR o5, wR c11, wR b3, wR b16, wR b30, wR b45, wI sc, wI wn, wI lf, wI sc, wI 0, sl16, sl17, sl18, sl19]) (by rcases hsl15 with rfl | ⟨_, rfl⟩ <;> rfl) ?_
     refine o_iconst X72 hx hby e11_69.2.1 (x := 0) rfl ?_
     refine o_istore X72 hx hby e11_69.2.2.1 (l' := #[wR o0, wR o1, wR o2, wR o3, wI 3, wR o5, wR c11, wR b3, wR b16, wR b30, wR b45, wI sc, wI wn, wI lf, wI sc, wI 0, wI 0, sl17, sl18, sl19]) (by rcases hsl16 with rfl | ⟨_, rfl⟩ <;> rfl) ?_
     exact IH0.2.1 sc wn lf sc (0 : Int32) (0 : Int32) K T Fa Su Wo Ws Rd Re Un Pa Sy T72 h72 _ X72 e72 N72 Z72 KP72 ((hIV71 _ _ _ _ _ _ _ _ _ _ _ _).mpr ⟨Fa72_0, Fa72_1, Fa72_2, Fa72_3, Fa72_4, Fa72_5, Fa72_6, Fa72_7, Fa72_8, Fa72_9, Fa72_10, Fa72_11, Fa72_12, Fa72_13, Fa72_14, Fa72_15, Fa72_16, Fa72_17, Fa72_18, Fa72_19, Fa72_20, Fa72_21, Fa72_22, Fa72_23⟩) (sl17) (sl18) (sl19) hsl17 hsl18 hsl19 H
    ·skip
     replace H := own_ifn c61_73 H
     refine o_ifYes X72 hx (pc0 := 61) (pc' := 364) rfl hby e11_59.2.1 ((if0 _ _).trans (own_flt (x := 0) (y := lf) (i := 0) (j := lf.toInt) rfl rfl c61_73).2.2.2) (by decide) (by decide) ?_
     refine o_iload X72 hx hby e11_355.2.2.2.1 rfl ?_
     obtain rfl := Option.some.inj H
     refine own_ret X72 (v := some (.int wn)) (fun h => by rw [Bd.returns] at h; cases h) Bd.notSynchronized (fun fs hr => retI X72 hx Bd.returns (hb hby e11_355.2.2.2.2) hr) ?_ (by decide) (by decide)
     ·rw [e72]; exact ⟨⟨rfl, Fa72_7, Fa72_8, Fa72_9, Fa72_23, Fa72_10, Fa72_12⟩, N72, KP72⟩
   ·skip
    intro sc wn lf fi kp i K T Fa Su Wo Ws Rd Re Un Pa Sy T74 h74 ls74 X74 e74 N74 Z74 KP74 FF74 sl17 sl18 sl19 hsl17 hsl18 hsl19 H
    obtain ⟨Fa74_0, Fa74_1, Fa74_2, Fa74_3, Fa74_4, Fa74_5, Fa74_6, Fa74_7, Fa74_8, Fa74_9, Fa74_10, Fa74_11, Fa74_12, Fa74_13, Fa74_14, Fa74_15, Fa74_16, Fa74_17, Fa74_18, Fa74_19, Fa74_20, Fa74_21, Fa74_22, Fa74_23⟩ := (hIV71 _ _ _ _ _ _ _ _ _ _ _ _).mp FF74
    replace H := (S_rmSeg_0_1 _ _ _ _ _ _ _ _ _ _ _ _ _ _ _ _ _ _ _ _ _ _ _).symm.trans H
    show own_End p e below s (T74.setTop (mkF m 74 _ [])) _ _ _
    refine o_iload X74 hx hby e11_69.2.2.2.1 rfl ?_
    refine o_iload X74 hx hby e11_69.2.2.2.2 rfl ?_
    by_cases c78_75 : i.toInt < lf.toInt
    ·skip
     replace H := own_ifp c78_75 H
     refine o_icmpNo X74 hx hby e11_78.1 (own_tlt (x := i) (y := lf) (i := i.toInt) (j := lf.toInt) rfl rfl c78_75).2.1 ?_
     refine o_aload X74 hx hby e11_78.2.1 rfl ?_
     refine o_iload X74 hx hby e11_78.2.2.1 rfl ?_
     obtain ⟨v76, hv76, H⟩ := own_bnd H
     refine o_ldI X74 hx hZ e74 Fa74_22 hv76 hby e11_78.2.2.2.1 ?_
     refine o_istore X74 hx hby e11_78.2.2.2.2 (l' := #[wR o0, wR o1, wR o2, wR o3, wI 3, wR o5, wR c11, wR b3, wR b16, wR b30, wR b45, wI sc, wI wn, wI lf, wI fi, wI kp, wI i, wI v76, sl18, sl19]) (by rcases hsl17 with rfl | ⟨_, rfl⟩ <;> rfl) ?_
     refine o_aloadN X74 hx hby e11_88.1 rfl ?_
     refine o_aload X74 hx hby e11_88.2.1 rfl ?_
     refine o_iload X74 hx hby e11_88.2.2.1 rfl ?_
     obtain ⟨v77, hv77, H⟩ := own_bnd H
     refine o_ldI X74 hx hZ e74 Fa74_18 hv77 hby e11_88.2.2.2.1 ?_
     obtain ⟨o78, ho78, H⟩ := own_bnd H
     refine o_cS X74 hx hZ hown (y := wy16) (hW 96 rfl) (hW 97 rfl) (hW 37 rfl) (hW 98 rfl) (by decide) (backOf (W := 0) (rmSym l Z a0 hw [] o1 v77 b kb nb B sv o78 cz h74 n0 Z74 Fa74_13 Fa74_14 Fa74_15 Fa74_16 S_C hcz Fa74_17 S_SF hsv ho78) hZ (hW 98 rfl) (hW 37 rfl) (by decide) (by decide)) (by rw [hml]; rfl) (argsL := [(.ref o1), (.int v77)]) (rest := []) (lenOf own_pd9 rfl) rfl rfl (Nat.le_of_eq rfl) e74 (by decide) (by decide) hby e11_88.2.2.2.2 N74 fun T79 v79 Lc79 ls79 X79 hQ79 nq79 => ?_
     obtain ⟨rfl, N79q, e79⟩ := hQ79
     have N79 := nq79 N79q
     show own_End p e below s (T79.setTop (mkF m 97 _ [(.int o78)])) _ _ _
     refine o_istore X79 hx hby e11_97.1 (l' := #[wR o0, wR o1, wR o2, wR o3, wI 3, wR o5, wR c11, wR b3, wR b16, wR b30, wR b45, wI sc, wI wn, wI lf, wI fi, wI kp, wI i, wI v76, wI o78, sl19]) (by rcases hsl18 with rfl | ⟨_, rfl⟩ <;> rfl) ?_
     refine o_aloadN X79 hx hby e11_97.2.1 rfl ?_
     refine o_aload X79 hx hby e11_97.2.2.1 rfl ?_
     refine o_iload X79 hx hby e11_97.2.2.2.1 rfl ?_
     obtain ⟨v80, hv80, H⟩ := own_bnd H
     refine o_ldI X79 hx hZ e79 Fa74_19 hv80 hby e11_97.2.2.2.2 ?_
     refine o_iload X79 hx hby e11_105.1 rfl ?_
     obtain ⟨o81, ho81, H⟩ := own_bnd H
     refine o_cP X79 hx hZ hown (y := wy23) (hW 126 rfl) (hW 36 rfl) (hW 127 rfl) (hW 128 rfl) (hW 129 rfl) (by decide) Fa74_0 (backOf (W := 0) (rmTgt l Z a0 hw [] o0 v80 o78 sh nk ka kk ta kt K T o81 h74 n0 Z74 Fa74_0 Fa74_1 Fa74_2 Fa74_3 Fa74_7 Fa74_8 ho81) hZ (hW 129 rfl) (hW 37 rfl) (by decide) (by decide)) (by rw [hml]; rfl) (argsL := [(.int v80), (.int o78)]) (rest := []) (lenOf own_pd1 rfl) rfl rfl (Nat.le_of_eq rfl) e79 (by decide) (by decide) hby e11_105.2.1 N79 fun T82 v82 Lc82 ls82 X82 hQ82 nq82 => ?_
     obtain ⟨rfl, N82q, e82⟩ := hQ82
     have N82 := nq82 N82q
     show own_End p e below s (T82.setTop (mkF m 110 _ [(.int o81)])) _ _ _
     refine o_istore X82 hx hby e11_105.2.2.1 (l' := #[wR o0, wR o1, wR o2, wR o3, wI 3, wR o5, wR c11, wR b3, wR b16, wR b30, wR b45, wI sc, wI wn, wI lf, wI fi, wI kp, wI i, wI v76, wI o78, wI o81]) (by rcases hsl19 with rfl | ⟨_, rfl⟩ <;> rfl) ?_
     refine o_iload X82 hx hby e11_105.2.2.2.1 rfl ?_
     refine o_iconst X82 hx hby e11_105.2.2.2.2 (x := (-1)) rfl ?_
     by_cases c115_83 : o81.toInt = -1
     ·skip
      replace H := own_ifp c115_83 H
      refine o_icmpNo X82 hx hby e11_115.1 (own_eq (x := o81) (y := (-1)) (i := o81.toInt) (j := -1) rfl rfl c115_83).2 ?_
      refine o_iload X82 hx hby e11_115.2.1 rfl ?_
      refine o_iinc X82 hx hby e11_115.2.2.1 rfl (l' := #[wR o0, wR o1, wR o2, wR o3, wI 3, wR o5, wR c11, wR b3, wR b16, wR b30, wR b45, wI (sc + (1 : Int32)), wI wn, wI lf, wI fi, wI kp, wI i, wI v76, wI o78, wI o81]) rfl ?_
      refine o_istore X82 hx hby e11_115.2.2.2.1 (l' := #[wR o0, wR o1, wR o2, wR o3, wI 3, wR o5, wR c11, wR b3, wR b16, wR b30, wR b45, wI (sc + (1 : Int32)), wI wn, wI lf, wI fi, wI kp, wI i, wI v76, wI o78, wI sc]) rfl ?_
      refine o_aloadN X82 hx hby e11_115.2.2.2.2 rfl ?_
      refine o_aload X82 hx hby e11_126.1 rfl ?_
      refine o_iload X82 hx hby e11_126.2.1 rfl ?_
      obtain ⟨v84, hv84, H⟩ := own_bnd H
      refine o_ldI X82 hx hZ e82 Fa74_19 hv84 hby e11_126.2.2.1 ?_
      refine o_iload X82 hx hby e11_126.2.2.2.1 rfl ?_
      refine o_iload X82 hx hby e11_126.2.2.2.2 rfl ?_
      obtain ⟨o85, ho85, H⟩ := own_bnd H
      refine o_cP X82 hx hZ hown (y := wy25) (hW 135 rfl) (hW 36 rfl) (hW 136 rfl) (hW 137 rfl) (hW 138 rfl) (by decide) Fa74_0 (backOf (W := 0) (rmAdd l Z a0 hw [] o0 v84 o78 sc sh nk ka kk ta kt K T o85 h74 n0 Z74 Fa74_0 Fa74_1 Fa74_2 Fa74_3 Fa74_7 Fa74_8 g_ka g_ta ne_ka_ta ne_ka_o0 ne_ta_o0 ho85) hZ (hW 138 rfl) (hW 37 rfl) (by decide) (by decide)) (by rw [hml]; rfl) (argsL := [(.int v84), (.int o78), (.int sc)]) (rest := []) (lenOf own_pd14 rfl) rfl rfl (Nat.le_of_eq rfl) e82 (by decide) (by decide) hby e11_135.1 N82 fun T86 v86 Lc86 ls86 X86 hQ86 nq86 => ?_
      obtain ⟨⟨rfl, P0_86, P1_86⟩, N86q, K86⟩ := hQ86
      have N86 := nq86 N86q
      have Z86 := Nat.le_trans Z74 K86.1
      show own_End p e below s (T86.setTop (mkF m 138 _ [])) _ _ _
      have KP86 := KP74.trans K86 (allS (Or.inl (List.mem_of_getElem? (i := 0) rfl)) (allS (Or.inl (List.mem_of_getElem? (i := 1) rfl)) all0))
      refine o_aload X86 hx hby e11_135.2.1 rfl ?_
      refine o_iload X86 hx hby e11_135.2.2.1 rfl ?_
      refine o_iload X86 hx hby e11_135.2.2.2.1 rfl ?_
      refine o_isub X86 hx hby e11_135.2.2.2.2 ?_
      refine o_aload X86 hx hby e11_145.1 rfl ?_
      refine o_iload X86 hx hby e11_145.2.1 rfl ?_
      have U87 := (Fa74_19.keep K86 (ninS (Ne.symm ne_ka_b3) (ninS (Ne.symm ne_ta_b3) nin0)))
      obtain ⟨v88, hv88, H⟩ := own_bnd H
      refine o_ldI X86 hx hZ rfl U87 hv88 hby e11_145.2.2.1 ?_
      have U89 := (Fa74_20.keep K86 (ninS (Ne.symm ne_ka_b30) (ninS (Ne.symm ne_ta_b30) nin0)))
      obtain ⟨L90', hs90, H⟩ := own_bnd H
      refine o_stI X86 hx hZ rfl U89 hs90 N86 g_b30 hby e11_145.2.2.2.1 fun T91 h91 ls91 X91 e91 W91 V_b30_91 N91 => ?_
      have Z91 := Nat.le_trans Z86 (Keep.of_wr W91).1
      have KP91 := KP86.wr W91 (Or.inr sz_b30)
      refine o_aload X91 hx hby e11_145.2.2.2.2 rfl ?_
      refine o_iload X91 hx hby e11_153.1 rfl ?_
      refine o_iload X91 hx hby e11_153.2.1 rfl ?_
      refine o_isub X91 hx hby e11_153.2.2.1 ?_
      refine o_iload X91 hx hby e11_153.2.2.2.1 rfl ?_
      have U92 := ((Fa74_21.keep K86 (ninS (Ne.symm ne_ka_b45) (ninS (Ne.symm ne_ta_b45) nin0))).other W91 (Ne.symm ne_b30_b45))
      obtain ⟨L93', hs93, H⟩ := own_bnd H
      refine o_stI X91 hx hZ e91 U92 hs93 N91 g_b45 hby e11_153.2.2.2.2 fun T94 h94 ls94 X94 e94 W94 V_b45_94 N94 => ?_
      have Z94 := Nat.le_trans Z91 (Keep.of_wr W94).1
      have KP94 := KP91.wr W94 (Or.inr sz_b45)
      refine o_aloadN X94 hx hby e11_161.1 rfl ?_
      have U95 := (((Fa74_5.keep K86 (ninS (Ne.symm ne_ka_o0) (ninS (Ne.symm ne_ta_o0) nin0))).other W91 (Or.inl ne_o0_b30)).other W94 (Or.inl ne_o0_b45))
      refine o_getF X94 hx hZ hown (host := "") (Or.inl (hW 61 rfl)) Via.refl e94 U95 hby e11_161.2.1 fun T96 X96 e96 => ?_
      refine o_iload X96 hx hby e11_161.2.2.1 rfl ?_
      refine o_iconst X96 hx hby e11_161.2.2.2.1 (x := (-1)) rfl ?_
      have U97 := (((Fa74_23.keep K86 (ninS (Ne.symm ne_ka_su) (ninS (Ne.symm ne_ta_su) nin0))).other W91 ne_su_b30).other W94 ne_su_b45)
      obtain ⟨L98', hs98, H⟩ := own_bnd H
      refine o_stI X96 hx hZ e96 U97 hs98 N94 g_su hby e11_161.2.2.2.2 fun T99 h99 ls99 X99 e99 W99 V_su_99 N99 => ?_
      have Z99 := Nat.le_trans Z94 (Keep.of_wr W99).1
      have KP99 := KP94.wr W99 (Or.inl (List.mem_of_getElem? (i := 3) rfl))
      refine o_aload X99 hx hby e11_169.1 rfl ?_
      refine o_iload X99 hx hby e11_169.2.1 rfl ?_
      refine o_iload X99 hx hby e11_169.2.2.1 rfl ?_
      have U100 := (((U87.other W91 ne_b3_b30).other W94 ne_b3_b45).other W99 (Ne.symm ne_su_b3))
      obtain ⟨L101', hs101, H⟩ := own_bnd H
      refine o_stI X99 hx hZ e99 U100 hs101 N99 g_b3 hby e11_169.2.2.2.1 fun T102 h102 ls102 X102 e102 W102 V_b3_102 N102 => ?_
      have Z102 := Nat.le_trans Z99 (Keep.of_wr W102).1
      have KP102 := KP99.wr W102 (Or.inr sz_b3)
      refine o_aload X102 hx hby e11_169.2.2.2.2 rfl ?_
      refine o_iload X102 hx hby e11_178.1 rfl ?_
      refine o_aloadN X102 hx hby e11_178.2.1 rfl ?_
      refine o_aload X102 hx hby e11_178.2.2.1 rfl ?_
      refine o_iload X102 hx hby e11_178.2.2.2.1 rfl ?_
      have U103 := (((((Fa74_18.keep K86 (ninS (Ne.symm ne_ka_c11) (ninS (Ne.symm ne_ta_c11) nin0))).other W91 ne_c11_b30).other W94 ne_c11_b45).other W99 (Ne.symm ne_su_c11)).other W102 ne_c11_b3)
      obtain ⟨v104, hv104, H⟩ := own_bnd H
      refine o_ldI X102 hx hZ e102 U103 hv104 hby e11_178.2.2.2.2 ?_
      obtain ⟨o105, ho105, H⟩ := own_bnd H
      have U106 := (((((Fa74_13.keep K86).wr W91).wr W94).wr W99).wr W102)
      have U107 := (((((Fa74_14.keep K86 (ninS (Ne.symm ne_ka_o1) (ninS (Ne.symm ne_ta_o1) nin0))).other W91 (Or.inl ne_o1_b30)).other W94 (Or.inl ne_o1_b45)).other W99 (Or.inl (Ne.symm ne_su_o1))).other W102 (Or.inl ne_o1_b3))
      have U108 := (((((Fa74_15.keep K86 (ninS (Ne.symm ne_ka_o1) (ninS (Ne.symm ne_ta_o1) nin0))).other W91 (Or.inl ne_o1_b30)).other W94 (Or.inl ne_o1_b45)).other W99 (Or.inl (Ne.symm ne_su_o1))).other W102 (Or.inl ne_o1_b3))
      have U109 := (((((Fa74_16.keep K86 (ninS (Ne.symm ne_ka_b) (ninS (Ne.symm ne_ta_b) nin0))).other W91 ne_b_b30).other W94 ne_b_b45).other W99 (Ne.symm ne_su_b)).other W102 ne_b_b3)
      have U110 := (((((Fa74_17.keep K86 (allS g_ka (allS g_ta all0))).wr W91 g_b30).wr W94 g_b45).wr W99 g_su).wr W102 g_b3)
      refine o_cS X102 hx hZ hown (y := wy17) (hW 99 rfl) (hW 100 rfl) (hW 101 rfl) (hW 102 rfl) (by decide) (backOf (W := 2) (rmOct l Z a0 hw [] o1 v104 b kb nb B sv o105 cz h102 n0 Z102 U106 U107 U108 U109 S_C hcz U110 S_SF hsv ho105) hZ (hW 102 rfl) (hW 101 rfl) (by decide) (by decide)) (by rw [hml]; rfl) (argsL := [(.ref o1), (.int v104)]) (rest := [(.int v76), (.ref c11)]) (lenOf own_pd9 rfl) rfl rfl (Nat.le_of_eq rfl) e102 (by decide) (by decide) hby e11_186.1 N102 fun T111 v111 Lc111 ls111 X111 hQ111 nq111 => ?_
      obtain ⟨rfl, N111q, e111⟩ := hQ111
      have N111 := nq111 N111q
      show own_End p e below s (T111.setTop (mkF m 189 _ [(.int o105), (.int v76), (.ref c11)])) _ _ _
      obtain ⟨L112', hs112, H⟩ := own_bnd H
      refine o_stI X111 hx hZ e111 U103 hs112 N111 g_c11 hby e11_186.2.1 fun T113 h113 ls113 X113 e113 W113 V_c11_113 N113 => ?_
      have Z113 := Nat.le_trans Z102 (Keep.of_wr W113).1
      have KP113 := KP102.wr W113 (Or.inr sz_c11)
      refine o_aload X113 hx hby e11_186.2.2.1 rfl ?_
      refine o_iload X113 hx hby e11_186.2.2.2.1 rfl ?_
      obtain ⟨v114, hv114, H⟩ := own_bnd H
      refine o_ldI X113 hx hZ e113 V_c11_113 hv114 hby e11_186.2.2.2.2 ?_
      refine o_aloadN X113 hx hby e11_195.1 rfl ?_
      refine o_iload X113 hx hby e11_195.2.1 rfl ?_
      have U115 := ((((((Fa74_11.keep K86 (ninS (Ne.symm ne_ka_o3) (ninS (Ne.symm ne_ta_o3) nin0))).other W91 ne_o3_b30).other W94 ne_o3_b45).other W99 (Ne.symm ne_su_o3)).other W102 ne_o3_b3).other W113 ne_o3_c11)
      obtain ⟨v116, hv116, H⟩ := own_bnd H
      refine o_ldI X113 hx hZ e113 U115 hv116 hby e11_195.2.2.1 ?_
      by_cases c199_117 : v114.toInt < v116.toInt
      ·skip
       replace H := own_ifp c199_117 H
       refine o_icmpNo X113 hx hby e11_195.2.2.2.1 (own_tlt (x := v114) (y := v116) (i := v114.toInt) (j := v116.toInt) rfl rfl c199_117).2.1 ?_
       refine o_aload X113 hx hby e11_195.2.2.2.2 rfl ?_
       refine o_iload X113 hx hby e11_204.1 rfl ?_
       refine o_iinc X113 hx hby e11_204.2.1 rfl (l' := #[wR o0, wR o1, wR o2, wR o3, wI 3, wR o5, wR c11, wR b3, wR b16, wR b30, wR b45, wI (sc + (1 : Int32)), wI wn, wI lf, wI fi, wI (kp + (1 : Int32)), wI i, wI v76, wI o78, wI sc]) rfl ?_
       refine o_iload X113 hx hby e11_204.2.2.1 rfl ?_
       have U118 := ((((((Fa74_22.keep K86 (ninS (Ne.symm ne_ka_b16) (ninS (Ne.symm ne_ta_b16) nin0))).other W91 ne_b16_b30).other W94 ne_b16_b45).other W99 (Ne.symm ne_su_b16)).other W102 (Ne.symm ne_b3_b16)).other W113 (Ne.symm ne_c11_b16))
       obtain ⟨L119', hs119, H⟩ := own_bnd H
       refine o_stI X113 hx hZ e113 U118 hs119 N113 g_b16 hby e11_204.2.2.2.1 fun T120 h120 ls120 X120 e120 W120 V_b16_120 N120 => ?_
       have Z120 := Nat.le_trans Z113 (Keep.of_wr W120).1
       have KP120 := KP113.wr W120 (Or.inr sz_b16)
       refine o_goto X120 hx (pc0 := 212) (pc' := 259) rfl hby e11_204.2.2.2.2 (by decide) (by decide) ?_
       refine o_iinc X120 hx hby e11_252.2.2.2.2 rfl (l' := #[wR o0, wR o1, wR o2, wR o3, wI 3, wR o5, wR c11, wR b3, wR b16, wR b30, wR b45, wI (sc + (1 : Int32)), wI wn, wI lf, wI fi, wI (kp + (1 : Int32)), wI (i + (1 : Int32)), wI v76, wI o78, wI sc]) rfl ?_
       refine o_goto X120 hx (pc0 := 262) (pc' := 74) rfl hby e11_262.1 (by decide) (by decide) ?_
       have U121 := (((((((Fa74_0.keep K86).wr W91).wr W94).wr W99).wr W102).wr W113).wr W120)
       have U122 := (((((((Fa74_1.keep K86 (ninS (Ne.symm ne_ka_o0) (ninS (Ne.symm ne_ta_o0) nin0))).other W91 (Or.inl ne_o0_b30)).other W94 (Or.inl ne_o0_b45)).other W99 (Or.inl (Ne.symm ne_su_o0))).other W102 (Or.inl ne_o0_b3)).other W113 (Or.inl ne_o0_c11)).other W120 (Or.inl ne_o0_b16))
       have U123 := (((((((Fa74_2.keep K86 (ninS (Ne.symm ne_ka_o0) (ninS (Ne.symm ne_ta_o0) nin0))).other W91 (Or.inl ne_o0_b30)).other W94 (Or.inl ne_o0_b45)).other W99 (Or.inl (Ne.symm ne_su_o0))).other W102 (Or.inl ne_o0_b3)).other W113 (Or.inl ne_o0_c11)).other W120 (Or.inl ne_o0_b16))
       have U124 := (((((((Fa74_3.keep K86 (ninS (Ne.symm ne_ka_o0) (ninS (Ne.symm ne_ta_o0) nin0))).other W91 (Or.inl ne_o0_b30)).other W94 (Or.inl ne_o0_b45)).other W99 (Or.inl (Ne.symm ne_su_o0))).other W102 (Or.inl ne_o0_b3)).other W113 (Or.inl ne_o0_c11)).other W120 (Or.inl ne_o0_b16))
       have U125 := (((((((Fa74_4.keep K86 (ninS (Ne.symm ne_ka_o0) (ninS (Ne.symm ne_ta_o0) nin0))).other W91 (Or.inl ne_o0_b30)).other W94 (Or.inl ne_o0_b45)).other W99 (Or.inl (Ne.symm ne_su_o0))).other W102 (Or.inl ne_o0_b3)).other W113 (Or.inl ne_o0_c11)).other W120 (Or.inl ne_o0_b16))
       have U126 := ((((U95.other W99 (Or.inl (Ne.symm ne_su_o0))).other W102 (Or.inl ne_o0_b3)).other W113 (Or.inl ne_o0_c11)).other W120 (Or.inl ne_o0_b16))
       have U127 := (((((((Fa74_6.keep K86 (ninS (Ne.symm ne_ka_o0) (ninS (Ne.symm ne_ta_o0) nin0))).other W91 (Or.inl ne_o0_b30)).other W94 (Or.inl ne_o0_b45)).other W99 (Or.inl (Ne.symm ne_su_o0))).other W102 (Or.inl ne_o0_b3)).other W113 (Or.inl ne_o0_c11)).other W120 (Or.inl ne_o0_b16))
       have U128 := ((((((P0_86.other W91 ne_ka_b30).other W94 ne_ka_b45).other W99 ne_ka_su).other W102 ne_ka_b3).other W113 ne_ka_c11).other W120 ne_ka_b16)
       have U129 := ((((((P1_86.other W91 ne_ta_b30).other W94 ne_ta_b45).other W99 ne_ta_su).other W102 ne_ta_b3).other W113 ne_ta_c11).other W120 ne_ta_b16)
       have U130 := (((((((Fa74_9.keep K86 (ninS (Ne.symm ne_ka_fa) (ninS (Ne.symm ne_ta_fa) nin0))).other W91 ne_fa_b30).other W94 ne_fa_b45).other W99 ne_fa_su).other W102 ne_fa_b3).other W113 ne_fa_c11).other W120 ne_fa_b16)
       have U131 := (((((((Fa74_10.keep K86 (ninS (Ne.symm ne_ka_wo) (ninS (Ne.symm ne_ta_wo) nin0))).other W91 ne_wo_b30).other W94 ne_wo_b45).other W99 (Ne.symm ne_su_wo)).other W102 ne_wo_b3).other W113 ne_wo_c11).other W120 ne_wo_b16)
       have U132 := (U115.other W120 ne_o3_b16)
       have U133 := (((((((Fa74_12.keep K86 (ninS (Ne.symm ne_ka_o5) (ninS (Ne.symm ne_ta_o5) nin0))).other W91 ne_o5_b30).other W94 ne_o5_b45).other W99 (Ne.symm ne_su_o5)).other W102 ne_o5_b3).other W113 ne_o5_c11).other W120 ne_o5_b16)
       have U134 := ((U106.wr W113).wr W120)
       have U135 := ((U107.other W113 (Or.inl ne_o1_c11)).other W120 (Or.inl ne_o1_b16))
       have U136 := ((U108.other W113 (Or.inl ne_o1_c11)).other W120 (Or.inl ne_o1_b16))
       have U137 := ((U109.other W113 ne_b_c11).other W120 ne_b_b16)
       have U138 := ((U110.wr W113 g_c11).wr W120 g_b16)
       have U139 := (V_c11_113.other W120 ne_c11_b16)
       have U140 := ((V_b3_102.other W113 (Ne.symm ne_c11_b3)).other W120 ne_b3_b16)
       have U141 := (((((V_b30_91.other W94 ne_b30_b45).other W99 (Ne.symm ne_su_b30)).other W102 (Ne.symm ne_b3_b30)).other W113 (Ne.symm ne_c11_b30)).other W120 (Ne.symm ne_b16_b30))
       have U142 := ((((V_b45_94.other W99 (Ne.symm ne_su_b45)).other W102 (Ne.symm ne_b3_b45)).other W113 (Ne.symm ne_c11_b45)).other W120 (Ne.symm ne_b16_b45))
       have U143 := (((V_su_99.other W102 ne_su_b3).other W113 ne_su_c11).other W120 ne_su_b16)
       exact IH0.2.1 (sc + (1 : Int32)) wn lf fi (kp + (1 : Int32)) (i + (1 : Int32)) o85.1 o85.2 Fa L98' Wo Ws L112' L101' L119' L90' L93' T120 h120 _ X120 e120 N120 Z120 KP120 ((hIV71 _ _ _ _ _ _ _ _ _ _ _ _).mpr ⟨U121, U122, U123, U124, U125, U126, U127, U128, U129, U130, U131, U132, U133, U134, U135, U136, U137, U138, U139, U140, U141, U142, V_b16_120, U143⟩) (wI v76) (wI o78) (wI sc) (Or.inr ⟨_, rfl⟩) (Or.inr ⟨_, rfl⟩) (Or.inr ⟨_, rfl⟩) H
      ·skip
       replace H := own_ifn c199_117 H
       refine o_icmpYes X113 hx (pc0 := 199) (pc' := 215) rfl hby e11_195.2.2.2.1 (own_flt (x := v114) (y := v116) (i := v114.toInt) (j := v116.toInt) rfl rfl c199_117).2.1 (by decide) (by decide) ?_
       refine o_aloadN X113 hx hby e11_215.1 rfl ?_
       have U144 := (((U95.other W99 (Or.inl (Ne.symm ne_su_o0))).other W102 (Or.inl ne_o0_b3)).other W113 (Or.inl ne_o0_c11))
       refine o_getF X113 hx hZ hown (host := "") (Or.inl (hW 61 rfl)) Via.refl e113 U144 hby e11_215.2.1 fun T145 X145 e145 => ?_
       refine o_iload X145 hx hby e11_215.2.2.1 rfl ?_
       have U146 := ((V_su_99.other W102 ne_su_b3).other W113 ne_su_c11)
       obtain ⟨v147, hv147, H⟩ := own_bnd H
       refine o_ldI X145 hx hZ e145 U146 hv147 hby e11_215.2.2.2.1 ?_
       refine o_iconst X145 hx hby e11_215.2.2.2.2 (x := (-1)) rfl ?_
       by_cases c223_148 : v147.toInt = -1
       ·skip
        replace H := own_ifp c223_148 H
        refine o_icmpNo X145 hx hby e11_223.1 (own_eq (x := v147) (y := (-1)) (i := v147.toInt) (j := -1) rfl rfl c223_148).2 ?_
        refine o_aload X145 hx hby e11_223.2.1 rfl ?_
        refine o_iload X145 hx hby e11_223.2.2.1 rfl ?_
        refine o_iload X145 hx hby e11_223.2.2.2.1 rfl ?_
        have U149 := ((((((Fa74_12.keep K86 (ninS (Ne.symm ne_ka_o5) (ninS (Ne.symm ne_ta_o5) nin0))).other W91 ne_o5_b30).other W94 ne_o5_b45).other W99 (Ne.symm ne_su_o5)).other W102 ne_o5_b3).other W113 ne_o5_c11)
        obtain ⟨L150', hs150, H⟩ := own_bnd H
        refine o_stI X145 hx hZ e145 U149 hs150 N113 g_o5 hby e11_223.2.2.2.2 fun T151 h151 ls151 X151 e151 W151 V_o5_151 N151 => ?_
        have Z151 := Nat.le_trans Z113 (Keep.of_wr W151).1
        have KP151 := KP113.wr W151 (Or.inl (List.mem_of_getElem? (i := 5) rfl))
        refine o_aloadN X151 hx hby e11_233.1 rfl ?_
        have U152 := (U144.other W151 (Or.inl (Ne.symm ne_o5_o0)))
        refine o_getF X151 hx hZ hown (host := "") (Or.inl (hW 61 rfl)) Via.refl e151 U152 hby e11_233.2.1 fun T153 X153 e153 => ?_
        refine o_iload X153 hx hby e11_233.2.2.1 rfl ?_
        refine o_iload X153 hx hby e11_233.2.2.2.1 rfl ?_
        refine o_iinc X153 hx hby e11_233.2.2.2.2 rfl (l' := #[wR o0, wR o1, wR o2, wR o3, wI 3, wR o5, wR c11, wR b3, wR b16, wR b30, wR b45, wI (sc + (1 : Int32)), wI (wn + (1 : Int32)), wI lf, wI fi, wI kp, wI i, wI v76, wI o78, wI sc]) rfl ?_
        have U154 := (U146.other W151 ne_su_o5)
        obtain ⟨L155', hs155, H⟩ := own_bnd H
        refine o_stI X153 hx hZ e153 U154 hs155 N151 g_su hby e11_244.1 fun T156 h156 ls156 X156 e156 W156 V_su_156 N156 => ?_
        have Z156 := Nat.le_trans Z151 (Keep.of_wr W156).1
        have KP156 := KP151.wr W156 (Or.inl (List.mem_of_getElem? (i := 3) rfl))
        refine o_aloadN X156 hx hby e11_244.2.1 rfl ?_
        have U157 := ((((((((Fa74_6.keep K86 (ninS (Ne.symm ne_ka_o0) (ninS (Ne.symm ne_ta_o0) nin0))).other W91 (Or.inl ne_o0_b30)).other W94 (Or.inl ne_o0_b45)).other W99 (Or.inl (Ne.symm ne_su_o0))).other W102 (Or.inl ne_o0_b3)).other W113 (Or.inl ne_o0_c11)).other W151 (Or.inl (Ne.symm ne_o5_o0))).other W156 (Or.inl (Ne.symm ne_su_o0)))
        refine o_getF X156 hx hZ hown (host := "") (Or.inl (hW 63 rfl)) Via.refl e156 U157 hby e11_244.2.2.1 fun T158 X158 e158 => ?_
        refine o_iload X158 hx hby e11_244.2.2.2.1 rfl ?_
        refine o_aloadN X158 hx hby e11_244.2.2.2.2 rfl ?_
        have U159 := (U152.other W156 (Or.inl (Ne.symm ne_su_o0)))
        refine o_getF X158 hx hZ hown (host := "") (Or.inl (hW 61 rfl)) Via.refl e158 U159 hby e11_252.1 fun T160 X160 e160 => ?_
        refine o_iload X160 hx hby e11_252.2.1 rfl ?_
        obtain ⟨v161, hv161, H⟩ := own_bnd H
        refine o_ldI X160 hx hZ e160 V_su_156 hv161 hby e11_252.2.2.1 ?_
        have U162 := ((((((((Fa74_10.keep K86 (ninS (Ne.symm ne_ka_wo) (ninS (Ne.symm ne_ta_wo) nin0))).other W91 ne_wo_b30).other W94 ne_wo_b45).other W99 (Ne.symm ne_su_wo)).other W102 ne_wo_b3).other W113 ne_wo_c11).other W151 ne_wo_o5).other W156 (Ne.symm ne_su_wo))
        obtain ⟨L163', hs163, H⟩ := own_bnd H
        refine o_stI X160 hx hZ e160 U162 hs163 N156 g_wo hby e11_252.2.2.2.1 fun T164 h164 ls164 X164 e164 W164 V_wo_164 N164 => ?_
        have Z164 := Nat.le_trans Z156 (Keep.of_wr W164).1
        have KP164 := KP156.wr W164 (Or.inl (List.mem_of_getElem? (i := 4) rfl))
        refine o_iinc X164 hx hby e11_252.2.2.2.2 rfl (l' := #[wR o0, wR o1, wR o2, wR o3, wI 3, wR o5, wR c11, wR b3, wR b16, wR b30, wR b45, wI (sc + (1 : Int32)), wI (wn + (1 : Int32)), wI lf, wI fi, wI kp, wI (i + (1 : Int32)), wI v76, wI o78, wI sc]) rfl ?_
        refine o_goto X164 hx (pc0 := 262) (pc' := 74) rfl hby e11_262.1 (by decide) (by decide) ?_
        have U165 := (((((((((Fa74_0.keep K86).wr W91).wr W94).wr W99).wr W102).wr W113).wr W151).wr W156).wr W164)
        have U166 := (((((((((Fa74_1.keep K86 (ninS (Ne.symm ne_ka_o0) (ninS (Ne.symm ne_ta_o0) nin0))).other W91 (Or.inl ne_o0_b30)).other W94 (Or.inl ne_o0_b45)).other W99 (Or.inl (Ne.symm ne_su_o0))).other W102 (Or.inl ne_o0_b3)).other W113 (Or.inl ne_o0_c11)).other W151 (Or.inl (Ne.symm ne_o5_o0))).other W156 (Or.inl (Ne.symm ne_su_o0))).other W164 (Or.inl (Ne.symm ne_wo_o0)))
        have U167 := (((((((((Fa74_2.keep K86 (ninS (Ne.symm ne_ka_o0) (ninS (Ne.symm ne_ta_o0) nin0))).other W91 (Or.inl ne_o0_b30)).other W94 (Or.inl ne_o0_b45)).other W99 (Or.inl (Ne.symm ne_su_o0))).other W102 (Or.inl ne_o0_b3)).other W113 (Or.inl ne_o0_c11)).other W151 (Or.inl (Ne.symm ne_o5_o0))).other W156 (Or.inl (Ne.symm ne_su_o0))).other W164 (Or.inl (Ne.symm ne_wo_o0)))
        have U168 := (((((((((Fa74_3.keep K86 (ninS (Ne.symm ne_ka_o0) (ninS (Ne.symm ne_ta_o0) nin0))).other W91 (Or.inl ne_o0_b30)).other W94 (Or.inl ne_o0_b45)).other W99 (Or.inl (Ne.symm ne_su_o0))).other W102 (Or.inl ne_o0_b3)).other W113 (Or.inl ne_o0_c11)).other W151 (Or.inl (Ne.symm ne_o5_o0))).other W156 (Or.inl (Ne.symm ne_su_o0))).other W164 (Or.inl (Ne.symm ne_wo_o0)))
        have U169 := (((((((((Fa74_4.keep K86 (ninS (Ne.symm ne_ka_o0) (ninS (Ne.symm ne_ta_o0) nin0))).other W91 (Or.inl ne_o0_b30)).other W94 (Or.inl ne_o0_b45)).other W99 (Or.inl (Ne.symm ne_su_o0))).other W102 (Or.inl ne_o0_b3)).other W113 (Or.inl ne_o0_c11)).other W151 (Or.inl (Ne.symm ne_o5_o0))).other W156 (Or.inl (Ne.symm ne_su_o0))).other W164 (Or.inl (Ne.symm ne_wo_o0)))
        have U170 := (U159.other W164 (Or.inl (Ne.symm ne_wo_o0)))
        have U171 := (U157.other W164 (Or.inl (Ne.symm ne_wo_o0)))
        have U172 := ((((((((P0_86.other W91 ne_ka_b30).other W94 ne_ka_b45).other W99 ne_ka_su).other W102 ne_ka_b3).other W113 ne_ka_c11).other W151 ne_ka_o5).other W156 ne_ka_su).other W164 ne_ka_wo)
        have U173 := ((((((((P1_86.other W91 ne_ta_b30).other W94 ne_ta_b45).other W99 ne_ta_su).other W102 ne_ta_b3).other W113 ne_ta_c11).other W151 ne_ta_o5).other W156 ne_ta_su).other W164 ne_ta_wo)
        have U174 := (((((((((Fa74_9.keep K86 (ninS (Ne.symm ne_ka_fa) (ninS (Ne.symm ne_ta_fa) nin0))).other W91 ne_fa_b30).other W94 ne_fa_b45).other W99 ne_fa_su).other W102 ne_fa_b3).other W113 ne_fa_c11).other W151 ne_fa_o5).other W156 ne_fa_su).other W164 ne_fa_wo)
        have U175 := (((U115.other W151 (Ne.symm ne_o5_o3)).other W156 (Ne.symm ne_su_o3)).other W164 (Ne.symm ne_wo_o3))
        have U176 := ((V_o5_151.other W156 (Ne.symm ne_su_o5)).other W164 (Ne.symm ne_wo_o5))
        have U177 := ((((U106.wr W113).wr W151).wr W156).wr W164)
        have U178 := ((((U107.other W113 (Or.inl ne_o1_c11)).other W151 (Or.inl (Ne.symm ne_o5_o1))).other W156 (Or.inl (Ne.symm ne_su_o1))).other W164 (Or.inl (Ne.symm ne_wo_o1)))
        have U179 := ((((U108.other W113 (Or.inl ne_o1_c11)).other W151 (Or.inl (Ne.symm ne_o5_o1))).other W156 (Or.inl (Ne.symm ne_su_o1))).other W164 (Or.inl (Ne.symm ne_wo_o1)))
        have U180 := ((((U109.other W113 ne_b_c11).other W151 (Ne.symm ne_o5_b)).other W156 (Ne.symm ne_su_b)).other W164 (Ne.symm ne_wo_b))
        have U181 := ((((U110.wr W113 g_c11).wr W151 g_o5).wr W156 g_su).wr W164 g_wo)
        have U182 := (((V_c11_113.other W151 (Ne.symm ne_o5_c11)).other W156 (Ne.symm ne_su_c11)).other W164 (Ne.symm ne_wo_c11))
        have U183 := ((((V_b3_102.other W113 (Ne.symm ne_c11_b3)).other W151 (Ne.symm ne_o5_b3)).other W156 (Ne.symm ne_su_b3)).other W164 (Ne.symm ne_wo_b3))
        have U184 := (((((((V_b30_91.other W94 ne_b30_b45).other W99 (Ne.symm ne_su_b30)).other W102 (Ne.symm ne_b3_b30)).other W113 (Ne.symm ne_c11_b30)).other W151 (Ne.symm ne_o5_b30)).other W156 (Ne.symm ne_su_b30)).other W164 (Ne.symm ne_wo_b30))
        have U185 := ((((((V_b45_94.other W99 (Ne.symm ne_su_b45)).other W102 (Ne.symm ne_b3_b45)).other W113 (Ne.symm ne_c11_b45)).other W151 (Ne.symm ne_o5_b45)).other W156 (Ne.symm ne_su_b45)).other W164 (Ne.symm ne_wo_b45))
        have U186 := (((((((((Fa74_22.keep K86 (ninS (Ne.symm ne_ka_b16) (ninS (Ne.symm ne_ta_b16) nin0))).other W91 ne_b16_b30).other W94 ne_b16_b45).other W99 (Ne.symm ne_su_b16)).other W102 (Ne.symm ne_b3_b16)).other W113 (Ne.symm ne_c11_b16)).other W151 (Ne.symm ne_o5_b16)).other W156 (Ne.symm ne_su_b16)).other W164 (Ne.symm ne_wo_b16))
        have U187 := (V_su_156.other W164 ne_su_wo)
        exact IH0.2.1 (sc + (1 : Int32)) (wn + (1 : Int32)) lf fi kp (i + (1 : Int32)) o85.1 o85.2 Fa L155' L163' L150' L112' L101' Un L90' L93' T164 h164 _ X164 e164 N164 Z164 KP164 ((hIV71 _ _ _ _ _ _ _ _ _ _ _ _).mpr ⟨U165, U166, U167, U168, U169, U170, U171, U172, U173, U174, V_wo_164, U175, U176, U177, U178, U179, U180, U181, U182, U183, U184, U185, U186, U187⟩) (wI v76) (wI o78) (wI sc) (Or.inr ⟨_, rfl⟩) (Or.inr ⟨_, rfl⟩) (Or.inr ⟨_, rfl⟩) H
       ·skip
        replace H := own_ifn c223_148 H
        refine o_icmpYes X145 hx (pc0 := 223) (pc' := 245) rfl hby e11_223.1 (own_ne (x := v147) (y := (-1)) (i := v147.toInt) (j := -1) rfl rfl c223_148).2 (by decide) (by decide) ?_
        refine o_aloadN X145 hx hby e11_244.2.1 rfl ?_
        have U188 := ((((((Fa74_6.keep K86 (ninS (Ne.symm ne_ka_o0) (ninS (Ne.symm ne_ta_o0) nin0))).other W91 (Or.inl ne_o0_b30)).other W94 (Or.inl ne_o0_b45)).other W99 (Or.inl (Ne.symm ne_su_o0))).other W102 (Or.inl ne_o0_b3)).other W113 (Or.inl ne_o0_c11))
        refine o_getF X145 hx hZ hown (host := "") (Or.inl (hW 63 rfl)) Via.refl e145 U188 hby e11_244.2.2.1 fun T189 X189 e189 => ?_
        refine o_iload X189 hx hby e11_244.2.2.2.1 rfl ?_
        refine o_aloadN X189 hx hby e11_244.2.2.2.2 rfl ?_
        refine o_getF X189 hx hZ hown (host := "") (Or.inl (hW 61 rfl)) Via.refl e189 U144 hby e11_252.1 fun T190 X190 e190 => ?_
        refine o_iload X190 hx hby e11_252.2.1 rfl ?_
        obtain ⟨v191, hv191, H⟩ := own_bnd H
        refine o_ldI X190 hx hZ e190 U146 hv191 hby e11_252.2.2.1 ?_
        have U192 := ((((((Fa74_10.keep K86 (ninS (Ne.symm ne_ka_wo) (ninS (Ne.symm ne_ta_wo) nin0))).other W91 ne_wo_b30).other W94 ne_wo_b45).other W99 (Ne.symm ne_su_wo)).other W102 ne_wo_b3).other W113 ne_wo_c11)
        obtain ⟨L193', hs193, H⟩ := own_bnd H
        refine o_stI X190 hx hZ e190 U192 hs193 N113 g_wo hby e11_252.2.2.2.1 fun T194 h194 ls194 X194 e194 W194 V_wo_194 N194 => ?_
        have Z194 := Nat.le_trans Z113 (Keep.of_wr W194).1
        have KP194 := KP113.wr W194 (Or.inl (List.mem_of_getElem? (i := 4) rfl))
        refine o_iinc X194 hx hby e11_252.2.2.2.2 rfl (l' := #[wR o0, wR o1, wR o2, wR o3, wI 3, wR o5, wR c11, wR b3, wR b16, wR b30, wR b45, wI (sc + (1 : Int32)), wI wn, wI lf, wI fi, wI kp, wI (i + (1 : Int32)), wI v76, wI o78, wI sc]) rfl ?_
        refine o_goto X194 hx (pc0 := 262) (pc' := 74) rfl hby e11_262.1 (by decide) (by decide) ?_
        have U195 := (((((((Fa74_0.keep K86).wr W91).wr W94).wr W99).wr W102).wr W113).wr W194)
        have U196 := (((((((Fa74_1.keep K86 (ninS (Ne.symm ne_ka_o0) (ninS (Ne.symm ne_ta_o0) nin0))).other W91 (Or.inl ne_o0_b30)).other W94 (Or.inl ne_o0_b45)).other W99 (Or.inl (Ne.symm ne_su_o0))).other W102 (Or.inl ne_o0_b3)).other W113 (Or.inl ne_o0_c11)).other W194 (Or.inl (Ne.symm ne_wo_o0)))
        have U197 := (((((((Fa74_2.keep K86 (ninS (Ne.symm ne_ka_o0) (ninS (Ne.symm ne_ta_o0) nin0))).other W91 (Or.inl ne_o0_b30)).other W94 (Or.inl ne_o0_b45)).other W99 (Or.inl (Ne.symm ne_su_o0))).other W102 (Or.inl ne_o0_b3)).other W113 (Or.inl ne_o0_c11)).other W194 (Or.inl (Ne.symm ne_wo_o0)))
        have U198 := (((((((Fa74_3.keep K86 (ninS (Ne.symm ne_ka_o0) (ninS (Ne.symm ne_ta_o0) nin0))).other W91 (Or.inl ne_o0_b30)).other W94 (Or.inl ne_o0_b45)).other W99 (Or.inl (Ne.symm ne_su_o0))).other W102 (Or.inl ne_o0_b3)).other W113 (Or.inl ne_o0_c11)).other W194 (Or.inl (Ne.symm ne_wo_o0)))
        have U199 := (((((((Fa74_4.keep K86 (ninS (Ne.symm ne_ka_o0) (ninS (Ne.symm ne_ta_o0) nin0))).other W91 (Or.inl ne_o0_b30)).other W94 (Or.inl ne_o0_b45)).other W99 (Or.inl (Ne.symm ne_su_o0))).other W102 (Or.inl ne_o0_b3)).other W113 (Or.inl ne_o0_c11)).other W194 (Or.inl (Ne.symm ne_wo_o0)))
        have U200 := (U144.other W194 (Or.inl (Ne.symm ne_wo_o0)))
        have U201 := (U188.other W194 (Or.inl (Ne.symm ne_wo_o0)))
        have U202 := ((((((P0_86.other W91 ne_ka_b30).other W94 ne_ka_b45).other W99 ne_ka_su).other W102 ne_ka_b3).other W113 ne_ka_c11).other W194 ne_ka_wo)
        have U203 := ((((((P1_86.other W91 ne_ta_b30).other W94 ne_ta_b45).other W99 ne_ta_su).other W102 ne_ta_b3).other W113 ne_ta_c11).other W194 ne_ta_wo)
        have U204 := (((((((Fa74_9.keep K86 (ninS (Ne.symm ne_ka_fa) (ninS (Ne.symm ne_ta_fa) nin0))).other W91 ne_fa_b30).other W94 ne_fa_b45).other W99 ne_fa_su).other W102 ne_fa_b3).other W113 ne_fa_c11).other W194 ne_fa_wo)
        have U205 := (U115.other W194 (Ne.symm ne_wo_o3))
        have U206 := (((((((Fa74_12.keep K86 (ninS (Ne.symm ne_ka_o5) (ninS (Ne.symm ne_ta_o5) nin0))).other W91 ne_o5_b30).other W94 ne_o5_b45).other W99 (Ne.symm ne_su_o5)).other W102 ne_o5_b3).other W113 ne_o5_c11).other W194 (Ne.symm ne_wo_o5))
        have U207 := ((U106.wr W113).wr W194)
        have U208 := ((U107.other W113 (Or.inl ne_o1_c11)).other W194 (Or.inl (Ne.symm ne_wo_o1)))
        have U209 := ((U108.other W113 (Or.inl ne_o1_c11)).other W194 (Or.inl (Ne.symm ne_wo_o1)))
        have U210 := ((U109.other W113 ne_b_c11).other W194 (Ne.symm ne_wo_b))
        have U211 := ((U110.wr W113 g_c11).wr W194 g_wo)
        have U212 := (V_c11_113.other W194 (Ne.symm ne_wo_c11))
        have U213 := ((V_b3_102.other W113 (Ne.symm ne_c11_b3)).other W194 (Ne.symm ne_wo_b3))
        have U214 := (((((V_b30_91.other W94 ne_b30_b45).other W99 (Ne.symm ne_su_b30)).other W102 (Ne.symm ne_b3_b30)).other W113 (Ne.symm ne_c11_b30)).other W194 (Ne.symm ne_wo_b30))
        have U215 := ((((V_b45_94.other W99 (Ne.symm ne_su_b45)).other W102 (Ne.symm ne_b3_b45)).other W113 (Ne.symm ne_c11_b45)).other W194 (Ne.symm ne_wo_b45))
        have U216 := (((((((Fa74_22.keep K86 (ninS (Ne.symm ne_ka_b16) (ninS (Ne.symm ne_ta_b16) nin0))).other W91 ne_b16_b30).other W94 ne_b16_b45).other W99 (Ne.symm ne_su_b16)).other W102 (Ne.symm ne_b3_b16)).other W113 (Ne.symm ne_c11_b16)).other W194 (Ne.symm ne_wo_b16))
        have U217 := (U146.other W194 ne_su_wo)
        exact IH0.2.1 (sc + (1 : Int32)) wn lf fi kp (i + (1 : Int32)) o85.1 o85.2 Fa L98' L193' Ws L112' L101' Un L90' L93' T194 h194 _ X194 e194 N194 Z194 KP194 ((hIV71 _ _ _ _ _ _ _ _ _ _ _ _).mpr ⟨U195, U196, U197, U198, U199, U200, U201, U202, U203, U204, V_wo_194, U205, U206, U207, U208, U209, U210, U211, U212, U213, U214, U215, U216, U217⟩) (wI v76) (wI o78) (wI sc) (Or.inr ⟨_, rfl⟩) (Or.inr ⟨_, rfl⟩) (Or.inr ⟨_, rfl⟩) H
     ·skip
      replace H := own_ifn c115_83 H
      refine o_icmpYes X82 hx (pc0 := 115) (pc' := 169) rfl hby e11_115.1 (own_ne (x := o81) (y := (-1)) (i := o81.toInt) (j := -1) rfl rfl c115_83).2 (by decide) (by decide) ?_
      refine o_aload X82 hx hby e11_169.1 rfl ?_
      refine o_iload X82 hx hby e11_169.2.1 rfl ?_
      refine o_iload X82 hx hby e11_169.2.2.1 rfl ?_
      obtain ⟨L218', hs218, H⟩ := own_bnd H
      refine o_stI X82 hx hZ e82 Fa74_19 hs218 N82 g_b3 hby e11_169.2.2.2.1 fun T219 h219 ls219 X219 e219 W219 V_b3_219 N219 => ?_
      have Z219 := Nat.le_trans Z74 (Keep.of_wr W219).1
      have KP219 := KP74.wr W219 (Or.inr sz_b3)
      refine o_aload X219 hx hby e11_169.2.2.2.2 rfl ?_
      refine o_iload X219 hx hby e11_178.1 rfl ?_
      refine o_aloadN X219 hx hby e11_178.2.1 rfl ?_
      refine o_aload X219 hx hby e11_178.2.2.1 rfl ?_
      refine o_iload X219 hx hby e11_178.2.2.2.1 rfl ?_
      have U220 := (Fa74_18.other W219 ne_c11_b3)
      obtain ⟨v221, hv221, H⟩ := own_bnd H
      refine o_ldI X219 hx hZ e219 U220 hv221 hby e11_178.2.2.2.2 ?_
      obtain ⟨o222, ho222, H⟩ := own_bnd H
      have U223 := (Fa74_13.wr W219)
      have U224 := (Fa74_14.other W219 (Or.inl ne_o1_b3))
      have U225 := (Fa74_15.other W219 (Or.inl ne_o1_b3))
      have U226 := (Fa74_16.other W219 ne_b_b3)
      have U227 := (Fa74_17.wr W219 g_b3)
      refine o_cS X219 hx hZ hown (y := wy17) (hW 99 rfl) (hW 100 rfl) (hW 101 rfl) (hW 102 rfl) (by decide) (backOf (W := 2) (rmOct l Z a0 hw [] o1 v221 b kb nb B sv o222 cz h219 n0 Z219 U223 U224 U225 U226 S_C hcz U227 S_SF hsv ho222) hZ (hW 102 rfl) (hW 101 rfl) (by decide) (by decide)) (by rw [hml]; rfl) (argsL := [(.ref o1), (.int v221)]) (rest := [(.int v76), (.ref c11)]) (lenOf own_pd9 rfl) rfl rfl (Nat.le_of_eq rfl) e219 (by decide) (by decide) hby e11_186.1 N219 fun T228 v228 Lc228 ls228 X228 hQ228 nq228 => ?_
      obtain ⟨rfl, N228q, e228⟩ := hQ228
      have N228 := nq228 N228q
      show own_End p e below s (T228.setTop (mkF m 189 _ [(.int o222), (.int v76), (.ref c11)])) _ _ _
      obtain ⟨L229', hs229, H⟩ := own_bnd H
      refine o_stI X228 hx hZ e228 U220 hs229 N228 g_c11 hby e11_186.2.1 fun T230 h230 ls230 X230 e230 W230 V_c11_230 N230 => ?_
      have Z230 := Nat.le_trans Z219 (Keep.of_wr W230).1
      have KP230 := KP219.wr W230 (Or.inr sz_c11)
      refine o_aload X230 hx hby e11_186.2.2.1 rfl ?_
      refine o_iload X230 hx hby e11_186.2.2.2.1 rfl ?_
      obtain ⟨v231, hv231, H⟩ := own_bnd H
      refine o_ldI X230 hx hZ e230 V_c11_230 hv231 hby e11_186.2.2.2.2 ?_
      refine o_aloadN X230 hx hby e11_195.1 rfl ?_
      refine o_iload X230 hx hby e11_195.2.1 rfl ?_
      have U232 := ((Fa74_11.other W219 ne_o3_b3).other W230 ne_o3_c11)
      obtain ⟨v233, hv233, H⟩ := own_bnd H
      refine o_ldI X230 hx hZ e230 U232 hv233 hby e11_195.2.2.1 ?_
      by_cases c199_234 : v231.toInt < v233.toInt
      ·skip
       replace H := own_ifp c199_234 H
       refine o_icmpNo X230 hx hby e11_195.2.2.2.1 (own_tlt (x := v231) (y := v233) (i := v231.toInt) (j := v233.toInt) rfl rfl c199_234).2.1 ?_
       refine o_aload X230 hx hby e11_195.2.2.2.2 rfl ?_
       refine o_iload X230 hx hby e11_204.1 rfl ?_
       refine o_iinc X230 hx hby e11_204.2.1 rfl (l' := #[wR o0, wR o1, wR o2, wR o3, wI 3, wR o5, wR c11, wR b3, wR b16, wR b30, wR b45, wI sc, wI wn, wI lf, wI fi, wI (kp + (1 : Int32)), wI i, wI v76, wI o78, wI o81]) rfl ?_
       refine o_iload X230 hx hby e11_204.2.2.1 rfl ?_
       have U235 := ((Fa74_22.other W219 (Ne.symm ne_b3_b16)).other W230 (Ne.symm ne_c11_b16))
       obtain ⟨L236', hs236, H⟩ := own_bnd H
       refine o_stI X230 hx hZ e230 U235 hs236 N230 g_b16 hby e11_204.2.2.2.1 fun T237 h237 ls237 X237 e237 W237 V_b16_237 N237 => ?_
       have Z237 := Nat.le_trans Z230 (Keep.of_wr W237).1
       have KP237 := KP230.wr W237 (Or.inr sz_b16)
       refine o_goto X237 hx (pc0 := 212) (pc' := 259) rfl hby e11_204.2.2.2.2 (by decide) (by decide) ?_
       refine o_iinc X237 hx hby e11_252.2.2.2.2 rfl (l' := #[wR o0, wR o1, wR o2, wR o3, wI 3, wR o5, wR c11, wR b3, wR b16, wR b30, wR b45, wI sc, wI wn, wI lf, wI fi, wI (kp + (1 : Int32)), wI (i + (1 : Int32)), wI v76, wI o78, wI o81]) rfl ?_
       refine o_goto X237 hx (pc0 := 262) (pc' := 74) rfl hby e11_262.1 (by decide) (by decide) ?_
       have U238 := (((Fa74_0.wr W219).wr W230).wr W237)
       have U239 := (((Fa74_1.other W219 (Or.inl ne_o0_b3)).other W230 (Or.inl ne_o0_c11)).other W237 (Or.inl ne_o0_b16))
       have U240 := (((Fa74_2.other W219 (Or.inl ne_o0_b3)).other W230 (Or.inl ne_o0_c11)).other W237 (Or.inl ne_o0_b16))
       have U241 := (((Fa74_3.other W219 (Or.inl ne_o0_b3)).other W230 (Or.inl ne_o0_c11)).other W237 (Or.inl ne_o0_b16))
       have U242 := (((Fa74_4.other W219 (Or.inl ne_o0_b3)).other W230 (Or.inl ne_o0_c11)).other W237 (Or.inl ne_o0_b16))
       have U243 := (((Fa74_5.other W219 (Or.inl ne_o0_b3)).other W230 (Or.inl ne_o0_c11)).other W237 (Or.inl ne_o0_b16))
       have U244 := (((Fa74_6.other W219 (Or.inl ne_o0_b3)).other W230 (Or.inl ne_o0_c11)).other W237 (Or.inl ne_o0_b16))
       have U245 := (((Fa74_7.other W219 ne_ka_b3).other W230 ne_ka_c11).other W237 ne_ka_b16)
       have U246 := (((Fa74_8.other W219 ne_ta_b3).other W230 ne_ta_c11).other W237 ne_ta_b16)
       have U247 := (((Fa74_9.other W219 ne_fa_b3).other W230 ne_fa_c11).other W237 ne_fa_b16)
       have U248 := (((Fa74_10.other W219 ne_wo_b3).other W230 ne_wo_c11).other W237 ne_wo_b16)
       have U249 := (U232.other W237 ne_o3_b16)
       have U250 := (((Fa74_12.other W219 ne_o5_b3).other W230 ne_o5_c11).other W237 ne_o5_b16)
       have U251 := ((U223.wr W230).wr W237)
       have U252 := ((U224.other W230 (Or.inl ne_o1_c11)).other W237 (Or.inl ne_o1_b16))
       have U253 := ((U225.other W230 (Or.inl ne_o1_c11)).other W237 (Or.inl ne_o1_b16))
       have U254 := ((U226.other W230 ne_b_c11).other W237 ne_b_b16)
       have U255 := ((U227.wr W230 g_c11).wr W237 g_b16)
       have U256 := (V_c11_230.other W237 ne_c11_b16)
       have U257 := ((V_b3_219.other W230 (Ne.symm ne_c11_b3)).other W237 ne_b3_b16)
       have U258 := (((Fa74_20.other W219 (Ne.symm ne_b3_b30)).other W230 (Ne.symm ne_c11_b30)).other W237 (Ne.symm ne_b16_b30))
       have U259 := (((Fa74_21.other W219 (Ne.symm ne_b3_b45)).other W230 (Ne.symm ne_c11_b45)).other W237 (Ne.symm ne_b16_b45))
       have U260 := (((Fa74_23.other W219 ne_su_b3).other W230 ne_su_c11).other W237 ne_su_b16)
       exact IH0.2.1 sc wn lf fi (kp + (1 : Int32)) (i + (1 : Int32)) K T Fa Su Wo Ws L229' L218' L236' Pa Sy T237 h237 _ X237 e237 N237 Z237 KP237 ((hIV71 _ _ _ _ _ _ _ _ _ _ _ _).mpr ⟨U238, U239, U240, U241, U242, U243, U244, U245, U246, U247, U248, U249, U250, U251, U252, U253, U254, U255, U256, U257, U258, U259, V_b16_237, U260⟩) (wI v76) (wI o78) (wI o81) (Or.inr ⟨_, rfl⟩) (Or.inr ⟨_, rfl⟩) (Or.inr ⟨_, rfl⟩) H
      ·skip
       replace H := own_ifn c199_234 H
       refine o_icmpYes X230 hx (pc0 := 199) (pc' := 215) rfl hby e11_195.2.2.2.1 (own_flt (x := v231) (y := v233) (i := v231.toInt) (j := v233.toInt) rfl rfl c199_234).2.1 (by decide) (by decide) ?_
       refine o_aloadN X230 hx hby e11_215.1 rfl ?_
       have U261 := ((Fa74_5.other W219 (Or.inl ne_o0_b3)).other W230 (Or.inl ne_o0_c11))
       refine o_getF X230 hx hZ hown (host := "") (Or.inl (hW 61 rfl)) Via.refl e230 U261 hby e11_215.2.1 fun T262 X262 e262 => ?_
       refine o_iload X262 hx hby e11_215.2.2.1 rfl ?_
       have U263 := ((Fa74_23.other W219 ne_su_b3).other W230 ne_su_c11)
       obtain ⟨v264, hv264, H⟩ := own_bnd H
       refine o_ldI X262 hx hZ e262 U263 hv264 hby e11_215.2.2.2.1 ?_
       refine o_iconst X262 hx hby e11_215.2.2.2.2 (x := (-1)) rfl ?_
       by_cases c223_265 : v264.toInt = -1
       ·skip
        replace H := own_ifp c223_265 H
        refine o_icmpNo X262 hx hby e11_223.1 (own_eq (x := v264) (y := (-1)) (i := v264.toInt) (j := -1) rfl rfl c223_265).2 ?_
        refine o_aload X262 hx hby e11_223.2.1 rfl ?_
        refine o_iload X262 hx hby e11_223.2.2.1 rfl ?_
        refine o_iload X262 hx hby e11_223.2.2.2.1 rfl ?_
        have U266 := ((Fa74_12.other W219 ne_o5_b3).other W230 ne_o5_c11)
        obtain ⟨L267', hs267, H⟩ := own_bnd H
        refine o_stI X262 hx hZ e262 U266 hs267 N230 g_o5 hby e11_223.2.2.2.2 fun T268 h268 ls268 X268 e268 W268 V_o5_268 N268 => ?_
        have Z268 := Nat.le_trans Z230 (Keep.of_wr W268).1
        have KP268 := KP230.wr W268 (Or.inl (List.mem_of_getElem? (i := 5) rfl))
        refine o_aloadN X268 hx hby e11_233.1 rfl ?_
        have U269 := (U261.other W268 (Or.inl (Ne.symm ne_o5_o0)))
        refine o_getF X268 hx hZ hown (host := "") (Or.inl (hW 61 rfl)) Via.refl e268 U269 hby e11_233.2.1 fun T270 X270 e270 => ?_
        refine o_iload X270 hx hby e11_233.2.2.1 rfl ?_
        refine o_iload X270 hx hby e11_233.2.2.2.1 rfl ?_
        refine o_iinc X270 hx hby e11_233.2.2.2.2 rfl (l' := #[wR o0, wR o1, wR o2, wR o3, wI 3, wR o5, wR c11, wR b3, wR b16, wR b30, wR b45, wI sc, wI (wn + (1 : Int32)), wI lf, wI fi, wI kp, wI i, wI v76, wI o78, wI o81]) rfl ?_
        have U271 := (U263.other W268 ne_su_o5)
        obtain ⟨L272', hs272, H⟩ := own_bnd H
        refine o_stI X270 hx hZ e270 U271 hs272 N268 g_su hby e11_244.1 fun T273 h273 ls273 X273 e273 W273 V_su_273 N273 => ?_
        have Z273 := Nat.le_trans Z268 (Keep.of_wr W273).1
        have KP273 := KP268.wr W273 (Or.inl (List.mem_of_getElem? (i := 3) rfl))
        refine o_aloadN X273 hx hby e11_244.2.1 rfl ?_
        have U274 := ((((Fa74_6.other W219 (Or.inl ne_o0_b3)).other W230 (Or.inl ne_o0_c11)).other W268 (Or.inl (Ne.symm ne_o5_o0))).other W273 (Or.inl (Ne.symm ne_su_o0)))
        refine o_getF X273 hx hZ hown (host := "") (Or.inl (hW 63 rfl)) Via.refl e273 U274 hby e11_244.2.2.1 fun T275 X275 e275 => ?_
        refine o_iload X275 hx hby e11_244.2.2.2.1 rfl ?_
        refine o_aloadN X275 hx hby e11_244.2.2.2.2 rfl ?_
        have U276 := (U269.other W273 (Or.inl (Ne.symm ne_su_o0)))
        refine o_getF X275 hx hZ hown (host := "") (Or.inl (hW 61 rfl)) Via.refl e275 U276 hby e11_252.1 fun T277 X277 e277 => ?_
        refine o_iload X277 hx hby e11_252.2.1 rfl ?_
        obtain ⟨v278, hv278, H⟩ := own_bnd H
        refine o_ldI X277 hx hZ e277 V_su_273 hv278 hby e11_252.2.2.1 ?_
        have U279 := ((((Fa74_10.other W219 ne_wo_b3).other W230 ne_wo_c11).other W268 ne_wo_o5).other W273 (Ne.symm ne_su_wo))
        obtain ⟨L280', hs280, H⟩ := own_bnd H
        refine o_stI X277 hx hZ e277 U279 hs280 N273 g_wo hby e11_252.2.2.2.1 fun T281 h281 ls281 X281 e281 W281 V_wo_281 N281 => ?_
        have Z281 := Nat.le_trans Z273 (Keep.of_wr W281).1
        have KP281 := KP273.wr W281 (Or.inl (List.mem_of_getElem? (i := 4) rfl))
        refine o_iinc X281 hx hby e11_252.2.2.2.2 rfl (l' := #[wR o0, wR o1, wR o2, wR o3, wI 3, wR o5, wR c11, wR b3, wR b16, wR b30, wR b45, wI sc, wI (wn + (1 : Int32)), wI lf, wI fi, wI kp, wI (i + (1 : Int32)), wI v76, wI o78, wI o81]) rfl ?_
        refine o_goto X281 hx (pc0 := 262) (pc' := 74) rfl hby e11_262.1 (by decide) (by decide) ?_
        have U282 := (((((Fa74_0.wr W219).wr W230).wr W268).wr W273).wr W281)
        have U283 := (((((Fa74_1.other W219 (Or.inl ne_o0_b3)).other W230 (Or.inl ne_o0_c11)).other W268 (Or.inl (Ne.symm ne_o5_o0))).other W273 (Or.inl (Ne.symm ne_su_o0))).other W281 (Or.inl (Ne.symm ne_wo_o0)))
        have U284 := (((((Fa74_2.other W219 (Or.inl ne_o0_b3)).other W230 (Or.inl ne_o0_c11)).other W268 (Or.inl (Ne.symm ne_o5_o0))).other W273 (Or.inl (Ne.symm ne_su_o0))).other W281 (Or.inl (Ne.symm ne_wo_o0)))
        have U285 := (((((Fa74_3.other W219 (Or.inl ne_o0_b3)).other W230 (Or.inl ne_o0_c11)).other W268 (Or.inl (Ne.symm ne_o5_o0))).other W273 (Or.inl (Ne.symm ne_su_o0))).other W281 (Or.inl (Ne.symm ne_wo_o0)))
        have U286 := (((((Fa74_4.other W219 (Or.inl ne_o0_b3)).other W230 (Or.inl ne_o0_c11)).other W268 (Or.inl (Ne.symm ne_o5_o0))).other W273 (Or.inl (Ne.symm ne_su_o0))).other W281 (Or.inl (Ne.symm ne_wo_o0)))
        have U287 := (U276.other W281 (Or.inl (Ne.symm ne_wo_o0)))
        have U288 := (U274.other W281 (Or.inl (Ne.symm ne_wo_o0)))
        have U289 := (((((Fa74_7.other W219 ne_ka_b3).other W230 ne_ka_c11).other W268 ne_ka_o5).other W273 ne_ka_su).other W281 ne_ka_wo)
        have U290 := (((((Fa74_8.other W219 ne_ta_b3).other W230 ne_ta_c11).other W268 ne_ta_o5).other W273 ne_ta_su).other W281 ne_ta_wo)
        have U291 := (((((Fa74_9.other W219 ne_fa_b3).other W230 ne_fa_c11).other W268 ne_fa_o5).other W273 ne_fa_su).other W281 ne_fa_wo)
        have U292 := (((U232.other W268 (Ne.symm ne_o5_o3)).other W273 (Ne.symm ne_su_o3)).other W281 (Ne.symm ne_wo_o3))
        have U293 := ((V_o5_268.other W273 (Ne.symm ne_su_o5)).other W281 (Ne.symm ne_wo_o5))
        have U294 := ((((U223.wr W230).wr W268).wr W273).wr W281)
        have U295 := ((((U224.other W230 (Or.inl ne_o1_c11)).other W268 (Or.inl (Ne.symm ne_o5_o1))).other W273 (Or.inl (Ne.symm ne_su_o1))).other W281 (Or.inl (Ne.symm ne_wo_o1)))
        have U296 := ((((U225.other W230 (Or.inl ne_o1_c11)).other W268 (Or.inl (Ne.symm ne_o5_o1))).other W273 (Or.inl (Ne.symm ne_su_o1))).other W281 (Or.inl (Ne.symm ne_wo_o1)))
        have U297 := ((((U226.other W230 ne_b_c11).other W268 (Ne.symm ne_o5_b)).other W273 (Ne.symm ne_su_b)).other W281 (Ne.symm ne_wo_b))
        have U298 := ((((U227.wr W230 g_c11).wr W268 g_o5).wr W273 g_su).wr W281 g_wo)
        have U299 := (((V_c11_230.other W268 (Ne.symm ne_o5_c11)).other W273 (Ne.symm ne_su_c11)).other W281 (Ne.symm ne_wo_c11))
        have U300 := ((((V_b3_219.other W230 (Ne.symm ne_c11_b3)).other W268 (Ne.symm ne_o5_b3)).other W273 (Ne.symm ne_su_b3)).other W281 (Ne.symm ne_wo_b3))
        have U301 := (((((Fa74_20.other W219 (Ne.symm ne_b3_b30)).other W230 (Ne.symm ne_c11_b30)).other W268 (Ne.symm ne_o5_b30)).other W273 (Ne.symm ne_su_b30)).other W281 (Ne.symm ne_wo_b30))
        have U302 := (((((Fa74_21.other W219 (Ne.symm ne_b3_b45)).other W230 (Ne.symm ne_c11_b45)).other W268 (Ne.symm ne_o5_b45)).other W273 (Ne.symm ne_su_b45)).other W281 (Ne.symm ne_wo_b45))
        have U303 := (((((Fa74_22.other W219 (Ne.symm ne_b3_b16)).other W230 (Ne.symm ne_c11_b16)).other W268 (Ne.symm ne_o5_b16)).other W273 (Ne.symm ne_su_b16)).other W281 (Ne.symm ne_wo_b16))
        have U304 := (V_su_273.other W281 ne_su_wo)
        exact IH0.2.1 sc (wn + (1 : Int32)) lf fi kp (i + (1 : Int32)) K T Fa L272' L280' L267' L229' L218' Un Pa Sy T281 h281 _ X281 e281 N281 Z281 KP281 ((hIV71 _ _ _ _ _ _ _ _ _ _ _ _).mpr ⟨U282, U283, U284, U285, U286, U287, U288, U289, U290, U291, V_wo_281, U292, U293, U294, U295, U296, U297, U298, U299, U300, U301, U302, U303, U304⟩) (wI v76) (wI o78) (wI o81) (Or.inr ⟨_, rfl⟩) (Or.inr ⟨_, rfl⟩) (Or.inr ⟨_, rfl⟩) H
       ·skip
        replace H := own_ifn c223_265 H
        refine o_icmpYes X262 hx (pc0 := 223) (pc' := 245) rfl hby e11_223.1 (own_ne (x := v264) (y := (-1)) (i := v264.toInt) (j := -1) rfl rfl c223_265).2 (by decide) (by decide) ?_
        refine o_aloadN X262 hx hby e11_244.2.1 rfl ?_
        have U305 := ((Fa74_6.other W219 (Or.inl ne_o0_b3)).other W230 (Or.inl ne_o0_c11))
        refine o_getF X262 hx hZ hown (host := "") (Or.inl (hW 63 rfl)) Via.refl e262 U305 hby e11_244.2.2.1 fun T306 X306 e306 => ?_
        refine o_iload X306 hx hby e11_244.2.2.2.1 rfl ?_
        refine o_aloadN X306 hx hby e11_244.2.2.2.2 rfl ?_
        refine o_getF X306 hx hZ hown (host := "") (Or.inl (hW 61 rfl)) Via.refl e306 U261 hby e11_252.1 fun T307 X307 e307 => ?_
        refine o_iload X307 hx hby e11_252.2.1 rfl ?_
        obtain ⟨v308, hv308, H⟩ := own_bnd H
        refine o_ldI X307 hx hZ e307 U263 hv308 hby e11_252.2.2.1 ?_
        have U309 := ((Fa74_10.other W219 ne_wo_b3).other W230 ne_wo_c11)
        obtain ⟨L310', hs310, H⟩ := own_bnd H
        refine o_stI X307 hx hZ e307 U309 hs310 N230 g_wo hby e11_252.2.2.2.1 fun T311 h311 ls311 X311 e311 W311 V_wo_311 N311 => ?_
        have Z311 := Nat.le_trans Z230 (Keep.of_wr W311).1
        have KP311 := KP230.wr W311 (Or.inl (List.mem_of_getElem? (i := 4) rfl))
        refine o_iinc X311 hx hby e11_252.2.2.2.2 rfl (l' := #[wR o0, wR o1, wR o2, wR o3, wI 3, wR o5, wR c11, wR b3, wR b16, wR b30, wR b45, wI sc, wI wn, wI lf, wI fi, wI kp, wI (i + (1 : Int32)), wI v76, wI o78, wI o81]) rfl ?_
        refine o_goto X311 hx (pc0 := 262) (pc' := 74) rfl hby e11_262.1 (by decide) (by decide) ?_
        have U312 := (((Fa74_0.wr W219).wr W230).wr W311)
        have U313 := (((Fa74_1.other W219 (Or.inl ne_o0_b3)).other W230 (Or.inl ne_o0_c11)).other W311 (Or.inl (Ne.symm ne_wo_o0)))
        have U314 := (((Fa74_2.other W219 (Or.inl ne_o0_b3)).other W230 (Or.inl ne_o0_c11)).other W311 (Or.inl (Ne.symm ne_wo_o0)))
        have U315 := (((Fa74_3.other W219 (Or.inl ne_o0_b3)).other W230 (Or.inl ne_o0_c11)).other W311 (Or.inl (Ne.symm ne_wo_o0)))
        have U316 := (((Fa74_4.other W219 (Or.inl ne_o0_b3)).other W230 (Or.inl ne_o0_c11)).other W311 (Or.inl (Ne.symm ne_wo_o0)))
        have U317 := (U261.other W311 (Or.inl (Ne.symm ne_wo_o0)))
        have U318 := (U305.other W311 (Or.inl (Ne.symm ne_wo_o0)))
        have U319 := (((Fa74_7.other W219 ne_ka_b3).other W230 ne_ka_c11).other W311 ne_ka_wo)
        have U320 := (((Fa74_8.other W219 ne_ta_b3).other W230 ne_ta_c11).other W311 ne_ta_wo)
        have U321 := (((Fa74_9.other W219 ne_fa_b3).other W230 ne_fa_c11).other W311 ne_fa_wo)
        have U322 := (U232.other W311 (Ne.symm ne_wo_o3))
        have U323 := (((Fa74_12.other W219 ne_o5_b3).other W230 ne_o5_c11).other W311 (Ne.symm ne_wo_o5))
        have U324 := ((U223.wr W230).wr W311)
        have U325 := ((U224.other W230 (Or.inl ne_o1_c11)).other W311 (Or.inl (Ne.symm ne_wo_o1)))
        have U326 := ((U225.other W230 (Or.inl ne_o1_c11)).other W311 (Or.inl (Ne.symm ne_wo_o1)))
        have U327 := ((U226.other W230 ne_b_c11).other W311 (Ne.symm ne_wo_b))
        have U328 := ((U227.wr W230 g_c11).wr W311 g_wo)
        have U329 := (V_c11_230.other W311 (Ne.symm ne_wo_c11))
        have U330 := ((V_b3_219.other W230 (Ne.symm ne_c11_b3)).other W311 (Ne.symm ne_wo_b3))
        have U331 := (((Fa74_20.other W219 (Ne.symm ne_b3_b30)).other W230 (Ne.symm ne_c11_b30)).other W311 (Ne.symm ne_wo_b30))
        have U332 := (((Fa74_21.other W219 (Ne.symm ne_b3_b45)).other W230 (Ne.symm ne_c11_b45)).other W311 (Ne.symm ne_wo_b45))
        have U333 := (((Fa74_22.other W219 (Ne.symm ne_b3_b16)).other W230 (Ne.symm ne_c11_b16)).other W311 (Ne.symm ne_wo_b16))
        have U334 := (U263.other W311 ne_su_wo)
        exact IH0.2.1 sc wn lf fi kp (i + (1 : Int32)) K T Fa Su L310' Ws L229' L218' Un Pa Sy T311 h311 _ X311 e311 N311 Z311 KP311 ((hIV71 _ _ _ _ _ _ _ _ _ _ _ _).mpr ⟨U312, U313, U314, U315, U316, U317, U318, U319, U320, U321, V_wo_311, U322, U323, U324, U325, U326, U327, U328, U329, U330, U331, U332, U333, U334⟩) (wI v76) (wI o78) (wI o81) (Or.inr ⟨_, rfl⟩) (Or.inr ⟨_, rfl⟩) (Or.inr ⟨_, rfl⟩) H
    ·skip
     replace H := own_ifn c78_75 H
     refine o_icmpYes X74 hx (pc0 := 78) (pc' := 265) rfl hby e11_78.1 (own_flt (x := i) (y := lf) (i := i.toInt) (j := lf.toInt) rfl rfl c78_75).2.1 (by decide) (by decide) ?_
     refine o_iload X74 hx hby e11_262.2.1 rfl ?_
     refine o_istore X74 hx hby e11_262.2.2.1 (l' := #[wR o0, wR o1, wR o2, wR o3, wI 3, wR o5, wR c11, wR b3, wR b16, wR b30, wR b45, wI sc, wI wn, wI kp, wI fi, wI kp, wI i, sl17, sl18, sl19]) rfl ?_
     refine o_iload X74 hx hby e11_262.2.2.2.1 rfl ?_
     refine o_istore X74 hx hby e11_262.2.2.2.2 (l' := #[wR o0, wR o1, wR o2, wR o3, wI 3, wR o5, wR c11, wR b3, wR b16, wR b30, wR b45, wI sc, wI wn, wI kp, wI fi, wI kp, wI fi, sl17, sl18, sl19]) rfl ?_
     exact IH0.2.2 sc wn kp fi 0 fi K T Fa Su Wo Ws Rd Re Un Pa Sy T74 h74 _ X74 e74 N74 Z74 KP74 ((hIV71 _ _ _ _ _ _ _ _ _ _ _ _).mpr ⟨Fa74_0, Fa74_1, Fa74_2, Fa74_3, Fa74_4, Fa74_5, Fa74_6, Fa74_7, Fa74_8, Fa74_9, Fa74_10, Fa74_11, Fa74_12, Fa74_13, Fa74_14, Fa74_15, Fa74_16, Fa74_17, Fa74_18, Fa74_19, Fa74_20, Fa74_21, Fa74_22, Fa74_23⟩) (wI kp) (sl17) (sl18) (sl19) (Or.inr ⟨_, rfl⟩) hsl17 hsl18 hsl19 H
   ·skip
    intro sc wn lf fi kp i K T Fa Su Wo Ws Rd Re Un Pa Sy T335 h335 ls335 X335 e335 N335 Z335 KP335 FF335 sl15 sl17 sl18 sl19 hsl15 hsl17 hsl18 hsl19 H
    obtain ⟨Fa335_0, Fa335_1, Fa335_2, Fa335_3, Fa335_4, Fa335_5, Fa335_6, Fa335_7, Fa335_8, Fa335_9, Fa335_10, Fa335_11, Fa335_12, Fa335_13, Fa335_14, Fa335_15, Fa335_16, Fa335_17, Fa335_18, Fa335_19, Fa335_20, Fa335_21, Fa335_22, Fa335_23⟩ := (hIV71 _ _ _ _ _ _ _ _ _ _ _ _).mp FF335
    replace H := (S_rmSeg_0_2 _ _ _ _ _ _ _ _ _ _ _ _ _ _ _ _ _ _ _ _ _ _ _).symm.trans H
    show own_End p e below s (T335.setTop (mkF m 273 _ [])) _ _ _
    refine o_iload X335 hx hby e11_273.1 rfl ?_
    refine o_iload X335 hx hby e11_273.2.1 rfl ?_
    by_cases c277_336 : i.toInt < sc.toInt
    ·skip
     replace H := own_ifp c277_336 H
     refine o_icmpNo X335 hx hby e11_273.2.2.1 (own_tlt (x := i) (y := sc) (i := i.toInt) (j := sc.toInt) rfl rfl c277_336).2.1 ?_
     refine o_aload X335 hx hby e11_273.2.2.2.1 rfl ?_
     refine o_iload X335 hx hby e11_273.2.2.2.2 rfl ?_
     refine o_iload X335 hx hby e11_284.1 rfl ?_
     refine o_isub X335 hx hby e11_284.2.1 ?_
     obtain ⟨v337, hv337, H⟩ := own_bnd H
     refine o_ldI X335 hx hZ e335 Fa335_20 hv337 hby e11_284.2.2.1 ?_
     refine o_istore X335 hx hby e11_284.2.2.2.1 (l' := #[wR o0, wR o1, wR o2, wR o3, wI 3, wR o5, wR c11, wR b3, wR b16, wR b30, wR b45, wI sc, wI wn, wI lf, wI fi, sl15, wI i, wI v337, sl18, sl19]) (by rcases hsl17 with rfl | ⟨_, rfl⟩ <;> rfl) ?_
     refine o_aloadN X335 hx hby e11_284.2.2.2.2 rfl ?_
     refine o_getF X335 hx hZ hown (host := "") (Or.inl (hW 59 rfl)) Via.refl e335 Fa335_4 hby e11_291.1 fun T338 X338 e338 => ?_
     refine o_iload X338 hx hby e11_291.2.1 rfl ?_
     refine o_iload X338 hx hby e11_291.2.2.1 rfl ?_
     by_cases c298_339 : v337.toInt = 0
     ·skip
      replace H := own_ifp c298_339 H
      refine o_ifNo X338 hx hby e11_291.2.2.2.1 ((if0 _ _).trans (own_eq (x := v337) (y := 0) (i := v337.toInt) (j := 0) rfl rfl c298_339).2) ?_
      refine o_iconst X338 hx hby e11_291.2.2.2.2 (x := 0) rfl ?_
      refine o_goto X338 hx (pc0 := 302) (pc' := 324) rfl hby e11_302.1 (by decide) (by decide) ?_
      obtain ⟨L340', hs340, H⟩ := own_bnd H
      refine o_stI X338 hx hZ e338 Fa335_9 hs340 N335 g_fa hby e11_320.2.2.1 fun T341 h341 ls341 X341 e341 W341 V_fa_341 N341 => ?_
      have Z341 := Nat.le_trans Z335 (Keep.of_wr W341).1
      have KP341 := KP335.wr W341 (Or.inl (List.mem_of_getElem? (i := 2) rfl))
      refine o_aloadN X341 hx hby e11_320.2.2.2.1 rfl ?_
      have U342 := (Fa335_5.other W341 (Or.inl (Ne.symm ne_fa_o0)))
      refine o_getF X341 hx hZ hown (host := "") (Or.inl (hW 61 rfl)) Via.refl e341 U342 hby e11_320.2.2.2.2 fun T343 X343 e343 => ?_
      refine o_iload X343 hx hby e11_329.1 rfl ?_
      have U344 := (Fa335_23.other W341 (Ne.symm ne_fa_su))
      obtain ⟨v345, hv345, H⟩ := own_bnd H
      refine o_ldI X343 hx hZ e343 U344 hv345 hby e11_329.2.1 ?_
      refine o_iconst X343 hx hby e11_329.2.2.1 (x := (-1)) rfl ?_
      by_cases c333_346 : v345.toInt = -1
      ·skip
       replace H := own_ifp c333_346 H
       refine o_icmpNo X343 hx hby e11_329.2.2.2.1 (own_eq (x := v345) (y := (-1)) (i := v345.toInt) (j := -1) rfl rfl c333_346).2 ?_
       refine o_aloadN X343 hx hby e11_329.2.2.2.2 rfl ?_
       refine o_getF X343 hx hZ hown (host := "") (Or.inl (hW 61 rfl)) Via.refl e343 U342 hby e11_337.1 fun T347 X347 e347 => ?_
       refine o_iload X347 hx hby e11_337.2.1 rfl ?_
       refine o_aloadN X347 hx hby e11_337.2.2.1 rfl ?_
       refine o_getF X347 hx hZ hown (host := "") (Or.inl (hW 61 rfl)) Via.refl e347 U342 hby e11_337.2.2.2.1 fun T348 X348 e348 => ?_
       refine o_aloadN X348 hx hby e11_337.2.2.2.2 rfl ?_
       have U349 := (Fa335_4.other W341 (Or.inl (Ne.symm ne_fa_o0)))
       refine o_getF X348 hx hZ hown (host := "") (Or.inl (hW 59 rfl)) Via.refl e348 U349 hby e11_347.1 fun T350 X350 e350 => ?_
       refine o_iload X350 hx hby e11_347.2.1 rfl ?_
       obtain ⟨v351, hv351, H⟩ := own_bnd H
       refine o_ldI X350 hx hZ e350 V_fa_341 hv351 hby e11_347.2.2.1 ?_
       obtain ⟨v352, hv352, H⟩ := own_bnd H
       refine o_ldI X350 hx hZ e350 U344 hv352 hby e11_347.2.2.2.1 ?_
       obtain ⟨L353', hs353, H⟩ := own_bnd H
       refine o_stI X350 hx hZ e350 U344 hs353 N341 g_su hby e11_347.2.2.2.2 fun T354 h354 ls354 X354 e354 W354 V_su_354 N354 => ?_
       have Z354 := Nat.le_trans Z341 (Keep.of_wr W354).1
       have KP354 := KP341.wr W354 (Or.inl (List.mem_of_getElem? (i := 3) rfl))
       refine o_iinc X354 hx hby e11_355.1 rfl (l' := #[wR o0, wR o1, wR o2, wR o3, wI 3, wR o5, wR c11, wR b3, wR b16, wR b30, wR b45, wI sc, wI wn, wI lf, wI fi, sl15, wI (i + (1 : Int32)), wI v337, sl18, sl19]) rfl ?_
       refine o_goto X354 hx (pc0 := 358) (pc' := 273) rfl hby e11_355.2.1 (by decide) (by decide) ?_
       have U355 := ((Fa335_0.wr W341).wr W354)
       have U356 := ((Fa335_1.other W341 (Or.inl (Ne.symm ne_fa_o0))).other W354 (Or.inl (Ne.symm ne_su_o0)))
       have U357 := ((Fa335_2.other W341 (Or.inl (Ne.symm ne_fa_o0))).other W354 (Or.inl (Ne.symm ne_su_o0)))
       have U358 := ((Fa335_3.other W341 (Or.inl (Ne.symm ne_fa_o0))).other W354 (Or.inl (Ne.symm ne_su_o0)))
       have U359 := (U349.other W354 (Or.inl (Ne.symm ne_su_o0)))
       have U360 := (U342.other W354 (Or.inl (Ne.symm ne_su_o0)))
       have U361 := ((Fa335_6.other W341 (Or.inl (Ne.symm ne_fa_o0))).other W354 (Or.inl (Ne.symm ne_su_o0)))
       have U362 := ((Fa335_7.other W341 ne_ka_fa).other W354 ne_ka_su)
       have U363 := ((Fa335_8.other W341 ne_ta_fa).other W354 ne_ta_su)
       have U364 := (V_fa_341.other W354 ne_fa_su)
       have U365 := ((Fa335_10.other W341 (Ne.symm ne_fa_wo)).other W354 (Ne.symm ne_su_wo))
       have U366 := ((Fa335_11.other W341 (Ne.symm ne_fa_o3)).other W354 (Ne.symm ne_su_o3))
       have U367 := ((Fa335_12.other W341 (Ne.symm ne_fa_o5)).other W354 (Ne.symm ne_su_o5))
       have U368 := ((Fa335_13.wr W341).wr W354)
       have U369 := ((Fa335_14.other W341 (Or.inl (Ne.symm ne_fa_o1))).other W354 (Or.inl (Ne.symm ne_su_o1)))
       have U370 := ((Fa335_15.other W341 (Or.inl (Ne.symm ne_fa_o1))).other W354 (Or.inl (Ne.symm ne_su_o1)))
       have U371 := ((Fa335_16.other W341 (Ne.symm ne_fa_b)).other W354 (Ne.symm ne_su_b))
       have U372 := ((Fa335_17.wr W341 g_fa).wr W354 g_su)
       have U373 := ((Fa335_18.other W341 (Ne.symm ne_fa_c11)).other W354 (Ne.symm ne_su_c11))
       have U374 := ((Fa335_19.other W341 (Ne.symm ne_fa_b3)).other W354 (Ne.symm ne_su_b3))
       have U375 := ((Fa335_20.other W341 (Ne.symm ne_fa_b30)).other W354 (Ne.symm ne_su_b30))
       have U376 := ((Fa335_21.other W341 (Ne.symm ne_fa_b45)).other W354 (Ne.symm ne_su_b45))
       have U377 := ((Fa335_22.other W341 (Ne.symm ne_fa_b16)).other W354 (Ne.symm ne_su_b16))
       exact IH0.2.2 sc wn lf fi 0 (i + (1 : Int32)) K T L340' L353' Wo Ws Rd Re Un Pa Sy T354 h354 _ X354 e354 N354 Z354 KP354 ((hIV71 _ _ _ _ _ _ _ _ _ _ _ _).mpr ⟨U355, U356, U357, U358, U359, U360, U361, U362, U363, U364, U365, U366, U367, U368, U369, U370, U371, U372, U373, U374, U375, U376, U377, V_su_354⟩) (sl15) (wI v337) (sl18) (sl19) hsl15 (Or.inr ⟨_, rfl⟩) hsl18 hsl19 H
      ·skip
       replace H := own_ifn c333_346 H
       refine o_icmpYes X343 hx (pc0 := 333) (pc' := 355) rfl hby e11_329.2.2.2.1 (own_ne (x := v345) (y := (-1)) (i := v345.toInt) (j := -1) rfl rfl c333_346).2 (by decide) (by decide) ?_
       refine o_iinc X343 hx hby e11_355.1 rfl (l' := #[wR o0, wR o1, wR o2, wR o3, wI 3, wR o5, wR c11, wR b3, wR b16, wR b30, wR b45, wI sc, wI wn, wI lf, wI fi, sl15, wI (i + (1 : Int32)), wI v337, sl18, sl19]) rfl ?_
       refine o_goto X343 hx (pc0 := 358) (pc' := 273) rfl hby e11_355.2.1 (by decide) (by decide) ?_
       have U378 := (Fa335_0.wr W341)
       have U379 := (Fa335_1.other W341 (Or.inl (Ne.symm ne_fa_o0)))
       have U380 := (Fa335_2.other W341 (Or.inl (Ne.symm ne_fa_o0)))
       have U381 := (Fa335_3.other W341 (Or.inl (Ne.symm ne_fa_o0)))
       have U382 := (Fa335_4.other W341 (Or.inl (Ne.symm ne_fa_o0)))
       have U383 := (Fa335_6.other W341 (Or.inl (Ne.symm ne_fa_o0)))
       have U384 := (Fa335_7.other W341 ne_ka_fa)
       have U385 := (Fa335_8.other W341 ne_ta_fa)
       have U386 := (Fa335_10.other W341 (Ne.symm ne_fa_wo))
       have U387 := (Fa335_11.other W341 (Ne.symm ne_fa_o3))
       have U388 := (Fa335_12.other W341 (Ne.symm ne_fa_o5))
       have U389 := (Fa335_13.wr W341)
       have U390 := (Fa335_14.other W341 (Or.inl (Ne.symm ne_fa_o1)))
       have U391 := (Fa335_15.other W341 (Or.inl (Ne.symm ne_fa_o1)))
       have U392 := (Fa335_16.other W341 (Ne.symm ne_fa_b))
       have U393 := (Fa335_17.wr W341 g_fa)
       have U394 := (Fa335_18.other W341 (Ne.symm ne_fa_c11))
       have U395 := (Fa335_19.other W341 (Ne.symm ne_fa_b3))
       have U396 := (Fa335_20.other W341 (Ne.symm ne_fa_b30))
       have U397 := (Fa335_21.other W341 (Ne.symm ne_fa_b45))
       have U398 := (Fa335_22.other W341 (Ne.symm ne_fa_b16))
       exact IH0.2.2 sc wn lf fi 0 (i + (1 : Int32)) K T L340' Su Wo Ws Rd Re Un Pa Sy T343 h341 _ X343 e343 N341 Z341 KP341 ((hIV71 _ _ _ _ _ _ _ _ _ _ _ _).mpr ⟨U378, U379, U380, U381, U382, U342, U383, U384, U385, V_fa_341, U386, U387, U388, U389, U390, U391, U392, U393, U394, U395, U396, U397, U398, U344⟩) (sl15) (wI v337) (sl18) (sl19) hsl15 (Or.inr ⟨_, rfl⟩) hsl18 hsl19 H
     ·skip
      replace H := own_ifn c298_339 H
      refine o_ifYes X338 hx (pc0 := 298) (pc' := 305) rfl hby e11_291.2.2.2.1 ((if0 _ _).trans (own_ne (x := v337) (y := 0) (i := v337.toInt) (j := 0) rfl rfl c298_339).2) (by decide) (by decide) ?_
      refine o_aloadN X338 hx hby e11_302.2.1 rfl ?_
      refine o_aloadN X338 hx hby e11_302.2.2.1 rfl ?_
      refine o_getF X338 hx hZ hown (host := "") (Or.inl (hW 59 rfl)) Via.refl e338 Fa335_4 hby e11_302.2.2.2.1 fun T399 X399 e399 => ?_
      refine o_iload X399 hx hby e11_302.2.2.2.2 rfl ?_
      obtain ⟨v400, hv400, H⟩ := own_bnd H
      refine o_ldI X399 hx hZ e399 Fa335_9 hv400 hby e11_312.1 ?_
      refine o_aload X399 hx hby e11_312.2.1 rfl ?_
      refine o_iload X399 hx hby e11_312.2.2.1 rfl ?_
      refine o_iload X399 hx hby e11_312.2.2.2.1 rfl ?_
      refine o_isub X399 hx hby e11_312.2.2.2.2 ?_
      obtain ⟨v401, hv401, H⟩ := own_bnd H
      refine o_ldI X399 hx hZ e399 Fa335_21 hv401 hby e11_320.1 ?_
      obtain ⟨o402, ho402, H⟩ := own_bnd H
      refine o_cP X399 hx hZ hown (y := wy33) (hW 180 rfl) (hW 36 rfl) (hW 181 rfl) (hW 182 rfl) (hW 183 rfl) (by decide) Fa335_0 (backOf (W := 2) (rmNxt l Z a0 hw [] o0 v400 v401 sh nk ka kk ta kt K T fa kf ms Fa o402 h335 n0 Z335 Fa335_0 Fa335_1 Fa335_2 Fa335_3 Fa335_7 Fa335_8 Fa335_4 Fa335_9 ho402) hZ (hW 183 rfl) (hW 37 rfl) (by decide) (by decide)) (by rw [hml]; rfl) (argsL := [(.int v400), (.int v401)]) (rest := [(.int i), (.ref fa)]) (lenOf own_pd1 rfl) rfl rfl (Nat.le_of_eq rfl) e399 (by decide) (by decide) hby e11_320.2.1 N335 fun T403 v403 Lc403 ls403 X403 hQ403 nq403 => ?_
      obtain ⟨rfl, N403q, e403⟩ := hQ403
      have N403 := nq403 N403q
      show own_End p e below s (T403.setTop (mkF m 324 _ [(.int o402), (.int i), (.ref fa)])) _ _ _
      obtain ⟨L404', hs404, H⟩ := own_bnd H
      refine o_stI X403 hx hZ e403 Fa335_9 hs404 N403 g_fa hby e11_320.2.2.1 fun T405 h405 ls405 X405 e405 W405 V_fa_405 N405 => ?_
      have Z405 := Nat.le_trans Z335 (Keep.of_wr W405).1
      have KP405 := KP335.wr W405 (Or.inl (List.mem_of_getElem? (i := 2) rfl))
      refine o_aloadN X405 hx hby e11_320.2.2.2.1 rfl ?_
      have U406 := (Fa335_5.other W405 (Or.inl (Ne.symm ne_fa_o0)))
      refine o_getF X405 hx hZ hown (host := "") (Or.inl (hW 61 rfl)) Via.refl e405 U406 hby e11_320.2.2.2.2 fun T407 X407 e407 => ?_
      refine o_iload X407 hx hby e11_329.1 rfl ?_
      have U408 := (Fa335_23.other W405 (Ne.symm ne_fa_su))
      obtain ⟨v409, hv409, H⟩ := own_bnd H
      refine o_ldI X407 hx hZ e407 U408 hv409 hby e11_329.2.1 ?_
      refine o_iconst X407 hx hby e11_329.2.2.1 (x := (-1)) rfl ?_
      by_cases c333_410 : v409.toInt = -1
      ·skip
       replace H := own_ifp c333_410 H
       refine o_icmpNo X407 hx hby e11_329.2.2.2.1 (own_eq (x := v409) (y := (-1)) (i := v409.toInt) (j := -1) rfl rfl c333_410).2 ?_
       refine o_aloadN X407 hx hby e11_329.2.2.2.2 rfl ?_
       refine o_getF X407 hx hZ hown (host := "") (Or.inl (hW 61 rfl)) Via.refl e407 U406 hby e11_337.1 fun T411 X411 e411 => ?_
       refine o_iload X411 hx hby e11_337.2.1 rfl ?_
       refine o_aloadN X411 hx hby e11_337.2.2.1 rfl ?_
       refine o_getF X411 hx hZ hown (host := "") (Or.inl (hW 61 rfl)) Via.refl e411 U406 hby e11_337.2.2.2.1 fun T412 X412 e412 => ?_
       refine o_aloadN X412 hx hby e11_337.2.2.2.2 rfl ?_
       have U413 := (Fa335_4.other W405 (Or.inl (Ne.symm ne_fa_o0)))
       refine o_getF X412 hx hZ hown (host := "") (Or.inl (hW 59 rfl)) Via.refl e412 U413 hby e11_347.1 fun T414 X414 e414 => ?_
       refine o_iload X414 hx hby e11_347.2.1 rfl ?_
       obtain ⟨v415, hv415, H⟩ := own_bnd H
       refine o_ldI X414 hx hZ e414 V_fa_405 hv415 hby e11_347.2.2.1 ?_
       obtain ⟨v416, hv416, H⟩ := own_bnd H
       refine o_ldI X414 hx hZ e414 U408 hv416 hby e11_347.2.2.2.1 ?_
       obtain ⟨L417', hs417, H⟩ := own_bnd H
       refine o_stI X414 hx hZ e414 U408 hs417 N405 g_su hby e11_347.2.2.2.2 fun T418 h418 ls418 X418 e418 W418 V_su_418 N418 => ?_
       have Z418 := Nat.le_trans Z405 (Keep.of_wr W418).1
       have KP418 := KP405.wr W418 (Or.inl (List.mem_of_getElem? (i := 3) rfl))
       refine o_iinc X418 hx hby e11_355.1 rfl (l' := #[wR o0, wR o1, wR o2, wR o3, wI 3, wR o5, wR c11, wR b3, wR b16, wR b30, wR b45, wI sc, wI wn, wI lf, wI fi, sl15, wI (i + (1 : Int32)), wI v337, sl18, sl19]) rfl ?_
       refine o_goto X418 hx (pc0 := 358) (pc' := 273) rfl hby e11_355.2.1 (by decide) (by decide) ?_
       have U419 := ((Fa335_0.wr W405).wr W418)
       have U420 := ((Fa335_1.other W405 (Or.inl (Ne.symm ne_fa_o0))).other W418 (Or.inl (Ne.symm ne_su_o0)))
       have U421 := ((Fa335_2.other W405 (Or.inl (Ne.symm ne_fa_o0))).other W418 (Or.inl (Ne.symm ne_su_o0)))
       have U422 := ((Fa335_3.other W405 (Or.inl (Ne.symm ne_fa_o0))).other W418 (Or.inl (Ne.symm ne_su_o0)))
       have U423 := (U413.other W418 (Or.inl (Ne.symm ne_su_o0)))
       have U424 := (U406.other W418 (Or.inl (Ne.symm ne_su_o0)))
       have U425 := ((Fa335_6.other W405 (Or.inl (Ne.symm ne_fa_o0))).other W418 (Or.inl (Ne.symm ne_su_o0)))
       have U426 := ((Fa335_7.other W405 ne_ka_fa).other W418 ne_ka_su)
       have U427 := ((Fa335_8.other W405 ne_ta_fa).other W418 ne_ta_su)
       have U428 := (V_fa_405.other W418 ne_fa_su)
       have U429 := ((Fa335_10.other W405 (Ne.symm ne_fa_wo)).other W418 (Ne.symm ne_su_wo))
       have U430 := ((Fa335_11.other W405 (Ne.symm ne_fa_o3)).other W418 (Ne.symm ne_su_o3))
       have U431 := ((Fa335_12.other W405 (Ne.symm ne_fa_o5)).other W418 (Ne.symm ne_su_o5))
       have U432 := ((Fa335_13.wr W405).wr W418)
       have U433 := ((Fa335_14.other W405 (Or.inl (Ne.symm ne_fa_o1))).other W418 (Or.inl (Ne.symm ne_su_o1)))
       have U434 := ((Fa335_15.other W405 (Or.inl (Ne.symm ne_fa_o1))).other W418 (Or.inl (Ne.symm ne_su_o1)))
       have U435 := ((Fa335_16.other W405 (Ne.symm ne_fa_b)).other W418 (Ne.symm ne_su_b))
       have U436 := ((Fa335_17.wr W405 g_fa).wr W418 g_su)
       have U437 := ((Fa335_18.other W405 (Ne.symm ne_fa_c11)).other W418 (Ne.symm ne_su_c11))
       have U438 := ((Fa335_19.other W405 (Ne.symm ne_fa_b3)).other W418 (Ne.symm ne_su_b3))
       have U439 := ((Fa335_20.other W405 (Ne.symm ne_fa_b30)).other W418 (Ne.symm ne_su_b30))
       have U440 := ((Fa335_21.other W405 (Ne.symm ne_fa_b45)).other W418 (Ne.symm ne_su_b45))
       have U441 := ((Fa335_22.other W405 (Ne.symm ne_fa_b16)).other W418 (Ne.symm ne_su_b16))
       exact IH0.2.2 sc wn lf fi 0 (i + (1 : Int32)) K T L404' L417' Wo Ws Rd Re Un Pa Sy T418 h418 _ X418 e418 N418 Z418 KP418 ((hIV71 _ _ _ _ _ _ _ _ _ _ _ _).mpr ⟨U419, U420, U421, U422, U423, U424, U425, U426, U427, U428, U429, U430, U431, U432, U433, U434, U435, U436, U437, U438, U439, U440, U441, V_su_418⟩) (sl15) (wI v337) (sl18) (sl19) hsl15 (Or.inr ⟨_, rfl⟩) hsl18 hsl19 H
      ·skip
       replace H := own_ifn c333_410 H
       refine o_icmpYes X407 hx (pc0 := 333) (pc' := 355) rfl hby e11_329.2.2.2.1 (own_ne (x := v409) (y := (-1)) (i := v409.toInt) (j := -1) rfl rfl c333_410).2 (by decide) (by decide) ?_
       refine o_iinc X407 hx hby e11_355.1 rfl (l' := #[wR o0, wR o1, wR o2, wR o3, wI 3, wR o5, wR c11, wR b3, wR b16, wR b30, wR b45, wI sc, wI wn, wI lf, wI fi, sl15, wI (i + (1 : Int32)), wI v337, sl18, sl19]) rfl ?_
       refine o_goto X407 hx (pc0 := 358) (pc' := 273) rfl hby e11_355.2.1 (by decide) (by decide) ?_
       have U442 := (Fa335_0.wr W405)
       have U443 := (Fa335_1.other W405 (Or.inl (Ne.symm ne_fa_o0)))
       have U444 := (Fa335_2.other W405 (Or.inl (Ne.symm ne_fa_o0)))
       have U445 := (Fa335_3.other W405 (Or.inl (Ne.symm ne_fa_o0)))
       have U446 := (Fa335_4.other W405 (Or.inl (Ne.symm ne_fa_o0)))
       have U447 := (Fa335_6.other W405 (Or.inl (Ne.symm ne_fa_o0)))
       have U448 := (Fa335_7.other W405 ne_ka_fa)
       have U449 := (Fa335_8.other W405 ne_ta_fa)
       have U450 := (Fa335_10.other W405 (Ne.symm ne_fa_wo))
       have U451 := (Fa335_11.other W405 (Ne.symm ne_fa_o3))
       have U452 := (Fa335_12.other W405 (Ne.symm ne_fa_o5))
       have U453 := (Fa335_13.wr W405)
       have U454 := (Fa335_14.other W405 (Or.inl (Ne.symm ne_fa_o1)))
       have U455 := (Fa335_15.other W405 (Or.inl (Ne.symm ne_fa_o1)))
       have U456 := (Fa335_16.other W405 (Ne.symm ne_fa_b))
       have U457 := (Fa335_17.wr W405 g_fa)
       have U458 := (Fa335_18.other W405 (Ne.symm ne_fa_c11))
       have U459 := (Fa335_19.other W405 (Ne.symm ne_fa_b3))
       have U460 := (Fa335_20.other W405 (Ne.symm ne_fa_b30))
       have U461 := (Fa335_21.other W405 (Ne.symm ne_fa_b45))
       have U462 := (Fa335_22.other W405 (Ne.symm ne_fa_b16))
       exact IH0.2.2 sc wn lf fi 0 (i + (1 : Int32)) K T L404' Su Wo Ws Rd Re Un Pa Sy T407 h405 _ X407 e407 N405 Z405 KP405 ((hIV71 _ _ _ _ _ _ _ _ _ _ _ _).mpr ⟨U442, U443, U444, U445, U446, U406, U447, U448, U449, V_fa_405, U450, U451, U452, U453, U454, U455, U456, U457, U458, U459, U460, U461, U462, U408⟩) (sl15) (wI v337) (sl18) (sl19) hsl15 (Or.inr ⟨_, rfl⟩) hsl18 hsl19 H
    ·skip
     replace H := own_ifn c277_336 H
     refine o_icmpYes X335 hx (pc0 := 277) (pc' := 361) rfl hby e11_273.2.2.1 (own_flt (x := i) (y := sc) (i := i.toInt) (j := sc.toInt) rfl rfl c277_336).2.1 (by decide) (by decide) ?_
     refine o_goto X335 hx (pc0 := 361) (pc' := 59) rfl hby e11_355.2.2.1 (by decide) (by decide) ?_
     exact IH0.1 sc wn lf 0 0 0 K T Fa Su Wo Ws Rd Re Un Pa Sy T335 h335 _ X335 e335 N335 Z335 KP335 ((hIV71 _ _ _ _ _ _ _ _ _ _ _ _).mpr ⟨Fa335_0, Fa335_1, Fa335_2, Fa335_3, Fa335_4, Fa335_5, Fa335_6, Fa335_7, Fa335_8, Fa335_9, Fa335_10, Fa335_11, Fa335_12, Fa335_13, Fa335_14, Fa335_15, Fa335_16, Fa335_17, Fa335_18, Fa335_19, Fa335_20, Fa335_21, Fa335_22, Fa335_23⟩) (wI fi) (sl15) (wI i) (sl17) (sl18) (sl19) (Or.inr ⟨_, rfl⟩) hsl15 (Or.inr ⟨_, rfl⟩) hsl17 hsl18 hsl19 H
 have U463 := (((U46.ext E45).keep K64).wr W70)
 have U464 := (((((((F_o0_slotShift.keep K1 nin0).ext E3).ext E16).ext E30).ext E45).keep K64 (ninS ne_o0_b16 nin0)).other W70 (Or.inl (Ne.symm ne_su_o0)))
 have U465 := (((((((F_o0_edgeKeys.keep K1 nin0).ext E3).ext E16).ext E30).ext E45).keep K64 (ninS ne_o0_b16 nin0)).other W70 (Or.inl (Ne.symm ne_su_o0)))
 have U466 := (((((((F_o0_edgeTargets.keep K1 nin0).ext E3).ext E16).ext E30).ext E45).keep K64 (ninS ne_o0_b16 nin0)).other W70 (Or.inl (Ne.symm ne_su_o0)))
 have U467 := (((((((F_o0_failures.keep K1 nin0).ext E3).ext E16).ext E30).ext E45).keep K64 (ninS ne_o0_b16 nin0)).other W70 (Or.inl (Ne.symm ne_su_o0)))
 have U468 := (U66.other W70 (Or.inl (Ne.symm ne_su_o0)))
 have U469 := (((((((F_o0_words.keep K1 nin0).ext E3).ext E16).ext E30).ext E45).keep K64 (ninS ne_o0_b16 nin0)).other W70 (Or.inl (Ne.symm ne_su_o0)))
 have U470 := (((U47.ext E45).keep K64 (ninS ne_ka_b16 nin0)).other W70 ne_ka_su)
 have U471 := (((U48.ext E45).keep K64 (ninS ne_ta_b16 nin0)).other W70 ne_ta_su)
 have U472 := (((U49.ext E45).keep K64 (ninS ne_fa_b16 nin0)).other W70 ne_fa_su)
 have U473 := (((U51.ext E45).keep K64 (ninS ne_wo_b16 nin0)).other W70 (Ne.symm ne_su_wo))
 have U474 := (((U53.ext E45).keep K64 (ninS ne_o3_b16 nin0)).other W70 (Ne.symm ne_su_o3))
 have U475 := (((U54.ext E45).keep K64 (ninS ne_o5_b16 nin0)).other W70 (Ne.symm ne_su_o5))
 have U476 := (((U55.ext E45).keep K64).wr W70)
 have U477 := (((((((F_o1_value.keep K1 nin0).ext E3).ext E16).ext E30).ext E45).keep K64 (ninS ne_o1_b16 nin0)).other W70 (Or.inl (Ne.symm ne_su_o1)))
 have U478 := (((((((F_o1_coder.keep K1 nin0).ext E3).ext E16).ext E30).ext E45).keep K64 (ninS ne_o1_b16 nin0)).other W70 (Or.inl (Ne.symm ne_su_o1)))
 have U479 := (((U56.ext E45).keep K64 (ninS ne_b_b16 nin0)).other W70 (Ne.symm ne_su_b))
 have U480 := ((U60.keep K64 (allS g_b16 all0)).wr W70 g_su)
 have U481 := (((U57.ext E45).keep K64 (ninS ne_c11_b16 nin0)).other W70 (Ne.symm ne_su_c11))
 have U482 := (((U58.ext E45).keep K64 (ninS ne_b3_b16 nin0)).other W70 (Ne.symm ne_su_b3))
 have U483 := (((V_b30.ext E45).keep K64 (ninS (Ne.symm ne_b16_b30) nin0)).other W70 (Ne.symm ne_su_b30))
 have U484 := ((V_b45.keep K64 (ninS (Ne.symm ne_b16_b45) nin0)).other W70 (Ne.symm ne_su_b45))
 have U485 := (Vp65.other W70 (Ne.symm ne_su_b16))
 exact (J0 45).1 (1 : Int32) (0 : Int32) (3 : Int32) 0 0 0 K T Fa L69' Wo Ws St (List.replicate ((3 : Int32)).toNatClampNeg 0) ([0, 1, 2]) (List.replicate ((3 : Int32)).toNatClampNeg 0) (List.replicate ((3 : Int32)).toNatClampNeg 0) T70 h70 _ X70 e70 N70 Z70 KP70 ((hIV71 _ _ _ _ _ _ _ _ _ _ _ _).mpr ⟨U463, U464, U465, U466, U467, U468, U469, U470, U471, U472, U473, U474, U475, U476, U477, U478, U479, U480, U481, U482, U483, U484, U485, V_su_70⟩) (wU) (wU) (wU) (wU) (wU) (wU) (Or.inl rfl) (Or.inl rfl) (Or.inl rfl) (Or.inl rfl) (Or.inl rfl) (Or.inl rfl) H
theorem own_ef8_rmInit (m : MethodId) (o0 : Addr) (o1 : Addr) (o2 : Addr) (o3 : Addr) : entryFrame m #[(.ref o0), (.ref o1), (.ref o2), (.ref o3), (.int 3)] 9 = mkF m 0 #[.val (.ref o0), .val (.ref o1), .val (.ref o2), .val (.ref o3), .val (.int 3), .unset, .unset, .unset, .unset] [] := by first | (simp [entryFrame, mkF, argsToLocals, Value.category]; done) | rfl
def Q_rmInit (Z : State) (o0 : Addr) (o1 : Addr) (o2 : Addr) (o3 : Addr) (kst : ClassId) (St : List Int32) (ken : ClassId) (En : List Int32) (b : Addr) (kb : ClassId) (nb : Int32) (B : List (Option Int32)) (sv : Value) (out : Int32 × Int32 × Int32 × Int32 × Int32 × Int32 × List Int64 × List Int32 × List Int32 × List Int32 × List Int32 × List Int32 × List Int32 × List Int32 × List Int32) (cz : Int32) (h0 : Heap) (n0 : Nat) (v : Option Value) (h : Heap) (L : List Loc) : Prop := (∃ (ka : Addr) (kk : ClassId) (ta : Addr) (kt : ClassId) (fa : Addr) (kf : ClassId) (su : Addr) (ks : ClassId) (wo : Addr) (kw : ClassId) (pa : Addr) (kp : ClassId) (la : Addr) (kl : ClassId) (wa : Addr) (kx : ClassId) (ma : Addr) (km : ClassId), v = none ∧ h0.size ≤ ka ∧ h0.size ≤ ta ∧ h0.size ≤ fa ∧ h0.size ≤ su ∧ h0.size ≤ wo ∧ h0.size ≤ pa ∧ h0.size ≤ la ∧ h0.size ≤ wa ∧ h0.size ≤ ma ∧ Exa Z h o0 "com/example/portero/portero/matching/SegmentAutomaton" ∧ Fld Z h o0 "com/example/portero/portero/matching/SegmentAutomaton" "slotShift" "I" (.int out.1) ∧ Fld Z h o0 "com/example/portero/portero/matching/SegmentAutomaton" "firstLeaf" "I" (.int out.2.2.2.2.1) ∧ Fld Z h o0 "com/example/portero/portero/matching/SegmentAutomaton" "edgeKeys" "[J" (.ref ka) ∧ Fld Z h o0 "com/example/portero/portero/matching/SegmentAutomaton" "edgeTargets" "[I" (.ref ta) ∧ Fld Z h o0 "com/example/portero/portero/matching/SegmentAutomaton" "failures" "[I" (.ref fa) ∧ Fld Z h o0 "com/example/portero/portero/matching/SegmentAutomaton" "suffixes" "[I" (.ref su) ∧ Fld Z h o0 "com/example/portero/portero/matching/SegmentAutomaton" "words" "[I" (.ref wo) ∧ Fld Z h o0 "com/example/portero/portero/matching/SegmentAutomaton" "places" "[I" (.ref pa) ∧ Fld Z h o0 "com/example/portero/portero/matching/SegmentAutomaton" "lastPlaces" "[I" (.ref la) ∧ Fld Z h o0 "com/example/portero/portero/matching/SegmentAutomaton" "wordsAt" "[I" (.ref wa) ∧ Fld Z h o0 "com/example/portero/portero/matching/SegmentAutomaton" "marks" "[I" (.ref ma) ∧ own_AJ Z h ka kk out.2.1 (out.2.2.2.2.2.2.1) ∧ own_AI Z h ta kt out.2.1 (out.2.2.2.2.2.2.2.1) ∧ own_AI Z h fa kf out.2.2.1 (out.2.2.2.2.2.2.2.2.1) ∧ own_AI Z h su ks out.2.2.1 (out.2.2.2.2.2.2.2.2.2.1) ∧ own_AI Z h wo kw (3 : Int32) (out.2.2.2.2.2.2.2.2.2.2.1) ∧ own_AI Z h pa kp out.2.2.2.1 (out.2.2.2.2.2.2.2.2.2.2.2.1) ∧ own_AI Z h la kl out.2.2.2.1 (out.2.2.2.2.2.2.2.2.2.2.2.2.1) ∧ own_AI Z h wa kx out.2.2.2.1 (out.2.2.2.2.2.2.2.2.2.2.2.2.2.1) ∧ own_AI Z h ma km out.2.2.2.2.2.1 (out.2.2.2.2.2.2.2.2.2.2.2.2.2.2) ∧ (ma ≠ ka) ∧ (ma ≠ ta) ∧ (ma ≠ fa) ∧ (ma ≠ su) ∧ (ma ≠ wo) ∧ (ma ≠ pa) ∧ (ma ≠ la) ∧ (ma ≠ wa)) ∧ Fr n0 L ∧ Keep h0 h [o0]
abbrev wc8 : ByteArray := prog_23_method_1_code
theorem e8_0 : decode wc8 0 = .ok (.aload_n 0, 1) ∧ decode wc8 1 = .ok (.invokespecial 3, 3) ∧ decode wc8 4 = .ok (.iconst 1, 1) ∧ decode wc8 5 = .ok (.istore 5, 2) ∧ decode wc8 7 = .ok (.iconst 0, 1) := by decide +kernel
theorem e8_8 : decode wc8 8 = .ok (.istore 6, 2) ∧ decode wc8 10 = .ok (.iload 6, 2) ∧ decode wc8 12 = .ok (.iload 4, 2) ∧ decode wc8 14 = .ok (.if_icmp .ge 23, 3) ∧ decode wc8 17 = .ok (.iload 5, 2) := by decide +kernel
theorem e8_19 : decode wc8 19 = .ok (.aload_n 3, 1) ∧ decode wc8 20 = .ok (.iload 6, 2) ∧ decode wc8 22 = .ok (.iaload, 1) ∧ decode wc8 23 = .ok (.aload_n 2, 1) ∧ decode wc8 24 = .ok (.iload 6, 2) := by decide +kernel
theorem e8_26 : decode wc8 26 = .ok (.iaload, 1) ∧ decode wc8 27 = .ok (.isub, 1) ∧ decode wc8 28 = .ok (.iadd, 1) ∧ decode wc8 29 = .ok (.istore 5, 2) ∧ decode wc8 31 = .ok (.iinc 6 1, 3) := by decide +kernel
theorem e8_34 : decode wc8 34 = .ok (.goto (-24), 3) ∧ decode wc8 37 = .ok (.bipush 32, 2) ∧ decode wc8 39 = .ok (.iconst 2, 1) ∧ decode wc8 40 = .ok (.iload 5, 2) ∧ decode wc8 42 = .ok (.imul, 1) := by decide +kernel
theorem e8_43 : decode wc8 43 = .ok (.iconst 1, 1) ∧ decode wc8 44 = .ok (.isub, 1) ∧ decode wc8 45 = .ok (.invokestatic 9, 3) ∧ decode wc8 48 = .ok (.isub, 1) ∧ decode wc8 49 = .ok (.istore 6, 2) := by decide +kernel
theorem e8_51 : decode wc8 51 = .ok (.aload_n 0, 1) ∧ decode wc8 52 = .ok (.iconst 1, 1) ∧ decode wc8 53 = .ok (.iload 6, 2) ∧ decode wc8 55 = .ok (.ishl, 1) ∧ decode wc8 56 = .ok (.newarray .long, 2) := by decide +kernel
theorem e8_58 : decode wc8 58 = .ok (.putfield 15, 3) ∧ decode wc8 61 = .ok (.aload_n 0, 1) ∧ decode wc8 62 = .ok (.getfield 15, 3) ∧ decode wc8 65 = .ok (.ldc2_w 21, 3) ∧ decode wc8 68 = .ok (.invokestatic 23, 3) := by decide +kernel
theorem own_pd15 : parseMethodDescriptor "([JJ)V" = some ⟨[(.array .long), .long], none⟩ := by decide +kernel
abbrev wy10 : MethodName := (⟨"java/util/Arrays", "fill", "([JJ)V"⟩ : MethodName)
theorem e8_71 : decode wc8 71 = .ok (.aload_n 0, 1) ∧ decode wc8 72 = .ok (.iconst 1, 1) ∧ decode wc8 73 = .ok (.iload 6, 2) ∧ decode wc8 75 = .ok (.ishl, 1) ∧ decode wc8 76 = .ok (.newarray .int, 2) := by decide +kernel
theorem e8_78 : decode wc8 78 = .ok (.putfield 29, 3) ∧ decode wc8 81 = .ok (.aload_n 0, 1) ∧ decode wc8 82 = .ok (.bipush 64, 2) ∧ decode wc8 84 = .ok (.iload 6, 2) ∧ decode wc8 86 = .ok (.isub, 1) := by decide +kernel
theorem e8_87 : decode wc8 87 = .ok (.putfield 35, 3) ∧ decode wc8 90 = .ok (.aload_n 0, 1) ∧ decode wc8 91 = .ok (.iload 5, 2) ∧ decode wc8 93 = .ok (.newarray .int, 2) ∧ decode wc8 95 = .ok (.putfield 39, 3) := by decide +kernel
theorem e8_98 : decode wc8 98 = .ok (.aload_n 0, 1) ∧ decode wc8 99 = .ok (.iload 5, 2) ∧ decode wc8 101 = .ok (.newarray .int, 2) ∧ decode wc8 103 = .ok (.putfield 42, 3) ∧ decode wc8 106 = .ok (.aload_n 0, 1) := by decide +kernel
theorem e8_107 : decode wc8 107 = .ok (.iload 4, 2) ∧ decode wc8 109 = .ok (.newarray .int, 2) ∧ decode wc8 111 = .ok (.putfield 45, 3) ∧ decode wc8 114 = .ok (.iload 4, 2) ∧ decode wc8 116 = .ok (.newarray .int, 2) := by decide +kernel
theorem e8_118 : decode wc8 118 = .ok (.astore 7, 2) ∧ decode wc8 120 = .ok (.aload_n 0, 1) ∧ decode wc8 121 = .ok (.aload_n 1, 1) ∧ decode wc8 122 = .ok (.aload_n 2, 1) ∧ decode wc8 123 = .ok (.aload_n 3, 1) := by decide +kernel
theorem e8_124 : decode wc8 124 = .ok (.iload 4, 2) ∧ decode wc8 126 = .ok (.aload 7, 2) ∧ decode wc8 128 = .ok (.invokevirtual 48, 3) ∧ decode wc8 131 = .ok (.istore 8, 2) ∧ decode wc8 133 = .ok (.aload_n 0, 1) := by decide +kernel
theorem own_pd16 : parseMethodDescriptor "(Ljava/lang/String;[I[II[I)I" = some ⟨[(.object "java/lang/String"), (.array .int), (.array .int), .int, (.array .int)], some .int⟩ := by decide +kernel
abbrev wy11 : MethodName := (⟨"com/example/portero/portero/matching/SegmentAutomaton", "addSegments", "(Ljava/lang/String;[I[II[I)I"⟩ : MethodName)
theorem e8_134 : decode wc8 134 = .ok (.iload 8, 2) ∧ decode wc8 136 = .ok (.newarray .int, 2) ∧ decode wc8 138 = .ok (.putfield 52, 3) ∧ decode wc8 141 = .ok (.aload_n 0, 1) ∧ decode wc8 142 = .ok (.iload 8, 2) := by decide +kernel
theorem e8_144 : decode wc8 144 = .ok (.newarray .int, 2) ∧ decode wc8 146 = .ok (.putfield 55, 3) ∧ decode wc8 149 = .ok (.aload_n 0, 1) ∧ decode wc8 150 = .ok (.iload 8, 2) ∧ decode wc8 152 = .ok (.newarray .int, 2) := by decide +kernel
theorem e8_154 : decode wc8 154 = .ok (.putfield 58, 3) ∧ decode wc8 157 = .ok (.aload_n 0, 1) ∧ decode wc8 158 = .ok (.aload 7, 2) ∧ decode wc8 160 = .ok (.iload 8, 2) ∧ decode wc8 162 = .ok (.invokevirtual 61, 3) := by decide +kernel
abbrev wy26 : MethodName := (⟨"com/example/portero/portero/matching/SegmentAutomaton", "walkTreeOfWords", "([II)V"⟩ : MethodName)
theorem e8_165 : decode wc8 165 = .ok (.aload_n 0, 1) ∧ decode wc8 166 = .ok (.iconst 1, 1) ∧ decode wc8 167 = .ok (.iload 8, 2) ∧ decode wc8 169 = .ok (.invokestatic 65, 3) ∧ decode wc8 172 = .ok (.iconst 2, 1) := by decide +kernel
theorem e8_173 : decode wc8 173 = .ok (.imul, 1) ∧ decode wc8 174 = .ok (.iconst 1, 1) ∧ decode wc8 175 = .ok (.isub, 1) ∧ decode wc8 176 = .ok (.invokestatic 71, 3) ∧ decode wc8 179 = .ok (.putfield 74, 3) := by decide +kernel
abbrev wy29 : MethodName := (⟨"java/lang/Integer", "highestOneBit", "(I)I"⟩ : MethodName)
theorem e8_182 : decode wc8 182 = .ok (.aload_n 0, 1) ∧ decode wc8 183 = .ok (.iconst 2, 1) ∧ decode wc8 184 = .ok (.aload_n 0, 1) ∧ decode wc8 185 = .ok (.getfield 74, 3) ∧ decode wc8 188 = .ok (.imul, 1) := by decide +kernel
theorem e8_189 : decode wc8 189 = .ok (.newarray .int, 2) ∧ decode wc8 191 = .ok (.putfield 77, 3) ∧ decode wc8 194 = .ok (.aload_n 0, 1) ∧ decode wc8 195 = .ok (.getfield 77, 3) ∧ decode wc8 198 = .ok (.iconst (-1), 1) := by decide +kernel
theorem e8_199 : decode wc8 199 = .ok (.invokestatic 80, 3) ∧ decode wc8 202 = .ok (.return_, 1) := by decide +kernel
def F_rmInit (St : List Int32) (En : List Int32) (B : List (Option Int32)) : Option (Int32 × Int32 × Int32 × Int32 × Int32 × Int32 × List Int64 × List Int32 × List Int32 × List Int32 × List Int32 × List Int32 × List Int32 × List Int32 × List Int32) := (own_get En (0 : Int32)).bind fun v2 => ((own_get St (0 : Int32)).bind fun v3 => ((own_get En (1 : Int32)).bind fun v4 => ((own_get St (1 : Int32)).bind fun v5 => ((own_get En (2 : Int32)).bind fun v6 => ((own_get St (2 : Int32)).bind fun v7 => ((some ((((1 : Int32) + (v2 - v3)) + (v4 - v5)) + (v6 - v7))).bind fun mo8 => ((F_rmNlz (((2 : Int32) * mo8) - (1 : Int32))).bind fun o9 => ((some ((32 : Int32) - o9)).bind fun bt11 => ((own_grd ((1 : Int32) <<< (bt11 &&& 31)) 32).bind fun _ => ((F_rmFillJ (-1 : Int64) ((1 : Int32) <<< (bt11 &&& 31)) (List.replicate (((1 : Int32) <<< (bt11 &&& 31))).toNatClampNeg 0)).bind fun o18 => ((own_grd ((1 : Int32) <<< (bt11 &&& 31)) 32).bind fun _ => ((own_grd mo8 10).bind fun _ => ((own_grd mo8 10).bind fun _ => ((own_grd (3 : Int32) 3).bind fun _ => ((own_grd (3 : Int32) 3).bind fun _ => ((F_rmSeg ((64 : Int32) - bt11) ((1 : Int32) <<< (bt11 &&& 31)) St En B o18 (List.replicate (((1 : Int32) <<< (bt11 &&& 31))).toNatClampNeg 0) (List.replicate (mo8).toNatClampNeg 0) (List.replicate (mo8).toNatClampNeg 0) (List.replicate ((3 : Int32)).toNatClampNeg 0) (List.replicate ((3 : Int32)).toNatClampNeg 0)).bind fun o85 => ((own_grd o85.1 3).bind fun _ => ((own_grd o85.1 3).bind fun _ => ((own_grd o85.1 3).bind fun _ => ((F_rmTree o85.1 o85.2.2.2.2.2.2 o85.2.2.2.2.1 o85.2.2.2.1 (List.replicate (o85.1).toNatClampNeg 0) (List.replicate (o85.1).toNatClampNeg 0) (List.replicate (o85.1).toNatClampNeg 0)).bind fun o152 => ((F_rmHob (((if (1 : Int32).toInt < o85.1.toInt then o85.1 else (1 : Int32)) * (2 : Int32)) - (1 : Int32))).bind fun o166 => ((own_grd ((2 : Int32) * o166) 8).bind fun _ => ((F_rmFillI (-1 : Int32) ((2 : Int32) * o166) (List.replicate (((2 : Int32) * o166)).toNatClampNeg 0)).bind fun o192 => (some (((64 : Int32) - bt11), ((1 : Int32) <<< (bt11 &&& 31)), mo8, o85.1, o166, ((2 : Int32) * o166), o85.2.1, o85.2.2.1, o85.2.2.2.1, o85.2.2.2.2.1, o85.2.2.2.2.2.1, o152.1, o152.2.1, o152.2.2, o192)))))))))))))))))))))))))
set_option maxRecDepth 65536 in
set_option maxHeartbeats 40000000 in
theorem rmInit (l : Launch) (Z : State) (a0 : Array Value) (hw : ∀ d ∈ tables_1, d.before a0 Z = true) (ws : List Jvm.Cond) (o0 : Addr) (o1 : Addr) (o2 : Addr) (o3 : Addr) (kst : ClassId) (St : List Int32) (ken : ClassId) (En : List Int32) (b : Addr) (kb : ClassId) (nb : Int32) (B : List (Option Int32)) (sv : Value) (out : Int32 × Int32 × Int32 × Int32 × Int32 × Int32 × List Int64 × List Int32 × List Int32 × List Int32 × List Int32 × List Int32 × List Int32 × List Int32 × List Int32) (cz : Int32) (h0 : Heap) (n0 : Nat) (Z0 : n0 ≤ h0.size) (E_o0 : Exa Z h0 o0 "com/example/portero/portero/matching/SegmentAutomaton") (F_o0_edgeKeys : Fld Z h0 o0 "com/example/portero/portero/matching/SegmentAutomaton" "edgeKeys" "[J" .null) (F_o0_edgeTargets : Fld Z h0 o0 "com/example/portero/portero/matching/SegmentAutomaton" "edgeTargets" "[I" .null) (F_o0_slotShift : Fld Z h0 o0 "com/example/portero/portero/matching/SegmentAutomaton" "slotShift" "I" (.int 0)) (F_o0_failures : Fld Z h0 o0 "com/example/portero/portero/matching/SegmentAutomaton" "failures" "[I" .null) (F_o0_suffixes : Fld Z h0 o0 "com/example/portero/portero/matching/SegmentAutomaton" "suffixes" "[I" .null) (F_o0_words : Fld Z h0 o0 "com/example/portero/portero/matching/SegmentAutomaton" "words" "[I" .null) (F_o0_places : Fld Z h0 o0 "com/example/portero/portero/matching/SegmentAutomaton" "places" "[I" .null) (F_o0_lastPlaces : Fld Z h0 o0 "com/example/portero/portero/matching/SegmentAutomaton" "lastPlaces" "[I" .null) (F_o0_wordsAt : Fld Z h0 o0 "com/example/portero/portero/matching/SegmentAutomaton" "wordsAt" "[I" .null) (F_o0_firstLeaf : Fld Z h0 o0 "com/example/portero/portero/matching/SegmentAutomaton" "firstLeaf" "I" (.int 0)) (F_o0_marks : Fld Z h0 o0 "com/example/portero/portero/matching/SegmentAutomaton" "marks" "[I" .null) (g_o0 : n0 ≤ o0) (E_o2 : Exa Z h0 o2 "[I") (V_o2 : own_AI Z h0 o2 kst (3 : Int32) St) (V_o3 : own_AI Z h0 o3 ken (3 : Int32) En) (E_o1 : Exa Z h0 o1 "java/lang/String") (F_o1_value : Fld Z h0 o1 "java/lang/String" "value" "[B" (.ref b)) (F_o1_coder : Fld Z h0 o1 "java/lang/String" "coder" "B" (.int 0)) (V_b : own_AB Z h0 b kb nb B) (S_C : Sta Z Z.heap "java/lang/String" "COMPACT_STRINGS" "Z" (.int cz)) (hcz : ¬ cz.toInt = 0) (Ol : Old Z n0 h0) (S_SF : Sta Z Z.heap "jdk/internal/util/Preconditions" "SIOOBE_FORMATTER" "Ljava/util/function/BiFunction;" sv) (hsv : sv = .null ∨ ∃ a : Addr, sv = .ref a) (ne_o0_o1 : o0 ≠ o1) (ne_o0_o2 : o0 ≠ o2) (ne_o0_o3 : o0 ≠ o3) (ne_o0_b : o0 ≠ b) (hF : F_rmInit St En B = some out) :
  MetFree l (⟨"com/example/portero/portero/matching/SegmentAutomaton", "<init>", "(Ljava/lang/String;[I[II)V"⟩ : MethodName) (head1 (Jvm.Cond.code (⟨"com/example/portero/portero/matching/SegmentAutomaton", "<init>", "(Ljava/lang/String;[I[II)V"⟩ : MethodName) prog_23_method_1_code 9 none :: ws) ({ frames := 7, cells := 18, slots := 134, locals := 3104 } : Room)) (fun a U => a = #[(.ref o0), (.ref o1), (.ref o2), (.ref o3), (.int 3)] ∧ Z.WarmedH U.vm ∧ U.heap = h0) (fun _ _ _ _ _ => True) (fun _ U o U' => ∃ v L, o = .returned v ∧ Q_rmInit Z o0 o1 o2 o3 kst St ken En b kb nb B sv out cz h0 n0 v U'.heap L ∧ FrameEnd U o U' L ({ frames := 7, cells := 18, slots := 134, locals := 3104 } : Room).cells ({ frames := 7, cells := 18, slots := 134, locals := 3104 } : Room).slots) := by
 refine MetFree.of_bodySF (plainFor_of_name own_pn0) hisR ?_
 intro p e s m args below meth c s₁ Bd hml0 hP hK
 obtain ⟨rfl, hH, hh⟩ := hP
 have hZ : Z.Warmed39 s.vm := hH.wide
 have hW := @own_hW a0 Z hw
 have hx := Bd.exec
 have hby := Bd.bytes
 have hml : c.maxLocals = 9 := hml0
 have hown : s.vm.findClass "com/example/portero/portero/matching/SegmentAutomaton" = some m.cls := findClass_of_methodNamed Bd.named
 have hnm := (name_of_methodNamed Bd.named Bd.method).1
 have X0 : Stand p l e ({ frames := 7, cells := 18, slots := 134, locals := 3104 } : Room) s m #[(.ref o0), (.ref o1), (.ref o2), (.ref o3), (.int 3)] below meth c s₁ [] 0 0 := Stand.of_body Bd
 have e0 : s₁.heap = h0 := by rw [← hh, Bd.state]; rfl
 have N0 := Fr.nil n0
 refine (show own_End p e below s (s₁.setTop (entryFrame m #[(.ref o0), (.ref o1), (.ref o2), (.ref o3), (.int 3)] 9)) (Q_rmInit Z o0 o1 o2 o3 kst St ken En b kb nb B sv out cz h0 n0) ({ frames := 7, cells := 18, slots := 134, locals := 3104 } : Room).cells ({ frames := 7, cells := 18, slots := 134, locals := 3104 } : Room).slots from ?_)
 refine own_go (fun τ κ => castTop (own_ef8_rmInit m o0 o1 o2 o3) κ) ?_
 have li0 : (0 : Int32).toInt = 0 := rfl
 have li1 : (1 : Int32).toInt = 1 := rfl
 show own_End p e below s (s₁.setTop (mkF m 0 #[wR o0, wR o1, wR o2, wR o3, wI 3, wU, wU, wU, wU] [])) _ _ _
 have H := hF
 refine o_aloadN X0 hx hby e8_0.1 rfl ?_
 obtain ⟨T1, X1, e1, st1⟩ := initO X0 hx hZ hown (hW 41 rfl) (hW 16 rfl) (hW 17 rfl) e0 (g := (mkF m 1 #[wR o0, wR o1, wR o2, wR o3, wI 3, wU, wU, wU, wU] [(.ref o0)])) rfl (by rw [hml]; rfl) rfl (hb hby e8_0.2.1) (by decide) (W := 0) (by show 2 * 0 + _ ≤ _; exact Nat.le_of_eq rfl) (by decide)
 refine own_go st1 ?_
 show own_End p e below s (T1.setTop (mkF m 4 _ [])) _ _ _
 refine o_iconst X1 hx hby e8_0.2.2.1 (x := 1) rfl ?_
 refine o_istore X1 hx hby e8_0.2.2.2.1 (l' := #[wR o0, wR o1, wR o2, wR o3, wI 3, wI 1, wU, wU, wU]) rfl ?_
 refine o_iconst X1 hx hby e8_0.2.2.2.2 (x := 0) rfl ?_
 refine o_istore X1 hx hby e8_8.1 (l' := #[wR o0, wR o1, wR o2, wR o3, wI 3, wI 1, wI 0, wU, wU]) rfl ?_
 refine o_iload X1 hx hby e8_8.2.1 rfl ?_
 refine o_iload X1 hx hby e8_8.2.2.1 rfl ?_
 refine o_icmpNo X1 hx hby e8_8.2.2.2.1 (own_tlt (x := 0) (y := 3) (i := 0) (j := 3) rfl rfl (by decide)).2.1 ?_
 refine o_iload X1 hx hby e8_8.2.2.2.2 rfl ?_
 refine o_aloadN X1 hx hby e8_19.1 rfl ?_
 refine o_iload X1 hx hby e8_19.2.1 rfl ?_
 obtain ⟨v2, hv2, H⟩ := own_bnd H
 refine o_ldI X1 hx hZ e1 V_o3 hv2 hby e8_19.2.2.1 ?_
 refine o_aloadN X1 hx hby e8_19.2.2.2.1 rfl ?_
 refine o_iload X1 hx hby e8_19.2.2.2.2 rfl ?_
 obtain ⟨v3, hv3, H⟩ := own_bnd H
 refine o_ldI X1 hx hZ e1 V_o2 hv3 hby e8_26.1 ?_
 refine o_isub X1 hx hby e8_26.2.1 ?_
 refine o_iadd X1 hx hby e8_26.2.2.1 ?_
 refine o_istore X1 hx hby e8_26.2.2.2.1 (l' := #[wR o0, wR o1, wR o2, wR o3, wI 3, wI ((1 : Int32) + (v2 - v3)), wI 0, wU, wU]) rfl ?_
 refine o_iinc X1 hx hby e8_26.2.2.2.2 rfl (l' := #[wR o0, wR o1, wR o2, wR o3, wI 3, wI ((1 : Int32) + (v2 - v3)), wI 1, wU, wU]) rfl ?_
 refine o_goto X1 hx (pc0 := 34) (pc' := 10) rfl hby e8_34.1 (by decide) (by decide) ?_
 refine o_iload X1 hx hby e8_8.2.1 rfl ?_
 refine o_iload X1 hx hby e8_8.2.2.1 rfl ?_
 refine o_icmpNo X1 hx hby e8_8.2.2.2.1 (own_tlt (x := 1) (y := 3) (i := 1) (j := 3) rfl rfl (by decide)).2.1 ?_
 refine o_iload X1 hx hby e8_8.2.2.2.2 rfl ?_
 refine o_aloadN X1 hx hby e8_19.1 rfl ?_
 refine o_iload X1 hx hby e8_19.2.1 rfl ?_
 obtain ⟨v4, hv4, H⟩ := own_bnd H
 refine o_ldI X1 hx hZ e1 V_o3 hv4 hby e8_19.2.2.1 ?_
 refine o_aloadN X1 hx hby e8_19.2.2.2.1 rfl ?_
 refine o_iload X1 hx hby e8_19.2.2.2.2 rfl ?_
 obtain ⟨v5, hv5, H⟩ := own_bnd H
 refine o_ldI X1 hx hZ e1 V_o2 hv5 hby e8_26.1 ?_
 refine o_isub X1 hx hby e8_26.2.1 ?_
 refine o_iadd X1 hx hby e8_26.2.2.1 ?_
 refine o_istore X1 hx hby e8_26.2.2.2.1 (l' := #[wR o0, wR o1, wR o2, wR o3, wI 3, wI (((1 : Int32) + (v2 - v3)) + (v4 - v5)), wI 1, wU, wU]) rfl ?_
 refine o_iinc X1 hx hby e8_26.2.2.2.2 rfl (l' := #[wR o0, wR o1, wR o2, wR o3, wI 3, wI (((1 : Int32) + (v2 - v3)) + (v4 - v5)), wI 2, wU, wU]) rfl ?_
 refine o_goto X1 hx (pc0 := 34) (pc' := 10) rfl hby e8_34.1 (by decide) (by decide) ?_
 refine o_iload X1 hx hby e8_8.2.1 rfl ?_
 refine o_iload X1 hx hby e8_8.2.2.1 rfl ?_
 refine o_icmpNo X1 hx hby e8_8.2.2.2.1 (own_tlt (x := 2) (y := 3) (i := 2) (j := 3) rfl rfl (by decide)).2.1 ?_
 refine o_iload X1 hx hby e8_8.2.2.2.2 rfl ?_
 refine o_aloadN X1 hx hby e8_19.1 rfl ?_
 refine o_iload X1 hx hby e8_19.2.1 rfl ?_
 obtain ⟨v6, hv6, H⟩ := own_bnd H
 refine o_ldI X1 hx hZ e1 V_o3 hv6 hby e8_19.2.2.1 ?_
 refine o_aloadN X1 hx hby e8_19.2.2.2.1 rfl ?_
 refine o_iload X1 hx hby e8_19.2.2.2.2 rfl ?_
 obtain ⟨v7, hv7, H⟩ := own_bnd H
 refine o_ldI X1 hx hZ e1 V_o2 hv7 hby e8_26.1 ?_
 refine o_isub X1 hx hby e8_26.2.1 ?_
 refine o_iadd X1 hx hby e8_26.2.2.1 ?_
 refine o_istore X1 hx hby e8_26.2.2.2.1 (l' := #[wR o0, wR o1, wR o2, wR o3, wI 3, wI ((((1 : Int32) + (v2 - v3)) + (v4 - v5)) + (v6 - v7)), wI 2, wU, wU]) rfl ?_
 refine o_iinc X1 hx hby e8_26.2.2.2.2 rfl (l' := #[wR o0, wR o1, wR o2, wR o3, wI 3, wI ((((1 : Int32) + (v2 - v3)) + (v4 - v5)) + (v6 - v7)), wI 3, wU, wU]) rfl ?_
 refine o_goto X1 hx (pc0 := 34) (pc' := 10) rfl hby e8_34.1 (by decide) (by decide) ?_
 refine o_iload X1 hx hby e8_8.2.1 rfl ?_
 refine o_iload X1 hx hby e8_8.2.2.1 rfl ?_
 refine o_icmpYes X1 hx (pc0 := 14) (pc' := 37) rfl hby e8_8.2.2.2.1 (own_flt (x := 3) (y := 3) (i := 3) (j := 3) rfl rfl (by decide)).2.1 (by decide) (by decide) ?_
 show own_End p e below s (T1.setTop (mkF m 37 _ [])) _ _ _
 obtain ⟨mo8, hmo8, H⟩ := own_bnd H
 replace hmo8 := Option.some.inj hmo8
 rw [hmo8]
 show own_End p e below s (T1.setTop (mkF m 37 _ [])) _ _ _
 refine o_bipush X1 hx hby e8_34.2.1 (x := 32) rfl ?_
 refine o_iconst X1 hx hby e8_34.2.2.1 (x := 2) rfl ?_
 refine o_iload X1 hx hby e8_34.2.2.2.1 rfl ?_
 refine o_imul X1 hx hby e8_34.2.2.2.2 ?_
 refine o_iconst X1 hx hby e8_43.1 (x := 1) rfl ?_
 refine o_isub X1 hx hby e8_43.2.1 ?_
 obtain ⟨o9, ho9, H⟩ := own_bnd H
 refine o_cS X1 hx hZ hown (y := wy9) (hW 42 rfl) (hW 43 rfl) (hW 44 rfl) (hW 45 rfl) (by decide) (backOf (W := 1) (rmNlz l Z a0 hw [] (((2 : Int32) * mo8) - (1 : Int32)) o9 h0 n0 Z0 ho9) hZ (hW 45 rfl) (hW 44 rfl) (by decide) (by decide)) (by rw [hml]; rfl) (argsL := [(.int (((2 : Int32) * mo8) - (1 : Int32)))]) (rest := [(.int 32)]) (lenOf own_pd2 rfl) rfl rfl (Nat.le_of_eq rfl) e1 (by decide) (by decide) hby e8_43.2.2.1 N0 fun T10 v10 Lc10 ls10 X10 hQ10 nq10 => ?_
 obtain ⟨rfl, N10q, e10⟩ := hQ10
 have N10 := nq10 N10q
 show own_End p e below s (T10.setTop (mkF m 48 _ [(.int o9), (.int 32)])) _ _ _
 refine o_isub X10 hx hby e8_43.2.2.2.1 ?_
 refine o_istore X10 hx hby e8_43.2.2.2.2 (l' := #[wR o0, wR o1, wR o2, wR o3, wI 3, wI mo8, wI ((32 : Int32) - o9), wU, wU]) rfl ?_
 show own_End p e below s (T10.setTop (mkF m 51 _ [])) _ _ _
 obtain ⟨bt11, hbt11, H⟩ := own_bnd H
 replace hbt11 := Option.some.inj hbt11
 rw [hbt11]
 show own_End p e below s (T10.setTop (mkF m 51 _ [])) _ _ _
 refine o_aloadN X10 hx hby e8_51.1 rfl ?_
 refine o_iconst X10 hx hby e8_51.2.1 (x := 1) rfl ?_
 refine o_iload X10 hx hby e8_51.2.2.1 rfl ?_
 refine own_go (fun τ κ => XS.ishl X10.here hx rfl (hb hby e8_51.2.2.2.1) rfl κ) ?_
 show own_End p e below s (T10.setTop (mkF m 56 _ [(.int ((1 : Int32) <<< (bt11 &&& 31))), (.ref o0)])) _ _ _
 obtain ⟨_, hg12, H⟩ := own_bnd H
 obtain ⟨T13, h13, k13, X13, e13, E13, A13, st13⟩ := newP X10 hx hZ (hW 47 rfl) e10 (g := (mkF m 56 #[wR o0, wR o1, wR o2, wR o3, wI 3, wI mo8, wI bt11, wU, wU] [(.int ((1 : Int32) <<< (bt11 &&& 31))), (.ref o0)])) rfl (hb hby e8_51.2.2.2.2) rfl (own_grdn hg12) (cap := 32) (own_grdc hg12) (by decide) (by decide) (by decide)
 obtain ⟨b13, g13⟩ : ∃ z, z = h0.size := ⟨_, rfl⟩
 rw [← g13] at A13 st13
 have g_b13 := own_gf Z0 g13
 have ne_o0_b13 := own_nf E_o0.lt g13
 have ne_o2_b13 := own_nf E_o2.lt g13
 have ne_o3_b13 := own_nf V_o3.lt g13
 have ne_o1_b13 := own_nf E_o1.lt g13
 have ne_b_b13 := own_nf V_b.lt g13
 have Z13 := Nat.le_trans Z0 E13.1
 have KP13 := (Keep.refl h0 [o0]).ext E13
 have sz_b13 := own_gf (Keep.refl h0 [o0]).1 g13
 have V_b13 := own_AJ.new A13 (own_grdn hg12)
 refine own_go st13 ?_
 show own_End p e below s (T13.setTop (mkF m 58 _ [(.ref b13), (.ref o0)])) _ _ _
 have U14 := (E_o0.ext E13)
 have U15 := (F_o0_edgeKeys.ext E13)
 obtain ⟨T16, h16, X16, e16, W16, st16⟩ := putF X13 hx hZ hown (host := "") (Or.inl (hW 48 rfl)) Via.refl e13 U15 U14 (Or.inr ⟨(hW 49 rfl), rfl, hnm⟩) (hW 36 rfl) (ty := (.array .long)) (by decide) rfl rfl (g := (mkF m 58 #[wR o0, wR o1, wR o2, wR o3, wI 3, wI mo8, wI bt11, wU, wU] [(.ref b13), (.ref o0)])) rfl rfl (hb hby e8_58.1)
 have Fw16 := U15.same W16
 have N16 := Fr.snoc X16 N10 g_o0
 obtain ⟨ls16, Xl16, Nl16⟩ := own_abs X16 N16
 have Z16 := Nat.le_trans Z13 (Keep.of_wr W16).1
 have KP16 := KP13.wr W16 (Or.inl (List.mem_of_getElem? (i := 0) rfl))
 refine own_go st16 ?_
 show own_End p e below s (T16.setTop (mkF m 61 _ [])) _ _ _
 refine o_aloadN Xl16 hx hby e8_58.2.1 rfl ?_
 refine o_getF Xl16 hx hZ hown (host := "") (Or.inl (hW 48 rfl)) Via.refl e16 Fw16 hby e8_58.2.2.1 fun T17 X17 e17 => ?_
 refine own_go (fun τ κ => X17.ldc2Long hx hown (mvT hZ (hW 50 rfl)) (g := (mkF m 65 #[wR o0, wR o1, wR o2, wR o3, wI 3, wI mo8, wI bt11, wU, wU] [(.ref b13)])) rfl (hb hby e8_58.2.2.2.1) _ κ) ?_
 show own_End p e below s (T17.setTop (mkF m 68 _ [(.long (-1 : Int64)), (.ref b13)])) _ _ _
 obtain ⟨o18, ho18, H⟩ := own_bnd H
 have U19 := (V_b13.other W16 (Ne.symm ne_o0_b13))
 refine o_cS X17 hx hZ hown (y := wy10) (hW 51 rfl) (hW 52 rfl) (hW 53 rfl) (hW 54 rfl) (by decide) (backOf (W := 0) (rmFillJ l Z a0 hw [] b13 (-1 : Int64) k13 ((1 : Int32) <<< (bt11 &&& 31)) (List.replicate (((1 : Int32) <<< (bt11 &&& 31))).toNatClampNeg 0) o18 h16 n0 Z16 U19 g_b13 ho18) hZ (hW 54 rfl) (hW 53 rfl) (by decide) (by decide)) (by rw [hml]; rfl) (argsL := [(.ref b13), (.long (-1 : Int64))]) (rest := []) (lenOf own_pd15 rfl) rfl rfl (Nat.le_of_eq rfl) e17 (by decide) (by decide) hby e8_58.2.2.2.2 Nl16 fun T20 v20 Lc20 ls20 X20 hQ20 nq20 => ?_
 obtain ⟨⟨rfl, P0_20⟩, N20q, K20⟩ := hQ20
 have N20 := nq20 N20q
 have Z20 := Nat.le_trans Z16 K20.1
 show own_End p e below s (T20.setTop (mkF m 71 _ [])) _ _ _
 have KP20 := KP16.trans K20 (allS (Or.inr sz_b13) all0)
 refine o_aloadN X20 hx hby e8_71.1 rfl ?_
 refine o_iconst X20 hx hby e8_71.2.1 (x := 1) rfl ?_
 refine o_iload X20 hx hby e8_71.2.2.1 rfl ?_
 refine own_go (fun τ κ => XS.ishl X20.here hx rfl (hb hby e8_71.2.2.2.1) rfl κ) ?_
 show own_End p e below s (T20.setTop (mkF m 76 _ [(.int ((1 : Int32) <<< (bt11 &&& 31))), (.ref o0)])) _ _ _
 obtain ⟨_, hg21, H⟩ := own_bnd H
 obtain ⟨T22, h22, k22, X22, e22, E22, A22, st22⟩ := newP X20 hx hZ (hW 34 rfl) rfl (g := (mkF m 76 #[wR o0, wR o1, wR o2, wR o3, wI 3, wI mo8, wI bt11, wU, wU] [(.int ((1 : Int32) <<< (bt11 &&& 31))), (.ref o0)])) rfl (hb hby e8_71.2.2.2.2) rfl (own_grdn hg21) (cap := 32) (own_grdc hg21) (by decide) (by decide) (by decide)
 obtain ⟨b22, g22⟩ : ∃ z, z = T20.heap.size := ⟨_, rfl⟩
 rw [← g22] at A22 st22
 have g_b22 := own_gf Z20 g22
 have U23 := ((U14.wr W16).keep K20)
 have ne_o0_b22 := own_nf U23.lt g22
 have U24 := (((E_o2.ext E13).wr W16).keep K20)
 have ne_o2_b22 := own_nf U24.lt g22
 have U25 := (((V_o3.ext E13).other W16 (Ne.symm ne_o0_o3)).keep K20 (ninS ne_o3_b13 nin0))
 have ne_o3_b22 := own_nf U25.lt g22
 have U26 := (((E_o1.ext E13).wr W16).keep K20)
 have ne_o1_b22 := own_nf U26.lt g22
 have U27 := (((V_b.ext E13).other W16 (Ne.symm ne_o0_b)).keep K20 (ninS ne_b_b13 nin0))
 have ne_b_b22 := own_nf U27.lt g22
 have ne_b13_b22 := own_nf P0_20.lt g22
 have Z22 := Nat.le_trans Z20 E22.1
 have KP22 := KP20.ext E22
 have sz_b22 := own_gf KP20.1 g22
 have V_b22 := own_AI.new A22 (own_grdn hg21)
 refine own_go st22 ?_
 show own_End p e below s (T22.setTop (mkF m 78 _ [(.ref b22), (.ref o0)])) _ _ _
 have U28 := (U23.ext E22)
 have U29 := ((((F_o0_edgeTargets.ext E13).other W16 (Or.inr (slot_ne (Or.inr (hW 56 rfl)) (Or.inr (hW 49 rfl)) (by decide) (t := (.array .int)) (t' := (.array .long)) (by decide) (by decide)))).keep K20 (ninS ne_o0_b13 nin0)).ext E22)
 obtain ⟨T30, h30, X30, e30, W30, st30⟩ := putF X22 hx hZ hown (host := "") (Or.inl (hW 55 rfl)) Via.refl e22 U29 U28 (Or.inr ⟨(hW 56 rfl), rfl, hnm⟩) (hW 36 rfl) (ty := (.array .int)) (by decide) rfl rfl (g := (mkF m 78 #[wR o0, wR o1, wR o2, wR o3, wI 3, wI mo8, wI bt11, wU, wU] [(.ref b22), (.ref o0)])) rfl rfl (hb hby e8_78.1)
 have Fw30 := U29.same W30
 have N30 := Fr.snoc X30 N20 g_o0
 obtain ⟨ls30, Xl30, Nl30⟩ := own_abs X30 N30
 have Z30 := Nat.le_trans Z22 (Keep.of_wr W30).1
 have KP30 := KP22.wr W30 (Or.inl (List.mem_of_getElem? (i := 0) rfl))
 refine own_go st30 ?_
 show own_End p e below s (T30.setTop (mkF m 81 _ [])) _ _ _
 refine o_aloadN Xl30 hx hby e8_78.2.1 rfl ?_
 refine o_bipush Xl30 hx hby e8_78.2.2.1 (x := 64) rfl ?_
 refine o_iload Xl30 hx hby e8_78.2.2.2.1 rfl ?_
 refine o_isub Xl30 hx hby e8_78.2.2.2.2 ?_
 have U31 := (U28.wr W30)
 have U32 := (((((F_o0_slotShift.ext E13).other W16 (Or.inr (slot_ne (Or.inr (hW 58 rfl)) (Or.inr (hW 49 rfl)) (by decide) (t := .int) (t' := (.array .long)) (by decide) (by decide)))).keep K20 (ninS ne_o0_b13 nin0)).ext E22).other W30 (Or.inr (slot_ne (Or.inr (hW 58 rfl)) (Or.inr (hW 56 rfl)) (by decide) (t := .int) (t' := (.array .int)) (by decide) (by decide))))
 obtain ⟨T33, h33, X33, e33, W33, st33⟩ := putF Xl30 hx hZ hown (host := "") (Or.inl (hW 57 rfl)) Via.refl e30 U32 U31 (Or.inr ⟨(hW 58 rfl), rfl, hnm⟩) (hW 36 rfl) (ty := .int) (by decide) rfl rfl (g := (mkF m 87 #[wR o0, wR o1, wR o2, wR o3, wI 3, wI mo8, wI bt11, wU, wU] [(.int ((64 : Int32) - bt11)), (.ref o0)])) rfl rfl (hb hby e8_87.1)
 have Fw33 := U32.same W33
 have N33 := Fr.snoc X33 Nl30 g_o0
 obtain ⟨ls33, Xl33, Nl33⟩ := own_abs X33 N33
 have Z33 := Nat.le_trans Z30 (Keep.of_wr W33).1
 have KP33 := KP30.wr W33 (Or.inl (List.mem_of_getElem? (i := 0) rfl))
 refine own_go st33 ?_
 show own_End p e below s (T33.setTop (mkF m 90 _ [])) _ _ _
 refine o_aloadN Xl33 hx hby e8_87.2.1 rfl ?_
 refine o_iload Xl33 hx hby e8_87.2.2.1 rfl ?_
 obtain ⟨_, hg34, H⟩ := own_bnd H
 obtain ⟨T35, h35, k35, X35, e35, E35, A35, st35⟩ := newP Xl33 hx hZ (hW 34 rfl) e33 (g := (mkF m 93 #[wR o0, wR o1, wR o2, wR o3, wI 3, wI mo8, wI bt11, wU, wU] [(.int mo8), (.ref o0)])) rfl (hb hby e8_87.2.2.2.1) rfl (own_grdn hg34) (cap := 10) (own_grdc hg34) (by decide) (by decide) (by decide)
 obtain ⟨b35, g35⟩ : ∃ z, z = h33.size := ⟨_, rfl⟩
 rw [← g35] at A35 st35
 have g_b35 := own_gf Z33 g35
 have U36 := (U31.wr W33)
 have ne_o0_b35 := own_nf U36.lt g35
 have U37 := (((U24.ext E22).wr W30).wr W33)
 have ne_o2_b35 := own_nf U37.lt g35
 have U38 := (((U25.ext E22).other W30 (Ne.symm ne_o0_o3)).other W33 (Ne.symm ne_o0_o3))
 have ne_o3_b35 := own_nf U38.lt g35
 have U39 := (((U26.ext E22).wr W30).wr W33)
 have ne_o1_b35 := own_nf U39.lt g35
 have U40 := (((U27.ext E22).other W30 (Ne.symm ne_o0_b)).other W33 (Ne.symm ne_o0_b))
 have ne_b_b35 := own_nf U40.lt g35
 have U41 := (((P0_20.ext E22).other W30 (Ne.symm ne_o0_b13)).other W33 (Ne.symm ne_o0_b13))
 have ne_b13_b35 := own_nf U41.lt g35
 have U42 := ((V_b22.other W30 (Ne.symm ne_o0_b22)).other W33 (Ne.symm ne_o0_b22))
 have ne_b22_b35 := own_nf U42.lt g35
 have Z35 := Nat.le_trans Z33 E35.1
 have KP35 := KP33.ext E35
 have sz_b35 := own_gf KP33.1 g35
 have V_b35 := own_AI.new A35 (own_grdn hg34)
 refine own_go st35 ?_
 show own_End p e below s (T35.setTop (mkF m 95 _ [(.ref b35), (.ref o0)])) _ _ _
 have U43 := (U36.ext E35)
 have U44 := (((((((F_o0_failures.ext E13).other W16 (Or.inr (slot_ne (Or.inr (hW 60 rfl)) (Or.inr (hW 49 rfl)) (by decide) (t := (.array .int)) (t' := (.array .long)) (by decide) (by decide)))).keep K20 (ninS ne_o0_b13 nin0)).ext E22).other W30 (Or.inr (slot_ne (Or.inr (hW 60 rfl)) (Or.inr (hW 56 rfl)) (by decide) (t := (.array .int)) (t' := (.array .int)) (by decide) (by decide)))).other W33 (Or.inr (slot_ne (Or.inr (hW 60 rfl)) (Or.inr (hW 58 rfl)) (by decide) (t := (.array .int)) (t' := .int) (by decide) (by decide)))).ext E35)
 obtain ⟨T45, h45, X45, e45, W45, st45⟩ := putF X35 hx hZ hown (host := "") (Or.inl (hW 59 rfl)) Via.refl e35 U44 U43 (Or.inr ⟨(hW 60 rfl), rfl, hnm⟩) (hW 36 rfl) (ty := (.array .int)) (by decide) rfl rfl (g := (mkF m 95 #[wR o0, wR o1, wR o2, wR o3, wI 3, wI mo8, wI bt11, wU, wU] [(.ref b35), (.ref o0)])) rfl rfl (hb hby e8_87.2.2.2.2)
 have Fw45 := U44.same W45
 have N45 := Fr.snoc X45 Nl33 g_o0
 obtain ⟨ls45, Xl45, Nl45⟩ := own_abs X45 N45
 have Z45 := Nat.le_trans Z35 (Keep.of_wr W45).1
 have KP45 := KP35.wr W45 (Or.inl (List.mem_of_getElem? (i := 0) rfl))
 refine own_go st45 ?_
 show own_End p e below s (T45.setTop (mkF m 98 _ [])) _ _ _
 refine o_aloadN Xl45 hx hby e8_98.1 rfl ?_
 refine o_iload Xl45 hx hby e8_98.2.1 rfl ?_
 obtain ⟨_, hg46, H⟩ := own_bnd H
 obtain ⟨T47, h47, k47, X47, e47, E47, A47, st47⟩ := newP Xl45 hx hZ (hW 34 rfl) e45 (g := (mkF m 101 #[wR o0, wR o1, wR o2, wR o3, wI 3, wI mo8, wI bt11, wU, wU] [(.int mo8), (.ref o0)])) rfl (hb hby e8_98.2.2.1) rfl (own_grdn hg46) (cap := 10) (own_grdc hg46) (by decide) (by decide) (by decide)
 obtain ⟨b47, g47⟩ : ∃ z, z = h45.size := ⟨_, rfl⟩
 rw [← g47] at A47 st47
 have g_b47 := own_gf Z45 g47
 have U48 := (U43.wr W45)
 have ne_o0_b47 := own_nf U48.lt g47
 have U49 := ((U37.ext E35).wr W45)
 have ne_o2_b47 := own_nf U49.lt g47
 have U50 := ((U38.ext E35).other W45 (Ne.symm ne_o0_o3))
 have ne_o3_b47 := own_nf U50.lt g47
 have U51 := ((U39.ext E35).wr W45)
 have ne_o1_b47 := own_nf U51.lt g47
 have U52 := ((U40.ext E35).other W45 (Ne.symm ne_o0_b))
 have ne_b_b47 := own_nf U52.lt g47
 have U53 := ((U41.ext E35).other W45 (Ne.symm ne_o0_b13))
 have ne_b13_b47 := own_nf U53.lt g47
 have U54 := ((U42.ext E35).other W45 (Ne.symm ne_o0_b22))
 have ne_b22_b47 := own_nf U54.lt g47
 have U55 := (V_b35.other W45 (Ne.symm ne_o0_b35))
 have ne_b35_b47 := own_nf U55.lt g47
 have Z47 := Nat.le_trans Z45 E47.1
 have KP47 := KP45.ext E47
 have sz_b47 := own_gf KP45.1 g47
 have V_b47 := own_AI.new A47 (own_grdn hg46)
 refine own_go st47 ?_
 show own_End p e below s (T47.setTop (mkF m 103 _ [(.ref b47), (.ref o0)])) _ _ _
 have U56 := (U48.ext E47)
 have U57 := (((((((((F_o0_suffixes.ext E13).other W16 (Or.inr (slot_ne (Or.inr (hW 62 rfl)) (Or.inr (hW 49 rfl)) (by decide) (t := (.array .int)) (t' := (.array .long)) (by decide) (by decide)))).keep K20 (ninS ne_o0_b13 nin0)).ext E22).other W30 (Or.inr (slot_ne (Or.inr (hW 62 rfl)) (Or.inr (hW 56 rfl)) (by decide) (t := (.array .int)) (t' := (.array .int)) (by decide) (by decide)))).other W33 (Or.inr (slot_ne (Or.inr (hW 62 rfl)) (Or.inr (hW 58 rfl)) (by decide) (t := (.array .int)) (t' := .int) (by decide) (by decide)))).ext E35).other W45 (Or.inr (slot_ne (Or.inr (hW 62 rfl)) (Or.inr (hW 60 rfl)) (by decide) (t := (.array .int)) (t' := (.array .int)) (by decide) (by decide)))).ext E47)
 obtain ⟨T58, h58, X58, e58, W58, st58⟩ := putF X47 hx hZ hown (host := "") (Or.inl (hW 61 rfl)) Via.refl e47 U57 U56 (Or.inr ⟨(hW 62 rfl), rfl, hnm⟩) (hW 36 rfl) (ty := (.array .int)) (by decide) rfl rfl (g := (mkF m 103 #[wR o0, wR o1, wR o2, wR o3, wI 3, wI mo8, wI bt11, wU, wU] [(.ref b47), (.ref o0)])) rfl rfl (hb hby e8_98.2.2.2.1)
 have Fw58 := U57.same W58
 have N58 := Fr.snoc X58 Nl45 g_o0
 obtain ⟨ls58, Xl58, Nl58⟩ := own_abs X58 N58
 have Z58 := Nat.le_trans Z47 (Keep.of_wr W58).1
 have KP58 := KP47.wr W58 (Or.inl (List.mem_of_getElem? (i := 0) rfl))
 refine own_go st58 ?_
 show own_End p e below s (T58.setTop (mkF m 106 _ [])) _ _ _
 refine o_aloadN Xl58 hx hby e8_98.2.2.2.2 rfl ?_
 refine o_iload Xl58 hx hby e8_107.1 rfl ?_
 obtain ⟨_, hg59, H⟩ := own_bnd H
 obtain ⟨T60, h60, k60, X60, e60, E60, A60, st60⟩ := newP Xl58 hx hZ (hW 34 rfl) e58 (g := (mkF m 109 #[wR o0, wR o1, wR o2, wR o3, wI 3, wI mo8, wI bt11, wU, wU] [(.int 3), (.ref o0)])) rfl (hb hby e8_107.2.1) rfl (own_grdn hg59) (cap := 3) (own_grdc hg59) (by decide) (by decide) (by decide)
 obtain ⟨b60, g60⟩ : ∃ z, z = h58.size := ⟨_, rfl⟩
 rw [← g60] at A60 st60
 have g_b60 := own_gf Z58 g60
 have U61 := (U56.wr W58)
 have ne_o0_b60 := own_nf U61.lt g60
 have U62 := ((U49.ext E47).wr W58)
 have ne_o2_b60 := own_nf U62.lt g60
 have U63 := ((U50.ext E47).other W58 (Ne.symm ne_o0_o3))
 have ne_o3_b60 := own_nf U63.lt g60
 have U64 := ((U51.ext E47).wr W58)
 have ne_o1_b60 := own_nf U64.lt g60
 have U65 := ((U52.ext E47).other W58 (Ne.symm ne_o0_b))
 have ne_b_b60 := own_nf U65.lt g60
 have U66 := ((U53.ext E47).other W58 (Ne.symm ne_o0_b13))
 have ne_b13_b60 := own_nf U66.lt g60
 have U67 := ((U54.ext E47).other W58 (Ne.symm ne_o0_b22))
 have ne_b22_b60 := own_nf U67.lt g60
 have U68 := ((U55.ext E47).other W58 (Ne.symm ne_o0_b35))
 have ne_b35_b60 := own_nf U68.lt g60
 have U69 := (V_b47.other W58 (Ne.symm ne_o0_b47))
 have ne_b47_b60 := own_nf U69.lt g60
 have Z60 := Nat.le_trans Z58 E60.1
 have KP60 := KP58.ext E60
 have sz_b60 := own_gf KP58.1 g60
 have V_b60 := own_AI.new A60 (own_grdn hg59)
 refine own_go st60 ?_
 show own_End p e below s (T60.setTop (mkF m 111 _ [(.ref b60), (.ref o0)])) _ _ _
 have U70 := (U61.ext E60)
 have U71 := (((((((((((F_o0_words.ext E13).other W16 (Or.inr (slot_ne (Or.inr (hW 64 rfl)) (Or.inr (hW 49 rfl)) (by decide) (t := (.array .int)) (t' := (.array .long)) (by decide) (by decide)))).keep K20 (ninS ne_o0_b13 nin0)).ext E22).other W30 (Or.inr (slot_ne (Or.inr (hW 64 rfl)) (Or.inr (hW 56 rfl)) (by decide) (t := (.array .int)) (t' := (.array .int)) (by decide) (by decide)))).other W33 (Or.inr (slot_ne (Or.inr (hW 64 rfl)) (Or.inr (hW 58 rfl)) (by decide) (t := (.array .int)) (t' := .int) (by decide) (by decide)))).ext E35).other W45 (Or.inr (slot_ne (Or.inr (hW 64 rfl)) (Or.inr (hW 60 rfl)) (by decide) (t := (.array .int)) (t' := (.array .int)) (by decide) (by decide)))).ext E47).other W58 (Or.inr (slot_ne (Or.inr (hW 64 rfl)) (Or.inr (hW 62 rfl)) (by decide) (t := (.array .int)) (t' := (.array .int)) (by decide) (by decide)))).ext E60)
 obtain ⟨T72, h72, X72, e72, W72, st72⟩ := putF X60 hx hZ hown (host := "") (Or.inl (hW 63 rfl)) Via.refl e60 U71 U70 (Or.inr ⟨(hW 64 rfl), rfl, hnm⟩) (hW 36 rfl) (ty := (.array .int)) (by decide) rfl rfl (g := (mkF m 111 #[wR o0, wR o1, wR o2, wR o3, wI 3, wI mo8, wI bt11, wU, wU] [(.ref b60), (.ref o0)])) rfl rfl (hb hby e8_107.2.2.1)
 have Fw72 := U71.same W72
 have N72 := Fr.snoc X72 Nl58 g_o0
 obtain ⟨ls72, Xl72, Nl72⟩ := own_abs X72 N72
 have Z72 := Nat.le_trans Z60 (Keep.of_wr W72).1
 have KP72 := KP60.wr W72 (Or.inl (List.mem_of_getElem? (i := 0) rfl))
 refine own_go st72 ?_
 show own_End p e below s (T72.setTop (mkF m 114 _ [])) _ _ _
 refine o_iload Xl72 hx hby e8_107.2.2.2.1 rfl ?_
 obtain ⟨_, hg73, H⟩ := own_bnd H
 obtain ⟨T74, h74, k74, X74, e74, E74, A74, st74⟩ := newP Xl72 hx hZ (hW 34 rfl) e72 (g := (mkF m 116 #[wR o0, wR o1, wR o2, wR o3, wI 3, wI mo8, wI bt11, wU, wU] [(.int 3)])) rfl (hb hby e8_107.2.2.2.2) rfl (own_grdn hg73) (cap := 3) (own_grdc hg73) (by decide) (by decide) (by decide)
 obtain ⟨b74, g74⟩ : ∃ z, z = h72.size := ⟨_, rfl⟩
 rw [← g74] at A74 st74
 have g_b74 := own_gf Z72 g74
 have U75 := (U70.wr W72)
 have ne_o0_b74 := own_nf U75.lt g74
 have U76 := ((U62.ext E60).wr W72)
 have ne_o2_b74 := own_nf U76.lt g74
 have U77 := ((U63.ext E60).other W72 (Ne.symm ne_o0_o3))
 have ne_o3_b74 := own_nf U77.lt g74
 have U78 := ((U64.ext E60).wr W72)
 have ne_o1_b74 := own_nf U78.lt g74
 have U79 := ((U65.ext E60).other W72 (Ne.symm ne_o0_b))
 have ne_b_b74 := own_nf U79.lt g74
 have U80 := ((U66.ext E60).other W72 (Ne.symm ne_o0_b13))
 have ne_b13_b74 := own_nf U80.lt g74
 have U81 := ((U67.ext E60).other W72 (Ne.symm ne_o0_b22))
 have ne_b22_b74 := own_nf U81.lt g74
 have U82 := ((U68.ext E60).other W72 (Ne.symm ne_o0_b35))
 have ne_b35_b74 := own_nf U82.lt g74
 have U83 := ((U69.ext E60).other W72 (Ne.symm ne_o0_b47))
 have ne_b47_b74 := own_nf U83.lt g74
 have U84 := (V_b60.other W72 (Ne.symm ne_o0_b60))
 have ne_b60_b74 := own_nf U84.lt g74
 have Z74 := Nat.le_trans Z72 E74.1
 have KP74 := KP72.ext E74
 have sz_b74 := own_gf KP72.1 g74
 have V_b74 := own_AI.new A74 (own_grdn hg73)
 refine own_go st74 ?_
 show own_End p e below s (T74.setTop (mkF m 118 _ [(.ref b74)])) _ _ _
 refine o_astore X74 hx hby e8_118.1 (l' := #[wR o0, wR o1, wR o2, wR o3, wI 3, wI mo8, wI bt11, wR b74, wU]) rfl ?_
 refine o_aloadN X74 hx hby e8_118.2.1 rfl ?_
 refine o_aloadN X74 hx hby e8_118.2.2.1 rfl ?_
 refine o_aloadN X74 hx hby e8_118.2.2.2.1 rfl ?_
 refine o_aloadN X74 hx hby e8_118.2.2.2.2 rfl ?_
 refine o_iload X74 hx hby e8_124.1 rfl ?_
 refine o_aload X74 hx hby e8_124.2.1 rfl ?_
 obtain ⟨o85, ho85, H⟩ := own_bnd H
 have U86 := (U75.ext E74)
 have U87 := (((((((Fw33.ext E35).other W45 (Or.inr (slot_ne (Or.inr (hW 58 rfl)) (Or.inr (hW 60 rfl)) (by decide) (t := .int) (t' := (.array .int)) (by decide) (by decide)))).ext E47).other W58 (Or.inr (slot_ne (Or.inr (hW 58 rfl)) (Or.inr (hW 62 rfl)) (by decide) (t := .int) (t' := (.array .int)) (by decide) (by decide)))).ext E60).other W72 (Or.inr (slot_ne (Or.inr (hW 58 rfl)) (Or.inr (hW 64 rfl)) (by decide) (t := .int) (t' := (.array .int)) (by decide) (by decide)))).ext E74)
 have U88 := (((((((((((Fw16.keep K20 (ninS ne_o0_b13 nin0)).ext E22).other W30 (Or.inr (slot_ne (Or.inr (hW 49 rfl)) (Or.inr (hW 56 rfl)) (by decide) (t := (.array .long)) (t' := (.array .int)) (by decide) (by decide)))).other W33 (Or.inr (slot_ne (Or.inr (hW 49 rfl)) (Or.inr (hW 58 rfl)) (by decide) (t := (.array .long)) (t' := .int) (by decide) (by decide)))).ext E35).other W45 (Or.inr (slot_ne (Or.inr (hW 49 rfl)) (Or.inr (hW 60 rfl)) (by decide) (t := (.array .long)) (t' := (.array .int)) (by decide) (by decide)))).ext E47).other W58 (Or.inr (slot_ne (Or.inr (hW 49 rfl)) (Or.inr (hW 62 rfl)) (by decide) (t := (.array .long)) (t' := (.array .int)) (by decide) (by decide)))).ext E60).other W72 (Or.inr (slot_ne (Or.inr (hW 49 rfl)) (Or.inr (hW 64 rfl)) (by decide) (t := (.array .long)) (t' := (.array .int)) (by decide) (by decide)))).ext E74)
 have U89 := ((((((((Fw30.other W33 (Or.inr (slot_ne (Or.inr (hW 56 rfl)) (Or.inr (hW 58 rfl)) (by decide) (t := (.array .int)) (t' := .int) (by decide) (by decide)))).ext E35).other W45 (Or.inr (slot_ne (Or.inr (hW 56 rfl)) (Or.inr (hW 60 rfl)) (by decide) (t := (.array .int)) (t' := (.array .int)) (by decide) (by decide)))).ext E47).other W58 (Or.inr (slot_ne (Or.inr (hW 56 rfl)) (Or.inr (hW 62 rfl)) (by decide) (t := (.array .int)) (t' := (.array .int)) (by decide) (by decide)))).ext E60).other W72 (Or.inr (slot_ne (Or.inr (hW 56 rfl)) (Or.inr (hW 64 rfl)) (by decide) (t := (.array .int)) (t' := (.array .int)) (by decide) (by decide)))).ext E74)
 have U90 := (((((Fw45.ext E47).other W58 (Or.inr (slot_ne (Or.inr (hW 60 rfl)) (Or.inr (hW 62 rfl)) (by decide) (t := (.array .int)) (t' := (.array .int)) (by decide) (by decide)))).ext E60).other W72 (Or.inr (slot_ne (Or.inr (hW 60 rfl)) (Or.inr (hW 64 rfl)) (by decide) (t := (.array .int)) (t' := (.array .int)) (by decide) (by decide)))).ext E74)
 have U91 := (((Fw58.ext E60).other W72 (Or.inr (slot_ne (Or.inr (hW 62 rfl)) (Or.inr (hW 64 rfl)) (by decide) (t := (.array .int)) (t' := (.array .int)) (by decide) (by decide)))).ext E74)
 have U92 := (Fw72.ext E74)
 have U93 := (U80.ext E74)
 have U94 := (U81.ext E74)
 have U95 := (U82.ext E74)
 have U96 := (U83.ext E74)
 have U97 := (U84.ext E74)
 have U98 := (U76.ext E74)
 have U99 := (((((((((((((V_o2.ext E13).other W16 (Ne.symm ne_o0_o2)).keep K20 (ninS ne_o2_b13 nin0)).ext E22).other W30 (Ne.symm ne_o0_o2)).other W33 (Ne.symm ne_o0_o2)).ext E35).other W45 (Ne.symm ne_o0_o2)).ext E47).other W58 (Ne.symm ne_o0_o2)).ext E60).other W72 (Ne.symm ne_o0_o2)).ext E74)
 have U100 := (U77.ext E74)
 have U101 := (U78.ext E74)
 have U102 := (((((((((((((F_o1_value.ext E13).other W16 (Or.inl (Ne.symm ne_o0_o1))).keep K20 (ninS ne_o1_b13 nin0)).ext E22).other W30 (Or.inl (Ne.symm ne_o0_o1))).other W33 (Or.inl (Ne.symm ne_o0_o1))).ext E35).other W45 (Or.inl (Ne.symm ne_o0_o1))).ext E47).other W58 (Or.inl (Ne.symm ne_o0_o1))).ext E60).other W72 (Or.inl (Ne.symm ne_o0_o1))).ext E74)
 have U103 := (((((((((((((F_o1_coder.ext E13).other W16 (Or.inl (Ne.symm ne_o0_o1))).keep K20 (ninS ne_o1_b13 nin0)).ext E22).other W30 (Or.inl (Ne.symm ne_o0_o1))).other W33 (Or.inl (Ne.symm ne_o0_o1))).ext E35).other W45 (Or.inl (Ne.symm ne_o0_o1))).ext E47).other W58 (Or.inl (Ne.symm ne_o0_o1))).ext E60).other W72 (Or.inl (Ne.symm ne_o0_o1))).ext E74)
 have U104 := (U79.ext E74)
 have U105 := (((((((((((((Ol.ext E13).wr W16 g_o0).keep K20 (allS g_b13 all0)).ext E22).wr W30 g_o0).wr W33 g_o0).ext E35).wr W45 g_o0).ext E47).wr W58 g_o0).ext E60).wr W72 g_o0).ext E74)
 refine o_cP X74 hx hZ hown (y := wy11) (hW 65 rfl) (hW 36 rfl) (hW 66 rfl) (hW 67 rfl) (hW 68 rfl) (by decide) U86 (own_backH (W := 0) (rmSeg l Z a0 hw [] o0 o1 o2 o3 b74 ((64 : Int32) - bt11) ((1 : Int32) <<< (bt11 &&& 31)) mo8 b13 k13 o18 b22 k22 (List.replicate (((1 : Int32) <<< (bt11 &&& 31))).toNatClampNeg 0) b35 k35 (List.replicate (mo8).toNatClampNeg 0) b47 k47 (List.replicate (mo8).toNatClampNeg 0) b60 k60 (List.replicate ((3 : Int32)).toNatClampNeg 0) k74 (List.replicate ((3 : Int32)).toNatClampNeg 0) kst St ken En b kb nb B sv o85 cz h74 n0 Z74 U86 U87 U88 U89 U90 U91 U92 U93 U94 U95 U96 U97 U98 U99 U100 V_b74 U101 U102 U103 U104 S_C hcz U105 S_SF hsv g_b13 g_b22 g_b35 g_b47 g_b60 g_b74 (Ne.symm ne_o0_b13) (Ne.symm ne_o1_b13) (Ne.symm ne_o2_b13) (Ne.symm ne_o3_b13) (Ne.symm ne_b_b13) (Ne.symm ne_o0_b22) (Ne.symm ne_o1_b22) (Ne.symm ne_o2_b22) (Ne.symm ne_o3_b22) (Ne.symm ne_b_b22) (Ne.symm ne_o0_b35) (Ne.symm ne_o1_b35) (Ne.symm ne_o2_b35) (Ne.symm ne_o3_b35) (Ne.symm ne_b_b35) (Ne.symm ne_o0_b47) (Ne.symm ne_o1_b47) (Ne.symm ne_o2_b47) (Ne.symm ne_o3_b47) (Ne.symm ne_b_b47) (Ne.symm ne_o0_b60) (Ne.symm ne_o1_b60) (Ne.symm ne_o2_b60) (Ne.symm ne_o3_b60) (Ne.symm ne_b_b60) (Ne.symm ne_o0_b74) (Ne.symm ne_o1_b74) (Ne.symm ne_o2_b74) (Ne.symm ne_o3_b74) (Ne.symm ne_b_b74) ne_b13_b22 ne_b13_b35 ne_b13_b47 ne_b13_b60 ne_b13_b74 ne_b22_b35 ne_b22_b47 ne_b22_b60 ne_b22_b74 ne_b35_b47 ne_b35_b60 ne_b35_b74 ne_b47_b60 ne_b47_b74 ne_b60_b74 ho85) hH (hW 68 rfl) (hW 37 rfl) (by decide) (by decide)) (by rw [hml]; rfl) (argsL := [(.ref o1), (.ref o2), (.ref o3), (.int 3), (.ref b74)]) (rest := []) (lenOf own_pd16 rfl) rfl rfl (Nat.le_of_eq rfl) e74 (by decide) (by decide) hby e8_124.2.2.1 Nl72 fun T106 v106 Lc106 ls106 X106 hQ106 nq106 => ?_
 obtain ⟨⟨rfl, P0_106, P1_106, P2_106, P3_106, P4_106, P5_106⟩, N106q, K106⟩ := hQ106
 have N106 := nq106 N106q
 have Z106 := Nat.le_trans Z74 K106.1
 show own_End p e below s (T106.setTop (mkF m 131 _ [(.int o85.1)])) _ _ _
 have KP106 := KP74.trans K106 (allS (Or.inr sz_b13) (allS (Or.inr sz_b22) (allS (Or.inr sz_b35) (allS (Or.inr sz_b47) (allS (Or.inr sz_b60) (allS (Or.inr sz_b74) all0))))))
 refine o_istore X106 hx hby e8_124.2.2.2.1 (l' := #[wR o0, wR o1, wR o2, wR o3, wI 3, wI mo8, wI bt11, wR b74, wI o85.1]) rfl ?_
 refine o_aloadN X106 hx hby e8_124.2.2.2.2 rfl ?_
 refine o_iload X106 hx hby e8_134.1 rfl ?_
 obtain ⟨_, hg107, H⟩ := own_bnd H
 obtain ⟨T108, h108, k108, X108, e108, E108, A108, st108⟩ := newP X106 hx hZ (hW 34 rfl) rfl (g := (mkF m 136 #[wR o0, wR o1, wR o2, wR o3, wI 3, wI mo8, wI bt11, wR b74, wI o85.1] [(.int o85.1), (.ref o0)])) rfl (hb hby e8_134.2.1) rfl (own_grdn hg107) (cap := 3) (own_grdc hg107) (by decide) (by decide) (by decide)
 obtain ⟨b108, g108⟩ : ∃ z, z = T106.heap.size := ⟨_, rfl⟩
 rw [← g108] at A108 st108
 have g_b108 := own_gf Z106 g108
 have U109 := (U86.keep K106)
 have ne_o0_b108 := own_nf U109.lt g108
 have U110 := (U98.keep K106)
 have ne_o2_b108 := own_nf U110.lt g108
 have U111 := (U100.keep K106 (ninS ne_o3_b13 (ninS ne_o3_b22 (ninS ne_o3_b35 (ninS ne_o3_b47 (ninS ne_o3_b60 (ninS ne_o3_b74 nin0)))))))
 have ne_o3_b108 := own_nf U111.lt g108
 have U112 := (U101.keep K106)
 have ne_o1_b108 := own_nf U112.lt g108
 have U113 := (U104.keep K106 (ninS ne_b_b13 (ninS ne_b_b22 (ninS ne_b_b35 (ninS ne_b_b47 (ninS ne_b_b60 (ninS ne_b_b74 nin0)))))))
 have ne_b_b108 := own_nf U113.lt g108
 have ne_b13_b108 := own_nf P0_106.lt g108
 have ne_b22_b108 := own_nf P1_106.lt g108
 have ne_b35_b108 := own_nf P2_106.lt g108
 have ne_b47_b108 := own_nf P3_106.lt g108
 have ne_b60_b108 := own_nf P4_106.lt g108
 have ne_b74_b108 := own_nf P5_106.lt g108
 have Z108 := Nat.le_trans Z106 E108.1
 have KP108 := KP106.ext E108
 have sz_b108 := own_gf KP106.1 g108
 have V_b108 := own_AI.new A108 (own_grdn hg107)
 refine own_go st108 ?_
 show own_End p e below s (T108.setTop (mkF m 138 _ [(.ref b108), (.ref o0)])) _ _ _
 have U114 := (U109.ext E108)
 have U115 := (((((((((((((((F_o0_places.ext E13).other W16 (Or.inr (slot_ne (Or.inr (hW 140 rfl)) (Or.inr (hW 49 rfl)) (by decide) (t := (.array .int)) (t' := (.array .long)) (by decide) (by decide)))).keep K20 (ninS ne_o0_b13 nin0)).ext E22).other W30 (Or.inr (slot_ne (Or.inr (hW 140 rfl)) (Or.inr (hW 56 rfl)) (by decide) (t := (.array .int)) (t' := (.array .int)) (by decide) (by decide)))).other W33 (Or.inr (slot_ne (Or.inr (hW 140 rfl)) (Or.inr (hW 58 rfl)) (by decide) (t := (.array .int)) (t' := .int) (by decide) (by decide)))).ext E35).other W45 (Or.inr (slot_ne (Or.inr (hW 140 rfl)) (Or.inr (hW 60 rfl)) (by decide) (t := (.array .int)) (t' := (.array .int)) (by decide) (by decide)))).ext E47).other W58 (Or.inr (slot_ne (Or.inr (hW 140 rfl)) (Or.inr (hW 62 rfl)) (by decide) (t := (.array .int)) (t' := (.array .int)) (by decide) (by decide)))).ext E60).other W72 (Or.inr (slot_ne (Or.inr (hW 140 rfl)) (Or.inr (hW 64 rfl)) (by decide) (t := (.array .int)) (t' := (.array .int)) (by decide) (by decide)))).ext E74).keep K106 (ninS ne_o0_b13 (ninS ne_o0_b22 (ninS ne_o0_b35 (ninS ne_o0_b47 (ninS ne_o0_b60 (ninS ne_o0_b74 nin0))))))).ext E108)
 obtain ⟨T116, h116, X116, e116, W116, st116⟩ := putF X108 hx hZ hown (host := "") (Or.inl (hW 139 rfl)) Via.refl e108 U115 U114 (Or.inr ⟨(hW 140 rfl), rfl, hnm⟩) (hW 36 rfl) (ty := (.array .int)) (by decide) rfl rfl (g := (mkF m 138 #[wR o0, wR o1, wR o2, wR o3, wI 3, wI mo8, wI bt11, wR b74, wI o85.1] [(.ref b108), (.ref o0)])) rfl rfl (hb hby e8_134.2.2.1)
 have Fw116 := U115.same W116
 have N116 := Fr.snoc X116 N106 g_o0
 obtain ⟨ls116, Xl116, Nl116⟩ := own_abs X116 N116
 have Z116 := Nat.le_trans Z108 (Keep.of_wr W116).1
 have KP116 := KP108.wr W116 (Or.inl (List.mem_of_getElem? (i := 0) rfl))
 refine own_go st116 ?_
 show own_End p e below s (T116.setTop (mkF m 141 _ [])) _ _ _
 refine o_aloadN Xl116 hx hby e8_134.2.2.2.1 rfl ?_
 refine o_iload Xl116 hx hby e8_134.2.2.2.2 rfl ?_
 obtain ⟨_, hg117, H⟩ := own_bnd H
 obtain ⟨T118, h118, k118, X118, e118, E118, A118, st118⟩ := newP Xl116 hx hZ (hW 34 rfl) e116 (g := (mkF m 144 #[wR o0, wR o1, wR o2, wR o3, wI 3, wI mo8, wI bt11, wR b74, wI o85.1] [(.int o85.1), (.ref o0)])) rfl (hb hby e8_144.1) rfl (own_grdn hg117) (cap := 3) (own_grdc hg117) (by decide) (by decide) (by decide)
 obtain ⟨b118, g118⟩ : ∃ z, z = h116.size := ⟨_, rfl⟩
 rw [← g118] at A118 st118
 have g_b118 := own_gf Z116 g118
 have U119 := (U114.wr W116)
 have ne_o0_b118 := own_nf U119.lt g118
 have U120 := ((U110.ext E108).wr W116)
 have ne_o2_b118 := own_nf U120.lt g118
 have U121 := ((U111.ext E108).other W116 (Ne.symm ne_o0_o3))
 have ne_o3_b118 := own_nf U121.lt g118
 have U122 := ((U112.ext E108).wr W116)
 have ne_o1_b118 := own_nf U122.lt g118
 have U123 := ((U113.ext E108).other W116 (Ne.symm ne_o0_b))
 have ne_b_b118 := own_nf U123.lt g118
 have U124 := ((P0_106.ext E108).other W116 (Ne.symm ne_o0_b13))
 have ne_b13_b118 := own_nf U124.lt g118
 have U125 := ((P1_106.ext E108).other W116 (Ne.symm ne_o0_b22))
 have ne_b22_b118 := own_nf U125.lt g118
 have U126 := ((P2_106.ext E108).other W116 (Ne.symm ne_o0_b35))
 have ne_b35_b118 := own_nf U126.lt g118
 have U127 := ((P3_106.ext E108).other W116 (Ne.symm ne_o0_b47))
 have ne_b47_b118 := own_nf U127.lt g118
 have U128 := ((P4_106.ext E108).other W116 (Ne.symm ne_o0_b60))
 have ne_b60_b118 := own_nf U128.lt g118
 have U129 := ((P5_106.ext E108).other W116 (Ne.symm ne_o0_b74))
 have ne_b74_b118 := own_nf U129.lt g118
 have U130 := (V_b108.other W116 (Ne.symm ne_o0_b108))
 have ne_b108_b118 := own_nf U130.lt g118
 have Z118 := Nat.le_trans Z116 E118.1
 have KP118 := KP116.ext E118
 have sz_b118 := own_gf KP116.1 g118
 have V_b118 := own_AI.new A118 (own_grdn hg117)
 refine own_go st118 ?_
 show own_End p e below s (T118.setTop (mkF m 146 _ [(.ref b118), (.ref o0)])) _ _ _
 have U131 := (U119.ext E118)
 have U132 := (((((((((((((((((F_o0_lastPlaces.ext E13).other W16 (Or.inr (slot_ne (Or.inr (hW 142 rfl)) (Or.inr (hW 49 rfl)) (by decide) (t := (.array .int)) (t' := (.array .long)) (by decide) (by decide)))).keep K20 (ninS ne_o0_b13 nin0)).ext E22).other W30 (Or.inr (slot_ne (Or.inr (hW 142 rfl)) (Or.inr (hW 56 rfl)) (by decide) (t := (.array .int)) (t' := (.array .int)) (by decide) (by decide)))).other W33 (Or.inr (slot_ne (Or.inr (hW 142 rfl)) (Or.inr (hW 58 rfl)) (by decide) (t := (.array .int)) (t' := .int) (by decide) (by decide)))).ext E35).other W45 (Or.inr (slot_ne (Or.inr (hW 142 rfl)) (Or.inr (hW 60 rfl)) (by decide) (t := (.array .int)) (t' := (.array .int)) (by decide) (by decide)))).ext E47).other W58 (Or.inr (slot_ne (Or.inr (hW 142 rfl)) (Or.inr (hW 62 rfl)) (by decide) (t := (.array .int)) (t' := (.array .int)) (by decide) (by decide)))).ext E60).other W72 (Or.inr (slot_ne (Or.inr (hW 142 rfl)) (Or.inr (hW 64 rfl)) (by decide) (t := (.array .int)) (t' := (.array .int)) (by decide) (by decide)))).ext E74).keep K106 (ninS ne_o0_b13 (ninS ne_o0_b22 (ninS ne_o0_b35 (ninS ne_o0_b47 (ninS ne_o0_b60 (ninS ne_o0_b74 nin0))))))).ext E108).other W116 (Or.inr (slot_ne (Or.inr (hW 142 rfl)) (Or.inr (hW 140 rfl)) (by decide) (t := (.array .int)) (t' := (.array .int)) (by decide) (by decide)))).ext E118)
 obtain ⟨T133, h133, X133, e133, W133, st133⟩ := putF X118 hx hZ hown (host := "") (Or.inl (hW 141 rfl)) Via.refl e118 U132 U131 (Or.inr ⟨(hW 142 rfl), rfl, hnm⟩) (hW 36 rfl) (ty := (.array .int)) (by decide) rfl rfl (g := (mkF m 146 #[wR o0, wR o1, wR o2, wR o3, wI 3, wI mo8, wI bt11, wR b74, wI o85.1] [(.ref b118), (.ref o0)])) rfl rfl (hb hby e8_144.2.1)
 have Fw133 := U132.same W133
 have N133 := Fr.snoc X133 Nl116 g_o0
 obtain ⟨ls133, Xl133, Nl133⟩ := own_abs X133 N133
 have Z133 := Nat.le_trans Z118 (Keep.of_wr W133).1
 have KP133 := KP118.wr W133 (Or.inl (List.mem_of_getElem? (i := 0) rfl))
 refine own_go st133 ?_
 show own_End p e below s (T133.setTop (mkF m 149 _ [])) _ _ _
 refine o_aloadN Xl133 hx hby e8_144.2.2.1 rfl ?_
 refine o_iload Xl133 hx hby e8_144.2.2.2.1 rfl ?_
 obtain ⟨_, hg134, H⟩ := own_bnd H
 obtain ⟨T135, h135, k135, X135, e135, E135, A135, st135⟩ := newP Xl133 hx hZ (hW 34 rfl) e133 (g := (mkF m 152 #[wR o0, wR o1, wR o2, wR o3, wI 3, wI mo8, wI bt11, wR b74, wI o85.1] [(.int o85.1), (.ref o0)])) rfl (hb hby e8_144.2.2.2.2) rfl (own_grdn hg134) (cap := 3) (own_grdc hg134) (by decide) (by decide) (by decide)
 obtain ⟨b135, g135⟩ : ∃ z, z = h133.size := ⟨_, rfl⟩
 rw [← g135] at A135 st135
 have g_b135 := own_gf Z133 g135
 have U136 := (U131.wr W133)
 have ne_o0_b135 := own_nf U136.lt g135
 have U137 := ((U120.ext E118).wr W133)
 have ne_o2_b135 := own_nf U137.lt g135
 have U138 := ((U121.ext E118).other W133 (Ne.symm ne_o0_o3))
 have ne_o3_b135 := own_nf U138.lt g135
 have U139 := ((U122.ext E118).wr W133)
 have ne_o1_b135 := own_nf U139.lt g135
 have U140 := ((U123.ext E118).other W133 (Ne.symm ne_o0_b))
 have ne_b_b135 := own_nf U140.lt g135
 have U141 := ((U124.ext E118).other W133 (Ne.symm ne_o0_b13))
 have ne_b13_b135 := own_nf U141.lt g135
 have U142 := ((U125.ext E118).other W133 (Ne.symm ne_o0_b22))
 have ne_b22_b135 := own_nf U142.lt g135
 have U143 := ((U126.ext E118).other W133 (Ne.symm ne_o0_b35))
 have ne_b35_b135 := own_nf U143.lt g135
 have U144 := ((U127.ext E118).other W133 (Ne.symm ne_o0_b47))
 have ne_b47_b135 := own_nf U144.lt g135
 have U145 := ((U128.ext E118).other W133 (Ne.symm ne_o0_b60))
 have ne_b60_b135 := own_nf U145.lt g135
 have U146 := ((U129.ext E118).other W133 (Ne.symm ne_o0_b74))
 have ne_b74_b135 := own_nf U146.lt g135
 have U147 := ((U130.ext E118).other W133 (Ne.symm ne_o0_b108))
 have ne_b108_b135 := own_nf U147.lt g135
 have U148 := (V_b118.other W133 (Ne.symm ne_o0_b118))
 have ne_b118_b135 := own_nf U148.lt g135
 have Z135 := Nat.le_trans Z133 E135.1
 have KP135 := KP133.ext E135
 have sz_b135 := own_gf KP133.1 g135
 have V_b135 := own_AI.new A135 (own_grdn hg134)
 refine own_go st135 ?_
 show own_End p e below s (T135.setTop (mkF m 154 _ [(.ref b135), (.ref o0)])) _ _ _
 have U149 := (U136.ext E135)
 have U150 := (((((((((((((((((((F_o0_wordsAt.ext E13).other W16 (Or.inr (slot_ne (Or.inr (hW 144 rfl)) (Or.inr (hW 49 rfl)) (by decide) (t := (.array .int)) (t' := (.array .long)) (by decide) (by decide)))).keep K20 (ninS ne_o0_b13 nin0)).ext E22).other W30 (Or.inr (slot_ne (Or.inr (hW 144 rfl)) (Or.inr (hW 56 rfl)) (by decide) (t := (.array .int)) (t' := (.array .int)) (by decide) (by decide)))).other W33 (Or.inr (slot_ne (Or.inr (hW 144 rfl)) (Or.inr (hW 58 rfl)) (by decide) (t := (.array .int)) (t' := .int) (by decide) (by decide)))).ext E35).other W45 (Or.inr (slot_ne (Or.inr (hW 144 rfl)) (Or.inr (hW 60 rfl)) (by decide) (t := (.array .int)) (t' := (.array .int)) (by decide) (by decide)))).ext E47).other W58 (Or.inr (slot_ne (Or.inr (hW 144 rfl)) (Or.inr (hW 62 rfl)) (by decide) (t := (.array .int)) (t' := (.array .int)) (by decide) (by decide)))).ext E60).other W72 (Or.inr (slot_ne (Or.inr (hW 144 rfl)) (Or.inr (hW 64 rfl)) (by decide) (t := (.array .int)) (t' := (.array .int)) (by decide) (by decide)))).ext E74).keep K106 (ninS ne_o0_b13 (ninS ne_o0_b22 (ninS ne_o0_b35 (ninS ne_o0_b47 (ninS ne_o0_b60 (ninS ne_o0_b74 nin0))))))).ext E108).other W116 (Or.inr (slot_ne (Or.inr (hW 144 rfl)) (Or.inr (hW 140 rfl)) (by decide) (t := (.array .int)) (t' := (.array .int)) (by decide) (by decide)))).ext E118).other W133 (Or.inr (slot_ne (Or.inr (hW 144 rfl)) (Or.inr (hW 142 rfl)) (by decide) (t := (.array .int)) (t' := (.array .int)) (by decide) (by decide)))).ext E135)
 obtain ⟨T151, h151, X151, e151, W151, st151⟩ := putF X135 hx hZ hown (host := "") (Or.inl (hW 143 rfl)) Via.refl e135 U150 U149 (Or.inr ⟨(hW 144 rfl), rfl, hnm⟩) (hW 36 rfl) (ty := (.array .int)) (by decide) rfl rfl (g := (mkF m 154 #[wR o0, wR o1, wR o2, wR o3, wI 3, wI mo8, wI bt11, wR b74, wI o85.1] [(.ref b135), (.ref o0)])) rfl rfl (hb hby e8_154.1)
 have Fw151 := U150.same W151
 have N151 := Fr.snoc X151 Nl133 g_o0
 obtain ⟨ls151, Xl151, Nl151⟩ := own_abs X151 N151
 have Z151 := Nat.le_trans Z135 (Keep.of_wr W151).1
 have KP151 := KP135.wr W151 (Or.inl (List.mem_of_getElem? (i := 0) rfl))
 refine own_go st151 ?_
 show own_End p e below s (T151.setTop (mkF m 157 _ [])) _ _ _
 refine o_aloadN Xl151 hx hby e8_154.2.1 rfl ?_
 refine o_aload Xl151 hx hby e8_154.2.2.1 rfl ?_
 refine o_iload Xl151 hx hby e8_154.2.2.2.1 rfl ?_
 obtain ⟨o152, ho152, H⟩ := own_bnd H
 have U153 := (U149.wr W151)
 have U154 := ((U146.ext E135).other W151 (Ne.symm ne_o0_b74))
 have U155 := (((((((U91.keep K106 (ninS ne_o0_b13 (ninS ne_o0_b22 (ninS ne_o0_b35 (ninS ne_o0_b47 (ninS ne_o0_b60 (ninS ne_o0_b74 nin0))))))).ext E108).other W116 (Or.inr (slot_ne (Or.inr (hW 62 rfl)) (Or.inr (hW 140 rfl)) (by decide) (t := (.array .int)) (t' := (.array .int)) (by decide) (by decide)))).ext E118).other W133 (Or.inr (slot_ne (Or.inr (hW 62 rfl)) (Or.inr (hW 142 rfl)) (by decide) (t := (.array .int)) (t' := (.array .int)) (by decide) (by decide)))).ext E135).other W151 (Or.inr (slot_ne (Or.inr (hW 62 rfl)) (Or.inr (hW 144 rfl)) (by decide) (t := (.array .int)) (t' := (.array .int)) (by decide) (by decide))))
 have U156 := ((U144.ext E135).other W151 (Ne.symm ne_o0_b47))
 have U157 := (((((((U90.keep K106 (ninS ne_o0_b13 (ninS ne_o0_b22 (ninS ne_o0_b35 (ninS ne_o0_b47 (ninS ne_o0_b60 (ninS ne_o0_b74 nin0))))))).ext E108).other W116 (Or.inr (slot_ne (Or.inr (hW 60 rfl)) (Or.inr (hW 140 rfl)) (by decide) (t := (.array .int)) (t' := (.array .int)) (by decide) (by decide)))).ext E118).other W133 (Or.inr (slot_ne (Or.inr (hW 60 rfl)) (Or.inr (hW 142 rfl)) (by decide) (t := (.array .int)) (t' := (.array .int)) (by decide) (by decide)))).ext E135).other W151 (Or.inr (slot_ne (Or.inr (hW 60 rfl)) (Or.inr (hW 144 rfl)) (by decide) (t := (.array .int)) (t' := (.array .int)) (by decide) (by decide))))
 have U158 := ((U143.ext E135).other W151 (Ne.symm ne_o0_b35))
 have U159 := ((((Fw116.ext E118).other W133 (Or.inr (slot_ne (Or.inr (hW 140 rfl)) (Or.inr (hW 142 rfl)) (by decide) (t := (.array .int)) (t' := (.array .int)) (by decide) (by decide)))).ext E135).other W151 (Or.inr (slot_ne (Or.inr (hW 140 rfl)) (Or.inr (hW 144 rfl)) (by decide) (t := (.array .int)) (t' := (.array .int)) (by decide) (by decide))))
 have U160 := ((U147.ext E135).other W151 (Ne.symm ne_o0_b108))
 have U161 := ((Fw133.ext E135).other W151 (Or.inr (slot_ne (Or.inr (hW 142 rfl)) (Or.inr (hW 144 rfl)) (by decide) (t := (.array .int)) (t' := (.array .int)) (by decide) (by decide))))
 have U162 := ((U148.ext E135).other W151 (Ne.symm ne_o0_b118))
 have U163 := (V_b135.other W151 (Ne.symm ne_o0_b135))
 refine o_cP Xl151 hx hZ hown (y := wy26) (hW 145 rfl) (hW 36 rfl) (hW 146 rfl) (hW 147 rfl) (hW 148 rfl) (by decide) U153 (backOf (W := 0) (rmTree l Z a0 hw [] o0 b74 (o85.1) k74 (o85.2.2.2.2.2.2) b47 k47 mo8 (o85.2.2.2.2.1) b35 k35 (o85.2.2.2.1) b108 k108 (o85.1) (List.replicate (o85.1).toNatClampNeg 0) b118 k118 (List.replicate (o85.1).toNatClampNeg 0) b135 k135 (List.replicate (o85.1).toNatClampNeg 0) o152 h151 n0 Z151 U153 U154 U155 U156 U157 U158 U159 U160 U161 U162 Fw151 U163 g_b108 g_b118 g_b135 (Ne.symm ne_o0_b108) (Ne.symm ne_b74_b108) (Ne.symm ne_b47_b108) (Ne.symm ne_b35_b108) (Ne.symm ne_o0_b118) (Ne.symm ne_b74_b118) (Ne.symm ne_b47_b118) (Ne.symm ne_b35_b118) (Ne.symm ne_o0_b135) (Ne.symm ne_b74_b135) (Ne.symm ne_b47_b135) (Ne.symm ne_b35_b135) ne_b108_b118 ne_b108_b135 ne_b118_b135 ho152) hZ (hW 148 rfl) (hW 37 rfl) (by decide) (by decide)) (by rw [hml]; rfl) (argsL := [(.ref b74), (.int o85.1)]) (rest := []) (lenOf own_pd10 rfl) rfl rfl (Nat.le_of_eq rfl) e151 (by decide) (by decide) hby e8_154.2.2.2.2 Nl151 fun T164 v164 Lc164 ls164 X164 hQ164 nq164 => ?_
 obtain ⟨⟨rfl, P0_164, P1_164, P2_164⟩, N164q, K164⟩ := hQ164
 have N164 := nq164 N164q
 have Z164 := Nat.le_trans Z151 K164.1
 show own_End p e below s (T164.setTop (mkF m 165 _ [])) _ _ _
 have KP164 := KP151.trans K164 (allS (Or.inr sz_b108) (allS (Or.inr sz_b118) (allS (Or.inr sz_b135) all0)))
 refine o_aloadN X164 hx hby e8_165.1 rfl ?_
 refine o_iconst X164 hx hby e8_165.2.1 (x := 1) rfl ?_
 refine o_iload X164 hx hby e8_165.2.2.1 rfl ?_
 refine o_cS X164 hx hZ hown (y := wy28) (hW 152 rfl) (hW 153 rfl) (hW 154 rfl) (hW 155 rfl) (by decide) (backOf (W := 1) (rmMax l Z a0 hw [] (1 : Int32) (o85.1) T164.heap n0 Z164 ) hZ (hW 155 rfl) (hW 154 rfl) (by decide) (by decide)) (by rw [hml]; rfl) (argsL := [(.int 1), (.int o85.1)]) (rest := [(.ref o0)]) (lenOf own_pd1 rfl) rfl rfl (Nat.le_of_eq rfl) rfl (by decide) (by decide) hby e8_165.2.2.2.1 N164 fun T165 v165 Lc165 ls165 X165 hQ165 nq165 => ?_
 obtain ⟨rfl, N165q, e165⟩ := hQ165
 have N165 := nq165 N165q
 show own_End p e below s (T165.setTop (mkF m 172 _ [(.int (if (1 : Int32).toInt < o85.1.toInt then o85.1 else (1 : Int32))), (.ref o0)])) _ _ _
 refine o_iconst X165 hx hby e8_165.2.2.2.2 (x := 2) rfl ?_
 refine o_imul X165 hx hby e8_173.1 ?_
 refine o_iconst X165 hx hby e8_173.2.1 (x := 1) rfl ?_
 refine o_isub X165 hx hby e8_173.2.2.1 ?_
 obtain ⟨o166, ho166, H⟩ := own_bnd H
 refine o_cS X165 hx hZ hown (y := wy29) (hW 156 rfl) (hW 157 rfl) (hW 44 rfl) (hW 158 rfl) (by decide) (backOf (W := 1) (rmHob l Z a0 hw [] (((if (1 : Int32).toInt < o85.1.toInt then o85.1 else (1 : Int32)) * (2 : Int32)) - (1 : Int32)) o166 T164.heap n0 Z164 ho166) hZ (hW 158 rfl) (hW 44 rfl) (by decide) (by decide)) (by rw [hml]; rfl) (argsL := [(.int (((if (1 : Int32).toInt < o85.1.toInt then o85.1 else (1 : Int32)) * (2 : Int32)) - (1 : Int32)))]) (rest := [(.ref o0)]) (lenOf own_pd2 rfl) rfl rfl (Nat.le_of_eq rfl) e165 (by decide) (by decide) hby e8_173.2.2.2.1 N165 fun T167 v167 Lc167 ls167 X167 hQ167 nq167 => ?_
 obtain ⟨rfl, N167q, e167⟩ := hQ167
 have N167 := nq167 N167q
 show own_End p e below s (T167.setTop (mkF m 179 _ [(.int o166), (.ref o0)])) _ _ _
 have U168 := (U153.keep K164)
 have U169 := (((((((((((((((((((((F_o0_firstLeaf.ext E13).other W16 (Or.inr (slot_ne (Or.inr (hW 162 rfl)) (Or.inr (hW 49 rfl)) (by decide) (t := .int) (t' := (.array .long)) (by decide) (by decide)))).keep K20 (ninS ne_o0_b13 nin0)).ext E22).other W30 (Or.inr (slot_ne (Or.inr (hW 162 rfl)) (Or.inr (hW 56 rfl)) (by decide) (t := .int) (t' := (.array .int)) (by decide) (by decide)))).other W33 (Or.inr (slot_ne (Or.inr (hW 162 rfl)) (Or.inr (hW 58 rfl)) (by decide) (t := .int) (t' := .int) (by decide) (by decide)))).ext E35).other W45 (Or.inr (slot_ne (Or.inr (hW 162 rfl)) (Or.inr (hW 60 rfl)) (by decide) (t := .int) (t' := (.array .int)) (by decide) (by decide)))).ext E47).other W58 (Or.inr (slot_ne (Or.inr (hW 162 rfl)) (Or.inr (hW 62 rfl)) (by decide) (t := .int) (t' := (.array .int)) (by decide) (by decide)))).ext E60).other W72 (Or.inr (slot_ne (Or.inr (hW 162 rfl)) (Or.inr (hW 64 rfl)) (by decide) (t := .int) (t' := (.array .int)) (by decide) (by decide)))).ext E74).keep K106 (ninS ne_o0_b13 (ninS ne_o0_b22 (ninS ne_o0_b35 (ninS ne_o0_b47 (ninS ne_o0_b60 (ninS ne_o0_b74 nin0))))))).ext E108).other W116 (Or.inr (slot_ne (Or.inr (hW 162 rfl)) (Or.inr (hW 140 rfl)) (by decide) (t := .int) (t' := (.array .int)) (by decide) (by decide)))).ext E118).other W133 (Or.inr (slot_ne (Or.inr (hW 162 rfl)) (Or.inr (hW 142 rfl)) (by decide) (t := .int) (t' := (.array .int)) (by decide) (by decide)))).ext E135).other W151 (Or.inr (slot_ne (Or.inr (hW 162 rfl)) (Or.inr (hW 144 rfl)) (by decide) (t := .int) (t' := (.array .int)) (by decide) (by decide)))).keep K164 (ninS ne_o0_b108 (ninS ne_o0_b118 (ninS ne_o0_b135 nin0))))
 obtain ⟨T170, h170, X170, e170, W170, st170⟩ := putF X167 hx hZ hown (host := "") (Or.inl (hW 161 rfl)) Via.refl e167 U169 U168 (Or.inr ⟨(hW 162 rfl), rfl, hnm⟩) (hW 36 rfl) (ty := .int) (by decide) rfl rfl (g := (mkF m 179 #[wR o0, wR o1, wR o2, wR o3, wI 3, wI mo8, wI bt11, wR b74, wI o85.1] [(.int o166), (.ref o0)])) rfl rfl (hb hby e8_173.2.2.2.2)
 have Fw170 := U169.same W170
 have N170 := Fr.snoc X170 N167 g_o0
 obtain ⟨ls170, Xl170, Nl170⟩ := own_abs X170 N170
 have Z170 := Nat.le_trans Z164 (Keep.of_wr W170).1
 have KP170 := KP164.wr W170 (Or.inl (List.mem_of_getElem? (i := 0) rfl))
 refine own_go st170 ?_
 show own_End p e below s (T170.setTop (mkF m 182 _ [])) _ _ _
 refine o_aloadN Xl170 hx hby e8_182.1 rfl ?_
 refine o_iconst Xl170 hx hby e8_182.2.1 (x := 2) rfl ?_
 refine o_aloadN Xl170 hx hby e8_182.2.2.1 rfl ?_
 refine o_getF Xl170 hx hZ hown (host := "") (Or.inl (hW 161 rfl)) Via.refl e170 Fw170 hby e8_182.2.2.2.1 fun T171 X171 e171 => ?_
 refine o_imul X171 hx hby e8_182.2.2.2.2 ?_
 obtain ⟨_, hg172, H⟩ := own_bnd H
 obtain ⟨T173, h173, k173, X173, e173, E173, A173, st173⟩ := newP X171 hx hZ (hW 34 rfl) e171 (g := (mkF m 189 #[wR o0, wR o1, wR o2, wR o3, wI 3, wI mo8, wI bt11, wR b74, wI o85.1] [(.int ((2 : Int32) * o166)), (.ref o0)])) rfl (hb hby e8_189.1) rfl (own_grdn hg172) (cap := 8) (own_grdc hg172) (by decide) (by decide) (by decide)
 obtain ⟨b173, g173⟩ : ∃ z, z = h170.size := ⟨_, rfl⟩
 rw [← g173] at A173 st173
 have g_b173 := own_gf Z170 g173
 have U174 := (U168.wr W170)
 have ne_o0_b173 := own_nf U174.lt g173
 have U175 := ((((U137.ext E135).wr W151).keep K164).wr W170)
 have ne_o2_b173 := own_nf U175.lt g173
 have U176 := ((((U138.ext E135).other W151 (Ne.symm ne_o0_o3)).keep K164 (ninS ne_o3_b108 (ninS ne_o3_b118 (ninS ne_o3_b135 nin0)))).other W170 (Ne.symm ne_o0_o3))
 have ne_o3_b173 := own_nf U176.lt g173
 have U177 := ((((U139.ext E135).wr W151).keep K164).wr W170)
 have ne_o1_b173 := own_nf U177.lt g173
 have U178 := ((((U140.ext E135).other W151 (Ne.symm ne_o0_b)).keep K164 (ninS ne_b_b108 (ninS ne_b_b118 (ninS ne_b_b135 nin0)))).other W170 (Ne.symm ne_o0_b))
 have ne_b_b173 := own_nf U178.lt g173
 have U179 := ((((U141.ext E135).other W151 (Ne.symm ne_o0_b13)).keep K164 (ninS ne_b13_b108 (ninS ne_b13_b118 (ninS ne_b13_b135 nin0)))).other W170 (Ne.symm ne_o0_b13))
 have ne_b13_b173 := own_nf U179.lt g173
 have U180 := ((((U142.ext E135).other W151 (Ne.symm ne_o0_b22)).keep K164 (ninS ne_b22_b108 (ninS ne_b22_b118 (ninS ne_b22_b135 nin0)))).other W170 (Ne.symm ne_o0_b22))
 have ne_b22_b173 := own_nf U180.lt g173
 have U181 := ((U158.keep K164 (ninS ne_b35_b108 (ninS ne_b35_b118 (ninS ne_b35_b135 nin0)))).other W170 (Ne.symm ne_o0_b35))
 have ne_b35_b173 := own_nf U181.lt g173
 have U182 := ((U156.keep K164 (ninS ne_b47_b108 (ninS ne_b47_b118 (ninS ne_b47_b135 nin0)))).other W170 (Ne.symm ne_o0_b47))
 have ne_b47_b173 := own_nf U182.lt g173
 have U183 := ((((U145.ext E135).other W151 (Ne.symm ne_o0_b60)).keep K164 (ninS ne_b60_b108 (ninS ne_b60_b118 (ninS ne_b60_b135 nin0)))).other W170 (Ne.symm ne_o0_b60))
 have ne_b60_b173 := own_nf U183.lt g173
 have U184 := ((U154.keep K164 (ninS ne_b74_b108 (ninS ne_b74_b118 (ninS ne_b74_b135 nin0)))).other W170 (Ne.symm ne_o0_b74))
 have ne_b74_b173 := own_nf U184.lt g173
 have U185 := (P0_164.other W170 (Ne.symm ne_o0_b108))
 have ne_b108_b173 := own_nf U185.lt g173
 have U186 := (P1_164.other W170 (Ne.symm ne_o0_b118))
 have ne_b118_b173 := own_nf U186.lt g173
 have U187 := (P2_164.other W170 (Ne.symm ne_o0_b135))
 have ne_b135_b173 := own_nf U187.lt g173
 have Z173 := Nat.le_trans Z170 E173.1
 have KP173 := KP170.ext E173
 have sz_b173 := own_gf KP170.1 g173
 have V_b173 := own_AI.new A173 (own_grdn hg172)
 refine own_go st173 ?_
 show own_End p e below s (T173.setTop (mkF m 191 _ [(.ref b173), (.ref o0)])) _ _ _
 have U188 := (U174.ext E173)
 have U189 := (((((((((((((((((((((((F_o0_marks.ext E13).other W16 (Or.inr (slot_ne (Or.inr (hW 164 rfl)) (Or.inr (hW 49 rfl)) (by decide) (t := (.array .int)) (t' := (.array .long)) (by decide) (by decide)))).keep K20 (ninS ne_o0_b13 nin0)).ext E22).other W30 (Or.inr (slot_ne (Or.inr (hW 164 rfl)) (Or.inr (hW 56 rfl)) (by decide) (t := (.array .int)) (t' := (.array .int)) (by decide) (by decide)))).other W33 (Or.inr (slot_ne (Or.inr (hW 164 rfl)) (Or.inr (hW 58 rfl)) (by decide) (t := (.array .int)) (t' := .int) (by decide) (by decide)))).ext E35).other W45 (Or.inr (slot_ne (Or.inr (hW 164 rfl)) (Or.inr (hW 60 rfl)) (by decide) (t := (.array .int)) (t' := (.array .int)) (by decide) (by decide)))).ext E47).other W58 (Or.inr (slot_ne (Or.inr (hW 164 rfl)) (Or.inr (hW 62 rfl)) (by decide) (t := (.array .int)) (t' := (.array .int)) (by decide) (by decide)))).ext E60).other W72 (Or.inr (slot_ne (Or.inr (hW 164 rfl)) (Or.inr (hW 64 rfl)) (by decide) (t := (.array .int)) (t' := (.array .int)) (by decide) (by decide)))).ext E74).keep K106 (ninS ne_o0_b13 (ninS ne_o0_b22 (ninS ne_o0_b35 (ninS ne_o0_b47 (ninS ne_o0_b60 (ninS ne_o0_b74 nin0))))))).ext E108).other W116 (Or.inr (slot_ne (Or.inr (hW 164 rfl)) (Or.inr (hW 140 rfl)) (by decide) (t := (.array .int)) (t' := (.array .int)) (by decide) (by decide)))).ext E118).other W133 (Or.inr (slot_ne (Or.inr (hW 164 rfl)) (Or.inr (hW 142 rfl)) (by decide) (t := (.array .int)) (t' := (.array .int)) (by decide) (by decide)))).ext E135).other W151 (Or.inr (slot_ne (Or.inr (hW 164 rfl)) (Or.inr (hW 144 rfl)) (by decide) (t := (.array .int)) (t' := (.array .int)) (by decide) (by decide)))).keep K164 (ninS ne_o0_b108 (ninS ne_o0_b118 (ninS ne_o0_b135 nin0)))).other W170 (Or.inr (slot_ne (Or.inr (hW 164 rfl)) (Or.inr (hW 162 rfl)) (by decide) (t := (.array .int)) (t' := .int) (by decide) (by decide)))).ext E173)
 obtain ⟨T190, h190, X190, e190, W190, st190⟩ := putF X173 hx hZ hown (host := "") (Or.inl (hW 163 rfl)) Via.refl e173 U189 U188 (Or.inr ⟨(hW 164 rfl), rfl, hnm⟩) (hW 36 rfl) (ty := (.array .int)) (by decide) rfl rfl (g := (mkF m 191 #[wR o0, wR o1, wR o2, wR o3, wI 3, wI mo8, wI bt11, wR b74, wI o85.1] [(.ref b173), (.ref o0)])) rfl rfl (hb hby e8_189.2.1)
 have Fw190 := U189.same W190
 have N190 := Fr.snoc X190 Nl170 g_o0
 obtain ⟨ls190, Xl190, Nl190⟩ := own_abs X190 N190
 have Z190 := Nat.le_trans Z173 (Keep.of_wr W190).1
 have KP190 := KP173.wr W190 (Or.inl (List.mem_of_getElem? (i := 0) rfl))
 refine own_go st190 ?_
 show own_End p e below s (T190.setTop (mkF m 194 _ [])) _ _ _
 refine o_aloadN Xl190 hx hby e8_189.2.2.1 rfl ?_
 refine o_getF Xl190 hx hZ hown (host := "") (Or.inl (hW 163 rfl)) Via.refl e190 Fw190 hby e8_189.2.2.2.1 fun T191 X191 e191 => ?_
 refine o_iconst X191 hx hby e8_189.2.2.2.2 (x := (-1)) rfl ?_
 obtain ⟨o192, ho192, H⟩ := own_bnd H
 have U193 := (V_b173.other W190 (Ne.symm ne_o0_b173))
 refine o_cS X191 hx hZ hown (y := wy27) (hW 149 rfl) (hW 150 rfl) (hW 53 rfl) (hW 151 rfl) (by decide) (backOf (W := 0) (rmFillI l Z a0 hw [] b173 (-1 : Int32) k173 ((2 : Int32) * o166) (List.replicate (((2 : Int32) * o166)).toNatClampNeg 0) o192 h190 n0 Z190 U193 g_b173 ho192) hZ (hW 151 rfl) (hW 53 rfl) (by decide) (by decide)) (by rw [hml]; rfl) (argsL := [(.ref b173), (.int (-1))]) (rest := []) (lenOf own_pd10 rfl) rfl rfl (Nat.le_of_eq rfl) e191 (by decide) (by decide) hby e8_199.1 Nl190 fun T194 v194 Lc194 ls194 X194 hQ194 nq194 => ?_
 obtain ⟨⟨rfl, P0_194⟩, N194q, K194⟩ := hQ194
 have N194 := nq194 N194q
 have Z194 := Nat.le_trans Z190 K194.1
 show own_End p e below s (T194.setTop (mkF m 202 _ [])) _ _ _
 have KP194 := KP190.trans K194 (allS (Or.inr sz_b173) all0)
 obtain rfl := Option.some.inj H
 refine own_ret X194 (v := none) (fun _ => rfl) Bd.notSynchronized (fun fs hr => X194.returnOut hx Bd.returns (hb hby e8_199.2) hr) ?_ (by decide) (by decide)
 have U195 := ((U188.wr W190).keep K194)
 have U196 := ((((((((((((U87.keep K106 (ninS ne_o0_b13 (ninS ne_o0_b22 (ninS ne_o0_b35 (ninS ne_o0_b47 (ninS ne_o0_b60 (ninS ne_o0_b74 nin0))))))).ext E108).other W116 (Or.inr (slot_ne (Or.inr (hW 58 rfl)) (Or.inr (hW 140 rfl)) (by decide) (t := .int) (t' := (.array .int)) (by decide) (by decide)))).ext E118).other W133 (Or.inr (slot_ne (Or.inr (hW 58 rfl)) (Or.inr (hW 142 rfl)) (by decide) (t := .int) (t' := (.array .int)) (by decide) (by decide)))).ext E135).other W151 (Or.inr (slot_ne (Or.inr (hW 58 rfl)) (Or.inr (hW 144 rfl)) (by decide) (t := .int) (t' := (.array .int)) (by decide) (by decide)))).keep K164 (ninS ne_o0_b108 (ninS ne_o0_b118 (ninS ne_o0_b135 nin0)))).other W170 (Or.inr (slot_ne (Or.inr (hW 58 rfl)) (Or.inr (hW 162 rfl)) (by decide) (t := .int) (t' := .int) (by decide) (by decide)))).ext E173).other W190 (Or.inr (slot_ne (Or.inr (hW 58 rfl)) (Or.inr (hW 164 rfl)) (by decide) (t := .int) (t' := (.array .int)) (by decide) (by decide)))).keep K194 (ninS ne_o0_b173 nin0))
 have U197 := (((Fw170.ext E173).other W190 (Or.inr (slot_ne (Or.inr (hW 162 rfl)) (Or.inr (hW 164 rfl)) (by decide) (t := .int) (t' := (.array .int)) (by decide) (by decide)))).keep K194 (ninS ne_o0_b173 nin0))
 have U198 := ((((((((((((U88.keep K106 (ninS ne_o0_b13 (ninS ne_o0_b22 (ninS ne_o0_b35 (ninS ne_o0_b47 (ninS ne_o0_b60 (ninS ne_o0_b74 nin0))))))).ext E108).other W116 (Or.inr (slot_ne (Or.inr (hW 49 rfl)) (Or.inr (hW 140 rfl)) (by decide) (t := (.array .long)) (t' := (.array .int)) (by decide) (by decide)))).ext E118).other W133 (Or.inr (slot_ne (Or.inr (hW 49 rfl)) (Or.inr (hW 142 rfl)) (by decide) (t := (.array .long)) (t' := (.array .int)) (by decide) (by decide)))).ext E135).other W151 (Or.inr (slot_ne (Or.inr (hW 49 rfl)) (Or.inr (hW 144 rfl)) (by decide) (t := (.array .long)) (t' := (.array .int)) (by decide) (by decide)))).keep K164 (ninS ne_o0_b108 (ninS ne_o0_b118 (ninS ne_o0_b135 nin0)))).other W170 (Or.inr (slot_ne (Or.inr (hW 49 rfl)) (Or.inr (hW 162 rfl)) (by decide) (t := (.array .long)) (t' := .int) (by decide) (by decide)))).ext E173).other W190 (Or.inr (slot_ne (Or.inr (hW 49 rfl)) (Or.inr (hW 164 rfl)) (by decide) (t := (.array .long)) (t' := (.array .int)) (by decide) (by decide)))).keep K194 (ninS ne_o0_b173 nin0))
 have U199 := ((((((((((((U89.keep K106 (ninS ne_o0_b13 (ninS ne_o0_b22 (ninS ne_o0_b35 (ninS ne_o0_b47 (ninS ne_o0_b60 (ninS ne_o0_b74 nin0))))))).ext E108).other W116 (Or.inr (slot_ne (Or.inr (hW 56 rfl)) (Or.inr (hW 140 rfl)) (by decide) (t := (.array .int)) (t' := (.array .int)) (by decide) (by decide)))).ext E118).other W133 (Or.inr (slot_ne (Or.inr (hW 56 rfl)) (Or.inr (hW 142 rfl)) (by decide) (t := (.array .int)) (t' := (.array .int)) (by decide) (by decide)))).ext E135).other W151 (Or.inr (slot_ne (Or.inr (hW 56 rfl)) (Or.inr (hW 144 rfl)) (by decide) (t := (.array .int)) (t' := (.array .int)) (by decide) (by decide)))).keep K164 (ninS ne_o0_b108 (ninS ne_o0_b118 (ninS ne_o0_b135 nin0)))).other W170 (Or.inr (slot_ne (Or.inr (hW 56 rfl)) (Or.inr (hW 162 rfl)) (by decide) (t := (.array .int)) (t' := .int) (by decide) (by decide)))).ext E173).other W190 (Or.inr (slot_ne (Or.inr (hW 56 rfl)) (Or.inr (hW 164 rfl)) (by decide) (t := (.array .int)) (t' := (.array .int)) (by decide) (by decide)))).keep K194 (ninS ne_o0_b173 nin0))
 have U200 := (((((U157.keep K164 (ninS ne_o0_b108 (ninS ne_o0_b118 (ninS ne_o0_b135 nin0)))).other W170 (Or.inr (slot_ne (Or.inr (hW 60 rfl)) (Or.inr (hW 162 rfl)) (by decide) (t := (.array .int)) (t' := .int) (by decide) (by decide)))).ext E173).other W190 (Or.inr (slot_ne (Or.inr (hW 60 rfl)) (Or.inr (hW 164 rfl)) (by decide) (t := (.array .int)) (t' := (.array .int)) (by decide) (by decide)))).keep K194 (ninS ne_o0_b173 nin0))
 have U201 := (((((U155.keep K164 (ninS ne_o0_b108 (ninS ne_o0_b118 (ninS ne_o0_b135 nin0)))).other W170 (Or.inr (slot_ne (Or.inr (hW 62 rfl)) (Or.inr (hW 162 rfl)) (by decide) (t := (.array .int)) (t' := .int) (by decide) (by decide)))).ext E173).other W190 (Or.inr (slot_ne (Or.inr (hW 62 rfl)) (Or.inr (hW 164 rfl)) (by decide) (t := (.array .int)) (t' := (.array .int)) (by decide) (by decide)))).keep K194 (ninS ne_o0_b173 nin0))
 have U202 := ((((((((((((U92.keep K106 (ninS ne_o0_b13 (ninS ne_o0_b22 (ninS ne_o0_b35 (ninS ne_o0_b47 (ninS ne_o0_b60 (ninS ne_o0_b74 nin0))))))).ext E108).other W116 (Or.inr (slot_ne (Or.inr (hW 64 rfl)) (Or.inr (hW 140 rfl)) (by decide) (t := (.array .int)) (t' := (.array .int)) (by decide) (by decide)))).ext E118).other W133 (Or.inr (slot_ne (Or.inr (hW 64 rfl)) (Or.inr (hW 142 rfl)) (by decide) (t := (.array .int)) (t' := (.array .int)) (by decide) (by decide)))).ext E135).other W151 (Or.inr (slot_ne (Or.inr (hW 64 rfl)) (Or.inr (hW 144 rfl)) (by decide) (t := (.array .int)) (t' := (.array .int)) (by decide) (by decide)))).keep K164 (ninS ne_o0_b108 (ninS ne_o0_b118 (ninS ne_o0_b135 nin0)))).other W170 (Or.inr (slot_ne (Or.inr (hW 64 rfl)) (Or.inr (hW 162 rfl)) (by decide) (t := (.array .int)) (t' := .int) (by decide) (by decide)))).ext E173).other W190 (Or.inr (slot_ne (Or.inr (hW 64 rfl)) (Or.inr (hW 164 rfl)) (by decide) (t := (.array .int)) (t' := (.array .int)) (by decide) (by decide)))).keep K194 (ninS ne_o0_b173 nin0))
 have U203 := (((((U159.keep K164 (ninS ne_o0_b108 (ninS ne_o0_b118 (ninS ne_o0_b135 nin0)))).other W170 (Or.inr (slot_ne (Or.inr (hW 140 rfl)) (Or.inr (hW 162 rfl)) (by decide) (t := (.array .int)) (t' := .int) (by decide) (by decide)))).ext E173).other W190 (Or.inr (slot_ne (Or.inr (hW 140 rfl)) (Or.inr (hW 164 rfl)) (by decide) (t := (.array .int)) (t' := (.array .int)) (by decide) (by decide)))).keep K194 (ninS ne_o0_b173 nin0))
 have U204 := (((((U161.keep K164 (ninS ne_o0_b108 (ninS ne_o0_b118 (ninS ne_o0_b135 nin0)))).other W170 (Or.inr (slot_ne (Or.inr (hW 142 rfl)) (Or.inr (hW 162 rfl)) (by decide) (t := (.array .int)) (t' := .int) (by decide) (by decide)))).ext E173).other W190 (Or.inr (slot_ne (Or.inr (hW 142 rfl)) (Or.inr (hW 164 rfl)) (by decide) (t := (.array .int)) (t' := (.array .int)) (by decide) (by decide)))).keep K194 (ninS ne_o0_b173 nin0))
 have U205 := (((((Fw151.keep K164 (ninS ne_o0_b108 (ninS ne_o0_b118 (ninS ne_o0_b135 nin0)))).other W170 (Or.inr (slot_ne (Or.inr (hW 144 rfl)) (Or.inr (hW 162 rfl)) (by decide) (t := (.array .int)) (t' := .int) (by decide) (by decide)))).ext E173).other W190 (Or.inr (slot_ne (Or.inr (hW 144 rfl)) (Or.inr (hW 164 rfl)) (by decide) (t := (.array .int)) (t' := (.array .int)) (by decide) (by decide)))).keep K194 (ninS ne_o0_b173 nin0))
 have U206 := (Fw190.keep K194 (ninS ne_o0_b173 nin0))
 have U207 := (((U179.ext E173).other W190 (Ne.symm ne_o0_b13)).keep K194 (ninS ne_b13_b173 nin0))
 have U208 := (((U180.ext E173).other W190 (Ne.symm ne_o0_b22)).keep K194 (ninS ne_b22_b173 nin0))
 have U209 := (((U181.ext E173).other W190 (Ne.symm ne_o0_b35)).keep K194 (ninS ne_b35_b173 nin0))
 have U210 := (((U182.ext E173).other W190 (Ne.symm ne_o0_b47)).keep K194 (ninS ne_b47_b173 nin0))
 have U211 := (((U183.ext E173).other W190 (Ne.symm ne_o0_b60)).keep K194 (ninS ne_b60_b173 nin0))
 have U212 := (((U185.ext E173).other W190 (Ne.symm ne_o0_b108)).keep K194 (ninS ne_b108_b173 nin0))
 have U213 := (((U186.ext E173).other W190 (Ne.symm ne_o0_b118)).keep K194 (ninS ne_b118_b173 nin0))
 have U214 := (((U187.ext E173).other W190 (Ne.symm ne_o0_b135)).keep K194 (ninS ne_b135_b173 nin0))
 ·exact ⟨⟨_, _, _, _, _, _, _, _, _, _, _, _, _, _, _, _, _, _, rfl, sz_b13, sz_b22, sz_b35, sz_b47, sz_b60, sz_b108, sz_b118, sz_b135, sz_b173, U195, U196, U197, U198, U199, U200, U201, U202, U203, U204, U205, U206, U207, U208, U209, U210, U211, U212, U213, U214, P0_194, (Ne.symm ne_b13_b173), (Ne.symm ne_b22_b173), (Ne.symm ne_b35_b173), (Ne.symm ne_b47_b173), (Ne.symm ne_b60_b173), (Ne.symm ne_b108_b173), (Ne.symm ne_b118_b173), (Ne.symm ne_b135_b173)⟩, N194, KP194⟩
theorem own_pn8 : plainName "com/example/portero/portero/matching/SegmentAutomatonLongestMarkedPinLaw" = true := by first | (simp [plainName, overriddenIn]; done) | decide +kernel
theorem own_ef1_rmLet (m : MethodId) (p0 : Int32) (p1 : Int32) : entryFrame m #[(.int p0), (.int p1)] 2 = mkF m 0 #[.val (.int p0), .val (.int p1)] [] := by first | (simp [entryFrame, mkF, argsToLocals, Value.category]; done) | rfl
def Q_rmLet (Z : State) (p0 : Int32) (p1 : Int32) (out : Int32) (h0 : Heap) (n0 : Nat) (v : Option Value) (h : Heap) (L : List Loc) : Prop := (v = some (.int out) ∧ (out = 97 ∨ out = 98)) ∧ Fr n0 L ∧ h = h0
abbrev wc1 : ByteArray := method_3_code
theorem e1_0 : decode wc1 0 = .ok (.iload_n 0, 1) ∧ decode wc1 1 = .ok (.iload_n 1, 1) ∧ decode wc1 2 = .ok (.iushr, 1) ∧ decode wc1 3 = .ok (.iconst 1, 1) ∧ decode wc1 4 = .ok (.iand, 1) := by decide +kernel
theorem e1_5 : decode wc1 5 = .ok (.ifCond .ne 8, 3) ∧ decode wc1 8 = .ok (.bipush 97, 2) ∧ decode wc1 10 = .ok (.goto 5, 3) ∧ decode wc1 13 = .ok (.bipush 98, 2) ∧ decode wc1 15 = .ok (.ireturn, 1) := by decide +kernel
def F_rmLet (p0 : Int32) (p1 : Int32) : Option (Int32) := (if (((p0.toUInt32 >>> (p1 &&& 31).toUInt32).toInt32) &&& (1 : Int32)).toInt = 0 then some ((97 : Int32)) else some ((98 : Int32)))
set_option maxRecDepth 65536 in
set_option maxHeartbeats 40000000 in
theorem rmLet (l : Launch) (Z : State) (a0 : Array Value) (hw : ∀ d ∈ tables_1, d.before a0 Z = true) (ws : List Jvm.Cond) (p0 : Int32) (p1 : Int32) (out : Int32) (h0 : Heap) (n0 : Nat) (Z0 : n0 ≤ h0.size) (hF : F_rmLet p0 p1 = some out) :
  MetFree l (⟨"com/example/portero/portero/matching/SegmentAutomatonLongestMarkedPinLaw", "letter", "(II)C"⟩ : MethodName) (head1 (Jvm.Cond.code (⟨"com/example/portero/portero/matching/SegmentAutomatonLongestMarkedPinLaw", "letter", "(II)C"⟩ : MethodName) method_3_code 2 (some .char) :: ws) ({ frames := 0, cells := 0, slots := 0, locals := 0 } : Room)) (fun a U => a = #[(.int p0), (.int p1)] ∧ Z.Warmed39 U.vm ∧ U.heap = h0) (fun _ _ _ _ _ => True) (fun _ U o U' => ∃ v L, o = .returned v ∧ Q_rmLet Z p0 p1 out h0 n0 v U'.heap L ∧ FrameEnd U o U' L ({ frames := 0, cells := 0, slots := 0, locals := 0 } : Room).cells ({ frames := 0, cells := 0, slots := 0, locals := 0 } : Room).slots) := by
 refine MetFree.of_bodySF (plainFor_of_name own_pn8) hisR ?_
 intro p e s m args below meth c s₁ Bd hml0 hP hK
 obtain ⟨rfl, hZ, hh⟩ := hP
 have hW := @own_hW a0 Z hw
 have hx := Bd.exec
 have hby := Bd.bytes
 have hml : c.maxLocals = 2 := hml0
 have hown : s.vm.findClass "com/example/portero/portero/matching/SegmentAutomatonLongestMarkedPinLaw" = some m.cls := findClass_of_methodNamed Bd.named
 have hnm := (name_of_methodNamed Bd.named Bd.method).1
 have X0 : Stand p l e ({ frames := 0, cells := 0, slots := 0, locals := 0 } : Room) s m #[(.int p0), (.int p1)] below meth c s₁ [] 0 0 := Stand.of_body Bd
 have e0 : s₁.heap = h0 := by rw [← hh, Bd.state]; rfl
 have N0 := Fr.nil n0
 refine (show own_End p e below s (s₁.setTop (entryFrame m #[(.int p0), (.int p1)] 2)) (Q_rmLet Z p0 p1 out h0 n0) ({ frames := 0, cells := 0, slots := 0, locals := 0 } : Room).cells ({ frames := 0, cells := 0, slots := 0, locals := 0 } : Room).slots from ?_)
 refine own_go (fun τ κ => castTop (own_ef1_rmLet m p0 p1) κ) ?_
 have li0 : (0 : Int32).toInt = 0 := rfl
 have li1 : (1 : Int32).toInt = 1 := rfl
 show own_End p e below s (s₁.setTop (mkF m 0 #[wI p0, wI p1] [])) _ _ _
 have H := hF
 refine o_iloadN X0 hx hby e1_0.1 rfl ?_
 refine o_iloadN X0 hx hby e1_0.2.1 rfl ?_
 refine o_iushr X0 hx hby e1_0.2.2.1 ?_
 refine o_iconst X0 hx hby e1_0.2.2.2.1 (x := 1) rfl ?_
 refine o_iand X0 hx hby e1_0.2.2.2.2 ?_
 by_cases c5_1 : (((p0.toUInt32 >>> (p1 &&& 31).toUInt32).toInt32) &&& (1 : Int32)).toInt = 0
 ·skip
  replace H := own_ifp c5_1 H
  refine o_ifNo X0 hx hby e1_5.1 ((if0 _ _).trans (own_eq (x := (((p0.toUInt32 >>> (p1 &&& 31).toUInt32).toInt32) &&& (1 : Int32))) (y := 0) (i := (((p0.toUInt32 >>> (p1 &&& 31).toUInt32).toInt32) &&& (1 : Int32)).toInt) (j := 0) rfl rfl c5_1).2) ?_
  refine o_bipush X0 hx hby e1_5.2.1 (x := 97) rfl ?_
  refine o_goto X0 hx (pc0 := 10) (pc' := 15) rfl hby e1_5.2.2.1 (by decide) (by decide) ?_
  obtain rfl := Option.some.inj H
  refine own_ret X0 (v := some (.int 97)) (fun h => by rw [Bd.returns] at h; cases h) Bd.notSynchronized (fun fs hr => retN X0 hx (t := .char) Bd.returns (by simp) (hb hby e1_5.2.2.2.2) hr) ?_ (by decide) (by decide)
  ·rw [e0]; exact ⟨⟨rfl, (Or.inl rfl)⟩, N0, rfl⟩
 ·skip
  replace H := own_ifn c5_1 H
  refine o_ifYes X0 hx (pc0 := 5) (pc' := 13) rfl hby e1_5.1 ((if0 _ _).trans (own_ne (x := (((p0.toUInt32 >>> (p1 &&& 31).toUInt32).toInt32) &&& (1 : Int32))) (y := 0) (i := (((p0.toUInt32 >>> (p1 &&& 31).toUInt32).toInt32) &&& (1 : Int32)).toInt) (j := 0) rfl rfl c5_1).2) (by decide) (by decide) ?_
  refine o_bipush X0 hx hby e1_5.2.2.2.1 (x := 98) rfl ?_
  obtain rfl := Option.some.inj H
  refine own_ret X0 (v := some (.int 98)) (fun h => by rw [Bd.returns] at h; cases h) Bd.notSynchronized (fun fs hr => retN X0 hx (t := .char) Bd.returns (by simp) (hb hby e1_5.2.2.2.2) hr) ?_ (by decide) (by decide)
  ·rw [e0]; exact ⟨⟨rfl, (Or.inr rfl)⟩, N0, rfl⟩
theorem own_ef34_rmSuf (m : MethodId) (o0 : Addr) (p1 : Int32) (p2 : Int32) (o3 : Addr) (p4 : Int32) : entryFrame m #[(.ref o0), (.int p1), (.int p2), (.ref o3), (.int p4)] 6 = mkF m 0 #[.val (.ref o0), .val (.int p1), .val (.int p2), .val (.ref o3), .val (.int p4), .unset] [] := by first | (simp [entryFrame, mkF, argsToLocals, Value.category]; done) | rfl
def Q_rmSuf (Z : State) (o0 : Addr) (p1 : Int32) (p2 : Int32) (o3 : Addr) (p4 : Int32) (k0 : ClassId) (C9 : List Int32) (k3 : ClassId) (C3 : List Int32) (out : Int32) (h0 : Heap) (n0 : Nat) (v : Option Value) (h : Heap) (L : List Loc) : Prop := (v = some (.int out)) ∧ Fr n0 L ∧ h = h0
abbrev wc34 : ByteArray := method_4_code
theorem e34_0 : decode wc34 0 = .ok (.iload_n 2, 1) ∧ decode wc34 1 = .ok (.iload 4, 2) ∧ decode wc34 3 = .ok (.if_icmp .le 5, 3) ∧ decode wc34 6 = .ok (.iconst 0, 1) ∧ decode wc34 7 = .ok (.ireturn, 1) := by decide +kernel
theorem e34_8 : decode wc34 8 = .ok (.aload_n 0, 1) ∧ decode wc34 9 = .ok (.iload_n 1, 1) ∧ decode wc34 10 = .ok (.caload, 1) ∧ decode wc34 11 = .ok (.aload_n 3, 1) ∧ decode wc34 12 = .ok (.iload 4, 2) := by decide +kernel
theorem e34_14 : decode wc34 14 = .ok (.iload_n 2, 1) ∧ decode wc34 15 = .ok (.isub, 1) ∧ decode wc34 16 = .ok (.caload, 1) ∧ decode wc34 17 = .ok (.if_icmp .ne 7, 3) ∧ decode wc34 20 = .ok (.iconst 1, 1) := by decide +kernel
theorem e34_21 : decode wc34 21 = .ok (.goto 4, 3) ∧ decode wc34 24 = .ok (.iconst 0, 1) ∧ decode wc34 25 = .ok (.istore 5, 2) ∧ decode wc34 27 = .ok (.iload_n 2, 1) ∧ decode wc34 28 = .ok (.iconst 2, 1) := by decide +kernel
theorem e34_29 : decode wc34 29 = .ok (.if_icmp .lt 31, 3) ∧ decode wc34 32 = .ok (.iload 5, 2) ∧ decode wc34 34 = .ok (.ifCond .eq 23, 3) ∧ decode wc34 37 = .ok (.aload_n 0, 1) ∧ decode wc34 38 = .ok (.iload_n 1, 1) := by decide +kernel
theorem e34_60 : decode wc34 60 = .ok (.iload_n 2, 1) ∧ decode wc34 61 = .ok (.iconst 3, 1) ∧ decode wc34 62 = .ok (.if_icmp .lt 31, 3) ∧ decode wc34 65 = .ok (.iload 5, 2) ∧ decode wc34 67 = .ok (.ifCond .eq 23, 3) := by decide +kernel
theorem e34_90 : decode wc34 90 = .ok (.iconst 0, 1) ∧ decode wc34 91 = .ok (.istore 5, 2) ∧ decode wc34 93 = .ok (.iload 5, 2) ∧ decode wc34 95 = .ok (.ireturn, 1) := by decide +kernel
theorem e34_70 : decode wc34 70 = .ok (.aload_n 0, 1) ∧ decode wc34 71 = .ok (.iload_n 1, 1) ∧ decode wc34 72 = .ok (.iconst 2, 1) ∧ decode wc34 73 = .ok (.iadd, 1) ∧ decode wc34 74 = .ok (.caload, 1) := by decide +kernel
theorem e34_75 : decode wc34 75 = .ok (.aload_n 3, 1) ∧ decode wc34 76 = .ok (.iload 4, 2) ∧ decode wc34 78 = .ok (.iload_n 2, 1) ∧ decode wc34 79 = .ok (.isub, 1) ∧ decode wc34 80 = .ok (.iconst 2, 1) := by decide +kernel
theorem e34_81 : decode wc34 81 = .ok (.iadd, 1) ∧ decode wc34 82 = .ok (.caload, 1) ∧ decode wc34 83 = .ok (.if_icmp .ne 7, 3) ∧ decode wc34 86 = .ok (.iconst 1, 1) ∧ decode wc34 87 = .ok (.goto 4, 3) := by decide +kernel
theorem e34_39 : decode wc34 39 = .ok (.iconst 1, 1) ∧ decode wc34 40 = .ok (.iadd, 1) ∧ decode wc34 41 = .ok (.caload, 1) ∧ decode wc34 42 = .ok (.aload_n 3, 1) ∧ decode wc34 43 = .ok (.iload 4, 2) := by decide +kernel
theorem e34_45 : decode wc34 45 = .ok (.iload_n 2, 1) ∧ decode wc34 46 = .ok (.isub, 1) ∧ decode wc34 47 = .ok (.iconst 1, 1) ∧ decode wc34 48 = .ok (.iadd, 1) ∧ decode wc34 49 = .ok (.caload, 1) := by decide +kernel
theorem e34_50 : decode wc34 50 = .ok (.if_icmp .ne 7, 3) ∧ decode wc34 53 = .ok (.iconst 1, 1) ∧ decode wc34 54 = .ok (.goto 4, 3) ∧ decode wc34 57 = .ok (.iconst 0, 1) ∧ decode wc34 58 = .ok (.istore 5, 2) := by decide +kernel
def F_rmSuf (p1 : Int32) (p2 : Int32) (p4 : Int32) (C9 : List Int32) (C3 : List Int32) : Option (Int32) := (if p4.toInt < p2.toInt then some ((0 : Int32)) else (own_get C9 p1).bind fun v2 => ((own_get C3 (p4 - p2)).bind fun v3 => ((if v2.toInt = v3.toInt then (if p2.toInt < 2 then (if p2.toInt < 3 then some ((1 : Int32)) else (own_get C9 (p1 + (2 : Int32))).bind fun v7 => ((own_get C3 ((p4 - p2) + (2 : Int32))).bind fun v8 => ((if v7.toInt = v8.toInt then some ((1 : Int32)) else some ((0 : Int32)))))) else (own_get C9 (p1 + (1 : Int32))).bind fun v10 => ((own_get C3 ((p4 - p2) + (1 : Int32))).bind fun v11 => ((if v10.toInt = v11.toInt then (if p2.toInt < 3 then some ((1 : Int32)) else (own_get C9 (p1 + (2 : Int32))).bind fun v14 => ((own_get C3 ((p4 - p2) + (2 : Int32))).bind fun v15 => ((if v14.toInt = v15.toInt then some ((1 : Int32)) else some ((0 : Int32)))))) else (if p2.toInt < 3 then some ((0 : Int32)) else some ((0 : Int32))))))) else (if p2.toInt < 2 then (if p2.toInt < 3 then some ((0 : Int32)) else some ((0 : Int32))) else (if p2.toInt < 3 then some ((0 : Int32)) else some ((0 : Int32))))))))
set_option maxRecDepth 65536 in
set_option maxHeartbeats 40000000 in
theorem rmSuf (l : Launch) (Z : State) (a0 : Array Value) (hw : ∀ d ∈ tables_1, d.before a0 Z = true) (ws : List Jvm.Cond) (o0 : Addr) (p1 : Int32) (p2 : Int32) (o3 : Addr) (p4 : Int32) (k0 : ClassId) (C9 : List Int32) (k3 : ClassId) (C3 : List Int32) (out : Int32) (h0 : Heap) (n0 : Nat) (Z0 : n0 ≤ h0.size) (V_o0 : own_AC Z h0 o0 k0 (9 : Int32) C9) (V_o3 : own_AC Z h0 o3 k3 (3 : Int32) C3) (hF : F_rmSuf p1 p2 p4 C9 C3 = some out) :
  MetFree l (⟨"com/example/portero/portero/matching/SegmentAutomatonLongestMarkedPinLaw", "isSuffix", "([CII[CI)Z"⟩ : MethodName) (head1 (Jvm.Cond.code (⟨"com/example/portero/portero/matching/SegmentAutomatonLongestMarkedPinLaw", "isSuffix", "([CII[CI)Z"⟩ : MethodName) method_4_code 6 (some .boolean) :: ws) ({ frames := 0, cells := 0, slots := 0, locals := 0 } : Room)) (fun a U => a = #[(.ref o0), (.int p1), (.int p2), (.ref o3), (.int p4)] ∧ Z.Warmed39 U.vm ∧ U.heap = h0) (fun _ _ _ _ _ => True) (fun _ U o U' => ∃ v L, o = .returned v ∧ Q_rmSuf Z o0 p1 p2 o3 p4 k0 C9 k3 C3 out h0 n0 v U'.heap L ∧ FrameEnd U o U' L ({ frames := 0, cells := 0, slots := 0, locals := 0 } : Room).cells ({ frames := 0, cells := 0, slots := 0, locals := 0 } : Room).slots) := by
 refine MetFree.of_bodySF (plainFor_of_name own_pn8) hisR ?_
 intro p e s m args below meth c s₁ Bd hml0 hP hK
 obtain ⟨rfl, hZ, hh⟩ := hP
 have hW := @own_hW a0 Z hw
 have hx := Bd.exec
 have hby := Bd.bytes
 have hml : c.maxLocals = 6 := hml0
 have hown : s.vm.findClass "com/example/portero/portero/matching/SegmentAutomatonLongestMarkedPinLaw" = some m.cls := findClass_of_methodNamed Bd.named
 have hnm := (name_of_methodNamed Bd.named Bd.method).1
 have X0 : Stand p l e ({ frames := 0, cells := 0, slots := 0, locals := 0 } : Room) s m #[(.ref o0), (.int p1), (.int p2), (.ref o3), (.int p4)] below meth c s₁ [] 0 0 := Stand.of_body Bd
 have e0 : s₁.heap = h0 := by rw [← hh, Bd.state]; rfl
 have N0 := Fr.nil n0
 refine (show own_End p e below s (s₁.setTop (entryFrame m #[(.ref o0), (.int p1), (.int p2), (.ref o3), (.int p4)] 6)) (Q_rmSuf Z o0 p1 p2 o3 p4 k0 C9 k3 C3 out h0 n0) ({ frames := 0, cells := 0, slots := 0, locals := 0 } : Room).cells ({ frames := 0, cells := 0, slots := 0, locals := 0 } : Room).slots from ?_)
 refine own_go (fun τ κ => castTop (own_ef34_rmSuf m o0 p1 p2 o3 p4) κ) ?_
 have li0 : (0 : Int32).toInt = 0 := rfl
 have li1 : (1 : Int32).toInt = 1 := rfl
 show own_End p e below s (s₁.setTop (mkF m 0 #[wR o0, wI p1, wI p2, wR o3, wI p4, wU] [])) _ _ _
 have H := hF
 refine o_iloadN X0 hx hby e34_0.1 rfl ?_
 refine o_iload X0 hx hby e34_0.2.1 rfl ?_
 by_cases c3_1 : p4.toInt < p2.toInt
 ·skip
  replace H := own_ifp c3_1 H
  refine o_icmpNo X0 hx hby e34_0.2.2.1 (own_tlt (x := p4) (y := p2) (i := p4.toInt) (j := p2.toInt) rfl rfl c3_1).2.2.2 ?_
  refine o_iconst X0 hx hby e34_0.2.2.2.1 (x := 0) rfl ?_
  obtain rfl := Option.some.inj H
  refine own_ret X0 (v := some (.int 0)) (fun h => by rw [Bd.returns] at h; cases h) Bd.notSynchronized (fun fs hr => retN X0 hx (t := .boolean) Bd.returns (by simp) (hb hby e34_0.2.2.2.2) hr) ?_ (by decide) (by decide)
  ·rw [e0]; exact ⟨rfl, N0, rfl⟩
 ·skip
  replace H := own_ifn c3_1 H
  refine o_icmpYes X0 hx (pc0 := 3) (pc' := 8) rfl hby e34_0.2.2.1 (own_flt (x := p4) (y := p2) (i := p4.toInt) (j := p2.toInt) rfl rfl c3_1).2.2.2 (by decide) (by decide) ?_
  refine o_aloadN X0 hx hby e34_8.1 rfl ?_
  refine o_iloadN X0 hx hby e34_8.2.1 rfl ?_
  obtain ⟨v2, hv2, H⟩ := own_bnd H
  refine o_ldC X0 hx hZ e0 V_o0 hv2 hby e34_8.2.2.1 ?_
  refine o_aloadN X0 hx hby e34_8.2.2.2.1 rfl ?_
  refine o_iload X0 hx hby e34_8.2.2.2.2 rfl ?_
  refine o_iloadN X0 hx hby e34_14.1 rfl ?_
  refine o_isub X0 hx hby e34_14.2.1 ?_
  obtain ⟨v3, hv3, H⟩ := own_bnd H
  refine o_ldC X0 hx hZ e0 V_o3 hv3 hby e34_14.2.2.1 ?_
  by_cases c17_4 : v2.toInt = v3.toInt
  ·skip
   replace H := own_ifp c17_4 H
   refine o_icmpNo X0 hx hby e34_14.2.2.2.1 (own_eq (x := v2) (y := v3) (i := v2.toInt) (j := v3.toInt) rfl rfl c17_4).2 ?_
   refine o_iconst X0 hx hby e34_14.2.2.2.2 (x := 1) rfl ?_
   refine o_goto X0 hx (pc0 := 21) (pc' := 25) rfl hby e34_21.1 (by decide) (by decide) ?_
   refine o_istore X0 hx hby e34_21.2.2.1 (l' := #[wR o0, wI p1, wI p2, wR o3, wI p4, wI 1]) rfl ?_
   refine o_iloadN X0 hx hby e34_21.2.2.2.1 rfl ?_
   refine o_iconst X0 hx hby e34_21.2.2.2.2 (x := 2) rfl ?_
   by_cases c29_5 : p2.toInt < 2
   ·skip
    replace H := own_ifp c29_5 H
    refine o_icmpYes X0 hx (pc0 := 29) (pc' := 60) rfl hby e34_29.1 (own_tlt (x := p2) (y := 2) (i := p2.toInt) (j := 2) rfl rfl c29_5).1 (by decide) (by decide) ?_
    refine o_iloadN X0 hx hby e34_60.1 rfl ?_
    refine o_iconst X0 hx hby e34_60.2.1 (x := 3) rfl ?_
    by_cases c62_6 : p2.toInt < 3
    ·skip
     replace H := own_ifp c62_6 H
     refine o_icmpYes X0 hx (pc0 := 62) (pc' := 93) rfl hby e34_60.2.2.1 (own_tlt (x := p2) (y := 3) (i := p2.toInt) (j := 3) rfl rfl c62_6).1 (by decide) (by decide) ?_
     refine o_iload X0 hx hby e34_90.2.2.1 rfl ?_
     obtain rfl := Option.some.inj H
     refine own_ret X0 (v := some (.int 1)) (fun h => by rw [Bd.returns] at h; cases h) Bd.notSynchronized (fun fs hr => retN X0 hx (t := .boolean) Bd.returns (by simp) (hb hby e34_90.2.2.2) hr) ?_ (by decide) (by decide)
     ·rw [e0]; exact ⟨rfl, N0, rfl⟩
    ·skip
     replace H := own_ifn c62_6 H
     refine o_icmpNo X0 hx hby e34_60.2.2.1 (own_flt (x := p2) (y := 3) (i := p2.toInt) (j := 3) rfl rfl c62_6).1 ?_
     refine o_iload X0 hx hby e34_60.2.2.2.1 rfl ?_
     refine o_ifNo X0 hx hby e34_60.2.2.2.2 ((if0 _ _).trans (own_ne (x := 1) (y := 0) (i := 1) (j := 0) rfl rfl (by decide)).1) ?_
     refine o_aloadN X0 hx hby e34_70.1 rfl ?_
     refine o_iloadN X0 hx hby e34_70.2.1 rfl ?_
     refine o_iconst X0 hx hby e34_70.2.2.1 (x := 2) rfl ?_
     refine o_iadd X0 hx hby e34_70.2.2.2.1 ?_
     obtain ⟨v7, hv7, H⟩ := own_bnd H
     refine o_ldC X0 hx hZ e0 V_o0 hv7 hby e34_70.2.2.2.2 ?_
     refine o_aloadN X0 hx hby e34_75.1 rfl ?_
     refine o_iload X0 hx hby e34_75.2.1 rfl ?_
     refine o_iloadN X0 hx hby e34_75.2.2.1 rfl ?_
     refine o_isub X0 hx hby e34_75.2.2.2.1 ?_
     refine o_iconst X0 hx hby e34_75.2.2.2.2 (x := 2) rfl ?_
     refine o_iadd X0 hx hby e34_81.1 ?_
     obtain ⟨v8, hv8, H⟩ := own_bnd H
     refine o_ldC X0 hx hZ e0 V_o3 hv8 hby e34_81.2.1 ?_
     by_cases c83_9 : v7.toInt = v8.toInt
     ·skip
      replace H := own_ifp c83_9 H
      refine o_icmpNo X0 hx hby e34_81.2.2.1 (own_eq (x := v7) (y := v8) (i := v7.toInt) (j := v8.toInt) rfl rfl c83_9).2 ?_
      refine o_iconst X0 hx hby e34_81.2.2.2.1 (x := 1) rfl ?_
      refine o_goto X0 hx (pc0 := 87) (pc' := 91) rfl hby e34_81.2.2.2.2 (by decide) (by decide) ?_
      refine o_istore X0 hx hby e34_90.2.1 (l' := #[wR o0, wI p1, wI p2, wR o3, wI p4, wI 1]) rfl ?_
      refine o_iload X0 hx hby e34_90.2.2.1 rfl ?_
      obtain rfl := Option.some.inj H
      refine own_ret X0 (v := some (.int 1)) (fun h => by rw [Bd.returns] at h; cases h) Bd.notSynchronized (fun fs hr => retN X0 hx (t := .boolean) Bd.returns (by simp) (hb hby e34_90.2.2.2) hr) ?_ (by decide) (by decide)
      ·rw [e0]; exact ⟨rfl, N0, rfl⟩
     ·skip
      replace H := own_ifn c83_9 H
      refine o_icmpYes X0 hx (pc0 := 83) (pc' := 90) rfl hby e34_81.2.2.1 (own_ne (x := v7) (y := v8) (i := v7.toInt) (j := v8.toInt) rfl rfl c83_9).2 (by decide) (by decide) ?_
      refine o_iconst X0 hx hby e34_90.1 (x := 0) rfl ?_
      refine o_istore X0 hx hby e34_90.2.1 (l' := #[wR o0, wI p1, wI p2, wR o3, wI p4, wI 0]) rfl ?_
      refine o_iload X0 hx hby e34_90.2.2.1 rfl ?_
      obtain rfl := Option.some.inj H
      refine own_ret X0 (v := some (.int 0)) (fun h => by rw [Bd.returns] at h; cases h) Bd.notSynchronized (fun fs hr => retN X0 hx (t := .boolean) Bd.returns (by simp) (hb hby e34_90.2.2.2) hr) ?_ (by decide) (by decide)
      ·rw [e0]; exact ⟨rfl, N0, rfl⟩
   ·skip
    replace H := own_ifn c29_5 H
    refine o_icmpNo X0 hx hby e34_29.1 (own_flt (x := p2) (y := 2) (i := p2.toInt) (j := 2) rfl rfl c29_5).1 ?_
    refine o_iload X0 hx hby e34_29.2.1 rfl ?_
    refine o_ifNo X0 hx hby e34_29.2.2.1 ((if0 _ _).trans (own_ne (x := 1) (y := 0) (i := 1) (j := 0) rfl rfl (by decide)).1) ?_
    refine o_aloadN X0 hx hby e34_29.2.2.2.1 rfl ?_
    refine o_iloadN X0 hx hby e34_29.2.2.2.2 rfl ?_
    refine o_iconst X0 hx hby e34_39.1 (x := 1) rfl ?_
    refine o_iadd X0 hx hby e34_39.2.1 ?_
    obtain ⟨v10, hv10, H⟩ := own_bnd H
    refine o_ldC X0 hx hZ e0 V_o0 hv10 hby e34_39.2.2.1 ?_
    refine o_aloadN X0 hx hby e34_39.2.2.2.1 rfl ?_
    refine o_iload X0 hx hby e34_39.2.2.2.2 rfl ?_
    refine o_iloadN X0 hx hby e34_45.1 rfl ?_
    refine o_isub X0 hx hby e34_45.2.1 ?_
    refine o_iconst X0 hx hby e34_45.2.2.1 (x := 1) rfl ?_
    refine o_iadd X0 hx hby e34_45.2.2.2.1 ?_
    obtain ⟨v11, hv11, H⟩ := own_bnd H
    refine o_ldC X0 hx hZ e0 V_o3 hv11 hby e34_45.2.2.2.2 ?_
    by_cases c50_12 : v10.toInt = v11.toInt
    ·skip
     replace H := own_ifp c50_12 H
     refine o_icmpNo X0 hx hby e34_50.1 (own_eq (x := v10) (y := v11) (i := v10.toInt) (j := v11.toInt) rfl rfl c50_12).2 ?_
     refine o_iconst X0 hx hby e34_50.2.1 (x := 1) rfl ?_
     refine o_goto X0 hx (pc0 := 54) (pc' := 58) rfl hby e34_50.2.2.1 (by decide) (by decide) ?_
     refine o_istore X0 hx hby e34_50.2.2.2.2 (l' := #[wR o0, wI p1, wI p2, wR o3, wI p4, wI 1]) rfl ?_
     refine o_iloadN X0 hx hby e34_60.1 rfl ?_
     refine o_iconst X0 hx hby e34_60.2.1 (x := 3) rfl ?_
     by_cases c62_13 : p2.toInt < 3
     ·skip
      replace H := own_ifp c62_13 H
      refine o_icmpYes X0 hx (pc0 := 62) (pc' := 93) rfl hby e34_60.2.2.1 (own_tlt (x := p2) (y := 3) (i := p2.toInt) (j := 3) rfl rfl c62_13).1 (by decide) (by decide) ?_
      refine o_iload X0 hx hby e34_90.2.2.1 rfl ?_
      obtain rfl := Option.some.inj H
      refine own_ret X0 (v := some (.int 1)) (fun h => by rw [Bd.returns] at h; cases h) Bd.notSynchronized (fun fs hr => retN X0 hx (t := .boolean) Bd.returns (by simp) (hb hby e34_90.2.2.2) hr) ?_ (by decide) (by decide)
      ·rw [e0]; exact ⟨rfl, N0, rfl⟩
     ·skip
      replace H := own_ifn c62_13 H
      refine o_icmpNo X0 hx hby e34_60.2.2.1 (own_flt (x := p2) (y := 3) (i := p2.toInt) (j := 3) rfl rfl c62_13).1 ?_
      refine o_iload X0 hx hby e34_60.2.2.2.1 rfl ?_
      refine o_ifNo X0 hx hby e34_60.2.2.2.2 ((if0 _ _).trans (own_ne (x := 1) (y := 0) (i := 1) (j := 0) rfl rfl (by decide)).1) ?_
      refine o_aloadN X0 hx hby e34_70.1 rfl ?_
      refine o_iloadN X0 hx hby e34_70.2.1 rfl ?_
      refine o_iconst X0 hx hby e34_70.2.2.1 (x := 2) rfl ?_
      refine o_iadd X0 hx hby e34_70.2.2.2.1 ?_
      obtain ⟨v14, hv14, H⟩ := own_bnd H
      refine o_ldC X0 hx hZ e0 V_o0 hv14 hby e34_70.2.2.2.2 ?_
      refine o_aloadN X0 hx hby e34_75.1 rfl ?_
      refine o_iload X0 hx hby e34_75.2.1 rfl ?_
      refine o_iloadN X0 hx hby e34_75.2.2.1 rfl ?_
      refine o_isub X0 hx hby e34_75.2.2.2.1 ?_
      refine o_iconst X0 hx hby e34_75.2.2.2.2 (x := 2) rfl ?_
      refine o_iadd X0 hx hby e34_81.1 ?_
      obtain ⟨v15, hv15, H⟩ := own_bnd H
      refine o_ldC X0 hx hZ e0 V_o3 hv15 hby e34_81.2.1 ?_
      by_cases c83_16 : v14.toInt = v15.toInt
      ·skip
       replace H := own_ifp c83_16 H
       refine o_icmpNo X0 hx hby e34_81.2.2.1 (own_eq (x := v14) (y := v15) (i := v14.toInt) (j := v15.toInt) rfl rfl c83_16).2 ?_
       refine o_iconst X0 hx hby e34_81.2.2.2.1 (x := 1) rfl ?_
       refine o_goto X0 hx (pc0 := 87) (pc' := 91) rfl hby e34_81.2.2.2.2 (by decide) (by decide) ?_
       refine o_istore X0 hx hby e34_90.2.1 (l' := #[wR o0, wI p1, wI p2, wR o3, wI p4, wI 1]) rfl ?_
       refine o_iload X0 hx hby e34_90.2.2.1 rfl ?_
       obtain rfl := Option.some.inj H
       refine own_ret X0 (v := some (.int 1)) (fun h => by rw [Bd.returns] at h; cases h) Bd.notSynchronized (fun fs hr => retN X0 hx (t := .boolean) Bd.returns (by simp) (hb hby e34_90.2.2.2) hr) ?_ (by decide) (by decide)
       ·rw [e0]; exact ⟨rfl, N0, rfl⟩
      ·skip
       replace H := own_ifn c83_16 H
       refine o_icmpYes X0 hx (pc0 := 83) (pc' := 90) rfl hby e34_81.2.2.1 (own_ne (x := v14) (y := v15) (i := v14.toInt) (j := v15.toInt) rfl rfl c83_16).2 (by decide) (by decide) ?_
       refine o_iconst X0 hx hby e34_90.1 (x := 0) rfl ?_
       refine o_istore X0 hx hby e34_90.2.1 (l' := #[wR o0, wI p1, wI p2, wR o3, wI p4, wI 0]) rfl ?_
       refine o_iload X0 hx hby e34_90.2.2.1 rfl ?_
       obtain rfl := Option.some.inj H
       refine own_ret X0 (v := some (.int 0)) (fun h => by rw [Bd.returns] at h; cases h) Bd.notSynchronized (fun fs hr => retN X0 hx (t := .boolean) Bd.returns (by simp) (hb hby e34_90.2.2.2) hr) ?_ (by decide) (by decide)
       ·rw [e0]; exact ⟨rfl, N0, rfl⟩
    ·skip
     replace H := own_ifn c50_12 H
     refine o_icmpYes X0 hx (pc0 := 50) (pc' := 57) rfl hby e34_50.1 (own_ne (x := v10) (y := v11) (i := v10.toInt) (j := v11.toInt) rfl rfl c50_12).2 (by decide) (by decide) ?_
     refine o_iconst X0 hx hby e34_50.2.2.2.1 (x := 0) rfl ?_
     refine o_istore X0 hx hby e34_50.2.2.2.2 (l' := #[wR o0, wI p1, wI p2, wR o3, wI p4, wI 0]) rfl ?_
     refine o_iloadN X0 hx hby e34_60.1 rfl ?_
     refine o_iconst X0 hx hby e34_60.2.1 (x := 3) rfl ?_
     by_cases c62_17 : p2.toInt < 3
     ·skip
      replace H := own_ifp c62_17 H
      refine o_icmpYes X0 hx (pc0 := 62) (pc' := 93) rfl hby e34_60.2.2.1 (own_tlt (x := p2) (y := 3) (i := p2.toInt) (j := 3) rfl rfl c62_17).1 (by decide) (by decide) ?_
      refine o_iload X0 hx hby e34_90.2.2.1 rfl ?_
      obtain rfl := Option.some.inj H
      refine own_ret X0 (v := some (.int 0)) (fun h => by rw [Bd.returns] at h; cases h) Bd.notSynchronized (fun fs hr => retN X0 hx (t := .boolean) Bd.returns (by simp) (hb hby e34_90.2.2.2) hr) ?_ (by decide) (by decide)
      ·rw [e0]; exact ⟨rfl, N0, rfl⟩
     ·skip
      replace H := own_ifn c62_17 H
      refine o_icmpNo X0 hx hby e34_60.2.2.1 (own_flt (x := p2) (y := 3) (i := p2.toInt) (j := 3) rfl rfl c62_17).1 ?_
      refine o_iload X0 hx hby e34_60.2.2.2.1 rfl ?_
      refine o_ifYes X0 hx (pc0 := 67) (pc' := 90) rfl hby e34_60.2.2.2.2 ((if0 _ _).trans (own_eq (x := 0) (y := 0) (i := 0) (j := 0) rfl rfl (by decide)).1) (by decide) (by decide) ?_
      refine o_iconst X0 hx hby e34_90.1 (x := 0) rfl ?_
      refine o_istore X0 hx hby e34_90.2.1 (l' := #[wR o0, wI p1, wI p2, wR o3, wI p4, wI 0]) rfl ?_
      refine o_iload X0 hx hby e34_90.2.2.1 rfl ?_
      obtain rfl := Option.some.inj H
      refine own_ret X0 (v := some (.int 0)) (fun h => by rw [Bd.returns] at h; cases h) Bd.notSynchronized (fun fs hr => retN X0 hx (t := .boolean) Bd.returns (by simp) (hb hby e34_90.2.2.2) hr) ?_ (by decide) (by decide)
      ·rw [e0]; exact ⟨rfl, N0, rfl⟩
  ·skip
   replace H := own_ifn c17_4 H
   refine o_icmpYes X0 hx (pc0 := 17) (pc' := 24) rfl hby e34_14.2.2.2.1 (own_ne (x := v2) (y := v3) (i := v2.toInt) (j := v3.toInt) rfl rfl c17_4).2 (by decide) (by decide) ?_
   refine o_iconst X0 hx hby e34_21.2.1 (x := 0) rfl ?_
   refine o_istore X0 hx hby e34_21.2.2.1 (l' := #[wR o0, wI p1, wI p2, wR o3, wI p4, wI 0]) rfl ?_
   refine o_iloadN X0 hx hby e34_21.2.2.2.1 rfl ?_
   refine o_iconst X0 hx hby e34_21.2.2.2.2 (x := 2) rfl ?_
   by_cases c29_18 : p2.toInt < 2
   ·skip
    replace H := own_ifp c29_18 H
    refine o_icmpYes X0 hx (pc0 := 29) (pc' := 60) rfl hby e34_29.1 (own_tlt (x := p2) (y := 2) (i := p2.toInt) (j := 2) rfl rfl c29_18).1 (by decide) (by decide) ?_
    refine o_iloadN X0 hx hby e34_60.1 rfl ?_
    refine o_iconst X0 hx hby e34_60.2.1 (x := 3) rfl ?_
    by_cases c62_19 : p2.toInt < 3
    ·skip
     replace H := own_ifp c62_19 H
     refine o_icmpYes X0 hx (pc0 := 62) (pc' := 93) rfl hby e34_60.2.2.1 (own_tlt (x := p2) (y := 3) (i := p2.toInt) (j := 3) rfl rfl c62_19).1 (by decide) (by decide) ?_
     refine o_iload X0 hx hby e34_90.2.2.1 rfl ?_
     obtain rfl := Option.some.inj H
     refine own_ret X0 (v := some (.int 0)) (fun h => by rw [Bd.returns] at h; cases h) Bd.notSynchronized (fun fs hr => retN X0 hx (t := .boolean) Bd.returns (by simp) (hb hby e34_90.2.2.2) hr) ?_ (by decide) (by decide)
     ·rw [e0]; exact ⟨rfl, N0, rfl⟩
    ·skip
     replace H := own_ifn c62_19 H
     refine o_icmpNo X0 hx hby e34_60.2.2.1 (own_flt (x := p2) (y := 3) (i := p2.toInt) (j := 3) rfl rfl c62_19).1 ?_
     refine o_iload X0 hx hby e34_60.2.2.2.1 rfl ?_
     refine o_ifYes X0 hx (pc0 := 67) (pc' := 90) rfl hby e34_60.2.2.2.2 ((if0 _ _).trans (own_eq (x := 0) (y := 0) (i := 0) (j := 0) rfl rfl (by decide)).1) (by decide) (by decide) ?_
     refine o_iconst X0 hx hby e34_90.1 (x := 0) rfl ?_
     refine o_istore X0 hx hby e34_90.2.1 (l' := #[wR o0, wI p1, wI p2, wR o3, wI p4, wI 0]) rfl ?_
     refine o_iload X0 hx hby e34_90.2.2.1 rfl ?_
     obtain rfl := Option.some.inj H
     refine own_ret X0 (v := some (.int 0)) (fun h => by rw [Bd.returns] at h; cases h) Bd.notSynchronized (fun fs hr => retN X0 hx (t := .boolean) Bd.returns (by simp) (hb hby e34_90.2.2.2) hr) ?_ (by decide) (by decide)
     ·rw [e0]; exact ⟨rfl, N0, rfl⟩
   ·skip
    replace H := own_ifn c29_18 H
    refine o_icmpNo X0 hx hby e34_29.1 (own_flt (x := p2) (y := 2) (i := p2.toInt) (j := 2) rfl rfl c29_18).1 ?_
    refine o_iload X0 hx hby e34_29.2.1 rfl ?_
    refine o_ifYes X0 hx (pc0 := 34) (pc' := 57) rfl hby e34_29.2.2.1 ((if0 _ _).trans (own_eq (x := 0) (y := 0) (i := 0) (j := 0) rfl rfl (by decide)).1) (by decide) (by decide) ?_
    refine o_iconst X0 hx hby e34_50.2.2.2.1 (x := 0) rfl ?_
    refine o_istore X0 hx hby e34_50.2.2.2.2 (l' := #[wR o0, wI p1, wI p2, wR o3, wI p4, wI 0]) rfl ?_
    refine o_iloadN X0 hx hby e34_60.1 rfl ?_
    refine o_iconst X0 hx hby e34_60.2.1 (x := 3) rfl ?_
    by_cases c62_20 : p2.toInt < 3
    ·skip
     replace H := own_ifp c62_20 H
     refine o_icmpYes X0 hx (pc0 := 62) (pc' := 93) rfl hby e34_60.2.2.1 (own_tlt (x := p2) (y := 3) (i := p2.toInt) (j := 3) rfl rfl c62_20).1 (by decide) (by decide) ?_
     refine o_iload X0 hx hby e34_90.2.2.1 rfl ?_
     obtain rfl := Option.some.inj H
     refine own_ret X0 (v := some (.int 0)) (fun h => by rw [Bd.returns] at h; cases h) Bd.notSynchronized (fun fs hr => retN X0 hx (t := .boolean) Bd.returns (by simp) (hb hby e34_90.2.2.2) hr) ?_ (by decide) (by decide)
     ·rw [e0]; exact ⟨rfl, N0, rfl⟩
    ·skip
     replace H := own_ifn c62_20 H
     refine o_icmpNo X0 hx hby e34_60.2.2.1 (own_flt (x := p2) (y := 3) (i := p2.toInt) (j := 3) rfl rfl c62_20).1 ?_
     refine o_iload X0 hx hby e34_60.2.2.2.1 rfl ?_
     refine o_ifYes X0 hx (pc0 := 67) (pc' := 90) rfl hby e34_60.2.2.2.2 ((if0 _ _).trans (own_eq (x := 0) (y := 0) (i := 0) (j := 0) rfl rfl (by decide)).1) (by decide) (by decide) ?_
     refine o_iconst X0 hx hby e34_90.1 (x := 0) rfl ?_
     refine o_istore X0 hx hby e34_90.2.1 (l' := #[wR o0, wI p1, wI p2, wR o3, wI p4, wI 0]) rfl ?_
     refine o_iload X0 hx hby e34_90.2.2.1 rfl ?_
     obtain rfl := Option.some.inj H
     refine own_ret X0 (v := some (.int 0)) (fun h => by rw [Bd.returns] at h; cases h) Bd.notSynchronized (fun fs hr => retN X0 hx (t := .boolean) Bd.returns (by simp) (hb hby e34_90.2.2.2) hr) ?_ (by decide) (by decide)
     ·rw [e0]; exact ⟨rfl, N0, rfl⟩
/-! OWN: a Latin-1 String by its facts -/
section OwnStr
variable {Z : State} {h h' : Heap} {a b x t : Addr} {k : ClassId} {N : Int32} {vs : List Value} {ws : List Addr} {sl : Nat} {v : Value} {c : Cell} {f : Int32 → Int32}
def own_Str (Z : State) (h : Heap) (a b : Addr) (k : ClassId) (N : Int32) (vs : List Value) : Prop := Exa Z h a "java/lang/String" ∧ Fld Z h a "java/lang/String" "value" "[B" (.ref b) ∧ Fld Z h a "java/lang/String" "coder" "B" (.int 0) ∧ Arv Z h b k .byte N vs (.int 0)
theorem own_Str.ext (F : own_Str Z h a b k N vs) (E : Ext h h') : own_Str Z h' a b k N vs := ⟨F.1.ext E, F.2.1.ext E, F.2.2.1.ext E, F.2.2.2.ext E⟩
theorem own_Str.keep (F : own_Str Z h a b k N vs) (K : Keep h h' ws) (q : a ∉ ws) (r : b ∉ ws) : own_Str Z h' a b k N vs := ⟨F.1.keep K, F.2.1.keep K q, F.2.2.1.keep K q, F.2.2.2.keep K r⟩
theorem own_Str.other (F : own_Str Z h a b k N vs) (W : Wr h h' x sl v) (q : a ≠ x) (r : b ≠ x) : own_Str Z h' a b k N vs := ⟨F.1.wr W, F.2.1.other W (Or.inl q), F.2.2.1.other W (Or.inl q), F.2.2.2.other W r⟩
theorem own_Str.lt (F : own_Str Z h a b k N vs) : a < h.size := F.1.lt
theorem own_Str.ltb (F : own_Str Z h a b k N vs) : b < h.size := F.2.2.2.lt
end OwnStr
theorem own_pn9 : plainName "java/lang/StringUTF16" = true := by first | (simp [plainName, overriddenIn]; done) | decide +kernel
theorem own_ef6_rmK9 (m : MethodId) (o0 : Addr) (o2 : Addr) : entryFrame m #[(.ref o0), (.int 0), (.ref o2), (.int 0), (.int 9)] 7 = mkF m 0 #[.val (.ref o0), .val (.int 0), .val (.ref o2), .val (.int 0), .val (.int 9), .unset, .unset] [] := by first | (simp [entryFrame, mkF, argsToLocals, Value.category]; done) | rfl
def Q_rmK9 (Z : State) (o0 : Addr) (o2 : Addr) (kc : ClassId) (kb : ClassId) (u0 : Int32) (u1 : Int32) (u2 : Int32) (u3 : Int32) (u4 : Int32) (u5 : Int32) (u6 : Int32) (u7 : Int32) (u8 : Int32) (h0 : Heap) (n0 : Nat) (v : Option Value) (h : Heap) (L : List Loc) : Prop := v = some (.int 9) ∧ Fr n0 L ∧ Keep h0 h [o2] ∧ Arv Z h o2 kb .byte (9 : Int32) [(.int ((u0.toInt8.toInt32).toInt8.toInt32)), (.int ((u1.toInt8.toInt32).toInt8.toInt32)), (.int ((u2.toInt8.toInt32).toInt8.toInt32)), (.int ((u3.toInt8.toInt32).toInt8.toInt32)), (.int ((u4.toInt8.toInt32).toInt8.toInt32)), (.int ((u5.toInt8.toInt32).toInt8.toInt32)), (.int ((u6.toInt8.toInt32).toInt8.toInt32)), (.int ((u7.toInt8.toInt32).toInt8.toInt32)), (.int ((u8.toInt8.toInt32).toInt8.toInt32))] (.int 0)
abbrev wc6 : ByteArray := jdk_52_method_21_code
theorem d6_0 : decode wc6 0 = .ok (.iconst 0, 1) := by decide +kernel
theorem d6_1 : decode wc6 1 = .ok (.istore 5, 2) := by decide +kernel
theorem d6_3 : decode wc6 3 = .ok (.iload 5, 2) := by decide +kernel
theorem d6_5 : decode wc6 5 = .ok (.iload 4, 2) := by decide +kernel
theorem d6_7 : decode wc6 7 = .ok (.if_icmp .ge 37, 3) := by decide +kernel
theorem d6_10 : decode wc6 10 = .ok (.aload_n 0, 1) := by decide +kernel
theorem d6_11 : decode wc6 11 = .ok (.iload_n 1, 1) := by decide +kernel
theorem d6_12 : decode wc6 12 = .ok (.caload, 1) := by decide +kernel
theorem d6_13 : decode wc6 13 = .ok (.istore 6, 2) := by decide +kernel
theorem d6_15 : decode wc6 15 = .ok (.iload 6, 2) := by decide +kernel
theorem d6_17 : decode wc6 17 = .ok (.sipush 255, 3) := by decide +kernel
theorem d6_20 : decode wc6 20 = .ok (.if_icmp .le 6, 3) := by decide +kernel
theorem d6_26 : decode wc6 26 = .ok (.aload_n 2, 1) := by decide +kernel
theorem d6_27 : decode wc6 27 = .ok (.iload_n 3, 1) := by decide +kernel
theorem d6_28 : decode wc6 28 = .ok (.iload 6, 2) := by decide +kernel
theorem d6_30 : decode wc6 30 = .ok (.i2b, 1) := by decide +kernel
theorem d6_31 : decode wc6 31 = .ok (.bastore, 1) := by decide +kernel
theorem d6_32 : decode wc6 32 = .ok (.iinc 1 1, 3) := by decide +kernel
theorem d6_35 : decode wc6 35 = .ok (.iinc 3 1, 3) := by decide +kernel
theorem d6_38 : decode wc6 38 = .ok (.iinc 5 1, 3) := by decide +kernel
theorem d6_41 : decode wc6 41 = .ok (.goto (-38), 3) := by decide +kernel
theorem d6_44 : decode wc6 44 = .ok (.iload 4, 2) := by decide +kernel
theorem d6_46 : decode wc6 46 = .ok (.ireturn, 1) := by decide +kernel
set_option maxRecDepth 65536 in
set_option maxHeartbeats 40000000 in
theorem rmK9 (l : Launch) (Z : State) (a0 : Array Value) (hw : ∀ d ∈ tables_1, d.before a0 Z = true) (ws : List Jvm.Cond) (o0 : Addr) (o2 : Addr) (kc : ClassId) (kb : ClassId) (u0 : Int32) (u1 : Int32) (u2 : Int32) (u3 : Int32) (u4 : Int32) (u5 : Int32) (u6 : Int32) (u7 : Int32) (u8 : Int32) (h0 : Heap) (n0 : Nat) (Z0 : n0 ≤ h0.size) (g_o2 : n0 ≤ o2) (hne : o0 ≠ o2) (Vc : Arv Z h0 o0 kc .char (9 : Int32) [(.int u0), (.int u1), (.int u2), (.int u3), (.int u4), (.int u5), (.int u6), (.int u7), (.int u8)] (.int 0)) (Vb : Arv Z h0 o2 kb .byte (9 : Int32) [(.int 0), (.int 0), (.int 0), (.int 0), (.int 0), (.int 0), (.int 0), (.int 0), (.int 0)] (.int 0)) (hu0 : ¬ 255 < u0.toInt) (hu1 : ¬ 255 < u1.toInt) (hu2 : ¬ 255 < u2.toInt) (hu3 : ¬ 255 < u3.toInt) (hu4 : ¬ 255 < u4.toInt) (hu5 : ¬ 255 < u5.toInt) (hu6 : ¬ 255 < u6.toInt) (hu7 : ¬ 255 < u7.toInt) (hu8 : ¬ 255 < u8.toInt) :
  MetFree l (⟨"java/lang/StringUTF16", "compress", "([CI[BII)I"⟩ : MethodName) (head1 (Jvm.Cond.code (⟨"java/lang/StringUTF16", "compress", "([CI[BII)I"⟩ : MethodName) jdk_52_method_21_code 7 (some .int) :: ws) ({ frames := 0, cells := 0, slots := 0, locals := 0 } : Room)) (fun a U => a = #[(.ref o0), (.int 0), (.ref o2), (.int 0), (.int 9)] ∧ Z.Warmed39 U.vm ∧ U.heap = h0) (fun _ _ _ _ _ => True) (fun _ U o U' => ∃ v L, o = .returned v ∧ Q_rmK9 Z o0 o2 kc kb u0 u1 u2 u3 u4 u5 u6 u7 u8 h0 n0 v U'.heap L ∧ FrameEnd U o U' L ({ frames := 0, cells := 0, slots := 0, locals := 0 } : Room).cells ({ frames := 0, cells := 0, slots := 0, locals := 0 } : Room).slots) := by
 refine MetFree.of_bodySF (plainFor_of_name own_pn9) hisR ?_
 intro p e s m args below meth c s₁ Bd hml0 hP hK
 obtain ⟨rfl, hZ, hh⟩ := hP
 have hW := @own_hW a0 Z hw
 have hx := Bd.exec
 have hby := Bd.bytes
 have hml : c.maxLocals = 7 := hml0
 have hown : s.vm.findClass "java/lang/StringUTF16" = some m.cls := findClass_of_methodNamed Bd.named
 have hnm := (name_of_methodNamed Bd.named Bd.method).1
 have X0 : Stand p l e ({ frames := 0, cells := 0, slots := 0, locals := 0 } : Room) s m #[(.ref o0), (.int 0), (.ref o2), (.int 0), (.int 9)] below meth c s₁ [] 0 0 := Stand.of_body Bd
 have e0 : s₁.heap = h0 := by rw [← hh, Bd.state]; rfl
 have N0 := Fr.nil n0
 refine (show own_End p e below s (s₁.setTop (entryFrame m #[(.ref o0), (.int 0), (.ref o2), (.int 0), (.int 9)] 7)) (Q_rmK9 Z o0 o2 kc kb u0 u1 u2 u3 u4 u5 u6 u7 u8 h0 n0) ({ frames := 0, cells := 0, slots := 0, locals := 0 } : Room).cells ({ frames := 0, cells := 0, slots := 0, locals := 0 } : Room).slots from ?_)
 refine own_go (fun τ κ => castTop (own_ef6_rmK9 m o0 o2) κ) ?_
 have li0 : (0 : Int32).toInt = 0 := rfl
 have li1 : (1 : Int32).toInt = 1 := rfl
 show own_End p e below s (s₁.setTop (mkF m 0 #[wR o0, wI 0, wR o2, wI 0, wI 9, wU, wU] [])) _ _ _
 refine o_iconst X0 hx hby d6_0 (x := 0) rfl ?_
 refine o_istore X0 hx hby d6_1 (l' := #[wR o0, wI 0, wR o2, wI 0, wI 9, wI 0, wU]) rfl ?_
 refine o_iload X0 hx hby d6_3 rfl ?_
 refine o_iload X0 hx hby d6_5 rfl ?_
 refine o_icmpNo X0 hx hby d6_7 (own_tlt (x := 0) (y := 9) (i := 0) (j := 9) rfl rfl (by decide)).2.1 ?_
 refine o_aloadN X0 hx hby d6_10 rfl ?_
 refine o_iloadN X0 hx hby d6_11 rfl ?_
 refine o_ldV X0 hx hZ e0 Vc ⟨by decide, by decide⟩ (v := (.int u0)) rfl hby d6_12 ?_
 refine o_istore X0 hx hby d6_13 (l' := #[wR o0, wI 0, wR o2, wI 0, wI 9, wI 0, wI u0]) rfl ?_
 refine o_iload X0 hx hby d6_15 rfl ?_
 refine own_go (fun τ κ => XS.sipush X0.here hx rfl (hb hby d6_17) κ) ?_
 show own_End p e below s (s₁.setTop (mkF m 20 _ [(.int 255), (.int u0)])) _ _ _
 refine o_icmpYes X0 hx (pc0 := 20) (pc' := 26) rfl hby d6_20 (own_flt (x := 255) (y := u0) (i := 255) (j := u0.toInt) rfl rfl hu0).2.2.2 (by decide) (by decide) ?_
 refine o_aloadN X0 hx hby d6_26 rfl ?_
 refine o_iloadN X0 hx hby d6_27 rfl ?_
 refine o_iload X0 hx hby d6_28 rfl ?_
 refine own_go (fun τ κ => XS.i2b X0.here hx rfl (hb hby d6_30) rfl κ) ?_
 show own_End p e below s (s₁.setTop (mkF m 31 _ [(.int (u0.toInt8.toInt32)), (.int 0), (.ref o2)])) _ _ _
 refine o_stB X0 hx hZ e0 Vb ⟨by decide, by decide⟩ (i := 0) rfl (Nat.le_of_ble_eq_true rfl) N0 g_o2 hby d6_31 fun T1 h1 ls1 X1 e1 W1 V_o2_1 N1 => ?_
 replace V_o2_1 : Arv Z h1 o2 kb .byte (9 : Int32) [(.int ((u0.toInt8.toInt32).toInt8.toInt32)), (.int 0), (.int 0), (.int 0), (.int 0), (.int 0), (.int 0), (.int 0), (.int 0)] (.int 0) := V_o2_1
 have Z1 := Nat.le_trans Z0 (Keep.of_wr W1).1
 have KP1 := (Keep.refl h0 [o2]).wr W1 (Or.inl (List.mem_of_getElem? (i := 0) rfl))
 refine o_iinc X1 hx hby d6_32 rfl (l' := #[wR o0, wI 1, wR o2, wI 0, wI 9, wI 0, wI u0]) rfl ?_
 refine o_iinc X1 hx hby d6_35 rfl (l' := #[wR o0, wI 1, wR o2, wI 1, wI 9, wI 0, wI u0]) rfl ?_
 refine o_iinc X1 hx hby d6_38 rfl (l' := #[wR o0, wI 1, wR o2, wI 1, wI 9, wI 1, wI u0]) rfl ?_
 refine o_goto X1 hx (pc0 := 41) (pc' := 3) rfl hby d6_41 (by decide) (by decide) ?_
 refine o_iload X1 hx hby d6_3 rfl ?_
 refine o_iload X1 hx hby d6_5 rfl ?_
 refine o_icmpNo X1 hx hby d6_7 (own_tlt (x := 1) (y := 9) (i := 1) (j := 9) rfl rfl (by decide)).2.1 ?_
 refine o_aloadN X1 hx hby d6_10 rfl ?_
 refine o_iloadN X1 hx hby d6_11 rfl ?_
 have U2 := (Vc.other W1 hne)
 refine o_ldV X1 hx hZ e1 U2 ⟨by decide, by decide⟩ (v := (.int u1)) rfl hby d6_12 ?_
 refine o_istore X1 hx hby d6_13 (l' := #[wR o0, wI 1, wR o2, wI 1, wI 9, wI 1, wI u1]) rfl ?_
 refine o_iload X1 hx hby d6_15 rfl ?_
 refine own_go (fun τ κ => XS.sipush X1.here hx rfl (hb hby d6_17) κ) ?_
 show own_End p e below s (T1.setTop (mkF m 20 _ [(.int 255), (.int u1)])) _ _ _
 refine o_icmpYes X1 hx (pc0 := 20) (pc' := 26) rfl hby d6_20 (own_flt (x := 255) (y := u1) (i := 255) (j := u1.toInt) rfl rfl hu1).2.2.2 (by decide) (by decide) ?_
 refine o_aloadN X1 hx hby d6_26 rfl ?_
 refine o_iloadN X1 hx hby d6_27 rfl ?_
 refine o_iload X1 hx hby d6_28 rfl ?_
 refine own_go (fun τ κ => XS.i2b X1.here hx rfl (hb hby d6_30) rfl κ) ?_
 show own_End p e below s (T1.setTop (mkF m 31 _ [(.int (u1.toInt8.toInt32)), (.int 1), (.ref o2)])) _ _ _
 refine o_stB X1 hx hZ e1 V_o2_1 ⟨by decide, by decide⟩ (i := 1) rfl (Nat.le_of_ble_eq_true rfl) N1 g_o2 hby d6_31 fun T3 h3 ls3 X3 e3 W3 V_o2_3 N3 => ?_
 replace V_o2_3 : Arv Z h3 o2 kb .byte (9 : Int32) [(.int ((u0.toInt8.toInt32).toInt8.toInt32)), (.int ((u1.toInt8.toInt32).toInt8.toInt32)), (.int 0), (.int 0), (.int 0), (.int 0), (.int 0), (.int 0), (.int 0)] (.int 0) := V_o2_3
 have Z3 := Nat.le_trans Z1 (Keep.of_wr W3).1
 have KP3 := KP1.wr W3 (Or.inl (List.mem_of_getElem? (i := 0) rfl))
 refine o_iinc X3 hx hby d6_32 rfl (l' := #[wR o0, wI 2, wR o2, wI 1, wI 9, wI 1, wI u1]) rfl ?_
 refine o_iinc X3 hx hby d6_35 rfl (l' := #[wR o0, wI 2, wR o2, wI 2, wI 9, wI 1, wI u1]) rfl ?_
 refine o_iinc X3 hx hby d6_38 rfl (l' := #[wR o0, wI 2, wR o2, wI 2, wI 9, wI 2, wI u1]) rfl ?_
 refine o_goto X3 hx (pc0 := 41) (pc' := 3) rfl hby d6_41 (by decide) (by decide) ?_
 refine o_iload X3 hx hby d6_3 rfl ?_
 refine o_iload X3 hx hby d6_5 rfl ?_
 refine o_icmpNo X3 hx hby d6_7 (own_tlt (x := 2) (y := 9) (i := 2) (j := 9) rfl rfl (by decide)).2.1 ?_
 refine o_aloadN X3 hx hby d6_10 rfl ?_
 refine o_iloadN X3 hx hby d6_11 rfl ?_
 have U4 := (U2.other W3 hne)
 refine o_ldV X3 hx hZ e3 U4 ⟨by decide, by decide⟩ (v := (.int u2)) rfl hby d6_12 ?_
 refine o_istore X3 hx hby d6_13 (l' := #[wR o0, wI 2, wR o2, wI 2, wI 9, wI 2, wI u2]) rfl ?_
 refine o_iload X3 hx hby d6_15 rfl ?_
 refine own_go (fun τ κ => XS.sipush X3.here hx rfl (hb hby d6_17) κ) ?_
 show own_End p e below s (T3.setTop (mkF m 20 _ [(.int 255), (.int u2)])) _ _ _
 refine o_icmpYes X3 hx (pc0 := 20) (pc' := 26) rfl hby d6_20 (own_flt (x := 255) (y := u2) (i := 255) (j := u2.toInt) rfl rfl hu2).2.2.2 (by decide) (by decide) ?_
 refine o_aloadN X3 hx hby d6_26 rfl ?_
 refine o_iloadN X3 hx hby d6_27 rfl ?_
 refine o_iload X3 hx hby d6_28 rfl ?_
 refine own_go (fun τ κ => XS.i2b X3.here hx rfl (hb hby d6_30) rfl κ) ?_
 show own_End p e below s (T3.setTop (mkF m 31 _ [(.int (u2.toInt8.toInt32)), (.int 2), (.ref o2)])) _ _ _
 refine o_stB X3 hx hZ e3 V_o2_3 ⟨by decide, by decide⟩ (i := 2) rfl (Nat.le_of_ble_eq_true rfl) N3 g_o2 hby d6_31 fun T5 h5 ls5 X5 e5 W5 V_o2_5 N5 => ?_
 replace V_o2_5 : Arv Z h5 o2 kb .byte (9 : Int32) [(.int ((u0.toInt8.toInt32).toInt8.toInt32)), (.int ((u1.toInt8.toInt32).toInt8.toInt32)), (.int ((u2.toInt8.toInt32).toInt8.toInt32)), (.int 0), (.int 0), (.int 0), (.int 0), (.int 0), (.int 0)] (.int 0) := V_o2_5
 have Z5 := Nat.le_trans Z3 (Keep.of_wr W5).1
 have KP5 := KP3.wr W5 (Or.inl (List.mem_of_getElem? (i := 0) rfl))
 refine o_iinc X5 hx hby d6_32 rfl (l' := #[wR o0, wI 3, wR o2, wI 2, wI 9, wI 2, wI u2]) rfl ?_
 refine o_iinc X5 hx hby d6_35 rfl (l' := #[wR o0, wI 3, wR o2, wI 3, wI 9, wI 2, wI u2]) rfl ?_
 refine o_iinc X5 hx hby d6_38 rfl (l' := #[wR o0, wI 3, wR o2, wI 3, wI 9, wI 3, wI u2]) rfl ?_
 refine o_goto X5 hx (pc0 := 41) (pc' := 3) rfl hby d6_41 (by decide) (by decide) ?_
 refine o_iload X5 hx hby d6_3 rfl ?_
 refine o_iload X5 hx hby d6_5 rfl ?_
 refine o_icmpNo X5 hx hby d6_7 (own_tlt (x := 3) (y := 9) (i := 3) (j := 9) rfl rfl (by decide)).2.1 ?_
 refine o_aloadN X5 hx hby d6_10 rfl ?_
 refine o_iloadN X5 hx hby d6_11 rfl ?_
 have U6 := (U4.other W5 hne)
 refine o_ldV X5 hx hZ e5 U6 ⟨by decide, by decide⟩ (v := (.int u3)) rfl hby d6_12 ?_
 refine o_istore X5 hx hby d6_13 (l' := #[wR o0, wI 3, wR o2, wI 3, wI 9, wI 3, wI u3]) rfl ?_
 refine o_iload X5 hx hby d6_15 rfl ?_
 refine own_go (fun τ κ => XS.sipush X5.here hx rfl (hb hby d6_17) κ) ?_
 show own_End p e below s (T5.setTop (mkF m 20 _ [(.int 255), (.int u3)])) _ _ _
 refine o_icmpYes X5 hx (pc0 := 20) (pc' := 26) rfl hby d6_20 (own_flt (x := 255) (y := u3) (i := 255) (j := u3.toInt) rfl rfl hu3).2.2.2 (by decide) (by decide) ?_
 refine o_aloadN X5 hx hby d6_26 rfl ?_
 refine o_iloadN X5 hx hby d6_27 rfl ?_
 refine o_iload X5 hx hby d6_28 rfl ?_
 refine own_go (fun τ κ => XS.i2b X5.here hx rfl (hb hby d6_30) rfl κ) ?_
 show own_End p e below s (T5.setTop (mkF m 31 _ [(.int (u3.toInt8.toInt32)), (.int 3), (.ref o2)])) _ _ _
 refine o_stB X5 hx hZ e5 V_o2_5 ⟨by decide, by decide⟩ (i := 3) rfl (Nat.le_of_ble_eq_true rfl) N5 g_o2 hby d6_31 fun T7 h7 ls7 X7 e7 W7 V_o2_7 N7 => ?_
 replace V_o2_7 : Arv Z h7 o2 kb .byte (9 : Int32) [(.int ((u0.toInt8.toInt32).toInt8.toInt32)), (.int ((u1.toInt8.toInt32).toInt8.toInt32)), (.int ((u2.toInt8.toInt32).toInt8.toInt32)), (.int ((u3.toInt8.toInt32).toInt8.toInt32)), (.int 0), (.int 0), (.int 0), (.int 0), (.int 0)] (.int 0) := V_o2_7
 have Z7 := Nat.le_trans Z5 (Keep.of_wr W7).1
 have KP7 := KP5.wr W7 (Or.inl (List.mem_of_getElem? (i := 0) rfl))
 refine o_iinc X7 hx hby d6_32 rfl (l' := #[wR o0, wI 4, wR o2, wI 3, wI 9, wI 3, wI u3]) rfl ?_
 refine o_iinc X7 hx hby d6_35 rfl (l' := #[wR o0, wI 4, wR o2, wI 4, wI 9, wI 3, wI u3]) rfl ?_
 refine o_iinc X7 hx hby d6_38 rfl (l' := #[wR o0, wI 4, wR o2, wI 4, wI 9, wI 4, wI u3]) rfl ?_
 refine o_goto X7 hx (pc0 := 41) (pc' := 3) rfl hby d6_41 (by decide) (by decide) ?_
 refine o_iload X7 hx hby d6_3 rfl ?_
 refine o_iload X7 hx hby d6_5 rfl ?_
 refine o_icmpNo X7 hx hby d6_7 (own_tlt (x := 4) (y := 9) (i := 4) (j := 9) rfl rfl (by decide)).2.1 ?_
 refine o_aloadN X7 hx hby d6_10 rfl ?_
 refine o_iloadN X7 hx hby d6_11 rfl ?_
 have U8 := (U6.other W7 hne)
 refine o_ldV X7 hx hZ e7 U8 ⟨by decide, by decide⟩ (v := (.int u4)) rfl hby d6_12 ?_
 refine o_istore X7 hx hby d6_13 (l' := #[wR o0, wI 4, wR o2, wI 4, wI 9, wI 4, wI u4]) rfl ?_
 refine o_iload X7 hx hby d6_15 rfl ?_
 refine own_go (fun τ κ => XS.sipush X7.here hx rfl (hb hby d6_17) κ) ?_
 show own_End p e below s (T7.setTop (mkF m 20 _ [(.int 255), (.int u4)])) _ _ _
 refine o_icmpYes X7 hx (pc0 := 20) (pc' := 26) rfl hby d6_20 (own_flt (x := 255) (y := u4) (i := 255) (j := u4.toInt) rfl rfl hu4).2.2.2 (by decide) (by decide) ?_
 refine o_aloadN X7 hx hby d6_26 rfl ?_
 refine o_iloadN X7 hx hby d6_27 rfl ?_
 refine o_iload X7 hx hby d6_28 rfl ?_
 refine own_go (fun τ κ => XS.i2b X7.here hx rfl (hb hby d6_30) rfl κ) ?_
 show own_End p e below s (T7.setTop (mkF m 31 _ [(.int (u4.toInt8.toInt32)), (.int 4), (.ref o2)])) _ _ _
 refine o_stB X7 hx hZ e7 V_o2_7 ⟨by decide, by decide⟩ (i := 4) rfl (Nat.le_of_ble_eq_true rfl) N7 g_o2 hby d6_31 fun T9 h9 ls9 X9 e9 W9 V_o2_9 N9 => ?_
 replace V_o2_9 : Arv Z h9 o2 kb .byte (9 : Int32) [(.int ((u0.toInt8.toInt32).toInt8.toInt32)), (.int ((u1.toInt8.toInt32).toInt8.toInt32)), (.int ((u2.toInt8.toInt32).toInt8.toInt32)), (.int ((u3.toInt8.toInt32).toInt8.toInt32)), (.int ((u4.toInt8.toInt32).toInt8.toInt32)), (.int 0), (.int 0), (.int 0), (.int 0)] (.int 0) := V_o2_9
 have Z9 := Nat.le_trans Z7 (Keep.of_wr W9).1
 have KP9 := KP7.wr W9 (Or.inl (List.mem_of_getElem? (i := 0) rfl))
 refine o_iinc X9 hx hby d6_32 rfl (l' := #[wR o0, wI 5, wR o2, wI 4, wI 9, wI 4, wI u4]) rfl ?_
 refine o_iinc X9 hx hby d6_35 rfl (l' := #[wR o0, wI 5, wR o2, wI 5, wI 9, wI 4, wI u4]) rfl ?_
 refine o_iinc X9 hx hby d6_38 rfl (l' := #[wR o0, wI 5, wR o2, wI 5, wI 9, wI 5, wI u4]) rfl ?_
 refine o_goto X9 hx (pc0 := 41) (pc' := 3) rfl hby d6_41 (by decide) (by decide) ?_
 refine o_iload X9 hx hby d6_3 rfl ?_
 refine o_iload X9 hx hby d6_5 rfl ?_
 refine o_icmpNo X9 hx hby d6_7 (own_tlt (x := 5) (y := 9) (i := 5) (j := 9) rfl rfl (by decide)).2.1 ?_
 refine o_aloadN X9 hx hby d6_10 rfl ?_
 refine o_iloadN X9 hx hby d6_11 rfl ?_
 have U10 := (U8.other W9 hne)
 refine o_ldV X9 hx hZ e9 U10 ⟨by decide, by decide⟩ (v := (.int u5)) rfl hby d6_12 ?_
 refine o_istore X9 hx hby d6_13 (l' := #[wR o0, wI 5, wR o2, wI 5, wI 9, wI 5, wI u5]) rfl ?_
 refine o_iload X9 hx hby d6_15 rfl ?_
 refine own_go (fun τ κ => XS.sipush X9.here hx rfl (hb hby d6_17) κ) ?_
 show own_End p e below s (T9.setTop (mkF m 20 _ [(.int 255), (.int u5)])) _ _ _
 refine o_icmpYes X9 hx (pc0 := 20) (pc' := 26) rfl hby d6_20 (own_flt (x := 255) (y := u5) (i := 255) (j := u5.toInt) rfl rfl hu5).2.2.2 (by decide) (by decide) ?_
 refine o_aloadN X9 hx hby d6_26 rfl ?_
 refine o_iloadN X9 hx hby d6_27 rfl ?_
 refine o_iload X9 hx hby d6_28 rfl ?_
 refine own_go (fun τ κ => XS.i2b X9.here hx rfl (hb hby d6_30) rfl κ) ?_
 show own_End p e below s (T9.setTop (mkF m 31 _ [(.int (u5.toInt8.toInt32)), (.int 5), (.ref o2)])) _ _ _
 refine o_stB X9 hx hZ e9 V_o2_9 ⟨by decide, by decide⟩ (i := 5) rfl (Nat.le_of_ble_eq_true rfl) N9 g_o2 hby d6_31 fun T11 h11 ls11 X11 e11 W11 V_o2_11 N11 => ?_
 replace V_o2_11 : Arv Z h11 o2 kb .byte (9 : Int32) [(.int ((u0.toInt8.toInt32).toInt8.toInt32)), (.int ((u1.toInt8.toInt32).toInt8.toInt32)), (.int ((u2.toInt8.toInt32).toInt8.toInt32)), (.int ((u3.toInt8.toInt32).toInt8.toInt32)), (.int ((u4.toInt8.toInt32).toInt8.toInt32)), (.int ((u5.toInt8.toInt32).toInt8.toInt32)), (.int 0), (.int 0), (.int 0)] (.int 0) := V_o2_11
 have Z11 := Nat.le_trans Z9 (Keep.of_wr W11).1
 have KP11 := KP9.wr W11 (Or.inl (List.mem_of_getElem? (i := 0) rfl))
 refine o_iinc X11 hx hby d6_32 rfl (l' := #[wR o0, wI 6, wR o2, wI 5, wI 9, wI 5, wI u5]) rfl ?_
 refine o_iinc X11 hx hby d6_35 rfl (l' := #[wR o0, wI 6, wR o2, wI 6, wI 9, wI 5, wI u5]) rfl ?_
 refine o_iinc X11 hx hby d6_38 rfl (l' := #[wR o0, wI 6, wR o2, wI 6, wI 9, wI 6, wI u5]) rfl ?_
 refine o_goto X11 hx (pc0 := 41) (pc' := 3) rfl hby d6_41 (by decide) (by decide) ?_
 refine o_iload X11 hx hby d6_3 rfl ?_
 refine o_iload X11 hx hby d6_5 rfl ?_
 refine o_icmpNo X11 hx hby d6_7 (own_tlt (x := 6) (y := 9) (i := 6) (j := 9) rfl rfl (by decide)).2.1 ?_
 refine o_aloadN X11 hx hby d6_10 rfl ?_
 refine o_iloadN X11 hx hby d6_11 rfl ?_
 have U12 := (U10.other W11 hne)
 refine o_ldV X11 hx hZ e11 U12 ⟨by decide, by decide⟩ (v := (.int u6)) rfl hby d6_12 ?_
 refine o_istore X11 hx hby d6_13 (l' := #[wR o0, wI 6, wR o2, wI 6, wI 9, wI 6, wI u6]) rfl ?_
 refine o_iload X11 hx hby d6_15 rfl ?_
 refine own_go (fun τ κ => XS.sipush X11.here hx rfl (hb hby d6_17) κ) ?_
 show own_End p e below s (T11.setTop (mkF m 20 _ [(.int 255), (.int u6)])) _ _ _
 refine o_icmpYes X11 hx (pc0 := 20) (pc' := 26) rfl hby d6_20 (own_flt (x := 255) (y := u6) (i := 255) (j := u6.toInt) rfl rfl hu6).2.2.2 (by decide) (by decide) ?_
 refine o_aloadN X11 hx hby d6_26 rfl ?_
 refine o_iloadN X11 hx hby d6_27 rfl ?_
 refine o_iload X11 hx hby d6_28 rfl ?_
 refine own_go (fun τ κ => XS.i2b X11.here hx rfl (hb hby d6_30) rfl κ) ?_
 show own_End p e below s (T11.setTop (mkF m 31 _ [(.int (u6.toInt8.toInt32)), (.int 6), (.ref o2)])) _ _ _
 refine o_stB X11 hx hZ e11 V_o2_11 ⟨by decide, by decide⟩ (i := 6) rfl (Nat.le_of_ble_eq_true rfl) N11 g_o2 hby d6_31 fun T13 h13 ls13 X13 e13 W13 V_o2_13 N13 => ?_
 replace V_o2_13 : Arv Z h13 o2 kb .byte (9 : Int32) [(.int ((u0.toInt8.toInt32).toInt8.toInt32)), (.int ((u1.toInt8.toInt32).toInt8.toInt32)), (.int ((u2.toInt8.toInt32).toInt8.toInt32)), (.int ((u3.toInt8.toInt32).toInt8.toInt32)), (.int ((u4.toInt8.toInt32).toInt8.toInt32)), (.int ((u5.toInt8.toInt32).toInt8.toInt32)), (.int ((u6.toInt8.toInt32).toInt8.toInt32)), (.int 0), (.int 0)] (.int 0) := V_o2_13
 have Z13 := Nat.le_trans Z11 (Keep.of_wr W13).1
 have KP13 := KP11.wr W13 (Or.inl (List.mem_of_getElem? (i := 0) rfl))
 refine o_iinc X13 hx hby d6_32 rfl (l' := #[wR o0, wI 7, wR o2, wI 6, wI 9, wI 6, wI u6]) rfl ?_
 refine o_iinc X13 hx hby d6_35 rfl (l' := #[wR o0, wI 7, wR o2, wI 7, wI 9, wI 6, wI u6]) rfl ?_
 refine o_iinc X13 hx hby d6_38 rfl (l' := #[wR o0, wI 7, wR o2, wI 7, wI 9, wI 7, wI u6]) rfl ?_
 refine o_goto X13 hx (pc0 := 41) (pc' := 3) rfl hby d6_41 (by decide) (by decide) ?_
 refine o_iload X13 hx hby d6_3 rfl ?_
 refine o_iload X13 hx hby d6_5 rfl ?_
 refine o_icmpNo X13 hx hby d6_7 (own_tlt (x := 7) (y := 9) (i := 7) (j := 9) rfl rfl (by decide)).2.1 ?_
 refine o_aloadN X13 hx hby d6_10 rfl ?_
 refine o_iloadN X13 hx hby d6_11 rfl ?_
 have U14 := (U12.other W13 hne)
 refine o_ldV X13 hx hZ e13 U14 ⟨by decide, by decide⟩ (v := (.int u7)) rfl hby d6_12 ?_
 refine o_istore X13 hx hby d6_13 (l' := #[wR o0, wI 7, wR o2, wI 7, wI 9, wI 7, wI u7]) rfl ?_
 refine o_iload X13 hx hby d6_15 rfl ?_
 refine own_go (fun τ κ => XS.sipush X13.here hx rfl (hb hby d6_17) κ) ?_
 show own_End p e below s (T13.setTop (mkF m 20 _ [(.int 255), (.int u7)])) _ _ _
 refine o_icmpYes X13 hx (pc0 := 20) (pc' := 26) rfl hby d6_20 (own_flt (x := 255) (y := u7) (i := 255) (j := u7.toInt) rfl rfl hu7).2.2.2 (by decide) (by decide) ?_
 refine o_aloadN X13 hx hby d6_26 rfl ?_
 refine o_iloadN X13 hx hby d6_27 rfl ?_
 refine o_iload X13 hx hby d6_28 rfl ?_
 refine own_go (fun τ κ => XS.i2b X13.here hx rfl (hb hby d6_30) rfl κ) ?_
 show own_End p e below s (T13.setTop (mkF m 31 _ [(.int (u7.toInt8.toInt32)), (.int 7), (.ref o2)])) _ _ _
 refine o_stB X13 hx hZ e13 V_o2_13 ⟨by decide, by decide⟩ (i := 7) rfl (Nat.le_of_ble_eq_true rfl) N13 g_o2 hby d6_31 fun T15 h15 ls15 X15 e15 W15 V_o2_15 N15 => ?_
 replace V_o2_15 : Arv Z h15 o2 kb .byte (9 : Int32) [(.int ((u0.toInt8.toInt32).toInt8.toInt32)), (.int ((u1.toInt8.toInt32).toInt8.toInt32)), (.int ((u2.toInt8.toInt32).toInt8.toInt32)), (.int ((u3.toInt8.toInt32).toInt8.toInt32)), (.int ((u4.toInt8.toInt32).toInt8.toInt32)), (.int ((u5.toInt8.toInt32).toInt8.toInt32)), (.int ((u6.toInt8.toInt32).toInt8.toInt32)), (.int ((u7.toInt8.toInt32).toInt8.toInt32)), (.int 0)] (.int 0) := V_o2_15
 have Z15 := Nat.le_trans Z13 (Keep.of_wr W15).1
 have KP15 := KP13.wr W15 (Or.inl (List.mem_of_getElem? (i := 0) rfl))
 refine o_iinc X15 hx hby d6_32 rfl (l' := #[wR o0, wI 8, wR o2, wI 7, wI 9, wI 7, wI u7]) rfl ?_
 refine o_iinc X15 hx hby d6_35 rfl (l' := #[wR o0, wI 8, wR o2, wI 8, wI 9, wI 7, wI u7]) rfl ?_
 refine o_iinc X15 hx hby d6_38 rfl (l' := #[wR o0, wI 8, wR o2, wI 8, wI 9, wI 8, wI u7]) rfl ?_
 refine o_goto X15 hx (pc0 := 41) (pc' := 3) rfl hby d6_41 (by decide) (by decide) ?_
 refine o_iload X15 hx hby d6_3 rfl ?_
 refine o_iload X15 hx hby d6_5 rfl ?_
 refine o_icmpNo X15 hx hby d6_7 (own_tlt (x := 8) (y := 9) (i := 8) (j := 9) rfl rfl (by decide)).2.1 ?_
 refine o_aloadN X15 hx hby d6_10 rfl ?_
 refine o_iloadN X15 hx hby d6_11 rfl ?_
 have U16 := (U14.other W15 hne)
 refine o_ldV X15 hx hZ e15 U16 ⟨by decide, by decide⟩ (v := (.int u8)) rfl hby d6_12 ?_
 refine o_istore X15 hx hby d6_13 (l' := #[wR o0, wI 8, wR o2, wI 8, wI 9, wI 8, wI u8]) rfl ?_
 refine o_iload X15 hx hby d6_15 rfl ?_
 refine own_go (fun τ κ => XS.sipush X15.here hx rfl (hb hby d6_17) κ) ?_
 show own_End p e below s (T15.setTop (mkF m 20 _ [(.int 255), (.int u8)])) _ _ _
 refine o_icmpYes X15 hx (pc0 := 20) (pc' := 26) rfl hby d6_20 (own_flt (x := 255) (y := u8) (i := 255) (j := u8.toInt) rfl rfl hu8).2.2.2 (by decide) (by decide) ?_
 refine o_aloadN X15 hx hby d6_26 rfl ?_
 refine o_iloadN X15 hx hby d6_27 rfl ?_
 refine o_iload X15 hx hby d6_28 rfl ?_
 refine own_go (fun τ κ => XS.i2b X15.here hx rfl (hb hby d6_30) rfl κ) ?_
 show own_End p e below s (T15.setTop (mkF m 31 _ [(.int (u8.toInt8.toInt32)), (.int 8), (.ref o2)])) _ _ _
 refine o_stB X15 hx hZ e15 V_o2_15 ⟨by decide, by decide⟩ (i := 8) rfl (Nat.le_of_ble_eq_true rfl) N15 g_o2 hby d6_31 fun T17 h17 ls17 X17 e17 W17 V_o2_17 N17 => ?_
 replace V_o2_17 : Arv Z h17 o2 kb .byte (9 : Int32) [(.int ((u0.toInt8.toInt32).toInt8.toInt32)), (.int ((u1.toInt8.toInt32).toInt8.toInt32)), (.int ((u2.toInt8.toInt32).toInt8.toInt32)), (.int ((u3.toInt8.toInt32).toInt8.toInt32)), (.int ((u4.toInt8.toInt32).toInt8.toInt32)), (.int ((u5.toInt8.toInt32).toInt8.toInt32)), (.int ((u6.toInt8.toInt32).toInt8.toInt32)), (.int ((u7.toInt8.toInt32).toInt8.toInt32)), (.int ((u8.toInt8.toInt32).toInt8.toInt32))] (.int 0) := V_o2_17
 have Z17 := Nat.le_trans Z15 (Keep.of_wr W17).1
 have KP17 := KP15.wr W17 (Or.inl (List.mem_of_getElem? (i := 0) rfl))
 refine o_iinc X17 hx hby d6_32 rfl (l' := #[wR o0, wI 9, wR o2, wI 8, wI 9, wI 8, wI u8]) rfl ?_
 refine o_iinc X17 hx hby d6_35 rfl (l' := #[wR o0, wI 9, wR o2, wI 9, wI 9, wI 8, wI u8]) rfl ?_
 refine o_iinc X17 hx hby d6_38 rfl (l' := #[wR o0, wI 9, wR o2, wI 9, wI 9, wI 9, wI u8]) rfl ?_
 refine o_goto X17 hx (pc0 := 41) (pc' := 3) rfl hby d6_41 (by decide) (by decide) ?_
 refine o_iload X17 hx hby d6_3 rfl ?_
 refine o_iload X17 hx hby d6_5 rfl ?_
 refine o_icmpYes X17 hx (pc0 := 7) (pc' := 44) rfl hby d6_7 (own_flt (x := 9) (y := 9) (i := 9) (j := 9) rfl rfl (by decide)).2.1 (by decide) (by decide) ?_
 refine o_iload X17 hx hby d6_44 rfl ?_
 refine own_ret X17 (v := some (.int 9)) (fun h => by rw [Bd.returns] at h; cases h) Bd.notSynchronized (fun fs hr => retI X17 hx Bd.returns (hb hby d6_46) hr) ?_ (by decide) (by decide)
 ·rw [e17]; exact ⟨rfl, N17, KP17, V_o2_17⟩
theorem own_ef5_rmB9 (m : MethodId) (o0 : Addr) : entryFrame m #[(.ref o0), (.int 0), (.int 9)] 6 = mkF m 0 #[.val (.ref o0), .val (.int 0), .val (.int 9), .unset, .unset, .unset] [] := by first | (simp [entryFrame, mkF, argsToLocals, Value.category]; done) | rfl
def Q_rmB9 (Z : State) (o0 : Addr) (kc : ClassId) (u0 : Int32) (u1 : Int32) (u2 : Int32) (u3 : Int32) (u4 : Int32) (u5 : Int32) (u6 : Int32) (u7 : Int32) (u8 : Int32) (h0 : Heap) (n0 : Nat) (v : Option Value) (h : Heap) (L : List Loc) : Prop := (∃ b kb, v = some (.ref b) ∧ h0.size ≤ b ∧ Arv Z h b kb .byte (9 : Int32) [(.int ((u0.toInt8.toInt32).toInt8.toInt32)), (.int ((u1.toInt8.toInt32).toInt8.toInt32)), (.int ((u2.toInt8.toInt32).toInt8.toInt32)), (.int ((u3.toInt8.toInt32).toInt8.toInt32)), (.int ((u4.toInt8.toInt32).toInt8.toInt32)), (.int ((u5.toInt8.toInt32).toInt8.toInt32)), (.int ((u6.toInt8.toInt32).toInt8.toInt32)), (.int ((u7.toInt8.toInt32).toInt8.toInt32)), (.int ((u8.toInt8.toInt32).toInt8.toInt32))] (.int 0) ∧ Keep h0 h []) ∧ Fr n0 L
abbrev wc5 : ByteArray := jdk_52_method_16_code
theorem d5_0 : decode wc5 0 = .ok (.iload_n 2, 1) := by decide +kernel
theorem d5_1 : decode wc5 1 = .ok (.newarray .byte, 2) := by decide +kernel
theorem d5_3 : decode wc5 3 = .ok (.astore_n 3, 1) := by decide +kernel
theorem d5_4 : decode wc5 4 = .ok (.aload_n 0, 1) := by decide +kernel
theorem d5_5 : decode wc5 5 = .ok (.iload_n 1, 1) := by decide +kernel
theorem d5_6 : decode wc5 6 = .ok (.aload_n 3, 1) := by decide +kernel
theorem d5_7 : decode wc5 7 = .ok (.iconst 0, 1) := by decide +kernel
theorem d5_8 : decode wc5 8 = .ok (.iload_n 2, 1) := by decide +kernel
theorem d5_9 : decode wc5 9 = .ok (.invokestatic 115, 3) := by decide +kernel
theorem own_pd17 : parseMethodDescriptor "([CI[BII)I" = some ⟨[(.array .char), .int, (.array .byte), .int, .int], some .int⟩ := by decide +kernel
abbrev wy6 : MethodName := (⟨"java/lang/StringUTF16", "compress", "([CI[BII)I"⟩ : MethodName)
theorem d5_12 : decode wc5 12 = .ok (.istore 4, 2) := by decide +kernel
theorem d5_14 : decode wc5 14 = .ok (.iload 4, 2) := by decide +kernel
theorem d5_16 : decode wc5 16 = .ok (.iload_n 2, 1) := by decide +kernel
theorem d5_17 : decode wc5 17 = .ok (.if_icmp .eq 40, 3) := by decide +kernel
theorem d5_57 : decode wc5 57 = .ok (.aload_n 3, 1) := by decide +kernel
theorem d5_58 : decode wc5 58 = .ok (.areturn, 1) := by decide +kernel
set_option maxRecDepth 65536 in
set_option maxHeartbeats 40000000 in
theorem rmB9 (l : Launch) (Z : State) (a0 : Array Value) (hw : ∀ d ∈ tables_1, d.before a0 Z = true) (ws : List Jvm.Cond) (o0 : Addr) (kc : ClassId) (u0 : Int32) (u1 : Int32) (u2 : Int32) (u3 : Int32) (u4 : Int32) (u5 : Int32) (u6 : Int32) (u7 : Int32) (u8 : Int32) (h0 : Heap) (n0 : Nat) (Z0 : n0 ≤ h0.size) (Vc : Arv Z h0 o0 kc .char (9 : Int32) [(.int u0), (.int u1), (.int u2), (.int u3), (.int u4), (.int u5), (.int u6), (.int u7), (.int u8)] (.int 0)) (hu0 : ¬ 255 < u0.toInt) (hu1 : ¬ 255 < u1.toInt) (hu2 : ¬ 255 < u2.toInt) (hu3 : ¬ 255 < u3.toInt) (hu4 : ¬ 255 < u4.toInt) (hu5 : ¬ 255 < u5.toInt) (hu6 : ¬ 255 < u6.toInt) (hu7 : ¬ 255 < u7.toInt) (hu8 : ¬ 255 < u8.toInt) :
  MetFree l (⟨"java/lang/StringUTF16", "compress", "([CII)[B"⟩ : MethodName) (head1 (Jvm.Cond.code (⟨"java/lang/StringUTF16", "compress", "([CII)[B"⟩ : MethodName) jdk_52_method_16_code 6 (some (.array .byte)) :: ws) ({ frames := 1, cells := 1, slots := 9, locals := 18 } : Room)) (fun a U => a = #[(.ref o0), (.int 0), (.int 9)] ∧ Z.Warmed39 U.vm ∧ U.heap = h0) (fun _ _ _ _ _ => True) (fun _ U o U' => ∃ v L, o = .returned v ∧ Q_rmB9 Z o0 kc u0 u1 u2 u3 u4 u5 u6 u7 u8 h0 n0 v U'.heap L ∧ FrameEnd U o U' L ({ frames := 1, cells := 1, slots := 9, locals := 18 } : Room).cells ({ frames := 1, cells := 1, slots := 9, locals := 18 } : Room).slots) := by
 refine MetFree.of_bodySF (plainFor_of_name own_pn9) hisR ?_
 intro p e s m args below meth c s₁ Bd hml0 hP hK
 obtain ⟨rfl, hZ, hh⟩ := hP
 have hW := @own_hW a0 Z hw
 have hx := Bd.exec
 have hby := Bd.bytes
 have hml : c.maxLocals = 6 := hml0
 have hown : s.vm.findClass "java/lang/StringUTF16" = some m.cls := findClass_of_methodNamed Bd.named
 have hnm := (name_of_methodNamed Bd.named Bd.method).1
 have X0 : Stand p l e ({ frames := 1, cells := 1, slots := 9, locals := 18 } : Room) s m #[(.ref o0), (.int 0), (.int 9)] below meth c s₁ [] 0 0 := Stand.of_body Bd
 have e0 : s₁.heap = h0 := by rw [← hh, Bd.state]; rfl
 have N0 := Fr.nil n0
 refine (show own_End p e below s (s₁.setTop (entryFrame m #[(.ref o0), (.int 0), (.int 9)] 6)) (Q_rmB9 Z o0 kc u0 u1 u2 u3 u4 u5 u6 u7 u8 h0 n0) ({ frames := 1, cells := 1, slots := 9, locals := 18 } : Room).cells ({ frames := 1, cells := 1, slots := 9, locals := 18 } : Room).slots from ?_)
 refine own_go (fun τ κ => castTop (own_ef5_rmB9 m o0) κ) ?_
 have li0 : (0 : Int32).toInt = 0 := rfl
 have li1 : (1 : Int32).toInt = 1 := rfl
 show own_End p e below s (s₁.setTop (mkF m 0 #[wR o0, wI 0, wI 9, wU, wU, wU] [])) _ _ _
 refine o_iloadN X0 hx hby d5_0 rfl ?_
 obtain ⟨T1, h1, k1, X1, e1, E1, A1, st1⟩ := newP X0 hx hZ (hW 23 rfl) e0 (g := (mkF m 1 #[wR o0, wI 0, wI 9, wU, wU, wU] [(.int 9)])) rfl (hb hby d5_1) rfl (by decide) (cap := 9) (by decide) (by decide) (by decide) (by decide)
 obtain ⟨b1, g1⟩ : ∃ z, z = h0.size := ⟨_, rfl⟩
 rw [← g1] at A1 st1
 have g_b1 := own_gf Z0 g1
 have ne_o0_b1 := own_nf Vc.lt g1
 have Z1 := Nat.le_trans Z0 E1.1
 have KP1 := (Keep.refl h0 []).ext E1
 have sz_b1 := own_gf (Keep.refl h0 []).1 g1
 have V_b1 : Arv Z h1 b1 k1 .byte (9 : Int32) [(.int 0), (.int 0), (.int 0), (.int 0), (.int 0), (.int 0), (.int 0), (.int 0), (.int 0)] (.int 0) := (Arv.new A1 (by decide)).pad (pad_rep [] (.int 0) 9)
 refine own_go st1 ?_
 show own_End p e below s (T1.setTop (mkF m 3 _ [(.ref b1)])) _ _ _
 refine o_astoreN X1 hx hby d5_3 (l' := #[wR o0, wI 0, wI 9, wR b1, wU, wU]) rfl ?_
 refine o_aloadN X1 hx hby d5_4 rfl ?_
 refine o_iloadN X1 hx hby d5_5 rfl ?_
 refine o_aloadN X1 hx hby d5_6 rfl ?_
 refine o_iconst X1 hx hby d5_7 (x := 0) rfl ?_
 refine o_iloadN X1 hx hby d5_8 rfl ?_
 have U2 := (Vc.ext E1)
 refine o_cS X1 hx hZ hown (y := wy6) (hW 24 rfl) (hW 25 rfl) (hW 21 rfl) (hW 26 rfl) (by decide) (backOf (W := 0) (rmK9 l Z a0 hw [] o0 b1 kc k1 u0 u1 u2 u3 u4 u5 u6 u7 u8 h1 n0 Z1 g_b1 ne_o0_b1 U2 V_b1 hu0 hu1 hu2 hu3 hu4 hu5 hu6 hu7 hu8) hZ (hW 26 rfl) (hW 21 rfl) (by decide) (by decide)) (by rw [hml]; rfl) (argsL := [(.ref o0), (.int 0), (.ref b1), (.int 0), (.int 9)]) (rest := []) (lenOf own_pd17 rfl) rfl rfl (Nat.le_of_eq rfl) e1 (by decide) (by decide) hby d5_9 N0 fun T3 v3 Lc3 ls3 X3 hQ3 nq3 => ?_
 obtain ⟨rfl, N3q, K3, Vb3⟩ := hQ3
 have N3 := nq3 N3q
 have Z3 := Nat.le_trans Z1 K3.1
 show own_End p e below s (T3.setTop (mkF m 12 _ [(.int 9)])) _ _ _
 have KP3 := KP1.trans K3 (allS (Or.inr sz_b1) all0)
 refine o_istore X3 hx hby d5_12 (l' := #[wR o0, wI 0, wI 9, wR b1, wI 9, wU]) rfl ?_
 refine o_iload X3 hx hby d5_14 rfl ?_
 refine o_iloadN X3 hx hby d5_16 rfl ?_
 refine o_icmpYes X3 hx (pc0 := 17) (pc' := 57) rfl hby d5_17 (own_eq (x := 9) (y := 9) (i := 9) (j := 9) rfl rfl (by decide)).1 (by decide) (by decide) ?_
 refine o_aloadN X3 hx hby d5_57 rfl ?_
 refine own_ret X3 (v := some (.ref b1)) (fun h => by rw [Bd.returns] at h; cases h) Bd.notSynchronized (fun fs hr => retOut X3 hx (w := (.ref b1)) Bd.returns rfl (Or.inr (Or.inr (Or.inr (Or.inr ⟨rfl, rfl, rfl⟩)))) (hb hby d5_58) hr) ?_ (by decide) (by decide)
 ·exact ⟨⟨_, _, rfl, sz_b1, Vb3, KP3⟩, N3⟩
theorem own_ef7_rmF9 (m : MethodId) (o0 : Addr) : entryFrame m #[(.ref o0), (.int 9)] 2 = mkF m 0 #[.val (.ref o0), .val (.int 9)] [] := by first | (simp [entryFrame, mkF, argsToLocals, Value.category]; done) | rfl
def Q_rmF9 (Z : State) (o0 : Addr) (kb : ClassId) (vs : List Value) (h0 : Heap) (n0 : Nat) (v : Option Value) (h : Heap) (L : List Loc) : Prop := v = some (.int 0) ∧ Fr n0 L ∧ h = h0
abbrev wc7 : ByteArray := jdk_52_method_15_code
theorem d7_0 : decode wc7 0 = .ok (.iload_n 1, 1) := by decide +kernel
theorem d7_1 : decode wc7 1 = .ok (.aload_n 0, 1) := by decide +kernel
theorem d7_2 : decode wc7 2 = .ok (.arraylength, 1) := by decide +kernel
theorem d7_3 : decode wc7 3 = .ok (.isub, 1) := by decide +kernel
theorem d7_4 : decode wc7 4 = .ok (.bipush 31, 2) := by decide +kernel
theorem d7_6 : decode wc7 6 = .ok (.iushr, 1) := by decide +kernel
theorem d7_7 : decode wc7 7 = .ok (.i2b, 1) := by decide +kernel
theorem d7_8 : decode wc7 8 = .ok (.ireturn, 1) := by decide +kernel
set_option maxRecDepth 65536 in
set_option maxHeartbeats 40000000 in
theorem rmF9 (l : Launch) (Z : State) (a0 : Array Value) (hw : ∀ d ∈ tables_1, d.before a0 Z = true) (ws : List Jvm.Cond) (o0 : Addr) (kb : ClassId) (vs : List Value) (h0 : Heap) (n0 : Nat) (Z0 : n0 ≤ h0.size) (Vb : Arv Z h0 o0 kb .byte (9 : Int32) vs (.int 0)) :
  MetFree l (⟨"java/lang/StringUTF16", "coderFromArrayLen", "([BI)B"⟩ : MethodName) (head1 (Jvm.Cond.code (⟨"java/lang/StringUTF16", "coderFromArrayLen", "([BI)B"⟩ : MethodName) jdk_52_method_15_code 2 (some .byte) :: ws) ({ frames := 0, cells := 0, slots := 0, locals := 0 } : Room)) (fun a U => a = #[(.ref o0), (.int 9)] ∧ Z.Warmed39 U.vm ∧ U.heap = h0) (fun _ _ _ _ _ => True) (fun _ U o U' => ∃ v L, o = .returned v ∧ Q_rmF9 Z o0 kb vs h0 n0 v U'.heap L ∧ FrameEnd U o U' L ({ frames := 0, cells := 0, slots := 0, locals := 0 } : Room).cells ({ frames := 0, cells := 0, slots := 0, locals := 0 } : Room).slots) := by
 refine MetFree.of_bodySF (plainFor_of_name own_pn9) hisR ?_
 intro p e s m args below meth c s₁ Bd hml0 hP hK
 obtain ⟨rfl, hZ, hh⟩ := hP
 have hW := @own_hW a0 Z hw
 have hx := Bd.exec
 have hby := Bd.bytes
 have hml : c.maxLocals = 2 := hml0
 have hown : s.vm.findClass "java/lang/StringUTF16" = some m.cls := findClass_of_methodNamed Bd.named
 have hnm := (name_of_methodNamed Bd.named Bd.method).1
 have X0 : Stand p l e ({ frames := 0, cells := 0, slots := 0, locals := 0 } : Room) s m #[(.ref o0), (.int 9)] below meth c s₁ [] 0 0 := Stand.of_body Bd
 have e0 : s₁.heap = h0 := by rw [← hh, Bd.state]; rfl
 have N0 := Fr.nil n0
 refine (show own_End p e below s (s₁.setTop (entryFrame m #[(.ref o0), (.int 9)] 2)) (Q_rmF9 Z o0 kb vs h0 n0) ({ frames := 0, cells := 0, slots := 0, locals := 0 } : Room).cells ({ frames := 0, cells := 0, slots := 0, locals := 0 } : Room).slots from ?_)
 refine own_go (fun τ κ => castTop (own_ef7_rmF9 m o0) κ) ?_
 have li0 : (0 : Int32).toInt = 0 := rfl
 have li1 : (1 : Int32).toInt = 1 := rfl
 show own_End p e below s (s₁.setTop (mkF m 0 #[wR o0, wI 9] [])) _ _ _
 refine o_iloadN X0 hx hby d7_0 rfl ?_
 refine o_aloadN X0 hx hby d7_1 rfl ?_
 obtain ⟨cl1, Ar1, qa1, Sq1, Mq1, Hh1, Gq1⟩ := id Vb
 refine own_go (fun τ κ => X0.arraylength hx (by rw [e0]; exact Ar1.1) (State.isArrayOf_alike hZ.alike Ar1.2.1) (g := (mkF m 2 #[wR o0, wI 9] [(.ref o0), (.int 9)])) rfl rfl (hb hby d7_2) _ (by rw [len_of Sq1 Mq1]; exact κ)) ?_
 show own_End p e below s (s₁.setTop (mkF m 3 _ [(.int 9), (.int 9)])) _ _ _
 refine o_isub X0 hx hby d7_3 ?_
 show own_End p e below s (s₁.setTop (mkF m 4 _ [(.int 0)])) _ _ _
 refine o_bipush X0 hx hby d7_4 (x := 31) rfl ?_
 refine o_iushr X0 hx hby d7_6 ?_
 refine own_go (fun τ κ => XS.i2b X0.here hx rfl (hb hby d7_7) rfl κ) ?_
 show own_End p e below s (s₁.setTop (mkF m 8 _ [(.int ((((0 : Int32).toUInt32 >>> ((31 : Int32) &&& 31).toUInt32).toInt32).toInt8.toInt32))])) _ _ _
 refine own_ret X0 (v := some (.int (((((0 : Int32).toUInt32 >>> ((31 : Int32) &&& 31).toUInt32).toInt32).toInt8.toInt32).toInt8.toInt32))) (fun h => by rw [Bd.returns] at h; cases h) Bd.notSynchronized (fun fs hr => retN X0 hx (t := .byte) Bd.returns (by simp) (hb hby d7_8) hr) ?_ (by decide) (by decide)
 ·rw [e0]; exact ⟨rfl, N0, rfl⟩
theorem own_ef3_rmI9 (m : MethodId) (o0 : Addr) (o1 : Addr) : entryFrame m #[(.ref o0), (.ref o1), (.int 0), (.int 9), .null] 6 = mkF m 0 #[.val (.ref o0), .val (.ref o1), .val (.int 0), .val (.int 9), .val .null, .unset] [] := by first | (simp [entryFrame, mkF, argsToLocals, Value.category]; done) | rfl
def Q_rmI9 (Z : State) (o0 : Addr) (o1 : Addr) (kc : ClassId) (cz : Int32) (u0 : Int32) (u1 : Int32) (u2 : Int32) (u3 : Int32) (u4 : Int32) (u5 : Int32) (u6 : Int32) (u7 : Int32) (u8 : Int32) (h0 : Heap) (n0 : Nat) (v : Option Value) (h : Heap) (L : List Loc) : Prop := (∃ b kb, h0.size ≤ b ∧ own_Str Z h o0 b kb (9 : Int32) [(.int ((u0.toInt8.toInt32).toInt8.toInt32)), (.int ((u1.toInt8.toInt32).toInt8.toInt32)), (.int ((u2.toInt8.toInt32).toInt8.toInt32)), (.int ((u3.toInt8.toInt32).toInt8.toInt32)), (.int ((u4.toInt8.toInt32).toInt8.toInt32)), (.int ((u5.toInt8.toInt32).toInt8.toInt32)), (.int ((u6.toInt8.toInt32).toInt8.toInt32)), (.int ((u7.toInt8.toInt32).toInt8.toInt32)), (.int ((u8.toInt8.toInt32).toInt8.toInt32))]) ∧ Fr n0 L ∧ Keep h0 h [o0] ∧ v = none
abbrev wc3 : ByteArray := jdk_42_method_149_code
theorem d3_0 : decode wc3 0 = .ok (.aload_n 0, 1) := by decide +kernel
theorem d3_1 : decode wc3 1 = .ok (.invokespecial 1, 3) := by decide +kernel
theorem d3_4 : decode wc3 4 = .ok (.iload_n 3, 1) := by decide +kernel
theorem d3_5 : decode wc3 5 = .ok (.ifCond .ne 22, 3) := by decide +kernel
theorem d3_27 : decode wc3 27 = .ok (.getstatic 38, 3) := by decide +kernel
theorem d3_30 : decode wc3 30 = .ok (.ifCond .eq 28, 3) := by decide +kernel
theorem d3_33 : decode wc3 33 = .ok (.aload_n 1, 1) := by decide +kernel
theorem d3_34 : decode wc3 34 = .ok (.iload_n 2, 1) := by decide +kernel
theorem d3_35 : decode wc3 35 = .ok (.iload_n 3, 1) := by decide +kernel
theorem d3_36 : decode wc3 36 = .ok (.invokestatic 177, 3) := by decide +kernel
theorem own_pd18 : parseMethodDescriptor "([CII)[B" = some ⟨[(.array .char), .int, .int], some (.array .byte)⟩ := by decide +kernel
abbrev wy5 : MethodName := (⟨"java/lang/StringUTF16", "compress", "([CII)[B"⟩ : MethodName)
theorem d3_39 : decode wc3 39 = .ok (.astore 5, 2) := by decide +kernel
theorem d3_41 : decode wc3 41 = .ok (.aload_n 0, 1) := by decide +kernel
theorem d3_42 : decode wc3 42 = .ok (.aload 5, 2) := by decide +kernel
theorem d3_44 : decode wc3 44 = .ok (.iload_n 3, 1) := by decide +kernel
theorem d3_45 : decode wc3 45 = .ok (.invokestatic 47, 3) := by decide +kernel
theorem own_pd19 : parseMethodDescriptor "([BI)B" = some ⟨[(.array .byte), .int], some .byte⟩ := by decide +kernel
abbrev wy7 : MethodName := (⟨"java/lang/StringUTF16", "coderFromArrayLen", "([BI)B"⟩ : MethodName)
theorem d3_48 : decode wc3 48 = .ok (.putfield 15, 3) := by decide +kernel
theorem d3_51 : decode wc3 51 = .ok (.aload_n 0, 1) := by decide +kernel
theorem d3_52 : decode wc3 52 = .ok (.aload 5, 2) := by decide +kernel
theorem d3_54 : decode wc3 54 = .ok (.putfield 9, 3) := by decide +kernel
theorem d3_57 : decode wc3 57 = .ok (.return_, 1) := by decide +kernel
set_option maxRecDepth 65536 in
set_option maxHeartbeats 40000000 in
theorem rmI9 (l : Launch) (Z : State) (a0 : Array Value) (hw : ∀ d ∈ tables_1, d.before a0 Z = true) (ws : List Jvm.Cond) (o0 : Addr) (o1 : Addr) (kc : ClassId) (cz : Int32) (u0 : Int32) (u1 : Int32) (u2 : Int32) (u3 : Int32) (u4 : Int32) (u5 : Int32) (u6 : Int32) (u7 : Int32) (u8 : Int32) (h0 : Heap) (n0 : Nat) (Z0 : n0 ≤ h0.size) (g_o0 : n0 ≤ o0) (E_o0 : Exa Z h0 o0 "java/lang/String") (F_value : Fld Z h0 o0 "java/lang/String" "value" "[B" .null) (F_coder : Fld Z h0 o0 "java/lang/String" "coder" "B" (.int 0)) (hne : o0 ≠ o1) (Vc : Arv Z h0 o1 kc .char (9 : Int32) [(.int u0), (.int u1), (.int u2), (.int u3), (.int u4), (.int u5), (.int u6), (.int u7), (.int u8)] (.int 0)) (Ol : Old Z n0 h0) (S_C : Sta Z Z.heap "java/lang/String" "COMPACT_STRINGS" "Z" (.int cz)) (hcz : ¬ cz.toInt = 0) (hu0 : ¬ 255 < u0.toInt) (hu1 : ¬ 255 < u1.toInt) (hu2 : ¬ 255 < u2.toInt) (hu3 : ¬ 255 < u3.toInt) (hu4 : ¬ 255 < u4.toInt) (hu5 : ¬ 255 < u5.toInt) (hu6 : ¬ 255 < u6.toInt) (hu7 : ¬ 255 < u7.toInt) (hu8 : ¬ 255 < u8.toInt) :
  MetFree l (⟨"java/lang/String", "<init>", "([CIILjava/lang/Void;)V"⟩ : MethodName) (head1 (Jvm.Cond.code (⟨"java/lang/String", "<init>", "([CIILjava/lang/Void;)V"⟩ : MethodName) jdk_42_method_149_code 6 none :: ws) ({ frames := 2, cells := 1, slots := 9, locals := 36 } : Room)) (fun a U => a = #[(.ref o0), (.ref o1), (.int 0), (.int 9), .null] ∧ Z.Warmed39 U.vm ∧ U.heap = h0) (fun _ _ _ _ _ => True) (fun _ U o U' => ∃ v L, o = .returned v ∧ Q_rmI9 Z o0 o1 kc cz u0 u1 u2 u3 u4 u5 u6 u7 u8 h0 n0 v U'.heap L ∧ FrameEnd U o U' L ({ frames := 2, cells := 1, slots := 9, locals := 36 } : Room).cells ({ frames := 2, cells := 1, slots := 9, locals := 36 } : Room).slots) := by
 refine MetFree.of_bodySF (plainFor_of_name own_pn4) hisR ?_
 intro p e s m args below meth c s₁ Bd hml0 hP hK
 obtain ⟨rfl, hZ, hh⟩ := hP
 have hW := @own_hW a0 Z hw
 have hx := Bd.exec
 have hby := Bd.bytes
 have hml : c.maxLocals = 6 := hml0
 have hown : s.vm.findClass "java/lang/String" = some m.cls := findClass_of_methodNamed Bd.named
 have hnm := (name_of_methodNamed Bd.named Bd.method).1
 have X0 : Stand p l e ({ frames := 2, cells := 1, slots := 9, locals := 36 } : Room) s m #[(.ref o0), (.ref o1), (.int 0), (.int 9), .null] below meth c s₁ [] 0 0 := Stand.of_body Bd
 have e0 : s₁.heap = h0 := by rw [← hh, Bd.state]; rfl
 have N0 := Fr.nil n0
 refine (show own_End p e below s (s₁.setTop (entryFrame m #[(.ref o0), (.ref o1), (.int 0), (.int 9), .null] 6)) (Q_rmI9 Z o0 o1 kc cz u0 u1 u2 u3 u4 u5 u6 u7 u8 h0 n0) ({ frames := 2, cells := 1, slots := 9, locals := 36 } : Room).cells ({ frames := 2, cells := 1, slots := 9, locals := 36 } : Room).slots from ?_)
 refine own_go (fun τ κ => castTop (own_ef3_rmI9 m o0 o1) κ) ?_
 have li0 : (0 : Int32).toInt = 0 := rfl
 have li1 : (1 : Int32).toInt = 1 := rfl
 show own_End p e below s (s₁.setTop (mkF m 0 #[wR o0, wR o1, wI 0, wI 9, .val .null, wU] [])) _ _ _
 refine o_aloadN X0 hx hby d3_0 rfl ?_
 obtain ⟨T1, X1, e1, st1⟩ := initO X0 hx hZ hown (hW 15 rfl) (hW 16 rfl) (hW 17 rfl) e0 (g := (mkF m 1 #[wR o0, wR o1, wI 0, wI 9, .val .null, wU] [(.ref o0)])) rfl (by rw [hml]; rfl) rfl (hb hby d3_1) (by decide) (W := 0) (by show 2 * 0 + _ ≤ _; exact Nat.le_of_eq rfl) (by decide)
 refine own_go st1 ?_
 show own_End p e below s (T1.setTop (mkF m 4 _ [])) _ _ _
 refine o_iloadN X1 hx hby d3_4 rfl ?_
 refine o_ifYes X1 hx (pc0 := 5) (pc' := 27) rfl hby d3_5 ((if0 _ _).trans (own_ne (x := 9) (y := 0) (i := 9) (j := 0) rfl rfl (by decide)).2) (by decide) (by decide) ?_
 obtain ⟨T2, X2, e2, st2⟩ := getS2 X1 hx hZ hown (host := "") (Or.inl (hW 18 rfl)) Via.refl e1 (S_C.ext Ol.2) (g := (mkF m 27 #[wR o0, wR o1, wI 0, wI 9, .val .null, wU] [])) rfl (hb hby d3_27)
 refine own_go st2 ?_
 show own_End p e below s (T2.setTop (mkF m 30 _ [(.int cz)])) _ _ _
 refine o_ifNo X2 hx hby d3_30 ((if0 _ _).trans (own_ne (x := cz) (y := 0) (i := cz.toInt) (j := 0) rfl rfl hcz).1) ?_
 refine o_aloadN X2 hx hby d3_33 rfl ?_
 refine o_iloadN X2 hx hby d3_34 rfl ?_
 refine o_iloadN X2 hx hby d3_35 rfl ?_
 refine o_cS X2 hx hZ hown (y := wy5) (hW 19 rfl) (hW 20 rfl) (hW 21 rfl) (hW 22 rfl) (by decide) (backOf (W := 0) (rmB9 l Z a0 hw [] o1 kc u0 u1 u2 u3 u4 u5 u6 u7 u8 h0 n0 Z0 Vc hu0 hu1 hu2 hu3 hu4 hu5 hu6 hu7 hu8) hZ (hW 22 rfl) (hW 21 rfl) (by decide) (by decide)) (by rw [hml]; rfl) (argsL := [(.ref o1), (.int 0), (.int 9)]) (rest := []) (lenOf own_pd18 rfl) rfl rfl (Nat.le_of_eq rfl) e2 (by decide) (by decide) hby d3_36 N0 fun T3 v3 Lc3 ls3 X3 hQ3 nq3 => ?_
 obtain ⟨⟨bb3, kb3, rfl, zb3, Vb3, K3⟩, N3q⟩ := hQ3
 have N3 := nq3 N3q
 have Z3 := Nat.le_trans Z0 K3.1
 show own_End p e below s (T3.setTop (mkF m 39 _ [(.ref bb3)])) _ _ _
 have g_bb3 : n0 ≤ bb3 := Nat.le_trans Z0 zb3
 have sz_bb3 : h0.size ≤ bb3 := Nat.le_trans (Keep.refl h0 [o0]).1 zb3
 have ne_o0_bb3 := own_nb E_o0.lt zb3
 have ne_o1_bb3 := own_nb Vc.lt zb3
 have KP3 := (Keep.refl h0 [o0]).trans K3 all0
 refine o_astore X3 hx hby d3_39 (l' := #[wR o0, wR o1, wI 0, wI 9, .val .null, wR bb3]) rfl ?_
 refine o_aloadN X3 hx hby d3_41 rfl ?_
 refine o_aload X3 hx hby d3_42 rfl ?_
 refine o_iloadN X3 hx hby d3_44 rfl ?_
 refine o_cS X3 hx hZ hown (y := wy7) (hW 27 rfl) (hW 28 rfl) (hW 21 rfl) (hW 29 rfl) (by decide) (backOf (W := 1) (rmF9 l Z a0 hw [] bb3 kb3 [(.int ((u0.toInt8.toInt32).toInt8.toInt32)), (.int ((u1.toInt8.toInt32).toInt8.toInt32)), (.int ((u2.toInt8.toInt32).toInt8.toInt32)), (.int ((u3.toInt8.toInt32).toInt8.toInt32)), (.int ((u4.toInt8.toInt32).toInt8.toInt32)), (.int ((u5.toInt8.toInt32).toInt8.toInt32)), (.int ((u6.toInt8.toInt32).toInt8.toInt32)), (.int ((u7.toInt8.toInt32).toInt8.toInt32)), (.int ((u8.toInt8.toInt32).toInt8.toInt32))] T3.heap n0 Z3 Vb3) hZ (hW 29 rfl) (hW 21 rfl) (by decide) (by decide)) (by rw [hml]; rfl) (argsL := [(.ref bb3), (.int 9)]) (rest := [(.ref o0)]) (lenOf own_pd19 rfl) rfl rfl (Nat.le_of_eq rfl) rfl (by decide) (by decide) hby d3_45 N3 fun T4 v4 Lc4 ls4 X4 hQ4 nq4 => ?_
 obtain ⟨rfl, N4q, e4⟩ := hQ4
 have N4 := nq4 N4q
 show own_End p e below s (T4.setTop (mkF m 48 _ [(.int 0), (.ref o0)])) _ _ _
 have U5 := (E_o0.keep K3)
 have U6 := (F_coder.keep K3 nin0)
 obtain ⟨T7, h7, X7, e7, W7, st7⟩ := putFN X4 hx hZ hown (hW 30 rfl) Via.refl e4 U6 U5 (Or.inr ⟨(hW 31 rfl), rfl, hnm⟩) (hW 6 rfl) (ty := .byte) (v' := (.int 0)) (by decide) rfl rfl (g := (mkF m 48 #[wR o0, wR o1, wI 0, wI 9, .val .null, wR bb3] [(.int 0), (.ref o0)])) rfl rfl (hb hby d3_48)
 have Fw7 := U6.same W7
 have N7 := Fr.snoc X7 N4 g_o0
 obtain ⟨ls7, Xl7, Nl7⟩ := own_abs X7 N7
 have Z7 := Nat.le_trans Z3 (Keep.of_wr W7).1
 have KP7 := KP3.wr W7 (Or.inl (List.mem_of_getElem? (i := 0) rfl))
 refine own_go st7 ?_
 show own_End p e below s (T7.setTop (mkF m 51 _ [])) _ _ _
 refine o_aloadN Xl7 hx hby d3_51 rfl ?_
 refine o_aload Xl7 hx hby d3_52 rfl ?_
 have U8 := (U5.wr W7)
 have U9 := ((F_value.keep K3 nin0).other W7 (Or.inr (slot_ne (Or.inr (hW 33 rfl)) (Or.inr (hW 31 rfl)) (by decide) (t := (.array .byte)) (t' := .byte) (by decide) (by decide))))
 obtain ⟨T10, h10, X10, e10, W10, st10⟩ := putF Xl7 hx hZ hown (host := "") (Or.inl (hW 32 rfl)) Via.refl e7 U9 U8 (Or.inr ⟨(hW 33 rfl), rfl, hnm⟩) (hW 6 rfl) (ty := (.array .byte)) (by decide) rfl rfl (g := (mkF m 54 #[wR o0, wR o1, wI 0, wI 9, .val .null, wR bb3] [(.ref bb3), (.ref o0)])) rfl rfl (hb hby d3_54)
 have Fw10 := U9.same W10
 have N10 := Fr.snoc X10 Nl7 g_o0
 obtain ⟨ls10, Xl10, Nl10⟩ := own_abs X10 N10
 have Z10 := Nat.le_trans Z7 (Keep.of_wr W10).1
 have KP10 := KP7.wr W10 (Or.inl (List.mem_of_getElem? (i := 0) rfl))
 refine own_go st10 ?_
 show own_End p e below s (T10.setTop (mkF m 57 _ [])) _ _ _
 refine own_ret Xl10 (v := none) (fun _ => rfl) Bd.notSynchronized (fun fs hr => Xl10.returnOut hx Bd.returns (hb hby d3_57) hr) ?_ (by decide) (by decide)
 have U11 := (U8.wr W10)
 have U12 := (Fw7.other W10 (Or.inr (slot_ne (Or.inr (hW 31 rfl)) (Or.inr (hW 33 rfl)) (by decide) (t := .byte) (t' := (.array .byte)) (by decide) (by decide))))
 have U13 := ((Vb3.other W7 (Ne.symm ne_o0_bb3)).other W10 (Ne.symm ne_o0_bb3))
 ·rw [e10]; exact ⟨⟨_, _, sz_bb3, ⟨U11, Fw10, U12, U13⟩⟩, Nl10, KP10, rfl⟩
theorem own_ef2_rmC9 (m : MethodId) (o0 : Addr) (o1 : Addr) : entryFrame m #[(.ref o0), (.ref o1)] 2 = mkF m 0 #[.val (.ref o0), .val (.ref o1)] [] := by first | (simp [entryFrame, mkF, argsToLocals, Value.category]; done) | rfl
def Q_rmC9 (Z : State) (o0 : Addr) (o1 : Addr) (kc : ClassId) (cz : Int32) (u0 : Int32) (u1 : Int32) (u2 : Int32) (u3 : Int32) (u4 : Int32) (u5 : Int32) (u6 : Int32) (u7 : Int32) (u8 : Int32) (h0 : Heap) (n0 : Nat) (v : Option Value) (h : Heap) (L : List Loc) : Prop := (∃ b kb, h0.size ≤ b ∧ own_Str Z h o0 b kb (9 : Int32) [(.int ((u0.toInt8.toInt32).toInt8.toInt32)), (.int ((u1.toInt8.toInt32).toInt8.toInt32)), (.int ((u2.toInt8.toInt32).toInt8.toInt32)), (.int ((u3.toInt8.toInt32).toInt8.toInt32)), (.int ((u4.toInt8.toInt32).toInt8.toInt32)), (.int ((u5.toInt8.toInt32).toInt8.toInt32)), (.int ((u6.toInt8.toInt32).toInt8.toInt32)), (.int ((u7.toInt8.toInt32).toInt8.toInt32)), (.int ((u8.toInt8.toInt32).toInt8.toInt32))]) ∧ Fr n0 L ∧ Keep h0 h [o0] ∧ v = none
abbrev wc2 : ByteArray := jdk_42_method_3_code
theorem d2_0 : decode wc2 0 = .ok (.aload_n 0, 1) := by decide +kernel
theorem d2_1 : decode wc2 1 = .ok (.aload_n 1, 1) := by decide +kernel
theorem d2_2 : decode wc2 2 = .ok (.iconst 0, 1) := by decide +kernel
theorem d2_3 : decode wc2 3 = .ok (.aload_n 1, 1) := by decide +kernel
theorem d2_4 : decode wc2 4 = .ok (.arraylength, 1) := by decide +kernel
theorem d2_5 : decode wc2 5 = .ok (.aconst_null, 1) := by decide +kernel
theorem d2_6 : decode wc2 6 = .ok (.invokespecial 27, 3) := by decide +kernel
theorem own_pd20 : parseMethodDescriptor "([CIILjava/lang/Void;)V" = some ⟨[(.array .char), .int, .int, (.object "java/lang/Void")], none⟩ := by decide +kernel
abbrev wy3 : MethodName := (⟨"java/lang/String", "<init>", "([CIILjava/lang/Void;)V"⟩ : MethodName)
theorem d2_9 : decode wc2 9 = .ok (.return_, 1) := by decide +kernel
set_option maxRecDepth 65536 in
set_option maxHeartbeats 40000000 in
theorem rmC9 (l : Launch) (Z : State) (a0 : Array Value) (hw : ∀ d ∈ tables_1, d.before a0 Z = true) (ws : List Jvm.Cond) (o0 : Addr) (o1 : Addr) (kc : ClassId) (cz : Int32) (u0 : Int32) (u1 : Int32) (u2 : Int32) (u3 : Int32) (u4 : Int32) (u5 : Int32) (u6 : Int32) (u7 : Int32) (u8 : Int32) (h0 : Heap) (n0 : Nat) (Z0 : n0 ≤ h0.size) (g_o0 : n0 ≤ o0) (E_o0 : Exa Z h0 o0 "java/lang/String") (F_value : Fld Z h0 o0 "java/lang/String" "value" "[B" .null) (F_coder : Fld Z h0 o0 "java/lang/String" "coder" "B" (.int 0)) (hne : o0 ≠ o1) (Vc : Arv Z h0 o1 kc .char (9 : Int32) [(.int u0), (.int u1), (.int u2), (.int u3), (.int u4), (.int u5), (.int u6), (.int u7), (.int u8)] (.int 0)) (Ol : Old Z n0 h0) (S_C : Sta Z Z.heap "java/lang/String" "COMPACT_STRINGS" "Z" (.int cz)) (hcz : ¬ cz.toInt = 0) (hu0 : ¬ 255 < u0.toInt) (hu1 : ¬ 255 < u1.toInt) (hu2 : ¬ 255 < u2.toInt) (hu3 : ¬ 255 < u3.toInt) (hu4 : ¬ 255 < u4.toInt) (hu5 : ¬ 255 < u5.toInt) (hu6 : ¬ 255 < u6.toInt) (hu7 : ¬ 255 < u7.toInt) (hu8 : ¬ 255 < u8.toInt) :
  MetFree l (⟨"java/lang/String", "<init>", "([C)V"⟩ : MethodName) (head1 (Jvm.Cond.code (⟨"java/lang/String", "<init>", "([C)V"⟩ : MethodName) jdk_42_method_3_code 2 none :: ws) ({ frames := 3, cells := 1, slots := 9, locals := 54 } : Room)) (fun a U => a = #[(.ref o0), (.ref o1)] ∧ Z.Warmed39 U.vm ∧ U.heap = h0) (fun _ _ _ _ _ => True) (fun _ U o U' => ∃ v L, o = .returned v ∧ Q_rmC9 Z o0 o1 kc cz u0 u1 u2 u3 u4 u5 u6 u7 u8 h0 n0 v U'.heap L ∧ FrameEnd U o U' L ({ frames := 3, cells := 1, slots := 9, locals := 54 } : Room).cells ({ frames := 3, cells := 1, slots := 9, locals := 54 } : Room).slots) := by
 refine MetFree.of_bodySF (plainFor_of_name own_pn4) hisR ?_
 intro p e s m args below meth c s₁ Bd hml0 hP hK
 obtain ⟨rfl, hZ, hh⟩ := hP
 have hW := @own_hW a0 Z hw
 have hx := Bd.exec
 have hby := Bd.bytes
 have hml : c.maxLocals = 2 := hml0
 have hown : s.vm.findClass "java/lang/String" = some m.cls := findClass_of_methodNamed Bd.named
 have hnm := (name_of_methodNamed Bd.named Bd.method).1
 have X0 : Stand p l e ({ frames := 3, cells := 1, slots := 9, locals := 54 } : Room) s m #[(.ref o0), (.ref o1)] below meth c s₁ [] 0 0 := Stand.of_body Bd
 have e0 : s₁.heap = h0 := by rw [← hh, Bd.state]; rfl
 have N0 := Fr.nil n0
 refine (show own_End p e below s (s₁.setTop (entryFrame m #[(.ref o0), (.ref o1)] 2)) (Q_rmC9 Z o0 o1 kc cz u0 u1 u2 u3 u4 u5 u6 u7 u8 h0 n0) ({ frames := 3, cells := 1, slots := 9, locals := 54 } : Room).cells ({ frames := 3, cells := 1, slots := 9, locals := 54 } : Room).slots from ?_)
 refine own_go (fun τ κ => castTop (own_ef2_rmC9 m o0 o1) κ) ?_
 have li0 : (0 : Int32).toInt = 0 := rfl
 have li1 : (1 : Int32).toInt = 1 := rfl
 show own_End p e below s (s₁.setTop (mkF m 0 #[wR o0, wR o1] [])) _ _ _
 refine o_aloadN X0 hx hby d2_0 rfl ?_
 refine o_aloadN X0 hx hby d2_1 rfl ?_
 refine o_iconst X0 hx hby d2_2 (x := 0) rfl ?_
 refine o_aloadN X0 hx hby d2_3 rfl ?_
 obtain ⟨cl1, Ar1, qa1, Sq1, Mq1, Hh1, Gq1⟩ := id Vc
 refine own_go (fun τ κ => X0.arraylength hx (by rw [e0]; exact Ar1.1) (State.isArrayOf_alike hZ.alike Ar1.2.1) (g := (mkF m 4 #[wR o0, wR o1] [(.ref o1), (.int 0), (.ref o1), (.ref o0)])) rfl rfl (hb hby d2_4) _ (by rw [len_of Sq1 Mq1]; exact κ)) ?_
 show own_End p e below s (s₁.setTop (mkF m 5 _ [(.int 9), (.int 0), (.ref o1), (.ref o0)])) _ _ _
 refine own_go (fun τ κ => XS.aconstNull X0.here hx rfl (hb hby d2_5) κ) ?_
 show own_End p e below s (s₁.setTop (mkF m 6 _ [.null, (.int 9), (.int 0), (.ref o1), (.ref o0)])) _ _ _
 refine o_cI X0 hx hZ hown (y := wy3) rfl (hW 11 rfl) (hW 12 rfl) (hW 14 rfl) (by decide) (backOf (W := 0) (rmI9 l Z a0 hw [] o0 o1 kc cz u0 u1 u2 u3 u4 u5 u6 u7 u8 h0 n0 Z0 g_o0 E_o0 F_value F_coder hne Vc Ol S_C hcz hu0 hu1 hu2 hu3 hu4 hu5 hu6 hu7 hu8) hZ (hW 14 rfl) (hW 7 rfl) (by decide) (by decide)) (by rw [hml]; rfl) (argsL := [(.ref o1), (.int 0), (.int 9), .null]) (rest := []) (lenOf own_pd20 rfl) rfl rfl (Nat.le_of_eq rfl) e0 (by decide) (by decide) hby d2_6 N0 fun T2 v2 Lc2 ls2 X2 hQ2 nq2 => ?_
 obtain ⟨⟨sb2, sk2, zb2, Ss2⟩, N2q, K2, rfl⟩ := hQ2
 have N2 := nq2 N2q
 have Z2 := Nat.le_trans Z0 K2.1
 show own_End p e below s (T2.setTop (mkF m 9 _ [])) _ _ _
 have KP2 := (Keep.refl h0 [o0]).trans K2 (allS (Or.inl (List.mem_of_getElem? (i := 0) rfl)) all0)
 refine own_ret X2 (v := none) (fun _ => rfl) Bd.notSynchronized (fun fs hr => X2.returnOut hx Bd.returns (hb hby d2_9) hr) ?_ (by decide) (by decide)
 ·exact ⟨⟨_, _, zb2, Ss2⟩, N2, KP2, rfl⟩
theorem own_ef6_rmK3 (m : MethodId) (o0 : Addr) (o2 : Addr) : entryFrame m #[(.ref o0), (.int 0), (.ref o2), (.int 0), (.int 3)] 7 = mkF m 0 #[.val (.ref o0), .val (.int 0), .val (.ref o2), .val (.int 0), .val (.int 3), .unset, .unset] [] := by first | (simp [entryFrame, mkF, argsToLocals, Value.category]; done) | rfl
def Q_rmK3 (Z : State) (o0 : Addr) (o2 : Addr) (kc : ClassId) (kb : ClassId) (u0 : Int32) (u1 : Int32) (u2 : Int32) (h0 : Heap) (n0 : Nat) (v : Option Value) (h : Heap) (L : List Loc) : Prop := v = some (.int 3) ∧ Fr n0 L ∧ Keep h0 h [o2] ∧ Arv Z h o2 kb .byte (3 : Int32) [(.int ((u0.toInt8.toInt32).toInt8.toInt32)), (.int ((u1.toInt8.toInt32).toInt8.toInt32)), (.int ((u2.toInt8.toInt32).toInt8.toInt32))] (.int 0)
set_option maxRecDepth 65536 in
set_option maxHeartbeats 40000000 in
theorem rmK3 (l : Launch) (Z : State) (a0 : Array Value) (hw : ∀ d ∈ tables_1, d.before a0 Z = true) (ws : List Jvm.Cond) (o0 : Addr) (o2 : Addr) (kc : ClassId) (kb : ClassId) (u0 : Int32) (u1 : Int32) (u2 : Int32) (h0 : Heap) (n0 : Nat) (Z0 : n0 ≤ h0.size) (g_o2 : n0 ≤ o2) (hne : o0 ≠ o2) (Vc : Arv Z h0 o0 kc .char (3 : Int32) [(.int u0), (.int u1), (.int u2)] (.int 0)) (Vb : Arv Z h0 o2 kb .byte (3 : Int32) [(.int 0), (.int 0), (.int 0)] (.int 0)) (hu0 : ¬ 255 < u0.toInt) (hu1 : ¬ 255 < u1.toInt) (hu2 : ¬ 255 < u2.toInt) :
  MetFree l (⟨"java/lang/StringUTF16", "compress", "([CI[BII)I"⟩ : MethodName) (head1 (Jvm.Cond.code (⟨"java/lang/StringUTF16", "compress", "([CI[BII)I"⟩ : MethodName) jdk_52_method_21_code 7 (some .int) :: ws) ({ frames := 0, cells := 0, slots := 0, locals := 0 } : Room)) (fun a U => a = #[(.ref o0), (.int 0), (.ref o2), (.int 0), (.int 3)] ∧ Z.Warmed39 U.vm ∧ U.heap = h0) (fun _ _ _ _ _ => True) (fun _ U o U' => ∃ v L, o = .returned v ∧ Q_rmK3 Z o0 o2 kc kb u0 u1 u2 h0 n0 v U'.heap L ∧ FrameEnd U o U' L ({ frames := 0, cells := 0, slots := 0, locals := 0 } : Room).cells ({ frames := 0, cells := 0, slots := 0, locals := 0 } : Room).slots) := by
 refine MetFree.of_bodySF (plainFor_of_name own_pn9) hisR ?_
 intro p e s m args below meth c s₁ Bd hml0 hP hK
 obtain ⟨rfl, hZ, hh⟩ := hP
 have hW := @own_hW a0 Z hw
 have hx := Bd.exec
 have hby := Bd.bytes
 have hml : c.maxLocals = 7 := hml0
 have hown : s.vm.findClass "java/lang/StringUTF16" = some m.cls := findClass_of_methodNamed Bd.named
 have hnm := (name_of_methodNamed Bd.named Bd.method).1
 have X0 : Stand p l e ({ frames := 0, cells := 0, slots := 0, locals := 0 } : Room) s m #[(.ref o0), (.int 0), (.ref o2), (.int 0), (.int 3)] below meth c s₁ [] 0 0 := Stand.of_body Bd
 have e0 : s₁.heap = h0 := by rw [← hh, Bd.state]; rfl
 have N0 := Fr.nil n0
 refine (show own_End p e below s (s₁.setTop (entryFrame m #[(.ref o0), (.int 0), (.ref o2), (.int 0), (.int 3)] 7)) (Q_rmK3 Z o0 o2 kc kb u0 u1 u2 h0 n0) ({ frames := 0, cells := 0, slots := 0, locals := 0 } : Room).cells ({ frames := 0, cells := 0, slots := 0, locals := 0 } : Room).slots from ?_)
 refine own_go (fun τ κ => castTop (own_ef6_rmK3 m o0 o2) κ) ?_
 have li0 : (0 : Int32).toInt = 0 := rfl
 have li1 : (1 : Int32).toInt = 1 := rfl
 show own_End p e below s (s₁.setTop (mkF m 0 #[wR o0, wI 0, wR o2, wI 0, wI 3, wU, wU] [])) _ _ _
 refine o_iconst X0 hx hby d6_0 (x := 0) rfl ?_
 refine o_istore X0 hx hby d6_1 (l' := #[wR o0, wI 0, wR o2, wI 0, wI 3, wI 0, wU]) rfl ?_
 refine o_iload X0 hx hby d6_3 rfl ?_
 refine o_iload X0 hx hby d6_5 rfl ?_
 refine o_icmpNo X0 hx hby d6_7 (own_tlt (x := 0) (y := 3) (i := 0) (j := 3) rfl rfl (by decide)).2.1 ?_
 refine o_aloadN X0 hx hby d6_10 rfl ?_
 refine o_iloadN X0 hx hby d6_11 rfl ?_
 refine o_ldV X0 hx hZ e0 Vc ⟨by decide, by decide⟩ (v := (.int u0)) rfl hby d6_12 ?_
 refine o_istore X0 hx hby d6_13 (l' := #[wR o0, wI 0, wR o2, wI 0, wI 3, wI 0, wI u0]) rfl ?_
 refine o_iload X0 hx hby d6_15 rfl ?_
 refine own_go (fun τ κ => XS.sipush X0.here hx rfl (hb hby d6_17) κ) ?_
 show own_End p e below s (s₁.setTop (mkF m 20 _ [(.int 255), (.int u0)])) _ _ _
 refine o_icmpYes X0 hx (pc0 := 20) (pc' := 26) rfl hby d6_20 (own_flt (x := 255) (y := u0) (i := 255) (j := u0.toInt) rfl rfl hu0).2.2.2 (by decide) (by decide) ?_
 refine o_aloadN X0 hx hby d6_26 rfl ?_
 refine o_iloadN X0 hx hby d6_27 rfl ?_
 refine o_iload X0 hx hby d6_28 rfl ?_
 refine own_go (fun τ κ => XS.i2b X0.here hx rfl (hb hby d6_30) rfl κ) ?_
 show own_End p e below s (s₁.setTop (mkF m 31 _ [(.int (u0.toInt8.toInt32)), (.int 0), (.ref o2)])) _ _ _
 refine o_stB X0 hx hZ e0 Vb ⟨by decide, by decide⟩ (i := 0) rfl (Nat.le_of_ble_eq_true rfl) N0 g_o2 hby d6_31 fun T1 h1 ls1 X1 e1 W1 V_o2_1 N1 => ?_
 replace V_o2_1 : Arv Z h1 o2 kb .byte (3 : Int32) [(.int ((u0.toInt8.toInt32).toInt8.toInt32)), (.int 0), (.int 0)] (.int 0) := V_o2_1
 have Z1 := Nat.le_trans Z0 (Keep.of_wr W1).1
 have KP1 := (Keep.refl h0 [o2]).wr W1 (Or.inl (List.mem_of_getElem? (i := 0) rfl))
 refine o_iinc X1 hx hby d6_32 rfl (l' := #[wR o0, wI 1, wR o2, wI 0, wI 3, wI 0, wI u0]) rfl ?_
 refine o_iinc X1 hx hby d6_35 rfl (l' := #[wR o0, wI 1, wR o2, wI 1, wI 3, wI 0, wI u0]) rfl ?_
 refine o_iinc X1 hx hby d6_38 rfl (l' := #[wR o0, wI 1, wR o2, wI 1, wI 3, wI 1, wI u0]) rfl ?_
 refine o_goto X1 hx (pc0 := 41) (pc' := 3) rfl hby d6_41 (by decide) (by decide) ?_
 refine o_iload X1 hx hby d6_3 rfl ?_
 refine o_iload X1 hx hby d6_5 rfl ?_
 refine o_icmpNo X1 hx hby d6_7 (own_tlt (x := 1) (y := 3) (i := 1) (j := 3) rfl rfl (by decide)).2.1 ?_
 refine o_aloadN X1 hx hby d6_10 rfl ?_
 refine o_iloadN X1 hx hby d6_11 rfl ?_
 have U2 := (Vc.other W1 hne)
 refine o_ldV X1 hx hZ e1 U2 ⟨by decide, by decide⟩ (v := (.int u1)) rfl hby d6_12 ?_
 refine o_istore X1 hx hby d6_13 (l' := #[wR o0, wI 1, wR o2, wI 1, wI 3, wI 1, wI u1]) rfl ?_
 refine o_iload X1 hx hby d6_15 rfl ?_
 refine own_go (fun τ κ => XS.sipush X1.here hx rfl (hb hby d6_17) κ) ?_
 show own_End p e below s (T1.setTop (mkF m 20 _ [(.int 255), (.int u1)])) _ _ _
 refine o_icmpYes X1 hx (pc0 := 20) (pc' := 26) rfl hby d6_20 (own_flt (x := 255) (y := u1) (i := 255) (j := u1.toInt) rfl rfl hu1).2.2.2 (by decide) (by decide) ?_
 refine o_aloadN X1 hx hby d6_26 rfl ?_
 refine o_iloadN X1 hx hby d6_27 rfl ?_
 refine o_iload X1 hx hby d6_28 rfl ?_
 refine own_go (fun τ κ => XS.i2b X1.here hx rfl (hb hby d6_30) rfl κ) ?_
 show own_End p e below s (T1.setTop (mkF m 31 _ [(.int (u1.toInt8.toInt32)), (.int 1), (.ref o2)])) _ _ _
 refine o_stB X1 hx hZ e1 V_o2_1 ⟨by decide, by decide⟩ (i := 1) rfl (Nat.le_of_ble_eq_true rfl) N1 g_o2 hby d6_31 fun T3 h3 ls3 X3 e3 W3 V_o2_3 N3 => ?_
 replace V_o2_3 : Arv Z h3 o2 kb .byte (3 : Int32) [(.int ((u0.toInt8.toInt32).toInt8.toInt32)), (.int ((u1.toInt8.toInt32).toInt8.toInt32)), (.int 0)] (.int 0) := V_o2_3
 have Z3 := Nat.le_trans Z1 (Keep.of_wr W3).1
 have KP3 := KP1.wr W3 (Or.inl (List.mem_of_getElem? (i := 0) rfl))
 refine o_iinc X3 hx hby d6_32 rfl (l' := #[wR o0, wI 2, wR o2, wI 1, wI 3, wI 1, wI u1]) rfl ?_
 refine o_iinc X3 hx hby d6_35 rfl (l' := #[wR o0, wI 2, wR o2, wI 2, wI 3, wI 1, wI u1]) rfl ?_
 refine o_iinc X3 hx hby d6_38 rfl (l' := #[wR o0, wI 2, wR o2, wI 2, wI 3, wI 2, wI u1]) rfl ?_
 refine o_goto X3 hx (pc0 := 41) (pc' := 3) rfl hby d6_41 (by decide) (by decide) ?_
 refine o_iload X3 hx hby d6_3 rfl ?_
 refine o_iload X3 hx hby d6_5 rfl ?_
 refine o_icmpNo X3 hx hby d6_7 (own_tlt (x := 2) (y := 3) (i := 2) (j := 3) rfl rfl (by decide)).2.1 ?_
 refine o_aloadN X3 hx hby d6_10 rfl ?_
 refine o_iloadN X3 hx hby d6_11 rfl ?_
 have U4 := (U2.other W3 hne)
 refine o_ldV X3 hx hZ e3 U4 ⟨by decide, by decide⟩ (v := (.int u2)) rfl hby d6_12 ?_
 refine o_istore X3 hx hby d6_13 (l' := #[wR o0, wI 2, wR o2, wI 2, wI 3, wI 2, wI u2]) rfl ?_
 refine o_iload X3 hx hby d6_15 rfl ?_
 refine own_go (fun τ κ => XS.sipush X3.here hx rfl (hb hby d6_17) κ) ?_
 show own_End p e below s (T3.setTop (mkF m 20 _ [(.int 255), (.int u2)])) _ _ _
 refine o_icmpYes X3 hx (pc0 := 20) (pc' := 26) rfl hby d6_20 (own_flt (x := 255) (y := u2) (i := 255) (j := u2.toInt) rfl rfl hu2).2.2.2 (by decide) (by decide) ?_
 refine o_aloadN X3 hx hby d6_26 rfl ?_
 refine o_iloadN X3 hx hby d6_27 rfl ?_
 refine o_iload X3 hx hby d6_28 rfl ?_
 refine own_go (fun τ κ => XS.i2b X3.here hx rfl (hb hby d6_30) rfl κ) ?_
 show own_End p e below s (T3.setTop (mkF m 31 _ [(.int (u2.toInt8.toInt32)), (.int 2), (.ref o2)])) _ _ _
 refine o_stB X3 hx hZ e3 V_o2_3 ⟨by decide, by decide⟩ (i := 2) rfl (Nat.le_of_ble_eq_true rfl) N3 g_o2 hby d6_31 fun T5 h5 ls5 X5 e5 W5 V_o2_5 N5 => ?_
 replace V_o2_5 : Arv Z h5 o2 kb .byte (3 : Int32) [(.int ((u0.toInt8.toInt32).toInt8.toInt32)), (.int ((u1.toInt8.toInt32).toInt8.toInt32)), (.int ((u2.toInt8.toInt32).toInt8.toInt32))] (.int 0) := V_o2_5
 have Z5 := Nat.le_trans Z3 (Keep.of_wr W5).1
 have KP5 := KP3.wr W5 (Or.inl (List.mem_of_getElem? (i := 0) rfl))
 refine o_iinc X5 hx hby d6_32 rfl (l' := #[wR o0, wI 3, wR o2, wI 2, wI 3, wI 2, wI u2]) rfl ?_
 refine o_iinc X5 hx hby d6_35 rfl (l' := #[wR o0, wI 3, wR o2, wI 3, wI 3, wI 2, wI u2]) rfl ?_
 refine o_iinc X5 hx hby d6_38 rfl (l' := #[wR o0, wI 3, wR o2, wI 3, wI 3, wI 3, wI u2]) rfl ?_
 refine o_goto X5 hx (pc0 := 41) (pc' := 3) rfl hby d6_41 (by decide) (by decide) ?_
 refine o_iload X5 hx hby d6_3 rfl ?_
 refine o_iload X5 hx hby d6_5 rfl ?_
 refine o_icmpYes X5 hx (pc0 := 7) (pc' := 44) rfl hby d6_7 (own_flt (x := 3) (y := 3) (i := 3) (j := 3) rfl rfl (by decide)).2.1 (by decide) (by decide) ?_
 refine o_iload X5 hx hby d6_44 rfl ?_
 refine own_ret X5 (v := some (.int 3)) (fun h => by rw [Bd.returns] at h; cases h) Bd.notSynchronized (fun fs hr => retI X5 hx Bd.returns (hb hby d6_46) hr) ?_ (by decide) (by decide)
 ·rw [e5]; exact ⟨rfl, N5, KP5, V_o2_5⟩
theorem own_ef5_rmB3 (m : MethodId) (o0 : Addr) : entryFrame m #[(.ref o0), (.int 0), (.int 3)] 6 = mkF m 0 #[.val (.ref o0), .val (.int 0), .val (.int 3), .unset, .unset, .unset] [] := by first | (simp [entryFrame, mkF, argsToLocals, Value.category]; done) | rfl
def Q_rmB3 (Z : State) (o0 : Addr) (kc : ClassId) (u0 : Int32) (u1 : Int32) (u2 : Int32) (h0 : Heap) (n0 : Nat) (v : Option Value) (h : Heap) (L : List Loc) : Prop := (∃ b kb, v = some (.ref b) ∧ h0.size ≤ b ∧ Arv Z h b kb .byte (3 : Int32) [(.int ((u0.toInt8.toInt32).toInt8.toInt32)), (.int ((u1.toInt8.toInt32).toInt8.toInt32)), (.int ((u2.toInt8.toInt32).toInt8.toInt32))] (.int 0) ∧ Keep h0 h []) ∧ Fr n0 L
set_option maxRecDepth 65536 in
set_option maxHeartbeats 40000000 in
theorem rmB3 (l : Launch) (Z : State) (a0 : Array Value) (hw : ∀ d ∈ tables_1, d.before a0 Z = true) (ws : List Jvm.Cond) (o0 : Addr) (kc : ClassId) (u0 : Int32) (u1 : Int32) (u2 : Int32) (h0 : Heap) (n0 : Nat) (Z0 : n0 ≤ h0.size) (Vc : Arv Z h0 o0 kc .char (3 : Int32) [(.int u0), (.int u1), (.int u2)] (.int 0)) (hu0 : ¬ 255 < u0.toInt) (hu1 : ¬ 255 < u1.toInt) (hu2 : ¬ 255 < u2.toInt) :
  MetFree l (⟨"java/lang/StringUTF16", "compress", "([CII)[B"⟩ : MethodName) (head1 (Jvm.Cond.code (⟨"java/lang/StringUTF16", "compress", "([CII)[B"⟩ : MethodName) jdk_52_method_16_code 6 (some (.array .byte)) :: ws) ({ frames := 1, cells := 1, slots := 3, locals := 18 } : Room)) (fun a U => a = #[(.ref o0), (.int 0), (.int 3)] ∧ Z.Warmed39 U.vm ∧ U.heap = h0) (fun _ _ _ _ _ => True) (fun _ U o U' => ∃ v L, o = .returned v ∧ Q_rmB3 Z o0 kc u0 u1 u2 h0 n0 v U'.heap L ∧ FrameEnd U o U' L ({ frames := 1, cells := 1, slots := 3, locals := 18 } : Room).cells ({ frames := 1, cells := 1, slots := 3, locals := 18 } : Room).slots) := by
 refine MetFree.of_bodySF (plainFor_of_name own_pn9) hisR ?_
 intro p e s m args below meth c s₁ Bd hml0 hP hK
 obtain ⟨rfl, hZ, hh⟩ := hP
 have hW := @own_hW a0 Z hw
 have hx := Bd.exec
 have hby := Bd.bytes
 have hml : c.maxLocals = 6 := hml0
 have hown : s.vm.findClass "java/lang/StringUTF16" = some m.cls := findClass_of_methodNamed Bd.named
 have hnm := (name_of_methodNamed Bd.named Bd.method).1
 have X0 : Stand p l e ({ frames := 1, cells := 1, slots := 3, locals := 18 } : Room) s m #[(.ref o0), (.int 0), (.int 3)] below meth c s₁ [] 0 0 := Stand.of_body Bd
 have e0 : s₁.heap = h0 := by rw [← hh, Bd.state]; rfl
 have N0 := Fr.nil n0
 refine (show own_End p e below s (s₁.setTop (entryFrame m #[(.ref o0), (.int 0), (.int 3)] 6)) (Q_rmB3 Z o0 kc u0 u1 u2 h0 n0) ({ frames := 1, cells := 1, slots := 3, locals := 18 } : Room).cells ({ frames := 1, cells := 1, slots := 3, locals := 18 } : Room).slots from ?_)
 refine own_go (fun τ κ => castTop (own_ef5_rmB3 m o0) κ) ?_
 have li0 : (0 : Int32).toInt = 0 := rfl
 have li1 : (1 : Int32).toInt = 1 := rfl
 show own_End p e below s (s₁.setTop (mkF m 0 #[wR o0, wI 0, wI 3, wU, wU, wU] [])) _ _ _
 refine o_iloadN X0 hx hby d5_0 rfl ?_
 obtain ⟨T1, h1, k1, X1, e1, E1, A1, st1⟩ := newP X0 hx hZ (hW 23 rfl) e0 (g := (mkF m 1 #[wR o0, wI 0, wI 3, wU, wU, wU] [(.int 3)])) rfl (hb hby d5_1) rfl (by decide) (cap := 3) (by decide) (by decide) (by decide) (by decide)
 obtain ⟨b1, g1⟩ : ∃ z, z = h0.size := ⟨_, rfl⟩
 rw [← g1] at A1 st1
 have g_b1 := own_gf Z0 g1
 have ne_o0_b1 := own_nf Vc.lt g1
 have Z1 := Nat.le_trans Z0 E1.1
 have KP1 := (Keep.refl h0 []).ext E1
 have sz_b1 := own_gf (Keep.refl h0 []).1 g1
 have V_b1 : Arv Z h1 b1 k1 .byte (3 : Int32) [(.int 0), (.int 0), (.int 0)] (.int 0) := (Arv.new A1 (by decide)).pad (pad_rep [] (.int 0) 3)
 refine own_go st1 ?_
 show own_End p e below s (T1.setTop (mkF m 3 _ [(.ref b1)])) _ _ _
 refine o_astoreN X1 hx hby d5_3 (l' := #[wR o0, wI 0, wI 3, wR b1, wU, wU]) rfl ?_
 refine o_aloadN X1 hx hby d5_4 rfl ?_
 refine o_iloadN X1 hx hby d5_5 rfl ?_
 refine o_aloadN X1 hx hby d5_6 rfl ?_
 refine o_iconst X1 hx hby d5_7 (x := 0) rfl ?_
 refine o_iloadN X1 hx hby d5_8 rfl ?_
 have U2 := (Vc.ext E1)
 refine o_cS X1 hx hZ hown (y := wy6) (hW 24 rfl) (hW 25 rfl) (hW 21 rfl) (hW 26 rfl) (by decide) (backOf (W := 0) (rmK3 l Z a0 hw [] o0 b1 kc k1 u0 u1 u2 h1 n0 Z1 g_b1 ne_o0_b1 U2 V_b1 hu0 hu1 hu2) hZ (hW 26 rfl) (hW 21 rfl) (by decide) (by decide)) (by rw [hml]; rfl) (argsL := [(.ref o0), (.int 0), (.ref b1), (.int 0), (.int 3)]) (rest := []) (lenOf own_pd17 rfl) rfl rfl (Nat.le_of_eq rfl) e1 (by decide) (by decide) hby d5_9 N0 fun T3 v3 Lc3 ls3 X3 hQ3 nq3 => ?_
 obtain ⟨rfl, N3q, K3, Vb3⟩ := hQ3
 have N3 := nq3 N3q
 have Z3 := Nat.le_trans Z1 K3.1
 show own_End p e below s (T3.setTop (mkF m 12 _ [(.int 3)])) _ _ _
 have KP3 := KP1.trans K3 (allS (Or.inr sz_b1) all0)
 refine o_istore X3 hx hby d5_12 (l' := #[wR o0, wI 0, wI 3, wR b1, wI 3, wU]) rfl ?_
 refine o_iload X3 hx hby d5_14 rfl ?_
 refine o_iloadN X3 hx hby d5_16 rfl ?_
 refine o_icmpYes X3 hx (pc0 := 17) (pc' := 57) rfl hby d5_17 (own_eq (x := 3) (y := 3) (i := 3) (j := 3) rfl rfl (by decide)).1 (by decide) (by decide) ?_
 refine o_aloadN X3 hx hby d5_57 rfl ?_
 refine own_ret X3 (v := some (.ref b1)) (fun h => by rw [Bd.returns] at h; cases h) Bd.notSynchronized (fun fs hr => retOut X3 hx (w := (.ref b1)) Bd.returns rfl (Or.inr (Or.inr (Or.inr (Or.inr ⟨rfl, rfl, rfl⟩)))) (hb hby d5_58) hr) ?_ (by decide) (by decide)
 ·exact ⟨⟨_, _, rfl, sz_b1, Vb3, KP3⟩, N3⟩
theorem own_ef7_rmF3 (m : MethodId) (o0 : Addr) : entryFrame m #[(.ref o0), (.int 3)] 2 = mkF m 0 #[.val (.ref o0), .val (.int 3)] [] := by first | (simp [entryFrame, mkF, argsToLocals, Value.category]; done) | rfl
def Q_rmF3 (Z : State) (o0 : Addr) (kb : ClassId) (vs : List Value) (h0 : Heap) (n0 : Nat) (v : Option Value) (h : Heap) (L : List Loc) : Prop := v = some (.int 0) ∧ Fr n0 L ∧ h = h0
set_option maxRecDepth 65536 in
set_option maxHeartbeats 40000000 in
theorem rmF3 (l : Launch) (Z : State) (a0 : Array Value) (hw : ∀ d ∈ tables_1, d.before a0 Z = true) (ws : List Jvm.Cond) (o0 : Addr) (kb : ClassId) (vs : List Value) (h0 : Heap) (n0 : Nat) (Z0 : n0 ≤ h0.size) (Vb : Arv Z h0 o0 kb .byte (3 : Int32) vs (.int 0)) :
  MetFree l (⟨"java/lang/StringUTF16", "coderFromArrayLen", "([BI)B"⟩ : MethodName) (head1 (Jvm.Cond.code (⟨"java/lang/StringUTF16", "coderFromArrayLen", "([BI)B"⟩ : MethodName) jdk_52_method_15_code 2 (some .byte) :: ws) ({ frames := 0, cells := 0, slots := 0, locals := 0 } : Room)) (fun a U => a = #[(.ref o0), (.int 3)] ∧ Z.Warmed39 U.vm ∧ U.heap = h0) (fun _ _ _ _ _ => True) (fun _ U o U' => ∃ v L, o = .returned v ∧ Q_rmF3 Z o0 kb vs h0 n0 v U'.heap L ∧ FrameEnd U o U' L ({ frames := 0, cells := 0, slots := 0, locals := 0 } : Room).cells ({ frames := 0, cells := 0, slots := 0, locals := 0 } : Room).slots) := by
 refine MetFree.of_bodySF (plainFor_of_name own_pn9) hisR ?_
 intro p e s m args below meth c s₁ Bd hml0 hP hK
 obtain ⟨rfl, hZ, hh⟩ := hP
 have hW := @own_hW a0 Z hw
 have hx := Bd.exec
 have hby := Bd.bytes
 have hml : c.maxLocals = 2 := hml0
 have hown : s.vm.findClass "java/lang/StringUTF16" = some m.cls := findClass_of_methodNamed Bd.named
 have hnm := (name_of_methodNamed Bd.named Bd.method).1
 have X0 : Stand p l e ({ frames := 0, cells := 0, slots := 0, locals := 0 } : Room) s m #[(.ref o0), (.int 3)] below meth c s₁ [] 0 0 := Stand.of_body Bd
 have e0 : s₁.heap = h0 := by rw [← hh, Bd.state]; rfl
 have N0 := Fr.nil n0
 refine (show own_End p e below s (s₁.setTop (entryFrame m #[(.ref o0), (.int 3)] 2)) (Q_rmF3 Z o0 kb vs h0 n0) ({ frames := 0, cells := 0, slots := 0, locals := 0 } : Room).cells ({ frames := 0, cells := 0, slots := 0, locals := 0 } : Room).slots from ?_)
 refine own_go (fun τ κ => castTop (own_ef7_rmF3 m o0) κ) ?_
 have li0 : (0 : Int32).toInt = 0 := rfl
 have li1 : (1 : Int32).toInt = 1 := rfl
 show own_End p e below s (s₁.setTop (mkF m 0 #[wR o0, wI 3] [])) _ _ _
 refine o_iloadN X0 hx hby d7_0 rfl ?_
 refine o_aloadN X0 hx hby d7_1 rfl ?_
 obtain ⟨cl1, Ar1, qa1, Sq1, Mq1, Hh1, Gq1⟩ := id Vb
 refine own_go (fun τ κ => X0.arraylength hx (by rw [e0]; exact Ar1.1) (State.isArrayOf_alike hZ.alike Ar1.2.1) (g := (mkF m 2 #[wR o0, wI 3] [(.ref o0), (.int 3)])) rfl rfl (hb hby d7_2) _ (by rw [len_of Sq1 Mq1]; exact κ)) ?_
 show own_End p e below s (s₁.setTop (mkF m 3 _ [(.int 3), (.int 3)])) _ _ _
 refine o_isub X0 hx hby d7_3 ?_
 show own_End p e below s (s₁.setTop (mkF m 4 _ [(.int 0)])) _ _ _
 refine o_bipush X0 hx hby d7_4 (x := 31) rfl ?_
 refine o_iushr X0 hx hby d7_6 ?_
 refine own_go (fun τ κ => XS.i2b X0.here hx rfl (hb hby d7_7) rfl κ) ?_
 show own_End p e below s (s₁.setTop (mkF m 8 _ [(.int ((((0 : Int32).toUInt32 >>> ((31 : Int32) &&& 31).toUInt32).toInt32).toInt8.toInt32))])) _ _ _
 refine own_ret X0 (v := some (.int (((((0 : Int32).toUInt32 >>> ((31 : Int32) &&& 31).toUInt32).toInt32).toInt8.toInt32).toInt8.toInt32))) (fun h => by rw [Bd.returns] at h; cases h) Bd.notSynchronized (fun fs hr => retN X0 hx (t := .byte) Bd.returns (by simp) (hb hby d7_8) hr) ?_ (by decide) (by decide)
 ·rw [e0]; exact ⟨rfl, N0, rfl⟩
theorem own_ef3_rmI3 (m : MethodId) (o0 : Addr) (o1 : Addr) : entryFrame m #[(.ref o0), (.ref o1), (.int 0), (.int 3), .null] 6 = mkF m 0 #[.val (.ref o0), .val (.ref o1), .val (.int 0), .val (.int 3), .val .null, .unset] [] := by first | (simp [entryFrame, mkF, argsToLocals, Value.category]; done) | rfl
def Q_rmI3 (Z : State) (o0 : Addr) (o1 : Addr) (kc : ClassId) (cz : Int32) (u0 : Int32) (u1 : Int32) (u2 : Int32) (h0 : Heap) (n0 : Nat) (v : Option Value) (h : Heap) (L : List Loc) : Prop := (∃ b kb, h0.size ≤ b ∧ own_Str Z h o0 b kb (3 : Int32) [(.int ((u0.toInt8.toInt32).toInt8.toInt32)), (.int ((u1.toInt8.toInt32).toInt8.toInt32)), (.int ((u2.toInt8.toInt32).toInt8.toInt32))]) ∧ Fr n0 L ∧ Keep h0 h [o0] ∧ v = none
set_option maxRecDepth 65536 in
set_option maxHeartbeats 40000000 in
theorem rmI3 (l : Launch) (Z : State) (a0 : Array Value) (hw : ∀ d ∈ tables_1, d.before a0 Z = true) (ws : List Jvm.Cond) (o0 : Addr) (o1 : Addr) (kc : ClassId) (cz : Int32) (u0 : Int32) (u1 : Int32) (u2 : Int32) (h0 : Heap) (n0 : Nat) (Z0 : n0 ≤ h0.size) (g_o0 : n0 ≤ o0) (E_o0 : Exa Z h0 o0 "java/lang/String") (F_value : Fld Z h0 o0 "java/lang/String" "value" "[B" .null) (F_coder : Fld Z h0 o0 "java/lang/String" "coder" "B" (.int 0)) (hne : o0 ≠ o1) (Vc : Arv Z h0 o1 kc .char (3 : Int32) [(.int u0), (.int u1), (.int u2)] (.int 0)) (Ol : Old Z n0 h0) (S_C : Sta Z Z.heap "java/lang/String" "COMPACT_STRINGS" "Z" (.int cz)) (hcz : ¬ cz.toInt = 0) (hu0 : ¬ 255 < u0.toInt) (hu1 : ¬ 255 < u1.toInt) (hu2 : ¬ 255 < u2.toInt) :
  MetFree l (⟨"java/lang/String", "<init>", "([CIILjava/lang/Void;)V"⟩ : MethodName) (head1 (Jvm.Cond.code (⟨"java/lang/String", "<init>", "([CIILjava/lang/Void;)V"⟩ : MethodName) jdk_42_method_149_code 6 none :: ws) ({ frames := 2, cells := 1, slots := 3, locals := 36 } : Room)) (fun a U => a = #[(.ref o0), (.ref o1), (.int 0), (.int 3), .null] ∧ Z.Warmed39 U.vm ∧ U.heap = h0) (fun _ _ _ _ _ => True) (fun _ U o U' => ∃ v L, o = .returned v ∧ Q_rmI3 Z o0 o1 kc cz u0 u1 u2 h0 n0 v U'.heap L ∧ FrameEnd U o U' L ({ frames := 2, cells := 1, slots := 3, locals := 36 } : Room).cells ({ frames := 2, cells := 1, slots := 3, locals := 36 } : Room).slots) := by
 refine MetFree.of_bodySF (plainFor_of_name own_pn4) hisR ?_
 intro p e s m args below meth c s₁ Bd hml0 hP hK
 obtain ⟨rfl, hZ, hh⟩ := hP
 have hW := @own_hW a0 Z hw
 have hx := Bd.exec
 have hby := Bd.bytes
 have hml : c.maxLocals = 6 := hml0
 have hown : s.vm.findClass "java/lang/String" = some m.cls := findClass_of_methodNamed Bd.named
 have hnm := (name_of_methodNamed Bd.named Bd.method).1
 have X0 : Stand p l e ({ frames := 2, cells := 1, slots := 3, locals := 36 } : Room) s m #[(.ref o0), (.ref o1), (.int 0), (.int 3), .null] below meth c s₁ [] 0 0 := Stand.of_body Bd
 have e0 : s₁.heap = h0 := by rw [← hh, Bd.state]; rfl
 have N0 := Fr.nil n0
 refine (show own_End p e below s (s₁.setTop (entryFrame m #[(.ref o0), (.ref o1), (.int 0), (.int 3), .null] 6)) (Q_rmI3 Z o0 o1 kc cz u0 u1 u2 h0 n0) ({ frames := 2, cells := 1, slots := 3, locals := 36 } : Room).cells ({ frames := 2, cells := 1, slots := 3, locals := 36 } : Room).slots from ?_)
 refine own_go (fun τ κ => castTop (own_ef3_rmI3 m o0 o1) κ) ?_
 have li0 : (0 : Int32).toInt = 0 := rfl
 have li1 : (1 : Int32).toInt = 1 := rfl
 show own_End p e below s (s₁.setTop (mkF m 0 #[wR o0, wR o1, wI 0, wI 3, .val .null, wU] [])) _ _ _
 refine o_aloadN X0 hx hby d3_0 rfl ?_
 obtain ⟨T1, X1, e1, st1⟩ := initO X0 hx hZ hown (hW 15 rfl) (hW 16 rfl) (hW 17 rfl) e0 (g := (mkF m 1 #[wR o0, wR o1, wI 0, wI 3, .val .null, wU] [(.ref o0)])) rfl (by rw [hml]; rfl) rfl (hb hby d3_1) (by decide) (W := 0) (by show 2 * 0 + _ ≤ _; exact Nat.le_of_eq rfl) (by decide)
 refine own_go st1 ?_
 show own_End p e below s (T1.setTop (mkF m 4 _ [])) _ _ _
 refine o_iloadN X1 hx hby d3_4 rfl ?_
 refine o_ifYes X1 hx (pc0 := 5) (pc' := 27) rfl hby d3_5 ((if0 _ _).trans (own_ne (x := 3) (y := 0) (i := 3) (j := 0) rfl rfl (by decide)).2) (by decide) (by decide) ?_
 obtain ⟨T2, X2, e2, st2⟩ := getS2 X1 hx hZ hown (host := "") (Or.inl (hW 18 rfl)) Via.refl e1 (S_C.ext Ol.2) (g := (mkF m 27 #[wR o0, wR o1, wI 0, wI 3, .val .null, wU] [])) rfl (hb hby d3_27)
 refine own_go st2 ?_
 show own_End p e below s (T2.setTop (mkF m 30 _ [(.int cz)])) _ _ _
 refine o_ifNo X2 hx hby d3_30 ((if0 _ _).trans (own_ne (x := cz) (y := 0) (i := cz.toInt) (j := 0) rfl rfl hcz).1) ?_
 refine o_aloadN X2 hx hby d3_33 rfl ?_
 refine o_iloadN X2 hx hby d3_34 rfl ?_
 refine o_iloadN X2 hx hby d3_35 rfl ?_
 refine o_cS X2 hx hZ hown (y := wy5) (hW 19 rfl) (hW 20 rfl) (hW 21 rfl) (hW 22 rfl) (by decide) (backOf (W := 0) (rmB3 l Z a0 hw [] o1 kc u0 u1 u2 h0 n0 Z0 Vc hu0 hu1 hu2) hZ (hW 22 rfl) (hW 21 rfl) (by decide) (by decide)) (by rw [hml]; rfl) (argsL := [(.ref o1), (.int 0), (.int 3)]) (rest := []) (lenOf own_pd18 rfl) rfl rfl (Nat.le_of_eq rfl) e2 (by decide) (by decide) hby d3_36 N0 fun T3 v3 Lc3 ls3 X3 hQ3 nq3 => ?_
 obtain ⟨⟨bb3, kb3, rfl, zb3, Vb3, K3⟩, N3q⟩ := hQ3
 have N3 := nq3 N3q
 have Z3 := Nat.le_trans Z0 K3.1
 show own_End p e below s (T3.setTop (mkF m 39 _ [(.ref bb3)])) _ _ _
 have g_bb3 : n0 ≤ bb3 := Nat.le_trans Z0 zb3
 have sz_bb3 : h0.size ≤ bb3 := Nat.le_trans (Keep.refl h0 [o0]).1 zb3
 have ne_o0_bb3 := own_nb E_o0.lt zb3
 have ne_o1_bb3 := own_nb Vc.lt zb3
 have KP3 := (Keep.refl h0 [o0]).trans K3 all0
 refine o_astore X3 hx hby d3_39 (l' := #[wR o0, wR o1, wI 0, wI 3, .val .null, wR bb3]) rfl ?_
 refine o_aloadN X3 hx hby d3_41 rfl ?_
 refine o_aload X3 hx hby d3_42 rfl ?_
 refine o_iloadN X3 hx hby d3_44 rfl ?_
 refine o_cS X3 hx hZ hown (y := wy7) (hW 27 rfl) (hW 28 rfl) (hW 21 rfl) (hW 29 rfl) (by decide) (backOf (W := 1) (rmF3 l Z a0 hw [] bb3 kb3 [(.int ((u0.toInt8.toInt32).toInt8.toInt32)), (.int ((u1.toInt8.toInt32).toInt8.toInt32)), (.int ((u2.toInt8.toInt32).toInt8.toInt32))] T3.heap n0 Z3 Vb3) hZ (hW 29 rfl) (hW 21 rfl) (by decide) (by decide)) (by rw [hml]; rfl) (argsL := [(.ref bb3), (.int 3)]) (rest := [(.ref o0)]) (lenOf own_pd19 rfl) rfl rfl (Nat.le_of_eq rfl) rfl (by decide) (by decide) hby d3_45 N3 fun T4 v4 Lc4 ls4 X4 hQ4 nq4 => ?_
 obtain ⟨rfl, N4q, e4⟩ := hQ4
 have N4 := nq4 N4q
 show own_End p e below s (T4.setTop (mkF m 48 _ [(.int 0), (.ref o0)])) _ _ _
 have U5 := (E_o0.keep K3)
 have U6 := (F_coder.keep K3 nin0)
 obtain ⟨T7, h7, X7, e7, W7, st7⟩ := putFN X4 hx hZ hown (hW 30 rfl) Via.refl e4 U6 U5 (Or.inr ⟨(hW 31 rfl), rfl, hnm⟩) (hW 6 rfl) (ty := .byte) (v' := (.int 0)) (by decide) rfl rfl (g := (mkF m 48 #[wR o0, wR o1, wI 0, wI 3, .val .null, wR bb3] [(.int 0), (.ref o0)])) rfl rfl (hb hby d3_48)
 have Fw7 := U6.same W7
 have N7 := Fr.snoc X7 N4 g_o0
 obtain ⟨ls7, Xl7, Nl7⟩ := own_abs X7 N7
 have Z7 := Nat.le_trans Z3 (Keep.of_wr W7).1
 have KP7 := KP3.wr W7 (Or.inl (List.mem_of_getElem? (i := 0) rfl))
 refine own_go st7 ?_
 show own_End p e below s (T7.setTop (mkF m 51 _ [])) _ _ _
 refine o_aloadN Xl7 hx hby d3_51 rfl ?_
 refine o_aload Xl7 hx hby d3_52 rfl ?_
 have U8 := (U5.wr W7)
 have U9 := ((F_value.keep K3 nin0).other W7 (Or.inr (slot_ne (Or.inr (hW 33 rfl)) (Or.inr (hW 31 rfl)) (by decide) (t := (.array .byte)) (t' := .byte) (by decide) (by decide))))
 obtain ⟨T10, h10, X10, e10, W10, st10⟩ := putF Xl7 hx hZ hown (host := "") (Or.inl (hW 32 rfl)) Via.refl e7 U9 U8 (Or.inr ⟨(hW 33 rfl), rfl, hnm⟩) (hW 6 rfl) (ty := (.array .byte)) (by decide) rfl rfl (g := (mkF m 54 #[wR o0, wR o1, wI 0, wI 3, .val .null, wR bb3] [(.ref bb3), (.ref o0)])) rfl rfl (hb hby d3_54)
 have Fw10 := U9.same W10
 have N10 := Fr.snoc X10 Nl7 g_o0
 obtain ⟨ls10, Xl10, Nl10⟩ := own_abs X10 N10
 have Z10 := Nat.le_trans Z7 (Keep.of_wr W10).1
 have KP10 := KP7.wr W10 (Or.inl (List.mem_of_getElem? (i := 0) rfl))
 refine own_go st10 ?_
 show own_End p e below s (T10.setTop (mkF m 57 _ [])) _ _ _
 refine own_ret Xl10 (v := none) (fun _ => rfl) Bd.notSynchronized (fun fs hr => Xl10.returnOut hx Bd.returns (hb hby d3_57) hr) ?_ (by decide) (by decide)
 have U11 := (U8.wr W10)
 have U12 := (Fw7.other W10 (Or.inr (slot_ne (Or.inr (hW 31 rfl)) (Or.inr (hW 33 rfl)) (by decide) (t := .byte) (t' := (.array .byte)) (by decide) (by decide))))
 have U13 := ((Vb3.other W7 (Ne.symm ne_o0_bb3)).other W10 (Ne.symm ne_o0_bb3))
 ·rw [e10]; exact ⟨⟨_, _, sz_bb3, ⟨U11, Fw10, U12, U13⟩⟩, Nl10, KP10, rfl⟩
theorem own_ef2_rmC3 (m : MethodId) (o0 : Addr) (o1 : Addr) : entryFrame m #[(.ref o0), (.ref o1)] 2 = mkF m 0 #[.val (.ref o0), .val (.ref o1)] [] := by first | (simp [entryFrame, mkF, argsToLocals, Value.category]; done) | rfl
def Q_rmC3 (Z : State) (o0 : Addr) (o1 : Addr) (kc : ClassId) (cz : Int32) (u0 : Int32) (u1 : Int32) (u2 : Int32) (h0 : Heap) (n0 : Nat) (v : Option Value) (h : Heap) (L : List Loc) : Prop := (∃ b kb, h0.size ≤ b ∧ own_Str Z h o0 b kb (3 : Int32) [(.int ((u0.toInt8.toInt32).toInt8.toInt32)), (.int ((u1.toInt8.toInt32).toInt8.toInt32)), (.int ((u2.toInt8.toInt32).toInt8.toInt32))]) ∧ Fr n0 L ∧ Keep h0 h [o0] ∧ v = none
set_option maxRecDepth 65536 in
set_option maxHeartbeats 40000000 in
theorem rmC3 (l : Launch) (Z : State) (a0 : Array Value) (hw : ∀ d ∈ tables_1, d.before a0 Z = true) (ws : List Jvm.Cond) (o0 : Addr) (o1 : Addr) (kc : ClassId) (cz : Int32) (u0 : Int32) (u1 : Int32) (u2 : Int32) (h0 : Heap) (n0 : Nat) (Z0 : n0 ≤ h0.size) (g_o0 : n0 ≤ o0) (E_o0 : Exa Z h0 o0 "java/lang/String") (F_value : Fld Z h0 o0 "java/lang/String" "value" "[B" .null) (F_coder : Fld Z h0 o0 "java/lang/String" "coder" "B" (.int 0)) (hne : o0 ≠ o1) (Vc : Arv Z h0 o1 kc .char (3 : Int32) [(.int u0), (.int u1), (.int u2)] (.int 0)) (Ol : Old Z n0 h0) (S_C : Sta Z Z.heap "java/lang/String" "COMPACT_STRINGS" "Z" (.int cz)) (hcz : ¬ cz.toInt = 0) (hu0 : ¬ 255 < u0.toInt) (hu1 : ¬ 255 < u1.toInt) (hu2 : ¬ 255 < u2.toInt) :
  MetFree l (⟨"java/lang/String", "<init>", "([C)V"⟩ : MethodName) (head1 (Jvm.Cond.code (⟨"java/lang/String", "<init>", "([C)V"⟩ : MethodName) jdk_42_method_3_code 2 none :: ws) ({ frames := 3, cells := 1, slots := 3, locals := 54 } : Room)) (fun a U => a = #[(.ref o0), (.ref o1)] ∧ Z.Warmed39 U.vm ∧ U.heap = h0) (fun _ _ _ _ _ => True) (fun _ U o U' => ∃ v L, o = .returned v ∧ Q_rmC3 Z o0 o1 kc cz u0 u1 u2 h0 n0 v U'.heap L ∧ FrameEnd U o U' L ({ frames := 3, cells := 1, slots := 3, locals := 54 } : Room).cells ({ frames := 3, cells := 1, slots := 3, locals := 54 } : Room).slots) := by
 refine MetFree.of_bodySF (plainFor_of_name own_pn4) hisR ?_
 intro p e s m args below meth c s₁ Bd hml0 hP hK
 obtain ⟨rfl, hZ, hh⟩ := hP
 have hW := @own_hW a0 Z hw
 have hx := Bd.exec
 have hby := Bd.bytes
 have hml : c.maxLocals = 2 := hml0
 have hown : s.vm.findClass "java/lang/String" = some m.cls := findClass_of_methodNamed Bd.named
 have hnm := (name_of_methodNamed Bd.named Bd.method).1
 have X0 : Stand p l e ({ frames := 3, cells := 1, slots := 3, locals := 54 } : Room) s m #[(.ref o0), (.ref o1)] below meth c s₁ [] 0 0 := Stand.of_body Bd
 have e0 : s₁.heap = h0 := by rw [← hh, Bd.state]; rfl
 have N0 := Fr.nil n0
 refine (show own_End p e below s (s₁.setTop (entryFrame m #[(.ref o0), (.ref o1)] 2)) (Q_rmC3 Z o0 o1 kc cz u0 u1 u2 h0 n0) ({ frames := 3, cells := 1, slots := 3, locals := 54 } : Room).cells ({ frames := 3, cells := 1, slots := 3, locals := 54 } : Room).slots from ?_)
 refine own_go (fun τ κ => castTop (own_ef2_rmC3 m o0 o1) κ) ?_
 have li0 : (0 : Int32).toInt = 0 := rfl
 have li1 : (1 : Int32).toInt = 1 := rfl
 show own_End p e below s (s₁.setTop (mkF m 0 #[wR o0, wR o1] [])) _ _ _
 refine o_aloadN X0 hx hby d2_0 rfl ?_
 refine o_aloadN X0 hx hby d2_1 rfl ?_
 refine o_iconst X0 hx hby d2_2 (x := 0) rfl ?_
 refine o_aloadN X0 hx hby d2_3 rfl ?_
 obtain ⟨cl1, Ar1, qa1, Sq1, Mq1, Hh1, Gq1⟩ := id Vc
 refine own_go (fun τ κ => X0.arraylength hx (by rw [e0]; exact Ar1.1) (State.isArrayOf_alike hZ.alike Ar1.2.1) (g := (mkF m 4 #[wR o0, wR o1] [(.ref o1), (.int 0), (.ref o1), (.ref o0)])) rfl rfl (hb hby d2_4) _ (by rw [len_of Sq1 Mq1]; exact κ)) ?_
 show own_End p e below s (s₁.setTop (mkF m 5 _ [(.int 3), (.int 0), (.ref o1), (.ref o0)])) _ _ _
 refine own_go (fun τ κ => XS.aconstNull X0.here hx rfl (hb hby d2_5) κ) ?_
 show own_End p e below s (s₁.setTop (mkF m 6 _ [.null, (.int 3), (.int 0), (.ref o1), (.ref o0)])) _ _ _
 refine o_cI X0 hx hZ hown (y := wy3) rfl (hW 11 rfl) (hW 12 rfl) (hW 14 rfl) (by decide) (backOf (W := 0) (rmI3 l Z a0 hw [] o0 o1 kc cz u0 u1 u2 h0 n0 Z0 g_o0 E_o0 F_value F_coder hne Vc Ol S_C hcz hu0 hu1 hu2) hZ (hW 14 rfl) (hW 7 rfl) (by decide) (by decide)) (by rw [hml]; rfl) (argsL := [(.ref o1), (.int 0), (.int 3), .null]) (rest := []) (lenOf own_pd20 rfl) rfl rfl (Nat.le_of_eq rfl) e0 (by decide) (by decide) hby d2_6 N0 fun T2 v2 Lc2 ls2 X2 hQ2 nq2 => ?_
 obtain ⟨⟨sb2, sk2, zb2, Ss2⟩, N2q, K2, rfl⟩ := hQ2
 have N2 := nq2 N2q
 have Z2 := Nat.le_trans Z0 K2.1
 show own_End p e below s (T2.setTop (mkF m 9 _ [])) _ _ _
 have KP2 := (Keep.refl h0 [o0]).trans K2 (allS (Or.inl (List.mem_of_getElem? (i := 0) rfl)) all0)
 refine own_ret X2 (v := none) (fun _ => rfl) Bd.notSynchronized (fun fs hr => X2.returnOut hx Bd.returns (hb hby d2_9) hr) ?_ (by decide) (by decide)
 ·exact ⟨⟨_, _, zb2, Ss2⟩, N2, KP2, rfl⟩
theorem own_ef0_rm0 (m : MethodId) (p0 : Int32) (p1 : Int32) (p2 : Int32) (p3 : Int32) : entryFrame m #[(.int p0), (.int p1), (.int p2), (.int p3)] maxLocals = mkF m 0 #[.val (.int p0), .val (.int p1), .val (.int p2), .val (.int p3), .unset, .unset, .unset, .unset, .unset, .unset, .unset, .unset, .unset, .unset, .unset, .unset, .unset, .unset, .unset, .unset, .unset, .unset, .unset, .unset] [] := by first | (simp [entryFrame, mkF, argsToLocals, Value.category, maxLocals]; done) | rfl
def Q_rm0 (Z : State) (p0 : Int32) (p1 : Int32) (p2 : Int32) (p3 : Int32) (sv : Value) (out : Int32) (cz : Int32) (h0 : Heap) (n0 : Nat) (v : Option Value) (h : Heap) (L : List Loc) : Prop := (v = some (.int out)) ∧ Fr n0 L ∧ Keep h0 h []
theorem own_pd21 : parseMethodDescriptor "(II)C" = some ⟨[.int, .int], some .char⟩ := by decide +kernel
abbrev wy1 : MethodName := (⟨"com/example/portero/portero/matching/SegmentAutomatonLongestMarkedPinLaw", "letter", "(II)C"⟩ : MethodName)
theorem own_pd22 : parseMethodDescriptor "([C)V" = some ⟨[(.array .char)], none⟩ := by decide +kernel
abbrev wy2 : MethodName := (⟨"java/lang/String", "<init>", "([C)V"⟩ : MethodName)
theorem own_pd23 : parseMethodDescriptor "(Ljava/lang/String;[I[II)V" = some ⟨[(.object "java/lang/String"), (.array .int), (.array .int), .int], none⟩ := by decide +kernel
abbrev wy8 : MethodName := (⟨"com/example/portero/portero/matching/SegmentAutomaton", "<init>", "(Ljava/lang/String;[I[II)V"⟩ : MethodName)
abbrev wy30 : MethodName := (⟨"com/example/portero/portero/matching/SegmentAutomaton", "word", "(I)I"⟩ : MethodName)
theorem own_pd24 : parseMethodDescriptor "(IZ)V" = some ⟨[.int, .boolean], none⟩ := by decide +kernel
abbrev wy31 : MethodName := (⟨"com/example/portero/portero/matching/SegmentAutomaton", "mark", "(IZ)V"⟩ : MethodName)
theorem own_pd25 : parseMethodDescriptor "(ILjava/lang/String;I)I" = some ⟨[.int, (.object "java/lang/String"), .int], some .int⟩ := by decide +kernel
abbrev wy32 : MethodName := (⟨"com/example/portero/portero/matching/SegmentAutomaton", "read", "(ILjava/lang/String;I)I"⟩ : MethodName)
theorem own_pd26 : parseMethodDescriptor "([CII[CI)Z" = some ⟨[(.array .char), .int, .int, (.array .char), .int], some .boolean⟩ := by decide +kernel
abbrev wy34 : MethodName := (⟨"com/example/portero/portero/matching/SegmentAutomatonLongestMarkedPinLaw", "isSuffix", "([CII[CI)Z"⟩ : MethodName)
abbrev wy35 : MethodName := (⟨"com/example/portero/portero/matching/SegmentAutomaton", "longestMarked", "(I)I"⟩ : MethodName)
def S_rm0_1 (p0 : Int32) (p1 : Int32) (p2 : Int32) (p3 : Int32) (o2 : Int32) (o5 : Int32) (o8 : Int32) (o11 : Int32) (o14 : Int32) (o17 : Int32) (o20 : Int32) (o23 : Int32) (o26 : Int32) (o64 : Int32) (o67 : Int32) (o70 : Int32) (nn91 : Int32) (o103 : Int32 × Int32 × Int32 × Int32 × Int32 × Int32 × List Int64 × List Int32 × List Int32 × List Int32 × List Int32 × List Int32 × List Int32 × List Int32 × List Int32) (la34 : Int32) (la35 : Int32) (la36 : Int32) (ga : Int32) (gb : Int32) (gc : Int32) (o119 : Int32) (o121 : Int32) (o123 : Int32) : Nat → Nat → Int32 → Int32 → Int32 → List Int32 → Option (Int32)
 | 0, _, _, _, _, _ => none
 | f1 + 1, 0, sx, be, bl, M => (if ga.toInt = 0 then S_rm0_1 p0 p1 p2 p3 o2 o5 o8 o11 o14 o17 o20 o23 o26 o64 o67 o70 nn91 o103 la34 la35 la36 ga gb gc o119 o121 o123 f1 1 0 0 0 M else (F_rmMark o119 o103.2.2.2.2.1 o103.2.2.2.2.2.2.2.2.2.2.2.1 o103.2.2.2.2.2.2.2.2.2.2.2.2.1 M).bind fun o128 => (S_rm0_1 p0 p1 p2 p3 o2 o5 o8 o11 o14 o17 o20 o23 o26 o64 o67 o70 nn91 o103 la34 la35 la36 ga gb gc o119 o121 o123 f1 1 0 0 0 o128))
 | f1 + 1, 1, sx, be, bl, M => (if gb.toInt = 0 then S_rm0_1 p0 p1 p2 p3 o2 o5 o8 o11 o14 o17 o20 o23 o26 o64 o67 o70 nn91 o103 la34 la35 la36 ga gb gc o119 o121 o123 f1 2 0 0 0 M else (F_rmMark o121 o103.2.2.2.2.1 o103.2.2.2.2.2.2.2.2.2.2.2.1 o103.2.2.2.2.2.2.2.2.2.2.2.2.1 M).bind fun o157 => (S_rm0_1 p0 p1 p2 p3 o2 o5 o8 o11 o14 o17 o20 o23 o26 o64 o67 o70 nn91 o103 la34 la35 la36 ga gb gc o119 o121 o123 f1 2 0 0 0 o157))
 | f1 + 1, 2, sx, be, bl, M => (if gc.toInt = 0 then S_rm0_1 p0 p1 p2 p3 o2 o5 o8 o11 o14 o17 o20 o23 o26 o64 o67 o70 nn91 o103 la34 la35 la36 ga gb gc o119 o121 o123 f1 3 0 0 0 M else (F_rmMark o123 o103.2.2.2.2.1 o103.2.2.2.2.2.2.2.2.2.2.2.1 o103.2.2.2.2.2.2.2.2.2.2.2.2.1 M).bind fun o186 => (S_rm0_1 p0 p1 p2 p3 o2 o5 o8 o11 o14 o17 o20 o23 o26 o64 o67 o70 nn91 o103 la34 la35 la36 ga gb gc o119 o121 o123 f1 3 0 0 0 o186))
 | f1 + 1, 3, sx, be, bl, M => (if nn91.toInt < 1 then S_rm0_1 p0 p1 p2 p3 o2 o5 o8 o11 o14 o17 o20 o23 o26 o64 o67 o70 nn91 o103 la34 la35 la36 ga gb gc o119 o121 o123 f1 4 (0 : Int32) 0 0 M else (F_rmRd (0 : Int32) (0 : Int32) o103.1 o103.2.1 o103.2.2.2.2.2.2.1 o103.2.2.2.2.2.2.2.1 o103.2.2.2.2.2.2.2.2.1 (own_B3 nn91 o64 o67 o70)).bind fun o215 => (S_rm0_1 p0 p1 p2 p3 o2 o5 o8 o11 o14 o17 o20 o23 o26 o64 o67 o70 nn91 o103 la34 la35 la36 ga gb gc o119 o121 o123 f1 4 o215 0 0 M))
 | f1 + 1, 4, sx, be, bl, M => (if nn91.toInt < 2 then S_rm0_1 p0 p1 p2 p3 o2 o5 o8 o11 o14 o17 o20 o23 o26 o64 o67 o70 nn91 o103 la34 la35 la36 ga gb gc o119 o121 o123 f1 5 sx 0 0 M else (F_rmRd sx (1 : Int32) o103.1 o103.2.1 o103.2.2.2.2.2.2.1 o103.2.2.2.2.2.2.2.1 o103.2.2.2.2.2.2.2.2.1 (own_B3 nn91 o64 o67 o70)).bind fun o219 => (S_rm0_1 p0 p1 p2 p3 o2 o5 o8 o11 o14 o17 o20 o23 o26 o64 o67 o70 nn91 o103 la34 la35 la36 ga gb gc o119 o121 o123 f1 5 o219 0 0 M))
 | f1 + 1, 5, sx, be, bl, M => (if nn91.toInt < 3 then S_rm0_1 p0 p1 p2 p3 o2 o5 o8 o11 o14 o17 o20 o23 o26 o64 o67 o70 nn91 o103 la34 la35 la36 ga gb gc o119 o121 o123 f1 6 sx 0 0 M else (F_rmRd sx (2 : Int32) o103.1 o103.2.1 o103.2.2.2.2.2.2.1 o103.2.2.2.2.2.2.2.1 o103.2.2.2.2.2.2.2.2.1 (own_B3 nn91 o64 o67 o70)).bind fun o223 => (S_rm0_1 p0 p1 p2 p3 o2 o5 o8 o11 o14 o17 o20 o23 o26 o64 o67 o70 nn91 o103 la34 la35 la36 ga gb gc o119 o121 o123 f1 6 o223 0 0 M))
 | f1 + 1, 6, sx, be, bl, M => (if ga.toInt = 0 then S_rm0_1 p0 p1 p2 p3 o2 o5 o8 o11 o14 o17 o20 o23 o26 o64 o67 o70 nn91 o103 la34 la35 la36 ga gb gc o119 o121 o123 f1 7 sx (-1 : Int32) (0 : Int32) M else (F_rmSuf (0 : Int32) la34 nn91 ([o2, o5, o8, o11, o14, o17, o20, o23, o26]) ([o64, o67, o70])).bind fun o227 => ((if o227.toInt = 0 then S_rm0_1 p0 p1 p2 p3 o2 o5 o8 o11 o14 o17 o20 o23 o26 o64 o67 o70 nn91 o103 la34 la35 la36 ga gb gc o119 o121 o123 f1 7 sx (-1 : Int32) (0 : Int32) M else (if 0 < la34.toInt then S_rm0_1 p0 p1 p2 p3 o2 o5 o8 o11 o14 o17 o20 o23 o26 o64 o67 o70 nn91 o103 la34 la35 la36 ga gb gc o119 o121 o123 f1 7 sx o119 la34 M else S_rm0_1 p0 p1 p2 p3 o2 o5 o8 o11 o14 o17 o20 o23 o26 o64 o67 o70 nn91 o103 la34 la35 la36 ga gb gc o119 o121 o123 f1 7 sx (-1 : Int32) (0 : Int32) M))))
 | f1 + 1, 7, sx, be, bl, M => (if gb.toInt = 0 then S_rm0_1 p0 p1 p2 p3 o2 o5 o8 o11 o14 o17 o20 o23 o26 o64 o67 o70 nn91 o103 la34 la35 la36 ga gb gc o119 o121 o123 f1 8 sx be bl M else (F_rmSuf (3 : Int32) la35 nn91 ([o2, o5, o8, o11, o14, o17, o20, o23, o26]) ([o64, o67, o70])).bind fun o233 => ((if o233.toInt = 0 then S_rm0_1 p0 p1 p2 p3 o2 o5 o8 o11 o14 o17 o20 o23 o26 o64 o67 o70 nn91 o103 la34 la35 la36 ga gb gc o119 o121 o123 f1 8 sx be bl M else (if bl.toInt < la35.toInt then S_rm0_1 p0 p1 p2 p3 o2 o5 o8 o11 o14 o17 o20 o23 o26 o64 o67 o70 nn91 o103 la34 la35 la36 ga gb gc o119 o121 o123 f1 8 sx o121 la35 M else S_rm0_1 p0 p1 p2 p3 o2 o5 o8 o11 o14 o17 o20 o23 o26 o64 o67 o70 nn91 o103 la34 la35 la36 ga gb gc o119 o121 o123 f1 8 sx be bl M))))
 | f1 + 1, 8, sx, be, bl, M => (if gc.toInt = 0 then S_rm0_1 p0 p1 p2 p3 o2 o5 o8 o11 o14 o17 o20 o23 o26 o64 o67 o70 nn91 o103 la34 la35 la36 ga gb gc o119 o121 o123 f1 9 sx be bl M else (F_rmSuf (6 : Int32) la36 nn91 ([o2, o5, o8, o11, o14, o17, o20, o23, o26]) ([o64, o67, o70])).bind fun o239 => ((if o239.toInt = 0 then S_rm0_1 p0 p1 p2 p3 o2 o5 o8 o11 o14 o17 o20 o23 o26 o64 o67 o70 nn91 o103 la34 la35 la36 ga gb gc o119 o121 o123 f1 9 sx be bl M else (if bl.toInt < la36.toInt then S_rm0_1 p0 p1 p2 p3 o2 o5 o8 o11 o14 o17 o20 o23 o26 o64 o67 o70 nn91 o103 la34 la35 la36 ga gb gc o119 o121 o123 f1 9 sx o123 la36 M else S_rm0_1 p0 p1 p2 p3 o2 o5 o8 o11 o14 o17 o20 o23 o26 o64 o67 o70 nn91 o103 la34 la35 la36 ga gb gc o119 o121 o123 f1 9 sx be bl M))))
 | f1 + 1, _, sx, be, bl, M => (F_rmLo sx o103.2.2.2.2.1 M o103.2.2.2.2.2.2.2.2.2.2.2.2.2.1 o103.2.2.2.2.2.2.2.2.2.1 o103.2.2.2.2.2.2.2.2.2.2.2.1).bind fun o244 => ((if o244.toInt = be.toInt then some ((1 : Int32)) else some ((0 : Int32))))
theorem S_rm0_1_0 (p0 : Int32) (p1 : Int32) (p2 : Int32) (p3 : Int32) (o2 : Int32) (o5 : Int32) (o8 : Int32) (o11 : Int32) (o14 : Int32) (o17 : Int32) (o20 : Int32) (o23 : Int32) (o26 : Int32) (o64 : Int32) (o67 : Int32) (o70 : Int32) (nn91 : Int32) (o103 : Int32 × Int32 × Int32 × Int32 × Int32 × Int32 × List Int64 × List Int32 × List Int32 × List Int32 × List Int32 × List Int32 × List Int32 × List Int32 × List Int32) (la34 : Int32) (la35 : Int32) (la36 : Int32) (ga : Int32) (gb : Int32) (gc : Int32) (o119 : Int32) (o121 : Int32) (o123 : Int32) (f1 : Nat) (sx : Int32) (be : Int32) (bl : Int32) (M : List Int32) : S_rm0_1 p0 p1 p2 p3 o2 o5 o8 o11 o14 o17 o20 o23 o26 o64 o67 o70 nn91 o103 la34 la35 la36 ga gb gc o119 o121 o123 (f1 + 1) 0 sx be bl M = (if ga.toInt = 0 then S_rm0_1 p0 p1 p2 p3 o2 o5 o8 o11 o14 o17 o20 o23 o26 o64 o67 o70 nn91 o103 la34 la35 la36 ga gb gc o119 o121 o123 f1 1 0 0 0 M else (F_rmMark o119 o103.2.2.2.2.1 o103.2.2.2.2.2.2.2.2.2.2.2.1 o103.2.2.2.2.2.2.2.2.2.2.2.2.1 M).bind fun o128 => (S_rm0_1 p0 p1 p2 p3 o2 o5 o8 o11 o14 o17 o20 o23 o26 o64 o67 o70 nn91 o103 la34 la35 la36 ga gb gc o119 o121 o123 f1 1 0 0 0 o128)) := rfl
theorem S_rm0_1_1 (p0 : Int32) (p1 : Int32) (p2 : Int32) (p3 : Int32) (o2 : Int32) (o5 : Int32) (o8 : Int32) (o11 : Int32) (o14 : Int32) (o17 : Int32) (o20 : Int32) (o23 : Int32) (o26 : Int32) (o64 : Int32) (o67 : Int32) (o70 : Int32) (nn91 : Int32) (o103 : Int32 × Int32 × Int32 × Int32 × Int32 × Int32 × List Int64 × List Int32 × List Int32 × List Int32 × List Int32 × List Int32 × List Int32 × List Int32 × List Int32) (la34 : Int32) (la35 : Int32) (la36 : Int32) (ga : Int32) (gb : Int32) (gc : Int32) (o119 : Int32) (o121 : Int32) (o123 : Int32) (f1 : Nat) (sx : Int32) (be : Int32) (bl : Int32) (M : List Int32) : S_rm0_1 p0 p1 p2 p3 o2 o5 o8 o11 o14 o17 o20 o23 o26 o64 o67 o70 nn91 o103 la34 la35 la36 ga gb gc o119 o121 o123 (f1 + 1) 1 sx be bl M = (if gb.toInt = 0 then S_rm0_1 p0 p1 p2 p3 o2 o5 o8 o11 o14 o17 o20 o23 o26 o64 o67 o70 nn91 o103 la34 la35 la36 ga gb gc o119 o121 o123 f1 2 0 0 0 M else (F_rmMark o121 o103.2.2.2.2.1 o103.2.2.2.2.2.2.2.2.2.2.2.1 o103.2.2.2.2.2.2.2.2.2.2.2.2.1 M).bind fun o157 => (S_rm0_1 p0 p1 p2 p3 o2 o5 o8 o11 o14 o17 o20 o23 o26 o64 o67 o70 nn91 o103 la34 la35 la36 ga gb gc o119 o121 o123 f1 2 0 0 0 o157)) := rfl
theorem S_rm0_1_2 (p0 : Int32) (p1 : Int32) (p2 : Int32) (p3 : Int32) (o2 : Int32) (o5 : Int32) (o8 : Int32) (o11 : Int32) (o14 : Int32) (o17 : Int32) (o20 : Int32) (o23 : Int32) (o26 : Int32) (o64 : Int32) (o67 : Int32) (o70 : Int32) (nn91 : Int32) (o103 : Int32 × Int32 × Int32 × Int32 × Int32 × Int32 × List Int64 × List Int32 × List Int32 × List Int32 × List Int32 × List Int32 × List Int32 × List Int32 × List Int32) (la34 : Int32) (la35 : Int32) (la36 : Int32) (ga : Int32) (gb : Int32) (gc : Int32) (o119 : Int32) (o121 : Int32) (o123 : Int32) (f1 : Nat) (sx : Int32) (be : Int32) (bl : Int32) (M : List Int32) : S_rm0_1 p0 p1 p2 p3 o2 o5 o8 o11 o14 o17 o20 o23 o26 o64 o67 o70 nn91 o103 la34 la35 la36 ga gb gc o119 o121 o123 (f1 + 1) 2 sx be bl M = (if gc.toInt = 0 then S_rm0_1 p0 p1 p2 p3 o2 o5 o8 o11 o14 o17 o20 o23 o26 o64 o67 o70 nn91 o103 la34 la35 la36 ga gb gc o119 o121 o123 f1 3 0 0 0 M else (F_rmMark o123 o103.2.2.2.2.1 o103.2.2.2.2.2.2.2.2.2.2.2.1 o103.2.2.2.2.2.2.2.2.2.2.2.2.1 M).bind fun o186 => (S_rm0_1 p0 p1 p2 p3 o2 o5 o8 o11 o14 o17 o20 o23 o26 o64 o67 o70 nn91 o103 la34 la35 la36 ga gb gc o119 o121 o123 f1 3 0 0 0 o186)) := rfl
theorem S_rm0_1_3 (p0 : Int32) (p1 : Int32) (p2 : Int32) (p3 : Int32) (o2 : Int32) (o5 : Int32) (o8 : Int32) (o11 : Int32) (o14 : Int32) (o17 : Int32) (o20 : Int32) (o23 : Int32) (o26 : Int32) (o64 : Int32) (o67 : Int32) (o70 : Int32) (nn91 : Int32) (o103 : Int32 × Int32 × Int32 × Int32 × Int32 × Int32 × List Int64 × List Int32 × List Int32 × List Int32 × List Int32 × List Int32 × List Int32 × List Int32 × List Int32) (la34 : Int32) (la35 : Int32) (la36 : Int32) (ga : Int32) (gb : Int32) (gc : Int32) (o119 : Int32) (o121 : Int32) (o123 : Int32) (f1 : Nat) (sx : Int32) (be : Int32) (bl : Int32) (M : List Int32) : S_rm0_1 p0 p1 p2 p3 o2 o5 o8 o11 o14 o17 o20 o23 o26 o64 o67 o70 nn91 o103 la34 la35 la36 ga gb gc o119 o121 o123 (f1 + 1) 3 sx be bl M = (if nn91.toInt < 1 then S_rm0_1 p0 p1 p2 p3 o2 o5 o8 o11 o14 o17 o20 o23 o26 o64 o67 o70 nn91 o103 la34 la35 la36 ga gb gc o119 o121 o123 f1 4 (0 : Int32) 0 0 M else (F_rmRd (0 : Int32) (0 : Int32) o103.1 o103.2.1 o103.2.2.2.2.2.2.1 o103.2.2.2.2.2.2.2.1 o103.2.2.2.2.2.2.2.2.1 (own_B3 nn91 o64 o67 o70)).bind fun o215 => (S_rm0_1 p0 p1 p2 p3 o2 o5 o8 o11 o14 o17 o20 o23 o26 o64 o67 o70 nn91 o103 la34 la35 la36 ga gb gc o119 o121 o123 f1 4 o215 0 0 M)) := rfl
theorem S_rm0_1_4 (p0 : Int32) (p1 : Int32) (p2 : Int32) (p3 : Int32) (o2 : Int32) (o5 : Int32) (o8 : Int32) (o11 : Int32) (o14 : Int32) (o17 : Int32) (o20 : Int32) (o23 : Int32) (o26 : Int32) (o64 : Int32) (o67 : Int32) (o70 : Int32) (nn91 : Int32) (o103 : Int32 × Int32 × Int32 × Int32 × Int32 × Int32 × List Int64 × List Int32 × List Int32 × List Int32 × List Int32 × List Int32 × List Int32 × List Int32 × List Int32) (la34 : Int32) (la35 : Int32) (la36 : Int32) (ga : Int32) (gb : Int32) (gc : Int32) (o119 : Int32) (o121 : Int32) (o123 : Int32) (f1 : Nat) (sx : Int32) (be : Int32) (bl : Int32) (M : List Int32) : S_rm0_1 p0 p1 p2 p3 o2 o5 o8 o11 o14 o17 o20 o23 o26 o64 o67 o70 nn91 o103 la34 la35 la36 ga gb gc o119 o121 o123 (f1 + 1) 4 sx be bl M = (if nn91.toInt < 2 then S_rm0_1 p0 p1 p2 p3 o2 o5 o8 o11 o14 o17 o20 o23 o26 o64 o67 o70 nn91 o103 la34 la35 la36 ga gb gc o119 o121 o123 f1 5 sx 0 0 M else (F_rmRd sx (1 : Int32) o103.1 o103.2.1 o103.2.2.2.2.2.2.1 o103.2.2.2.2.2.2.2.1 o103.2.2.2.2.2.2.2.2.1 (own_B3 nn91 o64 o67 o70)).bind fun o219 => (S_rm0_1 p0 p1 p2 p3 o2 o5 o8 o11 o14 o17 o20 o23 o26 o64 o67 o70 nn91 o103 la34 la35 la36 ga gb gc o119 o121 o123 f1 5 o219 0 0 M)) := rfl
theorem S_rm0_1_5 (p0 : Int32) (p1 : Int32) (p2 : Int32) (p3 : Int32) (o2 : Int32) (o5 : Int32) (o8 : Int32) (o11 : Int32) (o14 : Int32) (o17 : Int32) (o20 : Int32) (o23 : Int32) (o26 : Int32) (o64 : Int32) (o67 : Int32) (o70 : Int32) (nn91 : Int32) (o103 : Int32 × Int32 × Int32 × Int32 × Int32 × Int32 × List Int64 × List Int32 × List Int32 × List Int32 × List Int32 × List Int32 × List Int32 × List Int32 × List Int32) (la34 : Int32) (la35 : Int32) (la36 : Int32) (ga : Int32) (gb : Int32) (gc : Int32) (o119 : Int32) (o121 : Int32) (o123 : Int32) (f1 : Nat) (sx : Int32) (be : Int32) (bl : Int32) (M : List Int32) : S_rm0_1 p0 p1 p2 p3 o2 o5 o8 o11 o14 o17 o20 o23 o26 o64 o67 o70 nn91 o103 la34 la35 la36 ga gb gc o119 o121 o123 (f1 + 1) 5 sx be bl M = (if nn91.toInt < 3 then S_rm0_1 p0 p1 p2 p3 o2 o5 o8 o11 o14 o17 o20 o23 o26 o64 o67 o70 nn91 o103 la34 la35 la36 ga gb gc o119 o121 o123 f1 6 sx 0 0 M else (F_rmRd sx (2 : Int32) o103.1 o103.2.1 o103.2.2.2.2.2.2.1 o103.2.2.2.2.2.2.2.1 o103.2.2.2.2.2.2.2.2.1 (own_B3 nn91 o64 o67 o70)).bind fun o223 => (S_rm0_1 p0 p1 p2 p3 o2 o5 o8 o11 o14 o17 o20 o23 o26 o64 o67 o70 nn91 o103 la34 la35 la36 ga gb gc o119 o121 o123 f1 6 o223 0 0 M)) := rfl
theorem S_rm0_1_6 (p0 : Int32) (p1 : Int32) (p2 : Int32) (p3 : Int32) (o2 : Int32) (o5 : Int32) (o8 : Int32) (o11 : Int32) (o14 : Int32) (o17 : Int32) (o20 : Int32) (o23 : Int32) (o26 : Int32) (o64 : Int32) (o67 : Int32) (o70 : Int32) (nn91 : Int32) (o103 : Int32 × Int32 × Int32 × Int32 × Int32 × Int32 × List Int64 × List Int32 × List Int32 × List Int32 × List Int32 × List Int32 × List Int32 × List Int32 × List Int32) (la34 : Int32) (la35 : Int32) (la36 : Int32) (ga : Int32) (gb : Int32) (gc : Int32) (o119 : Int32) (o121 : Int32) (o123 : Int32) (f1 : Nat) (sx : Int32) (be : Int32) (bl : Int32) (M : List Int32) : S_rm0_1 p0 p1 p2 p3 o2 o5 o8 o11 o14 o17 o20 o23 o26 o64 o67 o70 nn91 o103 la34 la35 la36 ga gb gc o119 o121 o123 (f1 + 1) 6 sx be bl M = (if ga.toInt = 0 then S_rm0_1 p0 p1 p2 p3 o2 o5 o8 o11 o14 o17 o20 o23 o26 o64 o67 o70 nn91 o103 la34 la35 la36 ga gb gc o119 o121 o123 f1 7 sx (-1 : Int32) (0 : Int32) M else (F_rmSuf (0 : Int32) la34 nn91 ([o2, o5, o8, o11, o14, o17, o20, o23, o26]) ([o64, o67, o70])).bind fun o227 => ((if o227.toInt = 0 then S_rm0_1 p0 p1 p2 p3 o2 o5 o8 o11 o14 o17 o20 o23 o26 o64 o67 o70 nn91 o103 la34 la35 la36 ga gb gc o119 o121 o123 f1 7 sx (-1 : Int32) (0 : Int32) M else (if 0 < la34.toInt then S_rm0_1 p0 p1 p2 p3 o2 o5 o8 o11 o14 o17 o20 o23 o26 o64 o67 o70 nn91 o103 la34 la35 la36 ga gb gc o119 o121 o123 f1 7 sx o119 la34 M else S_rm0_1 p0 p1 p2 p3 o2 o5 o8 o11 o14 o17 o20 o23 o26 o64 o67 o70 nn91 o103 la34 la35 la36 ga gb gc o119 o121 o123 f1 7 sx (-1 : Int32) (0 : Int32) M)))) := rfl
theorem S_rm0_1_7 (p0 : Int32) (p1 : Int32) (p2 : Int32) (p3 : Int32) (o2 : Int32) (o5 : Int32) (o8 : Int32) (o11 : Int32) (o14 : Int32) (o17 : Int32) (o20 : Int32) (o23 : Int32) (o26 : Int32) (o64 : Int32) (o67 : Int32) (o70 : Int32) (nn91 : Int32) (o103 : Int32 × Int32 × Int32 × Int32 × Int32 × Int32 × List Int64 × List Int32 × List Int32 × List Int32 × List Int32 × List Int32 × List Int32 × List Int32 × List Int32) (la34 : Int32) (la35 : Int32) (la36 : Int32) (ga : Int32) (gb : Int32) (gc : Int32) (o119 : Int32) (o121 : Int32) (o123 : Int32) (f1 : Nat) (sx : Int32) (be : Int32) (bl : Int32) (M : List Int32) : S_rm0_1 p0 p1 p2 p3 o2 o5 o8 o11 o14 o17 o20 o23 o26 o64 o67 o70 nn91 o103 la34 la35 la36 ga gb gc o119 o121 o123 (f1 + 1) 7 sx be bl M = (if gb.toInt = 0 then S_rm0_1 p0 p1 p2 p3 o2 o5 o8 o11 o14 o17 o20 o23 o26 o64 o67 o70 nn91 o103 la34 la35 la36 ga gb gc o119 o121 o123 f1 8 sx be bl M else (F_rmSuf (3 : Int32) la35 nn91 ([o2, o5, o8, o11, o14, o17, o20, o23, o26]) ([o64, o67, o70])).bind fun o233 => ((if o233.toInt = 0 then S_rm0_1 p0 p1 p2 p3 o2 o5 o8 o11 o14 o17 o20 o23 o26 o64 o67 o70 nn91 o103 la34 la35 la36 ga gb gc o119 o121 o123 f1 8 sx be bl M else (if bl.toInt < la35.toInt then S_rm0_1 p0 p1 p2 p3 o2 o5 o8 o11 o14 o17 o20 o23 o26 o64 o67 o70 nn91 o103 la34 la35 la36 ga gb gc o119 o121 o123 f1 8 sx o121 la35 M else S_rm0_1 p0 p1 p2 p3 o2 o5 o8 o11 o14 o17 o20 o23 o26 o64 o67 o70 nn91 o103 la34 la35 la36 ga gb gc o119 o121 o123 f1 8 sx be bl M)))) := rfl
theorem S_rm0_1_8 (p0 : Int32) (p1 : Int32) (p2 : Int32) (p3 : Int32) (o2 : Int32) (o5 : Int32) (o8 : Int32) (o11 : Int32) (o14 : Int32) (o17 : Int32) (o20 : Int32) (o23 : Int32) (o26 : Int32) (o64 : Int32) (o67 : Int32) (o70 : Int32) (nn91 : Int32) (o103 : Int32 × Int32 × Int32 × Int32 × Int32 × Int32 × List Int64 × List Int32 × List Int32 × List Int32 × List Int32 × List Int32 × List Int32 × List Int32 × List Int32) (la34 : Int32) (la35 : Int32) (la36 : Int32) (ga : Int32) (gb : Int32) (gc : Int32) (o119 : Int32) (o121 : Int32) (o123 : Int32) (f1 : Nat) (sx : Int32) (be : Int32) (bl : Int32) (M : List Int32) : S_rm0_1 p0 p1 p2 p3 o2 o5 o8 o11 o14 o17 o20 o23 o26 o64 o67 o70 nn91 o103 la34 la35 la36 ga gb gc o119 o121 o123 (f1 + 1) 8 sx be bl M = (if gc.toInt = 0 then S_rm0_1 p0 p1 p2 p3 o2 o5 o8 o11 o14 o17 o20 o23 o26 o64 o67 o70 nn91 o103 la34 la35 la36 ga gb gc o119 o121 o123 f1 9 sx be bl M else (F_rmSuf (6 : Int32) la36 nn91 ([o2, o5, o8, o11, o14, o17, o20, o23, o26]) ([o64, o67, o70])).bind fun o239 => ((if o239.toInt = 0 then S_rm0_1 p0 p1 p2 p3 o2 o5 o8 o11 o14 o17 o20 o23 o26 o64 o67 o70 nn91 o103 la34 la35 la36 ga gb gc o119 o121 o123 f1 9 sx be bl M else (if bl.toInt < la36.toInt then S_rm0_1 p0 p1 p2 p3 o2 o5 o8 o11 o14 o17 o20 o23 o26 o64 o67 o70 nn91 o103 la34 la35 la36 ga gb gc o119 o121 o123 f1 9 sx o123 la36 M else S_rm0_1 p0 p1 p2 p3 o2 o5 o8 o11 o14 o17 o20 o23 o26 o64 o67 o70 nn91 o103 la34 la35 la36 ga gb gc o119 o121 o123 f1 9 sx be bl M)))) := rfl
theorem S_rm0_1_9 (p0 : Int32) (p1 : Int32) (p2 : Int32) (p3 : Int32) (o2 : Int32) (o5 : Int32) (o8 : Int32) (o11 : Int32) (o14 : Int32) (o17 : Int32) (o20 : Int32) (o23 : Int32) (o26 : Int32) (o64 : Int32) (o67 : Int32) (o70 : Int32) (nn91 : Int32) (o103 : Int32 × Int32 × Int32 × Int32 × Int32 × Int32 × List Int64 × List Int32 × List Int32 × List Int32 × List Int32 × List Int32 × List Int32 × List Int32 × List Int32) (la34 : Int32) (la35 : Int32) (la36 : Int32) (ga : Int32) (gb : Int32) (gc : Int32) (o119 : Int32) (o121 : Int32) (o123 : Int32) (f1 : Nat) (sx : Int32) (be : Int32) (bl : Int32) (M : List Int32) : S_rm0_1 p0 p1 p2 p3 o2 o5 o8 o11 o14 o17 o20 o23 o26 o64 o67 o70 nn91 o103 la34 la35 la36 ga gb gc o119 o121 o123 (f1 + 1) 9 sx be bl M = (F_rmLo sx o103.2.2.2.2.1 M o103.2.2.2.2.2.2.2.2.2.2.2.2.2.1 o103.2.2.2.2.2.2.2.2.2.1 o103.2.2.2.2.2.2.2.2.2.2.2.1).bind fun o244 => ((if o244.toInt = be.toInt then some ((1 : Int32)) else some ((0 : Int32)))) := rfl
def S_rm0_0 (p0 : Int32) (p1 : Int32) (p2 : Int32) (p3 : Int32) (o2 : Int32) (o5 : Int32) (o8 : Int32) (o11 : Int32) (o14 : Int32) (o17 : Int32) (o20 : Int32) (o23 : Int32) (o26 : Int32) (la34 : Int32) (la35 : Int32) (la36 : Int32) (L45' : List Int32) (L57' : List Int32) (o64 : Int32) (o67 : Int32) (o70 : Int32) (nn91 : Int32) : Nat → Nat → Int32 → Int32 → Int32 → Option (Int32)
 | 0, _, _, _, _ => none
 | f0 + 1, 0, ga, gb, gc => (if (p2 &&& (1 : Int32)).toInt = 0 then S_rm0_0 p0 p1 p2 p3 o2 o5 o8 o11 o14 o17 o20 o23 o26 la34 la35 la36 L45' L57' o64 o67 o70 nn91 f0 1 (0 : Int32) 0 0 else S_rm0_0 p0 p1 p2 p3 o2 o5 o8 o11 o14 o17 o20 o23 o26 la34 la35 la36 L45' L57' o64 o67 o70 nn91 f0 1 (1 : Int32) 0 0)
 | f0 + 1, 1, ga, gb, gc => (if (p2 &&& (2 : Int32)).toInt = 0 then S_rm0_0 p0 p1 p2 p3 o2 o5 o8 o11 o14 o17 o20 o23 o26 la34 la35 la36 L45' L57' o64 o67 o70 nn91 f0 2 ga (0 : Int32) 0 else S_rm0_0 p0 p1 p2 p3 o2 o5 o8 o11 o14 o17 o20 o23 o26 la34 la35 la36 L45' L57' o64 o67 o70 nn91 f0 2 ga (1 : Int32) 0)
 | f0 + 1, 2, ga, gb, gc => (if (p2 &&& (4 : Int32)).toInt = 0 then S_rm0_0 p0 p1 p2 p3 o2 o5 o8 o11 o14 o17 o20 o23 o26 la34 la35 la36 L45' L57' o64 o67 o70 nn91 f0 3 ga gb (0 : Int32) else S_rm0_0 p0 p1 p2 p3 o2 o5 o8 o11 o14 o17 o20 o23 o26 la34 la35 la36 L45' L57' o64 o67 o70 nn91 f0 3 ga gb (1 : Int32))
 | f0 + 1, _, ga, gb, gc => (F_rmInit L45' L57' (own_B9 la34 la35 la36 o2 o5 o8 o11 o14 o17 o20 o23 o26)).bind fun o103 => ((F_rmWd (0 : Int32) o103.2.2.2.2.2.2.2.2.2.2.1).bind fun o119 => ((F_rmWd (1 : Int32) o103.2.2.2.2.2.2.2.2.2.2.1).bind fun o121 => ((F_rmWd (2 : Int32) o103.2.2.2.2.2.2.2.2.2.2.1).bind fun o123 => (S_rm0_1 p0 p1 p2 p3 o2 o5 o8 o11 o14 o17 o20 o23 o26 o64 o67 o70 nn91 o103 la34 la35 la36 ga gb gc o119 o121 o123 14 0 0 0 0 o103.2.2.2.2.2.2.2.2.2.2.2.2.2.2))))
theorem S_rm0_0_0 (p0 : Int32) (p1 : Int32) (p2 : Int32) (p3 : Int32) (o2 : Int32) (o5 : Int32) (o8 : Int32) (o11 : Int32) (o14 : Int32) (o17 : Int32) (o20 : Int32) (o23 : Int32) (o26 : Int32) (la34 : Int32) (la35 : Int32) (la36 : Int32) (L45' : List Int32) (L57' : List Int32) (o64 : Int32) (o67 : Int32) (o70 : Int32) (nn91 : Int32) (f0 : Nat) (ga : Int32) (gb : Int32) (gc : Int32) : S_rm0_0 p0 p1 p2 p3 o2 o5 o8 o11 o14 o17 o20 o23 o26 la34 la35 la36 L45' L57' o64 o67 o70 nn91 (f0 + 1) 0 ga gb gc = (if (p2 &&& (1 : Int32)).toInt = 0 then S_rm0_0 p0 p1 p2 p3 o2 o5 o8 o11 o14 o17 o20 o23 o26 la34 la35 la36 L45' L57' o64 o67 o70 nn91 f0 1 (0 : Int32) 0 0 else S_rm0_0 p0 p1 p2 p3 o2 o5 o8 o11 o14 o17 o20 o23 o26 la34 la35 la36 L45' L57' o64 o67 o70 nn91 f0 1 (1 : Int32) 0 0) := rfl
theorem S_rm0_0_1 (p0 : Int32) (p1 : Int32) (p2 : Int32) (p3 : Int32) (o2 : Int32) (o5 : Int32) (o8 : Int32) (o11 : Int32) (o14 : Int32) (o17 : Int32) (o20 : Int32) (o23 : Int32) (o26 : Int32) (la34 : Int32) (la35 : Int32) (la36 : Int32) (L45' : List Int32) (L57' : List Int32) (o64 : Int32) (o67 : Int32) (o70 : Int32) (nn91 : Int32) (f0 : Nat) (ga : Int32) (gb : Int32) (gc : Int32) : S_rm0_0 p0 p1 p2 p3 o2 o5 o8 o11 o14 o17 o20 o23 o26 la34 la35 la36 L45' L57' o64 o67 o70 nn91 (f0 + 1) 1 ga gb gc = (if (p2 &&& (2 : Int32)).toInt = 0 then S_rm0_0 p0 p1 p2 p3 o2 o5 o8 o11 o14 o17 o20 o23 o26 la34 la35 la36 L45' L57' o64 o67 o70 nn91 f0 2 ga (0 : Int32) 0 else S_rm0_0 p0 p1 p2 p3 o2 o5 o8 o11 o14 o17 o20 o23 o26 la34 la35 la36 L45' L57' o64 o67 o70 nn91 f0 2 ga (1 : Int32) 0) := rfl
theorem S_rm0_0_2 (p0 : Int32) (p1 : Int32) (p2 : Int32) (p3 : Int32) (o2 : Int32) (o5 : Int32) (o8 : Int32) (o11 : Int32) (o14 : Int32) (o17 : Int32) (o20 : Int32) (o23 : Int32) (o26 : Int32) (la34 : Int32) (la35 : Int32) (la36 : Int32) (L45' : List Int32) (L57' : List Int32) (o64 : Int32) (o67 : Int32) (o70 : Int32) (nn91 : Int32) (f0 : Nat) (ga : Int32) (gb : Int32) (gc : Int32) : S_rm0_0 p0 p1 p2 p3 o2 o5 o8 o11 o14 o17 o20 o23 o26 la34 la35 la36 L45' L57' o64 o67 o70 nn91 (f0 + 1) 2 ga gb gc = (if (p2 &&& (4 : Int32)).toInt = 0 then S_rm0_0 p0 p1 p2 p3 o2 o5 o8 o11 o14 o17 o20 o23 o26 la34 la35 la36 L45' L57' o64 o67 o70 nn91 f0 3 ga gb (0 : Int32) else S_rm0_0 p0 p1 p2 p3 o2 o5 o8 o11 o14 o17 o20 o23 o26 la34 la35 la36 L45' L57' o64 o67 o70 nn91 f0 3 ga gb (1 : Int32)) := rfl
theorem S_rm0_0_3 (p0 : Int32) (p1 : Int32) (p2 : Int32) (p3 : Int32) (o2 : Int32) (o5 : Int32) (o8 : Int32) (o11 : Int32) (o14 : Int32) (o17 : Int32) (o20 : Int32) (o23 : Int32) (o26 : Int32) (la34 : Int32) (la35 : Int32) (la36 : Int32) (L45' : List Int32) (L57' : List Int32) (o64 : Int32) (o67 : Int32) (o70 : Int32) (nn91 : Int32) (f0 : Nat) (ga : Int32) (gb : Int32) (gc : Int32) : S_rm0_0 p0 p1 p2 p3 o2 o5 o8 o11 o14 o17 o20 o23 o26 la34 la35 la36 L45' L57' o64 o67 o70 nn91 (f0 + 1) 3 ga gb gc = (F_rmInit L45' L57' (own_B9 la34 la35 la36 o2 o5 o8 o11 o14 o17 o20 o23 o26)).bind fun o103 => ((F_rmWd (0 : Int32) o103.2.2.2.2.2.2.2.2.2.2.1).bind fun o119 => ((F_rmWd (1 : Int32) o103.2.2.2.2.2.2.2.2.2.2.1).bind fun o121 => ((F_rmWd (2 : Int32) o103.2.2.2.2.2.2.2.2.2.2.1).bind fun o123 => (S_rm0_1 p0 p1 p2 p3 o2 o5 o8 o11 o14 o17 o20 o23 o26 o64 o67 o70 nn91 o103 la34 la35 la36 ga gb gc o119 o121 o123 14 0 0 0 0 o103.2.2.2.2.2.2.2.2.2.2.2.2.2.2)))) := rfl
def F_rm0 (p0 : Int32) (p1 : Int32) (p2 : Int32) (p3 : Int32) : Option (Int32) := (F_rmLet p0 (0 : Int32)).bind fun o2 => ((F_rmLet p0 (1 : Int32)).bind fun o5 => ((F_rmLet p0 (2 : Int32)).bind fun o8 => ((F_rmLet p0 (3 : Int32)).bind fun o11 => ((F_rmLet p0 (4 : Int32)).bind fun o14 => ((F_rmLet p0 (5 : Int32)).bind fun o17 => ((F_rmLet p0 (6 : Int32)).bind fun o20 => ((F_rmLet p0 (7 : Int32)).bind fun o23 => ((F_rmLet p0 (8 : Int32)).bind fun o26 => ((some ((1 : Int32) + ((p1 &&& (3 : Int32)) % (3 : Int32)))).bind fun la34 => ((some ((1 : Int32) + ((((p1.toUInt32 >>> ((2 : Int32) &&& 31).toUInt32).toInt32) &&& (3 : Int32)) % (3 : Int32)))).bind fun la35 => ((some ((1 : Int32) + ((((p1.toUInt32 >>> ((4 : Int32) &&& 31).toUInt32).toInt32) &&& (3 : Int32)) % (3 : Int32)))).bind fun la36 => ((own_grd (3 : Int32) 3).bind fun _ => ((own_set (List.replicate ((3 : Int32)).toNatClampNeg 0) (0 : Int32) (0 : Int32)).bind fun L41' => ((own_set L41' (1 : Int32) (3 : Int32)).bind fun L43' => ((own_set L43' (2 : Int32) (6 : Int32)).bind fun L45' => ((own_grd (3 : Int32) 3).bind fun _ => ((own_set (List.replicate ((3 : Int32)).toNatClampNeg 0) (0 : Int32) la34).bind fun L53' => ((own_set L53' (1 : Int32) ((3 : Int32) + la35)).bind fun L55' => ((own_set L55' (2 : Int32) ((6 : Int32) + la36)).bind fun L57' => ((F_rmLet p3 (2 : Int32)).bind fun o64 => ((F_rmLet p3 (3 : Int32)).bind fun o67 => ((F_rmLet p3 (4 : Int32)).bind fun o70 => ((some (p3 &&& (3 : Int32))).bind fun nn91 => (S_rm0_0 p0 p1 p2 p3 o2 o5 o8 o11 o14 o17 o20 o23 o26 la34 la35 la36 L45' L57' o64 o67 o70 nn91 5 0 0 0 0))))))))))))))))))))))))
set_option maxRecDepth 65536 in
set_option maxHeartbeats 40000000 in
theorem rm0 (l : Launch) (Z : State) (a0 : Array Value) (hw : ∀ d ∈ tables_1, d.before a0 Z = true) (ws : List Jvm.Cond) (p0 : Int32) (p1 : Int32) (p2 : Int32) (p3 : Int32) (sv : Value) (out : Int32) (cz : Int32) (h0 : Heap) (n0 : Nat) (Z0 : n0 ≤ h0.size) (S_C : Sta Z Z.heap "java/lang/String" "COMPACT_STRINGS" "Z" (.int cz)) (hcz : ¬ cz.toInt = 0) (Ol : Old Z n0 h0) (S_SF : Sta Z Z.heap "jdk/internal/util/Preconditions" "SIOOBE_FORMATTER" "Ljava/util/function/BiFunction;" sv) (hsv : sv = .null ∨ ∃ a : Addr, sv = .ref a) (hF : F_rm0 p0 p1 p2 p3 = some out) :
  MetFree l x (head1 (Jvm.Cond.code x code maxLocals ret :: ws) room_1) (fun a U => a = #[(.int p0), (.int p1), (.int p2), (.int p3)] ∧ Z.WarmedH U.vm ∧ U.heap = h0) (fun _ _ _ _ _ => True) (fun _ U o U' => ∃ v L, o = .returned v ∧ Q_rm0 Z p0 p1 p2 p3 sv out cz h0 n0 v U'.heap L ∧ FrameEnd U o U' L room_1.cells room_1.slots) := by
 refine MetFree.of_bodySF (plainFor_of_name own_pn8) hisR ?_
 intro p e s m args below meth c s₁ Bd hml0 hP hK
 obtain ⟨rfl, hH, hh⟩ := hP
 have hZ : Z.Warmed39 s.vm := hH.wide
 have hW := @own_hW a0 Z hw
 have hx := Bd.exec
 have hby := Bd.bytes
 have hml : c.maxLocals = 24 := hml0
 have hown : s.vm.findClass "com/example/portero/portero/matching/SegmentAutomatonLongestMarkedPinLaw" = some m.cls := findClass_of_methodNamed Bd.named
 have hnm := (name_of_methodNamed Bd.named Bd.method).1
 have X0 : Stand p l e room_1 s m #[(.int p0), (.int p1), (.int p2), (.int p3)] below meth c s₁ [] 0 0 := Stand.of_body Bd
 have e0 : s₁.heap = h0 := by rw [← hh, Bd.state]; rfl
 have N0 := Fr.nil n0
 refine (show own_End p e below s (s₁.setTop (entryFrame m #[(.int p0), (.int p1), (.int p2), (.int p3)] maxLocals)) (Q_rm0 Z p0 p1 p2 p3 sv out cz h0 n0) room_1.cells room_1.slots from ?_)
 refine own_go (fun τ κ => castTop (own_ef0_rm0 m p0 p1 p2 p3) κ) ?_
 have li0 : (0 : Int32).toInt = 0 := rfl
 have li1 : (1 : Int32).toInt = 1 := rfl
 show own_End p e below s (s₁.setTop (mkF m 0 #[wI p0, wI p1, wI p2, wI p3, wU, wU, wU, wU, wU, wU, wU, wU, wU, wU, wU, wU, wU, wU, wU, wU, wU, wU, wU, wU] [])) _ _ _
 have H := hF
 refine o_bipush X0 hx hby at_0 (x := 9) rfl ?_
 obtain ⟨T1, h1, k1, X1, e1, E1, A1, st1⟩ := newP X0 hx hZ (hW 0 rfl) e0 (g := (mkF m 2 #[wI p0, wI p1, wI p2, wI p3, wU, wU, wU, wU, wU, wU, wU, wU, wU, wU, wU, wU, wU, wU, wU, wU, wU, wU, wU, wU] [(.int 9)])) rfl (hb hby at_2) rfl (by decide) (cap := 9) (by decide) (by decide) (by decide) (by decide)
 obtain ⟨b1, g1⟩ : ∃ z, z = h0.size := ⟨_, rfl⟩
 rw [← g1] at A1 st1
 have g_b1 := own_gf Z0 g1
 have Z1 := Nat.le_trans Z0 E1.1
 have KP1 := (Keep.refl h0 []).ext E1
 have sz_b1 := own_gf (Keep.refl h0 []).1 g1
 have V_b1 : Arv Z h1 b1 k1 .char (9 : Int32) [(.int 0), (.int 0), (.int 0), (.int 0), (.int 0), (.int 0), (.int 0), (.int 0), (.int 0)] (.int 0) := (Arv.new A1 (by decide)).pad (pad_rep [] (.int 0) 9)
 refine own_go st1 ?_
 show own_End p e below s (T1.setTop (mkF m 4 _ [(.ref b1)])) _ _ _
 refine o_astore X1 hx hby at_4 (l' := #[wI p0, wI p1, wI p2, wI p3, wR b1, wU, wU, wU, wU, wU, wU, wU, wU, wU, wU, wU, wU, wU, wU, wU, wU, wU, wU, wU]) rfl ?_
 refine o_aload X1 hx hby at_6 rfl ?_
 refine o_iconst X1 hx hby at_8 (x := 0) rfl ?_
 refine o_iloadN X1 hx hby at_9 rfl ?_
 refine o_iconst X1 hx hby at_10 (x := 0) rfl ?_
 obtain ⟨o2, ho2, H⟩ := own_bnd H
 refine o_cS X1 hx hZ hown (y := wy1) (hW 1 rfl) (hW 2 rfl) (hW 3 rfl) (hW 4 rfl) (by decide) (backOf (W := 2) (rmLet l Z a0 hw [] p0 (0 : Int32) o2 h1 n0 Z1 ho2) hZ (hW 4 rfl) (hW 3 rfl) (by decide) (by decide)) (by rw [hml]; rfl) (argsL := [(.int p0), (.int 0)]) (rest := [(.int 0), (.ref b1)]) (lenOf own_pd21 rfl) rfl rfl (Nat.le_of_eq rfl) e1 (by decide) (by decide) hby at_11 N0 fun T3 v3 Lc3 ls3 X3 hQ3 nq3 => ?_
 obtain ⟨⟨rfl, P0_3⟩, N3q, e3⟩ := hQ3
 have N3 := nq3 N3q
 show own_End p e below s (T3.setTop (mkF m 14 _ [(.int o2), (.int 0), (.ref b1)])) _ _ _
 refine o_stC X3 hx hZ e3 V_b1 ⟨by decide, by decide⟩ (i := 0) rfl (Nat.le_of_ble_eq_true rfl) N3 g_b1 hby at_14 fun T4 h4 ls4 X4 e4 W4 V_b1_4 N4 => ?_
 replace V_b1_4 : Arv Z h4 b1 k1 .char (9 : Int32) [(.int (o2.toUInt32.toUInt16.toUInt32.toInt32)), (.int 0), (.int 0), (.int 0), (.int 0), (.int 0), (.int 0), (.int 0), (.int 0)] (.int 0) := V_b1_4
 have Z4 := Nat.le_trans Z1 (Keep.of_wr W4).1
 have KP4 := KP1.wr W4 (Or.inr sz_b1)
 rw [own_nC P0_3] at V_b1_4
 refine o_aload X4 hx hby at_15 rfl ?_
 refine o_iconst X4 hx hby at_17 (x := 1) rfl ?_
 refine o_iloadN X4 hx hby at_18 rfl ?_
 refine o_iconst X4 hx hby at_19 (x := 1) rfl ?_
 obtain ⟨o5, ho5, H⟩ := own_bnd H
 refine o_cS X4 hx hZ hown (y := wy1) (hW 1 rfl) (hW 2 rfl) (hW 3 rfl) (hW 4 rfl) (by decide) (backOf (W := 2) (rmLet l Z a0 hw [] p0 (1 : Int32) o5 h4 n0 Z4 ho5) hZ (hW 4 rfl) (hW 3 rfl) (by decide) (by decide)) (by rw [hml]; rfl) (argsL := [(.int p0), (.int 1)]) (rest := [(.int 1), (.ref b1)]) (lenOf own_pd21 rfl) rfl rfl (Nat.le_of_eq rfl) e4 (by decide) (by decide) hby at_20 N4 fun T6 v6 Lc6 ls6 X6 hQ6 nq6 => ?_
 obtain ⟨⟨rfl, P0_6⟩, N6q, e6⟩ := hQ6
 have N6 := nq6 N6q
 show own_End p e below s (T6.setTop (mkF m 23 _ [(.int o5), (.int 1), (.ref b1)])) _ _ _
 refine o_stC X6 hx hZ e6 V_b1_4 ⟨by decide, by decide⟩ (i := 1) rfl (Nat.le_of_ble_eq_true rfl) N6 g_b1 hby at_23 fun T7 h7 ls7 X7 e7 W7 V_b1_7 N7 => ?_
 replace V_b1_7 : Arv Z h7 b1 k1 .char (9 : Int32) [(.int o2), (.int (o5.toUInt32.toUInt16.toUInt32.toInt32)), (.int 0), (.int 0), (.int 0), (.int 0), (.int 0), (.int 0), (.int 0)] (.int 0) := V_b1_7
 have Z7 := Nat.le_trans Z4 (Keep.of_wr W7).1
 have KP7 := KP4.wr W7 (Or.inr sz_b1)
 rw [own_nC P0_6] at V_b1_7
 refine o_aload X7 hx hby at_24 rfl ?_
 refine o_iconst X7 hx hby at_26 (x := 2) rfl ?_
 refine o_iloadN X7 hx hby at_27 rfl ?_
 refine o_iconst X7 hx hby at_28 (x := 2) rfl ?_
 obtain ⟨o8, ho8, H⟩ := own_bnd H
 refine o_cS X7 hx hZ hown (y := wy1) (hW 1 rfl) (hW 2 rfl) (hW 3 rfl) (hW 4 rfl) (by decide) (backOf (W := 2) (rmLet l Z a0 hw [] p0 (2 : Int32) o8 h7 n0 Z7 ho8) hZ (hW 4 rfl) (hW 3 rfl) (by decide) (by decide)) (by rw [hml]; rfl) (argsL := [(.int p0), (.int 2)]) (rest := [(.int 2), (.ref b1)]) (lenOf own_pd21 rfl) rfl rfl (Nat.le_of_eq rfl) e7 (by decide) (by decide) hby at_29 N7 fun T9 v9 Lc9 ls9 X9 hQ9 nq9 => ?_
 obtain ⟨⟨rfl, P0_9⟩, N9q, e9⟩ := hQ9
 have N9 := nq9 N9q
 show own_End p e below s (T9.setTop (mkF m 32 _ [(.int o8), (.int 2), (.ref b1)])) _ _ _
 refine o_stC X9 hx hZ e9 V_b1_7 ⟨by decide, by decide⟩ (i := 2) rfl (Nat.le_of_ble_eq_true rfl) N9 g_b1 hby at_32 fun T10 h10 ls10 X10 e10 W10 V_b1_10 N10 => ?_
 replace V_b1_10 : Arv Z h10 b1 k1 .char (9 : Int32) [(.int o2), (.int o5), (.int (o8.toUInt32.toUInt16.toUInt32.toInt32)), (.int 0), (.int 0), (.int 0), (.int 0), (.int 0), (.int 0)] (.int 0) := V_b1_10
 have Z10 := Nat.le_trans Z7 (Keep.of_wr W10).1
 have KP10 := KP7.wr W10 (Or.inr sz_b1)
 rw [own_nC P0_9] at V_b1_10
 refine o_aload X10 hx hby at_33 rfl ?_
 refine o_iconst X10 hx hby at_35 (x := 3) rfl ?_
 refine o_iloadN X10 hx hby at_36 rfl ?_
 refine o_iconst X10 hx hby at_37 (x := 3) rfl ?_
 obtain ⟨o11, ho11, H⟩ := own_bnd H
 refine o_cS X10 hx hZ hown (y := wy1) (hW 1 rfl) (hW 2 rfl) (hW 3 rfl) (hW 4 rfl) (by decide) (backOf (W := 2) (rmLet l Z a0 hw [] p0 (3 : Int32) o11 h10 n0 Z10 ho11) hZ (hW 4 rfl) (hW 3 rfl) (by decide) (by decide)) (by rw [hml]; rfl) (argsL := [(.int p0), (.int 3)]) (rest := [(.int 3), (.ref b1)]) (lenOf own_pd21 rfl) rfl rfl (Nat.le_of_eq rfl) e10 (by decide) (by decide) hby at_38 N10 fun T12 v12 Lc12 ls12 X12 hQ12 nq12 => ?_
 obtain ⟨⟨rfl, P0_12⟩, N12q, e12⟩ := hQ12
 have N12 := nq12 N12q
 show own_End p e below s (T12.setTop (mkF m 41 _ [(.int o11), (.int 3), (.ref b1)])) _ _ _
 refine o_stC X12 hx hZ e12 V_b1_10 ⟨by decide, by decide⟩ (i := 3) rfl (Nat.le_of_ble_eq_true rfl) N12 g_b1 hby at_41 fun T13 h13 ls13 X13 e13 W13 V_b1_13 N13 => ?_
 replace V_b1_13 : Arv Z h13 b1 k1 .char (9 : Int32) [(.int o2), (.int o5), (.int o8), (.int (o11.toUInt32.toUInt16.toUInt32.toInt32)), (.int 0), (.int 0), (.int 0), (.int 0), (.int 0)] (.int 0) := V_b1_13
 have Z13 := Nat.le_trans Z10 (Keep.of_wr W13).1
 have KP13 := KP10.wr W13 (Or.inr sz_b1)
 rw [own_nC P0_12] at V_b1_13
 refine o_aload X13 hx hby at_42 rfl ?_
 refine o_iconst X13 hx hby at_44 (x := 4) rfl ?_
 refine o_iloadN X13 hx hby at_45 rfl ?_
 refine o_iconst X13 hx hby at_46 (x := 4) rfl ?_
 obtain ⟨o14, ho14, H⟩ := own_bnd H
 refine o_cS X13 hx hZ hown (y := wy1) (hW 1 rfl) (hW 2 rfl) (hW 3 rfl) (hW 4 rfl) (by decide) (backOf (W := 2) (rmLet l Z a0 hw [] p0 (4 : Int32) o14 h13 n0 Z13 ho14) hZ (hW 4 rfl) (hW 3 rfl) (by decide) (by decide)) (by rw [hml]; rfl) (argsL := [(.int p0), (.int 4)]) (rest := [(.int 4), (.ref b1)]) (lenOf own_pd21 rfl) rfl rfl (Nat.le_of_eq rfl) e13 (by decide) (by decide) hby at_47 N13 fun T15 v15 Lc15 ls15 X15 hQ15 nq15 => ?_
 obtain ⟨⟨rfl, P0_15⟩, N15q, e15⟩ := hQ15
 have N15 := nq15 N15q
 show own_End p e below s (T15.setTop (mkF m 50 _ [(.int o14), (.int 4), (.ref b1)])) _ _ _
 refine o_stC X15 hx hZ e15 V_b1_13 ⟨by decide, by decide⟩ (i := 4) rfl (Nat.le_of_ble_eq_true rfl) N15 g_b1 hby at_50 fun T16 h16 ls16 X16 e16 W16 V_b1_16 N16 => ?_
 replace V_b1_16 : Arv Z h16 b1 k1 .char (9 : Int32) [(.int o2), (.int o5), (.int o8), (.int o11), (.int (o14.toUInt32.toUInt16.toUInt32.toInt32)), (.int 0), (.int 0), (.int 0), (.int 0)] (.int 0) := V_b1_16
 have Z16 := Nat.le_trans Z13 (Keep.of_wr W16).1
 have KP16 := KP13.wr W16 (Or.inr sz_b1)
 rw [own_nC P0_15] at V_b1_16
 refine o_aload X16 hx hby at_51 rfl ?_
 refine o_iconst X16 hx hby at_53 (x := 5) rfl ?_
 refine o_iloadN X16 hx hby at_54 rfl ?_
 refine o_iconst X16 hx hby at_55 (x := 5) rfl ?_
 obtain ⟨o17, ho17, H⟩ := own_bnd H
 refine o_cS X16 hx hZ hown (y := wy1) (hW 1 rfl) (hW 2 rfl) (hW 3 rfl) (hW 4 rfl) (by decide) (backOf (W := 2) (rmLet l Z a0 hw [] p0 (5 : Int32) o17 h16 n0 Z16 ho17) hZ (hW 4 rfl) (hW 3 rfl) (by decide) (by decide)) (by rw [hml]; rfl) (argsL := [(.int p0), (.int 5)]) (rest := [(.int 5), (.ref b1)]) (lenOf own_pd21 rfl) rfl rfl (Nat.le_of_eq rfl) e16 (by decide) (by decide) hby at_56 N16 fun T18 v18 Lc18 ls18 X18 hQ18 nq18 => ?_
 obtain ⟨⟨rfl, P0_18⟩, N18q, e18⟩ := hQ18
 have N18 := nq18 N18q
 show own_End p e below s (T18.setTop (mkF m 59 _ [(.int o17), (.int 5), (.ref b1)])) _ _ _
 refine o_stC X18 hx hZ e18 V_b1_16 ⟨by decide, by decide⟩ (i := 5) rfl (Nat.le_of_ble_eq_true rfl) N18 g_b1 hby at_59 fun T19 h19 ls19 X19 e19 W19 V_b1_19 N19 => ?_
 replace V_b1_19 : Arv Z h19 b1 k1 .char (9 : Int32) [(.int o2), (.int o5), (.int o8), (.int o11), (.int o14), (.int (o17.toUInt32.toUInt16.toUInt32.toInt32)), (.int 0), (.int 0), (.int 0)] (.int 0) := V_b1_19
 have Z19 := Nat.le_trans Z16 (Keep.of_wr W19).1
 have KP19 := KP16.wr W19 (Or.inr sz_b1)
 rw [own_nC P0_18] at V_b1_19
 refine o_aload X19 hx hby at_60 rfl ?_
 refine o_bipush X19 hx hby at_62 (x := 6) rfl ?_
 refine o_iloadN X19 hx hby at_64 rfl ?_
 refine o_bipush X19 hx hby at_65 (x := 6) rfl ?_
 obtain ⟨o20, ho20, H⟩ := own_bnd H
 refine o_cS X19 hx hZ hown (y := wy1) (hW 1 rfl) (hW 2 rfl) (hW 3 rfl) (hW 4 rfl) (by decide) (backOf (W := 2) (rmLet l Z a0 hw [] p0 (6 : Int32) o20 h19 n0 Z19 ho20) hZ (hW 4 rfl) (hW 3 rfl) (by decide) (by decide)) (by rw [hml]; rfl) (argsL := [(.int p0), (.int 6)]) (rest := [(.int 6), (.ref b1)]) (lenOf own_pd21 rfl) rfl rfl (Nat.le_of_eq rfl) e19 (by decide) (by decide) hby at_67 N19 fun T21 v21 Lc21 ls21 X21 hQ21 nq21 => ?_
 obtain ⟨⟨rfl, P0_21⟩, N21q, e21⟩ := hQ21
 have N21 := nq21 N21q
 show own_End p e below s (T21.setTop (mkF m 70 _ [(.int o20), (.int 6), (.ref b1)])) _ _ _
 refine o_stC X21 hx hZ e21 V_b1_19 ⟨by decide, by decide⟩ (i := 6) rfl (Nat.le_of_ble_eq_true rfl) N21 g_b1 hby at_70 fun T22 h22 ls22 X22 e22 W22 V_b1_22 N22 => ?_
 replace V_b1_22 : Arv Z h22 b1 k1 .char (9 : Int32) [(.int o2), (.int o5), (.int o8), (.int o11), (.int o14), (.int o17), (.int (o20.toUInt32.toUInt16.toUInt32.toInt32)), (.int 0), (.int 0)] (.int 0) := V_b1_22
 have Z22 := Nat.le_trans Z19 (Keep.of_wr W22).1
 have KP22 := KP19.wr W22 (Or.inr sz_b1)
 rw [own_nC P0_21] at V_b1_22
 refine o_aload X22 hx hby at_71 rfl ?_
 refine o_bipush X22 hx hby at_73 (x := 7) rfl ?_
 refine o_iloadN X22 hx hby at_75 rfl ?_
 refine o_bipush X22 hx hby at_76 (x := 7) rfl ?_
 obtain ⟨o23, ho23, H⟩ := own_bnd H
 refine o_cS X22 hx hZ hown (y := wy1) (hW 1 rfl) (hW 2 rfl) (hW 3 rfl) (hW 4 rfl) (by decide) (backOf (W := 2) (rmLet l Z a0 hw [] p0 (7 : Int32) o23 h22 n0 Z22 ho23) hZ (hW 4 rfl) (hW 3 rfl) (by decide) (by decide)) (by rw [hml]; rfl) (argsL := [(.int p0), (.int 7)]) (rest := [(.int 7), (.ref b1)]) (lenOf own_pd21 rfl) rfl rfl (Nat.le_of_eq rfl) e22 (by decide) (by decide) hby at_78 N22 fun T24 v24 Lc24 ls24 X24 hQ24 nq24 => ?_
 obtain ⟨⟨rfl, P0_24⟩, N24q, e24⟩ := hQ24
 have N24 := nq24 N24q
 show own_End p e below s (T24.setTop (mkF m 81 _ [(.int o23), (.int 7), (.ref b1)])) _ _ _
 refine o_stC X24 hx hZ e24 V_b1_22 ⟨by decide, by decide⟩ (i := 7) rfl (Nat.le_of_ble_eq_true rfl) N24 g_b1 hby at_81 fun T25 h25 ls25 X25 e25 W25 V_b1_25 N25 => ?_
 replace V_b1_25 : Arv Z h25 b1 k1 .char (9 : Int32) [(.int o2), (.int o5), (.int o8), (.int o11), (.int o14), (.int o17), (.int o20), (.int (o23.toUInt32.toUInt16.toUInt32.toInt32)), (.int 0)] (.int 0) := V_b1_25
 have Z25 := Nat.le_trans Z22 (Keep.of_wr W25).1
 have KP25 := KP22.wr W25 (Or.inr sz_b1)
 rw [own_nC P0_24] at V_b1_25
 refine o_aload X25 hx hby at_82 rfl ?_
 refine o_bipush X25 hx hby at_84 (x := 8) rfl ?_
 refine o_iloadN X25 hx hby at_86 rfl ?_
 refine o_bipush X25 hx hby at_87 (x := 8) rfl ?_
 obtain ⟨o26, ho26, H⟩ := own_bnd H
 refine o_cS X25 hx hZ hown (y := wy1) (hW 1 rfl) (hW 2 rfl) (hW 3 rfl) (hW 4 rfl) (by decide) (backOf (W := 2) (rmLet l Z a0 hw [] p0 (8 : Int32) o26 h25 n0 Z25 ho26) hZ (hW 4 rfl) (hW 3 rfl) (by decide) (by decide)) (by rw [hml]; rfl) (argsL := [(.int p0), (.int 8)]) (rest := [(.int 8), (.ref b1)]) (lenOf own_pd21 rfl) rfl rfl (Nat.le_of_eq rfl) e25 (by decide) (by decide) hby at_89 N25 fun T27 v27 Lc27 ls27 X27 hQ27 nq27 => ?_
 obtain ⟨⟨rfl, P0_27⟩, N27q, e27⟩ := hQ27
 have N27 := nq27 N27q
 show own_End p e below s (T27.setTop (mkF m 92 _ [(.int o26), (.int 8), (.ref b1)])) _ _ _
 refine o_stC X27 hx hZ e27 V_b1_25 ⟨by decide, by decide⟩ (i := 8) rfl (Nat.le_of_ble_eq_true rfl) N27 g_b1 hby at_92 fun T28 h28 ls28 X28 e28 W28 V_b1_28 N28 => ?_
 replace V_b1_28 : Arv Z h28 b1 k1 .char (9 : Int32) [(.int o2), (.int o5), (.int o8), (.int o11), (.int o14), (.int o17), (.int o20), (.int o23), (.int (o26.toUInt32.toUInt16.toUInt32.toInt32))] (.int 0) := V_b1_28
 have Z28 := Nat.le_trans Z25 (Keep.of_wr W28).1
 have KP28 := KP25.wr W28 (Or.inr sz_b1)
 rw [own_nC P0_27] at V_b1_28
 obtain ⟨T29, h29, X29, e29, E29, A29, D29, -, st29⟩ := newO X28 hx hZ hown (hW 5 rfl) (hW 6 rfl) (hW 7 rfl) e28 (g := (mkF m 93 #[wI p0, wI p1, wI p2, wI p3, wR b1, wU, wU, wU, wU, wU, wU, wU, wU, wU, wU, wU, wU, wU, wU, wU, wU, wU, wU, wU] [])) rfl (hb hby at_93) (by decide) (by decide)
 obtain ⟨b29, g29⟩ : ∃ z, z = h28.size := ⟨_, rfl⟩
 rw [← g29] at A29 D29 st29
 have g_b29 := own_gf Z28 g29
 have ne_b1_b29 := own_nf V_b1_28.lt g29
 have Z29 := Nat.le_trans Z28 E29.1
 have KP29 := KP28.ext E29
 have sz_b29 := own_gf KP28.1 g29
 have F_coder_b29 : Fld Z h29 b29 "java/lang/String" "coder" "B" (.int 0) := D29 (Or.inr (hW 31 rfl)) (ty := .byte) (by decide)
 have F_value_b29 : Fld Z h29 b29 "java/lang/String" "value" "[B" .null := D29 (Or.inr (hW 33 rfl)) (ty := (.array .byte)) (by decide)
 refine own_go st29 ?_
 show own_End p e below s (T29.setTop (mkF m 96 _ [(.ref b29)])) _ _ _
 refine o_dup X29 hx hby at_96 rfl ?_
 refine o_aload X29 hx hby at_97 rfl ?_
 have U30 := (V_b1_28.ext E29)
 have U31 := (((((((((((Ol.ext E1).wr W4 g_b1).wr W7 g_b1).wr W10 g_b1).wr W13 g_b1).wr W16 g_b1).wr W19 g_b1).wr W22 g_b1).wr W25 g_b1).wr W28 g_b1).ext E29)
 refine o_cI X29 hx hZ hown (y := wy2) rfl (hW 8 rfl) (hW 9 rfl) (hW 10 rfl) (by decide) (backOf (W := 1) (rmC9 l Z a0 hw [] b29 b1 k1 cz o2 o5 o8 o11 o14 o17 o20 o23 o26 h29 n0 Z29 g_b29 A29 F_value_b29 F_coder_b29 (Ne.symm ne_b1_b29) U30 U31 S_C hcz (own_n255 P0_3) (own_n255 P0_6) (own_n255 P0_9) (own_n255 P0_12) (own_n255 P0_15) (own_n255 P0_18) (own_n255 P0_21) (own_n255 P0_24) (own_n255 P0_27)) hZ (hW 10 rfl) (hW 7 rfl) (by decide) (by decide)) (by rw [hml]; rfl) (argsL := [(.ref b1)]) (rest := [(.ref b29)]) (lenOf own_pd22 rfl) rfl rfl (Nat.le_of_eq rfl) e29 (by decide) (by decide) hby at_99 N28 fun T32 v32 Lc32 ls32 X32 hQ32 nq32 => ?_
 obtain ⟨⟨sb32, sk32, zb32, Ss32⟩, N32q, K32, rfl⟩ := hQ32
 have N32 := nq32 N32q
 have Z32 := Nat.le_trans Z29 K32.1
 show own_End p e below s (T32.setTop (mkF m 102 _ [(.ref b29)])) _ _ _
 have g_sb32 : n0 ≤ sb32 := Nat.le_trans Z29 zb32
 have sz_sb32 : h0.size ≤ sb32 := Nat.le_trans KP29.1 zb32
 have ne_b1_sb32 := own_nb U30.lt zb32
 have ne_b29_sb32 := own_nb A29.lt zb32
 have KP32 := KP29.trans K32 (allS (Or.inr sz_b29) all0)
 obtain ⟨E33, Fv33, Fc33, Vb33⟩ := id Ss32
 rw [own_nB P0_3, own_nB P0_6, own_nB P0_9, own_nB P0_12, own_nB P0_15, own_nB P0_18, own_nB P0_21, own_nB P0_24, own_nB P0_27] at Vb33
 refine o_astore X32 hx hby at_102 (l' := #[wI p0, wI p1, wI p2, wI p3, wR b1, wR b29, wU, wU, wU, wU, wU, wU, wU, wU, wU, wU, wU, wU, wU, wU, wU, wU, wU, wU]) rfl ?_
 refine o_iconst X32 hx hby at_104 (x := 1) rfl ?_
 refine o_iloadN X32 hx hby at_105 rfl ?_
 refine o_iconst X32 hx hby at_106 (x := 3) rfl ?_
 refine o_iand X32 hx hby at_107 ?_
 refine o_iconst X32 hx hby at_108 (x := 3) rfl ?_
 refine own_go (fun τ κ => XS.irem X32.here hx rfl (hb hby at_109) rfl (by decide) (by rw [irem_eq_mod]; exact κ)) ?_
 show own_End p e below s (T32.setTop (mkF m 110 _ [(.int ((p1 &&& (3 : Int32)) % (3 : Int32))), (.int 1)])) _ _ _
 refine o_iadd X32 hx hby at_110 ?_
 refine o_istore X32 hx hby at_111 (l' := #[wI p0, wI p1, wI p2, wI p3, wR b1, wR b29, wI ((1 : Int32) + ((p1 &&& (3 : Int32)) % (3 : Int32))), wU, wU, wU, wU, wU, wU, wU, wU, wU, wU, wU, wU, wU, wU, wU, wU, wU]) rfl ?_
 show own_End p e below s (T32.setTop (mkF m 113 _ [])) _ _ _
 obtain ⟨la34, hla34, H⟩ := own_bnd H
 replace hla34 := Option.some.inj hla34
 rw [hla34]
 show own_End p e below s (T32.setTop (mkF m 113 _ [])) _ _ _
 refine o_iconst X32 hx hby at_113 (x := 1) rfl ?_
 refine o_iloadN X32 hx hby at_114 rfl ?_
 refine o_iconst X32 hx hby at_115 (x := 2) rfl ?_
 refine o_iushr X32 hx hby at_116 ?_
 refine o_iconst X32 hx hby at_117 (x := 3) rfl ?_
 refine o_iand X32 hx hby at_118 ?_
 refine o_iconst X32 hx hby at_119 (x := 3) rfl ?_
 refine own_go (fun τ κ => XS.irem X32.here hx rfl (hb hby at_120) rfl (by decide) (by rw [irem_eq_mod]; exact κ)) ?_
 show own_End p e below s (T32.setTop (mkF m 121 _ [(.int ((((p1.toUInt32 >>> ((2 : Int32) &&& 31).toUInt32).toInt32) &&& (3 : Int32)) % (3 : Int32))), (.int 1)])) _ _ _
 refine o_iadd X32 hx hby at_121 ?_
 refine o_istore X32 hx hby at_122 (l' := #[wI p0, wI p1, wI p2, wI p3, wR b1, wR b29, wI la34, wI ((1 : Int32) + ((((p1.toUInt32 >>> ((2 : Int32) &&& 31).toUInt32).toInt32) &&& (3 : Int32)) % (3 : Int32))), wU, wU, wU, wU, wU, wU, wU, wU, wU, wU, wU, wU, wU, wU, wU, wU]) rfl ?_
 show own_End p e below s (T32.setTop (mkF m 124 _ [])) _ _ _
 obtain ⟨la35, hla35, H⟩ := own_bnd H
 replace hla35 := Option.some.inj hla35
 rw [hla35]
 show own_End p e below s (T32.setTop (mkF m 124 _ [])) _ _ _
 refine o_iconst X32 hx hby at_124 (x := 1) rfl ?_
 refine o_iloadN X32 hx hby at_125 rfl ?_
 refine o_iconst X32 hx hby at_126 (x := 4) rfl ?_
 refine o_iushr X32 hx hby at_127 ?_
 refine o_iconst X32 hx hby at_128 (x := 3) rfl ?_
 refine o_iand X32 hx hby at_129 ?_
 refine o_iconst X32 hx hby at_130 (x := 3) rfl ?_
 refine own_go (fun τ κ => XS.irem X32.here hx rfl (hb hby at_131) rfl (by decide) (by rw [irem_eq_mod]; exact κ)) ?_
 show own_End p e below s (T32.setTop (mkF m 132 _ [(.int ((((p1.toUInt32 >>> ((4 : Int32) &&& 31).toUInt32).toInt32) &&& (3 : Int32)) % (3 : Int32))), (.int 1)])) _ _ _
 refine o_iadd X32 hx hby at_132 ?_
 refine o_istore X32 hx hby at_133 (l' := #[wI p0, wI p1, wI p2, wI p3, wR b1, wR b29, wI la34, wI la35, wI ((1 : Int32) + ((((p1.toUInt32 >>> ((4 : Int32) &&& 31).toUInt32).toInt32) &&& (3 : Int32)) % (3 : Int32))), wU, wU, wU, wU, wU, wU, wU, wU, wU, wU, wU, wU, wU, wU, wU]) rfl ?_
 show own_End p e below s (T32.setTop (mkF m 135 _ [])) _ _ _
 obtain ⟨la36, hla36, H⟩ := own_bnd H
 replace hla36 := Option.some.inj hla36
 rw [hla36]
 show own_End p e below s (T32.setTop (mkF m 135 _ [])) _ _ _
 have Ab37 : own_AB Z T32.heap sb32 sk32 (9 : Int32) (own_B9 la34 la35 la36 o2 o5 o8 o11 o14 o17 o20 o23 o26) := own_ABof (U := [o2, o5, o8, o11, o14, o17, o20, o23, o26]) Vb33 rfl (own_s9 la34 la35 la36 o2 o5 o8 o11 o14 o17 o20 o23 o26) (own_all9 P0_3 P0_6 P0_9 P0_12 P0_15 P0_18 P0_21 P0_24 P0_27)
 have U38 := (U30.keep K32 (ninS ne_b1_b29 nin0))
 have Ac37 : own_AC Z T32.heap b1 k1 (9 : Int32) [o2, o5, o8, o11, o14, o17, o20, o23, o26] := ⟨U38, rfl⟩
 refine o_iconst X32 hx hby at_135 (x := 3) rfl ?_
 obtain ⟨_, hg39, H⟩ := own_bnd H
 obtain ⟨T40, h40, k40, X40, e40, E40, A40, Ex40, st40⟩ := newPE X32 hx hZ (hW 34 rfl) rfl (g := (mkF m 136 #[wI p0, wI p1, wI p2, wI p3, wR b1, wR b29, wI la34, wI la35, wI la36, wU, wU, wU, wU, wU, wU, wU, wU, wU, wU, wU, wU, wU, wU, wU] [(.int 3)])) rfl (hb hby at_136) rfl (own_grdn hg39) (cap := 3) (own_grdc hg39) (by decide) (by decide) (by decide) rfl
 obtain ⟨b40, g40⟩ : ∃ z, z = T32.heap.size := ⟨_, rfl⟩
 rw [← g40] at A40 Ex40 st40
 have g_b40 := own_gf Z32 g40
 have ne_b1_b40 := own_nf Ac37.lt g40
 have ne_b29_b40 := own_nf E33.lt g40
 have ne_sb32_b40 := own_nf Ab37.lt g40
 have Z40 := Nat.le_trans Z32 E40.1
 have KP40 := KP32.ext E40
 have sz_b40 := own_gf KP32.1 g40
 have V_b40 := own_AI.new A40 (own_grdn hg39)
 refine own_go st40 ?_
 show own_End p e below s (T40.setTop (mkF m 138 _ [(.ref b40)])) _ _ _
 refine o_dup X40 hx hby at_138 rfl ?_
 refine o_iconst X40 hx hby at_139 (x := 0) rfl ?_
 refine o_iconst X40 hx hby at_140 (x := 0) rfl ?_
 obtain ⟨L41', hs41, H⟩ := own_bnd H
 refine o_stI X40 hx hZ e40 V_b40 hs41 N32 g_b40 hby at_141 fun T42 h42 ls42 X42 e42 W42 V_b40_42 N42 => ?_
 have Z42 := Nat.le_trans Z40 (Keep.of_wr W42).1
 have KP42 := KP40.wr W42 (Or.inr sz_b40)
 refine o_dup X42 hx hby at_142 rfl ?_
 refine o_iconst X42 hx hby at_143 (x := 1) rfl ?_
 refine o_iconst X42 hx hby at_144 (x := 3) rfl ?_
 obtain ⟨L43', hs43, H⟩ := own_bnd H
 refine o_stI X42 hx hZ e42 V_b40_42 hs43 N42 g_b40 hby at_145 fun T44 h44 ls44 X44 e44 W44 V_b40_44 N44 => ?_
 have Z44 := Nat.le_trans Z42 (Keep.of_wr W44).1
 have KP44 := KP42.wr W44 (Or.inr sz_b40)
 refine o_dup X44 hx hby at_146 rfl ?_
 refine o_iconst X44 hx hby at_147 (x := 2) rfl ?_
 refine o_bipush X44 hx hby at_148 (x := 6) rfl ?_
 obtain ⟨L45', hs45, H⟩ := own_bnd H
 refine o_stI X44 hx hZ e44 V_b40_44 hs45 N44 g_b40 hby at_150 fun T46 h46 ls46 X46 e46 W46 V_b40_46 N46 => ?_
 have Z46 := Nat.le_trans Z44 (Keep.of_wr W46).1
 have KP46 := KP44.wr W46 (Or.inr sz_b40)
 refine o_astore X46 hx hby at_151 (l' := #[wI p0, wI p1, wI p2, wI p3, wR b1, wR b29, wI la34, wI la35, wI la36, wR b40, wU, wU, wU, wU, wU, wU, wU, wU, wU, wU, wU, wU, wU, wU]) rfl ?_
 refine o_iconst X46 hx hby at_153 (x := 3) rfl ?_
 obtain ⟨_, hg47, H⟩ := own_bnd H
 obtain ⟨T48, h48, k48, X48, e48, E48, A48, st48⟩ := newP X46 hx hZ (hW 34 rfl) e46 (g := (mkF m 154 #[wI p0, wI p1, wI p2, wI p3, wR b1, wR b29, wI la34, wI la35, wI la36, wR b40, wU, wU, wU, wU, wU, wU, wU, wU, wU, wU, wU, wU, wU, wU] [(.int 3)])) rfl (hb hby at_154) rfl (own_grdn hg47) (cap := 3) (own_grdc hg47) (by decide) (by decide) (by decide)
 obtain ⟨b48, g48⟩ : ∃ z, z = h46.size := ⟨_, rfl⟩
 rw [← g48] at A48 st48
 have g_b48 := own_gf Z46 g48
 have U49 := ((((Ac37.ext E40).other W42 ne_b1_b40).other W44 ne_b1_b40).other W46 ne_b1_b40)
 have ne_b1_b48 := own_nf U49.lt g48
 have U50 := ((((E33.ext E40).wr W42).wr W44).wr W46)
 have ne_b29_b48 := own_nf U50.lt g48
 have U51 := ((((Ab37.ext E40).other W42 ne_sb32_b40).other W44 ne_sb32_b40).other W46 ne_sb32_b40)
 have ne_sb32_b48 := own_nf U51.lt g48
 have U52 := (((Ex40.wr W42).wr W44).wr W46)
 have ne_b40_b48 := own_nf U52.lt g48
 have Z48 := Nat.le_trans Z46 E48.1
 have KP48 := KP46.ext E48
 have sz_b48 := own_gf KP46.1 g48
 have V_b48 := own_AI.new A48 (own_grdn hg47)
 refine own_go st48 ?_
 show own_End p e below s (T48.setTop (mkF m 156 _ [(.ref b48)])) _ _ _
 refine o_dup X48 hx hby at_156 rfl ?_
 refine o_iconst X48 hx hby at_157 (x := 0) rfl ?_
 refine o_iload X48 hx hby at_158 rfl ?_
 obtain ⟨L53', hs53, H⟩ := own_bnd H
 refine o_stI X48 hx hZ e48 V_b48 hs53 N46 g_b48 hby at_160 fun T54 h54 ls54 X54 e54 W54 V_b48_54 N54 => ?_
 have Z54 := Nat.le_trans Z48 (Keep.of_wr W54).1
 have KP54 := KP48.wr W54 (Or.inr sz_b48)
 refine o_dup X54 hx hby at_161 rfl ?_
 refine o_iconst X54 hx hby at_162 (x := 1) rfl ?_
 refine o_iconst X54 hx hby at_163 (x := 3) rfl ?_
 refine o_iload X54 hx hby at_164 rfl ?_
 refine o_iadd X54 hx hby at_166 ?_
 obtain ⟨L55', hs55, H⟩ := own_bnd H
 refine o_stI X54 hx hZ e54 V_b48_54 hs55 N54 g_b48 hby at_167 fun T56 h56 ls56 X56 e56 W56 V_b48_56 N56 => ?_
 have Z56 := Nat.le_trans Z54 (Keep.of_wr W56).1
 have KP56 := KP54.wr W56 (Or.inr sz_b48)
 refine o_dup X56 hx hby at_168 rfl ?_
 refine o_iconst X56 hx hby at_169 (x := 2) rfl ?_
 refine o_bipush X56 hx hby at_170 (x := 6) rfl ?_
 refine o_iload X56 hx hby at_172 rfl ?_
 refine o_iadd X56 hx hby at_174 ?_
 obtain ⟨L57', hs57, H⟩ := own_bnd H
 refine o_stI X56 hx hZ e56 V_b48_56 hs57 N56 g_b48 hby at_175 fun T58 h58 ls58 X58 e58 W58 V_b48_58 N58 => ?_
 have Z58 := Nat.le_trans Z56 (Keep.of_wr W58).1
 have KP58 := KP56.wr W58 (Or.inr sz_b48)
 refine o_astore X58 hx hby at_176 (l' := #[wI p0, wI p1, wI p2, wI p3, wR b1, wR b29, wI la34, wI la35, wI la36, wR b40, wR b48, wU, wU, wU, wU, wU, wU, wU, wU, wU, wU, wU, wU, wU]) rfl ?_
 refine o_iconst X58 hx hby at_178 (x := 3) rfl ?_
 obtain ⟨T59, h59, k59, X59, e59, E59, A59, st59⟩ := newP X58 hx hZ (hW 0 rfl) e58 (g := (mkF m 179 #[wI p0, wI p1, wI p2, wI p3, wR b1, wR b29, wI la34, wI la35, wI la36, wR b40, wR b48, wU, wU, wU, wU, wU, wU, wU, wU, wU, wU, wU, wU, wU] [(.int 3)])) rfl (hb hby at_179) rfl (by decide) (cap := 3) (by decide) (by decide) (by decide) (by decide)
 obtain ⟨b59, g59⟩ : ∃ z, z = h58.size := ⟨_, rfl⟩
 rw [← g59] at A59 st59
 have g_b59 := own_gf Z58 g59
 have U60 := ((((U49.ext E48).other W54 ne_b1_b48).other W56 ne_b1_b48).other W58 ne_b1_b48)
 have ne_b1_b59 := own_nf U60.lt g59
 have U61 := ((((U50.ext E48).wr W54).wr W56).wr W58)
 have ne_b29_b59 := own_nf U61.lt g59
 have U62 := ((((U51.ext E48).other W54 ne_sb32_b48).other W56 ne_sb32_b48).other W58 ne_sb32_b48)
 have ne_sb32_b59 := own_nf U62.lt g59
 have U63 := ((((U52.ext E48).wr W54).wr W56).wr W58)
 have ne_b40_b59 := own_nf U63.lt g59
 have ne_b48_b59 := own_nf V_b48_58.lt g59
 have Z59 := Nat.le_trans Z58 E59.1
 have KP59 := KP58.ext E59
 have sz_b59 := own_gf KP58.1 g59
 have V_b59 : Arv Z h59 b59 k59 .char (3 : Int32) [(.int 0), (.int 0), (.int 0)] (.int 0) := (Arv.new A59 (by decide)).pad (pad_rep [] (.int 0) 3)
 refine own_go st59 ?_
 show own_End p e below s (T59.setTop (mkF m 181 _ [(.ref b59)])) _ _ _
 refine o_astore X59 hx hby at_181 (l' := #[wI p0, wI p1, wI p2, wI p3, wR b1, wR b29, wI la34, wI la35, wI la36, wR b40, wR b48, wR b59, wU, wU, wU, wU, wU, wU, wU, wU, wU, wU, wU, wU]) rfl ?_
 refine o_aload X59 hx hby at_183 rfl ?_
 refine o_iconst X59 hx hby at_185 (x := 0) rfl ?_
 refine o_iloadN X59 hx hby at_186 rfl ?_
 refine o_iconst X59 hx hby at_187 (x := 2) rfl ?_
 obtain ⟨o64, ho64, H⟩ := own_bnd H
 refine o_cS X59 hx hZ hown (y := wy1) (hW 1 rfl) (hW 2 rfl) (hW 3 rfl) (hW 4 rfl) (by decide) (backOf (W := 2) (rmLet l Z a0 hw [] p3 (2 : Int32) o64 h59 n0 Z59 ho64) hZ (hW 4 rfl) (hW 3 rfl) (by decide) (by decide)) (by rw [hml]; rfl) (argsL := [(.int p3), (.int 2)]) (rest := [(.int 0), (.ref b59)]) (lenOf own_pd21 rfl) rfl rfl (Nat.le_of_eq rfl) e59 (by decide) (by decide) hby at_188 N58 fun T65 v65 Lc65 ls65 X65 hQ65 nq65 => ?_
 obtain ⟨⟨rfl, P0_65⟩, N65q, e65⟩ := hQ65
 have N65 := nq65 N65q
 show own_End p e below s (T65.setTop (mkF m 191 _ [(.int o64), (.int 0), (.ref b59)])) _ _ _
 refine o_stC X65 hx hZ e65 V_b59 ⟨by decide, by decide⟩ (i := 0) rfl (Nat.le_of_ble_eq_true rfl) N65 g_b59 hby at_191 fun T66 h66 ls66 X66 e66 W66 V_b59_66 N66 => ?_
 replace V_b59_66 : Arv Z h66 b59 k59 .char (3 : Int32) [(.int (o64.toUInt32.toUInt16.toUInt32.toInt32)), (.int 0), (.int 0)] (.int 0) := V_b59_66
 have Z66 := Nat.le_trans Z59 (Keep.of_wr W66).1
 have KP66 := KP59.wr W66 (Or.inr sz_b59)
 rw [own_nC P0_65] at V_b59_66
 refine o_aload X66 hx hby at_192 rfl ?_
 refine o_iconst X66 hx hby at_194 (x := 1) rfl ?_
 refine o_iloadN X66 hx hby at_195 rfl ?_
 refine o_iconst X66 hx hby at_196 (x := 3) rfl ?_
 obtain ⟨o67, ho67, H⟩ := own_bnd H
 refine o_cS X66 hx hZ hown (y := wy1) (hW 1 rfl) (hW 2 rfl) (hW 3 rfl) (hW 4 rfl) (by decide) (backOf (W := 2) (rmLet l Z a0 hw [] p3 (3 : Int32) o67 h66 n0 Z66 ho67) hZ (hW 4 rfl) (hW 3 rfl) (by decide) (by decide)) (by rw [hml]; rfl) (argsL := [(.int p3), (.int 3)]) (rest := [(.int 1), (.ref b59)]) (lenOf own_pd21 rfl) rfl rfl (Nat.le_of_eq rfl) e66 (by decide) (by decide) hby at_197 N66 fun T68 v68 Lc68 ls68 X68 hQ68 nq68 => ?_
 obtain ⟨⟨rfl, P0_68⟩, N68q, e68⟩ := hQ68
 have N68 := nq68 N68q
 show own_End p e below s (T68.setTop (mkF m 200 _ [(.int o67), (.int 1), (.ref b59)])) _ _ _
 refine o_stC X68 hx hZ e68 V_b59_66 ⟨by decide, by decide⟩ (i := 1) rfl (Nat.le_of_ble_eq_true rfl) N68 g_b59 hby at_200 fun T69 h69 ls69 X69 e69 W69 V_b59_69 N69 => ?_
 replace V_b59_69 : Arv Z h69 b59 k59 .char (3 : Int32) [(.int o64), (.int (o67.toUInt32.toUInt16.toUInt32.toInt32)), (.int 0)] (.int 0) := V_b59_69
 have Z69 := Nat.le_trans Z66 (Keep.of_wr W69).1
 have KP69 := KP66.wr W69 (Or.inr sz_b59)
 rw [own_nC P0_68] at V_b59_69
 refine o_aload X69 hx hby at_201 rfl ?_
 refine o_iconst X69 hx hby at_203 (x := 2) rfl ?_
 refine o_iloadN X69 hx hby at_204 rfl ?_
 refine o_iconst X69 hx hby at_205 (x := 4) rfl ?_
 obtain ⟨o70, ho70, H⟩ := own_bnd H
 refine o_cS X69 hx hZ hown (y := wy1) (hW 1 rfl) (hW 2 rfl) (hW 3 rfl) (hW 4 rfl) (by decide) (backOf (W := 2) (rmLet l Z a0 hw [] p3 (4 : Int32) o70 h69 n0 Z69 ho70) hZ (hW 4 rfl) (hW 3 rfl) (by decide) (by decide)) (by rw [hml]; rfl) (argsL := [(.int p3), (.int 4)]) (rest := [(.int 2), (.ref b59)]) (lenOf own_pd21 rfl) rfl rfl (Nat.le_of_eq rfl) e69 (by decide) (by decide) hby at_206 N69 fun T71 v71 Lc71 ls71 X71 hQ71 nq71 => ?_
 obtain ⟨⟨rfl, P0_71⟩, N71q, e71⟩ := hQ71
 have N71 := nq71 N71q
 show own_End p e below s (T71.setTop (mkF m 209 _ [(.int o70), (.int 2), (.ref b59)])) _ _ _
 refine o_stC X71 hx hZ e71 V_b59_69 ⟨by decide, by decide⟩ (i := 2) rfl (Nat.le_of_ble_eq_true rfl) N71 g_b59 hby at_209 fun T72 h72 ls72 X72 e72 W72 V_b59_72 N72 => ?_
 replace V_b59_72 : Arv Z h72 b59 k59 .char (3 : Int32) [(.int o64), (.int o67), (.int (o70.toUInt32.toUInt16.toUInt32.toInt32))] (.int 0) := V_b59_72
 have Z72 := Nat.le_trans Z69 (Keep.of_wr W72).1
 have KP72 := KP69.wr W72 (Or.inr sz_b59)
 rw [own_nC P0_71] at V_b59_72
 obtain ⟨T73, h73, X73, e73, E73, A73, D73, -, st73⟩ := newO X72 hx hZ hown (hW 5 rfl) (hW 6 rfl) (hW 7 rfl) e72 (g := (mkF m 210 #[wI p0, wI p1, wI p2, wI p3, wR b1, wR b29, wI la34, wI la35, wI la36, wR b40, wR b48, wR b59, wU, wU, wU, wU, wU, wU, wU, wU, wU, wU, wU, wU] [])) rfl (hb hby at_210) (by decide) (by decide)
 obtain ⟨b73, g73⟩ : ∃ z, z = h72.size := ⟨_, rfl⟩
 rw [← g73] at A73 D73 st73
 have g_b73 := own_gf Z72 g73
 have U74 := ((((U60.ext E59).other W66 ne_b1_b59).other W69 ne_b1_b59).other W72 ne_b1_b59)
 have ne_b1_b73 := own_nf U74.lt g73
 have U75 := ((((U61.ext E59).wr W66).wr W69).wr W72)
 have ne_b29_b73 := own_nf U75.lt g73
 have U76 := ((((U62.ext E59).other W66 ne_sb32_b59).other W69 ne_sb32_b59).other W72 ne_sb32_b59)
 have ne_sb32_b73 := own_nf U76.lt g73
 have U77 := ((((U63.ext E59).wr W66).wr W69).wr W72)
 have ne_b40_b73 := own_nf U77.lt g73
 have U78 := ((((V_b48_58.ext E59).other W66 ne_b48_b59).other W69 ne_b48_b59).other W72 ne_b48_b59)
 have ne_b48_b73 := own_nf U78.lt g73
 have ne_b59_b73 := own_nf V_b59_72.lt g73
 have Z73 := Nat.le_trans Z72 E73.1
 have KP73 := KP72.ext E73
 have sz_b73 := own_gf KP72.1 g73
 have F_coder_b73 : Fld Z h73 b73 "java/lang/String" "coder" "B" (.int 0) := D73 (Or.inr (hW 31 rfl)) (ty := .byte) (by decide)
 have F_value_b73 : Fld Z h73 b73 "java/lang/String" "value" "[B" .null := D73 (Or.inr (hW 33 rfl)) (ty := (.array .byte)) (by decide)
 refine own_go st73 ?_
 show own_End p e below s (T73.setTop (mkF m 213 _ [(.ref b73)])) _ _ _
 refine o_dup X73 hx hby at_213 rfl ?_
 refine o_aload X73 hx hby at_214 rfl ?_
 have U79 := (U74.ext E73)
 have U80 := (U75.ext E73)
 have U81 := (((((((((((((Fv33.ext E40).other W42 (Or.inl ne_b29_b40)).other W44 (Or.inl ne_b29_b40)).other W46 (Or.inl ne_b29_b40)).ext E48).other W54 (Or.inl ne_b29_b48)).other W56 (Or.inl ne_b29_b48)).other W58 (Or.inl ne_b29_b48)).ext E59).other W66 (Or.inl ne_b29_b59)).other W69 (Or.inl ne_b29_b59)).other W72 (Or.inl ne_b29_b59)).ext E73)
 have U82 := (((((((((((((Fc33.ext E40).other W42 (Or.inl ne_b29_b40)).other W44 (Or.inl ne_b29_b40)).other W46 (Or.inl ne_b29_b40)).ext E48).other W54 (Or.inl ne_b29_b48)).other W56 (Or.inl ne_b29_b48)).other W58 (Or.inl ne_b29_b48)).ext E59).other W66 (Or.inl ne_b29_b59)).other W69 (Or.inl ne_b29_b59)).other W72 (Or.inl ne_b29_b59)).ext E73)
 have U83 := (U76.ext E73)
 have U84 := (U77.ext E73)
 have U85 := (((((((((V_b40_46.ext E48).other W54 ne_b40_b48).other W56 ne_b40_b48).other W58 ne_b40_b48).ext E59).other W66 ne_b40_b59).other W69 ne_b40_b59).other W72 ne_b40_b59).ext E73)
 have U86 := (U78.ext E73)
 have U87 := (V_b59_72.ext E73)
 have U88 := ((((((((((((((U31.keep K32 (allS g_b29 all0)).ext E40).wr W42 g_b40).wr W44 g_b40).wr W46 g_b40).ext E48).wr W54 g_b48).wr W56 g_b48).wr W58 g_b48).ext E59).wr W66 g_b59).wr W69 g_b59).wr W72 g_b59).ext E73)
 refine o_cI X73 hx hZ hown (y := wy2) rfl (hW 8 rfl) (hW 9 rfl) (hW 10 rfl) (by decide) (backOf (W := 1) (rmC3 l Z a0 hw [] b73 b59 k59 cz o64 o67 o70 h73 n0 Z73 g_b73 A73 F_value_b73 F_coder_b73 (Ne.symm ne_b59_b73) U87 U88 S_C hcz (own_n255 P0_65) (own_n255 P0_68) (own_n255 P0_71)) hZ (hW 10 rfl) (hW 7 rfl) (by decide) (by decide)) (by rw [hml]; rfl) (argsL := [(.ref b59)]) (rest := [(.ref b73)]) (lenOf own_pd22 rfl) rfl rfl (Nat.le_of_eq rfl) e73 (by decide) (by decide) hby at_216 N72 fun T89 v89 Lc89 ls89 X89 hQ89 nq89 => ?_
 obtain ⟨⟨sb89, sk89, zb89, Ss89⟩, N89q, K89, rfl⟩ := hQ89
 have N89 := nq89 N89q
 have Z89 := Nat.le_trans Z73 K89.1
 show own_End p e below s (T89.setTop (mkF m 219 _ [(.ref b73)])) _ _ _
 have g_sb89 : n0 ≤ sb89 := Nat.le_trans Z73 zb89
 have sz_sb89 : h0.size ≤ sb89 := Nat.le_trans KP73.1 zb89
 have ne_b1_sb89 := own_nb U79.lt zb89
 have ne_b29_sb89 := own_nb U80.lt zb89
 have ne_sb32_sb89 := own_nb U83.lt zb89
 have ne_b40_sb89 := own_nb U84.lt zb89
 have ne_b48_sb89 := own_nb U86.lt zb89
 have ne_b59_sb89 := own_nb U87.lt zb89
 have ne_b73_sb89 := own_nb A73.lt zb89
 have KP89 := KP73.trans K89 (allS (Or.inr sz_b73) all0)
 obtain ⟨E90, Fv90, Fc90, Vb90⟩ := id Ss89
 rw [own_nB P0_65, own_nB P0_68, own_nB P0_71] at Vb90
 refine o_astore X89 hx hby at_219 (l' := #[wI p0, wI p1, wI p2, wI p3, wR b1, wR b29, wI la34, wI la35, wI la36, wR b40, wR b48, wR b59, wR b73, wU, wU, wU, wU, wU, wU, wU, wU, wU, wU, wU]) rfl ?_
 refine o_iloadN X89 hx hby at_221 rfl ?_
 refine o_iconst X89 hx hby at_222 (x := 3) rfl ?_
 refine o_iand X89 hx hby at_223 ?_
 refine o_istore X89 hx hby at_224 (l' := #[wI p0, wI p1, wI p2, wI p3, wR b1, wR b29, wI la34, wI la35, wI la36, wR b40, wR b48, wR b59, wR b73, wI (p3 &&& (3 : Int32)), wU, wU, wU, wU, wU, wU, wU, wU, wU, wU]) rfl ?_
 show own_End p e below s (T89.setTop (mkF m 226 _ [])) _ _ _
 obtain ⟨nn91, hnn91, H⟩ := own_bnd H
 replace hnn91 := Option.some.inj hnn91
 rw [hnn91]
 show own_End p e below s (T89.setTop (mkF m 226 _ [])) _ _ _
 have Ab92 : own_AB Z T89.heap sb89 sk89 (3 : Int32) (own_B3 nn91 o64 o67 o70) := own_ABof (U := [o64, o67, o70]) Vb90 rfl (own_s3 nn91 o64 o67 o70) (own_all3 P0_65 P0_68 P0_71)
 have U93 := (U87.keep K89 (ninS ne_b59_b73 nin0))
 have Ac92 : own_AC Z T89.heap b59 k59 (3 : Int32) [o64, o67, o70] := ⟨U93, rfl⟩
 obtain ⟨IV94, hIV94⟩ : ∃ I : Heap → Prop, ∀ (hh : Heap) , I hh  ↔ (Old Z n0 hh ∧ own_AC Z hh b1 k1 (9 : Int32) ([o2, o5, o8, o11, o14, o17, o20, o23, o26]) ∧ Exa Z hh b29 "java/lang/String" ∧ Fld Z hh b29 "java/lang/String" "value" "[B" (.ref sb32) ∧ Fld Z hh b29 "java/lang/String" "coder" "B" (.int 0) ∧ own_AB Z hh sb32 sk32 (9 : Int32) (own_B9 la34 la35 la36 o2 o5 o8 o11 o14 o17 o20 o23 o26) ∧ Exa Z hh b40 "[I" ∧ own_AI Z hh b40 k40 (3 : Int32) L45' ∧ own_AI Z hh b48 k48 (3 : Int32) L57' ∧ own_AC Z hh b59 k59 (3 : Int32) ([o64, o67, o70]) ∧ Exa Z hh b73 "java/lang/String" ∧ Fld Z hh b73 "java/lang/String" "value" "[B" (.ref sb89) ∧ Fld Z hh b73 "java/lang/String" "coder" "B" (.int 0) ∧ own_AB Z hh sb89 sk89 (3 : Int32) (own_B3 nn91 o64 o67 o70)) := ⟨_, fun _  => Iff.rfl⟩
 have J0 : ∀ f0 : Nat, (∀ (ga : Int32) (gb : Int32) (gc : Int32) (T95 : State) (h95 : Heap) (ls95 : List Loc) (X95 : Stand p l e room_1 s m #[(.int p0), (.int p1), (.int p2), (.int p3)] below meth c T95 ls95 8 38) (e95 : T95.heap = h95) (N95 : Fr n0 ls95) (Z95 : n0 ≤ h95.size) (KP95 : Keep h0 h95 []) (FF95 : IV94 h95 ) (sl14 sl15 sl16 : Slot) (hsl14 : own_pl sl14) (hsl15 : own_pl sl15) (hsl16 : own_pl sl16), S_rm0_0 p0 p1 p2 p3 o2 o5 o8 o11 o14 o17 o20 o23 o26 la34 la35 la36 L45' L57' o64 o67 o70 nn91 f0 0 ga gb gc = some out → own_End p e below s (T95.setTop (mkF m 226 #[wI p0, wI p1, wI p2, wI p3, wR b1, wR b29, wI la34, wI la35, wI la36, wR b40, wR b48, wR b59, wR b73, wI nn91, sl14, sl15, sl16, wU, wU, wU, wU, wU, wU, wU] [])) (Q_rm0 Z p0 p1 p2 p3 sv out cz h0 n0) room_1.cells room_1.slots) ∧ (∀ (ga : Int32) (gb : Int32) (gc : Int32) (T97 : State) (h97 : Heap) (ls97 : List Loc) (X97 : Stand p l e room_1 s m #[(.int p0), (.int p1), (.int p2), (.int p3)] below meth c T97 ls97 8 38) (e97 : T97.heap = h97) (N97 : Fr n0 ls97) (Z97 : n0 ≤ h97.size) (KP97 : Keep h0 h97 []) (FF97 : IV94 h97 ) (sl15 sl16 : Slot) (hsl15 : own_pl sl15) (hsl16 : own_pl sl16), S_rm0_0 p0 p1 p2 p3 o2 o5 o8 o11 o14 o17 o20 o23 o26 la34 la35 la36 L45' L57' o64 o67 o70 nn91 f0 1 ga gb gc = some out → own_End p e below s (T97.setTop (mkF m 239 #[wI p0, wI p1, wI p2, wI p3, wR b1, wR b29, wI la34, wI la35, wI la36, wR b40, wR b48, wR b59, wR b73, wI nn91, wI ga, sl15, sl16, wU, wU, wU, wU, wU, wU, wU] [])) (Q_rm0 Z p0 p1 p2 p3 sv out cz h0 n0) room_1.cells room_1.slots) ∧ (∀ (ga : Int32) (gb : Int32) (gc : Int32) (T99 : State) (h99 : Heap) (ls99 : List Loc) (X99 : Stand p l e room_1 s m #[(.int p0), (.int p1), (.int p2), (.int p3)] below meth c T99 ls99 8 38) (e99 : T99.heap = h99) (N99 : Fr n0 ls99) (Z99 : n0 ≤ h99.size) (KP99 : Keep h0 h99 []) (FF99 : IV94 h99 ) (sl16 : Slot) (hsl16 : own_pl sl16), S_rm0_0 p0 p1 p2 p3 o2 o5 o8 o11 o14 o17 o20 o23 o26 la34 la35 la36 L45' L57' o64 o67 o70 nn91 f0 2 ga gb gc = some out → own_End p e below s (T99.setTop (mkF m 252 #[wI p0, wI p1, wI p2, wI p3, wR b1, wR b29, wI la34, wI la35, wI la36, wR b40, wR b48, wR b59, wR b73, wI nn91, wI ga, wI gb, sl16, wU, wU, wU, wU, wU, wU, wU] [])) (Q_rm0 Z p0 p1 p2 p3 sv out cz h0 n0) room_1.cells room_1.slots) ∧ (∀ (ga : Int32) (gb : Int32) (gc : Int32) (T101 : State) (h101 : Heap) (ls101 : List Loc) (X101 : Stand p l e room_1 s m #[(.int p0), (.int p1), (.int p2), (.int p3)] below meth c T101 ls101 8 38) (e101 : T101.heap = h101) (N101 : Fr n0 ls101) (Z101 : n0 ≤ h101.size) (KP101 : Keep h0 h101 []) (FF101 : IV94 h101 )  , S_rm0_0 p0 p1 p2 p3 o2 o5 o8 o11 o14 o17 o20 o23 o26 la34 la35 la36 L45' L57' o64 o67 o70 nn91 f0 3 ga gb gc = some out → own_End p e below s (T101.setTop (mkF m 265 #[wI p0, wI p1, wI p2, wI p3, wR b1, wR b29, wI la34, wI la35, wI la36, wR b40, wR b48, wR b59, wR b73, wI nn91, wI ga, wI gb, wI gc, wU, wU, wU, wU, wU, wU, wU] [])) (Q_rm0 Z p0 p1 p2 p3 sv out cz h0 n0) room_1.cells room_1.slots) := by
  intro f0
  induction f0 with
  | zero => refine ⟨?_, ?_, ?_, ?_⟩ <;> (intros; rename_i H; exact nomatch (show (none : Option (Int32)) = some _ from H))
  | succ f0 IH0 =>
   refine ⟨?_, ?_, ?_, ?_⟩
   ·skip
    intro ga gb gc T95 h95 ls95 X95 e95 N95 Z95 KP95 FF95 sl14 sl15 sl16 hsl14 hsl15 hsl16 H
    obtain ⟨Fa95_0, Fa95_1, Fa95_2, Fa95_3, Fa95_4, Fa95_5, Fa95_6, Fa95_7, Fa95_8, Fa95_9, Fa95_10, Fa95_11, Fa95_12, Fa95_13⟩ := (hIV94 _).mp FF95
    replace H := (S_rm0_0_0 _ _ _ _ _ _ _ _ _ _ _ _ _ _ _ _ _ _ _ _ _ _ _ _ _ _).symm.trans H
    show own_End p e below s (T95.setTop (mkF m 226 _ [])) _ _ _
    refine o_iloadN X95 hx hby at_226 rfl ?_
    refine o_iconst X95 hx hby at_227 (x := 1) rfl ?_
    refine o_iand X95 hx hby at_228 ?_
    by_cases c229_96 : (p2 &&& (1 : Int32)).toInt = 0
    ·skip
     replace H := own_ifp c229_96 H
     refine o_ifYes X95 hx (pc0 := 229) (pc' := 236) rfl hby at_229 ((if0 _ _).trans (own_eq (x := (p2 &&& (1 : Int32))) (y := 0) (i := (p2 &&& (1 : Int32)).toInt) (j := 0) rfl rfl c229_96).1) (by decide) (by decide) ?_
     refine o_iconst X95 hx hby at_236 (x := 0) rfl ?_
     refine o_istore X95 hx hby at_237 (l' := #[wI p0, wI p1, wI p2, wI p3, wR b1, wR b29, wI la34, wI la35, wI la36, wR b40, wR b48, wR b59, wR b73, wI nn91, wI 0, sl15, sl16, wU, wU, wU, wU, wU, wU, wU]) (by rcases hsl14 with rfl | ⟨_, rfl⟩ <;> rfl) ?_
     exact IH0.2.1 (0 : Int32) 0 0 T95 h95 _ X95 e95 N95 Z95 KP95 ((hIV94 _).mpr ⟨Fa95_0, Fa95_1, Fa95_2, Fa95_3, Fa95_4, Fa95_5, Fa95_6, Fa95_7, Fa95_8, Fa95_9, Fa95_10, Fa95_11, Fa95_12, Fa95_13⟩) (sl15) (sl16) hsl15 hsl16 H
    ·skip
     replace H := own_ifn c229_96 H
     refine o_ifNo X95 hx hby at_229 ((if0 _ _).trans (own_ne (x := (p2 &&& (1 : Int32))) (y := 0) (i := (p2 &&& (1 : Int32)).toInt) (j := 0) rfl rfl c229_96).1) ?_
     refine o_iconst X95 hx hby at_232 (x := 1) rfl ?_
     refine o_goto X95 hx (pc0 := 233) (pc' := 237) rfl hby at_233 (by decide) (by decide) ?_
     refine o_istore X95 hx hby at_237 (l' := #[wI p0, wI p1, wI p2, wI p3, wR b1, wR b29, wI la34, wI la35, wI la36, wR b40, wR b48, wR b59, wR b73, wI nn91, wI 1, sl15, sl16, wU, wU, wU, wU, wU, wU, wU]) (by rcases hsl14 with rfl | ⟨_, rfl⟩ <;> rfl) ?_
     exact IH0.2.1 (1 : Int32) 0 0 T95 h95 _ X95 e95 N95 Z95 KP95 ((hIV94 _).mpr ⟨Fa95_0, Fa95_1, Fa95_2, Fa95_3, Fa95_4, Fa95_5, Fa95_6, Fa95_7, Fa95_8, Fa95_9, Fa95_10, Fa95_11, Fa95_12, Fa95_13⟩) (sl15) (sl16) hsl15 hsl16 H
   ·skip
    intro ga gb gc T97 h97 ls97 X97 e97 N97 Z97 KP97 FF97 sl15 sl16 hsl15 hsl16 H
    obtain ⟨Fa97_0, Fa97_1, Fa97_2, Fa97_3, Fa97_4, Fa97_5, Fa97_6, Fa97_7, Fa97_8, Fa97_9, Fa97_10, Fa97_11, Fa97_12, Fa97_13⟩ := (hIV94 _).mp FF97
    replace H := (S_rm0_0_1 _ _ _ _ _ _ _ _ _ _ _ _ _ _ _ _ _ _ _ _ _ _ _ _ _ _).symm.trans H
    show own_End p e below s (T97.setTop (mkF m 239 _ [])) _ _ _
    refine o_iloadN X97 hx hby at_239 rfl ?_
    refine o_iconst X97 hx hby at_240 (x := 2) rfl ?_
    refine o_iand X97 hx hby at_241 ?_
    by_cases c242_98 : (p2 &&& (2 : Int32)).toInt = 0
    ·skip
     replace H := own_ifp c242_98 H
     refine o_ifYes X97 hx (pc0 := 242) (pc' := 249) rfl hby at_242 ((if0 _ _).trans (own_eq (x := (p2 &&& (2 : Int32))) (y := 0) (i := (p2 &&& (2 : Int32)).toInt) (j := 0) rfl rfl c242_98).1) (by decide) (by decide) ?_
     refine o_iconst X97 hx hby at_249 (x := 0) rfl ?_
     refine o_istore X97 hx hby at_250 (l' := #[wI p0, wI p1, wI p2, wI p3, wR b1, wR b29, wI la34, wI la35, wI la36, wR b40, wR b48, wR b59, wR b73, wI nn91, wI ga, wI 0, sl16, wU, wU, wU, wU, wU, wU, wU]) (by rcases hsl15 with rfl | ⟨_, rfl⟩ <;> rfl) ?_
     exact IH0.2.2.1 ga (0 : Int32) 0 T97 h97 _ X97 e97 N97 Z97 KP97 ((hIV94 _).mpr ⟨Fa97_0, Fa97_1, Fa97_2, Fa97_3, Fa97_4, Fa97_5, Fa97_6, Fa97_7, Fa97_8, Fa97_9, Fa97_10, Fa97_11, Fa97_12, Fa97_13⟩) (sl16) hsl16 H
    ·skip
     replace H := own_ifn c242_98 H
     refine o_ifNo X97 hx hby at_242 ((if0 _ _).trans (own_ne (x := (p2 &&& (2 : Int32))) (y := 0) (i := (p2 &&& (2 : Int32)).toInt) (j := 0) rfl rfl c242_98).1) ?_
     refine o_iconst X97 hx hby at_245 (x := 1) rfl ?_
     refine o_goto X97 hx (pc0 := 246) (pc' := 250) rfl hby at_246 (by decide) (by decide) ?_
     refine o_istore X97 hx hby at_250 (l' := #[wI p0, wI p1, wI p2, wI p3, wR b1, wR b29, wI la34, wI la35, wI la36, wR b40, wR b48, wR b59, wR b73, wI nn91, wI ga, wI 1, sl16, wU, wU, wU, wU, wU, wU, wU]) (by rcases hsl15 with rfl | ⟨_, rfl⟩ <;> rfl) ?_
     exact IH0.2.2.1 ga (1 : Int32) 0 T97 h97 _ X97 e97 N97 Z97 KP97 ((hIV94 _).mpr ⟨Fa97_0, Fa97_1, Fa97_2, Fa97_3, Fa97_4, Fa97_5, Fa97_6, Fa97_7, Fa97_8, Fa97_9, Fa97_10, Fa97_11, Fa97_12, Fa97_13⟩) (sl16) hsl16 H
   ·skip
    intro ga gb gc T99 h99 ls99 X99 e99 N99 Z99 KP99 FF99 sl16 hsl16 H
    obtain ⟨Fa99_0, Fa99_1, Fa99_2, Fa99_3, Fa99_4, Fa99_5, Fa99_6, Fa99_7, Fa99_8, Fa99_9, Fa99_10, Fa99_11, Fa99_12, Fa99_13⟩ := (hIV94 _).mp FF99
    replace H := (S_rm0_0_2 _ _ _ _ _ _ _ _ _ _ _ _ _ _ _ _ _ _ _ _ _ _ _ _ _ _).symm.trans H
    show own_End p e below s (T99.setTop (mkF m 252 _ [])) _ _ _
    refine o_iloadN X99 hx hby at_252 rfl ?_
    refine o_iconst X99 hx hby at_253 (x := 4) rfl ?_
    refine o_iand X99 hx hby at_254 ?_
    by_cases c255_100 : (p2 &&& (4 : Int32)).toInt = 0
    ·skip
     replace H := own_ifp c255_100 H
     refine o_ifYes X99 hx (pc0 := 255) (pc' := 262) rfl hby at_255 ((if0 _ _).trans (own_eq (x := (p2 &&& (4 : Int32))) (y := 0) (i := (p2 &&& (4 : Int32)).toInt) (j := 0) rfl rfl c255_100).1) (by decide) (by decide) ?_
     refine o_iconst X99 hx hby at_262 (x := 0) rfl ?_
     refine o_istore X99 hx hby at_263 (l' := #[wI p0, wI p1, wI p2, wI p3, wR b1, wR b29, wI la34, wI la35, wI la36, wR b40, wR b48, wR b59, wR b73, wI nn91, wI ga, wI gb, wI 0, wU, wU, wU, wU, wU, wU, wU]) (by rcases hsl16 with rfl | ⟨_, rfl⟩ <;> rfl) ?_
     exact IH0.2.2.2 ga gb (0 : Int32) T99 h99 _ X99 e99 N99 Z99 KP99 ((hIV94 _).mpr ⟨Fa99_0, Fa99_1, Fa99_2, Fa99_3, Fa99_4, Fa99_5, Fa99_6, Fa99_7, Fa99_8, Fa99_9, Fa99_10, Fa99_11, Fa99_12, Fa99_13⟩)   H
    ·skip
     replace H := own_ifn c255_100 H
     refine o_ifNo X99 hx hby at_255 ((if0 _ _).trans (own_ne (x := (p2 &&& (4 : Int32))) (y := 0) (i := (p2 &&& (4 : Int32)).toInt) (j := 0) rfl rfl c255_100).1) ?_
     refine o_iconst X99 hx hby at_258 (x := 1) rfl ?_
     refine o_goto X99 hx (pc0 := 259) (pc' := 263) rfl hby at_259 (by decide) (by decide) ?_
     refine o_istore X99 hx hby at_263 (l' := #[wI p0, wI p1, wI p2, wI p3, wR b1, wR b29, wI la34, wI la35, wI la36, wR b40, wR b48, wR b59, wR b73, wI nn91, wI ga, wI gb, wI 1, wU, wU, wU, wU, wU, wU, wU]) (by rcases hsl16 with rfl | ⟨_, rfl⟩ <;> rfl) ?_
     exact IH0.2.2.2 ga gb (1 : Int32) T99 h99 _ X99 e99 N99 Z99 KP99 ((hIV94 _).mpr ⟨Fa99_0, Fa99_1, Fa99_2, Fa99_3, Fa99_4, Fa99_5, Fa99_6, Fa99_7, Fa99_8, Fa99_9, Fa99_10, Fa99_11, Fa99_12, Fa99_13⟩)   H
   ·skip
    intro ga gb gc T101 h101 ls101 X101 e101 N101 Z101 KP101 FF101   H
    obtain ⟨Fa101_0, Fa101_1, Fa101_2, Fa101_3, Fa101_4, Fa101_5, Fa101_6, Fa101_7, Fa101_8, Fa101_9, Fa101_10, Fa101_11, Fa101_12, Fa101_13⟩ := (hIV94 _).mp FF101
    replace H := (S_rm0_0_3 _ _ _ _ _ _ _ _ _ _ _ _ _ _ _ _ _ _ _ _ _ _ _ _ _ _).symm.trans H
    show own_End p e below s (T101.setTop (mkF m 265 _ [])) _ _ _
    obtain ⟨T102, h102, X102, e102, E102, A102, D102, -, st102⟩ := newO X101 hx hZ hown (hW 35 rfl) (hW 36 rfl) (hW 37 rfl) e101 (g := (mkF m 265 #[wI p0, wI p1, wI p2, wI p3, wR b1, wR b29, wI la34, wI la35, wI la36, wR b40, wR b48, wR b59, wR b73, wI nn91, wI ga, wI gb, wI gc, wU, wU, wU, wU, wU, wU, wU] [])) rfl (hb hby at_265) (by decide) (by decide)
    obtain ⟨b102, g102⟩ : ∃ z, z = h101.size := ⟨_, rfl⟩
    rw [← g102] at A102 D102 st102
    have g_b102 := own_gf Z101 g102
    have ne_b1_b102 := own_nf Fa101_1.lt g102
    have ne_b29_b102 := own_nf Fa101_2.lt g102
    have ne_sb32_b102 := own_nf Fa101_5.lt g102
    have ne_b40_b102 := own_nf Fa101_6.lt g102
    have ne_b48_b102 := own_nf Fa101_8.lt g102
    have ne_b59_b102 := own_nf Fa101_9.lt g102
    have ne_b73_b102 := own_nf Fa101_10.lt g102
    have ne_sb89_b102 := own_nf Fa101_13.lt g102
    have Z102 := Nat.le_trans Z101 E102.1
    have KP102 := KP101.ext E102
    have sz_b102 := own_gf KP101.1 g102
    have F_edgeKeys_b102 : Fld Z h102 b102 "com/example/portero/portero/matching/SegmentAutomaton" "edgeKeys" "[J" .null := D102 (Or.inr (hW 49 rfl)) (ty := (.array .long)) (by decide)
    have F_edgeTargets_b102 : Fld Z h102 b102 "com/example/portero/portero/matching/SegmentAutomaton" "edgeTargets" "[I" .null := D102 (Or.inr (hW 56 rfl)) (ty := (.array .int)) (by decide)
    have F_slotShift_b102 : Fld Z h102 b102 "com/example/portero/portero/matching/SegmentAutomaton" "slotShift" "I" (.int 0) := D102 (Or.inr (hW 58 rfl)) (ty := .int) (by decide)
    have F_failures_b102 : Fld Z h102 b102 "com/example/portero/portero/matching/SegmentAutomaton" "failures" "[I" .null := D102 (Or.inr (hW 60 rfl)) (ty := (.array .int)) (by decide)
    have F_suffixes_b102 : Fld Z h102 b102 "com/example/portero/portero/matching/SegmentAutomaton" "suffixes" "[I" .null := D102 (Or.inr (hW 62 rfl)) (ty := (.array .int)) (by decide)
    have F_words_b102 : Fld Z h102 b102 "com/example/portero/portero/matching/SegmentAutomaton" "words" "[I" .null := D102 (Or.inr (hW 64 rfl)) (ty := (.array .int)) (by decide)
    have F_places_b102 : Fld Z h102 b102 "com/example/portero/portero/matching/SegmentAutomaton" "places" "[I" .null := D102 (Or.inr (hW 140 rfl)) (ty := (.array .int)) (by decide)
    have F_lastPlaces_b102 : Fld Z h102 b102 "com/example/portero/portero/matching/SegmentAutomaton" "lastPlaces" "[I" .null := D102 (Or.inr (hW 142 rfl)) (ty := (.array .int)) (by decide)
    have F_wordsAt_b102 : Fld Z h102 b102 "com/example/portero/portero/matching/SegmentAutomaton" "wordsAt" "[I" .null := D102 (Or.inr (hW 144 rfl)) (ty := (.array .int)) (by decide)
    have F_firstLeaf_b102 : Fld Z h102 b102 "com/example/portero/portero/matching/SegmentAutomaton" "firstLeaf" "I" (.int 0) := D102 (Or.inr (hW 162 rfl)) (ty := .int) (by decide)
    have F_marks_b102 : Fld Z h102 b102 "com/example/portero/portero/matching/SegmentAutomaton" "marks" "[I" .null := D102 (Or.inr (hW 164 rfl)) (ty := (.array .int)) (by decide)
    refine own_go st102 ?_
    show own_End p e below s (T102.setTop (mkF m 268 _ [(.ref b102)])) _ _ _
    refine o_dup X102 hx hby at_268 rfl ?_
    refine o_aload X102 hx hby at_269 rfl ?_
    refine o_aload X102 hx hby at_271 rfl ?_
    refine o_aload X102 hx hby at_273 rfl ?_
    refine o_iconst X102 hx hby at_275 (x := 3) rfl ?_
    obtain ⟨o103, ho103, H⟩ := own_bnd H
    have U104 := (Fa101_6.ext E102)
    have U105 := (Fa101_7.ext E102)
    have U106 := (Fa101_8.ext E102)
    have U107 := (Fa101_2.ext E102)
    have U108 := (Fa101_3.ext E102)
    have U109 := (Fa101_4.ext E102)
    have U110 := (Fa101_5.ext E102)
    have U111 := (Fa101_0.ext E102)
    have U112 := (Fa101_1.ext E102)
    have U113 := (Fa101_9.ext E102)
    have U114 := (Fa101_10.ext E102)
    have U115 := (Fa101_11.ext E102)
    have U116 := (Fa101_12.ext E102)
    have U117 := (Fa101_13.ext E102)
    refine o_cI X102 hx hZ hown (y := wy8) rfl (hW 38 rfl) (hW 39 rfl) (hW 40 rfl) (by decide) (own_backH (W := 1) (rmInit l Z a0 hw [] b102 b29 b40 b48 k40 L45' k48 L57' sb32 sk32 (9 : Int32) (own_B9 la34 la35 la36 o2 o5 o8 o11 o14 o17 o20 o23 o26) sv o103 cz h102 n0 Z102 A102 F_edgeKeys_b102 F_edgeTargets_b102 F_slotShift_b102 F_failures_b102 F_suffixes_b102 F_words_b102 F_places_b102 F_lastPlaces_b102 F_wordsAt_b102 F_firstLeaf_b102 F_marks_b102 g_b102 U104 U105 U106 U107 U108 U109 U110 S_C hcz U111 S_SF hsv (Ne.symm ne_b29_b102) (Ne.symm ne_b40_b102) (Ne.symm ne_b48_b102) (Ne.symm ne_sb32_b102) ho103) hH (hW 40 rfl) (hW 37 rfl) (by decide) (by decide)) (by rw [hml]; rfl) (argsL := [(.ref b29), (.ref b40), (.ref b48), (.int 3)]) (rest := [(.ref b102)]) (lenOf own_pd23 rfl) rfl rfl (Nat.le_of_eq rfl) e102 (by decide) (by decide) hby at_276 N101 fun T118 v118 Lc118 ls118 X118 hQ118 nq118 => ?_
    obtain ⟨⟨ka118, kk118, ta118, kt118, fa118, kf118, su118, ks118, wo118, kw118, pa118, kp118, la118, kl118, wa118, kx118, ma118, km118, rfl, z_ka118, z_ta118, z_fa118, z_su118, z_wo118, z_pa118, z_la118, z_wa118, z_ma118, P0_118, P1_118, P2_118, P3_118, P4_118, P5_118, P6_118, P7_118, P8_118, P9_118, P10_118, P11_118, P12_118, P13_118, P14_118, P15_118, P16_118, P17_118, P18_118, P19_118, P20_118, P21_118, P22_118, P23_118, P24_118, P25_118, P26_118, P27_118, P28_118⟩, N118q, K118⟩ := hQ118
    have N118 := nq118 N118q
    have Z118 := Nat.le_trans Z102 K118.1
    show own_End p e below s (T118.setTop (mkF m 279 _ [(.ref b102)])) _ _ _
    have g_ka118 : n0 ≤ ka118 := Nat.le_trans Z102 z_ka118
    have sz_ka118 : h0.size ≤ ka118 := Nat.le_trans KP102.1 z_ka118
    have ne_b1_ka118 := own_nb U112.lt z_ka118
    have ne_b29_ka118 := own_nb U107.lt z_ka118
    have ne_sb32_ka118 := own_nb U110.lt z_ka118
    have ne_b40_ka118 := own_nb U104.lt z_ka118
    have ne_b48_ka118 := own_nb U106.lt z_ka118
    have ne_b59_ka118 := own_nb U113.lt z_ka118
    have ne_b73_ka118 := own_nb U114.lt z_ka118
    have ne_sb89_ka118 := own_nb U117.lt z_ka118
    have ne_b102_ka118 := own_nb A102.lt z_ka118
    have g_ta118 : n0 ≤ ta118 := Nat.le_trans Z102 z_ta118
    have sz_ta118 : h0.size ≤ ta118 := Nat.le_trans KP102.1 z_ta118
    have ne_b1_ta118 := own_nb U112.lt z_ta118
    have ne_b29_ta118 := own_nb U107.lt z_ta118
    have ne_sb32_ta118 := own_nb U110.lt z_ta118
    have ne_b40_ta118 := own_nb U104.lt z_ta118
    have ne_b48_ta118 := own_nb U106.lt z_ta118
    have ne_b59_ta118 := own_nb U113.lt z_ta118
    have ne_b73_ta118 := own_nb U114.lt z_ta118
    have ne_sb89_ta118 := own_nb U117.lt z_ta118
    have ne_b102_ta118 := own_nb A102.lt z_ta118
    have g_fa118 : n0 ≤ fa118 := Nat.le_trans Z102 z_fa118
    have sz_fa118 : h0.size ≤ fa118 := Nat.le_trans KP102.1 z_fa118
    have ne_b1_fa118 := own_nb U112.lt z_fa118
    have ne_b29_fa118 := own_nb U107.lt z_fa118
    have ne_sb32_fa118 := own_nb U110.lt z_fa118
    have ne_b40_fa118 := own_nb U104.lt z_fa118
    have ne_b48_fa118 := own_nb U106.lt z_fa118
    have ne_b59_fa118 := own_nb U113.lt z_fa118
    have ne_b73_fa118 := own_nb U114.lt z_fa118
    have ne_sb89_fa118 := own_nb U117.lt z_fa118
    have ne_b102_fa118 := own_nb A102.lt z_fa118
    have g_su118 : n0 ≤ su118 := Nat.le_trans Z102 z_su118
    have sz_su118 : h0.size ≤ su118 := Nat.le_trans KP102.1 z_su118
    have ne_b1_su118 := own_nb U112.lt z_su118
    have ne_b29_su118 := own_nb U107.lt z_su118
    have ne_sb32_su118 := own_nb U110.lt z_su118
    have ne_b40_su118 := own_nb U104.lt z_su118
    have ne_b48_su118 := own_nb U106.lt z_su118
    have ne_b59_su118 := own_nb U113.lt z_su118
    have ne_b73_su118 := own_nb U114.lt z_su118
    have ne_sb89_su118 := own_nb U117.lt z_su118
    have ne_b102_su118 := own_nb A102.lt z_su118
    have g_wo118 : n0 ≤ wo118 := Nat.le_trans Z102 z_wo118
    have sz_wo118 : h0.size ≤ wo118 := Nat.le_trans KP102.1 z_wo118
    have ne_b1_wo118 := own_nb U112.lt z_wo118
    have ne_b29_wo118 := own_nb U107.lt z_wo118
    have ne_sb32_wo118 := own_nb U110.lt z_wo118
    have ne_b40_wo118 := own_nb U104.lt z_wo118
    have ne_b48_wo118 := own_nb U106.lt z_wo118
    have ne_b59_wo118 := own_nb U113.lt z_wo118
    have ne_b73_wo118 := own_nb U114.lt z_wo118
    have ne_sb89_wo118 := own_nb U117.lt z_wo118
    have ne_b102_wo118 := own_nb A102.lt z_wo118
    have g_pa118 : n0 ≤ pa118 := Nat.le_trans Z102 z_pa118
    have sz_pa118 : h0.size ≤ pa118 := Nat.le_trans KP102.1 z_pa118
    have ne_b1_pa118 := own_nb U112.lt z_pa118
    have ne_b29_pa118 := own_nb U107.lt z_pa118
    have ne_sb32_pa118 := own_nb U110.lt z_pa118
    have ne_b40_pa118 := own_nb U104.lt z_pa118
    have ne_b48_pa118 := own_nb U106.lt z_pa118
    have ne_b59_pa118 := own_nb U113.lt z_pa118
    have ne_b73_pa118 := own_nb U114.lt z_pa118
    have ne_sb89_pa118 := own_nb U117.lt z_pa118
    have ne_b102_pa118 := own_nb A102.lt z_pa118
    have g_la118 : n0 ≤ la118 := Nat.le_trans Z102 z_la118
    have sz_la118 : h0.size ≤ la118 := Nat.le_trans KP102.1 z_la118
    have ne_b1_la118 := own_nb U112.lt z_la118
    have ne_b29_la118 := own_nb U107.lt z_la118
    have ne_sb32_la118 := own_nb U110.lt z_la118
    have ne_b40_la118 := own_nb U104.lt z_la118
    have ne_b48_la118 := own_nb U106.lt z_la118
    have ne_b59_la118 := own_nb U113.lt z_la118
    have ne_b73_la118 := own_nb U114.lt z_la118
    have ne_sb89_la118 := own_nb U117.lt z_la118
    have ne_b102_la118 := own_nb A102.lt z_la118
    have g_wa118 : n0 ≤ wa118 := Nat.le_trans Z102 z_wa118
    have sz_wa118 : h0.size ≤ wa118 := Nat.le_trans KP102.1 z_wa118
    have ne_b1_wa118 := own_nb U112.lt z_wa118
    have ne_b29_wa118 := own_nb U107.lt z_wa118
    have ne_sb32_wa118 := own_nb U110.lt z_wa118
    have ne_b40_wa118 := own_nb U104.lt z_wa118
    have ne_b48_wa118 := own_nb U106.lt z_wa118
    have ne_b59_wa118 := own_nb U113.lt z_wa118
    have ne_b73_wa118 := own_nb U114.lt z_wa118
    have ne_sb89_wa118 := own_nb U117.lt z_wa118
    have ne_b102_wa118 := own_nb A102.lt z_wa118
    have g_ma118 : n0 ≤ ma118 := Nat.le_trans Z102 z_ma118
    have sz_ma118 : h0.size ≤ ma118 := Nat.le_trans KP102.1 z_ma118
    have ne_b1_ma118 := own_nb U112.lt z_ma118
    have ne_b29_ma118 := own_nb U107.lt z_ma118
    have ne_sb32_ma118 := own_nb U110.lt z_ma118
    have ne_b40_ma118 := own_nb U104.lt z_ma118
    have ne_b48_ma118 := own_nb U106.lt z_ma118
    have ne_b59_ma118 := own_nb U113.lt z_ma118
    have ne_b73_ma118 := own_nb U114.lt z_ma118
    have ne_sb89_ma118 := own_nb U117.lt z_ma118
    have ne_b102_ma118 := own_nb A102.lt z_ma118
    have KP118 := KP102.trans K118 (allS (Or.inr sz_b102) all0)
    refine o_astore X118 hx hby at_279 (l' := #[wI p0, wI p1, wI p2, wI p3, wR b1, wR b29, wI la34, wI la35, wI la36, wR b40, wR b48, wR b59, wR b73, wI nn91, wI ga, wI gb, wI gc, wR b102, wU, wU, wU, wU, wU, wU]) rfl ?_
    refine o_aload X118 hx hby at_281 rfl ?_
    refine o_iconst X118 hx hby at_283 (x := 0) rfl ?_
    obtain ⟨o119, ho119, H⟩ := own_bnd H
    refine o_cV X118 hx hZ hown (y := wy30) (hW 165 rfl) (hW 166 rfl) (hW 168 rfl) (hW 167 rfl) (by decide) P0_118 (backOf (W := 0) (rmWd l Z a0 hw [] b102 (0 : Int32) wo118 kw118 (o103.2.2.2.2.2.2.2.2.2.2.1) o119 T118.heap n0 Z118 P0_118 P7_118 P16_118 ho119) hZ (hW 169 rfl) (hW 37 rfl) (by decide) (by decide)) (by rw [hml]; rfl) (argsL := [(.int 0)]) (rest := []) (lenOf own_pd2 rfl) rfl rfl (Nat.le_of_eq rfl) rfl (by decide) (by decide) hby at_284 N118 fun T120 v120 Lc120 ls120 X120 hQ120 nq120 => ?_
    obtain ⟨rfl, N120q, e120⟩ := hQ120
    have N120 := nq120 N120q
    show own_End p e below s (T120.setTop (mkF m 287 _ [(.int o119)])) _ _ _
    refine o_istore X120 hx hby at_287 (l' := #[wI p0, wI p1, wI p2, wI p3, wR b1, wR b29, wI la34, wI la35, wI la36, wR b40, wR b48, wR b59, wR b73, wI nn91, wI ga, wI gb, wI gc, wR b102, wI o119, wU, wU, wU, wU, wU]) rfl ?_
    refine o_aload X120 hx hby at_289 rfl ?_
    refine o_iconst X120 hx hby at_291 (x := 1) rfl ?_
    obtain ⟨o121, ho121, H⟩ := own_bnd H
    refine o_cV X120 hx hZ hown (y := wy30) (hW 165 rfl) (hW 166 rfl) (hW 168 rfl) (hW 167 rfl) (by decide) P0_118 (backOf (W := 0) (rmWd l Z a0 hw [] b102 (1 : Int32) wo118 kw118 (o103.2.2.2.2.2.2.2.2.2.2.1) o121 T118.heap n0 Z118 P0_118 P7_118 P16_118 ho121) hZ (hW 169 rfl) (hW 37 rfl) (by decide) (by decide)) (by rw [hml]; rfl) (argsL := [(.int 1)]) (rest := []) (lenOf own_pd2 rfl) rfl rfl (Nat.le_of_eq rfl) e120 (by decide) (by decide) hby at_292 N120 fun T122 v122 Lc122 ls122 X122 hQ122 nq122 => ?_
    obtain ⟨rfl, N122q, e122⟩ := hQ122
    have N122 := nq122 N122q
    show own_End p e below s (T122.setTop (mkF m 295 _ [(.int o121)])) _ _ _
    refine o_istore X122 hx hby at_295 (l' := #[wI p0, wI p1, wI p2, wI p3, wR b1, wR b29, wI la34, wI la35, wI la36, wR b40, wR b48, wR b59, wR b73, wI nn91, wI ga, wI gb, wI gc, wR b102, wI o119, wI o121, wU, wU, wU, wU]) rfl ?_
    refine o_aload X122 hx hby at_297 rfl ?_
    refine o_iconst X122 hx hby at_299 (x := 2) rfl ?_
    obtain ⟨o123, ho123, H⟩ := own_bnd H
    refine o_cV X122 hx hZ hown (y := wy30) (hW 165 rfl) (hW 166 rfl) (hW 168 rfl) (hW 167 rfl) (by decide) P0_118 (backOf (W := 0) (rmWd l Z a0 hw [] b102 (2 : Int32) wo118 kw118 (o103.2.2.2.2.2.2.2.2.2.2.1) o123 T118.heap n0 Z118 P0_118 P7_118 P16_118 ho123) hZ (hW 169 rfl) (hW 37 rfl) (by decide) (by decide)) (by rw [hml]; rfl) (argsL := [(.int 2)]) (rest := []) (lenOf own_pd2 rfl) rfl rfl (Nat.le_of_eq rfl) e122 (by decide) (by decide) hby at_300 N122 fun T124 v124 Lc124 ls124 X124 hQ124 nq124 => ?_
    obtain ⟨rfl, N124q, e124⟩ := hQ124
    have N124 := nq124 N124q
    show own_End p e below s (T124.setTop (mkF m 303 _ [(.int o123)])) _ _ _
    refine o_istore X124 hx hby at_303 (l' := #[wI p0, wI p1, wI p2, wI p3, wR b1, wR b29, wI la34, wI la35, wI la36, wR b40, wR b48, wR b59, wR b73, wI nn91, wI ga, wI gb, wI gc, wR b102, wI o119, wI o121, wI o123, wU, wU, wU]) rfl ?_
    obtain ⟨IV125, hIV125⟩ : ∃ I : Heap → List Int32 → Prop, ∀ (hh : Heap) (M : List Int32), I hh M ↔ (Old Z n0 hh ∧ own_AC Z hh b1 k1 (9 : Int32) ([o2, o5, o8, o11, o14, o17, o20, o23, o26]) ∧ own_AC Z hh b59 k59 (3 : Int32) ([o64, o67, o70]) ∧ Exa Z hh b73 "java/lang/String" ∧ Fld Z hh b73 "java/lang/String" "value" "[B" (.ref sb89) ∧ Fld Z hh b73 "java/lang/String" "coder" "B" (.int 0) ∧ own_AB Z hh sb89 sk89 (3 : Int32) (own_B3 nn91 o64 o67 o70) ∧ Exa Z hh b102 "com/example/portero/portero/matching/SegmentAutomaton" ∧ Fld Z hh b102 "com/example/portero/portero/matching/SegmentAutomaton" "slotShift" "I" (.int o103.1) ∧ Fld Z hh b102 "com/example/portero/portero/matching/SegmentAutomaton" "firstLeaf" "I" (.int o103.2.2.2.2.1) ∧ Fld Z hh b102 "com/example/portero/portero/matching/SegmentAutomaton" "edgeKeys" "[J" (.ref ka118) ∧ Fld Z hh b102 "com/example/portero/portero/matching/SegmentAutomaton" "edgeTargets" "[I" (.ref ta118) ∧ Fld Z hh b102 "com/example/portero/portero/matching/SegmentAutomaton" "failures" "[I" (.ref fa118) ∧ Fld Z hh b102 "com/example/portero/portero/matching/SegmentAutomaton" "suffixes" "[I" (.ref su118) ∧ Fld Z hh b102 "com/example/portero/portero/matching/SegmentAutomaton" "places" "[I" (.ref pa118) ∧ Fld Z hh b102 "com/example/portero/portero/matching/SegmentAutomaton" "lastPlaces" "[I" (.ref la118) ∧ Fld Z hh b102 "com/example/portero/portero/matching/SegmentAutomaton" "wordsAt" "[I" (.ref wa118) ∧ Fld Z hh b102 "com/example/portero/portero/matching/SegmentAutomaton" "marks" "[I" (.ref ma118) ∧ own_AJ Z hh ka118 kk118 o103.2.1 (o103.2.2.2.2.2.2.1) ∧ own_AI Z hh ta118 kt118 o103.2.1 (o103.2.2.2.2.2.2.2.1) ∧ own_AI Z hh fa118 kf118 o103.2.2.1 (o103.2.2.2.2.2.2.2.2.1) ∧ own_AI Z hh su118 ks118 o103.2.2.1 (o103.2.2.2.2.2.2.2.2.2.1) ∧ own_AI Z hh pa118 kp118 o103.2.2.2.1 (o103.2.2.2.2.2.2.2.2.2.2.2.1) ∧ own_AI Z hh la118 kl118 o103.2.2.2.1 (o103.2.2.2.2.2.2.2.2.2.2.2.2.1) ∧ own_AI Z hh wa118 kx118 o103.2.2.2.1 (o103.2.2.2.2.2.2.2.2.2.2.2.2.2.1) ∧ own_AI Z hh ma118 km118 o103.2.2.2.2.2.1 M) := ⟨_, fun _ _ => Iff.rfl⟩
    have J1 : ∀ f1 : Nat, (∀ (sx : Int32) (be : Int32) (bl : Int32) (M : List Int32) (T126 : State) (h126 : Heap) (ls126 : List Loc) (X126 : Stand p l e room_1 s m #[(.int p0), (.int p1), (.int p2), (.int p3)] below meth c T126 ls126 27 183) (e126 : T126.heap = h126) (N126 : Fr n0 ls126) (Z126 : n0 ≤ h126.size) (KP126 : Keep h0 h126 []) (FF126 : IV125 h126 M) (sl21 sl22 sl23 : Slot) (hsl21 : own_pl sl21) (hsl22 : own_pl sl22) (hsl23 : own_pl sl23), S_rm0_1 p0 p1 p2 p3 o2 o5 o8 o11 o14 o17 o20 o23 o26 o64 o67 o70 nn91 o103 la34 la35 la36 ga gb gc o119 o121 o123 f1 0 sx be bl M = some out → own_End p e below s (T126.setTop (mkF m 305 #[wI p0, wI p1, wI p2, wI p3, wR b1, wR b29, wI la34, wI la35, wI la36, wR b40, wR b48, wR b59, wR b73, wI nn91, wI ga, wI gb, wI gc, wR b102, wI o119, wI o121, wI o123, sl21, sl22, sl23] [])) (Q_rm0 Z p0 p1 p2 p3 sv out cz h0 n0) room_1.cells room_1.slots) ∧ (∀ (sx : Int32) (be : Int32) (bl : Int32) (M : List Int32) (T155 : State) (h155 : Heap) (ls155 : List Loc) (X155 : Stand p l e room_1 s m #[(.int p0), (.int p1), (.int p2), (.int p3)] below meth c T155 ls155 27 183) (e155 : T155.heap = h155) (N155 : Fr n0 ls155) (Z155 : n0 ≤ h155.size) (KP155 : Keep h0 h155 []) (FF155 : IV125 h155 M) (sl21 sl22 sl23 : Slot) (hsl21 : own_pl sl21) (hsl22 : own_pl sl22) (hsl23 : own_pl sl23), S_rm0_1 p0 p1 p2 p3 o2 o5 o8 o11 o14 o17 o20 o23 o26 o64 o67 o70 nn91 o103 la34 la35 la36 ga gb gc o119 o121 o123 f1 1 sx be bl M = some out → own_End p e below s (T155.setTop (mkF m 318 #[wI p0, wI p1, wI p2, wI p3, wR b1, wR b29, wI la34, wI la35, wI la36, wR b40, wR b48, wR b59, wR b73, wI nn91, wI ga, wI gb, wI gc, wR b102, wI o119, wI o121, wI o123, sl21, sl22, sl23] [])) (Q_rm0 Z p0 p1 p2 p3 sv out cz h0 n0) room_1.cells room_1.slots) ∧ (∀ (sx : Int32) (be : Int32) (bl : Int32) (M : List Int32) (T184 : State) (h184 : Heap) (ls184 : List Loc) (X184 : Stand p l e room_1 s m #[(.int p0), (.int p1), (.int p2), (.int p3)] below meth c T184 ls184 27 183) (e184 : T184.heap = h184) (N184 : Fr n0 ls184) (Z184 : n0 ≤ h184.size) (KP184 : Keep h0 h184 []) (FF184 : IV125 h184 M) (sl21 sl22 sl23 : Slot) (hsl21 : own_pl sl21) (hsl22 : own_pl sl22) (hsl23 : own_pl sl23), S_rm0_1 p0 p1 p2 p3 o2 o5 o8 o11 o14 o17 o20 o23 o26 o64 o67 o70 nn91 o103 la34 la35 la36 ga gb gc o119 o121 o123 f1 2 sx be bl M = some out → own_End p e below s (T184.setTop (mkF m 331 #[wI p0, wI p1, wI p2, wI p3, wR b1, wR b29, wI la34, wI la35, wI la36, wR b40, wR b48, wR b59, wR b73, wI nn91, wI ga, wI gb, wI gc, wR b102, wI o119, wI o121, wI o123, sl21, sl22, sl23] [])) (Q_rm0 Z p0 p1 p2 p3 sv out cz h0 n0) room_1.cells room_1.slots) ∧ (∀ (sx : Int32) (be : Int32) (bl : Int32) (M : List Int32) (T213 : State) (h213 : Heap) (ls213 : List Loc) (X213 : Stand p l e room_1 s m #[(.int p0), (.int p1), (.int p2), (.int p3)] below meth c T213 ls213 27 183) (e213 : T213.heap = h213) (N213 : Fr n0 ls213) (Z213 : n0 ≤ h213.size) (KP213 : Keep h0 h213 []) (FF213 : IV125 h213 M) (sl21 sl22 sl23 : Slot) (hsl21 : own_pl sl21) (hsl22 : own_pl sl22) (hsl23 : own_pl sl23), S_rm0_1 p0 p1 p2 p3 o2 o5 o8 o11 o14 o17 o20 o23 o26 o64 o67 o70 nn91 o103 la34 la35 la36 ga gb gc o119 o121 o123 f1 3 sx be bl M = some out → own_End p e below s (T213.setTop (mkF m 344 #[wI p0, wI p1, wI p2, wI p3, wR b1, wR b29, wI la34, wI la35, wI la36, wR b40, wR b48, wR b59, wR b73, wI nn91, wI ga, wI gb, wI gc, wR b102, wI o119, wI o121, wI o123, sl21, sl22, sl23] [])) (Q_rm0 Z p0 p1 p2 p3 sv out cz h0 n0) room_1.cells room_1.slots) ∧ (∀ (sx : Int32) (be : Int32) (bl : Int32) (M : List Int32) (T217 : State) (h217 : Heap) (ls217 : List Loc) (X217 : Stand p l e room_1 s m #[(.int p0), (.int p1), (.int p2), (.int p3)] below meth c T217 ls217 27 183) (e217 : T217.heap = h217) (N217 : Fr n0 ls217) (Z217 : n0 ≤ h217.size) (KP217 : Keep h0 h217 []) (FF217 : IV125 h217 M) (sl22 sl23 : Slot) (hsl22 : own_pl sl22) (hsl23 : own_pl sl23), S_rm0_1 p0 p1 p2 p3 o2 o5 o8 o11 o14 o17 o20 o23 o26 o64 o67 o70 nn91 o103 la34 la35 la36 ga gb gc o119 o121 o123 f1 4 sx be bl M = some out → own_End p e below s (T217.setTop (mkF m 365 #[wI p0, wI p1, wI p2, wI p3, wR b1, wR b29, wI la34, wI la35, wI la36, wR b40, wR b48, wR b59, wR b73, wI nn91, wI ga, wI gb, wI gc, wR b102, wI o119, wI o121, wI o123, wI sx, sl22, sl23] [])) (Q_rm0 Z p0 p1 p2 p3 sv out cz h0 n0) room_1.cells room_1.slots) ∧ (∀ (sx : Int32) (be : Int32) (bl : Int32) (M : List Int32) (T221 : State) (h221 : Heap) (ls221 : List Loc) (X221 : Stand p l e room_1 s m #[(.int p0), (.int p1), (.int p2), (.int p3)] below meth c T221 ls221 27 183) (e221 : T221.heap = h221) (N221 : Fr n0 ls221) (Z221 : n0 ≤ h221.size) (KP221 : Keep h0 h221 []) (FF221 : IV125 h221 M) (sl22 sl23 : Slot) (hsl22 : own_pl sl22) (hsl23 : own_pl sl23), S_rm0_1 p0 p1 p2 p3 o2 o5 o8 o11 o14 o17 o20 o23 o26 o64 o67 o70 nn91 o103 la34 la35 la36 ga gb gc o119 o121 o123 f1 5 sx be bl M = some out → own_End p e below s (T221.setTop (mkF m 383 #[wI p0, wI p1, wI p2, wI p3, wR b1, wR b29, wI la34, wI la35, wI la36, wR b40, wR b48, wR b59, wR b73, wI nn91, wI ga, wI gb, wI gc, wR b102, wI o119, wI o121, wI o123, wI sx, sl22, sl23] [])) (Q_rm0 Z p0 p1 p2 p3 sv out cz h0 n0) room_1.cells room_1.slots) ∧ (∀ (sx : Int32) (be : Int32) (bl : Int32) (M : List Int32) (T225 : State) (h225 : Heap) (ls225 : List Loc) (X225 : Stand p l e room_1 s m #[(.int p0), (.int p1), (.int p2), (.int p3)] below meth c T225 ls225 27 183) (e225 : T225.heap = h225) (N225 : Fr n0 ls225) (Z225 : n0 ≤ h225.size) (KP225 : Keep h0 h225 []) (FF225 : IV125 h225 M) (sl22 sl23 : Slot) (hsl22 : own_pl sl22) (hsl23 : own_pl sl23), S_rm0_1 p0 p1 p2 p3 o2 o5 o8 o11 o14 o17 o20 o23 o26 o64 o67 o70 nn91 o103 la34 la35 la36 ga gb gc o119 o121 o123 f1 6 sx be bl M = some out → own_End p e below s (T225.setTop (mkF m 401 #[wI p0, wI p1, wI p2, wI p3, wR b1, wR b29, wI la34, wI la35, wI la36, wR b40, wR b48, wR b59, wR b73, wI nn91, wI ga, wI gb, wI gc, wR b102, wI o119, wI o121, wI o123, wI sx, sl22, sl23] [])) (Q_rm0 Z p0 p1 p2 p3 sv out cz h0 n0) room_1.cells room_1.slots) ∧ (∀ (sx : Int32) (be : Int32) (bl : Int32) (M : List Int32) (T231 : State) (h231 : Heap) (ls231 : List Loc) (X231 : Stand p l e room_1 s m #[(.int p0), (.int p1), (.int p2), (.int p3)] below meth c T231 ls231 27 183) (e231 : T231.heap = h231) (N231 : Fr n0 ls231) (Z231 : n0 ≤ h231.size) (KP231 : Keep h0 h231 []) (FF231 : IV125 h231 M)  , S_rm0_1 p0 p1 p2 p3 o2 o5 o8 o11 o14 o17 o20 o23 o26 o64 o67 o70 nn91 o103 la34 la35 la36 ga gb gc o119 o121 o123 f1 7 sx be bl M = some out → own_End p e below s (T231.setTop (mkF m 442 #[wI p0, wI p1, wI p2, wI p3, wR b1, wR b29, wI la34, wI la35, wI la36, wR b40, wR b48, wR b59, wR b73, wI nn91, wI ga, wI gb, wI gc, wR b102, wI o119, wI o121, wI o123, wI sx, wI be, wI bl] [])) (Q_rm0 Z p0 p1 p2 p3 sv out cz h0 n0) room_1.cells room_1.slots) ∧ (∀ (sx : Int32) (be : Int32) (bl : Int32) (M : List Int32) (T237 : State) (h237 : Heap) (ls237 : List Loc) (X237 : Stand p l e room_1 s m #[(.int p0), (.int p1), (.int p2), (.int p3)] below meth c T237 ls237 27 183) (e237 : T237.heap = h237) (N237 : Fr n0 ls237) (Z237 : n0 ≤ h237.size) (KP237 : Keep h0 h237 []) (FF237 : IV125 h237 M)  , S_rm0_1 p0 p1 p2 p3 o2 o5 o8 o11 o14 o17 o20 o23 o26 o64 o67 o70 nn91 o103 la34 la35 la36 ga gb gc o119 o121 o123 f1 8 sx be bl M = some out → own_End p e below s (T237.setTop (mkF m 477 #[wI p0, wI p1, wI p2, wI p3, wR b1, wR b29, wI la34, wI la35, wI la36, wR b40, wR b48, wR b59, wR b73, wI nn91, wI ga, wI gb, wI gc, wR b102, wI o119, wI o121, wI o123, wI sx, wI be, wI bl] [])) (Q_rm0 Z p0 p1 p2 p3 sv out cz h0 n0) room_1.cells room_1.slots) ∧ (∀ (sx : Int32) (be : Int32) (bl : Int32) (M : List Int32) (T243 : State) (h243 : Heap) (ls243 : List Loc) (X243 : Stand p l e room_1 s m #[(.int p0), (.int p1), (.int p2), (.int p3)] below meth c T243 ls243 27 183) (e243 : T243.heap = h243) (N243 : Fr n0 ls243) (Z243 : n0 ≤ h243.size) (KP243 : Keep h0 h243 []) (FF243 : IV125 h243 M)  , S_rm0_1 p0 p1 p2 p3 o2 o5 o8 o11 o14 o17 o20 o23 o26 o64 o67 o70 nn91 o103 la34 la35 la36 ga gb gc o119 o121 o123 f1 9 sx be bl M = some out → own_End p e below s (T243.setTop (mkF m 513 #[wI p0, wI p1, wI p2, wI p3, wR b1, wR b29, wI la34, wI la35, wI la36, wR b40, wR b48, wR b59, wR b73, wI nn91, wI ga, wI gb, wI gc, wR b102, wI o119, wI o121, wI o123, wI sx, wI be, wI bl] [])) (Q_rm0 Z p0 p1 p2 p3 sv out cz h0 n0) room_1.cells room_1.slots) := by
     intro f1
     induction f1 with
     | zero => refine ⟨?_, ?_, ?_, ?_, ?_, ?_, ?_, ?_, ?_, ?_⟩ <;> (intros; rename_i H; exact nomatch (show (none : Option (Int32)) = some _ from H))
     | succ f1 IH1 =>
      refine ⟨?_, ?_, ?_, ?_, ?_, ?_, ?_, ?_, ?_, ?_⟩
      ·skip
       intro sx be bl M T126 h126 ls126 X126 e126 N126 Z126 KP126 FF126 sl21 sl22 sl23 hsl21 hsl22 hsl23 H
       obtain ⟨Fa126_0, Fa126_1, Fa126_2, Fa126_3, Fa126_4, Fa126_5, Fa126_6, Fa126_7, Fa126_8, Fa126_9, Fa126_10, Fa126_11, Fa126_12, Fa126_13, Fa126_14, Fa126_15, Fa126_16, Fa126_17, Fa126_18, Fa126_19, Fa126_20, Fa126_21, Fa126_22, Fa126_23, Fa126_24, Fa126_25⟩ := (hIV125 _ _).mp FF126
       replace H := (S_rm0_1_0 _ _ _ _ _ _ _ _ _ _ _ _ _ _ _ _ _ _ _ _ _ _ _ _ _ _ _ _ _ _ _ _).symm.trans H
       show own_End p e below s (T126.setTop (mkF m 305 _ [])) _ _ _
       refine o_iload X126 hx hby at_305 rfl ?_
       by_cases c307_127 : ga.toInt = 0
       ·skip
        replace H := own_ifp c307_127 H
        refine o_ifYes X126 hx (pc0 := 307) (pc' := 318) rfl hby at_307 ((if0 _ _).trans (own_eq (x := ga) (y := 0) (i := ga.toInt) (j := 0) rfl rfl c307_127).1) (by decide) (by decide) ?_
        exact IH1.2.1 0 0 0 M T126 h126 _ X126 e126 N126 Z126 KP126 ((hIV125 _ _).mpr ⟨Fa126_0, Fa126_1, Fa126_2, Fa126_3, Fa126_4, Fa126_5, Fa126_6, Fa126_7, Fa126_8, Fa126_9, Fa126_10, Fa126_11, Fa126_12, Fa126_13, Fa126_14, Fa126_15, Fa126_16, Fa126_17, Fa126_18, Fa126_19, Fa126_20, Fa126_21, Fa126_22, Fa126_23, Fa126_24, Fa126_25⟩) (sl21) (sl22) (sl23) hsl21 hsl22 hsl23 H
       ·skip
        replace H := own_ifn c307_127 H
        refine o_ifNo X126 hx hby at_307 ((if0 _ _).trans (own_ne (x := ga) (y := 0) (i := ga.toInt) (j := 0) rfl rfl c307_127).1) ?_
        refine o_aload X126 hx hby at_310 rfl ?_
        refine o_iload X126 hx hby at_312 rfl ?_
        refine o_iconst X126 hx hby at_314 (x := 1) rfl ?_
        obtain ⟨o128, ho128, H⟩ := own_bnd H
        refine o_cV X126 hx hZ hown (y := wy31) (hW 170 rfl) (hW 171 rfl) (hW 173 rfl) (hW 172 rfl) (by decide) Fa126_7 (backOf (W := 0) (rmMark l Z a0 hw [] b102 o119 (o103.2.2.2.2.1) ma118 km118 (o103.2.2.2.2.2.1) M pa118 kp118 (o103.2.2.2.1) (o103.2.2.2.2.2.2.2.2.2.2.2.1) la118 kl118 (o103.2.2.2.2.2.2.2.2.2.2.2.2.1) o128 h126 n0 Z126 Fa126_7 Fa126_9 Fa126_17 Fa126_25 Fa126_14 Fa126_22 Fa126_15 Fa126_23 g_ma118 (Ne.symm ne_b102_ma118) P26_118 P27_118 ho128) hZ (hW 174 rfl) (hW 37 rfl) (by decide) (by decide)) (by rw [hml]; rfl) (argsL := [(.int o119), (.int 1)]) (rest := []) (lenOf own_pd24 rfl) rfl rfl (Nat.le_of_eq rfl) e126 (by decide) (by decide) hby at_315 N126 fun T129 v129 Lc129 ls129 X129 hQ129 nq129 => ?_
        obtain ⟨⟨rfl, P0_129⟩, N129q, K129⟩ := hQ129
        have N129 := nq129 N129q
        have Z129 := Nat.le_trans Z126 K129.1
        show own_End p e below s (T129.setTop (mkF m 318 _ [])) _ _ _
        have KP129 := KP126.trans K129 (allS (Or.inr sz_ma118) all0)
        have U130 := (Fa126_0.keep K129 (allS g_ma118 all0))
        have U131 := (Fa126_1.keep K129 (ninS ne_b1_ma118 nin0))
        have U132 := (Fa126_2.keep K129 (ninS ne_b59_ma118 nin0))
        have U133 := (Fa126_3.keep K129)
        have U134 := (Fa126_4.keep K129 (ninS ne_b73_ma118 nin0))
        have U135 := (Fa126_5.keep K129 (ninS ne_b73_ma118 nin0))
        have U136 := (Fa126_6.keep K129 (ninS ne_sb89_ma118 nin0))
        have U137 := (Fa126_7.keep K129)
        have U138 := (Fa126_8.keep K129 (ninS ne_b102_ma118 nin0))
        have U139 := (Fa126_9.keep K129 (ninS ne_b102_ma118 nin0))
        have U140 := (Fa126_10.keep K129 (ninS ne_b102_ma118 nin0))
        have U141 := (Fa126_11.keep K129 (ninS ne_b102_ma118 nin0))
        have U142 := (Fa126_12.keep K129 (ninS ne_b102_ma118 nin0))
        have U143 := (Fa126_13.keep K129 (ninS ne_b102_ma118 nin0))
        have U144 := (Fa126_14.keep K129 (ninS ne_b102_ma118 nin0))
        have U145 := (Fa126_15.keep K129 (ninS ne_b102_ma118 nin0))
        have U146 := (Fa126_16.keep K129 (ninS ne_b102_ma118 nin0))
        have U147 := (Fa126_17.keep K129 (ninS ne_b102_ma118 nin0))
        have U148 := (Fa126_18.keep K129 (ninS (Ne.symm P21_118) nin0))
        have U149 := (Fa126_19.keep K129 (ninS (Ne.symm P22_118) nin0))
        have U150 := (Fa126_20.keep K129 (ninS (Ne.symm P23_118) nin0))
        have U151 := (Fa126_21.keep K129 (ninS (Ne.symm P24_118) nin0))
        have U152 := (Fa126_22.keep K129 (ninS (Ne.symm P26_118) nin0))
        have U153 := (Fa126_23.keep K129 (ninS (Ne.symm P27_118) nin0))
        have U154 := (Fa126_24.keep K129 (ninS (Ne.symm P28_118) nin0))
        exact IH1.2.1 0 0 0 o128 T129 T129.heap _ X129 rfl N129 Z129 KP129 ((hIV125 _ _).mpr ⟨U130, U131, U132, U133, U134, U135, U136, U137, U138, U139, U140, U141, U142, U143, U144, U145, U146, U147, U148, U149, U150, U151, U152, U153, U154, P0_129⟩) (sl21) (sl22) (sl23) hsl21 hsl22 hsl23 H
      ·skip
       intro sx be bl M T155 h155 ls155 X155 e155 N155 Z155 KP155 FF155 sl21 sl22 sl23 hsl21 hsl22 hsl23 H
       obtain ⟨Fa155_0, Fa155_1, Fa155_2, Fa155_3, Fa155_4, Fa155_5, Fa155_6, Fa155_7, Fa155_8, Fa155_9, Fa155_10, Fa155_11, Fa155_12, Fa155_13, Fa155_14, Fa155_15, Fa155_16, Fa155_17, Fa155_18, Fa155_19, Fa155_20, Fa155_21, Fa155_22, Fa155_23, Fa155_24, Fa155_25⟩ := (hIV125 _ _).mp FF155
       replace H := (S_rm0_1_1 _ _ _ _ _ _ _ _ _ _ _ _ _ _ _ _ _ _ _ _ _ _ _ _ _ _ _ _ _ _ _ _).symm.trans H
       show own_End p e below s (T155.setTop (mkF m 318 _ [])) _ _ _
       refine o_iload X155 hx hby at_318 rfl ?_
       by_cases c320_156 : gb.toInt = 0
       ·skip
        replace H := own_ifp c320_156 H
        refine o_ifYes X155 hx (pc0 := 320) (pc' := 331) rfl hby at_320 ((if0 _ _).trans (own_eq (x := gb) (y := 0) (i := gb.toInt) (j := 0) rfl rfl c320_156).1) (by decide) (by decide) ?_
        exact IH1.2.2.1 0 0 0 M T155 h155 _ X155 e155 N155 Z155 KP155 ((hIV125 _ _).mpr ⟨Fa155_0, Fa155_1, Fa155_2, Fa155_3, Fa155_4, Fa155_5, Fa155_6, Fa155_7, Fa155_8, Fa155_9, Fa155_10, Fa155_11, Fa155_12, Fa155_13, Fa155_14, Fa155_15, Fa155_16, Fa155_17, Fa155_18, Fa155_19, Fa155_20, Fa155_21, Fa155_22, Fa155_23, Fa155_24, Fa155_25⟩) (sl21) (sl22) (sl23) hsl21 hsl22 hsl23 H
       ·skip
        replace H := own_ifn c320_156 H
        refine o_ifNo X155 hx hby at_320 ((if0 _ _).trans (own_ne (x := gb) (y := 0) (i := gb.toInt) (j := 0) rfl rfl c320_156).1) ?_
        refine o_aload X155 hx hby at_323 rfl ?_
        refine o_iload X155 hx hby at_325 rfl ?_
        refine o_iconst X155 hx hby at_327 (x := 1) rfl ?_
        obtain ⟨o157, ho157, H⟩ := own_bnd H
        refine o_cV X155 hx hZ hown (y := wy31) (hW 170 rfl) (hW 171 rfl) (hW 173 rfl) (hW 172 rfl) (by decide) Fa155_7 (backOf (W := 0) (rmMark l Z a0 hw [] b102 o121 (o103.2.2.2.2.1) ma118 km118 (o103.2.2.2.2.2.1) M pa118 kp118 (o103.2.2.2.1) (o103.2.2.2.2.2.2.2.2.2.2.2.1) la118 kl118 (o103.2.2.2.2.2.2.2.2.2.2.2.2.1) o157 h155 n0 Z155 Fa155_7 Fa155_9 Fa155_17 Fa155_25 Fa155_14 Fa155_22 Fa155_15 Fa155_23 g_ma118 (Ne.symm ne_b102_ma118) P26_118 P27_118 ho157) hZ (hW 174 rfl) (hW 37 rfl) (by decide) (by decide)) (by rw [hml]; rfl) (argsL := [(.int o121), (.int 1)]) (rest := []) (lenOf own_pd24 rfl) rfl rfl (Nat.le_of_eq rfl) e155 (by decide) (by decide) hby at_328 N155 fun T158 v158 Lc158 ls158 X158 hQ158 nq158 => ?_
        obtain ⟨⟨rfl, P0_158⟩, N158q, K158⟩ := hQ158
        have N158 := nq158 N158q
        have Z158 := Nat.le_trans Z155 K158.1
        show own_End p e below s (T158.setTop (mkF m 331 _ [])) _ _ _
        have KP158 := KP155.trans K158 (allS (Or.inr sz_ma118) all0)
        have U159 := (Fa155_0.keep K158 (allS g_ma118 all0))
        have U160 := (Fa155_1.keep K158 (ninS ne_b1_ma118 nin0))
        have U161 := (Fa155_2.keep K158 (ninS ne_b59_ma118 nin0))
        have U162 := (Fa155_3.keep K158)
        have U163 := (Fa155_4.keep K158 (ninS ne_b73_ma118 nin0))
        have U164 := (Fa155_5.keep K158 (ninS ne_b73_ma118 nin0))
        have U165 := (Fa155_6.keep K158 (ninS ne_sb89_ma118 nin0))
        have U166 := (Fa155_7.keep K158)
        have U167 := (Fa155_8.keep K158 (ninS ne_b102_ma118 nin0))
        have U168 := (Fa155_9.keep K158 (ninS ne_b102_ma118 nin0))
        have U169 := (Fa155_10.keep K158 (ninS ne_b102_ma118 nin0))
        have U170 := (Fa155_11.keep K158 (ninS ne_b102_ma118 nin0))
        have U171 := (Fa155_12.keep K158 (ninS ne_b102_ma118 nin0))
        have U172 := (Fa155_13.keep K158 (ninS ne_b102_ma118 nin0))
        have U173 := (Fa155_14.keep K158 (ninS ne_b102_ma118 nin0))
        have U174 := (Fa155_15.keep K158 (ninS ne_b102_ma118 nin0))
        have U175 := (Fa155_16.keep K158 (ninS ne_b102_ma118 nin0))
        have U176 := (Fa155_17.keep K158 (ninS ne_b102_ma118 nin0))
        have U177 := (Fa155_18.keep K158 (ninS (Ne.symm P21_118) nin0))
        have U178 := (Fa155_19.keep K158 (ninS (Ne.symm P22_118) nin0))
        have U179 := (Fa155_20.keep K158 (ninS (Ne.symm P23_118) nin0))
        have U180 := (Fa155_21.keep K158 (ninS (Ne.symm P24_118) nin0))
        have U181 := (Fa155_22.keep K158 (ninS (Ne.symm P26_118) nin0))
        have U182 := (Fa155_23.keep K158 (ninS (Ne.symm P27_118) nin0))
        have U183 := (Fa155_24.keep K158 (ninS (Ne.symm P28_118) nin0))
        exact IH1.2.2.1 0 0 0 o157 T158 T158.heap _ X158 rfl N158 Z158 KP158 ((hIV125 _ _).mpr ⟨U159, U160, U161, U162, U163, U164, U165, U166, U167, U168, U169, U170, U171, U172, U173, U174, U175, U176, U177, U178, U179, U180, U181, U182, U183, P0_158⟩) (sl21) (sl22) (sl23) hsl21 hsl22 hsl23 H
      ·skip
       intro sx be bl M T184 h184 ls184 X184 e184 N184 Z184 KP184 FF184 sl21 sl22 sl23 hsl21 hsl22 hsl23 H
       obtain ⟨Fa184_0, Fa184_1, Fa184_2, Fa184_3, Fa184_4, Fa184_5, Fa184_6, Fa184_7, Fa184_8, Fa184_9, Fa184_10, Fa184_11, Fa184_12, Fa184_13, Fa184_14, Fa184_15, Fa184_16, Fa184_17, Fa184_18, Fa184_19, Fa184_20, Fa184_21, Fa184_22, Fa184_23, Fa184_24, Fa184_25⟩ := (hIV125 _ _).mp FF184
       replace H := (S_rm0_1_2 _ _ _ _ _ _ _ _ _ _ _ _ _ _ _ _ _ _ _ _ _ _ _ _ _ _ _ _ _ _ _ _).symm.trans H
       show own_End p e below s (T184.setTop (mkF m 331 _ [])) _ _ _
       refine o_iload X184 hx hby at_331 rfl ?_
       by_cases c333_185 : gc.toInt = 0
       ·skip
        replace H := own_ifp c333_185 H
        refine o_ifYes X184 hx (pc0 := 333) (pc' := 344) rfl hby at_333 ((if0 _ _).trans (own_eq (x := gc) (y := 0) (i := gc.toInt) (j := 0) rfl rfl c333_185).1) (by decide) (by decide) ?_
        exact IH1.2.2.2.1 0 0 0 M T184 h184 _ X184 e184 N184 Z184 KP184 ((hIV125 _ _).mpr ⟨Fa184_0, Fa184_1, Fa184_2, Fa184_3, Fa184_4, Fa184_5, Fa184_6, Fa184_7, Fa184_8, Fa184_9, Fa184_10, Fa184_11, Fa184_12, Fa184_13, Fa184_14, Fa184_15, Fa184_16, Fa184_17, Fa184_18, Fa184_19, Fa184_20, Fa184_21, Fa184_22, Fa184_23, Fa184_24, Fa184_25⟩) (sl21) (sl22) (sl23) hsl21 hsl22 hsl23 H
       ·skip
        replace H := own_ifn c333_185 H
        refine o_ifNo X184 hx hby at_333 ((if0 _ _).trans (own_ne (x := gc) (y := 0) (i := gc.toInt) (j := 0) rfl rfl c333_185).1) ?_
        refine o_aload X184 hx hby at_336 rfl ?_
        refine o_iload X184 hx hby at_338 rfl ?_
        refine o_iconst X184 hx hby at_340 (x := 1) rfl ?_
        obtain ⟨o186, ho186, H⟩ := own_bnd H
        refine o_cV X184 hx hZ hown (y := wy31) (hW 170 rfl) (hW 171 rfl) (hW 173 rfl) (hW 172 rfl) (by decide) Fa184_7 (backOf (W := 0) (rmMark l Z a0 hw [] b102 o123 (o103.2.2.2.2.1) ma118 km118 (o103.2.2.2.2.2.1) M pa118 kp118 (o103.2.2.2.1) (o103.2.2.2.2.2.2.2.2.2.2.2.1) la118 kl118 (o103.2.2.2.2.2.2.2.2.2.2.2.2.1) o186 h184 n0 Z184 Fa184_7 Fa184_9 Fa184_17 Fa184_25 Fa184_14 Fa184_22 Fa184_15 Fa184_23 g_ma118 (Ne.symm ne_b102_ma118) P26_118 P27_118 ho186) hZ (hW 174 rfl) (hW 37 rfl) (by decide) (by decide)) (by rw [hml]; rfl) (argsL := [(.int o123), (.int 1)]) (rest := []) (lenOf own_pd24 rfl) rfl rfl (Nat.le_of_eq rfl) e184 (by decide) (by decide) hby at_341 N184 fun T187 v187 Lc187 ls187 X187 hQ187 nq187 => ?_
        obtain ⟨⟨rfl, P0_187⟩, N187q, K187⟩ := hQ187
        have N187 := nq187 N187q
        have Z187 := Nat.le_trans Z184 K187.1
        show own_End p e below s (T187.setTop (mkF m 344 _ [])) _ _ _
        have KP187 := KP184.trans K187 (allS (Or.inr sz_ma118) all0)
        have U188 := (Fa184_0.keep K187 (allS g_ma118 all0))
        have U189 := (Fa184_1.keep K187 (ninS ne_b1_ma118 nin0))
        have U190 := (Fa184_2.keep K187 (ninS ne_b59_ma118 nin0))
        have U191 := (Fa184_3.keep K187)
        have U192 := (Fa184_4.keep K187 (ninS ne_b73_ma118 nin0))
        have U193 := (Fa184_5.keep K187 (ninS ne_b73_ma118 nin0))
        have U194 := (Fa184_6.keep K187 (ninS ne_sb89_ma118 nin0))
        have U195 := (Fa184_7.keep K187)
        have U196 := (Fa184_8.keep K187 (ninS ne_b102_ma118 nin0))
        have U197 := (Fa184_9.keep K187 (ninS ne_b102_ma118 nin0))
        have U198 := (Fa184_10.keep K187 (ninS ne_b102_ma118 nin0))
        have U199 := (Fa184_11.keep K187 (ninS ne_b102_ma118 nin0))
        have U200 := (Fa184_12.keep K187 (ninS ne_b102_ma118 nin0))
        have U201 := (Fa184_13.keep K187 (ninS ne_b102_ma118 nin0))
        have U202 := (Fa184_14.keep K187 (ninS ne_b102_ma118 nin0))
        have U203 := (Fa184_15.keep K187 (ninS ne_b102_ma118 nin0))
        have U204 := (Fa184_16.keep K187 (ninS ne_b102_ma118 nin0))
        have U205 := (Fa184_17.keep K187 (ninS ne_b102_ma118 nin0))
        have U206 := (Fa184_18.keep K187 (ninS (Ne.symm P21_118) nin0))
        have U207 := (Fa184_19.keep K187 (ninS (Ne.symm P22_118) nin0))
        have U208 := (Fa184_20.keep K187 (ninS (Ne.symm P23_118) nin0))
        have U209 := (Fa184_21.keep K187 (ninS (Ne.symm P24_118) nin0))
        have U210 := (Fa184_22.keep K187 (ninS (Ne.symm P26_118) nin0))
        have U211 := (Fa184_23.keep K187 (ninS (Ne.symm P27_118) nin0))
        have U212 := (Fa184_24.keep K187 (ninS (Ne.symm P28_118) nin0))
        exact IH1.2.2.2.1 0 0 0 o186 T187 T187.heap _ X187 rfl N187 Z187 KP187 ((hIV125 _ _).mpr ⟨U188, U189, U190, U191, U192, U193, U194, U195, U196, U197, U198, U199, U200, U201, U202, U203, U204, U205, U206, U207, U208, U209, U210, U211, U212, P0_187⟩) (sl21) (sl22) (sl23) hsl21 hsl22 hsl23 H
      ·skip
       intro sx be bl M T213 h213 ls213 X213 e213 N213 Z213 KP213 FF213 sl21 sl22 sl23 hsl21 hsl22 hsl23 H
       obtain ⟨Fa213_0, Fa213_1, Fa213_2, Fa213_3, Fa213_4, Fa213_5, Fa213_6, Fa213_7, Fa213_8, Fa213_9, Fa213_10, Fa213_11, Fa213_12, Fa213_13, Fa213_14, Fa213_15, Fa213_16, Fa213_17, Fa213_18, Fa213_19, Fa213_20, Fa213_21, Fa213_22, Fa213_23, Fa213_24, Fa213_25⟩ := (hIV125 _ _).mp FF213
       replace H := (S_rm0_1_3 _ _ _ _ _ _ _ _ _ _ _ _ _ _ _ _ _ _ _ _ _ _ _ _ _ _ _ _ _ _ _ _).symm.trans H
       show own_End p e below s (T213.setTop (mkF m 344 _ [])) _ _ _
       refine o_iconst X213 hx hby at_344 (x := 0) rfl ?_
       refine o_istore X213 hx hby at_345 (l' := #[wI p0, wI p1, wI p2, wI p3, wR b1, wR b29, wI la34, wI la35, wI la36, wR b40, wR b48, wR b59, wR b73, wI nn91, wI ga, wI gb, wI gc, wR b102, wI o119, wI o121, wI o123, wI 0, sl22, sl23]) (by rcases hsl21 with rfl | ⟨_, rfl⟩ <;> rfl) ?_
       refine o_iload X213 hx hby at_347 rfl ?_
       refine o_iconst X213 hx hby at_349 (x := 1) rfl ?_
       by_cases c350_214 : nn91.toInt < 1
       ·skip
        replace H := own_ifp c350_214 H
        refine o_icmpYes X213 hx (pc0 := 350) (pc' := 365) rfl hby at_350 (own_tlt (x := nn91) (y := 1) (i := nn91.toInt) (j := 1) rfl rfl c350_214).1 (by decide) (by decide) ?_
        exact IH1.2.2.2.2.1 (0 : Int32) 0 0 M T213 h213 _ X213 e213 N213 Z213 KP213 ((hIV125 _ _).mpr ⟨Fa213_0, Fa213_1, Fa213_2, Fa213_3, Fa213_4, Fa213_5, Fa213_6, Fa213_7, Fa213_8, Fa213_9, Fa213_10, Fa213_11, Fa213_12, Fa213_13, Fa213_14, Fa213_15, Fa213_16, Fa213_17, Fa213_18, Fa213_19, Fa213_20, Fa213_21, Fa213_22, Fa213_23, Fa213_24, Fa213_25⟩) (sl22) (sl23) hsl22 hsl23 H
       ·skip
        replace H := own_ifn c350_214 H
        refine o_icmpNo X213 hx hby at_350 (own_flt (x := nn91) (y := 1) (i := nn91.toInt) (j := 1) rfl rfl c350_214).1 ?_
        refine o_aload X213 hx hby at_353 rfl ?_
        refine o_iload X213 hx hby at_355 rfl ?_
        refine o_aload X213 hx hby at_357 rfl ?_
        refine o_iconst X213 hx hby at_359 (x := 0) rfl ?_
        obtain ⟨o215, ho215, H⟩ := own_bnd H
        refine o_cV X213 hx hZ hown (y := wy32) (hW 175 rfl) (hW 176 rfl) (hW 178 rfl) (hW 177 rfl) (by decide) Fa213_7 (backOf (W := 0) (rmRd l Z a0 hw [] b102 (0 : Int32) b73 (0 : Int32) (o103.1) (o103.2.1) ka118 kk118 ta118 kt118 (o103.2.2.2.2.2.2.1) (o103.2.2.2.2.2.2.2.1) fa118 kf118 (o103.2.2.1) (o103.2.2.2.2.2.2.2.2.1) sb89 sk89 (3 : Int32) (own_B3 nn91 o64 o67 o70) sv o215 cz h213 n0 Z213 Fa213_7 Fa213_8 Fa213_10 Fa213_11 Fa213_18 Fa213_19 Fa213_12 Fa213_20 Fa213_3 Fa213_4 Fa213_5 Fa213_6 S_C hcz Fa213_0 S_SF hsv ho215) hZ (hW 179 rfl) (hW 37 rfl) (by decide) (by decide)) (by rw [hml]; rfl) (argsL := [(.int 0), (.ref b73), (.int 0)]) (rest := []) (lenOf own_pd25 rfl) rfl rfl (Nat.le_of_eq rfl) e213 (by decide) (by decide) hby at_360 N213 fun T216 v216 Lc216 ls216 X216 hQ216 nq216 => ?_
        obtain ⟨rfl, N216q, e216⟩ := hQ216
        have N216 := nq216 N216q
        show own_End p e below s (T216.setTop (mkF m 363 _ [(.int o215)])) _ _ _
        refine o_istore X216 hx hby at_363 (l' := #[wI p0, wI p1, wI p2, wI p3, wR b1, wR b29, wI la34, wI la35, wI la36, wR b40, wR b48, wR b59, wR b73, wI nn91, wI ga, wI gb, wI gc, wR b102, wI o119, wI o121, wI o123, wI o215, sl22, sl23]) rfl ?_
        exact IH1.2.2.2.2.1 o215 0 0 M T216 h213 _ X216 e216 N216 Z213 KP213 ((hIV125 _ _).mpr ⟨Fa213_0, Fa213_1, Fa213_2, Fa213_3, Fa213_4, Fa213_5, Fa213_6, Fa213_7, Fa213_8, Fa213_9, Fa213_10, Fa213_11, Fa213_12, Fa213_13, Fa213_14, Fa213_15, Fa213_16, Fa213_17, Fa213_18, Fa213_19, Fa213_20, Fa213_21, Fa213_22, Fa213_23, Fa213_24, Fa213_25⟩) (sl22) (sl23) hsl22 hsl23 H
      ·skip
       intro sx be bl M T217 h217 ls217 X217 e217 N217 Z217 KP217 FF217 sl22 sl23 hsl22 hsl23 H
       obtain ⟨Fa217_0, Fa217_1, Fa217_2, Fa217_3, Fa217_4, Fa217_5, Fa217_6, Fa217_7, Fa217_8, Fa217_9, Fa217_10, Fa217_11, Fa217_12, Fa217_13, Fa217_14, Fa217_15, Fa217_16, Fa217_17, Fa217_18, Fa217_19, Fa217_20, Fa217_21, Fa217_22, Fa217_23, Fa217_24, Fa217_25⟩ := (hIV125 _ _).mp FF217
       replace H := (S_rm0_1_4 _ _ _ _ _ _ _ _ _ _ _ _ _ _ _ _ _ _ _ _ _ _ _ _ _ _ _ _ _ _ _ _).symm.trans H
       show own_End p e below s (T217.setTop (mkF m 365 _ [])) _ _ _
       refine o_iload X217 hx hby at_365 rfl ?_
       refine o_iconst X217 hx hby at_367 (x := 2) rfl ?_
       by_cases c368_218 : nn91.toInt < 2
       ·skip
        replace H := own_ifp c368_218 H
        refine o_icmpYes X217 hx (pc0 := 368) (pc' := 383) rfl hby at_368 (own_tlt (x := nn91) (y := 2) (i := nn91.toInt) (j := 2) rfl rfl c368_218).1 (by decide) (by decide) ?_
        exact IH1.2.2.2.2.2.1 sx 0 0 M T217 h217 _ X217 e217 N217 Z217 KP217 ((hIV125 _ _).mpr ⟨Fa217_0, Fa217_1, Fa217_2, Fa217_3, Fa217_4, Fa217_5, Fa217_6, Fa217_7, Fa217_8, Fa217_9, Fa217_10, Fa217_11, Fa217_12, Fa217_13, Fa217_14, Fa217_15, Fa217_16, Fa217_17, Fa217_18, Fa217_19, Fa217_20, Fa217_21, Fa217_22, Fa217_23, Fa217_24, Fa217_25⟩) (sl22) (sl23) hsl22 hsl23 H
       ·skip
        replace H := own_ifn c368_218 H
        refine o_icmpNo X217 hx hby at_368 (own_flt (x := nn91) (y := 2) (i := nn91.toInt) (j := 2) rfl rfl c368_218).1 ?_
        refine o_aload X217 hx hby at_371 rfl ?_
        refine o_iload X217 hx hby at_373 rfl ?_
        refine o_aload X217 hx hby at_375 rfl ?_
        refine o_iconst X217 hx hby at_377 (x := 1) rfl ?_
        obtain ⟨o219, ho219, H⟩ := own_bnd H
        refine o_cV X217 hx hZ hown (y := wy32) (hW 175 rfl) (hW 176 rfl) (hW 178 rfl) (hW 177 rfl) (by decide) Fa217_7 (backOf (W := 0) (rmRd l Z a0 hw [] b102 sx b73 (1 : Int32) (o103.1) (o103.2.1) ka118 kk118 ta118 kt118 (o103.2.2.2.2.2.2.1) (o103.2.2.2.2.2.2.2.1) fa118 kf118 (o103.2.2.1) (o103.2.2.2.2.2.2.2.2.1) sb89 sk89 (3 : Int32) (own_B3 nn91 o64 o67 o70) sv o219 cz h217 n0 Z217 Fa217_7 Fa217_8 Fa217_10 Fa217_11 Fa217_18 Fa217_19 Fa217_12 Fa217_20 Fa217_3 Fa217_4 Fa217_5 Fa217_6 S_C hcz Fa217_0 S_SF hsv ho219) hZ (hW 179 rfl) (hW 37 rfl) (by decide) (by decide)) (by rw [hml]; rfl) (argsL := [(.int sx), (.ref b73), (.int 1)]) (rest := []) (lenOf own_pd25 rfl) rfl rfl (Nat.le_of_eq rfl) e217 (by decide) (by decide) hby at_378 N217 fun T220 v220 Lc220 ls220 X220 hQ220 nq220 => ?_
        obtain ⟨rfl, N220q, e220⟩ := hQ220
        have N220 := nq220 N220q
        show own_End p e below s (T220.setTop (mkF m 381 _ [(.int o219)])) _ _ _
        refine o_istore X220 hx hby at_381 (l' := #[wI p0, wI p1, wI p2, wI p3, wR b1, wR b29, wI la34, wI la35, wI la36, wR b40, wR b48, wR b59, wR b73, wI nn91, wI ga, wI gb, wI gc, wR b102, wI o119, wI o121, wI o123, wI o219, sl22, sl23]) rfl ?_
        exact IH1.2.2.2.2.2.1 o219 0 0 M T220 h217 _ X220 e220 N220 Z217 KP217 ((hIV125 _ _).mpr ⟨Fa217_0, Fa217_1, Fa217_2, Fa217_3, Fa217_4, Fa217_5, Fa217_6, Fa217_7, Fa217_8, Fa217_9, Fa217_10, Fa217_11, Fa217_12, Fa217_13, Fa217_14, Fa217_15, Fa217_16, Fa217_17, Fa217_18, Fa217_19, Fa217_20, Fa217_21, Fa217_22, Fa217_23, Fa217_24, Fa217_25⟩) (sl22) (sl23) hsl22 hsl23 H
      ·skip
       intro sx be bl M T221 h221 ls221 X221 e221 N221 Z221 KP221 FF221 sl22 sl23 hsl22 hsl23 H
       obtain ⟨Fa221_0, Fa221_1, Fa221_2, Fa221_3, Fa221_4, Fa221_5, Fa221_6, Fa221_7, Fa221_8, Fa221_9, Fa221_10, Fa221_11, Fa221_12, Fa221_13, Fa221_14, Fa221_15, Fa221_16, Fa221_17, Fa221_18, Fa221_19, Fa221_20, Fa221_21, Fa221_22, Fa221_23, Fa221_24, Fa221_25⟩ := (hIV125 _ _).mp FF221
       replace H := (S_rm0_1_5 _ _ _ _ _ _ _ _ _ _ _ _ _ _ _ _ _ _ _ _ _ _ _ _ _ _ _ _ _ _ _ _).symm.trans H
       show own_End p e below s (T221.setTop (mkF m 383 _ [])) _ _ _
       refine o_iload X221 hx hby at_383 rfl ?_
       refine o_iconst X221 hx hby at_385 (x := 3) rfl ?_
       by_cases c386_222 : nn91.toInt < 3
       ·skip
        replace H := own_ifp c386_222 H
        refine o_icmpYes X221 hx (pc0 := 386) (pc' := 401) rfl hby at_386 (own_tlt (x := nn91) (y := 3) (i := nn91.toInt) (j := 3) rfl rfl c386_222).1 (by decide) (by decide) ?_
        exact IH1.2.2.2.2.2.2.1 sx 0 0 M T221 h221 _ X221 e221 N221 Z221 KP221 ((hIV125 _ _).mpr ⟨Fa221_0, Fa221_1, Fa221_2, Fa221_3, Fa221_4, Fa221_5, Fa221_6, Fa221_7, Fa221_8, Fa221_9, Fa221_10, Fa221_11, Fa221_12, Fa221_13, Fa221_14, Fa221_15, Fa221_16, Fa221_17, Fa221_18, Fa221_19, Fa221_20, Fa221_21, Fa221_22, Fa221_23, Fa221_24, Fa221_25⟩) (sl22) (sl23) hsl22 hsl23 H
       ·skip
        replace H := own_ifn c386_222 H
        refine o_icmpNo X221 hx hby at_386 (own_flt (x := nn91) (y := 3) (i := nn91.toInt) (j := 3) rfl rfl c386_222).1 ?_
        refine o_aload X221 hx hby at_389 rfl ?_
        refine o_iload X221 hx hby at_391 rfl ?_
        refine o_aload X221 hx hby at_393 rfl ?_
        refine o_iconst X221 hx hby at_395 (x := 2) rfl ?_
        obtain ⟨o223, ho223, H⟩ := own_bnd H
        refine o_cV X221 hx hZ hown (y := wy32) (hW 175 rfl) (hW 176 rfl) (hW 178 rfl) (hW 177 rfl) (by decide) Fa221_7 (backOf (W := 0) (rmRd l Z a0 hw [] b102 sx b73 (2 : Int32) (o103.1) (o103.2.1) ka118 kk118 ta118 kt118 (o103.2.2.2.2.2.2.1) (o103.2.2.2.2.2.2.2.1) fa118 kf118 (o103.2.2.1) (o103.2.2.2.2.2.2.2.2.1) sb89 sk89 (3 : Int32) (own_B3 nn91 o64 o67 o70) sv o223 cz h221 n0 Z221 Fa221_7 Fa221_8 Fa221_10 Fa221_11 Fa221_18 Fa221_19 Fa221_12 Fa221_20 Fa221_3 Fa221_4 Fa221_5 Fa221_6 S_C hcz Fa221_0 S_SF hsv ho223) hZ (hW 179 rfl) (hW 37 rfl) (by decide) (by decide)) (by rw [hml]; rfl) (argsL := [(.int sx), (.ref b73), (.int 2)]) (rest := []) (lenOf own_pd25 rfl) rfl rfl (Nat.le_of_eq rfl) e221 (by decide) (by decide) hby at_396 N221 fun T224 v224 Lc224 ls224 X224 hQ224 nq224 => ?_
        obtain ⟨rfl, N224q, e224⟩ := hQ224
        have N224 := nq224 N224q
        show own_End p e below s (T224.setTop (mkF m 399 _ [(.int o223)])) _ _ _
        refine o_istore X224 hx hby at_399 (l' := #[wI p0, wI p1, wI p2, wI p3, wR b1, wR b29, wI la34, wI la35, wI la36, wR b40, wR b48, wR b59, wR b73, wI nn91, wI ga, wI gb, wI gc, wR b102, wI o119, wI o121, wI o123, wI o223, sl22, sl23]) rfl ?_
        exact IH1.2.2.2.2.2.2.1 o223 0 0 M T224 h221 _ X224 e224 N224 Z221 KP221 ((hIV125 _ _).mpr ⟨Fa221_0, Fa221_1, Fa221_2, Fa221_3, Fa221_4, Fa221_5, Fa221_6, Fa221_7, Fa221_8, Fa221_9, Fa221_10, Fa221_11, Fa221_12, Fa221_13, Fa221_14, Fa221_15, Fa221_16, Fa221_17, Fa221_18, Fa221_19, Fa221_20, Fa221_21, Fa221_22, Fa221_23, Fa221_24, Fa221_25⟩) (sl22) (sl23) hsl22 hsl23 H
      ·skip
       intro sx be bl M T225 h225 ls225 X225 e225 N225 Z225 KP225 FF225 sl22 sl23 hsl22 hsl23 H
       obtain ⟨Fa225_0, Fa225_1, Fa225_2, Fa225_3, Fa225_4, Fa225_5, Fa225_6, Fa225_7, Fa225_8, Fa225_9, Fa225_10, Fa225_11, Fa225_12, Fa225_13, Fa225_14, Fa225_15, Fa225_16, Fa225_17, Fa225_18, Fa225_19, Fa225_20, Fa225_21, Fa225_22, Fa225_23, Fa225_24, Fa225_25⟩ := (hIV125 _ _).mp FF225
       replace H := (S_rm0_1_6 _ _ _ _ _ _ _ _ _ _ _ _ _ _ _ _ _ _ _ _ _ _ _ _ _ _ _ _ _ _ _ _).symm.trans H
       show own_End p e below s (T225.setTop (mkF m 401 _ [])) _ _ _
       refine o_iconst X225 hx hby at_401 (x := (-1)) rfl ?_
       refine o_istore X225 hx hby at_402 (l' := #[wI p0, wI p1, wI p2, wI p3, wR b1, wR b29, wI la34, wI la35, wI la36, wR b40, wR b48, wR b59, wR b73, wI nn91, wI ga, wI gb, wI gc, wR b102, wI o119, wI o121, wI o123, wI sx, wI (-1), sl23]) (by rcases hsl22 with rfl | ⟨_, rfl⟩ <;> rfl) ?_
       refine o_iconst X225 hx hby at_404 (x := 0) rfl ?_
       refine o_istore X225 hx hby at_405 (l' := #[wI p0, wI p1, wI p2, wI p3, wR b1, wR b29, wI la34, wI la35, wI la36, wR b40, wR b48, wR b59, wR b73, wI nn91, wI ga, wI gb, wI gc, wR b102, wI o119, wI o121, wI o123, wI sx, wI (-1), wI 0]) (by rcases hsl23 with rfl | ⟨_, rfl⟩ <;> rfl) ?_
       refine o_iload X225 hx hby at_407 rfl ?_
       by_cases c409_226 : ga.toInt = 0
       ·skip
        replace H := own_ifp c409_226 H
        refine o_ifYes X225 hx (pc0 := 409) (pc' := 442) rfl hby at_409 ((if0 _ _).trans (own_eq (x := ga) (y := 0) (i := ga.toInt) (j := 0) rfl rfl c409_226).1) (by decide) (by decide) ?_
        exact IH1.2.2.2.2.2.2.2.1 sx (-1 : Int32) (0 : Int32) M T225 h225 _ X225 e225 N225 Z225 KP225 ((hIV125 _ _).mpr ⟨Fa225_0, Fa225_1, Fa225_2, Fa225_3, Fa225_4, Fa225_5, Fa225_6, Fa225_7, Fa225_8, Fa225_9, Fa225_10, Fa225_11, Fa225_12, Fa225_13, Fa225_14, Fa225_15, Fa225_16, Fa225_17, Fa225_18, Fa225_19, Fa225_20, Fa225_21, Fa225_22, Fa225_23, Fa225_24, Fa225_25⟩)   H
       ·skip
        replace H := own_ifn c409_226 H
        refine o_ifNo X225 hx hby at_409 ((if0 _ _).trans (own_ne (x := ga) (y := 0) (i := ga.toInt) (j := 0) rfl rfl c409_226).1) ?_
        refine o_aload X225 hx hby at_412 rfl ?_
        refine o_iconst X225 hx hby at_414 (x := 0) rfl ?_
        refine o_iload X225 hx hby at_415 rfl ?_
        refine o_aload X225 hx hby at_417 rfl ?_
        refine o_iload X225 hx hby at_419 rfl ?_
        obtain ⟨o227, ho227, H⟩ := own_bnd H
        refine o_cS X225 hx hZ hown (y := wy34) (hW 184 rfl) (hW 185 rfl) (hW 3 rfl) (hW 186 rfl) (by decide) (backOf (W := 0) (rmSuf l Z a0 hw [] b1 (0 : Int32) la34 b59 nn91 k1 [o2, o5, o8, o11, o14, o17, o20, o23, o26] k59 [o64, o67, o70] o227 h225 n0 Z225 Fa225_1 Fa225_2 ho227) hZ (hW 186 rfl) (hW 3 rfl) (by decide) (by decide)) (by rw [hml]; rfl) (argsL := [(.ref b1), (.int 0), (.int la34), (.ref b59), (.int nn91)]) (rest := []) (lenOf own_pd26 rfl) rfl rfl (Nat.le_of_eq rfl) e225 (by decide) (by decide) hby at_421 N225 fun T228 v228 Lc228 ls228 X228 hQ228 nq228 => ?_
        obtain ⟨rfl, N228q, e228⟩ := hQ228
        have N228 := nq228 N228q
        show own_End p e below s (T228.setTop (mkF m 424 _ [(.int o227)])) _ _ _
        by_cases c424_229 : o227.toInt = 0
        ·skip
         replace H := own_ifp c424_229 H
         refine o_ifYes X228 hx (pc0 := 424) (pc' := 442) rfl hby at_424 ((if0 _ _).trans (own_eq (x := o227) (y := 0) (i := o227.toInt) (j := 0) rfl rfl c424_229).1) (by decide) (by decide) ?_
         exact IH1.2.2.2.2.2.2.2.1 sx (-1 : Int32) (0 : Int32) M T228 h225 _ X228 e228 N228 Z225 KP225 ((hIV125 _ _).mpr ⟨Fa225_0, Fa225_1, Fa225_2, Fa225_3, Fa225_4, Fa225_5, Fa225_6, Fa225_7, Fa225_8, Fa225_9, Fa225_10, Fa225_11, Fa225_12, Fa225_13, Fa225_14, Fa225_15, Fa225_16, Fa225_17, Fa225_18, Fa225_19, Fa225_20, Fa225_21, Fa225_22, Fa225_23, Fa225_24, Fa225_25⟩)   H
        ·skip
         replace H := own_ifn c424_229 H
         refine o_ifNo X228 hx hby at_424 ((if0 _ _).trans (own_ne (x := o227) (y := 0) (i := o227.toInt) (j := 0) rfl rfl c424_229).1) ?_
         refine o_iload X228 hx hby at_427 rfl ?_
         refine o_iload X228 hx hby at_429 rfl ?_
         by_cases c431_230 : 0 < la34.toInt
         ·skip
          replace H := own_ifp c431_230 H
          refine o_icmpNo X228 hx hby at_431 (own_tlt (x := 0) (y := la34) (i := 0) (j := la34.toInt) rfl rfl c431_230).2.2.2 ?_
          refine o_iload X228 hx hby at_434 rfl ?_
          refine o_istore X228 hx hby at_436 (l' := #[wI p0, wI p1, wI p2, wI p3, wR b1, wR b29, wI la34, wI la35, wI la36, wR b40, wR b48, wR b59, wR b73, wI nn91, wI ga, wI gb, wI gc, wR b102, wI o119, wI o121, wI o123, wI sx, wI o119, wI 0]) rfl ?_
          refine o_iload X228 hx hby at_438 rfl ?_
          refine o_istore X228 hx hby at_440 (l' := #[wI p0, wI p1, wI p2, wI p3, wR b1, wR b29, wI la34, wI la35, wI la36, wR b40, wR b48, wR b59, wR b73, wI nn91, wI ga, wI gb, wI gc, wR b102, wI o119, wI o121, wI o123, wI sx, wI o119, wI la34]) rfl ?_
          exact IH1.2.2.2.2.2.2.2.1 sx o119 la34 M T228 h225 _ X228 e228 N228 Z225 KP225 ((hIV125 _ _).mpr ⟨Fa225_0, Fa225_1, Fa225_2, Fa225_3, Fa225_4, Fa225_5, Fa225_6, Fa225_7, Fa225_8, Fa225_9, Fa225_10, Fa225_11, Fa225_12, Fa225_13, Fa225_14, Fa225_15, Fa225_16, Fa225_17, Fa225_18, Fa225_19, Fa225_20, Fa225_21, Fa225_22, Fa225_23, Fa225_24, Fa225_25⟩)   H
         ·skip
          replace H := own_ifn c431_230 H
          refine o_icmpYes X228 hx (pc0 := 431) (pc' := 442) rfl hby at_431 (own_flt (x := 0) (y := la34) (i := 0) (j := la34.toInt) rfl rfl c431_230).2.2.2 (by decide) (by decide) ?_
          exact IH1.2.2.2.2.2.2.2.1 sx (-1 : Int32) (0 : Int32) M T228 h225 _ X228 e228 N228 Z225 KP225 ((hIV125 _ _).mpr ⟨Fa225_0, Fa225_1, Fa225_2, Fa225_3, Fa225_4, Fa225_5, Fa225_6, Fa225_7, Fa225_8, Fa225_9, Fa225_10, Fa225_11, Fa225_12, Fa225_13, Fa225_14, Fa225_15, Fa225_16, Fa225_17, Fa225_18, Fa225_19, Fa225_20, Fa225_21, Fa225_22, Fa225_23, Fa225_24, Fa225_25⟩)   H
      ·skip
       intro sx be bl M T231 h231 ls231 X231 e231 N231 Z231 KP231 FF231   H
       obtain ⟨Fa231_0, Fa231_1, Fa231_2, Fa231_3, Fa231_4, Fa231_5, Fa231_6, Fa231_7, Fa231_8, Fa231_9, Fa231_10, Fa231_11, Fa231_12, Fa231_13, Fa231_14, Fa231_15, Fa231_16, Fa231_17, Fa231_18, Fa231_19, Fa231_20, Fa231_21, Fa231_22, Fa231_23, Fa231_24, Fa231_25⟩ := (hIV125 _ _).mp FF231
       replace H := (S_rm0_1_7 _ _ _ _ _ _ _ _ _ _ _ _ _ _ _ _ _ _ _ _ _ _ _ _ _ _ _ _ _ _ _ _).symm.trans H
       show own_End p e below s (T231.setTop (mkF m 442 _ [])) _ _ _
       refine o_iload X231 hx hby at_442 rfl ?_
       by_cases c444_232 : gb.toInt = 0
       ·skip
        replace H := own_ifp c444_232 H
        refine o_ifYes X231 hx (pc0 := 444) (pc' := 477) rfl hby at_444 ((if0 _ _).trans (own_eq (x := gb) (y := 0) (i := gb.toInt) (j := 0) rfl rfl c444_232).1) (by decide) (by decide) ?_
        exact IH1.2.2.2.2.2.2.2.2.1 sx be bl M T231 h231 _ X231 e231 N231 Z231 KP231 ((hIV125 _ _).mpr ⟨Fa231_0, Fa231_1, Fa231_2, Fa231_3, Fa231_4, Fa231_5, Fa231_6, Fa231_7, Fa231_8, Fa231_9, Fa231_10, Fa231_11, Fa231_12, Fa231_13, Fa231_14, Fa231_15, Fa231_16, Fa231_17, Fa231_18, Fa231_19, Fa231_20, Fa231_21, Fa231_22, Fa231_23, Fa231_24, Fa231_25⟩)   H
       ·skip
        replace H := own_ifn c444_232 H
        refine o_ifNo X231 hx hby at_444 ((if0 _ _).trans (own_ne (x := gb) (y := 0) (i := gb.toInt) (j := 0) rfl rfl c444_232).1) ?_
        refine o_aload X231 hx hby at_447 rfl ?_
        refine o_iconst X231 hx hby at_449 (x := 3) rfl ?_
        refine o_iload X231 hx hby at_450 rfl ?_
        refine o_aload X231 hx hby at_452 rfl ?_
        refine o_iload X231 hx hby at_454 rfl ?_
        obtain ⟨o233, ho233, H⟩ := own_bnd H
        refine o_cS X231 hx hZ hown (y := wy34) (hW 184 rfl) (hW 185 rfl) (hW 3 rfl) (hW 186 rfl) (by decide) (backOf (W := 0) (rmSuf l Z a0 hw [] b1 (3 : Int32) la35 b59 nn91 k1 [o2, o5, o8, o11, o14, o17, o20, o23, o26] k59 [o64, o67, o70] o233 h231 n0 Z231 Fa231_1 Fa231_2 ho233) hZ (hW 186 rfl) (hW 3 rfl) (by decide) (by decide)) (by rw [hml]; rfl) (argsL := [(.ref b1), (.int 3), (.int la35), (.ref b59), (.int nn91)]) (rest := []) (lenOf own_pd26 rfl) rfl rfl (Nat.le_of_eq rfl) e231 (by decide) (by decide) hby at_456 N231 fun T234 v234 Lc234 ls234 X234 hQ234 nq234 => ?_
        obtain ⟨rfl, N234q, e234⟩ := hQ234
        have N234 := nq234 N234q
        show own_End p e below s (T234.setTop (mkF m 459 _ [(.int o233)])) _ _ _
        by_cases c459_235 : o233.toInt = 0
        ·skip
         replace H := own_ifp c459_235 H
         refine o_ifYes X234 hx (pc0 := 459) (pc' := 477) rfl hby at_459 ((if0 _ _).trans (own_eq (x := o233) (y := 0) (i := o233.toInt) (j := 0) rfl rfl c459_235).1) (by decide) (by decide) ?_
         exact IH1.2.2.2.2.2.2.2.2.1 sx be bl M T234 h231 _ X234 e234 N234 Z231 KP231 ((hIV125 _ _).mpr ⟨Fa231_0, Fa231_1, Fa231_2, Fa231_3, Fa231_4, Fa231_5, Fa231_6, Fa231_7, Fa231_8, Fa231_9, Fa231_10, Fa231_11, Fa231_12, Fa231_13, Fa231_14, Fa231_15, Fa231_16, Fa231_17, Fa231_18, Fa231_19, Fa231_20, Fa231_21, Fa231_22, Fa231_23, Fa231_24, Fa231_25⟩)   H
        ·skip
         replace H := own_ifn c459_235 H
         refine o_ifNo X234 hx hby at_459 ((if0 _ _).trans (own_ne (x := o233) (y := 0) (i := o233.toInt) (j := 0) rfl rfl c459_235).1) ?_
         refine o_iload X234 hx hby at_462 rfl ?_
         refine o_iload X234 hx hby at_464 rfl ?_
         by_cases c466_236 : bl.toInt < la35.toInt
         ·skip
          replace H := own_ifp c466_236 H
          refine o_icmpNo X234 hx hby at_466 (own_tlt (x := bl) (y := la35) (i := bl.toInt) (j := la35.toInt) rfl rfl c466_236).2.2.2 ?_
          refine o_iload X234 hx hby at_469 rfl ?_
          refine o_istore X234 hx hby at_471 (l' := #[wI p0, wI p1, wI p2, wI p3, wR b1, wR b29, wI la34, wI la35, wI la36, wR b40, wR b48, wR b59, wR b73, wI nn91, wI ga, wI gb, wI gc, wR b102, wI o119, wI o121, wI o123, wI sx, wI o121, wI bl]) rfl ?_
          refine o_iload X234 hx hby at_473 rfl ?_
          refine o_istore X234 hx hby at_475 (l' := #[wI p0, wI p1, wI p2, wI p3, wR b1, wR b29, wI la34, wI la35, wI la36, wR b40, wR b48, wR b59, wR b73, wI nn91, wI ga, wI gb, wI gc, wR b102, wI o119, wI o121, wI o123, wI sx, wI o121, wI la35]) rfl ?_
          exact IH1.2.2.2.2.2.2.2.2.1 sx o121 la35 M T234 h231 _ X234 e234 N234 Z231 KP231 ((hIV125 _ _).mpr ⟨Fa231_0, Fa231_1, Fa231_2, Fa231_3, Fa231_4, Fa231_5, Fa231_6, Fa231_7, Fa231_8, Fa231_9, Fa231_10, Fa231_11, Fa231_12, Fa231_13, Fa231_14, Fa231_15, Fa231_16, Fa231_17, Fa231_18, Fa231_19, Fa231_20, Fa231_21, Fa231_22, Fa231_23, Fa231_24, Fa231_25⟩)   H
         ·skip
          replace H := own_ifn c466_236 H
          refine o_icmpYes X234 hx (pc0 := 466) (pc' := 477) rfl hby at_466 (own_flt (x := bl) (y := la35) (i := bl.toInt) (j := la35.toInt) rfl rfl c466_236).2.2.2 (by decide) (by decide) ?_
          exact IH1.2.2.2.2.2.2.2.2.1 sx be bl M T234 h231 _ X234 e234 N234 Z231 KP231 ((hIV125 _ _).mpr ⟨Fa231_0, Fa231_1, Fa231_2, Fa231_3, Fa231_4, Fa231_5, Fa231_6, Fa231_7, Fa231_8, Fa231_9, Fa231_10, Fa231_11, Fa231_12, Fa231_13, Fa231_14, Fa231_15, Fa231_16, Fa231_17, Fa231_18, Fa231_19, Fa231_20, Fa231_21, Fa231_22, Fa231_23, Fa231_24, Fa231_25⟩)   H
      ·skip
       intro sx be bl M T237 h237 ls237 X237 e237 N237 Z237 KP237 FF237   H
       obtain ⟨Fa237_0, Fa237_1, Fa237_2, Fa237_3, Fa237_4, Fa237_5, Fa237_6, Fa237_7, Fa237_8, Fa237_9, Fa237_10, Fa237_11, Fa237_12, Fa237_13, Fa237_14, Fa237_15, Fa237_16, Fa237_17, Fa237_18, Fa237_19, Fa237_20, Fa237_21, Fa237_22, Fa237_23, Fa237_24, Fa237_25⟩ := (hIV125 _ _).mp FF237
       replace H := (S_rm0_1_8 _ _ _ _ _ _ _ _ _ _ _ _ _ _ _ _ _ _ _ _ _ _ _ _ _ _ _ _ _ _ _ _).symm.trans H
       show own_End p e below s (T237.setTop (mkF m 477 _ [])) _ _ _
       refine o_iload X237 hx hby at_477 rfl ?_
       by_cases c479_238 : gc.toInt = 0
       ·skip
        replace H := own_ifp c479_238 H
        refine o_ifYes X237 hx (pc0 := 479) (pc' := 513) rfl hby at_479 ((if0 _ _).trans (own_eq (x := gc) (y := 0) (i := gc.toInt) (j := 0) rfl rfl c479_238).1) (by decide) (by decide) ?_
        exact IH1.2.2.2.2.2.2.2.2.2 sx be bl M T237 h237 _ X237 e237 N237 Z237 KP237 ((hIV125 _ _).mpr ⟨Fa237_0, Fa237_1, Fa237_2, Fa237_3, Fa237_4, Fa237_5, Fa237_6, Fa237_7, Fa237_8, Fa237_9, Fa237_10, Fa237_11, Fa237_12, Fa237_13, Fa237_14, Fa237_15, Fa237_16, Fa237_17, Fa237_18, Fa237_19, Fa237_20, Fa237_21, Fa237_22, Fa237_23, Fa237_24, Fa237_25⟩)   H
       ·skip
        replace H := own_ifn c479_238 H
        refine o_ifNo X237 hx hby at_479 ((if0 _ _).trans (own_ne (x := gc) (y := 0) (i := gc.toInt) (j := 0) rfl rfl c479_238).1) ?_
        refine o_aload X237 hx hby at_482 rfl ?_
        refine o_bipush X237 hx hby at_484 (x := 6) rfl ?_
        refine o_iload X237 hx hby at_486 rfl ?_
        refine o_aload X237 hx hby at_488 rfl ?_
        refine o_iload X237 hx hby at_490 rfl ?_
        obtain ⟨o239, ho239, H⟩ := own_bnd H
        refine o_cS X237 hx hZ hown (y := wy34) (hW 184 rfl) (hW 185 rfl) (hW 3 rfl) (hW 186 rfl) (by decide) (backOf (W := 0) (rmSuf l Z a0 hw [] b1 (6 : Int32) la36 b59 nn91 k1 [o2, o5, o8, o11, o14, o17, o20, o23, o26] k59 [o64, o67, o70] o239 h237 n0 Z237 Fa237_1 Fa237_2 ho239) hZ (hW 186 rfl) (hW 3 rfl) (by decide) (by decide)) (by rw [hml]; rfl) (argsL := [(.ref b1), (.int 6), (.int la36), (.ref b59), (.int nn91)]) (rest := []) (lenOf own_pd26 rfl) rfl rfl (Nat.le_of_eq rfl) e237 (by decide) (by decide) hby at_492 N237 fun T240 v240 Lc240 ls240 X240 hQ240 nq240 => ?_
        obtain ⟨rfl, N240q, e240⟩ := hQ240
        have N240 := nq240 N240q
        show own_End p e below s (T240.setTop (mkF m 495 _ [(.int o239)])) _ _ _
        by_cases c495_241 : o239.toInt = 0
        ·skip
         replace H := own_ifp c495_241 H
         refine o_ifYes X240 hx (pc0 := 495) (pc' := 513) rfl hby at_495 ((if0 _ _).trans (own_eq (x := o239) (y := 0) (i := o239.toInt) (j := 0) rfl rfl c495_241).1) (by decide) (by decide) ?_
         exact IH1.2.2.2.2.2.2.2.2.2 sx be bl M T240 h237 _ X240 e240 N240 Z237 KP237 ((hIV125 _ _).mpr ⟨Fa237_0, Fa237_1, Fa237_2, Fa237_3, Fa237_4, Fa237_5, Fa237_6, Fa237_7, Fa237_8, Fa237_9, Fa237_10, Fa237_11, Fa237_12, Fa237_13, Fa237_14, Fa237_15, Fa237_16, Fa237_17, Fa237_18, Fa237_19, Fa237_20, Fa237_21, Fa237_22, Fa237_23, Fa237_24, Fa237_25⟩)   H
        ·skip
         replace H := own_ifn c495_241 H
         refine o_ifNo X240 hx hby at_495 ((if0 _ _).trans (own_ne (x := o239) (y := 0) (i := o239.toInt) (j := 0) rfl rfl c495_241).1) ?_
         refine o_iload X240 hx hby at_498 rfl ?_
         refine o_iload X240 hx hby at_500 rfl ?_
         by_cases c502_242 : bl.toInt < la36.toInt
         ·skip
          replace H := own_ifp c502_242 H
          refine o_icmpNo X240 hx hby at_502 (own_tlt (x := bl) (y := la36) (i := bl.toInt) (j := la36.toInt) rfl rfl c502_242).2.2.2 ?_
          refine o_iload X240 hx hby at_505 rfl ?_
          refine o_istore X240 hx hby at_507 (l' := #[wI p0, wI p1, wI p2, wI p3, wR b1, wR b29, wI la34, wI la35, wI la36, wR b40, wR b48, wR b59, wR b73, wI nn91, wI ga, wI gb, wI gc, wR b102, wI o119, wI o121, wI o123, wI sx, wI o123, wI bl]) rfl ?_
          refine o_iload X240 hx hby at_509 rfl ?_
          refine o_istore X240 hx hby at_511 (l' := #[wI p0, wI p1, wI p2, wI p3, wR b1, wR b29, wI la34, wI la35, wI la36, wR b40, wR b48, wR b59, wR b73, wI nn91, wI ga, wI gb, wI gc, wR b102, wI o119, wI o121, wI o123, wI sx, wI o123, wI la36]) rfl ?_
          exact IH1.2.2.2.2.2.2.2.2.2 sx o123 la36 M T240 h237 _ X240 e240 N240 Z237 KP237 ((hIV125 _ _).mpr ⟨Fa237_0, Fa237_1, Fa237_2, Fa237_3, Fa237_4, Fa237_5, Fa237_6, Fa237_7, Fa237_8, Fa237_9, Fa237_10, Fa237_11, Fa237_12, Fa237_13, Fa237_14, Fa237_15, Fa237_16, Fa237_17, Fa237_18, Fa237_19, Fa237_20, Fa237_21, Fa237_22, Fa237_23, Fa237_24, Fa237_25⟩)   H
         ·skip
          replace H := own_ifn c502_242 H
          refine o_icmpYes X240 hx (pc0 := 502) (pc' := 513) rfl hby at_502 (own_flt (x := bl) (y := la36) (i := bl.toInt) (j := la36.toInt) rfl rfl c502_242).2.2.2 (by decide) (by decide) ?_
          exact IH1.2.2.2.2.2.2.2.2.2 sx be bl M T240 h237 _ X240 e240 N240 Z237 KP237 ((hIV125 _ _).mpr ⟨Fa237_0, Fa237_1, Fa237_2, Fa237_3, Fa237_4, Fa237_5, Fa237_6, Fa237_7, Fa237_8, Fa237_9, Fa237_10, Fa237_11, Fa237_12, Fa237_13, Fa237_14, Fa237_15, Fa237_16, Fa237_17, Fa237_18, Fa237_19, Fa237_20, Fa237_21, Fa237_22, Fa237_23, Fa237_24, Fa237_25⟩)   H
      ·skip
       intro sx be bl M T243 h243 ls243 X243 e243 N243 Z243 KP243 FF243   H
       obtain ⟨Fa243_0, Fa243_1, Fa243_2, Fa243_3, Fa243_4, Fa243_5, Fa243_6, Fa243_7, Fa243_8, Fa243_9, Fa243_10, Fa243_11, Fa243_12, Fa243_13, Fa243_14, Fa243_15, Fa243_16, Fa243_17, Fa243_18, Fa243_19, Fa243_20, Fa243_21, Fa243_22, Fa243_23, Fa243_24, Fa243_25⟩ := (hIV125 _ _).mp FF243
       replace H := (S_rm0_1_9 _ _ _ _ _ _ _ _ _ _ _ _ _ _ _ _ _ _ _ _ _ _ _ _ _ _ _ _ _ _ _ _).symm.trans H
       show own_End p e below s (T243.setTop (mkF m 513 _ [])) _ _ _
       refine o_aload X243 hx hby at_513 rfl ?_
       refine o_iload X243 hx hby at_515 rfl ?_
       obtain ⟨o244, ho244, H⟩ := own_bnd H
       refine o_cV X243 hx hZ hown (y := wy35) (hW 187 rfl) (hW 188 rfl) (hW 190 rfl) (hW 189 rfl) (by decide) Fa243_7 (backOf (W := 0) (rmLo l Z a0 hw [] b102 sx (o103.2.2.2.2.1) ma118 km118 (o103.2.2.2.2.2.1) M wa118 kx118 (o103.2.2.2.1) (o103.2.2.2.2.2.2.2.2.2.2.2.2.2.1) su118 ks118 (o103.2.2.1) (o103.2.2.2.2.2.2.2.2.2.1) pa118 kp118 (o103.2.2.2.2.2.2.2.2.2.2.2.1) o244 h243 n0 Z243 Fa243_7 Fa243_9 Fa243_17 Fa243_25 Fa243_16 Fa243_24 Fa243_13 Fa243_21 Fa243_14 Fa243_22 ho244) hZ (hW 191 rfl) (hW 37 rfl) (by decide) (by decide)) (by rw [hml]; rfl) (argsL := [(.int sx)]) (rest := []) (lenOf own_pd2 rfl) rfl rfl (Nat.le_of_eq rfl) e243 (by decide) (by decide) hby at_517 N243 fun T245 v245 Lc245 ls245 X245 hQ245 nq245 => ?_
       obtain ⟨rfl, N245q, e245⟩ := hQ245
       have N245 := nq245 N245q
       show own_End p e below s (T245.setTop (mkF m 520 _ [(.int o244)])) _ _ _
       refine o_iload X245 hx hby at_520 rfl ?_
       by_cases c522_246 : o244.toInt = be.toInt
       ·skip
        replace H := own_ifp c522_246 H
        refine o_icmpNo X245 hx hby at_522 (own_eq (x := o244) (y := be) (i := o244.toInt) (j := be.toInt) rfl rfl c522_246).2 ?_
        refine o_iconst X245 hx hby at_525 (x := 1) rfl ?_
        refine o_goto X245 hx (pc0 := 526) (pc' := 530) rfl hby at_526 (by decide) (by decide) ?_
        obtain rfl := Option.some.inj H
        refine own_ret X245 (v := some (.int 1)) (fun h => by rw [Bd.returns] at h; cases h) Bd.notSynchronized (fun fs hr => retN X245 hx (t := .boolean) Bd.returns (by simp) (hb hby at_530) hr) ?_ (by decide) (by decide)
        ·rw [e245]; exact ⟨rfl, N245, KP243⟩
       ·skip
        replace H := own_ifn c522_246 H
        refine o_icmpYes X245 hx (pc0 := 522) (pc' := 529) rfl hby at_522 (own_ne (x := o244) (y := be) (i := o244.toInt) (j := be.toInt) rfl rfl c522_246).2 (by decide) (by decide) ?_
        refine o_iconst X245 hx hby at_529 (x := 0) rfl ?_
        obtain rfl := Option.some.inj H
        refine own_ret X245 (v := some (.int 0)) (fun h => by rw [Bd.returns] at h; cases h) Bd.notSynchronized (fun fs hr => retN X245 hx (t := .boolean) Bd.returns (by simp) (hb hby at_530) hr) ?_ (by decide) (by decide)
        ·rw [e245]; exact ⟨rfl, N245, KP243⟩
    have U247 := (U111.keep K118 (allS g_b102 all0))
    have U248 := (U112.keep K118 (ninS ne_b1_b102 nin0))
    have U249 := (U113.keep K118 (ninS ne_b59_b102 nin0))
    have U250 := (U114.keep K118)
    have U251 := (U115.keep K118 (ninS ne_b73_b102 nin0))
    have U252 := (U116.keep K118 (ninS ne_b73_b102 nin0))
    have U253 := (U117.keep K118 (ninS ne_sb89_b102 nin0))
    exact (J1 14).1 0 0 0 o103.2.2.2.2.2.2.2.2.2.2.2.2.2.2 T124 T118.heap _ X124 e124 N124 Z118 KP118 ((hIV125 _ _).mpr ⟨U247, U248, U249, U250, U251, U252, U253, P0_118, P1_118, P2_118, P3_118, P4_118, P5_118, P6_118, P8_118, P9_118, P10_118, P11_118, P12_118, P13_118, P14_118, P15_118, P17_118, P18_118, P19_118, P20_118⟩) (wU) (wU) (wU) (Or.inl rfl) (Or.inl rfl) (Or.inl rfl) H
 have U254 := (U88.keep K89 (allS g_b73 all0))
 have U255 := (U79.keep K89 (ninS ne_b1_b73 nin0))
 have U256 := (U80.keep K89)
 have U257 := (U81.keep K89 (ninS ne_b29_b73 nin0))
 have U258 := (U82.keep K89 (ninS ne_b29_b73 nin0))
 have U259 := (U83.keep K89 (ninS ne_sb32_b73 nin0))
 have U260 := (U84.keep K89)
 have U261 := (U85.keep K89 (ninS ne_b40_b73 nin0))
 have U262 := (U86.keep K89 (ninS ne_b48_b73 nin0))
 exact (J0 5).1 0 0 0 T89 T89.heap _ X89 rfl N89 Z89 KP89 ((hIV94 _).mpr ⟨U254, U255, U256, U257, U258, U259, U260, U261, U262, Ac92, E90, Fv90, Fc90, Ab92⟩) (wU) (wU) (wU) (Or.inl rfl) (Or.inl rfl) (Or.inl rfl) H
/-! THE PLAIN LAW: tables and checks, printed by plain477.py -/
section OwnPlain
abbrev own_O : Type := Int32 × Int32 × Int32 × Int32 × Int32 × Int32 × List Int64 × List Int32 × List Int32 × List Int32 × List Int32 × List Int32 × List Int32 × List Int32 × List Int32
abbrev own_Tau : Type := List Int32 × List Int32 × List Int32 × List Int32 × Int32 × List Int32
abbrev own_Al : Type := Int32 × Bool × Bool × Bool
abbrev own_Wd : Type := (Int32 × Int32 × Int32 × Int32) × List Bool
def own_tau (o : own_O) : own_Tau := (o.2.2.2.2.2.2.2.2.2.2.1, o.2.2.2.2.2.2.2.2.2.2.2.1, o.2.2.2.2.2.2.2.2.2.2.2.2.1, o.2.2.2.2.2.2.2.2.2.2.2.2.2.1, o.2.2.2.2.1, o.2.2.2.2.2.2.2.2.2.2.2.2.2.2)
/-! the words: length and letters (97 beyond the length); of which texts (0: none; 2k + 1, 2k + 2: text k and a, b) they are suffixes -/
set_option maxHeartbeats 4000000 in
def own_words : List own_Wd := [((1, 97, 97, 97), [false, true, false, true, false, true, false, true, false, true, false, true, false, true, false]), ((1, 98, 97, 97), [false, false, true, false, true, false, true, false, true, false, true, false, true, false, true]), ((2, 97, 97, 97), [false, false, false, true, false, false, false, true, false, false, false, true, false, false, false]), ((2, 97, 98, 97), [false, false, false, false, true, false, false, false, true, false, false, false, true, false, false]), ((2, 98, 97, 97), [false, false, false, false, false, true, false, false, false, true, false, false, false, true, false]), ((2, 98, 98, 97), [false, false, false, false, false, false, true, false, false, false, true, false, false, false, true]), ((3, 97, 97, 97), [false, false, false, false, false, false, false, true, false, false, false, false, false, false, false]), ((3, 97, 97, 98), [false, false, false, false, false, false, false, false, true, false, false, false, false, false, false]), ((3, 97, 98, 97), [false, false, false, false, false, false, false, false, false, true, false, false, false, false, false]), ((3, 97, 98, 98), [false, false, false, false, false, false, false, false, false, false, true, false, false, false, false]), ((3, 98, 97, 97), [false, false, false, false, false, false, false, false, false, false, false, true, false, false, false]), ((3, 98, 97, 98), [false, false, false, false, false, false, false, false, false, false, false, false, true, false, false]), ((3, 98, 98, 97), [false, false, false, false, false, false, false, false, false, false, false, false, false, true, false]), ((3, 98, 98, 98), [false, false, false, false, false, false, false, false, false, false, false, false, false, false, true])]
set_option maxHeartbeats 4000000 in
def own_tab : List (own_Tau × List own_Al) := [(([0, 0, 0], [0], [0], [0], 1, [-1, -1]), [(-1, false, false, false), (0, true, true, true)]), (([0, 0, 1], [0, 1], [1, 1], [0, 1], 2, [-1, -1, -1, -1]), [(-1, false, false, false), (0, true, true, false), (1, true, true, true)]), (([0, 0, 1], [1, 0], [1, 0], [1, 0], 2, [-1, -1, -1, -1]), [(-1, false, false, false), (0, true, true, false), (1, false, false, true)]), (([0, 1, 0], [0, 1], [1, 1], [0, 1], 2, [-1, -1, -1, -1]), [(-1, false, false, false), (0, true, false, true), (1, true, true, true)]), (([0, 1, 0], [1, 0], [1, 0], [1, 0], 2, [-1, -1, -1, -1]), [(-1, false, false, false), (0, true, false, true), (1, false, true, false)]), (([0, 1, 1], [0, 1], [1, 1], [0, 1], 2, [-1, -1, -1, -1]), [(-1, false, false, false), (0, true, false, false), (1, true, true, true)]), (([0, 1, 1], [1, 0], [1, 0], [1, 0], 2, [-1, -1, -1, -1]), [(-1, false, false, false), (0, true, false, false), (1, false, true, true)]), (([0, 1, 2], [0, 1, 2], [2, 2, 2], [0, 1, 2], 4, [-1, -1, -1, -1, -1, -1, -1, -1]), [(-1, false, false, false), (0, true, false, false), (1, true, true, false), (2, true, true, true)]), (([0, 1, 2], [0, 2, 1], [2, 2, 1], [0, 2, 1], 4, [-1, -1, -1, -1, -1, -1, -1, -1]), [(-1, false, false, false), (0, true, false, false), (1, true, true, false), (2, true, false, true)]), (([0, 1, 2], [1, 0, 2], [2, 0, 2], [1, 0, 2], 4, [-1, -1, -1, -1, -1, -1, -1, -1]), [(-1, false, false, false), (0, true, false, false), (1, false, true, false), (2, true, false, true)]), (([0, 1, 2], [1, 2, 0], [2, 2, 0], [2, 0, 1], 4, [-1, -1, -1, -1, -1, -1, -1, -1]), [(-1, false, false, false), (0, true, false, false), (1, true, true, false), (2, false, false, true)]), (([0, 1, 2], [2, 0, 1], [2, 1, 1], [1, 2, 0], 4, [-1, -1, -1, -1, -1, -1, -1, -1]), [(-1, false, false, false), (0, true, false, false), (1, false, true, false), (2, false, true, true)]), (([0, 1, 2], [2, 1, 0], [2, 1, 0], [2, 1, 0], 4, [-1, -1, -1, -1, -1, -1, -1, -1]), [(-1, false, false, false), (0, true, false, false), (1, false, true, false), (2, false, false, true)]), (([0, 2, 1], [0, 1, 2], [2, 2, 2], [0, 1, 2], 4, [-1, -1, -1, -1, -1, -1, -1, -1]), [(-1, false, false, false), (0, true, false, false), (1, true, false, true), (2, true, true, true)]), (([0, 2, 1], [0, 2, 1], [2, 2, 1], [0, 2, 1], 4, [-1, -1, -1, -1, -1, -1, -1, -1]), [(-1, false, false, false), (0, true, false, false), (1, true, false, true), (2, true, true, false)]), (([0, 2, 1], [1, 0, 2], [2, 0, 2], [1, 0, 2], 4, [-1, -1, -1, -1, -1, -1, -1, -1]), [(-1, false, false, false), (0, true, false, false), (1, false, false, true), (2, true, true, false)]), (([0, 2, 1], [1, 2, 0], [2, 2, 0], [2, 0, 1], 4, [-1, -1, -1, -1, -1, -1, -1, -1]), [(-1, false, false, false), (0, true, false, false), (1, true, false, true), (2, false, true, false)]), (([0, 2, 1], [2, 0, 1], [2, 1, 1], [1, 2, 0], 4, [-1, -1, -1, -1, -1, -1, -1, -1]), [(-1, false, false, false), (0, true, false, false), (1, false, false, true), (2, false, true, true)]), (([0, 2, 1], [2, 1, 0], [2, 1, 0], [2, 1, 0], 4, [-1, -1, -1, -1, -1, -1, -1, -1]), [(-1, false, false, false), (0, true, false, false), (1, false, false, true), (2, false, true, false)]), (([1, 0, 0], [0, 1], [1, 1], [0, 1], 2, [-1, -1, -1, -1]), [(-1, false, false, false), (0, false, true, true), (1, true, true, true)]), (([1, 0, 0], [1, 0], [1, 0], [1, 0], 2, [-1, -1, -1, -1]), [(-1, false, false, false), (0, false, true, true), (1, true, false, false)]), (([1, 0, 1], [0, 1], [1, 1], [0, 1], 2, [-1, -1, -1, -1]), [(-1, false, false, false), (0, false, true, false), (1, true, true, true)]), (([1, 0, 1], [1, 0], [1, 0], [1, 0], 2, [-1, -1, -1, -1]), [(-1, false, false, false), (0, false, true, false), (1, true, false, true)]), (([1, 0, 2], [0, 1, 2], [2, 2, 2], [0, 1, 2], 4, [-1, -1, -1, -1, -1, -1, -1, -1]), [(-1, false, false, false), (0, false, true, false), (1, true, true, false), (2, true, true, true)]), (([1, 0, 2], [0, 2, 1], [2, 2, 1], [0, 2, 1], 4, [-1, -1, -1, -1, -1, -1, -1, -1]), [(-1, false, false, false), (0, false, true, false), (1, true, true, false), (2, false, true, true)]), (([1, 0, 2], [1, 0, 2], [2, 0, 2], [1, 0, 2], 4, [-1, -1, -1, -1, -1, -1, -1, -1]), [(-1, false, false, false), (0, false, true, false), (1, true, false, false), (2, false, true, true)]), (([1, 0, 2], [1, 2, 0], [2, 2, 0], [2, 0, 1], 4, [-1, -1, -1, -1, -1, -1, -1, -1]), [(-1, false, false, false), (0, false, true, false), (1, true, true, false), (2, false, false, true)]), (([1, 0, 2], [2, 0, 1], [2, 1, 1], [1, 2, 0], 4, [-1, -1, -1, -1, -1, -1, -1, -1]), [(-1, false, false, false), (0, false, true, false), (1, true, false, false), (2, true, false, true)]), (([1, 0, 2], [2, 1, 0], [2, 1, 0], [2, 1, 0], 4, [-1, -1, -1, -1, -1, -1, -1, -1]), [(-1, false, false, false), (0, false, true, false), (1, true, false, false), (2, false, false, true)]), (([1, 1, 0], [0, 1], [1, 1], [0, 1], 2, [-1, -1, -1, -1]), [(-1, false, false, false), (0, false, false, true), (1, true, true, true)]), (([1, 1, 0], [1, 0], [1, 0], [1, 0], 2, [-1, -1, -1, -1]), [(-1, false, false, false), (0, false, false, true), (1, true, true, false)]), (([1, 2, 0], [0, 1, 2], [2, 2, 2], [0, 1, 2], 4, [-1, -1, -1, -1, -1, -1, -1, -1]), [(-1, false, false, false), (0, false, false, true), (1, true, false, true), (2, true, true, true)]), (([1, 2, 0], [0, 2, 1], [2, 2, 1], [0, 2, 1], 4, [-1, -1, -1, -1, -1, -1, -1, -1]), [(-1, false, false, false), (0, false, false, true), (1, true, false, true), (2, false, true, true)]), (([1, 2, 0], [1, 0, 2], [2, 0, 2], [1, 0, 2], 4, [-1, -1, -1, -1, -1, -1, -1, -1]), [(-1, false, false, false), (0, false, false, true), (1, true, false, false), (2, false, true, true)]), (([1, 2, 0], [1, 2, 0], [2, 2, 0], [2, 0, 1], 4, [-1, -1, -1, -1, -1, -1, -1, -1]), [(-1, false, false, false), (0, false, false, true), (1, true, false, true), (2, false, true, false)]), (([1, 2, 0], [2, 0, 1], [2, 1, 1], [1, 2, 0], 4, [-1, -1, -1, -1, -1, -1, -1, -1]), [(-1, false, false, false), (0, false, false, true), (1, true, false, false), (2, true, true, false)]), (([1, 2, 0], [2, 1, 0], [2, 1, 0], [2, 1, 0], 4, [-1, -1, -1, -1, -1, -1, -1, -1]), [(-1, false, false, false), (0, false, false, true), (1, true, false, false), (2, false, true, false)]), (([2, 0, 1], [0, 1, 2], [2, 2, 2], [0, 1, 2], 4, [-1, -1, -1, -1, -1, -1, -1, -1]), [(-1, false, false, false), (0, false, true, false), (1, false, true, true), (2, true, true, true)]), (([2, 0, 1], [0, 2, 1], [2, 2, 1], [0, 2, 1], 4, [-1, -1, -1, -1, -1, -1, -1, -1]), [(-1, false, false, false), (0, false, true, false), (1, false, true, true), (2, true, true, false)]), (([2, 0, 1], [1, 0, 2], [2, 0, 2], [1, 0, 2], 4, [-1, -1, -1, -1, -1, -1, -1, -1]), [(-1, false, false, false), (0, false, true, false), (1, false, false, true), (2, true, true, false)]), (([2, 0, 1], [1, 2, 0], [2, 2, 0], [2, 0, 1], 4, [-1, -1, -1, -1, -1, -1, -1, -1]), [(-1, false, false, false), (0, false, true, false), (1, false, true, true), (2, true, false, false)]), (([2, 0, 1], [2, 0, 1], [2, 1, 1], [1, 2, 0], 4, [-1, -1, -1, -1, -1, -1, -1, -1]), [(-1, false, false, false), (0, false, true, false), (1, false, false, true), (2, true, false, true)]), (([2, 0, 1], [2, 1, 0], [2, 1, 0], [2, 1, 0], 4, [-1, -1, -1, -1, -1, -1, -1, -1]), [(-1, false, false, false), (0, false, true, false), (1, false, false, true), (2, true, false, false)]), (([2, 1, 0], [0, 1, 2], [2, 2, 2], [0, 1, 2], 4, [-1, -1, -1, -1, -1, -1, -1, -1]), [(-1, false, false, false), (0, false, false, true), (1, false, true, true), (2, true, true, true)]), (([2, 1, 0], [0, 2, 1], [2, 2, 1], [0, 2, 1], 4, [-1, -1, -1, -1, -1, -1, -1, -1]), [(-1, false, false, false), (0, false, false, true), (1, false, true, true), (2, true, false, true)]), (([2, 1, 0], [1, 0, 2], [2, 0, 2], [1, 0, 2], 4, [-1, -1, -1, -1, -1, -1, -1, -1]), [(-1, false, false, false), (0, false, false, true), (1, false, true, false), (2, true, false, true)]), (([2, 1, 0], [1, 2, 0], [2, 2, 0], [2, 0, 1], 4, [-1, -1, -1, -1, -1, -1, -1, -1]), [(-1, false, false, false), (0, false, false, true), (1, false, true, true), (2, true, false, false)]), (([2, 1, 0], [2, 0, 1], [2, 1, 1], [1, 2, 0], 4, [-1, -1, -1, -1, -1, -1, -1, -1]), [(-1, false, false, false), (0, false, false, true), (1, false, true, false), (2, true, true, false)]), (([2, 1, 0], [2, 1, 0], [2, 1, 0], [2, 1, 0], 4, [-1, -1, -1, -1, -1, -1, -1, -1]), [(-1, false, false, false), (0, false, false, true), (1, false, true, false), (2, true, false, false)])]
theorem own_bs {α β : Type} {a : Option α} {f : α → Option β} {z : α} {r : Option β} (h : a = some z) (q : f z = r) : a.bind f = r := by rw [h]; exact q
def own_Init2 (St : List Int32) (En : List Int32) (B : List (Option Int32)) : Option (Int32 × Int32 × Int32 × Int32 × Int32 × Int32 × List Int64 × List Int32 × List Int32 × List Int32 × List Int32 × List Int32 × List Int32 × List Int32 × List Int32) := (own_get En (0 : Int32)).bind fun v2 => ((own_get St (0 : Int32)).bind fun v3 => ((own_get En (1 : Int32)).bind fun v4 => ((own_get St (1 : Int32)).bind fun v5 => ((own_get En (2 : Int32)).bind fun v6 => ((own_get St (2 : Int32)).bind fun v7 => ((some ((((1 : Int32) + (v2 - v3)) + (v4 - v5)) + (v6 - v7))).bind fun mo8 => ((F_rmNlz (((2 : Int32) * mo8) - (1 : Int32))).bind fun o9 => ((some ((32 : Int32) - o9)).bind fun bt11 => ((own_grd ((1 : Int32) <<< (bt11 &&& 31)) 32).bind fun _ => ((some (List.replicate (((1 : Int32) <<< (bt11 &&& 31))).toNatClampNeg (-1))).bind fun o18 => ((own_grd ((1 : Int32) <<< (bt11 &&& 31)) 32).bind fun _ => ((own_grd mo8 10).bind fun _ => ((own_grd mo8 10).bind fun _ => ((own_grd (3 : Int32) 3).bind fun _ => ((own_grd (3 : Int32) 3).bind fun _ => ((F_rmSeg ((64 : Int32) - bt11) ((1 : Int32) <<< (bt11 &&& 31)) St En B o18 (List.replicate (((1 : Int32) <<< (bt11 &&& 31))).toNatClampNeg 0) (List.replicate (mo8).toNatClampNeg 0) (List.replicate (mo8).toNatClampNeg 0) (List.replicate ((3 : Int32)).toNatClampNeg 0) (List.replicate ((3 : Int32)).toNatClampNeg 0)).bind fun o85 => ((own_grd o85.1 3).bind fun _ => ((own_grd o85.1 3).bind fun _ => ((own_grd o85.1 3).bind fun _ => ((F_rmTree o85.1 o85.2.2.2.2.2.2 o85.2.2.2.2.1 o85.2.2.2.1 (List.replicate (o85.1).toNatClampNeg 0) (List.replicate (o85.1).toNatClampNeg 0) (List.replicate (o85.1).toNatClampNeg 0)).bind fun o152 => ((F_rmHob (((if (1 : Int32).toInt < o85.1.toInt then o85.1 else (1 : Int32)) * (2 : Int32)) - (1 : Int32))).bind fun o166 => ((own_grd ((2 : Int32) * o166) 8).bind fun _ => ((F_rmFillI (-1 : Int32) ((2 : Int32) * o166) (List.replicate (((2 : Int32) * o166)).toNatClampNeg 0)).bind fun o192 => (some (((64 : Int32) - bt11), ((1 : Int32) <<< (bt11 &&& 31)), mo8, o85.1, o166, ((2 : Int32) * o166), o85.2.1, o85.2.2.1, o85.2.2.2.1, o85.2.2.2.2.1, o85.2.2.2.2.2.1, o152.1, o152.2.1, o152.2.2, o192)))))))))))))))))))))))))
set_option maxRecDepth 100000 in
theorem own_fillC : ((List.range 33).all fun k => decide (F_rmFillJ (-1) (Int32.ofNat k) (List.replicate (Int32.ofNat k).toNatClampNeg 0) = some (List.replicate (Int32.ofNat k).toNatClampNeg (-1)))) = true := by decide +kernel
theorem own_fillJ {n : Int32} {u : Unit} (h : own_grd n 32 = some u) : F_rmFillJ (-1) n (List.replicate n.toNatClampNeg 0) = some (List.replicate n.toNatClampNeg (-1)) := by
 have g := own_grds h
 have e : Int32.ofNat n.toInt.toNat = n := by
  rw [← Int32.toInt_inj, Int32.toInt_ofNat_of_lt (by omega)]
  omega
 have q := of_decide_eq_true (List.all_eq_true.mp own_fillC n.toInt.toNat (List.mem_range.mpr (by omega)))
 rw [e] at q
 exact q
theorem own_init2 {St En : List Int32} {B : List (Option Int32)} {o : own_O} (H : own_Init2 St En B = some o) : F_rmInit St En B = some o := by
 obtain ⟨x1, h1, H⟩ := own_bnd H
 obtain ⟨x2, h2, H⟩ := own_bnd H
 obtain ⟨x3, h3, H⟩ := own_bnd H
 obtain ⟨x4, h4, H⟩ := own_bnd H
 obtain ⟨x5, h5, H⟩ := own_bnd H
 obtain ⟨x6, h6, H⟩ := own_bnd H
 obtain ⟨x7, h7, H⟩ := own_bnd H
 obtain ⟨x8, h8, H⟩ := own_bnd H
 obtain ⟨x9, h9, H⟩ := own_bnd H
 obtain ⟨x10, h10, H⟩ := own_bnd H
 obtain ⟨x11, h11, H⟩ := own_bnd H
 obtain ⟨x12, h12, H⟩ := own_bnd H
 obtain ⟨x13, h13, H⟩ := own_bnd H
 obtain ⟨x14, h14, H⟩ := own_bnd H
 obtain ⟨x15, h15, H⟩ := own_bnd H
 obtain ⟨x16, h16, H⟩ := own_bnd H
 obtain ⟨x17, h17, H⟩ := own_bnd H
 obtain ⟨x18, h18, H⟩ := own_bnd H
 obtain ⟨x19, h19, H⟩ := own_bnd H
 obtain ⟨x20, h20, H⟩ := own_bnd H
 obtain ⟨x21, h21, H⟩ := own_bnd H
 obtain ⟨x22, h22, H⟩ := own_bnd H
 obtain ⟨x23, h23, H⟩ := own_bnd H
 obtain ⟨x24, h24, H⟩ := own_bnd H
 refine own_bs h1 ?_
 refine own_bs h2 ?_
 refine own_bs h3 ?_
 refine own_bs h4 ?_
 refine own_bs h5 ?_
 refine own_bs h6 ?_
 refine own_bs h7 ?_
 refine own_bs h8 ?_
 refine own_bs h9 ?_
 refine own_bs h10 ?_
 refine own_bs ((own_fillJ h10).trans h11) ?_
 refine own_bs h12 ?_
 refine own_bs h13 ?_
 refine own_bs h14 ?_
 refine own_bs h15 ?_
 refine own_bs h16 ?_
 refine own_bs h17 ?_
 refine own_bs h18 ?_
 refine own_bs h19 ?_
 refine own_bs h20 ?_
 refine own_bs h21 ?_
 refine own_bs h22 ?_
 refine own_bs h23 ?_
 refine own_bs h24 ?_
 exact H
def own_nx (o : own_O) (s t : Int32) : Option Int32 := F_rmNxt s t o.1 o.2.1 o.2.2.2.2.2.2.1 o.2.2.2.2.2.2.2.1 o.2.2.2.2.2.2.2.2.1
def own_ok (o : own_O) (al : List own_Al) (a b c : List Bool) (s : Int32) (k : Nat) : Bool :=
 match own_get o.2.2.2.2.2.2.2.2.2.1 s with
 | none => false
 | some q => al.any fun z => z.1 == q && z.2.1 == a.getD k false && z.2.2.1 == b.getD k false && z.2.2.2 == c.getD k false
def own_tree (nx : Int32 → Int32 → Option Int32) (ok : Int32 → Nat → Bool) : Nat → Int32 → Nat → Bool
 | 0, s, k => ok s k
 | d + 1, s, k => ok s k && (match nx s 97 with | none => false | some r => own_tree nx ok d r (2 * k + 1)) && (match nx s 98 with | none => false | some r => own_tree nx ok d r (2 * k + 2))
def own_lt (p : List Int32) (v w : Int32) : Bool := match own_get p v, own_get p w with | some x, some y => decide (x.toInt < y.toInt) | _, _ => false
def own_ord (a b : own_Wd) (p : List Int32) (v w : Int32) : Bool := (List.range 15).all fun k => !(a.2.getD k false && b.2.getD k false) || (decide (a.1.1.toInt < b.1.1.toInt) == own_lt p v w)
def own_chk (a b c : own_Wd) (i : Nat) : Bool :=
 match own_Init2 [0, 3, 6] [a.1.1, 3 + b.1.1, 6 + c.1.1] (own_B9 a.1.1 b.1.1 c.1.1 a.1.2.1 a.1.2.2.1 a.1.2.2.2 b.1.2.1 b.1.2.2.1 b.1.2.2.2 c.1.2.1 c.1.2.2.1 c.1.2.2.2), own_tab[i]? with
 | some o, some (t, al) => decide (own_tau o = t) && (match t.1 with | [u, v, w] => own_ord a b t.2.1 u v && own_ord a c t.2.1 u w && own_ord b c t.2.1 v w | _ => false) && own_tree (own_nx o) (own_ok o al a.2 b.2 c.2) 3 0 0
 | _, _ => false
def own_row (a b : own_Wd) : List own_Wd → List Nat → Bool
 | [], _ => true
 | c :: r, i :: s => own_chk a b c i && own_row a b r s
 | _ :: _, [] => false
def own_rows (a : own_Wd) : List own_Wd → List (List Nat) → Bool
 | [], _ => true
 | b :: r, i :: s => own_row a b own_words i && own_rows a r s
 | _ :: _, [] => false
set_option maxRecDepth 100000 in
set_option maxHeartbeats 4000000 in
theorem own_p0 : own_rows ((1, 97, 97, 97), [false, true, false, true, false, true, false, true, false, true, false, true, false, true, false]) own_words [[0, 2, 1, 2, 1, 2, 1, 2, 1, 2, 1, 2, 1, 2], [4, 6, 9, 11, 9, 11, 9, 11, 9, 11, 9, 11, 9, 11], [3, 15, 5, 10, 8, 10, 7, 10, 8, 10, 7, 10, 8, 10], [4, 17, 9, 6, 9, 12, 9, 11, 9, 12, 9, 11, 9, 12], [3, 15, 8, 10, 5, 10, 8, 10, 7, 10, 8, 10, 7, 10], [4, 17, 9, 12, 9, 6, 9, 12, 9, 11, 9, 12, 9, 11], [3, 15, 13, 15, 14, 15, 5, 10, 8, 10, 8, 10, 8, 10], [4, 17, 16, 17, 16, 18, 9, 6, 9, 12, 9, 12, 9, 12], [3, 15, 14, 15, 13, 15, 8, 10, 5, 10, 8, 10, 8, 10], [4, 17, 16, 18, 16, 17, 9, 12, 9, 6, 9, 12, 9, 12], [3, 15, 13, 15, 14, 15, 8, 10, 8, 10, 5, 10, 8, 10], [4, 17, 16, 17, 16, 18, 9, 12, 9, 12, 9, 6, 9, 12], [3, 15, 14, 15, 13, 15, 8, 10, 8, 10, 8, 10, 5, 10], [4, 17, 16, 18, 16, 17, 9, 12, 9, 12, 9, 12, 9, 6]] = true := by decide +kernel
set_option maxRecDepth 100000 in
set_option maxHeartbeats 4000000 in
theorem own_p1 : own_rows ((1, 98, 97, 97), [false, false, true, false, true, false, true, false, true, false, true, false, true, false, true]) own_words [[6, 4, 11, 9, 11, 9, 11, 9, 11, 9, 11, 9, 11, 9], [2, 0, 2, 1, 2, 1, 2, 1, 2, 1, 2, 1, 2, 1], [17, 4, 6, 9, 12, 9, 11, 9, 12, 9, 11, 9, 12, 9], [15, 3, 10, 5, 10, 8, 10, 7, 10, 8, 10, 7, 10, 8], [17, 4, 12, 9, 6, 9, 12, 9, 11, 9, 12, 9, 11, 9], [15, 3, 10, 8, 10, 5, 10, 8, 10, 7, 10, 8, 10, 7], [17, 4, 17, 16, 18, 16, 6, 9, 12, 9, 12, 9, 12, 9], [15, 3, 15, 13, 15, 14, 10, 5, 10, 8, 10, 8, 10, 8], [17, 4, 18, 16, 17, 16, 12, 9, 6, 9, 12, 9, 12, 9], [15, 3, 15, 14, 15, 13, 10, 8, 10, 5, 10, 8, 10, 8], [17, 4, 17, 16, 18, 16, 12, 9, 12, 9, 6, 9, 12, 9], [15, 3, 15, 13, 15, 14, 10, 8, 10, 8, 10, 5, 10, 8], [17, 4, 18, 16, 17, 16, 12, 9, 12, 9, 12, 9, 6, 9], [15, 3, 15, 14, 15, 13, 10, 8, 10, 8, 10, 8, 10, 5]] = true := by decide +kernel
set_option maxRecDepth 100000 in
set_option maxHeartbeats 4000000 in
theorem own_p2 : own_rows ((2, 97, 97, 97), [false, false, false, true, false, false, false, true, false, false, false, true, false, false, false]) own_words [[19, 39, 21, 26, 24, 26, 23, 26, 24, 26, 23, 26, 24, 26], [41, 20, 22, 25, 28, 25, 27, 25, 28, 25, 27, 25, 28, 25], [29, 30, 0, 2, 2, 2, 1, 2, 2, 2, 1, 2, 2, 2], [34, 33, 4, 6, 12, 12, 9, 11, 12, 12, 9, 11, 12, 12], [32, 36, 4, 12, 6, 12, 9, 12, 11, 12, 9, 12, 11, 12], [34, 33, 4, 12, 12, 6, 9, 12, 12, 11, 9, 12, 12, 11], [31, 35, 3, 15, 15, 15, 5, 10, 10, 10, 8, 10, 10, 10], [34, 33, 4, 17, 18, 18, 9, 6, 12, 12, 9, 12, 12, 12], [32, 36, 4, 18, 17, 18, 9, 12, 6, 12, 9, 12, 12, 12], [34, 33, 4, 18, 18, 17, 9, 12, 12, 6, 9, 12, 12, 12], [31, 35, 3, 15, 15, 15, 8, 10, 10, 10, 5, 10, 10, 10], [34, 33, 4, 17, 18, 18, 9, 12, 12, 12, 9, 6, 12, 12], [32, 36, 4, 18, 17, 18, 9, 12, 12, 12, 9, 12, 6, 12], [34, 33, 4, 18, 18, 17, 9, 12, 12, 12, 9, 12, 12, 6]] = true := by decide +kernel
set_option maxRecDepth 100000 in
set_option maxHeartbeats 4000000 in
theorem own_p3 : own_rows ((2, 97, 98, 97), [false, false, false, false, true, false, false, false, true, false, false, false, true, false, false]) own_words [[20, 41, 25, 22, 25, 28, 25, 27, 25, 28, 25, 27, 25, 28], [39, 19, 26, 21, 26, 24, 26, 23, 26, 24, 26, 23, 26, 24], [33, 34, 6, 4, 12, 12, 11, 9, 12, 12, 11, 9, 12, 12], [30, 29, 2, 0, 2, 2, 2, 1, 2, 2, 2, 1, 2, 2], [33, 34, 12, 4, 6, 12, 12, 9, 11, 12, 12, 9, 11, 12], [36, 32, 12, 4, 12, 6, 12, 9, 12, 11, 12, 9, 12, 11], [33, 34, 17, 4, 18, 18, 6, 9, 12, 12, 12, 9, 12, 12], [35, 31, 15, 3, 15, 15, 10, 5, 10, 10, 10, 8, 10, 10], [33, 34, 18, 4, 17, 18, 12, 9, 6, 12, 12, 9, 12, 12], [36, 32, 18, 4, 18, 17, 12, 9, 12, 6, 12, 9, 12, 12], [33, 34, 17, 4, 18, 18, 12, 9, 12, 12, 6, 9, 12, 12], [35, 31, 15, 3, 15, 15, 10, 8, 10, 10, 10, 5, 10, 10], [33, 34, 18, 4, 17, 18, 12, 9, 12, 12, 12, 9, 6, 12], [36, 32, 18, 4, 18, 17, 12, 9, 12, 12, 12, 9, 12, 6]] = true := by decide +kernel
set_option maxRecDepth 100000 in
set_option maxHeartbeats 4000000 in
theorem own_p4 : own_rows ((2, 98, 97, 97), [false, false, false, false, false, true, false, false, false, true, false, false, false, true, false]) own_words [[19, 39, 24, 26, 21, 26, 24, 26, 23, 26, 24, 26, 23, 26], [41, 20, 28, 25, 22, 25, 28, 25, 27, 25, 28, 25, 27, 25], [32, 36, 6, 12, 4, 12, 11, 12, 9, 12, 11, 12, 9, 12], [34, 33, 12, 6, 4, 12, 12, 11, 9, 12, 12, 11, 9, 12], [29, 30, 2, 2, 0, 2, 2, 2, 1, 2, 2, 2, 1, 2], [34, 33, 12, 12, 4, 6, 12, 12, 9, 11, 12, 12, 9, 11], [32, 36, 17, 18, 4, 18, 6, 12, 9, 12, 12, 12, 9, 12], [34, 33, 18, 17, 4, 18, 12, 6, 9, 12, 12, 12, 9, 12], [31, 35, 15, 15, 3, 15, 10, 10, 5, 10, 10, 10, 8, 10], [34, 33, 18, 18, 4, 17, 12, 12, 9, 6, 12, 12, 9, 12], [32, 36, 17, 18, 4, 18, 12, 12, 9, 12, 6, 12, 9, 12], [34, 33, 18, 17, 4, 18, 12, 12, 9, 12, 12, 6, 9, 12], [31, 35, 15, 15, 3, 15, 10, 10, 8, 10, 10, 10, 5, 10], [34, 33, 18, 18, 4, 17, 12, 12, 9, 12, 12, 12, 9, 6]] = true := by decide +kernel
set_option maxRecDepth 100000 in
set_option maxHeartbeats 4000000 in
theorem own_p5 : own_rows ((2, 98, 98, 97), [false, false, false, false, false, false, true, false, false, false, true, false, false, false, true]) own_words [[20, 41, 25, 28, 25, 22, 25, 28, 25, 27, 25, 28, 25, 27], [39, 19, 26, 24, 26, 21, 26, 24, 26, 23, 26, 24, 26, 23], [33, 34, 6, 12, 12, 4, 11, 12, 12, 9, 11, 12, 12, 9], [36, 32, 12, 6, 12, 4, 12, 11, 12, 9, 12, 11, 12, 9], [33, 34, 12, 12, 6, 4, 12, 12, 11, 9, 12, 12, 11, 9], [30, 29, 2, 2, 2, 0, 2, 2, 2, 1, 2, 2, 2, 1], [33, 34, 17, 18, 18, 4, 6, 12, 12, 9, 12, 12, 12, 9], [36, 32, 18, 17, 18, 4, 12, 6, 12, 9, 12, 12, 12, 9], [33, 34, 18, 18, 17, 4, 12, 12, 6, 9, 12, 12, 12, 9], [35, 31, 15, 15, 15, 3, 10, 10, 10, 5, 10, 10, 10, 8], [33, 34, 17, 18, 18, 4, 12, 12, 12, 9, 6, 12, 12, 9], [36, 32, 18, 17, 18, 4, 12, 12, 12, 9, 12, 6, 12, 9], [33, 34, 18, 18, 17, 4, 12, 12, 12, 9, 12, 12, 6, 9], [35, 31, 15, 15, 15, 3, 10, 10, 10, 8, 10, 10, 10, 5]] = true := by decide +kernel
set_option maxRecDepth 100000 in
set_option maxHeartbeats 4000000 in
theorem own_p6 : own_rows ((3, 97, 97, 97), [false, false, false, false, false, false, false, true, false, false, false, false, false, false, false]) own_words [[19, 39, 37, 39, 38, 39, 21, 26, 24, 26, 24, 26, 24, 26], [41, 20, 41, 40, 42, 40, 22, 25, 28, 25, 28, 25, 28, 25], [43, 47, 19, 39, 39, 39, 21, 26, 26, 26, 24, 26, 26, 26], [45, 46, 41, 20, 42, 42, 22, 25, 28, 28, 28, 25, 28, 28], [44, 48, 41, 42, 20, 42, 22, 28, 25, 28, 28, 28, 25, 28], [45, 46, 41, 42, 42, 20, 22, 28, 28, 25, 28, 28, 28, 25], [29, 30, 29, 30, 30, 30, 0, 2, 2, 2, 2, 2, 2, 2], [34, 33, 34, 33, 36, 36, 4, 6, 12, 12, 12, 12, 12, 12], [32, 36, 34, 36, 33, 36, 4, 12, 6, 12, 12, 12, 12, 12], [34, 33, 34, 36, 36, 33, 4, 12, 12, 6, 12, 12, 12, 12], [32, 36, 32, 36, 36, 36, 4, 12, 12, 12, 6, 12, 12, 12], [34, 33, 34, 33, 36, 36, 4, 12, 12, 12, 12, 6, 12, 12], [32, 36, 34, 36, 33, 36, 4, 12, 12, 12, 12, 12, 6, 12], [34, 33, 34, 36, 36, 33, 4, 12, 12, 12, 12, 12, 12, 6]] = true := by decide +kernel
set_option maxRecDepth 100000 in
set_option maxHeartbeats 4000000 in
theorem own_p7 : own_rows ((3, 97, 97, 98), [false, false, false, false, false, false, false, false, true, false, false, false, false, false, false]) own_words [[20, 41, 40, 41, 40, 42, 25, 22, 25, 28, 25, 28, 25, 28], [39, 19, 39, 37, 39, 38, 26, 21, 26, 24, 26, 24, 26, 24], [46, 45, 20, 41, 42, 42, 25, 22, 28, 28, 25, 28, 28, 28], [47, 43, 39, 19, 39, 39, 26, 21, 26, 26, 26, 24, 26, 26], [46, 45, 42, 41, 20, 42, 28, 22, 25, 28, 28, 28, 25, 28], [48, 44, 42, 41, 42, 20, 28, 22, 28, 25, 28, 28, 28, 25], [33, 34, 33, 34, 36, 36, 6, 4, 12, 12, 12, 12, 12, 12], [30, 29, 30, 29, 30, 30, 2, 0, 2, 2, 2, 2, 2, 2], [33, 34, 36, 34, 33, 36, 12, 4, 6, 12, 12, 12, 12, 12], [36, 32, 36, 34, 36, 33, 12, 4, 12, 6, 12, 12, 12, 12], [33, 34, 33, 34, 36, 36, 12, 4, 12, 12, 6, 12, 12, 12], [36, 32, 36, 32, 36, 36, 12, 4, 12, 12, 12, 6, 12, 12], [33, 34, 36, 34, 33, 36, 12, 4, 12, 12, 12, 12, 6, 12], [36, 32, 36, 34, 36, 33, 12, 4, 12, 12, 12, 12, 12, 6]] = true := by decide +kernel
set_option maxRecDepth 100000 in
set_option maxHeartbeats 4000000 in
theorem own_p8 : own_rows ((3, 97, 98, 97), [false, false, false, false, false, false, false, false, false, true, false, false, false, false, false]) own_words [[19, 39, 38, 39, 37, 39, 24, 26, 21, 26, 24, 26, 24, 26], [41, 20, 42, 40, 41, 40, 28, 25, 22, 25, 28, 25, 28, 25], [44, 48, 20, 42, 41, 42, 25, 28, 22, 28, 25, 28, 28, 28], [45, 46, 42, 20, 41, 42, 28, 25, 22, 28, 28, 25, 28, 28], [43, 47, 39, 39, 19, 39, 26, 26, 21, 26, 26, 26, 24, 26], [45, 46, 42, 42, 41, 20, 28, 28, 22, 25, 28, 28, 28, 25], [32, 36, 33, 36, 34, 36, 6, 12, 4, 12, 12, 12, 12, 12], [34, 33, 36, 33, 34, 36, 12, 6, 4, 12, 12, 12, 12, 12], [29, 30, 30, 30, 29, 30, 2, 2, 0, 2, 2, 2, 2, 2], [34, 33, 36, 36, 34, 33, 12, 12, 4, 6, 12, 12, 12, 12], [32, 36, 33, 36, 34, 36, 12, 12, 4, 12, 6, 12, 12, 12], [34, 33, 36, 33, 34, 36, 12, 12, 4, 12, 12, 6, 12, 12], [32, 36, 36, 36, 32, 36, 12, 12, 4, 12, 12, 12, 6, 12], [34, 33, 36, 36, 34, 33, 12, 12, 4, 12, 12, 12, 12, 6]] = true := by decide +kernel
set_option maxRecDepth 100000 in
set_option maxHeartbeats 4000000 in
theorem own_p9 : own_rows ((3, 97, 98, 98), [false, false, false, false, false, false, false, false, false, false, true, false, false, false, false]) own_words [[20, 41, 40, 42, 40, 41, 25, 28, 25, 22, 25, 28, 25, 28], [39, 19, 39, 38, 39, 37, 26, 24, 26, 21, 26, 24, 26, 24], [46, 45, 20, 42, 42, 41, 25, 28, 28, 22, 25, 28, 28, 28], [48, 44, 42, 20, 42, 41, 28, 25, 28, 22, 28, 25, 28, 28], [46, 45, 42, 42, 20, 41, 28, 28, 25, 22, 28, 28, 25, 28], [47, 43, 39, 39, 39, 19, 26, 26, 26, 21, 26, 26, 26, 24], [33, 34, 33, 36, 36, 34, 6, 12, 12, 4, 12, 12, 12, 12], [36, 32, 36, 33, 36, 34, 12, 6, 12, 4, 12, 12, 12, 12], [33, 34, 36, 36, 33, 34, 12, 12, 6, 4, 12, 12, 12, 12], [30, 29, 30, 30, 30, 29, 2, 2, 2, 0, 2, 2, 2, 2], [33, 34, 33, 36, 36, 34, 12, 12, 12, 4, 6, 12, 12, 12], [36, 32, 36, 33, 36, 34, 12, 12, 12, 4, 12, 6, 12, 12], [33, 34, 36, 36, 33, 34, 12, 12, 12, 4, 12, 12, 6, 12], [36, 32, 36, 36, 36, 32, 12, 12, 12, 4, 12, 12, 12, 6]] = true := by decide +kernel
set_option maxRecDepth 100000 in
set_option maxHeartbeats 4000000 in
theorem own_p10 : own_rows ((3, 98, 97, 97), [false, false, false, false, false, false, false, false, false, false, false, true, false, false, false]) own_words [[19, 39, 37, 39, 38, 39, 24, 26, 24, 26, 21, 26, 24, 26], [41, 20, 41, 40, 42, 40, 28, 25, 28, 25, 22, 25, 28, 25], [43, 47, 19, 39, 39, 39, 24, 26, 26, 26, 21, 26, 26, 26], [45, 46, 41, 20, 42, 42, 28, 25, 28, 28, 22, 25, 28, 28], [44, 48, 41, 42, 20, 42, 28, 28, 25, 28, 22, 28, 25, 28], [45, 46, 41, 42, 42, 20, 28, 28, 28, 25, 22, 28, 28, 25], [32, 36, 32, 36, 36, 36, 6, 12, 12, 12, 4, 12, 12, 12], [34, 33, 34, 33, 36, 36, 12, 6, 12, 12, 4, 12, 12, 12], [32, 36, 34, 36, 33, 36, 12, 12, 6, 12, 4, 12, 12, 12], [34, 33, 34, 36, 36, 33, 12, 12, 12, 6, 4, 12, 12, 12], [29, 30, 29, 30, 30, 30, 2, 2, 2, 2, 0, 2, 2, 2], [34, 33, 34, 33, 36, 36, 12, 12, 12, 12, 4, 6, 12, 12], [32, 36, 34, 36, 33, 36, 12, 12, 12, 12, 4, 12, 6, 12], [34, 33, 34, 36, 36, 33, 12, 12, 12, 12, 4, 12, 12, 6]] = true := by decide +kernel
set_option maxRecDepth 100000 in
set_option maxHeartbeats 4000000 in
theorem own_p11 : own_rows ((3, 98, 97, 98), [false, false, false, false, false, false, false, false, false, false, false, false, true, false, false]) own_words [[20, 41, 40, 41, 40, 42, 25, 28, 25, 28, 25, 22, 25, 28], [39, 19, 39, 37, 39, 38, 26, 24, 26, 24, 26, 21, 26, 24], [46, 45, 20, 41, 42, 42, 25, 28, 28, 28, 25, 22, 28, 28], [47, 43, 39, 19, 39, 39, 26, 24, 26, 26, 26, 21, 26, 26], [46, 45, 42, 41, 20, 42, 28, 28, 25, 28, 28, 22, 25, 28], [48, 44, 42, 41, 42, 20, 28, 28, 28, 25, 28, 22, 28, 25], [33, 34, 33, 34, 36, 36, 6, 12, 12, 12, 12, 4, 12, 12], [36, 32, 36, 32, 36, 36, 12, 6, 12, 12, 12, 4, 12, 12], [33, 34, 36, 34, 33, 36, 12, 12, 6, 12, 12, 4, 12, 12], [36, 32, 36, 34, 36, 33, 12, 12, 12, 6, 12, 4, 12, 12], [33, 34, 33, 34, 36, 36, 12, 12, 12, 12, 6, 4, 12, 12], [30, 29, 30, 29, 30, 30, 2, 2, 2, 2, 2, 0, 2, 2], [33, 34, 36, 34, 33, 36, 12, 12, 12, 12, 12, 4, 6, 12], [36, 32, 36, 34, 36, 33, 12, 12, 12, 12, 12, 4, 12, 6]] = true := by decide +kernel
set_option maxRecDepth 100000 in
set_option maxHeartbeats 4000000 in
theorem own_p12 : own_rows ((3, 98, 98, 97), [false, false, false, false, false, false, false, false, false, false, false, false, false, true, false]) own_words [[19, 39, 38, 39, 37, 39, 24, 26, 24, 26, 24, 26, 21, 26], [41, 20, 42, 40, 41, 40, 28, 25, 28, 25, 28, 25, 22, 25], [44, 48, 20, 42, 41, 42, 25, 28, 28, 28, 25, 28, 22, 28], [45, 46, 42, 20, 41, 42, 28, 25, 28, 28, 28, 25, 22, 28], [43, 47, 39, 39, 19, 39, 26, 26, 24, 26, 26, 26, 21, 26], [45, 46, 42, 42, 41, 20, 28, 28, 28, 25, 28, 28, 22, 25], [32, 36, 33, 36, 34, 36, 6, 12, 12, 12, 12, 12, 4, 12], [34, 33, 36, 33, 34, 36, 12, 6, 12, 12, 12, 12, 4, 12], [32, 36, 36, 36, 32, 36, 12, 12, 6, 12, 12, 12, 4, 12], [34, 33, 36, 36, 34, 33, 12, 12, 12, 6, 12, 12, 4, 12], [32, 36, 33, 36, 34, 36, 12, 12, 12, 12, 6, 12, 4, 12], [34, 33, 36, 33, 34, 36, 12, 12, 12, 12, 12, 6, 4, 12], [29, 30, 30, 30, 29, 30, 2, 2, 2, 2, 2, 2, 0, 2], [34, 33, 36, 36, 34, 33, 12, 12, 12, 12, 12, 12, 4, 6]] = true := by decide +kernel
set_option maxRecDepth 100000 in
set_option maxHeartbeats 4000000 in
theorem own_p13 : own_rows ((3, 98, 98, 98), [false, false, false, false, false, false, false, false, false, false, false, false, false, false, true]) own_words [[20, 41, 40, 42, 40, 41, 25, 28, 25, 28, 25, 28, 25, 22], [39, 19, 39, 38, 39, 37, 26, 24, 26, 24, 26, 24, 26, 21], [46, 45, 20, 42, 42, 41, 25, 28, 28, 28, 25, 28, 28, 22], [48, 44, 42, 20, 42, 41, 28, 25, 28, 28, 28, 25, 28, 22], [46, 45, 42, 42, 20, 41, 28, 28, 25, 28, 28, 28, 25, 22], [47, 43, 39, 39, 39, 19, 26, 26, 26, 24, 26, 26, 26, 21], [33, 34, 33, 36, 36, 34, 6, 12, 12, 12, 12, 12, 12, 4], [36, 32, 36, 33, 36, 34, 12, 6, 12, 12, 12, 12, 12, 4], [33, 34, 36, 36, 33, 34, 12, 12, 6, 12, 12, 12, 12, 4], [36, 32, 36, 36, 36, 32, 12, 12, 12, 6, 12, 12, 12, 4], [33, 34, 33, 36, 36, 34, 12, 12, 12, 12, 6, 12, 12, 4], [36, 32, 36, 33, 36, 34, 12, 12, 12, 12, 12, 6, 12, 4], [33, 34, 36, 36, 33, 34, 12, 12, 12, 12, 12, 12, 6, 4], [30, 29, 30, 30, 30, 29, 2, 2, 2, 2, 2, 2, 2, 0]] = true := by decide +kernel
def own_d (t : Int32) : Nat := if t = 97 then 1 else 2
def own_tx (n a b c : Int32) : Nat := if n = 0 then 0 else if n = 1 then own_d a else if n = 2 then 2 * own_d a + own_d b else 2 * (2 * own_d a + own_d b) + own_d c
def own_mk (f : Bool) (w fl : Int32) (p q m : List Int32) : Option (List Int32) := if f then F_rmMark w fl p q m else some m
def own_best (f0 f1 f2 s0 s1 s2 : Bool) (w0 w1 w2 : Int32) (c01 c02 c12 : Bool) : Int32 :=
 if f0 && s0 then (if f1 && s1 && c01 then (if f2 && s2 && c12 then w2 else w1) else (if f2 && s2 && c02 then w2 else w0))
 else if f1 && s1 then (if f2 && s2 && c12 then w2 else w1) else if f2 && s2 then w2 else -1
def own_lo (q fl : Int32) (m wa p : List Int32) : Option Int32 := if q.toInt = -1 then some (-1) else (own_get p q).bind fun x => (own_get p q).bind fun y => (F_rmMA x y fl m wa).bind fun r => some r
def own_chk2 (z : own_Tau × List own_Al) (f0 f1 f2 : Bool) : Bool :=
 match z.1 with
 | ([u, v, w], p, q, wa, fl, m) =>
  match (own_mk f0 u fl p q m).bind fun m1 => (own_mk f1 v fl p q m1).bind fun m2 => own_mk f2 w fl p q m2 with
  | some m3 => z.2.all fun y => decide (own_lo y.1 fl m3 wa p = some (own_best f0 f1 f2 y.2.1 y.2.2.1 y.2.2.2 u v w (own_lt p u v) (own_lt p u w) (own_lt p v w)))
  | none => false
 | _ => false
set_option maxRecDepth 100000 in
theorem own_c2 : (own_tab.all fun z => [false, true].all fun f0 => [false, true].all fun f1 => [false, true].all fun f2 => own_chk2 z f0 f1 f2) = true := by decide +kernel
set_option maxRecDepth 100000 in
/-- isSuffix on the words and the texts, and blind to the letters beyond the lengths -/
theorem own_sfx : (own_words.all fun w => [(0 : Int32), 1, 2, 3].all fun n => [(97 : Int32), 98].all fun x => [(97 : Int32), 98].all fun y => [(97 : Int32), 98].all fun a => [(97 : Int32), 98].all fun b => [(97 : Int32), 98].all fun c =>
  decide (F_rmSuf 0 w.1.1 n [w.1.2.1, if 1 < w.1.1.toInt then w.1.2.2.1 else x, if 2 < w.1.1.toInt then w.1.2.2.2 else y] [a, b, c] = some (if w.2.getD (own_tx n a b c) false then 1 else 0))) = true := by decide +kernel
end OwnPlain
section OwnJoin
theorem own_let2 (a b : Int32) : ∃ u, F_rmLet a b = some u ∧ (u = 97 ∨ u = 98) := by
 unfold F_rmLet
 split
 ·exact ⟨_, rfl, Or.inl rfl⟩
 ·exact ⟨_, rfl, Or.inr rfl⟩
theorem own_msk (x : Int32) : x &&& (3 : Int32) = 0 ∨ x &&& (3 : Int32) = 1 ∨ x &&& (3 : Int32) = 2 ∨ x &&& (3 : Int32) = 3 := by
 have y := c_mask x (3 : Int32) 2 (by decide) (by decide)
 have i0 : (0 : Int32).toInt = 0 := rfl
 have i1 : (1 : Int32).toInt = 1 := rfl
 have i2 : (2 : Int32).toInt = 2 := rfl
 have i3 : (3 : Int32).toInt = 3 := rfl
 simp only [← Int32.toInt_inj]
 omega
theorem own_len (x : Int32) : ∃ l, (1 : Int32) + ((x &&& (3 : Int32)) % (3 : Int32)) = l ∧ (l = 1 ∨ l = 2 ∨ l = 3) := by
 refine ⟨_, rfl, ?_⟩
 rcases own_msk x with h | h | h | h <;> rw [h] <;> decide
theorem own_row_spec {a b : own_Wd} : ∀ {cs : List own_Wd} {is : List Nat}, own_row a b cs is = true → ∀ c ∈ cs, ∃ i, own_chk a b c i = true
 | [], _, _, c, hc => nomatch hc
 | d :: r, i :: s, h, c, hc => by
  have h' : (own_chk a b d i && own_row a b r s) = true := h
  rw [Bool.and_eq_true] at h'
  rcases List.mem_cons.mp hc with rfl | hc
  ·exact ⟨i, h'.1⟩
  ·exact own_row_spec h'.2 c hc
 | _ :: _, [], h, _, _ => Bool.noConfusion (show false = true from h)
theorem own_rows_spec {a : own_Wd} : ∀ {bs : List own_Wd} {is : List (List Nat)}, own_rows a bs is = true → ∀ b ∈ bs, ∀ c ∈ own_words, ∃ i, own_chk a b c i = true
 | [], _, _, b, hb => nomatch hb
 | d :: r, i :: s, h, b, hb => by
  have h' : (own_row a d own_words i && own_rows a r s) = true := h
  rw [Bool.and_eq_true] at h'
  rcases List.mem_cons.mp hb with rfl | hb
  ·exact own_row_spec h'.1
  ·exact own_rows_spec h'.2 b hb
 | _ :: _, [], h, _, _ => Bool.noConfusion (show false = true from h)
theorem own_pall : ∀ a ∈ own_words, ∀ b ∈ own_words, ∀ c ∈ own_words, ∃ i, own_chk a b c i = true := by
 intro a ha
 simp only [own_words, List.mem_cons, List.not_mem_nil, or_false] at ha
 rcases ha with rfl | rfl | rfl | rfl | rfl | rfl | rfl | rfl | rfl | rfl | rfl | rfl | rfl | rfl
 ·exact own_rows_spec own_p0
 ·exact own_rows_spec own_p1
 ·exact own_rows_spec own_p2
 ·exact own_rows_spec own_p3
 ·exact own_rows_spec own_p4
 ·exact own_rows_spec own_p5
 ·exact own_rows_spec own_p6
 ·exact own_rows_spec own_p7
 ·exact own_rows_spec own_p8
 ·exact own_rows_spec own_p9
 ·exact own_rows_spec own_p10
 ·exact own_rows_spec own_p11
 ·exact own_rows_spec own_p12
 ·exact own_rows_spec own_p13
theorem own_chk_spec {a b c : own_Wd} {i : Nat} (h : own_chk a b c i = true) : ∃ (o : own_O) (t : own_Tau) (al : List own_Al) (u v w : Int32),
  F_rmInit [0, 3, 6] [a.1.1, 3 + b.1.1, 6 + c.1.1] (own_B9 a.1.1 b.1.1 c.1.1 a.1.2.1 a.1.2.2.1 a.1.2.2.2 b.1.2.1 b.1.2.2.1 b.1.2.2.2 c.1.2.1 c.1.2.2.1 c.1.2.2.2) = some o ∧ (t, al) ∈ own_tab ∧ own_tau o = t ∧ t.1 = [u, v, w] ∧
  own_ord a b t.2.1 u v = true ∧ own_ord a c t.2.1 u w = true ∧ own_ord b c t.2.1 v w = true ∧ own_tree (own_nx o) (own_ok o al a.2 b.2 c.2) 3 0 0 = true := by
 unfold own_chk at h
 split at h
 ·rename_i o t al hI ht
  rw [Bool.and_eq_true, Bool.and_eq_true] at h
  obtain ⟨⟨h1, h2⟩, h3⟩ := h
  split at h2
  ·rename_i u v w hu
   rw [Bool.and_eq_true, Bool.and_eq_true] at h2
   exact ⟨o, t, al, u, v, w, own_init2 hI, List.mem_of_getElem? ht, of_decide_eq_true h1, hu, h2.1.1, h2.1.2, h2.2, h3⟩
  ·cases h2
 ·cases h
theorem own_tree_ok {nx : Int32 → Int32 → Option Int32} {ok : Int32 → Nat → Bool} {d : Nat} {s : Int32} {k : Nat} (h : own_tree nx ok d s k = true) : ok s k = true := by
 cases d with
 | zero => exact h
 | succ d =>
  have h' : (ok s k && _ && _) = true := h
  rw [Bool.and_eq_true, Bool.and_eq_true] at h'
  exact h'.1.1
theorem own_tree_go {nx : Int32 → Int32 → Option Int32} {ok : Int32 → Nat → Bool} {d : Nat} {s t : Int32} {k : Nat} (h : own_tree nx ok (d + 1) s k = true) (ht : t = 97 ∨ t = 98) : ∃ r, nx s t = some r ∧ own_tree nx ok d r (2 * k + own_d t) = true := by
 have h' : (ok s k && (match nx s 97 with | none => false | some r => own_tree nx ok d r (2 * k + 1)) && (match nx s 98 with | none => false | some r => own_tree nx ok d r (2 * k + 2))) = true := h
 rw [Bool.and_eq_true, Bool.and_eq_true] at h'
 rcases ht with rfl | rfl
 ·have q := h'.1.2
  split at q
  ·cases q
  ·rename_i r hr; exact ⟨r, hr, q⟩
 ·have q := h'.2
  split at q
  ·cases q
  ·rename_i r hr; exact ⟨r, hr, q⟩
theorem own_ok_spec {o : own_O} {al : List own_Al} {a b c : List Bool} {s : Int32} {k : Nat} (h : own_ok o al a b c s k = true) : ∃ q, own_get o.2.2.2.2.2.2.2.2.2.1 s = some q ∧ (q, a.getD k false, b.getD k false, c.getD k false) ∈ al := by
 unfold own_ok at h
 split at h
 ·cases h
 ·rename_i q hq
  obtain ⟨⟨z1, z2, z3, z4⟩, hz, e⟩ := List.any_eq_true.mp h
  simp only [Bool.and_eq_true, beq_iff_eq] at e
  obtain ⟨⟨⟨rfl, rfl⟩, rfl⟩, rfl⟩ := e
  exact ⟨_, hq, hz⟩
theorem own_sym {B : List (Option Int32)} {i t : Int32} (h : own_getB B i = some t) : F_rmSym i B = some t := by
 have e1 : F_rmChr i B = some t := own_bs (own_bs h rfl) rfl
 refine own_bs (z := i + 1) (own_bs e1 rfl) ?_
 show (if (i + (1 : Int32)).toInt = (i + (1 : Int32)).toInt then (F_rmChr i B).bind fun o4 => (some (o4)) else none) = _
 rw [if_pos rfl]; exact own_bs e1 rfl
theorem own_rd {B : List (Option Int32)} {i t s r sh nk : Int32} {K : List Int64} {T Fa : List Int32} (h : own_getB B i = some t) (hn : F_rmNxt s t sh nk K T Fa = some r) : F_rmRd s i sh nk K T Fa B = some r := own_bs (own_sym h) (own_bs hn rfl)
theorem own_best_eq {f0 f1 f2 s0 s1 s2 : Bool} {w0 w1 w2 : Int32} {c01 c02 c12 d01 d02 d12 : Bool} (h01 : (s0 && s1) = true → c01 = d01) (h02 : (s0 && s2) = true → c02 = d02) (h12 : (s1 && s2) = true → c12 = d12) :
  own_best f0 f1 f2 s0 s1 s2 w0 w1 w2 c01 c02 c12 = own_best f0 f1 f2 s0 s1 s2 w0 w1 w2 d01 d02 d12 := by
 cases s0 <;> cases s1 <;> cases s2 <;> simp_all [own_best]
theorem own_ord_spec {a b : own_Wd} {p : List Int32} {v w : Int32} (h : own_ord a b p v w = true) {k : Nat} (hk : k < 15) : (a.2.getD k false && b.2.getD k false) = true → decide (a.1.1.toInt < b.1.1.toInt) = own_lt p v w := by
 intro q
 have h1 := List.all_eq_true.mp h k (List.mem_range.mpr hk)
 rw [q] at h1
 simpa using h1
theorem own_c2_at {z : own_Tau × List own_Al} (hz : z ∈ own_tab) (f0 f1 f2 : Bool) : own_chk2 z f0 f1 f2 = true := by
 have h := List.all_eq_true.mp own_c2 z hz
 have h0 := List.all_eq_true.mp h f0 (by cases f0 <;> simp)
 have h1 := List.all_eq_true.mp h0 f1 (by cases f1 <;> simp)
 exact List.all_eq_true.mp h1 f2 (by cases f2 <;> simp)
theorem own_c2_spec {u v w : Int32} {p q wa m : List Int32} {fl : Int32} {al : List own_Al} (hz : (([u, v, w], p, q, wa, fl, m), al) ∈ own_tab) (f0 f1 f2 : Bool) :
  ∃ m1 m2 m3, own_mk f0 u fl p q m = some m1 ∧ own_mk f1 v fl p q m1 = some m2 ∧ own_mk f2 w fl p q m2 = some m3 ∧ ∀ y ∈ al, own_lo y.1 fl m3 wa p = some (own_best f0 f1 f2 y.2.1 y.2.2.1 y.2.2.2 u v w (own_lt p u v) (own_lt p u w) (own_lt p v w)) := by
 have h := own_c2_at hz f0 f1 f2
 have h' : (match (own_mk f0 u fl p q m).bind fun m1 => (own_mk f1 v fl p q m1).bind fun m2 => own_mk f2 w fl p q m2 with
  | some m3 => al.all fun y => decide (own_lo y.1 fl m3 wa p = some (own_best f0 f1 f2 y.2.1 y.2.2.1 y.2.2.2 u v w (own_lt p u v) (own_lt p u w) (own_lt p v w)))
  | none => false) = true := h
 split at h'
 ·rename_i m3 e
  obtain ⟨m1, e1, e⟩ := own_bnd e
  obtain ⟨m2, e2, e⟩ := own_bnd e
  exact ⟨m1, m2, m3, e1, e2, e, fun y hy => of_decide_eq_true (List.all_eq_true.mp h' y hy)⟩
 ·cases h'
theorem own_opc {c : Bool} {u : Int32} : own_op c (if c then u else 97) = own_op c u := by cases c <;> rfl
theorem own_wd {l u0 u1 u2 : Int32} (hl : l = 1 ∨ l = 2 ∨ l = 3) (h0 : u0 = 97 ∨ u0 = 98) (h1 : u1 = 97 ∨ u1 = 98) (h2 : u2 = 97 ∨ u2 = 98) : ∃ w ∈ own_words, w.1 = (l, u0, if decide (1 < l.toInt) then u1 else 97, if decide (2 < l.toInt) then u2 else 97) := by
 rcases hl with rfl | rfl | rfl <;> rcases h0 with rfl | rfl <;> rcases h1 with rfl | rfl <;> rcases h2 with rfl | rfl <;> decide +kernel
theorem own_in2 {x : Int32} (h : x = 97 ∨ x = 98) : x ∈ [(97 : Int32), 98] := by rcases h with rfl | rfl <;> simp
theorem own_sfx_at {w : own_Wd} {l u0 u1 u2 n a b c : Int32} (hw : w ∈ own_words) (e : w.1 = (l, u0, if decide (1 < l.toInt) then u1 else 97, if decide (2 < l.toInt) then u2 else 97)) (hn : n = 0 ∨ n = 1 ∨ n = 2 ∨ n = 3) (h1 : u1 = 97 ∨ u1 = 98) (h2 : u2 = 97 ∨ u2 = 98) (ha : a = 97 ∨ a = 98) (hb : b = 97 ∨ b = 98) (hc : c = 97 ∨ c = 98) :
  F_rmSuf 0 l n [u0, u1, u2] [a, b, c] = some (if w.2.getD (own_tx n a b c) false then 1 else 0) := by
 have q := List.all_eq_true.mp own_sfx w hw
 have q := List.all_eq_true.mp q n (by rcases hn with rfl | rfl | rfl | rfl <;> simp)
 have q := List.all_eq_true.mp q u1 (own_in2 h1)
 have q := List.all_eq_true.mp q u2 (own_in2 h2)
 have q := List.all_eq_true.mp q a (own_in2 ha)
 have q := List.all_eq_true.mp q b (own_in2 hb)
 have q := of_decide_eq_true (List.all_eq_true.mp q c (own_in2 hc))
 rw [e] at q
 have e1 : (if 1 < l.toInt then (if decide (1 < l.toInt) = true then u1 else 97) else u1) = u1 := by by_cases z : 1 < l.toInt <;> simp [z]
 have e2 : (if 2 < l.toInt then (if decide (2 < l.toInt) = true then u2 else 97) else u2) = u2 := by by_cases z : 2 < l.toInt <;> simp [z]
 dsimp only at q
 rw [e1, e2] at q
 exact q
theorem own_suf_eq {p1 l n a b c : Int32} {C9 C3 : List Int32} (h0 : own_get C9 p1 = some a) (h1 : own_get C9 (p1 + 1) = some b) (h2 : own_get C9 (p1 + 2) = some c) : F_rmSuf p1 l n C9 C3 = F_rmSuf 0 l n [a, b, c] C3 := by
 have g0 : own_get [a, b, c] 0 = some a := rfl
 have g1 : own_get [a, b, c] ((0 : Int32) + 1) = some b := rfl
 have g2 : own_get [a, b, c] ((0 : Int32) + 2) = some c := rfl
 unfold F_rmSuf
 rw [h0, h1, h2, g0, g1, g2]
end OwnJoin
section OwnRun
variable {p0 p1 p2 p3 u0 u1 u2 u3 u4 u5 u6 u7 u8 t0 t1 t2 n : Int32} {o : own_O} {l0 l1 l2 ga gb gc w0 w1 w2 sx be bl : Int32} {M m : List Int32} {f : Nat} {s0 s1 s2 : Bool}
theorem own_h0 (h : own_mk (!decide (ga.toInt = 0)) w0 o.2.2.2.2.1 o.2.2.2.2.2.2.2.2.2.2.2.1 o.2.2.2.2.2.2.2.2.2.2.2.2.1 M = some m) : S_rm0_1 p0 p1 p2 p3 u0 u1 u2 u3 u4 u5 u6 u7 u8 t0 t1 t2 n o l0 l1 l2 ga gb gc w0 w1 w2 (f + 1) 0 sx be bl M = S_rm0_1 p0 p1 p2 p3 u0 u1 u2 u3 u4 u5 u6 u7 u8 t0 t1 t2 n o l0 l1 l2 ga gb gc w0 w1 w2 f 1 0 0 0 m := by
 rw [S_rm0_1_0]
 by_cases c : ga.toInt = 0
 ·have e : M = m := by simpa [own_mk, c] using h
  rw [if_pos c, e]
 ·rw [if_neg c]
  exact own_bs (by simpa [own_mk, c] using h) rfl
theorem own_h1 (h : own_mk (!decide (gb.toInt = 0)) w1 o.2.2.2.2.1 o.2.2.2.2.2.2.2.2.2.2.2.1 o.2.2.2.2.2.2.2.2.2.2.2.2.1 M = some m) : S_rm0_1 p0 p1 p2 p3 u0 u1 u2 u3 u4 u5 u6 u7 u8 t0 t1 t2 n o l0 l1 l2 ga gb gc w0 w1 w2 (f + 1) 1 sx be bl M = S_rm0_1 p0 p1 p2 p3 u0 u1 u2 u3 u4 u5 u6 u7 u8 t0 t1 t2 n o l0 l1 l2 ga gb gc w0 w1 w2 f 2 0 0 0 m := by
 rw [S_rm0_1_1]
 by_cases c : gb.toInt = 0
 ·have e : M = m := by simpa [own_mk, c] using h
  rw [if_pos c, e]
 ·rw [if_neg c]
  exact own_bs (by simpa [own_mk, c] using h) rfl
theorem own_h2 (h : own_mk (!decide (gc.toInt = 0)) w2 o.2.2.2.2.1 o.2.2.2.2.2.2.2.2.2.2.2.1 o.2.2.2.2.2.2.2.2.2.2.2.2.1 M = some m) : S_rm0_1 p0 p1 p2 p3 u0 u1 u2 u3 u4 u5 u6 u7 u8 t0 t1 t2 n o l0 l1 l2 ga gb gc w0 w1 w2 (f + 1) 2 sx be bl M = S_rm0_1 p0 p1 p2 p3 u0 u1 u2 u3 u4 u5 u6 u7 u8 t0 t1 t2 n o l0 l1 l2 ga gb gc w0 w1 w2 f 3 0 0 0 m := by
 rw [S_rm0_1_2]
 by_cases c : gc.toInt = 0
 ·have e : M = m := by simpa [own_mk, c] using h
  rw [if_pos c, e]
 ·rw [if_neg c]
  exact own_bs (by simpa [own_mk, c] using h) rfl
theorem own_h6 (h : F_rmSuf 0 l0 n [u0, u1, u2, u3, u4, u5, u6, u7, u8] [t0, t1, t2] = some (if s0 then 1 else 0)) : S_rm0_1 p0 p1 p2 p3 u0 u1 u2 u3 u4 u5 u6 u7 u8 t0 t1 t2 n o l0 l1 l2 ga gb gc w0 w1 w2 (f + 1) 6 sx be bl M = if (!decide (ga.toInt = 0)) && s0 && decide ((0 : Int32).toInt < l0.toInt) then S_rm0_1 p0 p1 p2 p3 u0 u1 u2 u3 u4 u5 u6 u7 u8 t0 t1 t2 n o l0 l1 l2 ga gb gc w0 w1 w2 f 7 sx w0 l0 M else S_rm0_1 p0 p1 p2 p3 u0 u1 u2 u3 u4 u5 u6 u7 u8 t0 t1 t2 n o l0 l1 l2 ga gb gc w0 w1 w2 f 7 sx (-1) 0 M := by
 rw [S_rm0_1_6]
 by_cases c : ga.toInt = 0
 ·rw [if_pos c, if_neg (by simp [c])]
 ·rw [if_neg c]
  refine own_bs h ?_
  cases s0
  ·rw [if_pos (by decide), if_neg (by simp)]
  ·rw [if_neg (by decide)]
   by_cases z : 0 < l0.toInt
   ·rw [if_pos z, if_pos (by simp [c]; omega)]
   ·rw [if_neg z, if_neg (by simp [c]; omega)]
theorem own_h7 (h : F_rmSuf 3 l1 n [u0, u1, u2, u3, u4, u5, u6, u7, u8] [t0, t1, t2] = some (if s1 then 1 else 0)) : S_rm0_1 p0 p1 p2 p3 u0 u1 u2 u3 u4 u5 u6 u7 u8 t0 t1 t2 n o l0 l1 l2 ga gb gc w0 w1 w2 (f + 1) 7 sx be bl M = if (!decide (gb.toInt = 0)) && s1 && decide (bl.toInt < l1.toInt) then S_rm0_1 p0 p1 p2 p3 u0 u1 u2 u3 u4 u5 u6 u7 u8 t0 t1 t2 n o l0 l1 l2 ga gb gc w0 w1 w2 f 8 sx w1 l1 M else S_rm0_1 p0 p1 p2 p3 u0 u1 u2 u3 u4 u5 u6 u7 u8 t0 t1 t2 n o l0 l1 l2 ga gb gc w0 w1 w2 f 8 sx be bl M := by
 rw [S_rm0_1_7]
 by_cases c : gb.toInt = 0
 ·rw [if_pos c, if_neg (by simp [c])]
 ·rw [if_neg c]
  refine own_bs h ?_
  cases s1
  ·rw [if_pos (by decide), if_neg (by simp)]
  ·rw [if_neg (by decide)]
   by_cases z : bl.toInt < l1.toInt
   ·rw [if_pos z, if_pos (by simp [c]; omega)]
   ·rw [if_neg z, if_neg (by simp [c]; omega)]
theorem own_h8 (h : F_rmSuf 6 l2 n [u0, u1, u2, u3, u4, u5, u6, u7, u8] [t0, t1, t2] = some (if s2 then 1 else 0)) : S_rm0_1 p0 p1 p2 p3 u0 u1 u2 u3 u4 u5 u6 u7 u8 t0 t1 t2 n o l0 l1 l2 ga gb gc w0 w1 w2 (f + 1) 8 sx be bl M = if (!decide (gc.toInt = 0)) && s2 && decide (bl.toInt < l2.toInt) then S_rm0_1 p0 p1 p2 p3 u0 u1 u2 u3 u4 u5 u6 u7 u8 t0 t1 t2 n o l0 l1 l2 ga gb gc w0 w1 w2 f 9 sx w2 l2 M else S_rm0_1 p0 p1 p2 p3 u0 u1 u2 u3 u4 u5 u6 u7 u8 t0 t1 t2 n o l0 l1 l2 ga gb gc w0 w1 w2 f 9 sx be bl M := by
 rw [S_rm0_1_8]
 by_cases c : gc.toInt = 0
 ·rw [if_pos c, if_neg (by simp [c])]
 ·rw [if_neg c]
  refine own_bs h ?_
  cases s2
  ·rw [if_pos (by decide), if_neg (by simp)]
  ·rw [if_neg (by decide)]
   by_cases z : bl.toInt < l2.toInt
   ·rw [if_pos z, if_pos (by simp [c]; omega)]
   ·rw [if_neg z, if_neg (by simp [c]; omega)]
theorem own_fold (hl0 : 0 < l0.toInt) (hl1 : 0 < l1.toInt) (hl2 : 0 < l2.toInt) (h0 : F_rmSuf 0 l0 n [u0, u1, u2, u3, u4, u5, u6, u7, u8] [t0, t1, t2] = some (if s0 then 1 else 0)) (h1 : F_rmSuf 3 l1 n [u0, u1, u2, u3, u4, u5, u6, u7, u8] [t0, t1, t2] = some (if s1 then 1 else 0)) (h2 : F_rmSuf 6 l2 n [u0, u1, u2, u3, u4, u5, u6, u7, u8] [t0, t1, t2] = some (if s2 then 1 else 0)) :
  S_rm0_1 p0 p1 p2 p3 u0 u1 u2 u3 u4 u5 u6 u7 u8 t0 t1 t2 n o l0 l1 l2 ga gb gc w0 w1 w2 (f + 4) 6 sx 0 0 M = (F_rmLo sx o.2.2.2.2.1 M o.2.2.2.2.2.2.2.2.2.2.2.2.2.1 o.2.2.2.2.2.2.2.2.2.1 o.2.2.2.2.2.2.2.2.2.2.2.1).bind fun r => if r.toInt = (own_best (!decide (ga.toInt = 0)) (!decide (gb.toInt = 0)) (!decide (gc.toInt = 0)) s0 s1 s2 w0 w1 w2 (decide (l0.toInt < l1.toInt)) (decide (l0.toInt < l2.toInt)) (decide (l1.toInt < l2.toInt))).toInt then some 1 else some 0 := by
 have z0 : decide ((0 : Int32).toInt < l0.toInt) = true := decide_eq_true hl0
 have z1 : decide ((0 : Int32).toInt < l1.toInt) = true := decide_eq_true hl1
 have z2 : decide ((0 : Int32).toInt < l2.toInt) = true := decide_eq_true hl2
 have k9 : ∀ be bl, S_rm0_1 p0 p1 p2 p3 u0 u1 u2 u3 u4 u5 u6 u7 u8 t0 t1 t2 n o l0 l1 l2 ga gb gc w0 w1 w2 (f + 1) 9 sx be bl M = (F_rmLo sx o.2.2.2.2.1 M o.2.2.2.2.2.2.2.2.2.2.2.2.2.1 o.2.2.2.2.2.2.2.2.2.1 o.2.2.2.2.2.2.2.2.2.2.2.1).bind fun r => if r.toInt = be.toInt then some 1 else some 0 := fun be bl => S_rm0_1_9 _ _ _ _ _ _ _ _ _ _ _ _ _ _ _ _ _ _ _ _ _ _ _ _ _ _ _ f sx be bl M
 rw [own_h6 h0, z0, Bool.and_true]
 unfold own_best
 by_cases a0 : ((!decide (ga.toInt = 0)) && s0) = true
 ·rw [if_pos a0, if_pos a0, own_h7 h1]
  by_cases a1 : ((!decide (gb.toInt = 0)) && s1 && decide (l0.toInt < l1.toInt)) = true
  ·rw [if_pos a1, if_pos a1, own_h8 h2]
   by_cases a2 : ((!decide (gc.toInt = 0)) && s2 && decide (l1.toInt < l2.toInt)) = true
   ·rw [if_pos a2, if_pos a2, k9]
   ·rw [if_neg a2, if_neg a2, k9]
  ·rw [if_neg a1, if_neg a1, own_h8 h2]
   by_cases a2 : ((!decide (gc.toInt = 0)) && s2 && decide (l0.toInt < l2.toInt)) = true
   ·rw [if_pos a2, if_pos a2, k9]
   ·rw [if_neg a2, if_neg a2, k9]
 ·rw [if_neg a0, if_neg a0, own_h7 h1, z1, Bool.and_true]
  by_cases a1 : ((!decide (gb.toInt = 0)) && s1) = true
  ·rw [if_pos a1, if_pos a1, own_h8 h2]
   by_cases a2 : ((!decide (gc.toInt = 0)) && s2 && decide (l1.toInt < l2.toInt)) = true
   ·rw [if_pos a2, if_pos a2, k9]
   ·rw [if_neg a2, if_neg a2, k9]
  ·rw [if_neg a1, if_neg a1, own_h8 h2, z2, Bool.and_true]
   by_cases a2 : ((!decide (gc.toInt = 0)) && s2) = true
   ·rw [if_pos a2, if_pos a2, k9]
   ·rw [if_neg a2, if_neg a2, k9]
/-- the text is read: the state stands at 'sx', whose word is q -/
theorem own_reads {al : List own_Al} {a b c : List Bool} (ht : own_tree (own_nx o) (own_ok o al a b c) 3 0 0 = true) (hn : n = 0 ∨ n = 1 ∨ n = 2 ∨ n = 3) (h0 : t0 = 97 ∨ t0 = 98) (h1 : t1 = 97 ∨ t1 = 98) (h2 : t2 = 97 ∨ t2 = 98) :
  ∃ sx q, S_rm0_1 p0 p1 p2 p3 u0 u1 u2 u3 u4 u5 u6 u7 u8 t0 t1 t2 n o l0 l1 l2 ga gb gc w0 w1 w2 (f + 4) 3 0 0 0 M = S_rm0_1 p0 p1 p2 p3 u0 u1 u2 u3 u4 u5 u6 u7 u8 t0 t1 t2 n o l0 l1 l2 ga gb gc w0 w1 w2 (f + 1) 6 sx 0 0 M ∧ own_get o.2.2.2.2.2.2.2.2.2.1 sx = some q ∧ (q, a.getD (own_tx n t0 t1 t2) false, b.getD (own_tx n t0 t1 t2) false, c.getD (own_tx n t0 t1 t2) false) ∈ al := by
 obtain ⟨r1, e1, k1⟩ := own_tree_go ht h0
 obtain ⟨r2, e2, k2⟩ := own_tree_go k1 h1
 obtain ⟨r3, e3, k3⟩ := own_tree_go k2 h2
 rcases hn with rfl | rfl | rfl | rfl
 ·obtain ⟨q, q1, q2⟩ := own_ok_spec (own_tree_ok ht)
  refine ⟨0, q, ?_, q1, q2⟩
  rw [S_rm0_1_3, if_pos (by decide), S_rm0_1_4, if_pos (by decide), S_rm0_1_5, if_pos (by decide)]
 ·obtain ⟨q, q1, q2⟩ := own_ok_spec (own_tree_ok k1)
  have e : 2 * 0 + own_d t0 = own_tx 1 t0 t1 t2 := by rcases h0 with rfl | rfl <;> rfl
  rw [e] at q2
  refine ⟨r1, q, ?_, q1, q2⟩
  rw [S_rm0_1_3, if_neg (by decide)]
  refine own_bs (own_rd (t := t0) rfl e1) ?_
  rw [S_rm0_1_4, if_pos (by decide), S_rm0_1_5, if_pos (by decide)]
 ·obtain ⟨q, q1, q2⟩ := own_ok_spec (own_tree_ok k2)
  have e : 2 * (2 * 0 + own_d t0) + own_d t1 = own_tx 2 t0 t1 t2 := by rcases h0 with rfl | rfl <;> rcases h1 with rfl | rfl <;> rfl
  rw [e] at q2
  refine ⟨r2, q, ?_, q1, q2⟩
  rw [S_rm0_1_3, if_neg (by decide)]
  refine own_bs (own_rd (t := t0) rfl e1) ?_
  rw [S_rm0_1_4, if_neg (by decide)]
  refine own_bs (own_rd (t := t1) rfl e2) ?_
  rw [S_rm0_1_5, if_pos (by decide)]
 ·obtain ⟨q, q1, q2⟩ := own_ok_spec (own_tree_ok k3)
  have e : 2 * (2 * (2 * 0 + own_d t0) + own_d t1) + own_d t2 = own_tx 3 t0 t1 t2 := by rcases h0 with rfl | rfl <;> rcases h1 with rfl | rfl <;> rcases h2 with rfl | rfl <;> rfl
  rw [e] at q2
  refine ⟨r3, q, ?_, q1, q2⟩
  rw [S_rm0_1_3, if_neg (by decide)]
  refine own_bs (own_rd (t := t0) rfl e1) ?_
  rw [S_rm0_1_4, if_neg (by decide)]
  refine own_bs (own_rd (t := t1) rfl e2) ?_
  rw [S_rm0_1_5, if_neg (by decide)]
  exact own_bs (own_rd (t := t2) rfl e3) rfl
theorem own_pos3 {l : Int32} (h : l = 1 ∨ l = 2 ∨ l = 3) : 0 < l.toInt := by rcases h with rfl | rfl | rfl <;> decide
theorem own_tx15 {n a b c : Int32} (hn : n = 0 ∨ n = 1 ∨ n = 2 ∨ n = 3) (ha : a = 97 ∨ a = 98) (hb : b = 97 ∨ b = 98) (hc : c = 97 ∨ c = 98) : own_tx n a b c < 15 := by
 rcases hn with rfl | rfl | rfl | rfl <;> rcases ha with rfl | rfl <;> rcases hb with rfl | rfl <;> rcases hc with rfl | rfl <;> decide
theorem own_fin (hl0 : l0 = 1 ∨ l0 = 2 ∨ l0 = 3) (hl1 : l1 = 1 ∨ l1 = 2 ∨ l1 = 3) (hl2 : l2 = 1 ∨ l2 = 2 ∨ l2 = 3) (hn : n = 0 ∨ n = 1 ∨ n = 2 ∨ n = 3) (hu0 : u0 = 97 ∨ u0 = 98) (hu1 : u1 = 97 ∨ u1 = 98) (hu2 : u2 = 97 ∨ u2 = 98) (hu3 : u3 = 97 ∨ u3 = 98) (hu4 : u4 = 97 ∨ u4 = 98) (hu5 : u5 = 97 ∨ u5 = 98) (hu6 : u6 = 97 ∨ u6 = 98) (hu7 : u7 = 97 ∨ u7 = 98) (hu8 : u8 = 97 ∨ u8 = 98) (ht0 : t0 = 97 ∨ t0 = 98) (ht1 : t1 = 97 ∨ t1 = 98) (ht2 : t2 = 97 ∨ t2 = 98) :
  ((F_rmInit [0, 3, 6] [l0, 3 + l1, 6 + l2] (own_B9 l0 l1 l2 u0 u1 u2 u3 u4 u5 u6 u7 u8)).bind fun o => ((F_rmWd (0 : Int32) o.2.2.2.2.2.2.2.2.2.2.1).bind fun w0 => ((F_rmWd (1 : Int32) o.2.2.2.2.2.2.2.2.2.2.1).bind fun w1 => ((F_rmWd (2 : Int32) o.2.2.2.2.2.2.2.2.2.2.1).bind fun w2 => (S_rm0_1 p0 p1 p2 p3 u0 u1 u2 u3 u4 u5 u6 u7 u8 t0 t1 t2 n o l0 l1 l2 ga gb gc w0 w1 w2 14 0 0 0 0 o.2.2.2.2.2.2.2.2.2.2.2.2.2.2))))) = some 1 := by
 obtain ⟨a, ha, ea⟩ := own_wd hl0 hu0 hu1 hu2
 obtain ⟨b, hb, eb⟩ := own_wd hl1 hu3 hu4 hu5
 obtain ⟨c, hc, ec⟩ := own_wd hl2 hu6 hu7 hu8
 obtain ⟨i, hchk⟩ := own_pall a ha b hb c hc
 obtain ⟨o, t, al, x, y, z, hI, ht, htau, hxyz, o1, o2, o3, htr⟩ := own_chk_spec hchk
 have k15 := own_tx15 hn ht0 ht1 ht2
 have c1 := own_ord_spec o1 k15
 have c2 := own_ord_spec o2 k15
 have c3 := own_ord_spec o3 k15
 have f1 := own_sfx_at ha ea hn hu1 hu2 ht0 ht1 ht2
 have f2 := own_sfx_at hb eb hn hu4 hu5 ht0 ht1 ht2
 have f3 := own_sfx_at hc ec hn hu7 hu8 ht0 ht1 ht2
 rw [ea] at hI c1 c2
 rw [eb] at hI c1 c3
 rw [ec] at hI c2 c3
 dsimp only at hI c1 c2 c3
 have eB : own_B9 l0 l1 l2 u0 (if decide (1 < l0.toInt) = true then u1 else 97) (if decide (2 < l0.toInt) = true then u2 else 97) u3 (if decide (1 < l1.toInt) = true then u4 else 97) (if decide (2 < l1.toInt) = true then u5 else 97) u6 (if decide (1 < l2.toInt) = true then u7 else 97) (if decide (2 < l2.toInt) = true then u8 else 97) = own_B9 l0 l1 l2 u0 u1 u2 u3 u4 u5 u6 u7 u8 := by
  unfold own_B9
  simp only [own_opc]
 rw [eB] at hI
 subst htau
 have hW : o.2.2.2.2.2.2.2.2.2.2.1 = [x, y, z] := hxyz
 have ht' : (([x, y, z], o.2.2.2.2.2.2.2.2.2.2.2.1, o.2.2.2.2.2.2.2.2.2.2.2.2.1, o.2.2.2.2.2.2.2.2.2.2.2.2.2.1, o.2.2.2.2.1, o.2.2.2.2.2.2.2.2.2.2.2.2.2.2), al) ∈ own_tab := by rw [← hW]; exact ht
 refine own_bs hI ?_
 refine own_bs (z := x) (by rw [hW]; rfl) ?_
 refine own_bs (z := y) (by rw [hW]; rfl) ?_
 refine own_bs (z := z) (by rw [hW]; rfl) ?_
 obtain ⟨m1, m2, m3, e1, e2, e3, hall⟩ := own_c2_spec ht' (!decide (ga.toInt = 0)) (!decide (gb.toInt = 0)) (!decide (gc.toInt = 0))
 refine (own_h0 (o := o) (f := 13) e1).trans ?_
 refine (own_h1 (o := o) (f := 12) e2).trans ?_
 refine (own_h2 (o := o) (f := 11) e3).trans ?_
 obtain ⟨sx, q, es, eq, hq⟩ := own_reads (f := 7) (M := m3) (p0 := p0) (p1 := p1) (p2 := p2) (p3 := p3) (u0 := u0) (u1 := u1) (u2 := u2) (u3 := u3) (u4 := u4) (u5 := u5) (u6 := u6) (u7 := u7) (u8 := u8) (l0 := l0) (l1 := l1) (l2 := l2) (ga := ga) (gb := gb) (gc := gc) (w0 := x) (w1 := y) (w2 := z) htr hn ht0 ht1 ht2
 refine es.trans ?_
 refine (own_fold (o := o) (f := 4) (own_pos3 hl0) (own_pos3 hl1) (own_pos3 hl2) ((own_suf_eq (a := u0) (b := u1) (c := u2) rfl rfl rfl).trans f1) ((own_suf_eq (a := u3) (b := u4) (c := u5) rfl rfl rfl).trans f2) ((own_suf_eq (a := u6) (b := u7) (c := u8) rfl rfl rfl).trans f3)).trans ?_
 have hlo := hall _ hq
 have eL : F_rmLo sx o.2.2.2.2.1 m3 o.2.2.2.2.2.2.2.2.2.2.2.2.2.1 o.2.2.2.2.2.2.2.2.2.1 o.2.2.2.2.2.2.2.2.2.2.2.1 = own_lo q o.2.2.2.2.1 m3 o.2.2.2.2.2.2.2.2.2.2.2.2.2.1 o.2.2.2.2.2.2.2.2.2.2.2.1 := own_bs eq rfl
 refine own_bs (eL.trans hlo) ?_
 exact if_pos (congrArg Int32.toInt (own_best_eq c1 c2 c3).symm)
theorem own_tail (hl0 : l0 = 1 ∨ l0 = 2 ∨ l0 = 3) (hl1 : l1 = 1 ∨ l1 = 2 ∨ l1 = 3) (hl2 : l2 = 1 ∨ l2 = 2 ∨ l2 = 3) (hn : n = 0 ∨ n = 1 ∨ n = 2 ∨ n = 3) (hu0 : u0 = 97 ∨ u0 = 98) (hu1 : u1 = 97 ∨ u1 = 98) (hu2 : u2 = 97 ∨ u2 = 98) (hu3 : u3 = 97 ∨ u3 = 98) (hu4 : u4 = 97 ∨ u4 = 98) (hu5 : u5 = 97 ∨ u5 = 98) (hu6 : u6 = 97 ∨ u6 = 98) (hu7 : u7 = 97 ∨ u7 = 98) (hu8 : u8 = 97 ∨ u8 = 98) (ht0 : t0 = 97 ∨ t0 = 98) (ht1 : t1 = 97 ∨ t1 = 98) (ht2 : t2 = 97 ∨ t2 = 98) :
  S_rm0_0 p0 p1 p2 p3 u0 u1 u2 u3 u4 u5 u6 u7 u8 l0 l1 l2 [0, 3, 6] [l0, 3 + l1, 6 + l2] t0 t1 t2 n 5 0 0 0 0 = some 1 := by
 have K : ∀ ga gb gc : Int32, S_rm0_0 p0 p1 p2 p3 u0 u1 u2 u3 u4 u5 u6 u7 u8 l0 l1 l2 [0, 3, 6] [l0, 3 + l1, 6 + l2] t0 t1 t2 n 2 3 ga gb gc = some 1 := fun ga gb gc => own_fin hl0 hl1 hl2 hn hu0 hu1 hu2 hu3 hu4 hu5 hu6 hu7 hu8 ht0 ht1 ht2
 rw [S_rm0_0_0]
 split <;> rw [S_rm0_0_1] <;> split <;> rw [S_rm0_0_2] <;> split <;> exact K _ _ _
theorem own_plain (p0 p1 p2 p3 : Int32) : F_rm0 p0 p1 p2 p3 = some 1 := by
 obtain ⟨u0, e0, hu0⟩ := own_let2 p0 0
 obtain ⟨u1, e1, hu1⟩ := own_let2 p0 1
 obtain ⟨u2, e2, hu2⟩ := own_let2 p0 2
 obtain ⟨u3, e3, hu3⟩ := own_let2 p0 3
 obtain ⟨u4, e4, hu4⟩ := own_let2 p0 4
 obtain ⟨u5, e5, hu5⟩ := own_let2 p0 5
 obtain ⟨u6, e6, hu6⟩ := own_let2 p0 6
 obtain ⟨u7, e7, hu7⟩ := own_let2 p0 7
 obtain ⟨u8, e8, hu8⟩ := own_let2 p0 8
 obtain ⟨t0, d0, ht0⟩ := own_let2 p3 2
 obtain ⟨t1, d1, ht1⟩ := own_let2 p3 3
 obtain ⟨t2, d2, ht2⟩ := own_let2 p3 4
 obtain ⟨l0, el0, hl0⟩ := own_len p1
 obtain ⟨l1, el1, hl1⟩ := own_len ((p1.toUInt32 >>> ((2 : Int32) &&& 31).toUInt32).toInt32)
 obtain ⟨l2, el2, hl2⟩ := own_len ((p1.toUInt32 >>> ((4 : Int32) &&& 31).toUInt32).toInt32)
 obtain ⟨n, en, hn⟩ : ∃ n, p3 &&& (3 : Int32) = n ∧ (n = 0 ∨ n = 1 ∨ n = 2 ∨ n = 3) := ⟨_, rfl, own_msk p3⟩
 refine own_bs e0 ?_
 refine own_bs e1 ?_
 refine own_bs e2 ?_
 refine own_bs e3 ?_
 refine own_bs e4 ?_
 refine own_bs e5 ?_
 refine own_bs e6 ?_
 refine own_bs e7 ?_
 refine own_bs e8 ?_
 refine own_bs (z := l0) (congrArg some el0) ?_
 refine own_bs (z := l1) (congrArg some el1) ?_
 refine own_bs (z := l2) (congrArg some el2) ?_
 refine own_bs (z := ()) rfl ?_
 refine own_bs (z := [0, 0, 0]) rfl ?_
 refine own_bs (z := [0, 3, 0]) rfl ?_
 refine own_bs (z := [0, 3, 6]) rfl ?_
 refine own_bs (z := ()) rfl ?_
 refine own_bs (z := [l0, 0, 0]) rfl ?_
 refine own_bs (z := [l0, 3 + l1, 0]) rfl ?_
 refine own_bs (z := [l0, 3 + l1, 6 + l2]) rfl ?_
 refine own_bs d0 ?_
 refine own_bs d1 ?_
 refine own_bs d2 ?_
 refine own_bs (z := n) (congrArg some en) ?_
 exact own_tail hl0 hl1 hl2 hn hu0 hu1 hu2 hu3 hu4 hu5 hu6 hu7 hu8 ht0 ht1 ht2
end OwnRun
set_option maxRecDepth 65536 in
set_option maxHeartbeats 40000000 in
theorem comes_1 {Post : Tables → Env → Array Value → State → Outcome → State → Prop} (hpost : ∀ tb e args s v u, (limb_1_1.after args s (.returned v) u = true ∧ limb_1_2.after args s (.returned v) u = true ∧ True) → ReturnedEndW s (.returned v) u (Jvm.fieldLocs frame_1_writes args s ++ Jvm.arrayLocs frame_1_arrays args s ++ Jvm.staticLocs frame_1_statics s) 64 448 → Post tb e args s (.returned v) u) :
  ArmFor flags0 classFile x code maxLocals ret World_1 tables_1 room_1 Calls_1 rest_1 Pre_1 Post := by
 intro l hfl _ _ p e ha hc hk s m args below hf hA hF happ hP
 obtain ⟨hcalls, hrest, hpre⟩ := hP
 obtain ⟨-, -, -, hnamed, -, -, -, hat⟩ := (Spec.applies_iff hf).mp happ
 obtain ⟨hg, hn⟩ := and_e (Cond.before_iff.mp (show (Jvm.Cond.and given_1 narrow_1).before args s = true from hpre))
 obtain ⟨gc, gr0⟩ := and_e hg
 obtain ⟨ga0, gr1⟩ := and_e gr0
 obtain ⟨ga1, gr2⟩ := and_e gr1
 obtain ⟨ga2, gr3⟩ := and_e gr2
 have ga3 := gr3
 obtain ⟨w0, w1, w2, w3, rfl⟩ : ∃ w0 w1 w2 w3 : Value, args = #[w0, w1, w2, w3] := by
  have hs : args.size = 4 := by simpa [Cond.value, given_1] using gc
  obtain ⟨L⟩ := args
  match L, hs with
  | [w0, w1, w2, w3], _ => exact ⟨w0, w1, w2, w3, rfl⟩
 have hw := fun d (hd : d ∈ tables_1) => atoms_spec (ws := Jvm.Cond.code x code maxLocals ret :: tables_1) hat d (List.mem_cons_of_mem _ hd)
 obtain ⟨i0, ei0⟩ := is_v ga0
 obtain rfl : w0 = (.int i0) := Option.some.inj ei0
 obtain ⟨i1, ei1⟩ := is_v ga1
 obtain rfl : w1 = (.int i1) := Option.some.inj ei1
 obtain ⟨i2, ei2⟩ := is_v ga2
 obtain rfl : w2 = (.int i2) := Option.some.inj ei2
 obtain ⟨i3, ei3⟩ := is_v ga3
 obtain rfl : w3 = (.int i3) := Option.some.inj ei3
 obtain ⟨hsets, hown0⟩ := atoms_of _ (rest_1_c_eq ▸ (show rest_1_c.before _ s = true from hrest))
 have n3 := not_v (Cond.before_iff.mp (hsets _ (List.mem_of_getElem? (i := 2) rfl)))
 obtain ⟨cz, ez⟩ := is_v (Cond.before_iff.mp (hsets _ (List.mem_of_getElem? (i := 1) rfl)))
 have SC : Sta s s.heap "java/lang/String" "COMPACT_STRINGS" "Z" (.int cz) := Sta.start ez (Or.inl (hsets _ (List.mem_of_getElem? (i := 0) rfl)))
 have hcz : ¬ cz.toInt = 0 := fun q => gotF (Cond.eq_ints ez (Term.int_eval (0))) n3 (Int32.toInt_inj.mp q)
 obtain ⟨sv, ev, rv⟩ := isR_v (Cond.before_iff.mp (hsets _ (List.mem_of_getElem? (i := 8) rfl)))
 have SF : Sta s s.heap "jdk/internal/util/Preconditions" "SIOOBE_FORMATTER" "Ljava/util/function/BiFunction;" sv := Sta.start ev (Or.inl (hsets _ (List.mem_of_getElem? (i := 7) rfl)))
 obtain ⟨n, o, h1, h2, h3, _, L, rfl, ⟨rfl, N, -⟩, hq0⟩ := rm0 l s _ hw tables_1 i0 i1 i2 i3 sv 1 cz s.heap s.heap.size (Nat.le_refl _) SC hcz (Old.start s) SF (ref_cases rv) (own_plain _ _ _ _) p e ha hc hk s m _ below hf ((Spec.applies_iff_loose hf).mp happ).1 ⟨rfl, State.WarmedH.refl s, rfl⟩ trivial
 have hq := Jvm.LamKit.wideOf hq0
 refine ⟨n, _, h1, h2, h3, hpost _ _ _ _ _ _ ⟨Cond.after_iff.mpr rfl, Cond.after_iff.mpr (eq_i res_at (Term.int_eval (1)) rfl), trivial⟩ ⟨hq.1, hq.2.1, hq.2.2.1, (hq.2.2.2.sift fun y hy => Or.inr (N y hy)).mono (by decide) (by decide)⟩⟩
theorem main_1_1 : Claimed_1_1 := comes_1 fun _ _ _ _ _ _ h hF => ⟨h.1, hF⟩
theorem main_1_2 : Claimed_1_2 := comes_1 fun _ _ _ _ _ _ h hF => ⟨h.2.1, hF⟩
end Jvm.Pilot.@@N@@
namespace Jvm.Pilot.@@N@@
open Jvm Jvm.ClassFile Sem Op Lib Jvm.Free Jvm.Stand Jvm.Pilot.@@N@@.Jvm.D
/-! MADE BY PROGRAM (witnessworld.py) out of the Statement's table words and the real class files: 30 classes; the members and pool entries that the words name. The judged class is class 1, her method 1. -/
namespace start1
open Jvm.ClassFile
def u (s : String) : CpInfo := .utf8 (stringToUtf16 s)
/-- a pool by its gaps: so many unusable entries, then the entry; so many at the end -/
def gap : Nat → List CpInfo → List CpInfo
  | 0, r => r
  | n + 1, r => .unusable :: gap n r
def poolList (es : List (Nat × CpInfo)) (last : Nat) : List CpInfo := es.foldr (fun e r => gap e.1 (e.2 :: r)) (gap last [])
def pool (es : List (Nat × CpInfo)) (last : Nat) : Array CpInfo := ⟨poolList es last⟩
def fileOf (pool : Array CpInfo) (this : Nat) (attrs : Array Attribute := #[]) (ms : Array MethodInfo := #[]) (fl : Nat := 33) (sup : Nat := 0) (ifs : Array Nat := #[]) (fds : Array FieldInfo := #[]) : ClassFile where
  minorVersion := 0
  majorVersion := 65
  constantPool := pool
  accessFlags := fl
  thisClass := this
  superClass := sup
  interfaces := ifs
  fields := fds
  methods := ms
  attributes := attrs
def plain (name : String) (sup : Option ClassId) : Class where
  name := name
  kind := .ordinary
  loader := none
  accessFlags := 33
  super := sup
  interfaces := #[]
  cf := none
  fields := #[]
  methods := #[]
  instanceTypes := #[]
  staticTypes := #[]
  resolved := #[]
  callSites := []
  init := .initialized
  statics := none
  mirror := none

def pool0 : Array CpInfo := pool [(5, u "<init>"), (0, u "()V"), (1, .class_ 10), (1, u "java/lang/Object"), (85, u "clone"), (0, u "()Ljava/lang/Object;")] 26

def k0c0 : Code := { maxStack := 0, maxLocals := 1, code := object_method_1_code, exceptionTable := #[], attributes := #[] }
def k0m0 : Method := { name := "<init>", desc := "()V", sig := { parameters := [], returnType := none }, accessFlags := 1, code := some k0c0 }
def k0m1 : Method := { name := "clone", desc := "()Ljava/lang/Object;", sig := { parameters := [], returnType := some (.object "java/lang/Object") }, accessFlags := 260, code := none }
/-- java/lang/Object -/
def k0 : Class := { plain "java/lang/Object" none with
  accessFlags := 33
  interfaces := #[]
  cf := some (fileOf pool0 8 #[] #[{ accessFlags := 1, nameIndex := 5, descriptorIndex := 6, attributes := #[] }, { accessFlags := 260, nameIndex := 96, descriptorIndex := 97, attributes := #[] }] 33 0 #[] #[])
  fields := #[]
  methods := #[k0m0, k0m1]
  instanceTypes := #[]
  staticTypes := #[]
  resolved := Array.replicate 124 none
  statics := none }

def pool1 : Array CpInfo := pool [(2, .class_ 4), (1, u "java/lang/Object"), (0, u "<init>"), (0, u "()V"), (0, .methodref 8 9), (0, .class_ 10), (0, .nameAndType 11 12), (0, u "com/example/portero/portero/matching/SegmentAutomatonLongestMarkedPinLaw"), (0, u "letter"), (0, u "(II)C"), (0, .class_ 14), (0, u "java/lang/String"), (0, .methodref 13 16), (0, .nameAndType 5 17), (0, u "([C)V"), (0, .class_ 19), (0, u "com/example/portero/portero/matching/SegmentAutomaton"), (0, .methodref 18 21), (0, .nameAndType 5 22), (0, u "(Ljava/lang/String;[I[II)V"), (0, .methodref 18 24), (0, .nameAndType 25 26), (0, u "word"), (0, u "(I)I"), (0, .methodref 18 28), (0, .nameAndType 29 30), (0, u "mark"), (0, u "(IZ)V"), (0, .methodref 18 32), (0, .nameAndType 33 34), (0, u "read"), (0, u "(ILjava/lang/String;I)I"), (0, .methodref 8 36), (0, .nameAndType 37 38), (0, u "isSuffix"), (0, u "([CII[CI)Z"), (0, .methodref 18 40), (0, .nameAndType 41 26), (0, u "longestMarked"), (2, u "law"), (0, u "(IIII)Z")] 7

def k1m0 : Method := { name := "<init>", desc := "()V", sig := { parameters := [], returnType := none }, accessFlags := 1, code := none }
def k1c1 : Code := { maxStack := 6, maxLocals := 24, code := code, exceptionTable := #[], attributes := #[] }
def k1m1 : Method := { name := "law", desc := "(IIII)Z", sig := { parameters := [.int, .int, .int, .int], returnType := some .boolean }, accessFlags := 9, code := some k1c1 }
def k1c2 : Code := { maxStack := 2, maxLocals := 2, code := method_3_code, exceptionTable := #[], attributes := #[] }
def k1m2 : Method := { name := "letter", desc := "(II)C", sig := { parameters := [.int, .int], returnType := some .char }, accessFlags := 10, code := some k1c2 }
def k1c3 : Code := { maxStack := 4, maxLocals := 6, code := method_4_code, exceptionTable := #[], attributes := #[] }
def k1m3 : Method := { name := "isSuffix", desc := "([CII[CI)Z", sig := { parameters := [(.array .char), .int, .int, (.array .char), .int], returnType := some .boolean }, accessFlags := 10, code := some k1c3 }
/-- com/example/portero/portero/matching/SegmentAutomatonLongestMarkedPinLaw -/
def k1 : Class := { plain "com/example/portero/portero/matching/SegmentAutomatonLongestMarkedPinLaw" (some 0) with
  accessFlags := 49
  interfaces := #[]
  cf := some (fileOf pool1 8 #[] #[{ accessFlags := 1, nameIndex := 5, descriptorIndex := 6, attributes := #[] }, { accessFlags := 9, nameIndex := 44, descriptorIndex := 45, attributes := #[] }, { accessFlags := 10, nameIndex := 11, descriptorIndex := 12, attributes := #[] }, { accessFlags := 10, nameIndex := 37, descriptorIndex := 38, attributes := #[] }] 49 2 #[] #[])
  fields := #[]
  methods := #[k1m0, k1m1, k1m2, k1m3]
  instanceTypes := #[]
  staticTypes := #[]
  resolved := Array.replicate 53 none
  statics := none }

def pool2 : Array CpInfo := pool [(1, .class_ 2), (0, u "java/io/Serializable"), (0, .class_ 4), (0, u "java/lang/Object")] 2

/-- java/io/Serializable -/
def k2 : Class := { plain "java/io/Serializable" (some 0) with
  accessFlags := 1537
  interfaces := #[]
  cf := some (fileOf pool2 1 #[] #[] 1537 3 #[] #[])
  fields := #[]
  methods := #[]
  instanceTypes := #[]
  staticTypes := #[]
  resolved := Array.replicate 7 none
  statics := none }

def pool3 : Array CpInfo := pool [(1, .class_ 2), (0, u "java/lang/Comparable"), (0, .class_ 4), (0, u "java/lang/Object")] 7

/-- java/lang/Comparable -/
def k3 : Class := { plain "java/lang/Comparable" (some 0) with
  accessFlags := 1537
  interfaces := #[]
  cf := some (fileOf pool3 1 #[] #[] 1537 3 #[] #[])
  fields := #[]
  methods := #[]
  instanceTypes := #[]
  staticTypes := #[]
  resolved := Array.replicate 12 none
  statics := none }

def pool4 : Array CpInfo := pool [(2, .class_ 4), (1, u "java/lang/CharSequence"), (42, .class_ 48), (0, u "java/lang/CharSequence$1CodePointIterator"), (10, .class_ 60), (0, u "java/lang/CharSequence$1CharIterator"), (5, .class_ 67), (0, u "java/lang/Object")] 63

/-- java/lang/CharSequence -/
def k4 : Class := { plain "java/lang/CharSequence" (some 0) with
  accessFlags := 1537
  interfaces := #[]
  cf := some (fileOf pool4 2 #[.nestMembers #[47, 59]] #[] 1537 66 #[] #[])
  fields := #[]
  methods := #[]
  instanceTypes := #[]
  staticTypes := #[]
  resolved := Array.replicate 131 none
  statics := none }

def pool5 : Array CpInfo := pool [(1, .class_ 2), (0, u "java/lang/constant/Constable"), (0, .class_ 4), (0, u "java/lang/Object")] 6

/-- java/lang/constant/Constable -/
def k5 : Class := { plain "java/lang/constant/Constable" (some 0) with
  accessFlags := 1537
  interfaces := #[]
  cf := some (fileOf pool5 1 #[] #[] 1537 3 #[] #[])
  fields := #[]
  methods := #[]
  instanceTypes := #[]
  staticTypes := #[]
  resolved := Array.replicate 11 none
  statics := none }

def pool6 : Array CpInfo := pool [(1, .class_ 2), (0, u "java/lang/constant/ConstantDesc"), (0, .class_ 4), (0, u "java/lang/Object")] 32

/-- java/lang/constant/ConstantDesc -/
def k6 : Class := { plain "java/lang/constant/ConstantDesc" (some 0) with
  accessFlags := 1537
  interfaces := #[]
  cf := some (fileOf pool6 1 #[] #[] 1537 3 #[] #[])
  fields := #[]
  methods := #[]
  instanceTypes := #[]
  staticTypes := #[]
  resolved := Array.replicate 37 none
  statics := none }

def pool7 : Array CpInfo := pool [(1, .methodref 2 3), (0, .class_ 4), (0, .nameAndType 5 6), (0, u "java/lang/Object"), (0, u "<init>"), (0, u "()V"), (2, .fieldref 10 11), (0, .class_ 12), (0, .nameAndType 13 14), (0, u "java/lang/String"), (0, u "value"), (0, u "[B"), (0, .fieldref 10 16), (0, .nameAndType 17 18), (0, u "coder"), (0, u "B"), (2, u "hash"), (0, u "I"), (2, u "hashIsZero"), (0, u "Z"), (0, .methodref 10 28), (0, .nameAndType 5 29), (0, u "([CIILjava/lang/Void;)V"), (8, .fieldref 10 39), (0, .nameAndType 40 26), (0, u "COMPACT_STRINGS"), (1, .class_ 44), (1, u "java/lang/StringUTF16"), (0, u "compress"), (1, .methodref 42 48), (0, .nameAndType 49 50), (0, u "coderFromArrayLen"), (0, u "([BI)B"), (56, .class_ 109), (1, u "java/lang/StringLatin1"), (32, u "()Z"), (34, .methodref 42 178), (0, .nameAndType 45 179), (0, u "([CII)[B"), (183, u "([BI)C"), (27, u "(II)V"), (35, u "(I)C"), (64, .methodref 10 493), (0, .nameAndType 494 142), (0, u "isLatin1"), (0, .methodref 107 496), (0, .nameAndType 497 363), (0, u "charAt"), (3, u "checkIndex"), (73, .class_ 576), (0, u "java/lang/CharSequence"), (22, u "CASE_INSENSITIVE_ORDER"), (0, u "Ljava/util/Comparator;"), (409, u "([C)V"), (42, .fieldref 1054 1055), (0, .class_ 1056), (0, .nameAndType 1057 1058), (0, u "jdk/internal/util/Preconditions"), (0, u "SIOOBE_FORMATTER"), (0, u "Ljava/util/function/BiFunction;"), (0, .methodref 1054 1060), (0, .nameAndType 501 1061), (0, u "(IILjava/util/function/BiFunction;)I"), (39, u "serialPersistentFields"), (0, u "[Ljava/io/ObjectStreamField;"), (0, .class_ 1104), (0, u "java/lang/String$CaseInsensitiveComparator"), (1, .class_ 1107), (0, u "java/io/Serializable"), (0, .class_ 1109), (0, u "java/lang/Comparable"), (0, .class_ 1111), (0, u "java/lang/constant/Constable"), (0, .class_ 1113), (0, u "java/lang/constant/ConstantDesc"), (2, u "serialVersionUID"), (0, u "J"), (3, u "REPL"), (0, u "C"), (2, u "LATIN1"), (1, u "UTF16")] 323

def k7m0 : Method := { name := "<init>", desc := "()V", sig := { parameters := [], returnType := none }, accessFlags := 1, code := none }
def k7c1 : Code := { maxStack := 5, maxLocals := 2, code := jdk_42_method_3_code, exceptionTable := #[], attributes := #[] }
def k7m1 : Method := { name := "<init>", desc := "([C)V", sig := { parameters := [(.array .char)], returnType := none }, accessFlags := 1, code := some k7c1 }
def k7c2 : Code := { maxStack := 2, maxLocals := 2, code := jdk_42_method_56_code, exceptionTable := #[], attributes := #[] }
def k7m2 : Method := { name := "charAt", desc := "(I)C", sig := { parameters := [.int], returnType := some .char }, accessFlags := 1, code := some k7c2 }
def k7c3 : Code := { maxStack := 4, maxLocals := 6, code := jdk_42_method_149_code, exceptionTable := #[], attributes := #[] }
def k7m3 : Method := { name := "<init>", desc := "([CIILjava/lang/Void;)V", sig := { parameters := [(.array .char), .int, .int, (.object "java/lang/Void")], returnType := none }, accessFlags := 2, code := some k7c3 }
def k7c4 : Code := { maxStack := 1, maxLocals := 1, code := jdk_42_method_154_code, exceptionTable := #[], attributes := #[] }
def k7m4 : Method := { name := "isLatin1", desc := "()Z", sig := { parameters := [], returnType := some .boolean }, accessFlags := 0, code := some k7c4 }
def k7c5 : Code := { maxStack := 3, maxLocals := 2, code := jdk_42_method_155_code, exceptionTable := #[], attributes := #[] }
def k7m5 : Method := { name := "checkIndex", desc := "(II)V", sig := { parameters := [.int, .int], returnType := none }, accessFlags := 8, code := some k7c5 }
/-- java/lang/String -/
def k7 : Class := { plain "java/lang/String" (some 0) with
  accessFlags := 49
  interfaces := #[2, 3, 4, 5, 6]
  cf := some (fileOf pool7 10 #[.nestMembers #[1103]] #[{ accessFlags := 1, nameIndex := 5, descriptorIndex := 6, attributes := #[] }, { accessFlags := 1, nameIndex := 5, descriptorIndex := 1010, attributes := #[] }, { accessFlags := 1, nameIndex := 497, descriptorIndex := 427, attributes := #[] }, { accessFlags := 2, nameIndex := 5, descriptorIndex := 29, attributes := #[] }, { accessFlags := 0, nameIndex := 494, descriptorIndex := 142, attributes := #[] }, { accessFlags := 8, nameIndex := 501, descriptorIndex := 391, attributes := #[] }] 49 2 #[1106, 1108, 575, 1110, 1112] #[{ accessFlags := 18, nameIndex := 13, descriptorIndex := 14, attributes := #[] }, { accessFlags := 18, nameIndex := 17, descriptorIndex := 18, attributes := #[] }, { accessFlags := 2, nameIndex := 21, descriptorIndex := 22, attributes := #[] }, { accessFlags := 2, nameIndex := 25, descriptorIndex := 26, attributes := #[] }, { accessFlags := 26, nameIndex := 1116, descriptorIndex := 1117, attributes := #[] }, { accessFlags := 24, nameIndex := 40, descriptorIndex := 26, attributes := #[] }, { accessFlags := 26, nameIndex := 1101, descriptorIndex := 1102, attributes := #[] }, { accessFlags := 26, nameIndex := 1121, descriptorIndex := 1122, attributes := #[] }, { accessFlags := 25, nameIndex := 599, descriptorIndex := 600, attributes := #[] }, { accessFlags := 24, nameIndex := 1125, descriptorIndex := 18, attributes := #[] }, { accessFlags := 24, nameIndex := 1127, descriptorIndex := 18, attributes := #[] }])
  fields := #[{ name := "value", type := (.array .byte), accessFlags := 18, slot := 0, constantValue := 0 }, { name := "coder", type := .byte, accessFlags := 18, slot := 1, constantValue := 0 }, { name := "hash", type := .int, accessFlags := 2, slot := 2, constantValue := 0 }, { name := "hashIsZero", type := .boolean, accessFlags := 2, slot := 3, constantValue := 0 }, { name := "serialVersionUID", type := .long, accessFlags := 26, slot := 0, constantValue := 0 }, { name := "COMPACT_STRINGS", type := .boolean, accessFlags := 24, slot := 1, constantValue := 0 }, { name := "serialPersistentFields", type := (.array (.object "java/io/ObjectStreamField")), accessFlags := 26, slot := 2, constantValue := 0 }, { name := "REPL", type := .char, accessFlags := 26, slot := 3, constantValue := 0 }, { name := "CASE_INSENSITIVE_ORDER", type := (.object "java/util/Comparator"), accessFlags := 25, slot := 4, constantValue := 0 }, { name := "LATIN1", type := .byte, accessFlags := 24, slot := 5, constantValue := 0 }, { name := "UTF16", type := .byte, accessFlags := 24, slot := 6, constantValue := 0 }]
  methods := #[k7m0, k7m1, k7m2, k7m3, k7m4, k7m5]
  instanceTypes := #[(.array .byte), .byte, .int, .boolean]
  staticTypes := #[.long, .boolean, (.array (.object "java/io/ObjectStreamField")), .char, (.object "java/util/Comparator"), .byte, .byte]
  resolved := Array.replicate 1451 none
  statics := some 0 }

def pool8 : Array CpInfo := pool [(6, .class_ 8), (1, u "java/lang/Object"), (0, u "<init>"), (0, u "()V"), (1, .class_ 14), (1, u "java/lang/StringUTF16"), (31, u "$assertionsDisabled"), (0, u "Z"), (13, u "HI_BYTE_SHIFT"), (0, u "I"), (2, u "LO_BYTE_SHIFT"), (49, .methodref 12 116), (0, .nameAndType 117 118), (0, u "compress"), (0, u "([CI[BII)I"), (3, u "([CII)[B"), (138, u "coderFromArrayLen"), (0, u "([BI)B"), (106, .class_ 371), (1, u "java/lang/StringUTF16$LinesSpliterator"), (58, u "MAX_LENGTH"), (196, .class_ 628), (0, u "java/lang/StringUTF16$CodePointsSpliterator"), (0, .class_ 630), (0, u "java/lang/StringUTF16$CharsSpliterator")] 4

def k8m0 : Method := { name := "<init>", desc := "()V", sig := { parameters := [], returnType := none }, accessFlags := 0, code := none }
def k8c1 : Code := { maxStack := 2, maxLocals := 2, code := jdk_52_method_15_code, exceptionTable := #[], attributes := #[] }
def k8m1 : Method := { name := "coderFromArrayLen", desc := "([BI)B", sig := { parameters := [(.array .byte), .int], returnType := some .byte }, accessFlags := 8, code := some k8c1 }
def k8c2 : Code := { maxStack := 5, maxLocals := 6, code := jdk_52_method_16_code, exceptionTable := #[], attributes := #[] }
def k8m2 : Method := { name := "compress", desc := "([CII)[B", sig := { parameters := [(.array .char), .int, .int], returnType := some (.array .byte) }, accessFlags := 9, code := some k8c2 }
def k8c3 : Code := { maxStack := 3, maxLocals := 7, code := jdk_52_method_21_code, exceptionTable := #[], attributes := #[] }
def k8m3 : Method := { name := "compress", desc := "([CI[BII)I", sig := { parameters := [(.array .char), .int, (.array .byte), .int, .int], returnType := some .int }, accessFlags := 9, code := some k8c3 }
/-- java/lang/StringUTF16 -/
def k8 : Class := { plain "java/lang/StringUTF16" (some 0) with
  accessFlags := 48
  interfaces := #[]
  cf := some (fileOf pool8 12 #[.nestMembers #[627, 629, 369]] #[{ accessFlags := 0, nameIndex := 9, descriptorIndex := 10, attributes := #[] }, { accessFlags := 8, nameIndex := 261, descriptorIndex := 262, attributes := #[] }, { accessFlags := 9, nameIndex := 117, descriptorIndex := 122, attributes := #[] }, { accessFlags := 9, nameIndex := 117, descriptorIndex := 118, attributes := #[] }] 48 6 #[] #[{ accessFlags := 26, nameIndex := 61, descriptorIndex := 62, attributes := #[] }, { accessFlags := 26, nameIndex := 65, descriptorIndex := 62, attributes := #[] }, { accessFlags := 24, nameIndex := 430, descriptorIndex := 62, attributes := #[] }, { accessFlags := 4120, nameIndex := 46, descriptorIndex := 47, attributes := #[] }])
  fields := #[{ name := "HI_BYTE_SHIFT", type := .int, accessFlags := 26, slot := 0, constantValue := 0 }, { name := "LO_BYTE_SHIFT", type := .int, accessFlags := 26, slot := 1, constantValue := 0 }, { name := "MAX_LENGTH", type := .int, accessFlags := 24, slot := 2, constantValue := 0 }, { name := "$assertionsDisabled", type := .boolean, accessFlags := 4120, slot := 3, constantValue := 0 }]
  methods := #[k8m0, k8m1, k8m2, k8m3]
  instanceTypes := #[]
  staticTypes := #[.int, .int, .int, .boolean]
  resolved := Array.replicate 635 none
  statics := none }

def pool9 : Array CpInfo := pool [(3, .methodref 4 5), (0, .class_ 6), (0, .nameAndType 7 8), (0, u "java/lang/Object"), (0, u "<init>"), (0, u "()V"), (0, .methodref 10 11), (0, .class_ 12), (0, .nameAndType 13 14), (0, u "java/lang/Integer"), (0, u "numberOfLeadingZeros"), (0, u "(I)I"), (0, .fieldref 16 17), (0, .class_ 18), (0, .nameAndType 19 20), (0, u "com/example/portero/portero/matching/SegmentAutomaton"), (0, u "edgeKeys"), (0, u "[J"), (0, .long 18446744073709551615), (1, .methodref 24 25), (0, .class_ 26), (0, .nameAndType 27 28), (0, u "java/util/Arrays"), (0, u "fill"), (0, u "([JJ)V"), (0, .fieldref 16 30), (0, .nameAndType 31 32), (0, u "edgeTargets"), (0, u "[I"), (2, .fieldref 16 36), (0, .nameAndType 37 38), (0, u "slotShift"), (0, u "I"), (0, .fieldref 16 40), (0, .nameAndType 41 32), (0, u "failures"), (0, .fieldref 16 43), (0, .nameAndType 44 32), (0, u "suffixes"), (0, .fieldref 16 46), (0, .nameAndType 47 32), (0, u "words"), (0, .methodref 16 49), (0, .nameAndType 50 51), (0, u "addSegments"), (0, u "(Ljava/lang/String;[I[II[I)I"), (0, .fieldref 16 53), (0, .nameAndType 54 32), (0, u "places"), (0, .fieldref 16 56), (0, .nameAndType 57 32), (0, u "lastPlaces"), (0, .fieldref 16 59), (0, .nameAndType 60 32), (0, u "wordsAt"), (0, .methodref 16 62), (0, .nameAndType 63 64), (0, u "walkTreeOfWords"), (0, u "([II)V"), (0, .methodref 66 67), (0, .class_ 68), (0, .nameAndType 69 70), (0, u "java/lang/Math"), (0, u "max"), (0, u "(II)I"), (0, .methodref 10 72), (0, .nameAndType 73 14), (0, u "highestOneBit"), (0, .fieldref 16 75), (0, .nameAndType 76 38), (0, u "firstLeaf"), (0, .fieldref 16 78), (0, .nameAndType 79 32), (0, u "marks"), (0, .methodref 24 81), (0, .nameAndType 27 64), (0, .methodref 16 83), (0, .nameAndType 84 85), (0, u "symbol"), (0, u "(Ljava/lang/String;I)I"), (0, .methodref 16 87), (0, .nameAndType 88 70), (0, u "next"), (0, .methodref 16 90), (0, .nameAndType 91 70), (0, u "markedAbove"), (0, .methodref 24 93), (0, .nameAndType 94 95), (0, u "copyOf"), (0, u "([II)[I"), (0, .invokeDynamic 0 97), (0, .nameAndType 98 99), (0, u "applyAsInt"), (0, u "()Ljava/util/function/IntUnaryOperator;"), (0, .methodref 24 101), (0, .nameAndType 102 103), (0, u "setAll"), (0, u "([ILjava/util/function/IntUnaryOperator;)V"), (0, .methodref 16 105), (0, .nameAndType 106 70), (0, u "target"), (0, .methodref 16 108), (0, .nameAndType 109 110), (0, u "addEdge"), (0, u "(III)V"), (0, .methodref 112 113), (0, .class_ 114), (0, .nameAndType 115 85), (0, u "com/example/portero/portero/matching/PercentEncoding"), (0, u "octetEnd"), (0, .methodref 16 117), (0, .nameAndType 118 119), (0, u "latestMarked"), (0, u "(IIIII)I"), (0, .methodref 16 121), (0, .nameAndType 122 123), (0, u "slot"), (0, u "(J)I"), (0, .long 11400714819323198485), (1, .methodref 127 128), (0, .class_ 129), (0, .nameAndType 130 131), (0, u "java/lang/String"), (0, u "charAt"), (0, u "(I)C"), (6, u "START"), (2, u "NONE"), (1, u "ENCODED"), (1, u "SYMBOL_BITS"), (1, u "SPREAD"), (0, u "J"), (0, u "(Ljava/lang/String;[I[II)V"), (5, u "word"), (0, u "read"), (0, u "(ILjava/lang/String;I)I"), (0, u "mark"), (0, u "(IZ)V"), (0, u "longestMarked"), (1, u "lambda$addSegments$0"), (3, .methodType 14), (0, .methodHandle 6 168), (0, .methodref 16 169), (0, .nameAndType 162 14), (0, .methodHandle 6 171), (0, .methodref 172 173), (0, .class_ 174), (0, .nameAndType 175 176), (0, u "java/lang/invoke/LambdaMetafactory"), (0, u "metafactory"), (0, u "(Ljava/lang/invoke/MethodHandles$Lookup;Ljava/lang/String;Ljava/lang/invoke/MethodType;Ljava/lang/invoke/MethodType;Ljava/lang/invoke/MethodHandle;Ljava/lang/invoke/MethodType;)Ljava/lang/invoke/CallSite;")] 6

def k9c0 : Code := { maxStack := 6, maxLocals := 9, code := prog_23_method_1_code, exceptionTable := #[], attributes := #[] }
def k9m0 : Method := { name := "<init>", desc := "(Ljava/lang/String;[I[II)V", sig := { parameters := [(.object "java/lang/String"), (.array .int), (.array .int), .int], returnType := none }, accessFlags := 0, code := some k9c0 }
def k9c1 : Code := { maxStack := 2, maxLocals := 2, code := prog_23_method_3_code, exceptionTable := #[], attributes := #[] }
def k9m1 : Method := { name := "word", desc := "(I)I", sig := { parameters := [.int], returnType := some .int }, accessFlags := 0, code := some k9c1 }
def k9c2 : Code := { maxStack := 4, maxLocals := 4, code := prog_23_method_4_code, exceptionTable := #[], attributes := #[] }
def k9m2 : Method := { name := "read", desc := "(ILjava/lang/String;I)I", sig := { parameters := [.int, (.object "java/lang/String"), .int], returnType := some .int }, accessFlags := 0, code := some k9c2 }
def k9c3 : Code := { maxStack := 6, maxLocals := 4, code := prog_23_method_5_code, exceptionTable := #[], attributes := #[] }
def k9m3 : Method := { name := "mark", desc := "(IZ)V", sig := { parameters := [.int, .boolean], returnType := none }, accessFlags := 0, code := some k9c3 }
def k9c4 : Code := { maxStack := 4, maxLocals := 3, code := prog_23_method_6_code, exceptionTable := #[], attributes := #[] }
def k9m4 : Method := { name := "longestMarked", desc := "(I)I", sig := { parameters := [.int], returnType := some .int }, accessFlags := 0, code := some k9c4 }
def k9c5 : Code := { maxStack := 7, maxLocals := 20, code := prog_23_method_8_code, exceptionTable := #[], attributes := #[] }
def k9m5 : Method := { name := "addSegments", desc := "(Ljava/lang/String;[I[II[I)I", sig := { parameters := [(.object "java/lang/String"), (.array .int), (.array .int), .int, (.array .int)], returnType := some .int }, accessFlags := 2, code := some k9c5 }
def k9c6 : Code := { maxStack := 4, maxLocals := 11, code := prog_23_method_9_code, exceptionTable := #[], attributes := #[] }
def k9m6 : Method := { name := "walkTreeOfWords", desc := "([II)V", sig := { parameters := [(.array .int), .int], returnType := none }, accessFlags := 2, code := some k9c6 }
def k9c7 : Code := { maxStack := 6, maxLocals := 4, code := prog_23_method_10_code, exceptionTable := #[], attributes := #[] }
def k9m7 : Method := { name := "markedAbove", desc := "(II)I", sig := { parameters := [.int, .int], returnType := some .int }, accessFlags := 2, code := some k9c7 }
def k9c8 : Code := { maxStack := 6, maxLocals := 8, code := prog_23_method_11_code, exceptionTable := #[], attributes := #[] }
def k9m8 : Method := { name := "latestMarked", desc := "(IIIII)I", sig := { parameters := [.int, .int, .int, .int, .int], returnType := some .int }, accessFlags := 2, code := some k9c8 }
def k9c9 : Code := { maxStack := 3, maxLocals := 5, code := prog_23_method_12_code, exceptionTable := #[], attributes := #[] }
def k9m9 : Method := { name := "next", desc := "(II)I", sig := { parameters := [.int, .int], returnType := some .int }, accessFlags := 2, code := some k9c9 }
def k9c10 : Code := { maxStack := 4, maxLocals := 6, code := prog_23_method_13_code, exceptionTable := #[], attributes := #[] }
def k9m10 : Method := { name := "target", desc := "(II)I", sig := { parameters := [.int, .int], returnType := some .int }, accessFlags := 2, code := some k9c10 }
def k9c11 : Code := { maxStack := 4, maxLocals := 7, code := prog_23_method_14_code, exceptionTable := #[], attributes := #[] }
def k9m11 : Method := { name := "addEdge", desc := "(III)V", sig := { parameters := [.int, .int, .int], returnType := none }, accessFlags := 2, code := some k9c11 }
def k9c12 : Code := { maxStack := 4, maxLocals := 3, code := prog_23_method_15_code, exceptionTable := #[], attributes := #[] }
def k9m12 : Method := { name := "slot", desc := "(J)I", sig := { parameters := [.long], returnType := some .int }, accessFlags := 2, code := some k9c12 }
def k9c13 : Code := { maxStack := 4, maxLocals := 2, code := prog_23_method_16_code, exceptionTable := #[], attributes := #[] }
def k9m13 : Method := { name := "symbol", desc := "(Ljava/lang/String;I)I", sig := { parameters := [(.object "java/lang/String"), .int], returnType := some .int }, accessFlags := 10, code := some k9c13 }
def k9c14 : Code := { maxStack := 1, maxLocals := 1, code := prog_23_method_17_code, exceptionTable := #[], attributes := #[] }
def k9m14 : Method := { name := "lambda$addSegments$0", desc := "(I)I", sig := { parameters := [.int], returnType := some .int }, accessFlags := 4106, code := some k9c14 }
/-- com/example/portero/portero/matching/SegmentAutomaton -/
def k9 : Class := { plain "com/example/portero/portero/matching/SegmentAutomaton" (some 0) with
  accessFlags := 32
  interfaces := #[]
  cf := some (fileOf pool9 16 #[.bootstrapMethods #[⟨170, #[166, 167, 166]⟩]] #[{ accessFlags := 0, nameIndex := 7, descriptorIndex := 149, attributes := #[] }, { accessFlags := 0, nameIndex := 155, descriptorIndex := 14, attributes := #[] }, { accessFlags := 0, nameIndex := 156, descriptorIndex := 157, attributes := #[] }, { accessFlags := 0, nameIndex := 158, descriptorIndex := 159, attributes := #[] }, { accessFlags := 0, nameIndex := 160, descriptorIndex := 14, attributes := #[] }, { accessFlags := 2, nameIndex := 50, descriptorIndex := 51, attributes := #[] }, { accessFlags := 2, nameIndex := 63, descriptorIndex := 64, attributes := #[] }, { accessFlags := 2, nameIndex := 91, descriptorIndex := 70, attributes := #[] }, { accessFlags := 2, nameIndex := 118, descriptorIndex := 119, attributes := #[] }, { accessFlags := 2, nameIndex := 88, descriptorIndex := 70, attributes := #[] }, { accessFlags := 2, nameIndex := 106, descriptorIndex := 70, attributes := #[] }, { accessFlags := 2, nameIndex := 109, descriptorIndex := 110, attributes := #[] }, { accessFlags := 2, nameIndex := 122, descriptorIndex := 123, attributes := #[] }, { accessFlags := 10, nameIndex := 84, descriptorIndex := 85, attributes := #[] }, { accessFlags := 4106, nameIndex := 162, descriptorIndex := 14, attributes := #[] }] 32 4 #[] #[{ accessFlags := 24, nameIndex := 138, descriptorIndex := 38, attributes := #[] }, { accessFlags := 24, nameIndex := 141, descriptorIndex := 38, attributes := #[] }, { accessFlags := 26, nameIndex := 143, descriptorIndex := 38, attributes := #[] }, { accessFlags := 26, nameIndex := 145, descriptorIndex := 38, attributes := #[] }, { accessFlags := 26, nameIndex := 147, descriptorIndex := 148, attributes := #[] }, { accessFlags := 18, nameIndex := 19, descriptorIndex := 20, attributes := #[] }, { accessFlags := 18, nameIndex := 31, descriptorIndex := 32, attributes := #[] }, { accessFlags := 18, nameIndex := 37, descriptorIndex := 38, attributes := #[] }, { accessFlags := 18, nameIndex := 41, descriptorIndex := 32, attributes := #[] }, { accessFlags := 18, nameIndex := 44, descriptorIndex := 32, attributes := #[] }, { accessFlags := 18, nameIndex := 47, descriptorIndex := 32, attributes := #[] }, { accessFlags := 18, nameIndex := 54, descriptorIndex := 32, attributes := #[] }, { accessFlags := 18, nameIndex := 57, descriptorIndex := 32, attributes := #[] }, { accessFlags := 18, nameIndex := 60, descriptorIndex := 32, attributes := #[] }, { accessFlags := 18, nameIndex := 76, descriptorIndex := 38, attributes := #[] }, { accessFlags := 18, nameIndex := 79, descriptorIndex := 32, attributes := #[] }])
  fields := #[{ name := "START", type := .int, accessFlags := 24, slot := 0, constantValue := 0 }, { name := "NONE", type := .int, accessFlags := 24, slot := 1, constantValue := 0 }, { name := "ENCODED", type := .int, accessFlags := 26, slot := 2, constantValue := 0 }, { name := "SYMBOL_BITS", type := .int, accessFlags := 26, slot := 3, constantValue := 0 }, { name := "SPREAD", type := .long, accessFlags := 26, slot := 4, constantValue := 0 }, { name := "edgeKeys", type := (.array .long), accessFlags := 18, slot := 0, constantValue := 0 }, { name := "edgeTargets", type := (.array .int), accessFlags := 18, slot := 1, constantValue := 0 }, { name := "slotShift", type := .int, accessFlags := 18, slot := 2, constantValue := 0 }, { name := "failures", type := (.array .int), accessFlags := 18, slot := 3, constantValue := 0 }, { name := "suffixes", type := (.array .int), accessFlags := 18, slot := 4, constantValue := 0 }, { name := "words", type := (.array .int), accessFlags := 18, slot := 5, constantValue := 0 }, { name := "places", type := (.array .int), accessFlags := 18, slot := 6, constantValue := 0 }, { name := "lastPlaces", type := (.array .int), accessFlags := 18, slot := 7, constantValue := 0 }, { name := "wordsAt", type := (.array .int), accessFlags := 18, slot := 8, constantValue := 0 }, { name := "firstLeaf", type := .int, accessFlags := 18, slot := 9, constantValue := 0 }, { name := "marks", type := (.array .int), accessFlags := 18, slot := 10, constantValue := 0 }]
  methods := #[k9m0, k9m1, k9m2, k9m3, k9m4, k9m5, k9m6, k9m7, k9m8, k9m9, k9m10, k9m11, k9m12, k9m13, k9m14]
  instanceTypes := #[(.array .long), (.array .int), .int, (.array .int), (.array .int), (.array .int), (.array .int), (.array .int), (.array .int), .int, (.array .int)]
  staticTypes := #[.int, .int, .int, .int, .long]
  resolved := Array.replicate 183 none
  callSites := [(5, 34, .constant 2)]
  statics := none }

def pool10 : Array CpInfo := pool [(2, .class_ 4), (1, u "java/lang/Object"), (0, u "<init>"), (0, u "()V"), (1, .class_ 10), (1, u "java/lang/Number"), (2, .class_ 14), (0, u "java/io/Serializable"), (0, u "serialVersionUID"), (0, u "J")] 20

def k10m0 : Method := { name := "<init>", desc := "()V", sig := { parameters := [], returnType := none }, accessFlags := 1, code := none }
/-- java/lang/Number -/
def k10 : Class := { plain "java/lang/Number" (some 0) with
  accessFlags := 1057
  interfaces := #[2]
  cf := some (fileOf pool10 8 #[] #[{ accessFlags := 1, nameIndex := 5, descriptorIndex := 6, attributes := #[] }] 1057 2 #[13] #[{ accessFlags := 26, nameIndex := 15, descriptorIndex := 16, attributes := #[] }])
  fields := #[{ name := "serialVersionUID", type := .long, accessFlags := 26, slot := 0, constantValue := 0 }]
  methods := #[k10m0]
  instanceTypes := #[]
  staticTypes := #[.long]
  resolved := Array.replicate 37 none
  statics := none }

def pool11 : Array CpInfo := pool [(1, .class_ 2), (0, u "java/lang/Integer"), (16, u "digits"), (0, u "[C"), (30, .methodref 1 52), (0, .nameAndType 53 54), (0, u "numberOfLeadingZeros"), (0, u "(I)I"), (30, u "DigitOnes"), (0, u "[B"), (2, u "DigitTens"), (37, .integer 2147483648), (61, .class_ 190), (0, u "java/lang/Integer$IntegerCache"), (3, u "I"), (8, .class_ 204), (0, u "java/lang/Number"), (2, u "value"), (56, .integer 65536), (37, u "TYPE"), (0, u "Ljava/lang/Class;"), (0, .class_ 305), (0, u "java/lang/Comparable"), (0, .class_ 307), (0, u "java/lang/constant/Constable"), (0, .class_ 309), (0, u "java/lang/constant/ConstantDesc"), (0, u "MIN_VALUE"), (1, u "MAX_VALUE"), (3, u "SIZE"), (1, u "BYTES"), (1, u "serialVersionUID"), (0, u "J"), (81, u "highestOneBit")] 49

def k11c0 : Code := { maxStack := 3, maxLocals := 1, code := jdk_33_method_45_code, exceptionTable := #[], attributes := #[] }
def k11m0 : Method := { name := "highestOneBit", desc := "(I)I", sig := { parameters := [.int], returnType := some .int }, accessFlags := 9, code := some k11c0 }
def k11c1 : Code := { maxStack := 3, maxLocals := 2, code := jdk_33_method_47_code, exceptionTable := #[], attributes := #[] }
def k11m1 : Method := { name := "numberOfLeadingZeros", desc := "(I)I", sig := { parameters := [.int], returnType := some .int }, accessFlags := 9, code := some k11c1 }
/-- java/lang/Integer -/
def k11 : Class := { plain "java/lang/Integer" (some 10) with
  accessFlags := 49
  interfaces := #[3, 5, 6]
  cf := some (fileOf pool11 1 #[.nestMembers #[189]] #[{ accessFlags := 9, nameIndex := 403, descriptorIndex := 54, attributes := #[] }, { accessFlags := 9, nameIndex := 53, descriptorIndex := 54, attributes := #[] }] 49 203 #[304, 306, 308] #[{ accessFlags := 25, nameIndex := 310, descriptorIndex := 194, attributes := #[] }, { accessFlags := 25, nameIndex := 312, descriptorIndex := 194, attributes := #[] }, { accessFlags := 25, nameIndex := 302, descriptorIndex := 303, attributes := #[] }, { accessFlags := 24, nameIndex := 19, descriptorIndex := 20, attributes := #[] }, { accessFlags := 24, nameIndex := 89, descriptorIndex := 86, attributes := #[] }, { accessFlags := 24, nameIndex := 85, descriptorIndex := 86, attributes := #[] }, { accessFlags := 18, nameIndex := 207, descriptorIndex := 194, attributes := #[] }, { accessFlags := 25, nameIndex := 316, descriptorIndex := 194, attributes := #[] }, { accessFlags := 25, nameIndex := 318, descriptorIndex := 194, attributes := #[] }, { accessFlags := 26, nameIndex := 320, descriptorIndex := 321, attributes := #[] }])
  fields := #[{ name := "MIN_VALUE", type := .int, accessFlags := 25, slot := 0, constantValue := 0 }, { name := "MAX_VALUE", type := .int, accessFlags := 25, slot := 1, constantValue := 0 }, { name := "TYPE", type := (.object "java/lang/Class"), accessFlags := 25, slot := 2, constantValue := 0 }, { name := "digits", type := (.array .char), accessFlags := 24, slot := 3, constantValue := 0 }, { name := "DigitTens", type := (.array .byte), accessFlags := 24, slot := 4, constantValue := 0 }, { name := "DigitOnes", type := (.array .byte), accessFlags := 24, slot := 5, constantValue := 0 }, { name := "value", type := .int, accessFlags := 18, slot := 0, constantValue := 0 }, { name := "SIZE", type := .int, accessFlags := 25, slot := 6, constantValue := 0 }, { name := "BYTES", type := .int, accessFlags := 25, slot := 7, constantValue := 0 }, { name := "serialVersionUID", type := .long, accessFlags := 26, slot := 8, constantValue := 0 }]
  methods := #[k11m0, k11m1]
  instanceTypes := #[.int]
  staticTypes := #[.int, .int, (.object "java/lang/Class"), (.array .char), (.array .byte), (.array .byte), .int, .int, .long]
  resolved := Array.replicate 453 none
  statics := none }

def pool12 : Array CpInfo := pool [(2, .class_ 4), (1, u "java/lang/Object"), (0, u "<init>"), (0, u "()V"), (7, .class_ 16), (1, u "java/util/Arrays"), (57, .class_ 76), (1, u "java/util/Arrays$NaturalOrder"), (32, u "()Ljava/lang/Object;"), (3, .class_ 115), (1, u "java/util/Arrays$LegacyMergeSort"), (1, u "Z"), (10, .nameAndType 129 109), (0, u "clone"), (45, .methodref 176 177), (0, .class_ 178), (0, .nameAndType 179 180), (0, u "java/util/Objects"), (0, u "requireNonNull"), (0, u "(Ljava/lang/Object;)Ljava/lang/Object;"), (121, u "copyOf"), (13, .methodref 317 128), (0, .class_ 318), (0, u "[I"), (56, .class_ 376), (0, u "java/util/Arrays$ArrayList"), (68, u "$assertionsDisabled"), (136, .interfaceMethodref 583 584), (0, .class_ 585), (0, .nameAndType 586 587), (0, u "java/util/function/IntUnaryOperator"), (0, u "applyAsInt"), (0, u "(I)I"), (127, u "MIN_ARRAY_SORT_GRAN"), (0, u "I"), (2, u "INSERTIONSORT_THRESHOLD"), (120, u "fill"), (0, u "([JJ)V"), (3, u "([II)V"), (25, u "([II)[I"), (35, u "setAll"), (6, u "([ILjava/util/function/IntUnaryOperator;)V"), (60, .class_ 976), (0, u "java/util/Arrays$ArrayItr")] 52

def k12m0 : Method := { name := "<init>", desc := "()V", sig := { parameters := [], returnType := none }, accessFlags := 2, code := none }
def k12c1 : Code := { maxStack := 4, maxLocals := 5, code := jdk_65_method_101_code, exceptionTable := #[], attributes := #[] }
def k12m1 : Method := { name := "fill", desc := "([JJ)V", sig := { parameters := [(.array .long), .long], returnType := none }, accessFlags := 9, code := some k12c1 }
def k12c2 : Code := { maxStack := 3, maxLocals := 4, code := jdk_65_method_103_code, exceptionTable := #[], attributes := #[] }
def k12m2 : Method := { name := "fill", desc := "([II)V", sig := { parameters := [(.array .int), .int], returnType := none }, accessFlags := 9, code := some k12c2 }
def k12c3 : Code := { maxStack := 6, maxLocals := 3, code := jdk_65_method_123_code, exceptionTable := #[], attributes := #[] }
def k12m3 : Method := { name := "copyOf", desc := "([II)[I", sig := { parameters := [(.array .int), .int], returnType := some (.array .int) }, accessFlags := 9, code := some k12c3 }
def k12c4 : Code := { maxStack := 4, maxLocals := 3, code := jdk_65_method_175_code, exceptionTable := #[], attributes := #[] }
def k12m4 : Method := { name := "setAll", desc := "([ILjava/util/function/IntUnaryOperator;)V", sig := { parameters := [(.array .int), (.object "java/util/function/IntUnaryOperator")], returnType := none }, accessFlags := 9, code := some k12c4 }
/-- java/util/Arrays -/
def k12 : Class := { plain "java/util/Arrays" (some 0) with
  accessFlags := 49
  interfaces := #[]
  cf := some (fileOf pool12 14 #[.nestMembers #[975, 375, 113, 74]] #[{ accessFlags := 2, nameIndex := 5, descriptorIndex := 6, attributes := #[] }, { accessFlags := 9, nameIndex := 840, descriptorIndex := 841, attributes := #[] }, { accessFlags := 9, nameIndex := 840, descriptorIndex := 845, attributes := #[] }, { accessFlags := 9, nameIndex := 302, descriptorIndex := 871, attributes := #[] }, { accessFlags := 9, nameIndex := 907, descriptorIndex := 914, attributes := #[] }] 49 2 #[] #[{ accessFlags := 26, nameIndex := 715, descriptorIndex := 716, attributes := #[] }, { accessFlags := 26, nameIndex := 719, descriptorIndex := 716, attributes := #[] }, { accessFlags := 4120, nameIndex := 445, descriptorIndex := 117, attributes := #[] }])
  fields := #[{ name := "MIN_ARRAY_SORT_GRAN", type := .int, accessFlags := 26, slot := 0, constantValue := 0 }, { name := "INSERTIONSORT_THRESHOLD", type := .int, accessFlags := 26, slot := 1, constantValue := 0 }, { name := "$assertionsDisabled", type := .boolean, accessFlags := 4120, slot := 2, constantValue := 0 }]
  methods := #[k12m0, k12m1, k12m2, k12m3, k12m4]
  instanceTypes := #[]
  staticTypes := #[.int, .int, .boolean]
  resolved := Array.replicate 1029 none
  statics := none }

def pool13 : Array CpInfo := pool [(1, .class_ 2), (0, u "java/lang/Cloneable"), (0, .class_ 4), (0, u "java/lang/Object")] 2

/-- java/lang/Cloneable -/
def k13 : Class := { plain "java/lang/Cloneable" (some 0) with
  accessFlags := 1537
  interfaces := #[]
  cf := some (fileOf pool13 1 #[] #[] 1537 3 #[] #[])
  fields := #[]
  methods := #[]
  instanceTypes := #[]
  staticTypes := #[]
  resolved := Array.replicate 7 none
  statics := none }

def pool14 : Array CpInfo := pool [(9, u "applyAsInt"), (6, .class_ 18), (1, u "java/util/function/IntUnaryOperator"), (0, u "(I)I"), (0, .class_ 21), (0, u "java/lang/Object")] 46

def k14m0 : Method := { name := "applyAsInt", desc := "(I)I", sig := { parameters := [.int], returnType := some .int }, accessFlags := 1025, code := none }
/-- java/util/function/IntUnaryOperator -/
def k14 : Class := { plain "java/util/function/IntUnaryOperator" (some 0) with
  accessFlags := 1537
  interfaces := #[]
  cf := some (fileOf pool14 16 #[] #[{ accessFlags := 1025, nameIndex := 9, descriptorIndex := 19, attributes := #[] }] 1537 20 #[] #[])
  fields := #[]
  methods := #[k14m0]
  instanceTypes := #[]
  staticTypes := #[]
  resolved := Array.replicate 68 none
  statics := none }

def pool15 : Array CpInfo := pool [(2, .class_ 4), (1, u "java/lang/Object"), (0, u "<init>"), (0, u "()V"), (35, .class_ 44), (1, u "java/util/Objects"), (0, u "requireNonNull"), (0, u "(Ljava/lang/Object;)Ljava/lang/Object;")] 137

def k15m0 : Method := { name := "<init>", desc := "()V", sig := { parameters := [], returnType := none }, accessFlags := 2, code := none }
def k15c1 : Code := { maxStack := 2, maxLocals := 1, code := jdk_31_method_10_code, exceptionTable := #[], attributes := #[] }
def k15m1 : Method := { name := "requireNonNull", desc := "(Ljava/lang/Object;)Ljava/lang/Object;", sig := { parameters := [(.object "java/lang/Object")], returnType := some (.object "java/lang/Object") }, accessFlags := 9, code := some k15c1 }
/-- java/util/Objects -/
def k15 : Class := { plain "java/util/Objects" (some 0) with
  accessFlags := 49
  interfaces := #[]
  cf := some (fileOf pool15 42 #[] #[{ accessFlags := 2, nameIndex := 5, descriptorIndex := 6, attributes := #[] }, { accessFlags := 9, nameIndex := 45, descriptorIndex := 46, attributes := #[] }] 49 2 #[] #[])
  fields := #[]
  methods := #[k15m0, k15m1]
  instanceTypes := #[]
  staticTypes := #[]
  resolved := Array.replicate 184 none
  statics := none }

def pool16 : Array CpInfo := pool [(2, .class_ 4), (1, u "java/lang/Object"), (0, u "<init>"), (0, u "()V"), (1, .class_ 10), (1, u "com/example/portero/portero/matching/PercentEncoding"), (2, .methodref 14 15), (0, .class_ 16), (0, .nameAndType 17 18), (0, u "java/lang/String"), (0, u "charAt"), (0, u "(I)C"), (80, u "ESCAPE"), (0, u "C"), (2, u "QUERY"), (1, u "HEX_DIGITS"), (0, u "Ljava/lang/String;"), (0, u "UNRESERVED_MARKS"), (0, u "QUERY_DATA"), (0, u "DELETE"), (1, u "REPLACEMENT_CHARACTER"), (7, u "octetEnd"), (0, u "(Ljava/lang/String;I)I")] 4

def k16m0 : Method := { name := "<init>", desc := "()V", sig := { parameters := [], returnType := none }, accessFlags := 2, code := none }
def k16c1 : Code := { maxStack := 2, maxLocals := 2, code := prog_19_method_5_code, exceptionTable := #[], attributes := #[] }
def k16m1 : Method := { name := "octetEnd", desc := "(Ljava/lang/String;I)I", sig := { parameters := [(.object "java/lang/String"), .int], returnType := some .int }, accessFlags := 8, code := some k16c1 }
/-- com/example/portero/portero/matching/PercentEncoding -/
def k16 : Class := { plain "com/example/portero/portero/matching/PercentEncoding" (some 0) with
  accessFlags := 32
  interfaces := #[]
  cf := some (fileOf pool16 8 #[] #[{ accessFlags := 2, nameIndex := 5, descriptorIndex := 6, attributes := #[] }, { accessFlags := 8, nameIndex := 119, descriptorIndex := 120, attributes := #[] }] 32 2 #[] #[{ accessFlags := 26, nameIndex := 99, descriptorIndex := 100, attributes := #[] }, { accessFlags := 26, nameIndex := 103, descriptorIndex := 100, attributes := #[] }, { accessFlags := 26, nameIndex := 105, descriptorIndex := 106, attributes := #[] }, { accessFlags := 26, nameIndex := 107, descriptorIndex := 106, attributes := #[] }, { accessFlags := 26, nameIndex := 108, descriptorIndex := 106, attributes := #[] }, { accessFlags := 26, nameIndex := 109, descriptorIndex := 100, attributes := #[] }, { accessFlags := 26, nameIndex := 111, descriptorIndex := 106, attributes := #[] }])
  fields := #[{ name := "ESCAPE", type := .char, accessFlags := 26, slot := 0, constantValue := 0 }, { name := "QUERY", type := .char, accessFlags := 26, slot := 1, constantValue := 0 }, { name := "HEX_DIGITS", type := (.object "java/lang/String"), accessFlags := 26, slot := 2, constantValue := 0 }, { name := "UNRESERVED_MARKS", type := (.object "java/lang/String"), accessFlags := 26, slot := 3, constantValue := 0 }, { name := "QUERY_DATA", type := (.object "java/lang/String"), accessFlags := 26, slot := 4, constantValue := 0 }, { name := "DELETE", type := .char, accessFlags := 26, slot := 5, constantValue := 0 }, { name := "REPLACEMENT_CHARACTER", type := (.object "java/lang/String"), accessFlags := 26, slot := 6, constantValue := 0 }]
  methods := #[k16m0, k16m1]
  instanceTypes := #[]
  staticTypes := #[.char, .char, (.object "java/lang/String"), (.object "java/lang/String"), (.object "java/lang/String"), .char, (.object "java/lang/String")]
  resolved := Array.replicate 125 none
  statics := none }

def pool17 : Array CpInfo := pool [(1, .class_ 2), (0, u "java/lang/String"), (1, .class_ 6), (1, u "java/lang/Object"), (0, u "<init>"), (0, u "()V"), (0, .methodref 1 10), (0, .nameAndType 11 12), (0, u "checkIndex"), (0, u "(II)V"), (1, .class_ 16), (1, u "java/lang/StringLatin1"), (36, u "([BI)C"), (67, u "$assertionsDisabled"), (0, u "Z"), (98, .class_ 223), (1, u "java/lang/StringLatin1$LinesSpliterator"), (28, u "charAt"), (137, .class_ 391), (0, u "java/lang/StringLatin1$CharsSpliterator")] 3

def k17m0 : Method := { name := "<init>", desc := "()V", sig := { parameters := [], returnType := none }, accessFlags := 0, code := none }
def k17c1 : Code := { maxStack := 2, maxLocals := 2, code := jdk_43_method_2_code, exceptionTable := #[], attributes := #[] }
def k17m1 : Method := { name := "charAt", desc := "([BI)C", sig := { parameters := [(.array .byte), .int], returnType := some .char }, accessFlags := 9, code := some k17c1 }
/-- java/lang/StringLatin1 -/
def k17 : Class := { plain "java/lang/StringLatin1" (some 0) with
  accessFlags := 48
  interfaces := #[]
  cf := some (fileOf pool17 14 #[.nestMembers #[390, 221]] #[{ accessFlags := 0, nameIndex := 7, descriptorIndex := 8, attributes := #[] }, { accessFlags := 9, nameIndex := 252, descriptorIndex := 53, attributes := #[] }] 48 4 #[] #[{ accessFlags := 4120, nameIndex := 121, descriptorIndex := 122, attributes := #[] }])
  fields := #[{ name := "$assertionsDisabled", type := .boolean, accessFlags := 4120, slot := 0, constantValue := 0 }]
  methods := #[k17m0, k17m1]
  instanceTypes := #[]
  staticTypes := #[.boolean]
  resolved := Array.replicate 395 none
  statics := none }

def pool18 : Array CpInfo := pool [(2, .class_ 4), (1, u "java/lang/Object"), (0, u "<init>"), (0, u "()V"), (17, .class_ 26), (1, u "jdk/internal/util/Preconditions"), (6, u "checkIndex"), (21, .class_ 56), (0, u "jdk/internal/util/Preconditions$4"), (57, .class_ 115), (0, u "jdk/internal/util/Preconditions$1"), (7, u "SIOOBE_FORMATTER"), (0, u "Ljava/util/function/BiFunction;"), (0, .class_ 126), (0, u "jdk/internal/util/Preconditions$2"), (3, u "AIOOBE_FORMATTER"), (0, .class_ 132), (0, u "jdk/internal/util/Preconditions$3"), (3, u "IOOBE_FORMATTER"), (41, u "(IILjava/util/function/BiFunction;)I")] 15

def k18m0 : Method := { name := "<init>", desc := "()V", sig := { parameters := [], returnType := none }, accessFlags := 1, code := none }
def k18c1 : Code := { maxStack := 3, maxLocals := 3, code := jdk_41_method_11_code, exceptionTable := #[], attributes := #[] }
def k18m1 : Method := { name := "checkIndex", desc := "(IILjava/util/function/BiFunction;)I", sig := { parameters := [.int, .int, (.object "java/util/function/BiFunction")], returnType := some .int }, accessFlags := 9, code := some k18c1 }
/-- jdk/internal/util/Preconditions -/
def k18 : Class := { plain "jdk/internal/util/Preconditions" (some 0) with
  accessFlags := 33
  interfaces := #[]
  cf := some (fileOf pool18 24 #[.nestMembers #[55, 131, 125, 114]] #[{ accessFlags := 1, nameIndex := 5, descriptorIndex := 6, attributes := #[] }, { accessFlags := 9, nameIndex := 33, descriptorIndex := 178, attributes := #[] }] 33 2 #[] #[{ accessFlags := 25, nameIndex := 123, descriptorIndex := 124, attributes := #[] }, { accessFlags := 25, nameIndex := 130, descriptorIndex := 124, attributes := #[] }, { accessFlags := 25, nameIndex := 136, descriptorIndex := 124, attributes := #[] }])
  fields := #[{ name := "SIOOBE_FORMATTER", type := (.object "java/util/function/BiFunction"), accessFlags := 25, slot := 0, constantValue := 0 }, { name := "AIOOBE_FORMATTER", type := (.object "java/util/function/BiFunction"), accessFlags := 25, slot := 1, constantValue := 0 }, { name := "IOOBE_FORMATTER", type := (.object "java/util/function/BiFunction"), accessFlags := 25, slot := 2, constantValue := 0 }]
  methods := #[k18m0, k18m1]
  instanceTypes := #[]
  staticTypes := #[(.object "java/util/function/BiFunction"), (.object "java/util/function/BiFunction"), (.object "java/util/function/BiFunction")]
  resolved := Array.replicate 194 none
  statics := some 1 }

def pool19 : Array CpInfo := pool [(1, .class_ 2), (0, u "java/lang/Math"), (1, .class_ 6), (1, u "java/lang/Object"), (0, u "<init>"), (0, u "()V"), (89, .class_ 100), (1, u "java/lang/Math$RandomNumberGeneratorHolder"), (71, u "negativeZeroFloatBits"), (0, u "J"), (2, u "negativeZeroDoubleBits"), (21, u "max"), (46, u "$assertionsDisabled"), (0, u "Z"), (88, u "(II)I"), (2, u "twoToTheDoubleScaleDown"), (0, u "D"), (4, u "twoToTheDoubleScaleUp"), (9, u "E"), (3, u "PI"), (2, u "TAU"), (2, u "DEGREES_TO_RADIANS"), (0, u "RADIANS_TO_DEGREES")] 94

def k19m0 : Method := { name := "<init>", desc := "()V", sig := { parameters := [], returnType := none }, accessFlags := 2, code := none }
def k19c1 : Code := { maxStack := 2, maxLocals := 2, code := jdk_29_method_65_code, exceptionTable := #[], attributes := #[] }
def k19m1 : Method := { name := "max", desc := "(II)I", sig := { parameters := [.int, .int], returnType := some .int }, accessFlags := 9, code := some k19c1 }
/-- java/lang/Math -/
def k19 : Class := { plain "java/lang/Math" (some 0) with
  accessFlags := 49
  interfaces := #[]
  cf := some (fileOf pool19 1 #[.nestMembers #[98]] #[{ accessFlags := 2, nameIndex := 7, descriptorIndex := 8, attributes := #[] }, { accessFlags := 9, nameIndex := 198, descriptorIndex := 335, attributes := #[] }] 49 4 #[] #[{ accessFlags := 25, nameIndex := 354, descriptorIndex := 339, attributes := #[] }, { accessFlags := 25, nameIndex := 358, descriptorIndex := 339, attributes := #[] }, { accessFlags := 25, nameIndex := 361, descriptorIndex := 339, attributes := #[] }, { accessFlags := 26, nameIndex := 364, descriptorIndex := 339, attributes := #[] }, { accessFlags := 26, nameIndex := 365, descriptorIndex := 339, attributes := #[] }, { accessFlags := 26, nameIndex := 172, descriptorIndex := 173, attributes := #[] }, { accessFlags := 26, nameIndex := 176, descriptorIndex := 173, attributes := #[] }, { accessFlags := 8, nameIndex := 344, descriptorIndex := 339, attributes := #[] }, { accessFlags := 8, nameIndex := 338, descriptorIndex := 339, attributes := #[] }, { accessFlags := 4120, nameIndex := 245, descriptorIndex := 246, attributes := #[] }])
  fields := #[{ name := "E", type := .double, accessFlags := 25, slot := 0, constantValue := 0 }, { name := "PI", type := .double, accessFlags := 25, slot := 1, constantValue := 0 }, { name := "TAU", type := .double, accessFlags := 25, slot := 2, constantValue := 0 }, { name := "DEGREES_TO_RADIANS", type := .double, accessFlags := 26, slot := 3, constantValue := 0 }, { name := "RADIANS_TO_DEGREES", type := .double, accessFlags := 26, slot := 4, constantValue := 0 }, { name := "negativeZeroFloatBits", type := .long, accessFlags := 26, slot := 5, constantValue := 0 }, { name := "negativeZeroDoubleBits", type := .long, accessFlags := 26, slot := 6, constantValue := 0 }, { name := "twoToTheDoubleScaleUp", type := .double, accessFlags := 8, slot := 7, constantValue := 0 }, { name := "twoToTheDoubleScaleDown", type := .double, accessFlags := 8, slot := 8, constantValue := 0 }, { name := "$assertionsDisabled", type := .boolean, accessFlags := 4120, slot := 9, constantValue := 0 }]
  methods := #[k19m0, k19m1]
  instanceTypes := #[]
  staticTypes := #[.double, .double, .double, .double, .double, .long, .long, .double, .double, .boolean]
  resolved := Array.replicate 460 none
  statics := none }

def pool20 : Array CpInfo := pool [(9, u "<init>"), (6, .class_ 18), (1, u "java/lang/Object"), (0, u "()V"), (1, .class_ 23), (1, u "jdk/internal/util/ArraysSupport"), (0, u "LOG2_ARRAY_LONG_INDEX_SCALE"), (0, u "I"), (2, u "U"), (0, u "Ljdk/internal/misc/Unsafe;"), (8, u "BIG_ENDIAN"), (0, u "Z"), (8, u "LOG2_BYTE_BIT_SIZE"), (4, u "LOG2_ARRAY_INT_INDEX_SCALE"), (54, u "JLA"), (0, u "Ljdk/internal/access/JavaLangAccess;"), (11, u "LOG2_ARRAY_BOOLEAN_INDEX_SCALE"), (9, u "LOG2_ARRAY_BYTE_INDEX_SCALE"), (5, u "LOG2_ARRAY_CHAR_INDEX_SCALE"), (5, u "LOG2_ARRAY_SHORT_INDEX_SCALE"), (18, u "LOG2_ARRAY_FLOAT_INDEX_SCALE"), (24, u "LOG2_ARRAY_DOUBLE_INDEX_SCALE"), (89, u "T_BOOLEAN"), (2, u "T_CHAR"), (1, u "T_FLOAT"), (1, u "T_DOUBLE"), (1, u "T_BYTE"), (1, u "T_SHORT"), (1, u "T_INT"), (1, u "T_LONG"), (1, u "SOFT_MAX_ARRAY_LENGTH")] 83

def k20m0 : Method := { name := "<init>", desc := "()V", sig := { parameters := [], returnType := none }, accessFlags := 2, code := none }
/-- jdk/internal/util/ArraysSupport -/
def k20 : Class := { plain "jdk/internal/util/ArraysSupport" (some 0) with
  accessFlags := 33
  interfaces := #[]
  cf := some (fileOf pool20 21 #[] #[{ accessFlags := 2, nameIndex := 9, descriptorIndex := 19, attributes := #[] }] 33 16 #[] #[{ accessFlags := 24, nameIndex := 28, descriptorIndex := 29, attributes := #[] }, { accessFlags := 26, nameIndex := 38, descriptorIndex := 39, attributes := #[] }, { accessFlags := 25, nameIndex := 121, descriptorIndex := 25, attributes := #[] }, { accessFlags := 25, nameIndex := 131, descriptorIndex := 25, attributes := #[] }, { accessFlags := 25, nameIndex := 137, descriptorIndex := 25, attributes := #[] }, { accessFlags := 25, nameIndex := 143, descriptorIndex := 25, attributes := #[] }, { accessFlags := 25, nameIndex := 53, descriptorIndex := 25, attributes := #[] }, { accessFlags := 25, nameIndex := 24, descriptorIndex := 25, attributes := #[] }, { accessFlags := 25, nameIndex := 162, descriptorIndex := 25, attributes := #[] }, { accessFlags := 25, nameIndex := 187, descriptorIndex := 25, attributes := #[] }, { accessFlags := 26, nameIndex := 48, descriptorIndex := 25, attributes := #[] }, { accessFlags := 25, nameIndex := 277, descriptorIndex := 25, attributes := #[] }, { accessFlags := 25, nameIndex := 280, descriptorIndex := 25, attributes := #[] }, { accessFlags := 25, nameIndex := 282, descriptorIndex := 25, attributes := #[] }, { accessFlags := 25, nameIndex := 284, descriptorIndex := 25, attributes := #[] }, { accessFlags := 25, nameIndex := 286, descriptorIndex := 25, attributes := #[] }, { accessFlags := 25, nameIndex := 288, descriptorIndex := 25, attributes := #[] }, { accessFlags := 25, nameIndex := 290, descriptorIndex := 25, attributes := #[] }, { accessFlags := 25, nameIndex := 292, descriptorIndex := 25, attributes := #[] }, { accessFlags := 26, nameIndex := 108, descriptorIndex := 109, attributes := #[] }, { accessFlags := 25, nameIndex := 294, descriptorIndex := 25, attributes := #[] }])
  fields := #[{ name := "U", type := (.object "jdk/internal/misc/Unsafe"), accessFlags := 24, slot := 0, constantValue := 0 }, { name := "BIG_ENDIAN", type := .boolean, accessFlags := 26, slot := 1, constantValue := 0 }, { name := "LOG2_ARRAY_BOOLEAN_INDEX_SCALE", type := .int, accessFlags := 25, slot := 2, constantValue := 0 }, { name := "LOG2_ARRAY_BYTE_INDEX_SCALE", type := .int, accessFlags := 25, slot := 3, constantValue := 0 }, { name := "LOG2_ARRAY_CHAR_INDEX_SCALE", type := .int, accessFlags := 25, slot := 4, constantValue := 0 }, { name := "LOG2_ARRAY_SHORT_INDEX_SCALE", type := .int, accessFlags := 25, slot := 5, constantValue := 0 }, { name := "LOG2_ARRAY_INT_INDEX_SCALE", type := .int, accessFlags := 25, slot := 6, constantValue := 0 }, { name := "LOG2_ARRAY_LONG_INDEX_SCALE", type := .int, accessFlags := 25, slot := 7, constantValue := 0 }, { name := "LOG2_ARRAY_FLOAT_INDEX_SCALE", type := .int, accessFlags := 25, slot := 8, constantValue := 0 }, { name := "LOG2_ARRAY_DOUBLE_INDEX_SCALE", type := .int, accessFlags := 25, slot := 9, constantValue := 0 }, { name := "LOG2_BYTE_BIT_SIZE", type := .int, accessFlags := 26, slot := 10, constantValue := 0 }, { name := "T_BOOLEAN", type := .int, accessFlags := 25, slot := 11, constantValue := 0 }, { name := "T_CHAR", type := .int, accessFlags := 25, slot := 12, constantValue := 0 }, { name := "T_FLOAT", type := .int, accessFlags := 25, slot := 13, constantValue := 0 }, { name := "T_DOUBLE", type := .int, accessFlags := 25, slot := 14, constantValue := 0 }, { name := "T_BYTE", type := .int, accessFlags := 25, slot := 15, constantValue := 0 }, { name := "T_SHORT", type := .int, accessFlags := 25, slot := 16, constantValue := 0 }, { name := "T_INT", type := .int, accessFlags := 25, slot := 17, constantValue := 0 }, { name := "T_LONG", type := .int, accessFlags := 25, slot := 18, constantValue := 0 }, { name := "JLA", type := (.object "jdk/internal/access/JavaLangAccess"), accessFlags := 26, slot := 19, constantValue := 0 }, { name := "SOFT_MAX_ARRAY_LENGTH", type := .int, accessFlags := 25, slot := 20, constantValue := 0 }]
  methods := #[k20m0]
  instanceTypes := #[]
  staticTypes := #[(.object "jdk/internal/misc/Unsafe"), .boolean, .int, .int, .int, .int, .int, .int, .int, .int, .int, .int, .int, .int, .int, .int, .int, .int, .int, (.object "jdk/internal/access/JavaLangAccess"), .int]
  resolved := Array.replicate 378 none
  statics := none }

/-- the primitive byte -/
def k21 : Class := { plain "byte" none with kind := .primitive 'B', accessFlags := 0x411 }
/-- [B -/
def k22 : Class := { plain "[B" (some 0) with kind := .array 21 .byte, interfaces := #[13, 2], accessFlags := 1041 }

/-- the primitive char -/
def k23 : Class := { plain "char" none with kind := .primitive 'C', accessFlags := 0x411 }
/-- [C -/
def k24 : Class := { plain "[C" (some 0) with kind := .array 23 .char, interfaces := #[13, 2], accessFlags := 1041 }

/-- the primitive int -/
def k25 : Class := { plain "int" none with kind := .primitive 'I', accessFlags := 0x411 }
/-- [I -/
def k26 : Class := { plain "[I" (some 0) with kind := .array 25 .int, interfaces := #[13, 2], accessFlags := 1041 }

/-- the primitive long -/
def k27 : Class := { plain "long" none with kind := .primitive 'J', accessFlags := 0x411 }
/-- [J -/
def k28 : Class := { plain "[J" (some 0) with kind := .array 27 .long, interfaces := #[13, 2], accessFlags := 1041 }

def classes0 : Array Class := #[k0, k1, k2, k3, k4, k5, k6, k7, k8, k9, k10, k11, k12, k13, k14, k15, k16, k17, k18, k19, k20, k21, k22, k23, k24, k25, k26, k27, k28]
/-- the class that the rule has made for the site at 34 of com/example/portero/portero/matching/SegmentAutomaton.addSegments -/
def k29 : Class := Jvm.LamKit.madeRec { classes := classes0 } "com/example/portero/portero/matching/SegmentAutomaton" (Jvm.Lambda.Shape.mk "java/util/function/IntUnaryOperator" "applyAsInt" (Jvm.ClassFile.MethodDescriptor.mk ([Jvm.ClassFile.FieldType.int] : List Jvm.ClassFile.FieldType) (Option.some Jvm.ClassFile.FieldType.int)) ([] : List Jvm.ClassFile.FieldType) (6 : Nat) "com/example/portero/portero/matching/SegmentAutomaton" "lambda$addSegments$0" (Jvm.ClassFile.MethodDescriptor.mk ([Jvm.ClassFile.FieldType.int] : List Jvm.ClassFile.FieldType) (Option.some Jvm.ClassFile.FieldType.int)) false (Jvm.ClassFile.MethodDescriptor.mk ([Jvm.ClassFile.FieldType.int] : List Jvm.ClassFile.FieldType) (Option.some Jvm.ClassFile.FieldType.int))) 29

def heap : Heap := #[{ cls := 7, slots := #[.long 0, .int 1, .null, .int 0, .null, .int 0, .int 0], vm := .statics 7 },
  { cls := 18, slots := #[.null, .null, .null], vm := .statics 18 },
  { cls := 29, slots := #[], vm := .none }]
def classes : Array Class := #[k0, k1, k2, k3, k4, k5, k6, k7, k8, k9, k10, k11, k12, k13, k14, k15, k16, k17, k18, k19, k20, k21, k22, k23, k24, k25, k26, k27, k28, k29]
def interned : List (Array UInt16 × Addr) := []
def slotsUsed : Nat := 10
def theMethod : MethodId := ⟨1, 1⟩
def args0 : Array Value := #[.int 5, .int 6, .int 7, .int 11]
def aboutOver (below : List Frame) : State where
  vm := { classes := classes, interned := interned.toArray }
  heap := heap
  slotsUsed := slotsUsed
  threads := #[{ frames := .invoking theMethod args0 :: below }]
def below0 : List Frame := [.native { method := ⟨0, 0⟩, args := #[] }]
def about1 : State := aboutOver below0
def p0 : Program := .bare "" "" ""
def e0 : Env := launch0.env 0 0 0
theorem w_frames : about1.frames = Frame.invoking theMethod args0 :: below0 := rfl
set_option maxRecDepth 65536 in
theorem w_args : argsFit about1.vm theMethod args0 = true := by decide +kernel
set_option maxRecDepth 65536 in
theorem w_heap : heapFits about1 = true := by decide +kernel
set_option maxRecDepth 65536 in
theorem w_runnable : about1.curStatus? = some .runnable := by decide +kernel
set_option maxRecDepth 65536 in
theorem w_alone : about1.alone = true := by decide +kernel
set_option maxRecDepth 65536 in
theorem w_named : about1.methodNamed? x = some theMethod := by decide +kernel
set_option maxRecDepth 65536 in
theorem w_hears : about1.hears theMethod below0 = true := by decide +kernel
set_option maxRecDepth 65536 in
theorem w_ripe : about1.ripe theMethod args0 below0 = true := by decide +kernel
theorem w_running : about1.status = .running := rfl
set_option maxRecDepth 65536 in
theorem w_room : about1.hasRoom e0.platform room_1 = true :=
  launch0.hasRoom_least _ room_1 (by decide +kernel) (by decide +kernel) (by decide +kernel) (by decide +kernel) (by decide +kernel) (by decide +kernel)
theorem allAtoms_all (ts : List Jvm.Cond) (a : Array Jvm.Value) (st : Jvm.State) : (allAtoms ts).before a st = ts.all (fun c => c.before a st) := by
  induction ts with
  | nil => rfl
  | cons c t ih =>
    show (Jvm.Cond.and c (allAtoms t)).before a st = _
    rw [Jvm.Cond.before_and, ih, List.all_cons]
def words1 : List Jvm.Cond := Jvm.Cond.code x code maxLocals ret :: tables_1
/-- a 'code' word, met by the world's own term for the bytes: nothing is compared byte by byte -/
theorem code_word {y : MethodName} {bytes : ByteArray} {mx : Nat} {rt : Option FieldType} {a : Array Value} {s : State} {m : MethodId} {meth : Method} {c : Code} (h1 : s.methodNamed? y = some m) (h2 : s.vm.method? m = some meth) (h3 : meth.code = some c) (h4 : c.code = bytes)
    (h5 : (c.maxLocals == mx && c.exceptionTable.isEmpty && decide (c.maxStack ≤ mostOperands) && decide (meth.sig.returnType = rt) && !meth.locks && decide (parseMethodDescriptor y.desc = some meth.sig)) = true) : (Jvm.Cond.code y bytes mx rt).before a s = true := by
  simp only [Bool.and_eq_true, beq_iff_eq, Bool.not_eq_true', decide_eq_true_eq] at h5
  obtain ⟨⟨⟨⟨⟨g1, g2⟩, g3⟩, g4⟩, g5⟩, g6⟩ := h5
  simp [Cond.before, Cond.holds, Cond.value, h1, h2, h3, h4, g1, g2, g3, g4, g5, g6]
def isCode : Jvm.Cond → Bool
  | .code _ _ _ _ => true
  | _ => false
theorem all_split {L : List Jvm.Cond} {P : Jvm.Cond → Bool} (h1 : L.all (fun c => isCode c || P c) = true) (h2 : ∀ c ∈ L.filter isCode, P c = true) : L.all P = true := by
  refine List.all_eq_true.mpr fun c hc => ?_
  have h := List.all_eq_true.mp h1 c hc
  rcases Bool.eq_false_or_eq_true (isCode c) with hi | hi
  · exact h2 c (List.mem_filter.mpr ⟨hc, hi⟩)
  · simpa [hi] using h
set_option maxRecDepth 65536 in
theorem w_c0 : (Jvm.Cond.code x code maxLocals ret).before args0 about1 = true := code_word (m := ⟨1, 1⟩) (meth := k1m1) (c := k1c1) (by decide +kernel) rfl rfl rfl (by decide +kernel)
set_option maxRecDepth 65536 in
theorem w_c1 : (Jvm.Cond.code ({ cls := "com/example/portero/portero/matching/SegmentAutomatonLongestMarkedPinLaw", name := "letter", desc := "(II)C" } : Jvm.MethodName) method_3_code (2 : Nat) (Option.some Jvm.ClassFile.FieldType.char)).before args0 about1 = true := code_word (m := ⟨1, 2⟩) (meth := k1m2) (c := k1c2) (by decide +kernel) rfl rfl rfl (by decide +kernel)
set_option maxRecDepth 65536 in
theorem w_c2 : (Jvm.Cond.code ({ cls := "java/lang/String", name := "<init>", desc := "([C)V" } : Jvm.MethodName) jdk_42_method_3_code (2 : Nat) (Option.none : Option Jvm.ClassFile.FieldType)).before args0 about1 = true := code_word (m := ⟨7, 1⟩) (meth := k7m1) (c := k7c1) (by decide +kernel) rfl rfl rfl (by decide +kernel)
set_option maxRecDepth 65536 in
theorem w_c3 : (Jvm.Cond.code ({ cls := "java/lang/String", name := "<init>", desc := "([CIILjava/lang/Void;)V" } : Jvm.MethodName) jdk_42_method_149_code (6 : Nat) (Option.none : Option Jvm.ClassFile.FieldType)).before args0 about1 = true := code_word (m := ⟨7, 3⟩) (meth := k7m3) (c := k7c3) (by decide +kernel) rfl rfl rfl (by decide +kernel)
set_option maxRecDepth 65536 in
theorem w_c4 : (Jvm.Cond.code ({ cls := "java/lang/Object", name := "<init>", desc := "()V" } : Jvm.MethodName) object_method_1_code (1 : Nat) (Option.none : Option Jvm.ClassFile.FieldType)).before args0 about1 = true := code_word (m := ⟨0, 0⟩) (meth := k0m0) (c := k0c0) (by decide +kernel) rfl rfl rfl (by decide +kernel)
set_option maxRecDepth 65536 in
theorem w_c5 : (Jvm.Cond.code ({ cls := "java/lang/StringUTF16", name := "compress", desc := "([CII)[B" } : Jvm.MethodName) jdk_52_method_16_code (6 : Nat) (Option.some (Jvm.ClassFile.FieldType.array Jvm.ClassFile.FieldType.byte))).before args0 about1 = true := code_word (m := ⟨8, 2⟩) (meth := k8m2) (c := k8c2) (by decide +kernel) rfl rfl rfl (by decide +kernel)
set_option maxRecDepth 65536 in
theorem w_c6 : (Jvm.Cond.code ({ cls := "java/lang/StringUTF16", name := "compress", desc := "([CI[BII)I" } : Jvm.MethodName) jdk_52_method_21_code (7 : Nat) (Option.some Jvm.ClassFile.FieldType.int)).before args0 about1 = true := code_word (m := ⟨8, 3⟩) (meth := k8m3) (c := k8c3) (by decide +kernel) rfl rfl rfl (by decide +kernel)
set_option maxRecDepth 65536 in
theorem w_c7 : (Jvm.Cond.code ({ cls := "java/lang/StringUTF16", name := "coderFromArrayLen", desc := "([BI)B" } : Jvm.MethodName) jdk_52_method_15_code (2 : Nat) (Option.some Jvm.ClassFile.FieldType.byte)).before args0 about1 = true := code_word (m := ⟨8, 1⟩) (meth := k8m1) (c := k8c1) (by decide +kernel) rfl rfl rfl (by decide +kernel)
set_option maxRecDepth 65536 in
theorem w_c8 : (Jvm.Cond.code ({ cls := "com/example/portero/portero/matching/SegmentAutomaton", name := "<init>", desc := "(Ljava/lang/String;[I[II)V" } : Jvm.MethodName) prog_23_method_1_code (9 : Nat) (Option.none : Option Jvm.ClassFile.FieldType)).before args0 about1 = true := code_word (m := ⟨9, 0⟩) (meth := k9m0) (c := k9c0) (by decide +kernel) rfl rfl rfl (by decide +kernel)
set_option maxRecDepth 65536 in
theorem w_c9 : (Jvm.Cond.code ({ cls := "java/lang/Integer", name := "numberOfLeadingZeros", desc := "(I)I" } : Jvm.MethodName) jdk_33_method_47_code (2 : Nat) (Option.some Jvm.ClassFile.FieldType.int)).before args0 about1 = true := code_word (m := ⟨11, 1⟩) (meth := k11m1) (c := k11c1) (by decide +kernel) rfl rfl rfl (by decide +kernel)
set_option maxRecDepth 65536 in
theorem w_c10 : (Jvm.Cond.code ({ cls := "java/util/Arrays", name := "fill", desc := "([JJ)V" } : Jvm.MethodName) jdk_65_method_101_code (5 : Nat) (Option.none : Option Jvm.ClassFile.FieldType)).before args0 about1 = true := code_word (m := ⟨12, 1⟩) (meth := k12m1) (c := k12c1) (by decide +kernel) rfl rfl rfl (by decide +kernel)
set_option maxRecDepth 65536 in
theorem w_c11 : (Jvm.Cond.code ({ cls := "com/example/portero/portero/matching/SegmentAutomaton", name := "addSegments", desc := "(Ljava/lang/String;[I[II[I)I" } : Jvm.MethodName) prog_23_method_8_code (20 : Nat) (Option.some Jvm.ClassFile.FieldType.int)).before args0 about1 = true := code_word (m := ⟨9, 5⟩) (meth := k9m5) (c := k9c5) (by decide +kernel) rfl rfl rfl (by decide +kernel)
set_option maxRecDepth 65536 in
theorem w_c12 : (Jvm.Cond.code ({ cls := "java/util/Arrays", name := "copyOf", desc := "([II)[I" } : Jvm.MethodName) jdk_65_method_123_code (3 : Nat) (Option.some (Jvm.ClassFile.FieldType.array Jvm.ClassFile.FieldType.int))).before args0 about1 = true := code_word (m := ⟨12, 3⟩) (meth := k12m3) (c := k12c3) (by decide +kernel) rfl rfl rfl (by decide +kernel)
set_option maxRecDepth 65536 in
theorem w_c13 : (Jvm.Cond.code ({ cls := "java/util/Arrays", name := "setAll", desc := "([ILjava/util/function/IntUnaryOperator;)V" } : Jvm.MethodName) jdk_65_method_175_code (3 : Nat) (Option.none : Option Jvm.ClassFile.FieldType)).before args0 about1 = true := code_word (m := ⟨12, 4⟩) (meth := k12m4) (c := k12c4) (by decide +kernel) rfl rfl rfl (by decide +kernel)
set_option maxRecDepth 65536 in
theorem w_c14 : (Jvm.Cond.code ({ cls := "java/util/Objects", name := "requireNonNull", desc := "(Ljava/lang/Object;)Ljava/lang/Object;" } : Jvm.MethodName) jdk_31_method_10_code (1 : Nat) (Option.some (Jvm.ClassFile.FieldType.object "java/lang/Object"))).before args0 about1 = true := code_word (m := ⟨15, 1⟩) (meth := k15m1) (c := k15c1) (by decide +kernel) rfl rfl rfl (by decide +kernel)
set_option maxRecDepth 65536 in
theorem w_c15 : (Jvm.Cond.code ({ cls := "com/example/portero/portero/matching/SegmentAutomaton", name := "lambda$addSegments$0", desc := "(I)I" } : Jvm.MethodName) prog_23_method_17_code (1 : Nat) (Option.some Jvm.ClassFile.FieldType.int)).before args0 about1 = true := code_word (m := ⟨9, 14⟩) (meth := k9m14) (c := k9c14) (by decide +kernel) rfl rfl rfl (by decide +kernel)
set_option maxRecDepth 65536 in
theorem w_c16 : (Jvm.Cond.code ({ cls := "com/example/portero/portero/matching/SegmentAutomaton", name := "symbol", desc := "(Ljava/lang/String;I)I" } : Jvm.MethodName) prog_23_method_16_code (2 : Nat) (Option.some Jvm.ClassFile.FieldType.int)).before args0 about1 = true := code_word (m := ⟨9, 13⟩) (meth := k9m13) (c := k9c13) (by decide +kernel) rfl rfl rfl (by decide +kernel)
set_option maxRecDepth 65536 in
theorem w_c17 : (Jvm.Cond.code ({ cls := "com/example/portero/portero/matching/PercentEncoding", name := "octetEnd", desc := "(Ljava/lang/String;I)I" } : Jvm.MethodName) prog_19_method_5_code (2 : Nat) (Option.some Jvm.ClassFile.FieldType.int)).before args0 about1 = true := code_word (m := ⟨16, 1⟩) (meth := k16m1) (c := k16c1) (by decide +kernel) rfl rfl rfl (by decide +kernel)
set_option maxRecDepth 65536 in
theorem w_c18 : (Jvm.Cond.code ({ cls := "java/lang/String", name := "charAt", desc := "(I)C" } : Jvm.MethodName) jdk_42_method_56_code (2 : Nat) (Option.some Jvm.ClassFile.FieldType.char)).before args0 about1 = true := code_word (m := ⟨7, 2⟩) (meth := k7m2) (c := k7c2) (by decide +kernel) rfl rfl rfl (by decide +kernel)
set_option maxRecDepth 65536 in
theorem w_c19 : (Jvm.Cond.code ({ cls := "java/lang/String", name := "isLatin1", desc := "()Z" } : Jvm.MethodName) jdk_42_method_154_code (1 : Nat) (Option.some Jvm.ClassFile.FieldType.boolean)).before args0 about1 = true := code_word (m := ⟨7, 4⟩) (meth := k7m4) (c := k7c4) (by decide +kernel) rfl rfl rfl (by decide +kernel)
set_option maxRecDepth 65536 in
theorem w_c20 : (Jvm.Cond.code ({ cls := "java/lang/StringLatin1", name := "charAt", desc := "([BI)C" } : Jvm.MethodName) jdk_43_method_2_code (2 : Nat) (Option.some Jvm.ClassFile.FieldType.char)).before args0 about1 = true := code_word (m := ⟨17, 1⟩) (meth := k17m1) (c := k17c1) (by decide +kernel) rfl rfl rfl (by decide +kernel)
set_option maxRecDepth 65536 in
theorem w_c21 : (Jvm.Cond.code ({ cls := "java/lang/String", name := "checkIndex", desc := "(II)V" } : Jvm.MethodName) jdk_42_method_155_code (2 : Nat) (Option.none : Option Jvm.ClassFile.FieldType)).before args0 about1 = true := code_word (m := ⟨7, 5⟩) (meth := k7m5) (c := k7c5) (by decide +kernel) rfl rfl rfl (by decide +kernel)
set_option maxRecDepth 65536 in
theorem w_c22 : (Jvm.Cond.code ({ cls := "jdk/internal/util/Preconditions", name := "checkIndex", desc := "(IILjava/util/function/BiFunction;)I" } : Jvm.MethodName) jdk_41_method_11_code (3 : Nat) (Option.some Jvm.ClassFile.FieldType.int)).before args0 about1 = true := code_word (m := ⟨18, 1⟩) (meth := k18m1) (c := k18c1) (by decide +kernel) rfl rfl rfl (by decide +kernel)
set_option maxRecDepth 65536 in
theorem w_c23 : (Jvm.Cond.code ({ cls := "com/example/portero/portero/matching/SegmentAutomaton", name := "target", desc := "(II)I" } : Jvm.MethodName) prog_23_method_13_code (6 : Nat) (Option.some Jvm.ClassFile.FieldType.int)).before args0 about1 = true := code_word (m := ⟨9, 10⟩) (meth := k9m10) (c := k9c10) (by decide +kernel) rfl rfl rfl (by decide +kernel)
set_option maxRecDepth 65536 in
theorem w_c24 : (Jvm.Cond.code ({ cls := "com/example/portero/portero/matching/SegmentAutomaton", name := "slot", desc := "(J)I" } : Jvm.MethodName) prog_23_method_15_code (3 : Nat) (Option.some Jvm.ClassFile.FieldType.int)).before args0 about1 = true := code_word (m := ⟨9, 12⟩) (meth := k9m12) (c := k9c12) (by decide +kernel) rfl rfl rfl (by decide +kernel)
set_option maxRecDepth 65536 in
theorem w_c25 : (Jvm.Cond.code ({ cls := "com/example/portero/portero/matching/SegmentAutomaton", name := "addEdge", desc := "(III)V" } : Jvm.MethodName) prog_23_method_14_code (7 : Nat) (Option.none : Option Jvm.ClassFile.FieldType)).before args0 about1 = true := code_word (m := ⟨9, 11⟩) (meth := k9m11) (c := k9c11) (by decide +kernel) rfl rfl rfl (by decide +kernel)
set_option maxRecDepth 65536 in
theorem w_c26 : (Jvm.Cond.code ({ cls := "com/example/portero/portero/matching/SegmentAutomaton", name := "walkTreeOfWords", desc := "([II)V" } : Jvm.MethodName) prog_23_method_9_code (11 : Nat) (Option.none : Option Jvm.ClassFile.FieldType)).before args0 about1 = true := code_word (m := ⟨9, 6⟩) (meth := k9m6) (c := k9c6) (by decide +kernel) rfl rfl rfl (by decide +kernel)
set_option maxRecDepth 65536 in
theorem w_c27 : (Jvm.Cond.code ({ cls := "java/util/Arrays", name := "fill", desc := "([II)V" } : Jvm.MethodName) jdk_65_method_103_code (4 : Nat) (Option.none : Option Jvm.ClassFile.FieldType)).before args0 about1 = true := code_word (m := ⟨12, 2⟩) (meth := k12m2) (c := k12c2) (by decide +kernel) rfl rfl rfl (by decide +kernel)
set_option maxRecDepth 65536 in
theorem w_c28 : (Jvm.Cond.code ({ cls := "java/lang/Math", name := "max", desc := "(II)I" } : Jvm.MethodName) jdk_29_method_65_code (2 : Nat) (Option.some Jvm.ClassFile.FieldType.int)).before args0 about1 = true := code_word (m := ⟨19, 1⟩) (meth := k19m1) (c := k19c1) (by decide +kernel) rfl rfl rfl (by decide +kernel)
set_option maxRecDepth 65536 in
theorem w_c29 : (Jvm.Cond.code ({ cls := "java/lang/Integer", name := "highestOneBit", desc := "(I)I" } : Jvm.MethodName) jdk_33_method_45_code (1 : Nat) (Option.some Jvm.ClassFile.FieldType.int)).before args0 about1 = true := code_word (m := ⟨11, 0⟩) (meth := k11m0) (c := k11c0) (by decide +kernel) rfl rfl rfl (by decide +kernel)
set_option maxRecDepth 65536 in
theorem w_c30 : (Jvm.Cond.code ({ cls := "com/example/portero/portero/matching/SegmentAutomaton", name := "word", desc := "(I)I" } : Jvm.MethodName) prog_23_method_3_code (2 : Nat) (Option.some Jvm.ClassFile.FieldType.int)).before args0 about1 = true := code_word (m := ⟨9, 1⟩) (meth := k9m1) (c := k9c1) (by decide +kernel) rfl rfl rfl (by decide +kernel)
set_option maxRecDepth 65536 in
theorem w_c31 : (Jvm.Cond.code ({ cls := "com/example/portero/portero/matching/SegmentAutomaton", name := "mark", desc := "(IZ)V" } : Jvm.MethodName) prog_23_method_5_code (4 : Nat) (Option.none : Option Jvm.ClassFile.FieldType)).before args0 about1 = true := code_word (m := ⟨9, 3⟩) (meth := k9m3) (c := k9c3) (by decide +kernel) rfl rfl rfl (by decide +kernel)
set_option maxRecDepth 65536 in
theorem w_c32 : (Jvm.Cond.code ({ cls := "com/example/portero/portero/matching/SegmentAutomaton", name := "read", desc := "(ILjava/lang/String;I)I" } : Jvm.MethodName) prog_23_method_4_code (4 : Nat) (Option.some Jvm.ClassFile.FieldType.int)).before args0 about1 = true := code_word (m := ⟨9, 2⟩) (meth := k9m2) (c := k9c2) (by decide +kernel) rfl rfl rfl (by decide +kernel)
set_option maxRecDepth 65536 in
theorem w_c33 : (Jvm.Cond.code ({ cls := "com/example/portero/portero/matching/SegmentAutomaton", name := "next", desc := "(II)I" } : Jvm.MethodName) prog_23_method_12_code (5 : Nat) (Option.some Jvm.ClassFile.FieldType.int)).before args0 about1 = true := code_word (m := ⟨9, 9⟩) (meth := k9m9) (c := k9c9) (by decide +kernel) rfl rfl rfl (by decide +kernel)
set_option maxRecDepth 65536 in
theorem w_c34 : (Jvm.Cond.code ({ cls := "com/example/portero/portero/matching/SegmentAutomatonLongestMarkedPinLaw", name := "isSuffix", desc := "([CII[CI)Z" } : Jvm.MethodName) method_4_code (6 : Nat) (Option.some Jvm.ClassFile.FieldType.boolean)).before args0 about1 = true := code_word (m := ⟨1, 3⟩) (meth := k1m3) (c := k1c3) (by decide +kernel) rfl rfl rfl (by decide +kernel)
set_option maxRecDepth 65536 in
theorem w_c35 : (Jvm.Cond.code ({ cls := "com/example/portero/portero/matching/SegmentAutomaton", name := "longestMarked", desc := "(I)I" } : Jvm.MethodName) prog_23_method_6_code (3 : Nat) (Option.some Jvm.ClassFile.FieldType.int)).before args0 about1 = true := code_word (m := ⟨9, 4⟩) (meth := k9m4) (c := k9c4) (by decide +kernel) rfl rfl rfl (by decide +kernel)
set_option maxRecDepth 65536 in
theorem w_c36 : (Jvm.Cond.code ({ cls := "com/example/portero/portero/matching/SegmentAutomaton", name := "markedAbove", desc := "(II)I" } : Jvm.MethodName) prog_23_method_10_code (4 : Nat) (Option.some Jvm.ClassFile.FieldType.int)).before args0 about1 = true := code_word (m := ⟨9, 7⟩) (meth := k9m7) (c := k9c7) (by decide +kernel) rfl rfl rfl (by decide +kernel)
set_option maxRecDepth 65536 in
theorem w_c37 : (Jvm.Cond.code ({ cls := "com/example/portero/portero/matching/SegmentAutomaton", name := "latestMarked", desc := "(IIIII)I" } : Jvm.MethodName) prog_23_method_11_code (8 : Nat) (Option.some Jvm.ClassFile.FieldType.int)).before args0 about1 = true := code_word (m := ⟨9, 8⟩) (meth := k9m8) (c := k9c8) (by decide +kernel) rfl rfl rfl (by decide +kernel)
def codes1 : List Jvm.Cond := [Jvm.Cond.code x code maxLocals ret, Jvm.Cond.code ({ cls := "com/example/portero/portero/matching/SegmentAutomatonLongestMarkedPinLaw", name := "letter", desc := "(II)C" } : Jvm.MethodName) method_3_code (2 : Nat) (Option.some Jvm.ClassFile.FieldType.char), Jvm.Cond.code ({ cls := "java/lang/String", name := "<init>", desc := "([C)V" } : Jvm.MethodName) jdk_42_method_3_code (2 : Nat) (Option.none : Option Jvm.ClassFile.FieldType), Jvm.Cond.code ({ cls := "java/lang/String", name := "<init>", desc := "([CIILjava/lang/Void;)V" } : Jvm.MethodName) jdk_42_method_149_code (6 : Nat) (Option.none : Option Jvm.ClassFile.FieldType), Jvm.Cond.code ({ cls := "java/lang/Object", name := "<init>", desc := "()V" } : Jvm.MethodName) object_method_1_code (1 : Nat) (Option.none : Option Jvm.ClassFile.FieldType), Jvm.Cond.code ({ cls := "java/lang/StringUTF16", name := "compress", desc := "([CII)[B" } : Jvm.MethodName) jdk_52_method_16_code (6 : Nat) (Option.some (Jvm.ClassFile.FieldType.array Jvm.ClassFile.FieldType.byte)), Jvm.Cond.code ({ cls := "java/lang/StringUTF16", name := "compress", desc := "([CI[BII)I" } : Jvm.MethodName) jdk_52_method_21_code (7 : Nat) (Option.some Jvm.ClassFile.FieldType.int), Jvm.Cond.code ({ cls := "java/lang/StringUTF16", name := "coderFromArrayLen", desc := "([BI)B" } : Jvm.MethodName) jdk_52_method_15_code (2 : Nat) (Option.some Jvm.ClassFile.FieldType.byte), Jvm.Cond.code ({ cls := "com/example/portero/portero/matching/SegmentAutomaton", name := "<init>", desc := "(Ljava/lang/String;[I[II)V" } : Jvm.MethodName) prog_23_method_1_code (9 : Nat) (Option.none : Option Jvm.ClassFile.FieldType), Jvm.Cond.code ({ cls := "java/lang/Integer", name := "numberOfLeadingZeros", desc := "(I)I" } : Jvm.MethodName) jdk_33_method_47_code (2 : Nat) (Option.some Jvm.ClassFile.FieldType.int), Jvm.Cond.code ({ cls := "java/util/Arrays", name := "fill", desc := "([JJ)V" } : Jvm.MethodName) jdk_65_method_101_code (5 : Nat) (Option.none : Option Jvm.ClassFile.FieldType), Jvm.Cond.code ({ cls := "com/example/portero/portero/matching/SegmentAutomaton", name := "addSegments", desc := "(Ljava/lang/String;[I[II[I)I" } : Jvm.MethodName) prog_23_method_8_code (20 : Nat) (Option.some Jvm.ClassFile.FieldType.int), Jvm.Cond.code ({ cls := "java/util/Arrays", name := "copyOf", desc := "([II)[I" } : Jvm.MethodName) jdk_65_method_123_code (3 : Nat) (Option.some (Jvm.ClassFile.FieldType.array Jvm.ClassFile.FieldType.int)), Jvm.Cond.code ({ cls := "java/util/Arrays", name := "setAll", desc := "([ILjava/util/function/IntUnaryOperator;)V" } : Jvm.MethodName) jdk_65_method_175_code (3 : Nat) (Option.none : Option Jvm.ClassFile.FieldType), Jvm.Cond.code ({ cls := "java/util/Objects", name := "requireNonNull", desc := "(Ljava/lang/Object;)Ljava/lang/Object;" } : Jvm.MethodName) jdk_31_method_10_code (1 : Nat) (Option.some (Jvm.ClassFile.FieldType.object "java/lang/Object")), Jvm.Cond.code ({ cls := "com/example/portero/portero/matching/SegmentAutomaton", name := "lambda$addSegments$0", desc := "(I)I" } : Jvm.MethodName) prog_23_method_17_code (1 : Nat) (Option.some Jvm.ClassFile.FieldType.int), Jvm.Cond.code ({ cls := "com/example/portero/portero/matching/SegmentAutomaton", name := "symbol", desc := "(Ljava/lang/String;I)I" } : Jvm.MethodName) prog_23_method_16_code (2 : Nat) (Option.some Jvm.ClassFile.FieldType.int), Jvm.Cond.code ({ cls := "com/example/portero/portero/matching/PercentEncoding", name := "octetEnd", desc := "(Ljava/lang/String;I)I" } : Jvm.MethodName) prog_19_method_5_code (2 : Nat) (Option.some Jvm.ClassFile.FieldType.int), Jvm.Cond.code ({ cls := "java/lang/String", name := "charAt", desc := "(I)C" } : Jvm.MethodName) jdk_42_method_56_code (2 : Nat) (Option.some Jvm.ClassFile.FieldType.char), Jvm.Cond.code ({ cls := "java/lang/String", name := "isLatin1", desc := "()Z" } : Jvm.MethodName) jdk_42_method_154_code (1 : Nat) (Option.some Jvm.ClassFile.FieldType.boolean), Jvm.Cond.code ({ cls := "java/lang/StringLatin1", name := "charAt", desc := "([BI)C" } : Jvm.MethodName) jdk_43_method_2_code (2 : Nat) (Option.some Jvm.ClassFile.FieldType.char), Jvm.Cond.code ({ cls := "java/lang/String", name := "checkIndex", desc := "(II)V" } : Jvm.MethodName) jdk_42_method_155_code (2 : Nat) (Option.none : Option Jvm.ClassFile.FieldType), Jvm.Cond.code ({ cls := "jdk/internal/util/Preconditions", name := "checkIndex", desc := "(IILjava/util/function/BiFunction;)I" } : Jvm.MethodName) jdk_41_method_11_code (3 : Nat) (Option.some Jvm.ClassFile.FieldType.int), Jvm.Cond.code ({ cls := "com/example/portero/portero/matching/SegmentAutomaton", name := "target", desc := "(II)I" } : Jvm.MethodName) prog_23_method_13_code (6 : Nat) (Option.some Jvm.ClassFile.FieldType.int), Jvm.Cond.code ({ cls := "com/example/portero/portero/matching/SegmentAutomaton", name := "slot", desc := "(J)I" } : Jvm.MethodName) prog_23_method_15_code (3 : Nat) (Option.some Jvm.ClassFile.FieldType.int), Jvm.Cond.code ({ cls := "com/example/portero/portero/matching/SegmentAutomaton", name := "addEdge", desc := "(III)V" } : Jvm.MethodName) prog_23_method_14_code (7 : Nat) (Option.none : Option Jvm.ClassFile.FieldType), Jvm.Cond.code ({ cls := "com/example/portero/portero/matching/SegmentAutomaton", name := "walkTreeOfWords", desc := "([II)V" } : Jvm.MethodName) prog_23_method_9_code (11 : Nat) (Option.none : Option Jvm.ClassFile.FieldType), Jvm.Cond.code ({ cls := "java/util/Arrays", name := "fill", desc := "([II)V" } : Jvm.MethodName) jdk_65_method_103_code (4 : Nat) (Option.none : Option Jvm.ClassFile.FieldType), Jvm.Cond.code ({ cls := "java/lang/Math", name := "max", desc := "(II)I" } : Jvm.MethodName) jdk_29_method_65_code (2 : Nat) (Option.some Jvm.ClassFile.FieldType.int), Jvm.Cond.code ({ cls := "java/lang/Integer", name := "highestOneBit", desc := "(I)I" } : Jvm.MethodName) jdk_33_method_45_code (1 : Nat) (Option.some Jvm.ClassFile.FieldType.int), Jvm.Cond.code ({ cls := "com/example/portero/portero/matching/SegmentAutomaton", name := "word", desc := "(I)I" } : Jvm.MethodName) prog_23_method_3_code (2 : Nat) (Option.some Jvm.ClassFile.FieldType.int), Jvm.Cond.code ({ cls := "com/example/portero/portero/matching/SegmentAutomaton", name := "mark", desc := "(IZ)V" } : Jvm.MethodName) prog_23_method_5_code (4 : Nat) (Option.none : Option Jvm.ClassFile.FieldType), Jvm.Cond.code ({ cls := "com/example/portero/portero/matching/SegmentAutomaton", name := "read", desc := "(ILjava/lang/String;I)I" } : Jvm.MethodName) prog_23_method_4_code (4 : Nat) (Option.some Jvm.ClassFile.FieldType.int), Jvm.Cond.code ({ cls := "com/example/portero/portero/matching/SegmentAutomaton", name := "next", desc := "(II)I" } : Jvm.MethodName) prog_23_method_12_code (5 : Nat) (Option.some Jvm.ClassFile.FieldType.int), Jvm.Cond.code ({ cls := "com/example/portero/portero/matching/SegmentAutomatonLongestMarkedPinLaw", name := "isSuffix", desc := "([CII[CI)Z" } : Jvm.MethodName) method_4_code (6 : Nat) (Option.some Jvm.ClassFile.FieldType.boolean), Jvm.Cond.code ({ cls := "com/example/portero/portero/matching/SegmentAutomaton", name := "longestMarked", desc := "(I)I" } : Jvm.MethodName) prog_23_method_6_code (3 : Nat) (Option.some Jvm.ClassFile.FieldType.int), Jvm.Cond.code ({ cls := "com/example/portero/portero/matching/SegmentAutomaton", name := "markedAbove", desc := "(II)I" } : Jvm.MethodName) prog_23_method_10_code (4 : Nat) (Option.some Jvm.ClassFile.FieldType.int), Jvm.Cond.code ({ cls := "com/example/portero/portero/matching/SegmentAutomaton", name := "latestMarked", desc := "(IIIII)I" } : Jvm.MethodName) prog_23_method_11_code (8 : Nat) (Option.some Jvm.ClassFile.FieldType.int)]
set_option maxRecDepth 65536 in
theorem codes_eq : words1.filter isCode = codes1 := rfl
theorem w_codes : ∀ c ∈ words1.filter isCode, c.before args0 about1 = true := by
  rw [codes_eq]
  intro c hc
  simp only [codes1, List.mem_cons, List.not_mem_nil, or_false] at hc
  rcases hc with rfl | rfl | rfl | rfl | rfl | rfl | rfl | rfl | rfl | rfl | rfl | rfl | rfl | rfl | rfl | rfl | rfl | rfl | rfl | rfl | rfl | rfl | rfl | rfl | rfl | rfl | rfl | rfl | rfl | rfl | rfl | rfl | rfl | rfl | rfl | rfl | rfl | rfl
  · exact w_c0
  · exact w_c1
  · exact w_c2
  · exact w_c3
  · exact w_c4
  · exact w_c5
  · exact w_c6
  · exact w_c7
  · exact w_c8
  · exact w_c9
  · exact w_c10
  · exact w_c11
  · exact w_c12
  · exact w_c13
  · exact w_c14
  · exact w_c15
  · exact w_c16
  · exact w_c17
  · exact w_c18
  · exact w_c19
  · exact w_c20
  · exact w_c21
  · exact w_c22
  · exact w_c23
  · exact w_c24
  · exact w_c25
  · exact w_c26
  · exact w_c27
  · exact w_c28
  · exact w_c29
  · exact w_c30
  · exact w_c31
  · exact w_c32
  · exact w_c33
  · exact w_c34
  · exact w_c35
  · exact w_c36
  · exact w_c37
set_option maxRecDepth 65536 in
theorem w_t1 : (words1.take 24).all (fun c => isCode c || c.before args0 about1) = true := by decide +kernel
set_option maxRecDepth 65536 in
theorem w_t2 : ((words1.drop 24).take 24).all (fun c => isCode c || c.before args0 about1) = true := by decide +kernel
set_option maxRecDepth 65536 in
theorem w_t3 : (((words1.drop 24).drop 24).take 24).all (fun c => isCode c || c.before args0 about1) = true := by decide +kernel
set_option maxRecDepth 65536 in
theorem w_t4 : ((((words1.drop 24).drop 24).drop 24).take 24).all (fun c => isCode c || c.before args0 about1) = true := by decide +kernel
set_option maxRecDepth 65536 in
theorem w_t5 : (((((words1.drop 24).drop 24).drop 24).drop 24).take 24).all (fun c => isCode c || c.before args0 about1) = true := by decide +kernel
set_option maxRecDepth 65536 in
theorem w_t6 : ((((((words1.drop 24).drop 24).drop 24).drop 24).drop 24).take 24).all (fun c => isCode c || c.before args0 about1) = true := by decide +kernel
set_option maxRecDepth 65536 in
theorem w_t7 : (((((((words1.drop 24).drop 24).drop 24).drop 24).drop 24).drop 24).take 24).all (fun c => isCode c || c.before args0 about1) = true := by decide +kernel
set_option maxRecDepth 65536 in
theorem w_t8 : ((((((((words1.drop 24).drop 24).drop 24).drop 24).drop 24).drop 24).drop 24).take 24).all (fun c => isCode c || c.before args0 about1) = true := by decide +kernel
set_option maxRecDepth 65536 in
theorem w_t9 : ((((((((words1.drop 24).drop 24).drop 24).drop 24).drop 24).drop 24).drop 24).drop 24).all (fun c => isCode c || c.before args0 about1) = true := by decide +kernel
theorem w_tables : (allAtoms (Jvm.Cond.code x code maxLocals ret :: tables_1)).before args0 about1 = true := by
  rw [allAtoms_all]
  show words1.all (fun c => c.before args0 about1) = true
  refine all_split ?_ w_codes
  rw [← List.take_append_drop 24 words1, List.all_append, w_t1, ← List.take_append_drop 24 (words1.drop 24), List.all_append, w_t2, ← List.take_append_drop 24 ((words1.drop 24).drop 24), List.all_append, w_t3, ← List.take_append_drop 24 (((words1.drop 24).drop 24).drop 24), List.all_append, w_t4, ← List.take_append_drop 24 ((((words1.drop 24).drop 24).drop 24).drop 24), List.all_append, w_t5, ← List.take_append_drop 24 (((((words1.drop 24).drop 24).drop 24).drop 24).drop 24), List.all_append, w_t6, ← List.take_append_drop 24 ((((((words1.drop 24).drop 24).drop 24).drop 24).drop 24).drop 24), List.all_append, w_t7, ← List.take_append_drop 24 (((((((words1.drop 24).drop 24).drop 24).drop 24).drop 24).drop 24).drop 24), List.all_append, w_t8, w_t9]
  rfl
set_option maxRecDepth 65536 in
theorem w_rest : rest_1_c.before args0 about1 = true := by decide +kernel
set_option maxRecDepth 65536 in
theorem w_case : (Jvm.Cond.and given_1 narrow_1).before args0 about1 = true := by decide +kernel
theorem w_applies : (headSpec (Jvm.Cond.code x code maxLocals ret :: tables_1) room_1).applies x e0.platform about1 = true :=
  (Spec.applies_iff w_frames).mpr ⟨w_running, w_runnable, w_alone, w_named, w_hears, w_ripe, w_room, w_tables⟩
theorem atStart : AtStart classFile x code maxLocals ret World_1 tables_1 room_1 Calls_1 rest_1 Pre_1 launch0 p0 e0 about1 theMethod args0 below0 :=
  ⟨lists_1, trivial, launch0.admits_env _ _ _, launch0.least_env, fairChoices_fair.cas, fairChoices_fair.clock, w_frames, w_args, w_heap, w_applies, trivial, w_rest, w_case⟩
end start1
theorem witness_1 : WitnessClaimed_1 := ⟨start1.p0, start1.e0, start1.about1, start1.theMethod, start1.args0, start1.below0, start1.atStart⟩
end Jvm.Pilot.@@N@@
